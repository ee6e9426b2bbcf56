import PyProof.Rows.All
import Wide.All
import OpenK.AllK
import Wide.FinOn
import PyProof.MinMaxWalk
import PyProof.EqAt
import PyProof.NeKinds
import PyProof.IsiH_list
import PyProof.WalkInts
import PyProof.P3In
import PyProof.ZipIter
import PyProof.Rows.StrClose
import PyProof.Rows.StrSplitMax
import PyProof.Rows.StrInSeq3
import PyProof.Rows.StrLast
import PyProof.TupleOfGen
import PyProof.SetRoads
import Lean
import PySem.Challenge.RW_ik0124_01
set_option Elab.async false
set_option compiler.extract_closed false
local macro_rules | `(tactic| walk_at $s:str) => `(tactic| k_extra $s)
section
open PySem PySem.W PyProof.Rows
set_option maxRecDepth 100000
set_option maxHeartbeats 0
namespace Mine
/- The kit's head lays a twin with a long proof for each constant of its own; where the twin's name is taken it goes on without: the compiled file shrinks from 35 to 7 MiB. -/
theorem same0 : @PySem.Manifest.find? = @PySem.Manifest.find? := rfl
name_quick tw8075568018651887793 for PySem.Manifest.find? by same0
name_quick tw5357591511691535388 for PySem.Manifest.find? by same0
name_quick tw6733733256287894996 for PySem.Manifest.find? by same0
name_quick tw1419584287304726841 for PySem.Manifest.find? by same0
name_quick tw14979626087600564940 for PySem.Manifest.find? by same0
name_quick tw5556654987746848736 for PySem.Manifest.find? by same0
name_quick tw15974313266725837768 for PySem.Manifest.find? by same0
name_quick tw10753579090125970612 for PySem.Manifest.find? by same0
name_quick tw5731285843209492418 for PySem.Manifest.find? by same0
name_quick tw8478436911231091946 for PySem.Manifest.find? by same0
name_quick tw11186114360453789277 for PySem.Manifest.find? by same0
name_quick tw11277716924127702174 for PySem.Manifest.find? by same0
name_quick tw9862997608875712007 for PySem.Manifest.find? by same0
name_quick tw8537084889766193716 for PySem.Manifest.find? by same0
name_quick tw17207729816335089435 for PySem.Manifest.find? by same0
name_quick tw17428874351420789250 for PySem.Manifest.find? by same0
name_quick tw5189142188285759775 for PySem.Manifest.find? by same0
name_quick tw18260038339965228139 for PySem.Manifest.find? by same0
name_quick tw14326252917377295143 for PySem.Manifest.find? by same0
name_quick tw11543547407058413889 for PySem.Manifest.find? by same0
name_quick tw4679858250743294509 for PySem.Manifest.find? by same0
name_quick tw2364824441312284604 for PySem.Manifest.find? by same0
name_quick tw7378761846476686904 for PySem.Manifest.find? by same0
name_quick tw14971746577665755125 for PySem.Manifest.find? by same0
name_quick tw8897938508979226211 for PySem.Manifest.find? by same0
name_quick tw10944729642247514566 for PySem.Manifest.find? by same0
name_quick tw13729253559640862656 for PySem.Manifest.find? by same0
name_quick tw788995980369251910 for PySem.Manifest.find? by same0
name_quick tw9339011207650244144 for PySem.Manifest.find? by same0
name_quick tw7433093208181500128 for PySem.Manifest.find? by same0
name_quick tw5465617051466427057 for PySem.Manifest.find? by same0
name_quick tw387338674003428930 for PySem.Manifest.find? by same0
name_quick tw16414604833108395602 for PySem.Manifest.find? by same0
name_quick tw43969757491396457 for PySem.Manifest.find? by same0
name_quick tw6792406925840432001 for PySem.Manifest.find? by same0
name_quick tw13789449189825218787 for PySem.Manifest.find? by same0
name_quick tw505943868828395459 for PySem.Manifest.find? by same0
name_quick tw10938465397075749097 for PySem.Manifest.find? by same0
name_quick tw11853533878840232495 for PySem.Manifest.find? by same0
name_quick tw13640514254501968386 for PySem.Manifest.find? by same0
name_quick tw6654550962395885724 for PySem.Manifest.find? by same0
name_quick tw667198328695590252 for PySem.Manifest.find? by same0
name_quick tw15480198773659482676 for PySem.Manifest.find? by same0
name_quick tw18056578402003937789 for PySem.Manifest.find? by same0
name_quick tw2862820112641550484 for PySem.Manifest.find? by same0
name_quick tw16804044748790271530 for PySem.Manifest.find? by same0
name_quick tw14553827428707814869 for PySem.Manifest.find? by same0
name_quick tw4636218855388986860 for PySem.Manifest.find? by same0
name_quick tw4444965560193506482 for PySem.Manifest.find? by same0
name_quick tw11445135464325071761 for PySem.Manifest.find? by same0
name_quick tw5396446701170858492 for PySem.Manifest.find? by same0
name_quick tw17069979004554194336 for PySem.Manifest.find? by same0
name_quick tw14376985748213822385 for PySem.Manifest.find? by same0
name_quick tw4797165386629745026 for PySem.Manifest.find? by same0
name_quick tw3766158894648301139 for PySem.Manifest.find? by same0
name_quick tw5591276700874282246 for PySem.Manifest.find? by same0
name_quick tw9948023125614773506 for PySem.Manifest.find? by same0
name_quick tw15560500314895047343 for PySem.Manifest.find? by same0
name_quick tw11588390666370768167 for PySem.Manifest.find? by same0
name_quick tw7250012664060256230 for PySem.Manifest.find? by same0
name_quick tw4748654258956052638 for PySem.Manifest.find? by same0
name_quick tw682011567655089306 for PySem.Manifest.find? by same0
name_quick tw8703263022893421829 for PySem.Manifest.find? by same0
name_quick tw2567998274259142822 for PySem.Manifest.find? by same0
name_quick tw17212508698807437452 for PySem.Manifest.find? by same0
name_quick tw10942035263794033107 for PySem.Manifest.find? by same0
name_quick tw3442601649717412197 for PySem.Manifest.find? by same0
name_quick tw13512673800721320934 for PySem.Manifest.find? by same0
name_quick tw11130039905162102590 for PySem.Manifest.find? by same0
name_quick tw17000155066101142889 for PySem.Manifest.find? by same0
name_quick tw5150936880511922699 for PySem.Manifest.find? by same0
name_quick tw13336175834630783545 for PySem.Manifest.find? by same0
name_quick tw14060403864292698165 for PySem.Manifest.find? by same0
name_quick tw14714103240675001986 for PySem.Manifest.find? by same0
name_quick tw8603108125212654177 for PySem.Manifest.find? by same0
name_quick tw13335737130258781183 for PySem.Manifest.find? by same0
name_quick tw1258717718454355964 for PySem.Manifest.find? by same0
name_quick tw4552823106982906706 for PySem.Manifest.find? by same0
name_quick tw9908251947323293946 for PySem.Manifest.find? by same0
name_quick tw15766043655864335149 for PySem.Manifest.find? by same0
name_quick tw5032809538720368765 for PySem.Manifest.find? by same0
name_quick tw6711915476519705758 for PySem.Manifest.find? by same0
name_quick tw2354135333415324597 for PySem.Manifest.find? by same0
name_quick tw8753696776887207221 for PySem.Manifest.find? by same0
name_quick tw7026888358361353362 for PySem.Manifest.find? by same0
name_quick tw3698559305507148144 for PySem.Manifest.find? by same0
name_quick tw15742981410569661332 for PySem.Manifest.find? by same0
name_quick tw14073706353221006472 for PySem.Manifest.find? by same0
name_quick tw6380047634161181297 for PySem.Manifest.find? by same0
name_quick tw11994158751524154303 for PySem.Manifest.find? by same0
name_quick tw2644678379406271605 for PySem.Manifest.find? by same0
name_quick tw13678640442995254988 for PySem.Manifest.find? by same0
name_quick tw17100903815162463580 for PySem.Manifest.find? by same0
name_quick tw6550987210724342151 for PySem.Manifest.find? by same0
name_quick tw3131671291697673992 for PySem.Manifest.find? by same0
name_quick tw11729385059970357855 for PySem.Manifest.find? by same0
name_quick tw12635813782599140982 for PySem.Manifest.find? by same0
name_quick tw11788150170368784547 for PySem.Manifest.find? by same0
name_quick tw16439824349840649037 for PySem.Manifest.find? by same0
name_quick tw15133509641930783078 for PySem.Manifest.find? by same0
name_quick tw6929956602132211858 for PySem.Manifest.find? by same0
name_quick tw2719445374943340272 for PySem.Manifest.find? by same0
name_quick tw662354867322794072 for PySem.Manifest.find? by same0
name_quick tw11625766737575182897 for PySem.Manifest.find? by same0
name_quick tw8860024209350480642 for PySem.Manifest.find? by same0
name_quick tw15278061642289888581 for PySem.Manifest.find? by same0
name_quick tw15263041282635125899 for PySem.Manifest.find? by same0
name_quick tw10063671712614023339 for PySem.Manifest.find? by same0
name_quick tw5076957145309523181 for PySem.Manifest.find? by same0
name_quick tw7496433998918960881 for PySem.Manifest.find? by same0
name_quick tw18211773271919218964 for PySem.Manifest.find? by same0
name_quick tw3619232141914619222 for PySem.Manifest.find? by same0
name_quick tw14535685388179086665 for PySem.Manifest.find? by same0
name_quick tw5978237884098788730 for PySem.Manifest.find? by same0
name_quick tw14023627001141898710 for PySem.Manifest.find? by same0
name_quick tw3282434896037501709 for PySem.Manifest.find? by same0
name_quick tw4302124980754421698 for PySem.Manifest.find? by same0
name_quick tw13236226663087606529 for PySem.Manifest.find? by same0
name_quick tw4011157648589011858 for PySem.Manifest.find? by same0
name_quick tw347637069881736656 for PySem.Manifest.find? by same0
name_quick tw13191295725559111208 for PySem.Manifest.find? by same0
name_quick tw17964007177503468958 for PySem.Manifest.find? by same0
name_quick tw9407582987413476825 for PySem.Manifest.find? by same0
name_quick tw1702518465993881591 for PySem.Manifest.find? by same0
name_quick tw16752143609539240740 for PySem.Manifest.find? by same0
name_quick tw13254397897704925713 for PySem.Manifest.find? by same0
name_quick tw4558998842232669794 for PySem.Manifest.find? by same0
name_quick tw11270796479367742343 for PySem.Manifest.find? by same0
name_quick tw6679490504615227074 for PySem.Manifest.find? by same0
name_quick tw10205541121877940668 for PySem.Manifest.find? by same0
name_quick tw3362959441861295915 for PySem.Manifest.find? by same0
name_quick tw17164873540382356111 for PySem.Manifest.find? by same0
name_quick tw10887116778572429059 for PySem.Manifest.find? by same0
name_quick tw1218959903707654005 for PySem.Manifest.find? by same0
name_quick tw12659028871203227004 for PySem.Manifest.find? by same0
name_quick tw15066959818950650227 for PySem.Manifest.find? by same0
name_quick tw12290603225136948437 for PySem.Manifest.find? by same0
name_quick tw5770868932273138760 for PySem.Manifest.find? by same0
name_quick tw16643706677886111943 for PySem.Manifest.find? by same0
name_quick tw7392212959928792091 for PySem.Manifest.find? by same0
name_quick tw5268983451555188008 for PySem.Manifest.find? by same0
name_quick tw16741492637210864865 for PySem.Manifest.find? by same0
name_quick tw2611137233208623240 for PySem.Manifest.find? by same0
name_quick tw15007238320947547705 for PySem.Manifest.find? by same0
name_quick tw15490439104401381959 for PySem.Manifest.find? by same0
name_quick tw16846860572762119324 for PySem.Manifest.find? by same0
name_quick tw951843321253372498 for PySem.Manifest.find? by same0
name_quick tw7581352650102555174 for PySem.Manifest.find? by same0
name_quick tw2408619945344806742 for PySem.Manifest.find? by same0
name_quick tw4933834842325187142 for PySem.Manifest.find? by same0
name_quick tw7721631327575515661 for PySem.Manifest.find? by same0
name_quick tw11964429278604863157 for PySem.Manifest.find? by same0
name_quick tw18345786424863182364 for PySem.Manifest.find? by same0
name_quick tw10073347824450446311 for PySem.Manifest.find? by same0
name_quick tw13145125596335152023 for PySem.Manifest.find? by same0
name_quick tw2478078296215019888 for PySem.Manifest.find? by same0
name_quick tw18101931140130867144 for PySem.Manifest.find? by same0
name_quick tw976971711843200656 for PySem.Manifest.find? by same0
name_quick tw392140993173905013 for PySem.Manifest.find? by same0
name_quick tw5200128776193632040 for PySem.Manifest.find? by same0
name_quick tw10948738476641704880 for PySem.Manifest.find? by same0
name_quick tw1092655722715705105 for PySem.Manifest.find? by same0
name_quick tw17888162413812561239 for PySem.Manifest.find? by same0
name_quick tw6817277305950994716 for PySem.Manifest.find? by same0
name_quick tw9136488742655976645 for PySem.Manifest.find? by same0
name_quick tw14108194823987119177 for PySem.Manifest.find? by same0
name_quick tw9594665118957945026 for PySem.Manifest.find? by same0
name_quick tw2334299552400917057 for PySem.Manifest.find? by same0
name_quick tw10010936943081839664 for PySem.Manifest.find? by same0
name_quick tw15919542637913265678 for PySem.Manifest.find? by same0
name_quick tw12233582284571471492 for PySem.Manifest.find? by same0
name_quick tw9787463984185863102 for PySem.Manifest.find? by same0
name_quick tw5902227825499142635 for PySem.Manifest.find? by same0
name_quick tw3636048126100218174 for PySem.Manifest.find? by same0
name_quick tw16531745337717519161 for PySem.Manifest.find? by same0
name_quick tw17730428716208468724 for PySem.Manifest.find? by same0
name_quick tw17476080006546285661 for PySem.Manifest.find? by same0
name_quick tw16049961110935095269 for PySem.Manifest.find? by same0
name_quick tw17975652961387846372 for PySem.Manifest.find? by same0
name_quick tw151948405760981731 for PySem.Manifest.find? by same0
name_quick tw18340240734955500558 for PySem.Manifest.find? by same0
name_quick tw1355338860687761863 for PySem.Manifest.find? by same0
name_quick tw15663404670287596823 for PySem.Manifest.find? by same0
name_quick tw4980102563643897964 for PySem.Manifest.find? by same0
name_quick tw7275051467321613617 for PySem.Manifest.find? by same0
name_quick tw5882768191206486792 for PySem.Manifest.find? by same0
name_quick tw14223099787259518943 for PySem.Manifest.find? by same0
name_quick tw14311459727803291754 for PySem.Manifest.find? by same0
name_quick tw17000458434675057986 for PySem.Manifest.find? by same0
name_quick tw7892128664451923741 for PySem.Manifest.find? by same0
name_quick tw9976185976690106402 for PySem.Manifest.find? by same0
name_quick tw14835031987185405703 for PySem.Manifest.find? by same0
name_quick tw10424941004445345732 for PySem.Manifest.find? by same0
name_quick tw10323183001455561277 for PySem.Manifest.find? by same0
name_quick tw18416463498863911781 for PySem.Manifest.find? by same0
name_quick tw12866136484021002089 for PySem.Manifest.find? by same0
name_quick tw1962928258387122110 for PySem.Manifest.find? by same0
name_quick tw8693227569615203950 for PySem.Manifest.find? by same0
name_quick tw9315938663221665524 for PySem.Manifest.find? by same0
name_quick tw16018607276475445134 for PySem.Manifest.find? by same0
name_quick tw1258299570235058372 for PySem.Manifest.find? by same0
name_quick tw16916688483869632129 for PySem.Manifest.find? by same0
name_quick tw11985326045990495214 for PySem.Manifest.find? by same0
name_quick tw14834023430324568649 for PySem.Manifest.find? by same0
name_quick tw9011979029575296479 for PySem.Manifest.find? by same0
name_quick tw2283851925072248500 for PySem.Manifest.find? by same0
name_quick tw13317431791736044220 for PySem.Manifest.find? by same0
name_quick tw3764465048917985505 for PySem.Manifest.find? by same0
name_quick tw460243522976405022 for PySem.Manifest.find? by same0
name_quick tw5706481520468235054 for PySem.Manifest.find? by same0
name_quick tw704327219915372674 for PySem.Manifest.find? by same0
name_quick tw6448080314894763839 for PySem.Manifest.find? by same0
name_quick tw17497748084772794779 for PySem.Manifest.find? by same0
name_quick tw12268644228514654432 for PySem.Manifest.find? by same0
name_quick tw16349804527192203551 for PySem.Manifest.find? by same0
name_quick tw13981391230805400906 for PySem.Manifest.find? by same0
name_quick tw12945451867199242903 for PySem.Manifest.find? by same0
name_quick tw7269565832213808900 for PySem.Manifest.find? by same0
name_quick tw17279654841073493023 for PySem.Manifest.find? by same0
name_quick tw2091960640491084115 for PySem.Manifest.find? by same0
name_quick tw8359286648393180516 for PySem.Manifest.find? by same0
name_quick tw16661375180360627877 for PySem.Manifest.find? by same0
name_quick tw18323700119837366958 for PySem.Manifest.find? by same0
name_quick tw15930095272721905579 for PySem.Manifest.find? by same0
name_quick tw15158043598476960053 for PySem.Manifest.find? by same0
name_quick tw3934468551298956420 for PySem.Manifest.find? by same0
name_quick tw6435988898589368438 for PySem.Manifest.find? by same0
name_quick tw18350330562280901221 for PySem.Manifest.find? by same0
name_quick tw136631920214876835 for PySem.Manifest.find? by same0
name_quick tw3577408171920636059 for PySem.Manifest.find? by same0
name_quick tw3972328310683599613 for PySem.Manifest.find? by same0
name_quick tw17552769576498331613 for PySem.Manifest.find? by same0
name_quick tw1414301608579184545 for PySem.Manifest.find? by same0
name_quick tw2905824091091238844 for PySem.Manifest.find? by same0
name_quick tw11313170107247368264 for PySem.Manifest.find? by same0
name_quick tw10706342367453228570 for PySem.Manifest.find? by same0
name_quick tw12635297910168745909 for PySem.Manifest.find? by same0
name_quick tw13036272033356848781 for PySem.Manifest.find? by same0
name_quick tw15980859228951719591 for PySem.Manifest.find? by same0
name_quick tw2422670821966735624 for PySem.Manifest.find? by same0
name_quick tw4071324889030633612 for PySem.Manifest.find? by same0
name_quick tw3976722010076183465 for PySem.Manifest.find? by same0
name_quick tw13759679279233594173 for PySem.Manifest.find? by same0
name_quick tw2039238271031011813 for PySem.Manifest.find? by same0
name_quick tw1829445100760108279 for PySem.Manifest.find? by same0
name_quick tw7232422423428716515 for PySem.Manifest.find? by same0
name_quick tw1333364371103165705 for PySem.Manifest.find? by same0
name_quick tw9763268239775435451 for PySem.Manifest.find? by same0
name_quick tw6004533443673955352 for PySem.Manifest.find? by same0
name_quick tw5529568453561195837 for PySem.Manifest.find? by same0
name_quick tw3094477031063562474 for PySem.Manifest.find? by same0
name_quick tw12767683915131110723 for PySem.Manifest.find? by same0
name_quick tw7276740287692124622 for PySem.Manifest.find? by same0
name_quick tw16350708796919097252 for PySem.Manifest.find? by same0
name_quick tw5721027456603625697 for PySem.Manifest.find? by same0
name_quick tw10528696920762540405 for PySem.Manifest.find? by same0
name_quick tw11317593695737139937 for PySem.Manifest.find? by same0
name_quick tw16296994325663420285 for PySem.Manifest.find? by same0
name_quick tw6245536207120538393 for PySem.Manifest.find? by same0
name_quick tw4658958612460137192 for PySem.Manifest.find? by same0
name_quick tw5111356299099525756 for PySem.Manifest.find? by same0
name_quick tw17532718790514356516 for PySem.Manifest.find? by same0
name_quick tw6683783046931543321 for PySem.Manifest.find? by same0
name_quick tw17828083071136270317 for PySem.Manifest.find? by same0
name_quick tw470574548607681690 for PySem.Manifest.find? by same0
name_quick tw13180171748994924942 for PySem.Manifest.find? by same0
name_quick tw3560238982266916124 for PySem.Manifest.find? by same0
name_quick tw8424611434330503625 for PySem.Manifest.find? by same0
name_quick tw4527066259768149269 for PySem.Manifest.find? by same0
name_quick tw13900631225919944168 for PySem.Manifest.find? by same0
name_quick tw13559156169165276386 for PySem.Manifest.find? by same0
name_quick tw11333186260410459676 for PySem.Manifest.find? by same0
name_quick tw4292500188555128830 for PySem.Manifest.find? by same0
name_quick tw4549333791460862111 for PySem.Manifest.find? by same0
name_quick tw15168306246750427876 for PySem.Manifest.find? by same0
name_quick tw2627984346626558326 for PySem.Manifest.find? by same0
name_quick tw6122645084068987007 for PySem.Manifest.find? by same0
name_quick tw9564595351457756722 for PySem.Manifest.find? by same0
name_quick tw900395245841561262 for PySem.Manifest.find? by same0
name_quick tw7401281599722004195 for PySem.Manifest.find? by same0
name_quick tw1537898542681612871 for PySem.Manifest.find? by same0
name_quick tw17730448691065144110 for PySem.Manifest.find? by same0
name_quick tw117213463901210413 for PySem.Manifest.find? by same0
name_quick tw4775785305629353868 for PySem.Manifest.find? by same0
name_quick tw1402947280878808549 for PySem.Manifest.find? by same0
name_quick tw6589095468515690095 for PySem.Manifest.find? by same0
name_quick tw1620339239838986703 for PySem.Manifest.find? by same0
name_quick tw17532440430192770315 for PySem.Manifest.find? by same0
name_quick tw2460228577881660442 for PySem.Manifest.find? by same0
name_quick tw9529234661008812162 for PySem.Manifest.find? by same0
name_quick tw219737044198020058 for PySem.Manifest.find? by same0
name_quick tw8579058602437062094 for PySem.Manifest.find? by same0
name_quick tw3778451253796500701 for PySem.Manifest.find? by same0
name_quick tw17018628822417861297 for PySem.Manifest.find? by same0
open_top hd for PySem.Challenge.rw_ik0124_01
end Mine
end
section
open PySem PySem.W PyProof.Rows PySem.Spec PySem.Calls
set_option maxRecDepth 100000
namespace Mine
abbrev lstO (vs : List Value) (n : Nat) : Obj := { cls := .type "list", data := .seq vs.toArray n }
abbrev tupO (vs : List Value) (n : Nat) : Obj := { cls := .type "tuple", data := .seq vs.toArray n }
theorem fmod_bd (a : Int) {b : Int} (hb : 0 < b) : 0 ≤ Int.fmod a b ∧ Int.fmod a b < b := by
  rw [Int.fmod_eq_emod_of_nonneg _ (Int.le_of_lt hb)]
  exact ⟨Int.emod_nonneg _ (Int.ne_of_gt hb), Int.emod_lt_of_pos _ hb⟩
noncomputable def strsOf : List Value → Option (List Str)
  | [] => some []
  | .str y _ :: r => (match strsOf r with | some ys => some (y :: ys) | none => none)
  | _ => none
theorem strsAre_of : ∀ {vs : List Value} {ys : List Str}, strsOf vs = some ys → StrsAre vs ys := by
  intro vs
  induction vs with
  | nil => intro ys e; cases e; exact .nil
  | cons v r ih =>
    intro ys e
    cases v <;> first | (cases e; done) | skip
    rename_i y t
    simp only [strsOf] at e
    cases q : strsOf r with
    | none => rw [q] at e; cases e
    | some zs => rw [q] at e; cases e; exact .cons _ _ (ih q)
section
variable {prog : Program} {w : World} {A : Around} {E : Value → Shared → Prop} {s : Shared} {h₀ : Heap} {L a : Addr} {m : Str → Option Value} {news : List (Addr × Obj)} {vs : List Value} {n : Nat} {Q : Value → Shared → Prop}
theorem len_L (N : News h₀ L s.heap news) (hm : (a, lstO vs n) ∈ news) (hfit : vs.length < 2 ^ 62)
    (h : ∀ t tk, Q (.int vs.length t) { s with toks := tk }) : wpAny (model prog w) A (call (.builtin "len") [.ref a]) Q E s := by
  have e : vs.toArray.size = vs.length := by rw [List.size_toArray]
  refine len_list ⟨_, (N _ hm).1, rfl, n, rfl⟩ (by rw [e]; omega) ?_
  rw [e]
  exact h _ _
theorem item_S {value slice : Expr} {ys : List Str} {k : Int} {u : Tok} (N : News h₀ L s.heap news) (hm : (a, lstO vs n) ∈ news) (hi : strsOf vs = some ys) (hk : 0 ≤ k ∧ k < ys.length) (hfit : ys.length < 2 ^ 62)
    (h : ∀ t', Q (.str (ys.getD k.toNat Str.empty) t') s)
    (hs : subscripted slice false (.ref a) (.int k u) = operate [.ref a, .int k u] (getItem (.ref a) (.int k u)) := by with_unfolding_all rfl) (hg : ∀ r, letTemporaryGo value (.ref a) r = pure () := by intro _; with_unfolding_all rfl) :
    wpAny (model prog w) A (subscriptTail value slice (.ref a) (.int k u)) Q E s :=
  item_strsA ⟨_, (N _ hm).1, rfl, n, rfl⟩ (strsAre_of hi) hk.1 hk.2 (by omega) h hs hg
end

abbrev prg : Program := PySem.Challenge.rw_ik0124_01.prog
abbrev Led := List (Addr × Obj)
/-- a def that gives back a value and leaves the ledger as it is -/
noncomputable def CtrV (w : World) (f : Addr) (d u : Nat) (args : List Value) (pre : Led → Prop) (post : Value → Prop) : Prop :=
  ∀ (p : Program) (loose : List Str) (mean : ExcName → Option Value) (mg mb : Str → Option Value) (dp un : Nat) (gd : Option (List Code)) (cn : Str) (cs : Scope) (a : Addr) (ccd : Value) (cl : List (Str × Addr)) (outer : List Env) (A₀ : Around)
    (base h₀ : Heap) (L : Addr) (m : Str → Option Value) (news : Led) (s : Shared) (Q E : Value → Shared → Prop),
    Below A₀ base outer h₀ → Fr h₀ L s.heap m → (Mine.hd.heap_39 w.params).In h₀ → News h₀ L s.heap news → Top p loose mean mg mb h₀ → cs.kind = .function → dp + d < recursionLimit → un + u < cLine → pre news →
    (∀ (v : Value) (h' : Heap) (tk' : Nat), Fr h₀ L h' m → News h₀ L h' news → post v → Q v { s with heap := h', toks := tk' }) →
    wpAny (model PySem.Challenge.rw_ik0124_01.prog w) (ktrTop dp un gd cn cs L a ccd cl outer) (call (.ref f) args) Q E s
/-- a def that gives back a new object and else leaves the ledger as it is -/
noncomputable def CtrO (w : World) (f : Addr) (d u : Nat) (args : List Value) (pre : Led → Prop) (post : Obj → Prop) : Prop :=
  ∀ (p : Program) (loose : List Str) (mean : ExcName → Option Value) (mg mb : Str → Option Value) (dp un : Nat) (gd : Option (List Code)) (cn : Str) (cs : Scope) (a : Addr) (ccd : Value) (cl : List (Str × Addr)) (outer : List Env) (A₀ : Around)
    (base h₀ : Heap) (L : Addr) (m : Str → Option Value) (news : Led) (s : Shared) (Q E : Value → Shared → Prop),
    Below A₀ base outer h₀ → Fr h₀ L s.heap m → (Mine.hd.heap_39 w.params).In h₀ → News h₀ L s.heap news → Top p loose mean mg mb h₀ → cs.kind = .function → dp + d < recursionLimit → un + u < cLine → pre news →
    (∀ (r : Addr) (o : Obj) (h' : Heap) (tk' : Nat), Fr h₀ L h' m → News h₀ L h' ((r, o) :: news) → (∀ q ∈ news, q.1 < r) → post o → Q (.ref r) { s with heap := h', toks := tk' }) →
    wpAny (model PySem.Challenge.rw_ik0124_01.prog w) (ktrTop dp un gd cn cs L a ccd cl outer) (call (.ref f) args) Q E s
section
variable {w : World} {f : Addr} {d u : Nat} {args : List Value} {p : Program} {loose : List Str} {mean : ExcName → Option Value} {mg mb : Str → Option Value} {dp un : Nat} {gd : Option (List Code)} {cn : Str} {cs : Scope} {a : Addr} {ccd : Value} {cl : List (Str × Addr)} {outer : List Env} {A₀ : Around}
    {base h₀ : Heap} {L : Addr} {m : Str → Option Value} {news : Led} {s : Shared} {Q E : Value → Shared → Prop} {pre : Led → Prop}
theorem CtrV.use {post : Value → Prop} (C : CtrV w f d u args pre post) (B : Below A₀ base outer h₀) (F : Fr h₀ L s.heap m) (X : (Mine.hd.heap_39 w.params).In h₀) (N : News h₀ L s.heap news) (T : Top p loose mean mg mb h₀) (hk : cs.kind = .function)
    (hd : dp + d < recursionLimit) (hu : un + u < cLine) (hp : pre news)
    (h : ∀ (v : Value) (h' : Heap) (tk' : Nat), Fr h₀ L h' m → News h₀ L h' news → post v → Q v { s with heap := h', toks := tk' }) :
    wpAny (model PySem.Challenge.rw_ik0124_01.prog w) (ktrTop dp un gd cn cs L a ccd cl outer) (call (.ref f) args) Q E s := C _ _ _ _ _ _ _ _ _ _ _ _ _ _ _ _ _ _ _ _ _ _ _ B F X N T hk hd hu hp h
theorem CtrO.use {post : Obj → Prop} (C : CtrO w f d u args pre post) (B : Below A₀ base outer h₀) (F : Fr h₀ L s.heap m) (X : (Mine.hd.heap_39 w.params).In h₀) (N : News h₀ L s.heap news) (T : Top p loose mean mg mb h₀) (hk : cs.kind = .function)
    (hd : dp + d < recursionLimit) (hu : un + u < cLine) (hp : pre news)
    (h : ∀ (r : Addr) (o : Obj) (h' : Heap) (tk' : Nat), Fr h₀ L h' m → News h₀ L h' ((r, o) :: news) → (∀ q ∈ news, q.1 < r) → post o → Q (.ref r) { s with heap := h', toks := tk' }) :
    wpAny (model PySem.Challenge.rw_ik0124_01.prog w) (ktrTop dp un gd cn cs L a ccd cl outer) (call (.ref f) args) Q E s := C _ _ _ _ _ _ _ _ _ _ _ _ _ _ _ _ _ _ _ _ _ _ _ B F X N T hk hd hu hp h
end
theorem isub_kind : builtinKind "issubclass" = none := by decide +kernel
theorem isub_plain : plainId "issubclass" = true := by decide +kernel
theorem isub_entry : entryFor table "issubclass" = some Builtin.«issubclass» := entryFor_of_fast (by kernel_rfl)
theorem isub_args (a b : Value) : argsOk "issubclass" ⟨[a, b], []⟩ := by unfold argsOk; kernel_rfl
theorem isubn_kind : builtinKind "issubclass.nested" = none := by decide +kernel
theorem isubn_plain : plainId "issubclass.nested" = true := by decide +kernel
theorem isubn_entry : entryFor table "issubclass.nested" = some Builtin.«issubclass.nested» := entryFor_of_fast (by kernel_rfl)
theorem isubn_args (a b c : Value) : argsOk "issubclass.nested" ⟨[a, b, c], []⟩ := by unfold argsOk; kernel_rfl
section
variable {prog : Program} {w : World} {A : Around} {E : Value → Shared → Prop} {s : Shared} {Q : Value → Shared → Prop}
theorem isubn_same (d : Int) (t : Tok) (h : Q (.bool true) s) : wpAny (model prog w) A (call (.builtin "issubclass.nested") [.type "str", .type "str", .int d t]) Q E s := by
  refine call_function_any isubn_kind isubn_plain isubn_entry (isubn_args _ _ _) ?_
  unfold Builtin.«issubclass.nested»
  refine wpAny_bind (m := typeOf (.type "str")) (wpAny_of_eq PySem.F.isi_meta_str ?_)
  show wpAny _ _ (if (Value.type "type" == Value.type "type") = true then _ else _) _ _ s
  rw [if_pos (by decide)]
  refine wpAny_bind (wpAny_bind (m := isType (.type "str")) (wpAny_pure (a := true) ?_))
  refine wpAny_bind (m := isType (.type "str")) (wpAny_pure (a := true) ?_)
  dsimp only
  simp only [Bool.and_self, if_true]
  refine wpAny_bind (m := isSubtype (.type "str") (.type "str")) (wpAny_of_eq PySem.F.sub_str_str ?_)
  repeat (first | exact h | refine wpAny_pure ?_ | refine wpAny_bind ?_)
theorem isub_pair {D : Addr} {n : Nat} (hD : s.heap.get? D = some (tupO [.type "str", .type "bytes"] n)) (h : ∀ tk, Q (.bool true) { s with toks := tk }) :
    wpAny (model prog w) A (call (.builtin "issubclass") [.type "str", .ref D]) Q E s := by
  refine call_function_any isub_kind isub_plain isub_entry (isub_args _ _) ?_
  refine wpAny_pure (a := Fin.again (.builtin "issubclass.nested" ⟨[.type "str", .ref D, rawInt 0], []⟩)) ⟨plainId_quiet isubn_plain _, codeAny_builtin isubn_entry ?_⟩
  rw [Around.under_plainId isubn_plain _]
  unfold Builtin.«issubclass.nested»
  have hT : s.TypeIs (.ref D) "tuple" := ⟨_, hD, rfl⟩
  refine wpAny_bind (m := typeOf (.ref D)) (wpAny_typeOf hT ?_)
  rw [if_neg (by decide)]
  refine wpAny_bind (m := Builtin.Builtins.unionMembers (.ref D)) ?_
  unfold Builtin.Builtins.unionMembers
  refine wpAny_bind (m := typeOf (.ref D)) (wpAny_typeOf hT ?_)
  rw [if_neg (by decide)]
  refine wpAny_pure ?_
  refine wpAny_bind (m := isInstance (.ref D) (.type "tuple")) (wpAny_isInstance hT PySem.F.sub_tuple_tuple ?_)
  rw [if_pos rfl]
  have hn : ¬ ((0 : Int) ≥ Builtin.Builtins.nestingLimit) := by decide
  dsimp only
  rw [if_neg hn]
  refine wpAny_bind (m := seqItems? (.ref D)) (wpAny_seqItems hD rfl ?_)
  dsimp only [Option.getD_some]
  refine wpAny_bind ?_
  rw [← Array.forIn_toList]
  show wpAny _ _ (forIn [Value.type "str", Value.type "bytes"] _ _) _ _ _
  rw [List.forIn_cons]
  refine wpAny_bind (wpAny_bind (isubn_same _ _ (wpAny_bind (wpAny_truthy_bool ?_))))
  rw [if_pos rfl]
  repeat (first | exact h _ | refine wpAny_pure ?_ | refine wpAny_bind ?_)
end
theorem bind_rest {K : Frag} {S : Setting} {name qual : Str} {body : List Stmt} {scope : Scope} {doc pm cdv ct : Value} {an : Option Addr} {pa pp : Pos} {v : Value} {vs : List Value} (hsz : vs.length ≤ sizeLine) :
    peek1 K S (bindArgs (fnOf name qual { posonlyargs := [], args := [{ arg := Str.ofString "a", annotation := none, pos := pa }], vararg := some { arg := Str.ofString "p", annotation := none, pos := pp }, kwonlyargs := [], kw_defaults := [], kwarg := none, defaults := [] } body scope .none .none doc pm an cdv ct) ⟨v :: vs, []⟩) = some (({ cls := .type "tuple", data := .seq vs.toArray } : Obj), fun D => some [(Str.ofString "a", v), (Str.ofString "p", .ref D)]) := by
  have hn : ¬ (vs.toArray.size > sizeLine) := by rw [List.size_toArray]; omega
  simp only [bindArgs, List.map_nil, List.map_cons, List.nil_append, List.length_cons, List.length_nil, Option.isNone_some, Bool.and_false]
  show peek1 K S (newTuple vs >>= fun t => pure ([(Str.ofString "a", v)] ++ [(Str.ofString "p", t)])) = _
  unfold newTuple newObj
  dsimp only
  rw [if_neg hn]
  rfl

theorem items_ind {R : List Itm → (Str → Option Value) → Led → Prop} (I : List Value → (Str → Option Value) → Led → Prop)
    (nil : ∀ m news, I [] m news → R [] m news)
    (cons : ∀ v r m news, I (v :: r) m news → (∀ m' news', I r m' news' → R (r.map .val) m' news') → R (.val v :: r.map .val) m news) :
    ∀ r m news, I r m news → R (r.map .val) m news
  | [], m, news, h => nil m news h
  | v :: r, m, news, h => cons v r m news h fun m' news' h' => items_ind I nil cons r m' news' h'

theorem ite_no {c : Bool} {P Q : Prop} (h : c = false) (q : Q) : if c = true then P else Q := by rw [if_neg (by rw [h]; exact Bool.false_ne_true)]; exact q
theorem ite_yes {c : Bool} {P Q : Prop} (h : c = true) (q : P) : if c = true then P else Q := by rw [if_pos h]; exact q
theorem unrW_end {h₀ : Heap} {L : Addr} {s₁ : Shared} {its : Led} {rest : (Str → Option Value) → Led → Prop} {h' : Heap} {tk : Nat} {m' : Str → Option Value} {all : Led} (F : Fr h₀ L h' m') (N : News h₀ L h' all) (news' : Led)
    (sub : ∀ p ∈ its ++ news', p ∈ all) (off : ∀ p ∈ news', ∀ q ∈ its, p.1 ≠ q.1) (r : rest m' news') : UnrEndW h₀ L s₁ its rest { s₁ with heap := h', toks := tk } :=
  ⟨h', tk, m', news', rfl, F, fun p hp => N p (sub p hp), off, r⟩
theorem off_one {I : Addr} {oI : Obj} {l : Led} (h : ∀ p ∈ l, p.1 < I) : ∀ p ∈ l, ∀ q ∈ [(I, oI)], p.1 ≠ q.1 := by
  intro p hp q hq
  rw [List.mem_singleton.mp hq]
  exact Nat.ne_of_lt (h p hp)

theorem ctrO_end {h₀ h' : Heap} {L r : Addr} {m : Str → Option Value} {news all : Led} {s : Shared} {Q : Value → Shared → Prop} {post : Obj → Prop} {o : Obj} {tk' : Nat}
    (hret : ∀ (r : Addr) (o : Obj) (h' : Heap) (tk' : Nat), Fr h₀ L h' m → News h₀ L h' ((r, o) :: news) → (∀ q ∈ news, q.1 < r) → post o → Q (.ref r) { s with heap := h', toks := tk' })
    (N : News h₀ L h' all) (F : Fr h₀ L h' m) (hm : (r, o) ∈ all) (hs : ∀ p ∈ news, p ∈ all) (lt : ∀ q ∈ news, q.1 < r) (hp : post o) : Q (.ref r) { s with heap := h', toks := tk' } :=
  hret r o h' tk' F (fun p hp => (List.mem_cons.mp hp).elim (fun e => e ▸ N _ hm) fun hp => N p (hs p hp)) lt hp
section
variable {prog : Program} {w : World} {A : Around} {E : Value → Shared → Prop} {s s₁ : Shared} {h₀ : Heap} {L : Addr} {Q : Flow → Shared → Prop} {T : Sem Flow} {U : Sem Unit} {its : Led} {R : (Str → Option Value) → Led → Prop}
/-- a turn whose rest is a name: the proof is smaller -/
theorem abs_rest (h : ∀ R₀ : (Str → Option Value) → Led → Prop, (∀ m n, R m n → R₀ m n) → wpAny (model prog w) A U (fun _ s₂ => wpAny (model prog w) A T (UnrPostW h₀ L s₁ its R₀ Q) E s₂) E s) :
    wpAny (model prog w) A U (fun _ s₂ => wpAny (model prog w) A T (UnrPostW h₀ L s₁ its R Q) E s₂) E s := h R fun _ _ h => h
/-- and whose end is a name too -/
theorem abs_post (h : ∀ (R₀ : (Str → Option Value) → Led → Prop) (Q₀ : Flow → Shared → Prop), (∀ m n, R m n → R₀ m n) → wpAny (model prog w) A U (fun _ s₂ => wpAny (model prog w) A T (UnrPostW h₀ L s₁ its R₀ Q₀) E s₂) E s) :
    wpAny (model prog w) A U (fun _ s₂ => wpAny (model prog w) A T (UnrPostW h₀ L s₁ its R Q) E s₂) E s := h R Q fun _ _ h => h
end
end Mine
end
section
open PySem PySem.W PyProof.Rows PySem.Spec PySem.Calls
set_option maxRecDepth 100000
set_option maxHeartbeats 0
set_option linter.unusedVariables false
namespace Mine
section
theorem fsp_c (w : World) (x : Str) (t : Tok) : CtrV w 142 1 20 [.str x t] (fun _ => True) (fun v => v = .str x t) := by
  w_top off
  unfold CtrV
  k_fill
  k_with_none
  (k_with "call builtin:issubclass" => (k_here; k_dflt (refine' isub_pair (n := 0) ?zqhD ?_; (case zqhD => exact (News.get (by assumption) (by k_mem))); k_whole); intro tk'))
  intro p loose mean mg mb dp un gd cn cs a ccd cl outer A₀ base h₀ L m news s Q E B F X N T hk hd hu hp hret
  refine wpAny_call ?_
  k_dflt cell_enter
  k_steps
  all_goals exact hret _ _ _ (by k_asm) (cb_drop (by assumption) (by kcj_all)) rfl
theorem gsep_c (w : World) (x : Str) (t : Tok) : CtrV w 156 1 20 [.str x t] (fun _ => True) (fun v => ∃ t', v = .str (Str.ofString "/") t') := by
  w_top off
  unfold CtrV
  k_fill
  k_with_none
  (k_with "call builtin:issubclass" => (k_here; k_dflt (refine' isub_pair (n := 0) ?zqhD ?_; (case zqhD => exact (News.get (by assumption) (by k_mem))); k_whole); intro tk'))
  intro p loose mean mg mb dp un gd cn cs a ccd cl outer A₀ base h₀ L m news s Q E B F X N T hk hd hu hp hret
  refine wpAny_call ?_
  k_dflt cell_enter
  k_steps
  all_goals exact hret _ _ _ (by k_asm) (cb_drop (by assumption) (by kcj_all)) ⟨_, rfl⟩
end
end Mine
end
section
open PySem PySem.W PyProof.Rows PySem.Spec PySem.Calls PyProof.Rows.LCg
set_option maxRecDepth 100000
set_option linter.unusedVariables false
namespace Mine
section
variable {prog : Program} {w : World} {A : Around} {E : Value → Shared → Prop} {s : Shared} {h₀ : Heap} {L : Addr} {m : Str → Option Value} {env : Env}
noncomputable def SrcStr (prog : Program) (w : World) (A : Around) (h₀ : Heap) (L : Addr) (m : Str → Option Value) (env : Env) (elt : Expr) (x : Str) (scope : Scope) (cl : List (Str × Addr)) (Fin : Shared → List Value → List (Addr × Obj) → Prop) (xv : Value) (s₁ : Shared) : Prop :=
  ∃ txt t news, xv = .str txt t ∧ A.handled = none ∧ Fr h₀ L s₁.heap m ∧ News h₀ L s₁.heap news ∧ txt.cps.size ≤ sizeLine ∧
    ∀ s₂ : Shared, (∃ h, s₂ = { s₁ with heap := h }) → CompRest prog w A h₀ L m env elt x scope cl s₂ (fun _ => True) (SignAt txt) (Fin s₂) txt.cps.size 0 [] news
theorem strIter_st {I : Addr} {cls : String} {x : Str} {t : Tok} : ∀ i (h h' : Heap) (o : Obj) (nw : List (Addr × Obj)), h.IsStrIter I cls x t i → h.get? I = some o → h'.get? I = some o → (∀ b o, h₀.get? b = some o → h'.get? b = some o) → News h₀ L h' nw → True → h'.IsStrIter I cls x t i :=
  fun i h h' o nw st e e' _ _ _ => by
    obtain ⟨o', q, r⟩ := st
    rw [e] at q; cases q
    exact ⟨o, e', r⟩
theorem ListComp_Str {elt iter : Expr} {x : Str} {px : Pos} {scope : Scope} {cl : List (Str × Addr)} {pos : Pos} {Q : Value → Shared → Prop} (F₀ : Fr h₀ L s.heap m)
    (hclos : closureFor scope env = pure cl) (hcell : ∀ y ∈ scope.names, y.2 ≠ .cell) (hkind : scope.kind = .function)
    (hnames : ∀ y ∈ scope.names, y.2 = .local → scope.names.lookup y.1 = some .local) (hx : scope.names.lookup x = some .local)
    (h : wpAny (model prog w) A (eval iter env) (SrcStr prog w A h₀ L m env elt x scope cl (fun s₂ => FinE h₀ L m s₂ Q)) E s)
    (hs : ∀ x, foldedSetIterable iter env x = pure x := by intro _; rfl) :
    wpAny (model prog w) A (eval (.ListComp elt [⟨.Name x px, iter, [], 0⟩] scope pos) env) Q E s := by
  rw [eval_ListComp]
  refine wpAny_comprehension_free (use := none) rfl hs hclos hkind hnames (wpAny_mono h (fun xv s₁ h₁ => ?_) fun _ _ e => e)
  obtain ⟨txt, t, news, rfl, hh, F, N, hsz, R⟩ := h₁
  cases ha : txt.cps.all (· < 128)
  · refine wpAny_pyIter_wide ha ?_
    refine block_U (Walks.strWide hh s₁.heap.objs.size txt t) hsz (fun i h st => by obtain ⟨o, e, _⟩ := st; exact ⟨o, e⟩) strIter_st hcell hkind hx ⟨_, Heap.get?_push_size _ rfl, rfl, rfl⟩ (fun b hb => ?_)
      (F.keeps fun _ _ e => Heap.get?_push_of_some _ e) (N.grown fun _ _ e => Heap.get?_push_of_some _ e) (Nat.ne_of_lt F.ns.lt) (next_is_new F) (fun p hp => Nat.ne_of_lt (Heap.lt_size (N p hp).1)) trivial (R _ ⟨_, rfl⟩) ?_
    · rw [List.mem_singleton.mp hb]
      show s₁.heap.objs.size < (s₁.heap.push _).objs.size
      rw [Heap.size_push]; exact Nat.lt_succ_self _
    · intro D C h tk m' ys news' F' N' o1 hn hC₀ hD₀ hCL hDL hCD offC fin
      refine ⟨m', hn, fun h'' hs'' => fin D h'' tk (F'.change hs'' hCL hC₀) (fun p hp => ?_) o1⟩
      refine ⟨hs''.extBut _ _ ?_ (N' p hp).1, (N' p hp).2⟩
      rcases List.mem_cons.mp hp with rfl | hp
      · exact Ne.symm hCD
      · exact offC p hp
  · refine wpAny_pyIter_ascii ha ?_
    refine block_U (Walks.strAscii hh s₁.heap.objs.size txt t) hsz (fun i h st => by obtain ⟨o, e, _⟩ := st; exact ⟨o, e⟩) strIter_st hcell hkind hx ⟨_, Heap.get?_push_size _ rfl, rfl, rfl⟩ (fun b hb => ?_)
      (F.keeps fun _ _ e => Heap.get?_push_of_some _ e) (N.grown fun _ _ e => Heap.get?_push_of_some _ e) (Nat.ne_of_lt F.ns.lt) (next_is_new F) (fun p hp => Nat.ne_of_lt (Heap.lt_size (N p hp).1)) trivial (R _ ⟨_, rfl⟩) ?_
    · rw [List.mem_singleton.mp hb]
      show s₁.heap.objs.size < (s₁.heap.push _).objs.size
      rw [Heap.size_push]; exact Nat.lt_succ_self _
    · intro D C h tk m' ys news' F' N' o1 hn hC₀ hD₀ hCL hDL hCD offC fin
      refine ⟨m', hn, fun h'' hs'' => fin D h'' tk (F'.change hs'' hCL hC₀) (fun p hp => ?_) o1⟩
      refine ⟨hs''.extBut _ _ ?_ (N' p hp).1, (N' p hp).2⟩
      rcases List.mem_cons.mp hp with rfl | hp
      · exact Ne.symm hCD
      · exact offC p hp
end
theorem comp_ind {R : Nat → Nat → List Value → Led → Prop} (n : Nat) (J : Nat → List Value → Led → Prop) (zero : ∀ ys news, J n ys news → R 0 n ys news)
    (succ : ∀ k i ys news, i + (k + 1) = n → J i ys news → (∀ ys' news', J (i + 1) ys' news' → R k (i + 1) ys' news') → R (k + 1) i ys news) :
    ∀ k i ys news, i + k = n → J i ys news → R k i ys news
  | 0, i, ys, news, e, h => by
    have e' : i = n := by omega
    subst e'
    exact zero ys news h
  | k + 1, i, ys, news, e, h => succ k i ys news e h fun ys' news' h' => comp_ind n J zero succ k (i + 1) ys' news' (by omega) h'

theorem join_L {prog : Program} {w : World} {A : Around} {E : Value → Shared → Prop} {s : Shared} {h₀ : Heap} {L D : Addr} {news : Led} {vs : List Value} {n : Nat} {ys : List Str} {x : Str} {t : Tok} {Q : Value → Shared → Prop}
    (N : News h₀ L s.heap news) (hm : (D, lstO vs n) ∈ news) (hi : StrsAre vs ys) (hok : (ys.map (·.length)).sum + ys.length * x.length ≤ 16777216)
    (h : ∀ t' k, Q (.str (Txt.join x ys) t') { s with toks := k }) : wpAny (model prog w) A (call (.builtin "str.join") [.str x t, .ref D]) Q E s :=
  join_list ⟨_, (N _ hm).1, rfl, n, rfl⟩ hi hok h
theorem in_menu (x : Str) (c : Nat) {b : Bool} (h : (Builtin.Str.occurrences x ⟨#[c]⟩ 0 x.length 1).isEmpty = b) : decide (c ∈ x.cps.toList) = !b := by
  rw [← StrLaws.found_one, h]
theorem sum_map_le (B : Nat) : ∀ (l : List Str), (∀ y ∈ l, y.length ≤ B) → (l.map (·.length)).sum ≤ l.length * B := fun l h => StrLaws.sumLen_le l h
end Mine
end
section
open PySem PySem.W PyProof.Rows PySem.Spec PySem.Calls
set_option maxRecDepth 100000
set_option linter.unusedVariables false
namespace Mine
noncomputable def OkS (x : Str) : Prop := ∀ c ∈ x.cps.toList, c < 1114112
theorem strOk_of {x : Str} (h : OkS x) : PyData.strOk x = true := by
  unfold PyData.strOk
  rw [← Array.all_toList]
  exact List.all_eq_true.mpr fun c hc => decide_eq_true (h c hc)
theorem okS_app {x y : Str} (hx : OkS x) (hy : OkS y) : OkS (x ++ y) := by
  intro c hc
  have hc' : c ∈ (x.cps ++ y.cps).toList := hc
  rw [Array.toList_append] at hc'
  exact (List.mem_append.mp hc').elim (hx c) (hy c)
theorem st_carried {vs : List Value} {ns : List Str} (k : StrsAre vs ns) : CarriedAll vs (ns.map PyData.str) :=
  k.rec .nil fun _ t _ _ _ r => .cons (.str _ t) r
theorem st_canLay : ∀ ns : List Str, (∀ x ∈ ns, OkS x) → PyData.canLayAll0 (ns.map PyData.str) = true
  | [], _ => rfl
  | x :: r, h => by
    simp [PyData.canLayAll0, PyData.canLay0, st_canLay r fun y hy => h y (.tail _ hy), strOk_of (h x (.head _))]
theorem st_depth : ∀ ns : List Str, PyData.depthAll (ns.map PyData.str) = 0
  | [] => rfl
  | _ :: r => by simp [PyData.depthAll, PyData.depth, st_depth r]
theorem st_shaped (ns : List Str) (h : ∀ x ∈ ns, OkS x) : SeqAt.shaped (.list (ns.map PyData.str)) = true := by
  simp [SeqAt.shaped, PyData.canLay0, PyData.depth, st_canLay ns h, st_depth]
theorem st_sameAll : ∀ ns ms : List Str, PySem.Spec.sameAll (ns.map PyData.str) (ms.map PyData.str) = decide (ns = ms)
  | [], [] => by simp [PySem.Spec.sameAll]
  | [], _ :: _ => by simp [PySem.Spec.sameAll]
  | _ :: _, [] => by simp [PySem.Spec.sameAll]
  | a :: r, b :: t => by
    simp only [List.map_cons, PySem.Spec.sameAll, PySem.Spec.same, st_sameAll r t]
    by_cases h : a = b <;> by_cases h' : r = t <;> simp [h, h']
theorem st_same (ns ms : List Str) : PySem.Spec.same (.list (ns.map PyData.str)) (.list (ms.map PyData.str)) = decide (ns = ms) := by
  simp only [PySem.Spec.same]; exact st_sameAll ns ms
section
variable {prog : Program} {w : World} {A : Around} {E : Value → Shared → Prop} {s : Shared} {h₀ : Heap} {L a b : Addr} {m : Str → Option Value} {news : Led} {xs ys : List Value} {ns ms : List Str} {n k : Nat} {Q : Value → Shared → Prop}
theorem st_noMix (ns ms : List Str) : SeqAt.noMix (.list (ns.map PyData.str)) (.list (ms.map PyData.str)) = true :=
  SeqAt.noMix_of_shape (.list .str) rfl _ _ (list_map_has fun _ => rfl) (list_map_has fun _ => rfl)
theorem eq_strs_L (N : News h₀ L s.heap news) (ha : (a, lstO xs n) ∈ news) (hb : (b, lstO ys k) ∈ news) (hi : StrsAre xs ns) (hj : StrsAre ys ms) (h1 : ∀ x ∈ ns, OkS x) (h2 : ∀ x ∈ ms, OkS x) (hu : A.units + 64 < cLine) (h : Q (.bool (decide (ns = ms))) s) :
    wpAny (model prog w) A (compareOp .Eq (.ref a) (.ref b)) Q E s :=
  eq_dataH_same (reads_newData ⟨_, (N _ ha).1, rfl, n, rfl⟩ (st_carried hi)) (reads_newData ⟨_, (N _ hb).1, rfl, k, rfl⟩ (st_carried hj)) (st_shaped _ h1) (st_shaped _ h2) hu (st_noMix _ _) (by rw [st_same]; exact h)
theorem ne_strs_L (N : News h₀ L s.heap news) (ha : (a, lstO xs n) ∈ news) (hb : (b, lstO ys k) ∈ news) (hi : StrsAre xs ns) (hj : StrsAre ys ms) (h1 : ∀ x ∈ ns, OkS x) (h2 : ∀ x ∈ ms, OkS x) (hu : A.units + 64 < cLine) (h : Q (.bool (!decide (ns = ms))) s) :
    wpAny (model prog w) A (compareOp .NotEq (.ref a) (.ref b)) Q E s :=
  ne_dataH_same (reads_newData ⟨_, (N _ ha).1, rfl, n, rfl⟩ (st_carried hi)) (reads_newData ⟨_, (N _ hb).1, rfl, k, rfl⟩ (st_carried hj)) (st_shaped _ h1) (st_shaped _ h2) hu (st_noMix _ _) (by rw [st_same]; exact h)
/-- two tuples (None, None, x) -/
theorem ne_tup3_L {x : Str} {t u : Tok} (N : News h₀ L s.heap news) (ha : (a, tupO [.none, .none, .str x t] n) ∈ news) (hb : (b, tupO [.none, .none, .str x u] k) ∈ news) (hx : OkS x) (hu : A.units + 64 < cLine) (h : Q (.bool false) s) :
    wpAny (model prog w) A (compareOp .NotEq (.ref a) (.ref b)) Q E s := by
  have r : ∀ {c : Addr} {k : Nat} {t : Tok}, (c, tupO [.none, .none, .str x t] k) ∈ news → Reads s.heap (.ref c) (.tuple [.none, .none, .str x]) [] := fun hm =>
    .tuple (N _ hm).1 rfl rfl (.cons .none (.cons .none (.cons (.str x _) .nil)))
  have hs : SeqAt.shaped (.tuple [.none, .none, .str x]) = true := by
    simp [SeqAt.shaped, PyData.canLay0, PyData.canLayAll0, PyData.depth, PyData.depthAll, strOk_of hx]
  refine ne_dataH_same (r ha) (r hb) hs hs hu (by simp [SeqAt.noMix, SeqAt.noMixAll]) ?_
  have e : PySem.Spec.same (.tuple [.none, .none, .str x]) (.tuple [.none, .none, .str x]) = true := by
    simp [PySem.Spec.same, PySem.Spec.sameAll]
  rw [e]; exact h
/-- the pairs (text, text) that a list of the ledger holds -/
inductive PairsAre (news : Led) : List Value → List (Str × Str) → Prop
  | nil : PairsAre news [] []
  | cons {T : Addr} {k : Nat} {t u : Tok} {vs : List Value} {ps : List (Str × Str)} (x y : Str) : (T, tupO [.str x t, .str y u] k) ∈ news → PairsAre news vs ps → PairsAre news (.ref T :: vs) ((x, y) :: ps)
theorem PairsAre.mono {news news' : Led} (h : ∀ p ∈ news, p ∈ news') {vs ps} (k : PairsAre news vs ps) : PairsAre news' vs ps :=
  k.rec .nil fun x y hm _ r => .cons x y (h _ hm) r
theorem PairsAre.snoc {news : Led} {T : Addr} {k : Nat} {t u : Tok} {x y : Str} (hm : (T, tupO [.str x t, .str y u] k) ∈ news) {vs ps} (q : PairsAre news vs ps) : PairsAre news (vs ++ [.ref T]) (ps ++ [(x, y)]) :=
  q.rec (.cons x y hm .nil) fun x' y' hm' _ r => .cons x' y' hm' r
abbrev pairD (p : Str × Str) : PyData := .tuple [.str p.1, .str p.2]
theorem PairsAre.reads (N : News h₀ L s.heap news) : ∀ {vs ps}, PairsAre news vs ps → ReadsAll s.heap vs (ps.map pairD) []
  | _, _, .nil => .nil
  | _, _, .cons x y hm r => .cons (.tuple (N _ hm).1 rfl rfl (.cons (.str x _) (.cons (.str y _) .nil))) (PairsAre.reads N r)
theorem pair_lay : ∀ ps : List (Str × Str), (∀ p ∈ ps, OkS p.1 ∧ OkS p.2) → PyData.canLayAll0 (ps.map pairD) = true
  | [], _ => rfl
  | p :: r, h => by
    simp [PyData.canLayAll0, PyData.canLay0, pair_lay r fun y hy => h y (.tail _ hy), strOk_of (h p (.head _)).1, strOk_of (h p (.head _)).2]
theorem notin_L {c : Addr} {x y : Str} {t u : Tok} {ps : List (Str × Str)} (N : News h₀ L s.heap news) (ha : (a, tupO [.str x t, .str y u] k) ∈ news) (hc : (c, lstO xs n) ∈ news) (hp : PairsAre news xs ps) (hx : OkS x) (hy : OkS y) (hps : ∀ p ∈ ps, OkS p.1 ∧ OkS p.2) (hu : A.units + 64 < cLine)
    (h : Q (.bool (!ps.any fun p => p == (x, y))) s) : wpAny (model prog w) A (compareOp .NotIn (.ref a) (.ref c)) Q E s := by
  have e : (ps.map pairD).any (fun z => PyData.eqv z (pairD (x, y))) = ps.any fun p => p == (x, y) := by
    rw [List.any_map]
    congr 1
    funext p
    obtain ⟨p1, p2⟩ := p
    show PyData.eqv (.tuple [.str p1, .str p2]) (.tuple [.str x, .str y]) = ((p1, p2) == (x, y))
    simp only [PyData.eqv, PyData.eqvAll, Bool.and_true]
    rfl
  refine SeqAt.notIn_list_reads (xs := ps.map pairD) (d := pairD (x, y)) (.list (N _ hc).1 rfl rfl (hp.reads N)) (.tuple (N _ ha).1 rfl rfl (.cons (.str x _) (.cons (.str y _) .nil))) (pair_lay ps hps) ?_ ?_ ?_
  · simp [PyData.canLay0, PyData.canLayAll0, strOk_of hx, strOk_of hy]
  · have : (pairD (x, y)).depth ≤ 1 := by simp [PyData.depth, PyData.depthAll]
    have h2 := Nat.min_le_right (PyData.depthAll (ps.map pairD)) (pairD (x, y)).depth
    omega
  · rw [e]; exact h
end
end Mine
end
section
open PySem PySem.W PyProof.Rows PySem.Spec PySem.Calls
set_option maxRecDepth 100000
set_option linter.unusedVariables false
namespace Mine
theorem slot_md_get : Slot "method_descriptor" "__get__" "method_descriptor.__get__" :=
  .of (owner := "method_descriptor") (n := "__get__") (by rw [typeLookup_type, builtinLookup_eq_fast]; kernel_rfl) (by decide +kernel) (by decide +kernel) (by decide +kernel)
    (by first | exact .inl (by decide +kernel) | exact .inr (by decide +kernel)) (by rw [isSubtype_type]; kernel_rfl)
theorem md_set_none : typeLookup (.type "method_descriptor") "__set__" = pure none := by rw [typeLookup_type, builtinLookup_eq_fast]; kernel_rfl
theorem md_del_none : typeLookup (.type "method_descriptor") "__delete__" = pure none := by rw [typeLookup_type, builtinLookup_eq_fast]; kernel_rfl
theorem entry_md_get : entryFor table "method_descriptor.__get__" = some Builtin.«method_descriptor.__get__» := entryFor_of_tree (by kernel_rfl)
theorem args_md_get (a b c : Value) : argsOk "method_descriptor.__get__" ⟨[a, b, c], []⟩ := by unfold argsOk; kernel_rfl
theorem sub_app_owner : isSubtype (.type "list") (.type (".".intercalate ("list.append".cutAt '.').dropLast)) = pure true := by
  rw [show ".".intercalate ("list.append".cutAt '.').dropLast = "list" by decide +kernel]; exact PySem.F.sub_list_list
theorem lk_list_append : typeLookup (.type "list") "append" = pure (some (.builtin "list.append")) := by rw [typeLookup_type, builtinLookup_eq_fast]; kernel_rfl
section
variable {prog : Program} {w : World} {A : Around} {E : Value → Shared → Prop} {h : Heap} {g : Array GenState} {d : Drawn} {t : Nat} {os : OsState} {a : Addr} {o : Obj} {vs : List Value} {n : Nat}
theorem app_get {R : Result → Shared → Prop} (hx : h.get? a = some o) (hc : o.cls = .type "list")
    (hq : R (.ok (.ret (.ref h.objs.size))) ⟨h.push { cls := .type "builtin_function_or_method", data := .fields #[.builtin "list.append", .ref a] }, g, d, t, os⟩) :
    codeAny (model prog w) A (.call (.builtin "method_descriptor.__get__") ⟨[.builtin "list.append", .ref a, .type "list"], []⟩) R ⟨h, g, d, t, os⟩ := by
  have hT : (⟨h, g, d, t, os⟩ : Shared).TypeIs (.ref a) "list" := ⟨_, hx, hc⟩
  have hT5 : (⟨h, g, d, t, os⟩ : Shared).TypeIs (.builtin "list.append") "method_descriptor" := F.type_list_append
  have f8 := sub_app_owner
  refine codeAny_call_builtin slot_md_get.plain entry_md_get (slot_md_get.check _ _ _ _ _ _ _ _ hT5 (args_md_get _ _ _) ?_)
  repeat (any_goals (first | assumption | wp_step))
theorem app_entry {tk : Tok} {Q : Fin → Shared → Prop} (hx : h.get? a = some (lstO vs n)) (hq : Q (.done (.ret (.ref h.objs.size))) ⟨h.push { cls := .type "builtin_function_or_method", data := .fields #[.builtin "list.append", .ref a] }, g, d, t, os⟩) :
    wpAny (model prog w) A (Builtin.«object.__getattribute__» ⟨[.ref a, .str "append" tk], []⟩) Q E ⟨h, g, d, t, os⟩ := by
  have hT : (⟨h, g, d, t, os⟩ : Shared).TypeIs (.ref a) "list" := ⟨_, hx, rfl⟩
  have hT5 : (⟨h, g, d, t, os⟩ : Shared).TypeIs (.builtin "list.append") "method_descriptor" := F.type_list_append
  have f4 := lk_list_append
  have f5 := F.type_list_append
  have f6 := slot_md_get.lookup
  have f7 := md_set_none
  have f8 := md_del_none
  repeat (any_goals (first | assumption | wp_step))
  refine app_get hx rfl ?_
  repeat (any_goals (first | assumption | wp_step))
theorem app_call {tk : Tok} {R : Result → Shared → Prop} (hx : h.get? a = some (lstO vs n)) (hq : R (.ok (.ret (.ref h.objs.size))) ⟨h.push { cls := .type "builtin_function_or_method", data := .fields #[.builtin "list.append", .ref a] }, g, d, t, os⟩) :
    codeAny (model prog w) A (.call (.builtin "list.__getattribute__") ⟨[.ref a, .str "append" tk], []⟩) R ⟨h, g, d, t, os⟩ :=
  codeAny_call_builtin F.slot_list_getattribute.plain F.entry_list_ga (F.slot_list_getattribute.check _ _ _ _ _ _ _ _ (show (⟨h, g, d, t, os⟩ : Shared).TypeIs (.ref a) "list" from ⟨_, hx, rfl⟩) (F.args_list_getattribute_2 _ _) (app_entry hx hq))
theorem app_attr {Q : Value → Shared → Prop} (hx : h.get? a = some (lstO vs n)) (hq : Q (.ref h.objs.size) ⟨h.push { cls := .type "builtin_function_or_method", data := .fields #[.builtin "list.append", .ref a] }, g, d, t + 1, os⟩) :
    wpAny (model prog w) A (getAttr (.ref a) "append" true) Q E ⟨h, g, d, t, os⟩ := by
  have hT : (⟨h, g, d, t + 1, os⟩ : Shared).TypeIs (.ref a) "list" := ⟨_, hx, rfl⟩
  have f2 := F.slot_list_getattribute.lookup
  have f3 := F.slot_list_getattribute.bind (.ref a)
  unfold getAttr getAttrBy
  repeat (any_goals (first | assumption | wp_step))
  refine app_call hx ?_
  repeat (any_goals (first | assumption | wp_step))
end
theorem bsig_append : ∃ sig, Manifest.signature? "list.append" = some sig ∧ ∀ (a b : Value), Bind.checkArgs "list.append" { sig with full := s!"{Bind.lastOf "list"}.{Bind.lastOf "list.append"}" } ⟨[a, b], []⟩ = pure () := by
  rw [signature?_of (id := "list.append") (n := ['d', 'n', 'e', 'p', 'p', 'a']) (o := ['t', 's', 'i', 'l']) (by kernel_rfl) F.owner_list]
  refine ⟨_, rfl, fun a b => ?_⟩
  kernel_rfl
abbrev bmO (l : Addr) : Obj := { cls := .type "builtin_function_or_method", data := .fields #[.builtin "list.append", .ref l] }
section
variable {prog : Program} {w : World} {A : Around} {E : Value → Shared → Prop} {s : Shared} {h₀ : Heap} {L l q : Addr} {m : Str → Option Value} {news news' : Led} {vs : List Value} {n : Nat} {env : Env} {pos : Pos}
theorem app_attr_N {Q : Value → Shared → Prop} (F : Fr h₀ L s.heap m) (N : News h₀ L s.heap news) (hm : (l, lstO vs n) ∈ news)
    (h : ∀ q h' tk, Fr h₀ L h' m → News h₀ L h' ((q, bmO l) :: news) → (∀ p ∈ news, p.1 < q) → Q (.ref q) { s with heap := h', toks := tk }) : wpAny (model prog w) A (getAttr (.ref l) "append" true) Q E s := by
  obtain ⟨hp, g, d, t, os⟩ := s
  exact app_attr (N _ hm).1 (h _ _ _ (F.push _) (N.push F _) (fun p hp => Heap.lt_size (N p hp).1))
theorem keeps_B (h : Heap) (X : h.get? q = some (bmO l)) : ∃ k, (k = Keeper.frame ∨ k = Keeper.machine ∨ k = Keeper.boundFrame) ∧ Looks (model prog w) h (keeperOf (.ref q)) k := by
  refine ⟨.machine, .inr (.inl rfl), ?_⟩
  exact (Looks.ld (part := none) X).andThen .now
theorem callWith_B {f : Value} {e : Expr} {rest : List Expr} {Q : Value → Shared → Prop} (_N : News h₀ L s.heap news) (_q : (q, bmO l) ∈ news)
    (h : wpAny (model prog w) A (spliced (backTo pos (starEach (e :: rest) env))) (fun vs s₁ => s₁.heap.get? q = some (bmO l) ∧ wpAny (model prog w) A (call (.ref q) ([] ++ vs)) Q E s₁) E s)
    (he : starEach (e :: rest) env = (false, eval e env) :: starEach rest env := by rfl) (hplain : (backTo pos (starEach rest env)).any (·.1) = false := by rfl) :
    wpAny (model prog w) A (callWith pos (.ref q) [] (backTo pos (starEach (e :: rest) env)) []) Q E s := by
  rw [he] at h ⊢
  exact callWith_of (by show ((false || (backTo pos (starEach rest env)).any (·.1)) || false) = false; rw [hplain]; rfl) keeps_B (Calls.evalArgs_plain h)
theorem call_B {x : Value} {its : Array Value} {Q : Value → Shared → Prop} (F : Fr h₀ L s.heap m) (N : News h₀ L s.heap news) (hq : (q, bmO l) ∈ news) (U : Upd l (listOf its n) (listOf (its.push x) (n + 1)) news news')
    (h : ∀ h', Fr h₀ L h' m → News h₀ L h' news' → Q .none { s with heap := h' }) (hsz : its.size ≤ sizeLine := by size_fits) : wpAny (model prog w) A (call (.ref q) [x]) Q E s := by
  obtain ⟨pre, post, rfl, rfl, a, b⟩ := U.split
  have z := N (l, listOf its n) (List.mem_append.mpr (.inr (.head _)))
  have key : ∀ h' : Heap, Heap.SameBut l s.heap h' → h'.get? l = some (listOf (its.push x) (n + 1)) → Q .none { s with heap := h' } := fun h' hs ho' => h h' (F.change hs z.2.1 z.2.2) (news_set N a b hs ho')
  refine wpAny_call (codeAny_of_tree ?_)
  show wpAny _ _ (callAny (.ref q) ⟨[x], []⟩) _ _ _
  have hT : s.TypeIs (.ref l) "list" := ⟨_, z.1, rfl⟩
  unfold callAny
  refine wpAny_bind (wpAny_load (N _ hq).1 ?_)
  dsimp only
  rw [if_pos (by decide)]
  show wpAny _ _ (checkBoundCall "list.append" ⟨[.ref l, x], []⟩ >>= fun _ => again (.builtin "list.append" ⟨[.ref l, x], []⟩)) _ _ _
  obtain ⟨sig, hs, hck⟩ := bsig_append
  have hkind : builtinKind "list.append" = some .method := by decide +kernel
  have hva : Manifest.varargsMethods.contains "list.append" = false := by decide +kernel
  have f1 : isSubtype (.type "list") (.type "module") = pure false := by rw [isSubtype_type]; kernel_rfl
  refine wpAny_bind ?_
  simp only [checkBoundCall, hs, hkind, hva]
  rw [if_neg (by decide)]
  refine wpAny_bind (m := isInstance (.ref l) (.type "module")) (wpAny_isInstance hT f1 ?_)
  rw [if_neg (by decide)]
  refine wpAny_bind (m := isType (.ref l)) ?_
  refine wpAny_bind (wpAny_load z.1 (wpAny_pure ?_))
  dsimp only
  rw [if_neg (by decide)]
  refine wpAny_bind (m := typeOf (.ref l)) (wpAny_typeOf hT ?_)
  dsimp only
  rw [hck]
  refine wpAny_pure (wpAny_pure ⟨plainId_quiet PySem.F.slot_list_append.plain _, codeAny_builtin PySem.F.entry_list_append ?_⟩)
  show wpAny _ _ (updateSeq l (·.push x) >>= fun _ => ret .none) _ _ s
  refine wpAny_bind ?_
  refine wpAny_updateSeq z.1 rfl (wpAny_pure (key _ (Heap.SameBut.update ..) ?_))
  rw [Heap.get?_update_self _ z.1 (by rw [mapSeq_push]; rfl), mapSeq_push]
end
end Mine
end
section
open PySem PySem.W PyProof.Rows PySem.Spec PySem.Calls
set_option maxRecDepth 100000
set_option linter.unusedVariables false
namespace Mine
theorem entry_sub : entryFor table "re.Pattern.sub" = some Builtin.«re.Pattern.sub» := entryFor_of_tree (by kernel_rfl)
theorem entry_subl : entryFor table "re.Pattern.sub.loop" = some Builtin.«re.Pattern.sub.loop» := entryFor_of_tree (by kernel_rfl)
theorem slot_sub : Slot "re.Pattern" "sub" "re.Pattern.sub" :=
  .of (owner := "re.Pattern") (n := "sub") (by rw [typeLookup_type, builtinLookup_eq_fast]; kernel_rfl) (by decide +kernel) (by decide +kernel) (by decide +kernel)
    (by first | exact .inl (by decide +kernel) | exact .inr (by decide +kernel)) (by rw [isSubtype_type]; kernel_rfl)
theorem type_sub : typeOf (.builtin "re.Pattern.sub") = pure (.type "method_descriptor") := by show builtinType _ = _; rw [builtinType_eq_fast]; kernel_rfl
theorem args_sub (a b c : Value) : argsOk "re.Pattern.sub" ⟨[a, b, c], []⟩ := by unfold argsOk; kernel_rfl
theorem fn_call : typeLookup (.type "function") "__call__" = pure (some (.builtin "function.__call__")) := by rw [typeLookup_type, builtinLookup_eq_fast]; kernel_rfl
theorem plain_subl : plainId "re.Pattern.sub.loop" = true := by decide +kernel
section
variable {w : World} {A : Around} {E : Value → Shared → Prop} {s : Shared} {f : Addr}
theorem look50 (P : Params) : (Mine.hd.heap_39 P).lookup 50 = some { cls := .type "re.Pattern", data := .fields #[.str (Str.ofString "([&~|])") 302, .int 32 337, .int 1 0, .none, .none, .ref 49, .int 0 0] } := by kernel_rfl
noncomputable def tgt (x : Str) (t : Tok) : Builtin.Re.ReTarget := { pattern := .ref 50, string := .str x t, code := #[14, 14, 4, 1, 1, 9, 0, 64, 0, 1342177280, 0, 0, 0, 0, 0, 17, 0, 13, 11, 9, 0, 64, 0, 1342177280, 0, 0, 0, 0, 0, 17, 1, 1], text := x.cps, kind := 0, groups := 1, pos := 0, lim := x.cps.size }
theorem peek_tgt (P : Params) (x : Str) (t : Tok) : peek (Mine.hd.heap_39 P) ⟨prg, P⟩ (Builtin.Re.reWholeTarget (.ref 50) (.str x t)) = some (tgt x t) := by kernel_rfl
theorem next1 (P : Params) (t : Tok) : peek (Mine.hd.heap_39 P) ⟨prg, P⟩ (Builtin.Re.reNextFound (tgt (Str.ofString "*") t) 0 false) = some none := by kernel_rfl
theorem next2 (P : Params) (t : Tok) : peek (Mine.hd.heap_39 P) ⟨prg, P⟩ (Builtin.Re.reNextFound (tgt (Str.ofString "?") t) 0 false) = some none := by kernel_rfl
theorem next3 (P : Params) (t : Tok) : peek (Mine.hd.heap_39 P) ⟨prg, P⟩ (Builtin.Re.reNextFound (tgt (Str.ofString "[") t) 0 false) = some none := by kernel_rfl
open Builtin Builtin.Re in
theorem sub_loop {x : Str} {t : Tok} {l : Addr} {Q : Fin → Shared → Prop} (X : (Mine.hd.heap_39 w.params).In s.heap) (hnx : peek (Mine.hd.heap_39 w.params) ⟨prg, w.params⟩ (Builtin.Re.reNextFound (tgt x t) 0 false) = some none)
    (hx : 0 < x.cps.size) (hx2 : x.cps.size ≤ 100) (hl : s.heap.get? l = some (lstO [] 0)) (h : ∀ t' h' tk, (∀ b o, b ≠ l → s.heap.get? b = some o → h'.get? b = some o) → Q (.done (.ret (.str x t'))) { s with heap := h', toks := tk }) :
    wpAny (model prg w) A (Builtin.«re.Pattern.sub.loop» ⟨[.ref 50, .str x t, .ref f, .int 1 0, .int 0 0, .int 0 0, .int 0 0, .int 0 0, .bool false, .ref l, .bool false], []⟩) Q E s := by
  unfold Builtin.«re.Pattern.sub.loop»
  dsimp only
  refine wpAny_bind ((Looks.of_peek (M := model prg w) X (peek_tgt _ _ _)).here ?_)
  rw [if_neg (by decide)]
  refine wpAny_bind ?_
  rw [if_neg (by decide)]
  refine (Looks.of_peek (M := model prg w) X hnx).here ?_
  dsimp only
  have hex : (⟨x.cps.extract 0 x.cps.size⟩ : Str) = x := Str.ext' (by simp)
  rw [if_pos (show Int.toNat 0 < (tgt x t).lim from hx)]
  refine wpAny_bind (m := mkStr ⟨x.cps.extract 0 x.cps.size⟩) ?_
  rw [hex]
  refine wpAny_mkStr ?_ (Nat.le_trans hx2 (by decide))
  refine wpAny_bind (wpAny_updateSeq hl rfl ?_)
  refine wpAny_bind (m := mkStr ⟨x.cps.extract 0 0⟩) ?_
  rw [show (⟨x.cps.extract 0 0⟩ : Str) = Str.ofString "" from Str.ext' (by simp; decide)]
  refine wpAny_mkStr ?_ (by decide)
  have hl2 : ∀ tk, (s.heap.update l (Obj.mapSeq fun xs => xs.push (Value.str x tk))).get? l = some (lstO [.str x tk] 1) := fun tk => by
    rw [Heap.get?_update_self _ hl (by rw [mapSeq_push]; rfl), mapSeq_push]; rfl
  refine wpAny_bind (m := seqItems? (.ref l)) (wpAny_seqItems (hl2 _) rfl ?_)
  dsimp only [Option.getD_some]
  rw [if_neg (by show ¬ (false = true); decide)]
  refine wpAny_bind ?_
  rw [if_pos (by rfl)]
  have hok : (([x].map (·.length)).sum + [x].length * (Str.ofString "").length ≤ 16777216) := by
    have h0 : (Str.ofString "").length = 0 := by decide
    have h1 : x.length ≤ 100 := hx2
    rw [h0]
    simp only [List.map_cons, List.map_nil, List.sum_cons, List.sum_nil, List.length_cons, List.length_nil]
    omega
  refine join_list (D := l) (items := [Value.str x s.toks].toArray) (ys := [x]) ⟨_, hl2 _, rfl, 1, rfl⟩ (.cons _ _ .nil) hok (fun t' k => ?_)
  rw [if_neg (by decide)]
  refine wpAny_pure ?_
  have hj : Txt.join (Str.ofString "") [x] = x := by unfold Txt.join; rw [StrLaws.glued_eq_join]; rfl
  rw [hj]
  exact h _ _ _ (fun b o hb e => (Heap.get?_update_ne _ _ _ _ hb).trans e)
theorem named_sub (a b : Value) : Builtin.Re.reNamed "re.Pattern.sub" "sub" ["repl", "string", "count"] 2 [a, b] [] = pure [some a, some b, none] := by kernel_rfl
open Builtin Builtin.Re in
theorem sub_call {x : Str} {t : Tok} {of : Obj} {Q : Value → Shared → Prop} (X : (Mine.hd.heap_39 w.params).In s.heap) (hnx : peek (Mine.hd.heap_39 w.params) ⟨prg, w.params⟩ (Builtin.Re.reNextFound (tgt x t) 0 false) = some none)
    (hx : 0 < x.cps.size) (hx2 : x.cps.size ≤ 100) (hf : s.heap.get? f = some of) (hfc : of.cls = .type "function")
    (h : ∀ t' h' tk, (∀ b o, s.heap.get? b = some o → h'.get? b = some o) → Q (.str x t') { s with heap := h', toks := tk }) :
    wpAny (model prg w) A (call (.builtin "re.Pattern.sub") [.ref 50, .ref f, .str x t]) Q E s := by
  have hT : s.TypeIs (.ref 50) "re.Pattern" := ⟨_, X _ _ (look50 _), rfl⟩
  have hTf : s.TypeIs (.ref f) "function" := ⟨_, hf, hfc⟩
  have hTs : s.TypeIs (.str x t) "str" := typeIs_str _ _ _
  have f1 := fn_call
  have f2 : isSubtype (.type "str") (.type "bytearray") = pure false := by rw [isSubtype_type]; kernel_rfl
  refine wpAny_call (codeAny_call_builtin slot_sub.plain entry_sub (slot_sub.check _ _ _ _ _ _ _ _ hT (args_sub _ _ _) ?_))
  unfold Builtin.«re.Pattern.sub» reSubstitute
  dsimp only
  rw [named_sub]
  refine wpAny_bind (wpAny_pure ?_)
  dsimp only
  refine wpAny_bind (wpAny_pure ?_)
  refine wpAny_bind (m := specialOf (.ref f) "__call__") ?_
  unfold specialOf
  refine wpAny_bind (wpAny_typeOf hTf ?_)
  refine wpAny_of_eq f1 ?_
  simp only [Option.isSome_some, if_true]
  refine wpAny_bind (wpAny_pure ?_)
  refine wpAny_bind (wpAny_pure ?_)
  dsimp only
  refine wpAny_bind (wpAny_holding ((Looks.of_peek (M := model prg w) X (peek_tgt _ _ _)).here ?_))
  rw [if_pos (by decide)]
  refine wpAny_bind (m := reNotHeld "re.Pattern.sub" (.str x t)) ?_
  unfold reNotHeld
  refine wpAny_bind (wpAny_isInstance hTs f2 ?_)
  rw [if_neg (by decide)]
  refine wpAny_pure ?_
  refine wpAny_bind (m := newList []) (wpAny_newList ?_)
  refine wpAny_pure ⟨plainId_quiet plain_subl _, codeAny_builtin entry_subl ?_⟩
  have up : ∀ (b : Addr) (o : Obj), s.heap.get? b = some o → (s.heap.push (lstO [] 0)).get? b = some o := fun b o e => Heap.get?_push_of_some _ e
  refine sub_loop (l := s.heap.objs.size) (Frag.In.keeps X up) hnx hx hx2 (Heap.get?_push_size _ rfl) (fun t' h' tk hk => ?_)
  exact h t' h' tk (fun b o e => hk b o (Nat.ne_of_lt (Heap.lt_size e)) (up b o e))
end
end Mine
end
section
open PySem PySem.W PyProof.Rows PySem.Spec PySem.Calls
set_option maxRecDepth 100000
set_option linter.unusedVariables false
namespace Mine
noncomputable def spec52 : List (Nat × Nat × Nat) := [(40, 342, 346), (41, 348, 352), (91, 354, 358), (93, 360, 364), (123, 366, 370), (125, 372, 376), (63, 378, 382), (42, 384, 388), (43, 390, 394), (45, 396, 400), (124, 402, 406), (94, 408, 412), (36, 414, 418), (92, 420, 424), (46, 426, 430), (38, 432, 436), (126, 438, 442), (35, 444, 448), (32, 450, 454), (9, 456, 460), (10, 462, 466), (13, 468, 472), (11, 474, 478), (12, 480, 484)]
noncomputable def ent52 (q : Nat × Nat × Nat) : DictEntry := { hash := (q.1 : Int), key := .int (q.1 : Int) q.2.1, val := .str ⟨#[92, q.1]⟩ q.2.2 }
theorem look52 (P : Params) : (Mine.hd.heap_39 P).lookup 52 = some ⟨.type "dict", none, .dict (spec52.map ent52).toArray 24, #[]⟩ := by kernel_rfl
theorem find_ent (c : Nat) : ∀ l : List (Nat × Nat × Nat), findBy Value.isInt (l.map ent52).toArray (c : Int) = (l.find? (fun q => q.1 == c)).map (fun q => .str ⟨#[92, q.1]⟩ q.2.2) := by
  intro l
  unfold findBy
  rw [List.find?_toArray]
  induction l with
  | nil => rfl
  | cons q r ih =>
    rw [List.map_cons, List.find?_cons, List.find?_cons]
    have e : Value.isInt (c : Int) (ent52 q).key = (q.1 == c) := by
      show ((q.1 : Int) == (c : Int)) = (q.1 == c)
      rw [Bool.eq_iff_iff, beq_iff_eq, beq_iff_eq]
      exact Int.ofNat_inj
    rw [e]
    cases h : (q.1 == c) with
    | true => rfl
    | false => exact ih

theorem hash52 : ∀ q ∈ spec52, (ent52 q).hash = hashInt (q.1 : Int) := by decide +kernel
theorem keys52 {w : World} : PySem.KeysOf (intKind prg w) (spec52.map ent52).toArray := by
  intro e he
  have he' : e ∈ spec52.map ent52 := List.mem_toArray.mp he
  obtain ⟨q, hq, rfl⟩ := List.mem_map.mp he'
  exact ⟨(q.1 : Int), by simp [intKind, Value.isInt, ent52], hash52 q hq⟩
theorem map52 {w : World} {h : Heap} (X : (Mine.hd.heap_39 w.params).In h) : h.MapOf (intKind prg w) 52 (fun k => findBy Value.isInt (spec52.map ent52).toArray k) :=
  ⟨_, _, _, X _ _ (look52 _), ⟨rfl, rfl, rfl⟩, rfl, keys52, fun _ => rfl⟩
section
variable {w : World} {A : Around} {E : Value → Shared → Prop} {s : Shared}
open Builtin Builtin.Str in
theorem tl_found {c tk : Nat} {y : Str} {Q : Mapped → Shared → Prop} (X : (Mine.hd.heap_39 w.params).In s.heap) (hf : findBy Value.isInt (spec52.map ent52).toArray (c : Int) = some (.str y tk))
    (h : Q (.text y) { s with toks := s.toks + 1 + 1 }) : wpAny (model prg w) A (tableLookup (.ref 52) c) Q E s := by
  unfold tableLookup
  refine wpAny_bind (wpAny_attempt (wpAny_bind (wpAny_mkInt ?_)))
  refine wpAny_getItem_of (knd := intKind prg w) (intKind_is prg w (c : Int) _) (map52 X) hf ?_
  refine wpAny_bind (m := asInt? (.str y tk)) (wpAny_pure ?_)
  refine wpAny_bind (m := asStr? (.str y tk)) (wpAny_pure ?_)
  exact wpAny_pure h
open Builtin Builtin.Str in
theorem tl_miss {c : Nat} {Q : Mapped → Shared → Prop} (hh : A.handled = none) (X : (Mine.hd.heap_39 w.params).In s.heap) (hf : findBy Value.isInt (spec52.map ent52).toArray (c : Int) = none)
    (h : ∀ h' tk, (∀ b o, s.heap.get? b = some o → h'.get? b = some o) → Q .keep { s with heap := h', toks := tk }) : wpAny (model prg w) A (tableLookup (.ref 52) c) Q E s := by
  unfold tableLookup
  refine wpAny_bind (wpAny_attempt (wpAny_bind (wpAny_mkInt ?_)))
  refine wpAny_getItem_missing_of (knd := intKind prg w) (intKind_is prg w (c : Int) _) (by decide) hh (map52 X) hf (fun h' e hx => ?_)
  obtain ⟨ob, t, he, hc, _⟩ := hx.there
  refine wpAny_bind (wpAny_isInstance (T := "KeyError") ⟨ob, he, hc⟩ (b := true) ?_ ?_)
  · rw [isSubtype_type]; kernel_rfl
  · exact wpAny_bind (wpAny_rule (wpAny_pure (h _ _ hx.keeps)))

noncomputable def escS (c : Nat) : Str := if spec52.any (fun q => q.1 == c) = true then ⟨#[92, c]⟩ else ⟨#[c]⟩
theorem trans_one {c : Nat} {t : Tok} {Q : Value → Shared → Prop} (hh : A.handled = none) (X : (Mine.hd.heap_39 w.params).In s.heap)
    (h : ∀ t' h' tk, (∀ b o, s.heap.get? b = some o → h'.get? b = some o) → Q (.str (escS c) t') { s with heap := h', toks := tk }) :
    wpAny (model prg w) A (call (.builtin "str.translate") [.str ⟨#[c]⟩ t, .ref 52]) Q E s := by
  refine wpAny_call_entry F.slot_str_translate (typeIs_str _ _ _) F.entry_str_translate ?_ (F.args_str_translate_2 _ _)
  unfold Builtin.«str.translate»
  refine wpAny_bind (m := Builtin.Str.strOneArg "translate" ⟨[.str ⟨#[c]⟩ t, .ref 52], []⟩) (wpAny_pure (a := (Value.str ⟨#[c]⟩ t, (⟨#[c]⟩ : Str), Value.ref 52)) ?_)
  dsimp only
  rw [if_neg (by show ¬ ((1 == 0) = true); decide)]
  refine wpAny_bind ?_
  rw [← Array.forIn_toList]
  rw [List.forIn_cons]
  have ht0 : Builtin.Str.tooLong 0 = false := by decide
  have ht1 : Builtin.Str.tooLong 1 = false := by decide
  have ht2 : Builtin.Str.tooLong 2 = false := by decide
  have hfast : (#[c].all (fun x => decide (x < 128))) = decide (c < 128) := by simp
  dsimp only
  simp only [ht0, hfast, Bool.false_eq_true, if_false, List.lookup_nil]
  have fin1 : ∀ (h' : Heap) (tk : Nat) (b : Bool × List (Nat × Option Nat) × Bool), (∀ b o, s.heap.get? b = some o → h'.get? b = some o) → (escS c = ⟨#[c]⟩) →
      wpAny (model prg w) A.in1 (if Builtin.Str.tooLong (([(⟨#[c]⟩ : Str)], 0 + 1, b) : List Str × Nat × Bool × List (Nat × Option Nat) × Bool).snd.fst = true then (do let _ ← (unsupported "str.translate:memory" : Sem Unit); retStr ⟨(([(⟨#[c]⟩ : Str)], 0 + 1, b) : List Str × Nat × Bool × List (Nat × Option Nat) × Bool).fst.reverse.foldl (fun acc p => acc ++ p.cps) #[]⟩) else retStr ⟨(([(⟨#[c]⟩ : Str)], 0 + 1, b) : List Str × Nat × Bool × List (Nat × Option Nat) × Bool).fst.reverse.foldl (fun acc p => acc ++ p.cps) #[]⟩)
        (fun fin s' => ∃ v, fin = .done (.ret v) ∧ Q v s') E { s with heap := h', toks := tk } := by
    intro h' tk b hk he
    dsimp only
    rw [if_neg (by rw [ht1]; decide)]
    refine wpAny_bind (wpAny_mkStr (wpAny_pure ⟨_, rfl, ?_⟩) (by show (#[] ++ #[c]).size ≤ sizeLine; simp [sizeLine]))
    rw [he] at h
    have e : (⟨List.foldl (fun (acc : Array Nat) (p : Str) => acc ++ p.cps) #[] ([(⟨#[c]⟩ : Str)].reverse)⟩ : Str) = ⟨#[c]⟩ := by simp
    rw [e]
    exact h _ _ _ hk
  cases hf : findBy Value.isInt (spec52.map ent52).toArray (c : Int) with
  | none =>
    have he : escS c = ⟨#[c]⟩ := by
      rw [find_ent, Option.map_eq_none_iff, List.find?_eq_none] at hf
      unfold escS
      rw [if_neg]
      rw [List.any_eq_true]
      rintro ⟨q, hq, e⟩
      exact hf q hq e
    cases hc : decide (c < 128) with
    | true =>
      simp only [if_true]
      refine wpAny_bind (wpAny_bind (tl_miss hh X hf (fun h' tk hk => ?_)))
      dsimp only
      refine wpAny_bind (wpAny_pure ?_)
      dsimp only
      refine wpAny_pure ?_
      dsimp only
      rw [List.forIn_nil]
      refine wpAny_pure ?_
      exact fin1 _ _ _ hk he
    | false =>
      simp only [Bool.false_eq_true, if_false]
      refine wpAny_bind (wpAny_bind (tl_miss hh X hf (fun h' tk hk => ?_)))
      dsimp only
      refine wpAny_pure ?_
      dsimp only
      rw [List.forIn_nil]
      refine wpAny_pure ?_
      exact fin1 _ _ _ hk he
  | some v =>
    have hf' := hf
    rw [find_ent, Option.map_eq_some_iff] at hf'
    obtain ⟨q, hq, rfl⟩ := hf'
    have hm : q ∈ spec52 := List.mem_of_find?_eq_some hq
    have hqc : q.1 = c := beq_iff_eq.mp (List.find?_some (p := fun q : Nat × Nat × Nat => q.1 == c) hq)
    have h128 : ∀ q ∈ spec52, q.1 < 128 := by decide
    have hc : decide (c < 128) = true := decide_eq_true (hqc ▸ h128 q hm)
    rw [hqc] at hf
    have he : escS c = ⟨#[92, c]⟩ := by
      unfold escS
      rw [if_pos]
      rw [List.any_eq_true]
      exact ⟨q, hm, beq_iff_eq.mpr hqc⟩
    rw [hc]
    simp only [if_true]
    refine wpAny_bind (wpAny_bind (tl_found X hf ?_))
    have h2 : (⟨#[92, c]⟩ : Str).length = 2 := rfl
    dsimp only
    simp only [h2, show ((2 : Nat) == 1) = false from rfl, Bool.false_and, Bool.false_eq_true, if_false]
    refine wpAny_bind (wpAny_pure ?_)
    dsimp only
    refine wpAny_bind (wpAny_rule ?_)
    refine wpAny_bind (tl_found X hf ?_)
    dsimp only
    refine wpAny_pure ?_
    dsimp only
    rw [List.forIn_nil]
    refine wpAny_pure ?_
    dsimp only
    rw [h2, if_neg (by rw [show (0 + 2 : Nat) = 2 from rfl, ht2]; decide)]
    refine wpAny_bind (wpAny_mkStr (wpAny_pure ⟨_, rfl, ?_⟩) (by show (#[] ++ #[92, c]).size ≤ sizeLine; simp [sizeLine]))
    rw [he] at h
    have e : (⟨List.foldl (fun (acc : Array Nat) (p : Str) => acc ++ p.cps) #[] ([(⟨#[92, c]⟩ : Str)].reverse)⟩ : Str) = ⟨#[92, c]⟩ := by simp
    rw [e]
    exact h _ _ _ (fun _ _ e => e)
end

theorem trans_F {w : World} {A : Around} {E : Value → Shared → Prop} {s : Shared} {h₀ : Heap} {L : Addr} {m : Str → Option Value} {news : Led} {c : Nat} {t : Tok} {Q : Value → Shared → Prop} (F : Fr h₀ L s.heap m) (N : News h₀ L s.heap news) (X : (Mine.hd.heap_39 w.params).In h₀) (hh : A.handled = none)
    (h : ∀ t' h' tk, Fr h₀ L h' m → News h₀ L h' news → Q (.str (escS c) t') { s with heap := h', toks := tk }) :
    wpAny (model PySem.Challenge.rw_ik0124_01.prog w) A (call (.builtin "str.translate") [.str ⟨#[c]⟩ t, .ref 52]) Q E s :=
  trans_one hh (X.keeps F.keep) fun t' h' tk hk => h t' h' tk (F.keeps hk) (N.grown hk)
section
theorem esc_c (w : World) (c : Nat) (t : Tok) : CtrV w 62 1 40 [.str ⟨#[c]⟩ t] (fun _ => True) (fun v => ∃ t', v = .str (escS c) t') := by
  w_top off
  unfold CtrV
  k_fill
  k_with_none
  (k_with "getMethod str" => (with_reducible refine GM.of (name := "translate") _ (typeIs_str _ _ _) PySem.F.slot_str_translate PySem.F.type_str_translate GM.noRef ?_))
  (k_with "call builtin:str.translate" => (k_here; k_dflt (refine' trans_F ?zqk1 ?zqk2 ?zqk3 ?zqk4 ?_; (case zqk1 => k_asm); (case zqk2 => k_asm); (case zqk3 => k_asm); (case zqk4 => exact rfl); k_whole); intro t' h' tk' F' N'; (try k_sweep)))
  intro p loose mean mg mb dp un gd cn cs a ccd cl outer A₀ base h₀ L m news s Q E B F X N T hk hd hu hp hret
  refine wpAny_call ?_
  k_dflt cell_enter
  k_steps
  all_goals exact hret _ _ _ (by k_asm) (cb_drop (by assumption) (by kcj_all)) ⟨_, rfl⟩
end
end Mine
end
section
open PySem PySem.W PyProof.Rows PySem.Spec PySem.Calls
set_option maxRecDepth 100000
set_option maxHeartbeats 0
set_option linter.unusedVariables false
namespace Mine
inductive PTok | lit (c : Nat) | bar (c : Nat) | star
noncomputable def PTok.txt : PTok → List Nat
  | .lit c => [c]
  | .bar c => [91, c, 93]
  | .star => [42]
noncomputable def PTok.ok : PTok → Prop
  | .lit c => c ≠ 42 ∧ c ≠ 63 ∧ c ≠ 91
  | .bar c => c = 42 ∨ c = 63 ∨ c = 91
  | .star => True
noncomputable def brS (c : Nat) : Str := if c = 91 then ⟨#[91, 92, 91, 93]⟩ else ⟨#[91, c, 93]⟩
noncomputable def At (x : Str) (i : Int) (c : Nat) : Prop := ∃ pre post : List Nat, x.cps.toList = pre ++ c :: post ∧ i = pre.length
section
variable {prog : Program} {w : World} {A : Around} {E : Value → Shared → Prop} {s : Shared} {h₀ : Heap} {L : Addr} {m : Str → Option Value} {news : List (Addr × Obj)} {Q : Value → Shared → Prop}
theorem At.lt {x : Str} {i : Int} {c : Nat} (ha : At x i c) : 0 ≤ i ∧ i < x.length := by
  obtain ⟨pre, post, e, rfl⟩ := ha
  have h1 : x.length = pre.length + (post.length + 1) := by
    show x.cps.size = _
    rw [← Array.length_toList, e, List.length_append, List.length_cons]
  omega
theorem At.item {x : Str} {i : Int} {c : Nat} (ha : At x i c) : Txt.item x i = ⟨#[c]⟩ := by
  obtain ⟨pre, post, e, rfl⟩ := ha
  refine PyProof.Rows.item_meets (by omega) ?_
  rw [← Array.getElem?_toList, e]
  simp
theorem item_at {value slice : Expr} {x : Str} {t u : Tok} {i : Int} {c : Nat} (ha : At x i c) (hl : x.length ≤ 1000)
    (h : ∀ tk, Q (.str ⟨#[c]⟩ s.toks) { s with toks := tk })
    (hs : subscripted slice false (.str x t) (.int i u) = operate [.str x t, .int i u] (getItem (.str x t) (.int i u)) := by with_unfolding_all rfl)
    (ht : ∀ r, letTemporaryGo value (.str x t) r = pure () := by intro _; with_unfolding_all rfl) :
    wpAny (model prog w) A (subscriptTail value slice (.str x t) (.int i u)) Q E s := by
  have hlt := ha.lt
  refine item_str (fitsSsize_of (N := 1000) (by omega) (by omega) (by decide)) (by omega) hlt.2 (fun _ => ?_) hs ht
  rw [ha.item]; exact h _
theorem slice_eq {value slice : Expr} {x y : Str} {t u₁ u₂ : Tok} {i j : Int} (hy : Txt.slice x (some i) (some j) = y) (hF : Fr h₀ L s.heap m) (hN : News h₀ L s.heap news) (hl : x.length ≤ 1000)
    (h : ∀ h' t' k, Fr h₀ L h' m → News h₀ L h' news → Q (.str y t') { s with heap := h', toks := k })
    (hs : subscripted slice false (.str x t) (.ref s.heap.objs.size) = operate [.ref s.heap.objs.size, .str x t] (getItem (.str x t) (.ref s.heap.objs.size)) := by with_unfolding_all rfl)
    (ht : ∀ r, letTemporaryGo value (.str x t) r = pure () := by intro _; with_unfolding_all rfl) :
    wpAny (model prog w) A (subscriptTail value slice (.str x t) (.ref s.heap.objs.size)) Q E { s with heap := s.heap.push { cls := .type "slice", data := .fields #[.int i u₁, .int j u₂, .none] } } := by
  subst hy
  exact slice_strN_ss hF hN h hs ht (Nat.le_trans hl (by decide))
end
section
variable {prog : Program} {w : World} {A : Around} {E : Value → Shared → Prop} {s : Shared} {h₀ : Heap} {L a : Addr} {m : Str → Option Value} {news : List (Addr × Obj)}
theorem truthy_B {its : Array Value} {n : Nat} {b : Bool} {Q : Bool → Shared → Prop} (N : News h₀ L s.heap news) (hm : (a, W.listOf its n) ∈ news) (hfit : its.size ≤ 1000) (hb : (!its.isEmpty) = b)
    (h : ∀ tk, Q b { s with toks := tk }) : wpAny (model prog w) A (truthy (.ref a)) Q E s := by
  subst hb
  exact wpAny_truthy_list ⟨_, (N _ hm).1, rfl, n, rfl⟩ (by omega) (h _)
theorem last_B {value slice : Expr} {its : Array Value} {n : Nat} {v : Value} {vi : List Value} {u : Tok} {Q : Value → Shared → Prop} (N : News h₀ L s.heap news) (hm : (a, W.listOf its n) ∈ news) (hfit : its.size ≤ 1000) (hl : its = (vi ++ [v]).toArray) (h : Q v s)
    (hs : subscripted slice false (.ref a) (.int (-1) u) = operate [.ref a, .int (-1) u] (getItem (.ref a) (.int (-1) u)) := by with_unfolding_all rfl) (hg : ∀ r, letTemporaryGo value (.ref a) r = pure () := by intro _; with_unfolding_all rfl) :
    wpAny (model prog w) A (subscriptTail value slice (.ref a) (.int (-1) u)) Q E s := by
  subst hl
  have hl : s.heap.IsList a (vi ++ [v]).toArray := ⟨_, (N _ hm).1, rfl, n, rfl⟩
  exact subscriptTail_builtin hl.typeIs slot_list_getitem.lookup (wpAny_getItem_list_neg hl (by decide) (by simp; omega) (by decide) (by
    have e : ((-1 : Int) + ((vi ++ [v]).toArray.size : Int)).toNat = vi.length := by simp; omega
    rw [e]; simp) h) hs hg
end
noncomputable def JW (M : Str → Option Value) (NW : Led) (x : Str) (i : Int) (n : Nat) (m : Str → Option Value) (nw : Led) : Prop := nw = NW ∧ ((n = 1 ∧ m = M) ∨ (n = 0 ∧ ∃ t, m = fun y => if y = x then some (.int i t) else M y))
theorem while_once {prog : Program} {w : World} {A : Around} {E : Value → Shared → Prop} {Q : Flow → Shared → Prop} {s : Shared} {env : Env} {h₀ : Heap} {L : Addr} {test : Expr} {body : List Stmt} {pos : Pos} {M : Str → Option Value} {NW : Led} (x : Str) (i : Int)
    (F : Fr h₀ L s.heap M) (N : News h₀ L s.heap NW)
    (turn : ∀ n m₁ news₁ h₁ tk₁, Fr h₀ L h₁ m₁ → News h₀ L h₁ news₁ → JW M NW x i n m₁ news₁ →
      wpAny (model prog w) A (isTrue test env (eval test env)) (fun b s₂ =>
        if b = true then wpAny (model prog w) A (execs body env) (WhileStep h₀ L s (JW M NW x i) n) E s₂ else Q .next s₂) E { s with heap := h₁, toks := tk₁ })
    (hE : PassesOwn (model prog w) A env E := by passes_own) :
    wpAny (model prog w) A (exec (.While test body [] pos) env) Q E s := While_inv (JW M NW x i) (n₀ := 1) F N ⟨rfl, .inl ⟨rfl, rfl⟩⟩ turn hE
theorem repl_none {prog : Program} {w : World} {A : Around} {E : Value → Shared → Prop} {s : Shared} {x y z : Str} {t u v : Tok} {Q : Value → Shared → Prop} (hc : (Builtin.Str.occurrences x y 0 x.length (x.length + 1)).isEmpty = true) (hq : Q (.str x t) s) :
    wpAny (model prog w) A (call (.builtin "str.replace") [.str x t, .str y u, .str z v]) Q E s := by
  refine call_gives F.slot_str_replace (typeIs_str _ _ _) F.entry_str_replace (F.args_str_replace_3 _ _ _) (gives_str_replace x y z t u v fun h => absurd h (by simp [hc])) ?_
  simp only [hc, Bool.true_or, if_true]
  exact hq
theorem plain_pat : PlainAttrs "re.Pattern" :=
  ⟨⟨"object.__getattribute__", by rw [typeLookup_type, builtinLookup_eq_fast]; kernel_rfl, by decide +kernel⟩, by rw [typeLookup_type, builtinLookup_eq_fast]; kernel_rfl⟩
theorem sub_L {w : World} {A : Around} {E : Value → Shared → Prop} {s : Shared} {h₀ : Heap} {L f : Addr} {m : Str → Option Value} {news : Led} {o : Obj} {x : Str} {t : Tok} {Q : Value → Shared → Prop} (F : Fr h₀ L s.heap m) (N : News h₀ L s.heap news) (X : (Mine.hd.heap_39 w.params).In h₀) (hm : (f, o) ∈ news) (hfc : o.cls = .type "function")
    (hnx : ∀ t, peek (Mine.hd.heap_39 w.params) ⟨prg, w.params⟩ (Builtin.Re.reNextFound (tgt x t) 0 false) = some none) (hx : 0 < x.cps.size) (hx2 : x.cps.size ≤ 100)
    (h : ∀ t' h' tk, Fr h₀ L h' m → News h₀ L h' news → Q (.str x t') { s with heap := h', toks := tk }) :
    wpAny (model prg w) A (call (.builtin "re.Pattern.sub") [.ref 50, .ref f, .str x t]) Q E s :=
  sub_call (Frag.In.keeps X F.keep) (hnx t) hx hx2 (N _ hm).1 hfc fun t' h' tk k => h t' h' tk (F.keeps k) (fun p hp => ⟨k _ _ (N p hp).1, (N p hp).2⟩)
theorem get_sub {prog : Program} {w : World} {A : Around} {E : Value → Shared → Prop} {s : Shared} {pl : Sem Bool} {Q : Value × List Value → Shared → Prop} (X : (Mine.hd.heap_39 w.params).In s.heap) (h : Q (.builtin "re.Pattern.sub", [.ref 50]) s) :
    wpAny (model prog w) A (getMethod (.ref 50) "sub" pl) Q E s :=
  getMethod_builtin (T := "re.Pattern") ⟨_, X _ _ (look50 _), rfl⟩ plain_pat slot_sub type_sub (fun a e => by cases e; exact ⟨_, X _ _ (look50 _), rfl⟩) h
inductive PartIs (st : Addr) : Value → PTok → Prop
  | lit (c : Nat) (t : Tok) : PartIs st (.str (escS c) t) (.lit c)
  | bar (c : Nat) (t : Tok) : PartIs st (.str (brS c) t) (.bar c)
  | star : PartIs st (.ref st) .star
inductive PartsAre (st : Addr) : List Value → List PTok → Prop
  | nil : PartsAre st [] []
  | snoc {vs ts v t} : PartsAre st vs ts → PartIs st v t → PartsAre st (vs ++ [v]) (ts ++ [t])
noncomputable def toksTxt (ts : List PTok) : List Nat := ts.flatMap PTok.txt
noncomputable def TabOk (ps : Array Value) : Prop := ps = #[] ∨ ∃ c', ps = #[rawInt 68, rawInt 39, .ref c']
inductive TJX (st l q : Addr) (toks : List PTok) (rest₀ : Led) (n : Nat) (m : Str → Option Value) (news : Led) : Prop
  | mk (done rest : List PTok) (its : Array Value) (k : Nat) (ps : Array Value) (ti : Tok) : toks = done ++ rest → n = rest.length → PartsAre st its.toList done → its.size = done.length → TabOk ps →
    news = (q, bmO l) :: (l, W.listOf its k) :: (64, tabObj ps) :: rest₀ → m (Str.ofString "i") = some (.int ((toksTxt done).length : Int) ti) → TJX st l q toks rest₀ n m news
structure TJ (pat : Str) (t : Tok) (st l q : Addr) (toks : List PTok) (rest₀ : Led) (n : Nat) (m : Str → Option Value) (news : Led) : Prop where
  ex : TJX st l q toks rest₀ n m news
  fpat : m (Str.ofString "pat") = some (.str pat t)
  fst : m (Str.ofString "STAR") = some (.ref st)
  fres : m (Str.ofString "res") = some (.ref l)
  fadd : m (Str.ofString "add") = some (.ref q)
  fn : ∃ tn, m (Str.ofString "n") = some (.int (pat.length : Int) tn)
theorem txt_app (a b : List PTok) : toksTxt (a ++ b) = toksTxt a ++ toksTxt b := List.flatMap_append
theorem txt_le (a : List PTok) : a.length ≤ (toksTxt a).length := by
  induction a with
  | nil => exact Nat.le_refl _
  | cons t r ih =>
    have h : 1 ≤ t.txt.length := by cases t <;> simp [PTok.txt]
    show r.length + 1 ≤ (t.txt ++ toksTxt r).length
    rw [List.length_append]
    omega
theorem tj_close {pat : Str} {t tn ti : Tok} {st l q L' : Addr} {toks done r : List PTok} {a : PTok} {rest₀ all : Led} {its : Array Value} {k' n tk' : Nat} {ps : Array Value} {g h' : Heap} {s : Shared} {m' : Str → Option Value} {v : Value} {i : Int}
    (F : Fr g L' h' m') (N : News g L' h' all) (h2 : (l, W.listOf (its.push v) k') ∈ all) (h1 : (q, bmO l) ∈ all) (h3 : (64, tabObj ps) ∈ all) (h4 : ∀ p ∈ rest₀, p ∈ all) (htk : toks = done ++ a :: r) (hn : n = (a :: r).length)
    (hparts : PartsAre st its.toList done) (hv : PartIs st v a) (hsz : its.size = done.length) (htab : TabOk ps) (hi : m' (Str.ofString "i") = some (.int i ti)) (hie : i = (toksTxt done).length + a.txt.length)
    (fpat : m' (Str.ofString "pat") = some (.str pat t)) (fst : m' (Str.ofString "STAR") = some (.ref st)) (fres : m' (Str.ofString "res") = some (.ref l)) (fadd : m' (Str.ofString "add") = some (.ref q)) (fn : m' (Str.ofString "n") = some (.int (pat.length : Int) tn)) :
    WhileStep g L' s (TJ pat t st l q toks rest₀) n .next { s with heap := h', toks := tk' } := by
  refine WhileStep.intro (n' := r.length) F (news₂ := (q, bmO l) :: (l, W.listOf (its.push v) k') :: (64, tabObj ps) :: rest₀) ?_ (by rw [hn]; exact Nat.lt_succ_self _) ⟨⟨done ++ [a], r, its.push v, k', ps, ti, by rw [htk]; simp, rfl, ?_, ?_, htab, rfl, ?_⟩, fpat, fst, fres, fadd, ⟨tn, fn⟩⟩
  · intro p hp
    rcases List.mem_cons.mp hp with rfl | hp
    · exact N _ h1
    rcases List.mem_cons.mp hp with rfl | hp
    · exact N _ h2
    rcases List.mem_cons.mp hp with rfl | hp
    · exact N _ h3
    exact N _ (h4 _ hp)
  · rw [Array.toList_push]; exact .snoc hparts hv
  · rw [Array.size_push, hsz, List.length_append]; rfl
  · rw [hi, hie, txt_app, List.length_append, show toksTxt [a] = a.txt from List.append_nil _]
    rw [Int.natCast_add]
theorem frK {g h : Heap} {L : Addr} {m : Str → Option Value} {x : Str} {v : Value} (F : Fr g L h m) (hx : m x = some v) : Fr g L h (fun y => if y = x then some v else m y) := by
  have e : (fun y => if y = x then some v else m y) = m := by
    funext y
    by_cases hy : y = x
    · rw [if_pos hy, hy, hx]
    · rw [if_neg hy]
  rw [e]; exact F
theorem truthy_one {prog : Program} {w : World} {A : Around} {E : Value → Shared → Prop} {s : Shared} {c : Nat} {t : Tok} {Q : Bool → Shared → Prop} (h : ∀ k, Q true { s with toks := k }) : wpAny (model prog w) A (truthy (.str ⟨#[c]⟩ t)) Q E s :=
  KXt.truthy rfl (Nat.le_of_ble_eq_true rfl) h
theorem one_ne {y : Str} {c d : Nat} (hy : y = ⟨#[d]⟩) (h : c ≠ d) : ((⟨#[c]⟩ : Str) == y) = false := by
  subst hy
  refine beq_eq_false_iff_ne.mpr fun e => h ?_
  cases e; rfl
theorem parts_last {st : Addr} {vs : List Value} {ts : List PTok} (h : PartsAre st vs ts) : vs = [] ∨ (∃ vi y ty, vs = vi ++ [Value.str y ty]) ∨ ∃ d, ts = d ++ [.star] := by
  cases h with
  | nil => exact .inl rfl
  | snoc _ h =>
    cases h with
    | lit c t => exact .inr (.inl ⟨_, _, _, rfl⟩)
    | bar c t => exact .inr (.inl ⟨_, _, _, rfl⟩)
    | star => exact .inr (.inr ⟨_, rfl⟩)
theorem slice_of {x : Str} {p : List Nat} {ys q : List Nat} {i j : Int} (e : x.cps.toList = p ++ (ys ++ q)) (hi : i = p.length) (hj : j = p.length + ys.length) : Txt.slice x (some i) (some j) = ⟨ys.toArray⟩ := by
  have hl : x.cps.toList.length = p.length + (ys.length + q.length) := by rw [e, List.length_append, List.length_append]
  refine (StrLaws.sliceText_plain ⟨by omega, by omega, by omega⟩).trans ?_
  rw [e, hi, hj]
  have h1 : ((p.length : Int)).toNat = p.length := by omega
  have h2 : ((p.length : Int) + ys.length - p.length).toNat = ys.length := by omega
  rw [h1, h2, List.drop_left, List.take_left]
section
open PySem.W
variable {prog : Program} {w : World} {M : Model} {A : Around} {E : Value → Shared → Prop} {s : Shared} {h₀ : Heap} {L : Addr} {m mg mb : Str → Option Value} {cn : Str} {cs : Scope} {ccd : Value} {cl : List (Str × Addr)} {news : List (Addr × Obj)} {g : Obj → List (Addr × Obj)}
  {p : Program} {loose : List Str} {mean : ExcName → Option Value} {params : Arguments} {body : Expr} {scope : Scope} {ps : Array Value} {pos : Pos} {clos : List (Str × Addr)}
theorem drop2 {h h₀ : Heap} {a b : Addr × Obj} {r : Led} (N : News h₀ L h (a :: b :: r)) : News h₀ L h (a :: r) := fun p hp => N p ((List.mem_cons.mp hp).elim (fun e => e ▸ .head _) fun hp => .tail _ (.tail _ hp))
theorem lam_any {q l a : Addr} {its : Array Value} {k : Nat} {rest₀ : Led} {Q : Value → Shared → Prop} (F : Fr h₀ L s.heap m) (N : News h₀ L s.heap ((q, bmO l) :: (l, W.listOf its k) :: (64, tabObj ps) :: rest₀)) (T : Top p loose mean mg mb h₀) (C : CodeHd h₀ 68 64) (hps : TabOk ps)
    (hq : q ≠ 64) (hl : l ≠ 64) (hoff : ∀ p ∈ rest₀, p.1 ≠ 64) (hl1 : pos.line = 68) (hl2 : pos.col = 39) (hdef : defaultsOf params (envX cn cs L a (.ref 68) cl) = ([], []))
    (hcl : closureFor scope (envX cn cs L a (.ref 68) cl) = pure clos)
    (h : ∀ f oc h' tk ps', TabOk ps' → Fr h₀ L h' m →
      News h₀ L h' ((f, oc) :: (q, bmO l) :: (l, W.listOf its k) :: (64, tabObj ps') :: rest₀) → oc.cls = .type "function" → (∀ p ∈ (q, bmO l) :: (l, W.listOf its k) :: (64, tabObj ps) :: rest₀, p.1 < f) → Q (.ref f) { s with heap := h', toks := tk }) :
    wpAny M A (eval (.Lambda params body scope pos) (envX cn cs L a (.ref 68) cl)) Q E s := by
  refine kla_eval hdef ?_
  rcases hps with rfl | ⟨c', rfl⟩
  · refine kla_nest F N T C rfl (UpdF.tail hq (UpdF.tail hl (UpdF.head hoff))) True.intro rfl hcl (fun f c' oc vs t ctv h' tk F' N' _ _ l1 l2 => ?_)
    rw [hl1, hl2] at N'
    exact h f _ h' tk _ (.inr ⟨c', rfl⟩) F' (drop2 N') rfl fun p hp => Nat.lt_trans (l1 p hp) l2
  · refine kla_hit F N T C rfl (.tail _ (.tail _ (.head _))) (by simp [TriplesOk, rawInt]) (c' := c') ?_ hcl (fun f ctv h' tk F' N' l1 => ?_)
    · simp [codeAmong, rawInt, hl1, hl2]
    · exact h f _ h' tk _ (.inr ⟨c', rfl⟩) F' N' rfl l1
end
theorem bar_facts (P : Params) {c : Nat} (h : PTok.ok (.bar c)) : (Builtin.Str.occurrences (⟨#[c]⟩ : Str) (Str.ofString "-") 0 (⟨#[c]⟩ : Str).length 1).isEmpty = true ∧ (Builtin.Str.occurrences (⟨#[c]⟩ : Str) (Str.ofString "\\") 0 (⟨#[c]⟩ : Str).length ((⟨#[c]⟩ : Str).length + 1)).isEmpty = true ∧
    ∀ t, peek (Mine.hd.heap_39 P) ⟨prg, P⟩ (Builtin.Re.reNextFound (tgt ⟨#[c]⟩ t) 0 false) = some none := by
  rcases h with rfl | rfl | rfl
  · exact ⟨by decide +kernel, by decide +kernel, fun t => next1 P t⟩
  · exact ⟨by decide +kernel, by decide +kernel, fun t => next2 P t⟩
  · exact ⟨by decide +kernel, by decide +kernel, fun t => next3 P t⟩
theorem bar_any {c : Nat} (h : PTok.ok (.bar c)) (h91 : c = 91) : ([Str.ofString "^", Str.ofString "["].any fun x => x == ⟨#[c]⟩) = true := by subst h91; decide
theorem bar_anyN {c : Nat} (h : PTok.ok (.bar c)) (h91 : ¬ c = 91) : ([Str.ofString "^", Str.ofString "["].any fun x => x == ⟨#[c]⟩) = false := by
  rcases h with rfl | rfl | rfl
  · decide
  · decide
  · exact absurd rfl h91
theorem barS_yes {st : Addr} {c : Nat} {t : Tok} (h : c = 91) : PartIs st (.str (Str.empty ++ Str.ofString "[" ++ (Str.ofString "\\" ++ ⟨#[c]⟩) ++ Str.ofString "]") t) (.bar c) := by
  have e : Str.empty ++ Str.ofString "[" ++ (Str.ofString "\\" ++ ⟨#[c]⟩) ++ Str.ofString "]" = brS c := by
    subst h; decide
  rw [e]; exact .bar c t
theorem barS_no {st : Addr} {c : Nat} {t : Tok} (hok : PTok.ok (.bar c)) (h : ¬ c = 91) : PartIs st (.str (Str.empty ++ Str.ofString "[" ++ ⟨#[c]⟩ ++ Str.ofString "]") t) (.bar c) := by
  have e : Str.empty ++ Str.ofString "[" ++ ⟨#[c]⟩ ++ Str.ofString "]" = brS c := by
    rcases hok with rfl | rfl | rfl
    · decide
    · decide
    · exact absurd rfl h
  rw [e]; exact .bar c t
noncomputable def CtrT (w : World) (f : Addr) (d u : Nat) (args : List Value) (news : Led) (post : Value → Led → Prop) : Prop :=
  ∀ (p : Program) (loose : List Str) (mean : ExcName → Option Value) (mg mb : Str → Option Value) (dp un : Nat) (gd : Option (List Code)) (cn : Str) (cs : Scope) (a : Addr) (ccd : Value) (cl : List (Str × Addr)) (outer : List Env) (A₀ : Around)
    (base h₀ : Heap) (L : Addr) (m : Str → Option Value) (s : Shared) (Q E : Value → Shared → Prop),
    Below A₀ base outer h₀ → Fr h₀ L s.heap m → (Mine.hd.heap_39 w.params).In h₀ → CodeHd h₀ 68 64 → News h₀ L s.heap news → Top p loose mean mg mb h₀ → cs.kind = .function → dp + d < recursionLimit → un + u < cLine →
    (∀ (v : Value) (news' : Led) (h' : Heap) (tk' : Nat), Fr h₀ L h' m → News h₀ L h' news' → post v news' → Q v { s with heap := h', toks := tk' }) →
    wpAny (model PySem.Challenge.rw_ik0124_01.prog w) (ktrTop dp un gd cn cs L a ccd cl outer) (call (.ref f) args) Q E s
noncomputable def NoAdj (ts : List PTok) : Prop := ∀ d r, ts ≠ d ++ .star :: .star :: r
inductive TransPost (st : Addr) (toks : List PTok) (rest₀ : Led) (v : Value) (news' : Led) : Prop
  | mk (r : Addr) (its : Array Value) (k : Nat) (ps' : Array Value) : v = .ref r → news' = (r, W.listOf its k) :: (64, tabObj ps') :: rest₀ → TabOk ps' → PartsAre st its.toList toks → its.size = toks.length → (@LT.lt Nat _ 64 r) → (∀ p ∈ rest₀, @LT.lt Nat _ p.1 r) → TransPost st toks rest₀ v news'
end Mine
end
section
open PySem PySem.W PyProof.Rows PySem.Spec PySem.Calls
set_option maxRecDepth 100000
set_option maxHeartbeats 0
set_option linter.unusedVariables false
namespace Mine
inductive PartsC (st : Addr) : List Value → List PTok → Prop
  | nil : PartsC st [] []
  | cons {vs ts v t} : PartIs st v t → PartsC st vs ts → PartsC st (v :: vs) (t :: ts)
theorem PartsC.app {st : Addr} {vs : List Value} {ts : List PTok} {v : Value} {t : PTok} (h : PartIs st v t) (k : PartsC st vs ts) : PartsC st (vs ++ [v]) (ts ++ [t]) :=
  k.rec (.cons h .nil) fun a _ r => .cons a r
theorem PartsC.of {st : Addr} {vs : List Value} {ts : List PTok} (h : PartsAre st vs ts) : PartsC st vs ts := by
  induction h with
  | nil => exact .nil
  | snoc _ a ih => exact PartsC.app a ih
/-- one part of the pattern: the places after it, from the places before it -/
noncomputable def stepP (x : List Nat) (places : List Nat) : PTok → List Nat
  | .star => match places with
    | [] => []
    | p :: _ => (List.range (x.length + 1 - p)).map (p + ·)
  | .lit c => (places.filter fun p => x[p]? == some c).map (· + 1)
  | .bar c => (places.filter fun p => x[p]? == some c).map (· + 1)
noncomputable def takesB (ts : List PTok) (x : List Nat) : Bool := (ts.foldl (stepP x) [0]).contains x.length
noncomputable def AtN (x : Str) (i : Int) (c : Nat) : Prop := ∃ pre post : List Nat, x.cps.toList = pre ++ c :: post ∧ i = -((post.length : Int) + 1)
section
variable {prog : Program} {w : World} {A : Around} {E : Value → Shared → Prop} {s : Shared} {h₀ : Heap} {L a b : Addr} {m : Str → Option Value} {news : List (Addr × Obj)} {Q : Value → Shared → Prop}
theorem item_neg {value slice : Expr} {x : Str} {t u : Tok} {i : Int} {c : Nat} (ha : AtN x i c) (hl : x.length ≤ 1000)
    (h : ∀ tk, Q (.str ⟨#[c]⟩ s.toks) { s with toks := tk })
    (hs : subscripted slice false (.str x t) (.int i u) = operate [.str x t, .int i u] (getItem (.str x t) (.int i u)) := by with_unfolding_all rfl)
    (ht : ∀ r, letTemporaryGo value (.str x t) r = pure () := by intro _; with_unfolding_all rfl) :
    wpAny (model prog w) A (subscriptTail value slice (.str x t) (.int i u)) Q E s := by
  obtain ⟨pre, post, e, hi⟩ := ha
  have hlen : x.length = pre.length + (post.length + 1) := by
    show x.cps.size = _
    rw [← Array.length_toList, e, List.length_append, List.length_cons]
  have hit : Txt.item x i = ⟨#[c]⟩ := by
    refine (eq_of_beq (item_closes_neg (j := (pre.length : Int)) (by omega) (by omega) (by omega))).trans ?_
    have : x.cps.getD ((pre.length : Int).toNat) 0 = c := by
      rw [Array.getD_eq_getD_getElem?, ← Array.getElem?_toList, e]
      simp
    rw [this]
  refine item_str (fitsSsize_of (N := 1001) (by omega) (by omega) (by decide)) (by omega) (by omega) (fun _ => ?_) hs ht
  rw [hit]; exact h _
theorem ne_L {pv : List Value} {ns : List Int} {n : Nat} {bo : Bool} (N : News h₀ L s.heap news) (hm : (a, lstO pv n) ∈ news) (hm2 : (b, W.listOf #[] 0) ∈ news) (hi : IntsAre pv ns) (hu : A.units + 64 < cLine) (hb : (!decide (ns = [])) = bo) (h : Q (.bool bo) s) :
    wpAny (model prog w) A (compareOp .NotEq (.ref a) (.ref b)) Q E s := by
  subst hb
  exact ke_ne_ints (ys := []) ⟨_, (N _ hm).1, rfl, n, rfl⟩ ⟨_, (N _ hm2).1, rfl, 0, rfl⟩ hi .nil hu h
end
section
variable {prog : Program} {w : World} {A : Around} {E : Value → Shared → Prop} {s : Shared} {h₀ : Heap} {L r : Addr} {m : Str → Option Value} {news : List (Addr × Obj)} {Q : Value → Shared → Prop} {t₀ u₀ v₀ : Tok}
theorem lr_L {p0 ln : Nat} (hp : p0 ≤ ln) (hl : ln ≤ 1000) (hh : A.handled = none) (F : Fr h₀ L s.heap m) (N : News h₀ L s.heap news) (hr : IsRange s.heap r (p0 : Int) ((ln : Int) + 1) 1 t₀ u₀ v₀)
    (h : ∀ D us c h' tk, Fr h₀ L h' m → News h₀ L h' ((D, lstO us c) :: news) → (∀ p ∈ news, p.1 < D) → IntsAre us (((List.range (ln + 1 - p0)).map (p0 + ·)).map fun (p : Nat) => (p : Int)) → Q (.ref D) { s with heap := h', toks := tk }) :
    wpAny (model prog w) A (call (.type "list") [.ref r]) Q E s := by
  refine kll_range (n := ln + 1 - p0) hh F N hr (small_one (by omega) (by omega) (by omega) (by omega)) ?_ (by omega) (fun D us c h' tk F' N' l1 hI => h D us c h' tk F' N' l1 ?_)
  · rw [rangeSize_nat]; omega
  · have e : rangeKs (p0 : Int) (ln + 1 - p0) = ((List.range (ln + 1 - p0)).map (p0 + ·)).map fun (p : Nat) => (p : Int) := by
      unfold rangeKs
      rw [List.map_map]
      refine List.map_congr_left fun i _ => ?_
      show (p0 : Int) + (i : Int) = ((p0 + i : Nat) : Int)
      omega
    exact e ▸ hI
end
theorem esc_first {c : Nat} (hc : c ≠ 91) : ∃ d, At (escS c) 0 d ∧ ((⟨#[d]⟩ : Str) == Str.ofString "[") = false := by
  unfold escS
  split
  · exact ⟨92, ⟨[], [c], rfl, rfl⟩, by decide⟩
  · exact ⟨c, ⟨[], [], rfl, rfl⟩, one_ne (by decide) hc⟩
theorem esc_last (c : Nat) : AtN (escS c) (-1) c ∧ (escS c).length ≤ 1000 := by
  unfold escS
  split
  · exact ⟨⟨[92], [], rfl, rfl⟩, by show 2 ≤ 1000; decide⟩
  · exact ⟨⟨[], [], rfl, rfl⟩, by show 1 ≤ 1000; decide⟩
theorem bar_first (c : Nat) : At (brS c) 0 91 ∧ AtN (brS c) (-2) c ∧ (brS c).length ≤ 1000 := by
  unfold brS
  split
  · rename_i h; subst h; exact ⟨⟨[], [92, 91, 93], rfl, rfl⟩, ⟨[91, 92], [93], rfl, rfl⟩, by decide⟩
  · exact ⟨⟨[], [c, 93], rfl, rfl⟩, ⟨[91], [93], rfl, rfl⟩, by show 3 ≤ 1000; decide⟩
noncomputable def keepP (x : List Nat) (c : Nat) (pl : List Nat) : List Nat := (pl.filter fun p => x[p]? == some c).map (· + 1)
theorem part_case {st : Addr} {v : Value} {tk : PTok} (h : PartIs st v tk) (hok : tk.ok) : (v = .ref st ∧ tk = .star) ∨ ∃ y ty c d, v = .str y ty ∧ y.length ≤ 1000 ∧ At y 0 d ∧
    (((⟨#[d]⟩ : Str) == Str.ofString "[") = true ∧ AtN y (-2) c ∨ ((⟨#[d]⟩ : Str) == Str.ofString "[") = false ∧ AtN y (-1) c) ∧ ∀ x pl, stepP x pl tk = keepP x c pl := by
  cases h with
  | star => exact .inl ⟨rfl, rfl⟩
  | lit c t =>
    obtain ⟨hat, hlen⟩ := esc_last c
    obtain ⟨d, had, hd91⟩ := esc_first hok.2.2
    exact .inr ⟨_, t, c, d, rfl, hlen, had, .inr ⟨hd91, hat⟩, fun _ _ => rfl⟩
  | bar c t =>
    obtain ⟨hat0, hat, hlen⟩ := bar_first c
    exact .inr ⟨_, t, c, 91, rfl, hlen, hat0, .inl ⟨by decide, hat⟩, fun _ _ => rfl⟩
section
open PySem.Builtin PySem.Builtin.Str
theorem sliceIdx_hiB (i : Option Int) (len : Nat) {j : Int} (h : (len : Int) ≤ j) : strSliceIndices i (some j) 1 len = strSliceIndices i (some (len : Int)) 1 len := by
  have a : ¬ (j < 0) := by omega
  have b : ¬ ((len : Int) < 0) := by omega
  have c : min j (len : Int) = (len : Int) := by omega
  simp [strSliceIndices, a, b, c]
theorem slice_hiB {x : Str} (i : Option Int) {j : Int} (h : (x.length : Int) ≤ j) : Txt.slice x i (some j) = Txt.slice x i (some (x.length : Int)) := by
  show StrLaws.sliceText x i (some j) = StrLaws.sliceText x i (some (x.length : Int))
  unfold StrLaws.sliceText; rw [sliceIdx_hiB i x.length h]
theorem slice_one (x : Str) (p c : Nat) (hp : p ≤ x.length) : (Txt.slice x (some (p : Int)) (some ((p : Int) + 1)) == (⟨#[c]⟩ : Str)) = (x.cps.toList[p]? == some c) := by
  have hl : x.cps.toList.length = x.length := Array.length_toList
  by_cases h : p < x.length
  · have e : Txt.slice x (some (p : Int)) (some ((p : Int) + 1)) = ⟨((x.cps.toList.drop (p : Int).toNat).take ((p : Int) + 1 - p).toNat).toArray⟩ := StrLaws.sliceText_plain ⟨by omega, by omega, by omega⟩
    have h1 : (p : Int).toNat = p := by omega
    have h2 : ((p : Int) + 1 - p).toNat = 1 := by omega
    rw [e, h1, h2]
    have hg : x.cps.toList[p]? = some (x.cps.toList[p]'(by omega)) := List.getElem?_eq_getElem _
    have hd : x.cps.toList.drop p = x.cps.toList[p]'(by omega) :: x.cps.toList.drop (p + 1) := List.drop_eq_getElem_cons (by omega)
    rw [hg, hd]
    generalize x.cps.toList[p]'(by omega) = b
    show ((⟨#[b]⟩ : Str) == ⟨#[c]⟩) = (some b == some c)
    by_cases hbc : b = c
    · subst hbc; simp
    · rw [beq_eq_false_iff_ne.mpr (fun e => hbc (by cases e; rfl)), beq_eq_false_iff_ne.mpr (fun e => hbc (by cases e; rfl))]
  · have hp' : p = x.length := by omega
    have hg : x.cps.toList[p]? = none := List.getElem?_eq_none (by omega)
    rw [hg, slice_hiB _ (by omega)]
    have e : Txt.slice x (some (p : Int)) (some (x.length : Int)) = ⟨((x.cps.toList.drop (p : Int).toNat).take ((x.length : Int) - p).toNat).toArray⟩ := StrLaws.sliceText_plain ⟨by omega, by omega, by omega⟩
    have h2 : ((x.length : Int) - p).toNat = 0 := by omega
    rw [e, h2, List.take_zero]
    exact beq_eq_false_iff_ne.mpr (fun e => by cases e)
end
theorem off1_lt {d : Addr} : ∀ {l : Led}, AllLt d l → LCg.Off1 d l
  | [], _ => trivial
  | _ :: _, h => ⟨Nat.ne_of_lt h.1, off1_lt h.2⟩
theorem tk_off {I D C1 C2 : Addr} {o o1 o2 oI : Obj} {news : Led} (h1 : @Ne Nat I D) (h2 : @LT.lt Nat _ C2 I) (h3 : @LT.lt Nat _ C1 I) (h4 : AllLt I news) : ∀ p ∈ (D, o) :: (C2, o2) :: (C1, o1) :: news, ∀ q ∈ [(I, oI)], p.1 ≠ q.1 := by
  intro p hp q hq
  rw [List.mem_singleton.mp hq]
  rcases List.mem_cons.mp hp with rfl | hp
  · exact fun e => h1 e.symm
  rcases List.mem_cons.mp hp with rfl | hp
  · exact Nat.ne_of_lt h2
  rcases List.mem_cons.mp hp with rfl | hp
  · exact Nat.ne_of_lt h3
  exact Nat.ne_of_lt (tb_ltOf h4 p hp)
theorem ints_app {vs ws : List Value} {ns ms : List Int} (k : IntsAre vs ns) (h : IntsAre ws ms) : IntsAre (vs ++ ws) (ns ++ ms) :=
  k.rec h fun a t _ _ _ r => .cons a t r
theorem keep_snoc {x : List Nat} {c p i : Nat} {pl : List Nat} (h : pl[i]? = some p) : keepP x c (pl.take (i + 1)) = keepP x c (pl.take i) ++ (if (x[p]? == some c) = true then [p + 1] else []) := by
  have e : pl.take (i + 1) = pl.take i ++ [p] := by rw [List.take_add_one, h]; rfl
  unfold keepP
  rw [e, List.filter_append, List.map_append]
  congr 1
  by_cases hc : (x[p]? == some c) = true
  · simp [hc]
  · simp [hc]
theorem keep_yes {x : Str} {c p i : Nat} {pl : List Nat} {ys : List Value} {t : Tok} (hys : IntsAre ys ((keepP x.cps.toList c (pl.take i)).map fun (p : Nat) => (p : Int))) (h : pl[i]? = some p) (hp : p ≤ x.length) (hc : (Txt.slice x (some (p : Int)) (some ((p : Int) + 1)) == (⟨#[c]⟩ : Str)) = true) :
    IntsAre (ys ++ [.int ((p : Int) + 1) t]) ((keepP x.cps.toList c (pl.take (i + 1))).map fun (p : Nat) => (p : Int)) := by
  rw [slice_one _ _ _ hp] at hc
  rw [keep_snoc h, if_pos hc, List.map_append]
  exact ints_app hys (.cons _ _ .nil)
theorem keep_no {x : Str} {c p i : Nat} {pl : List Nat} {ys : List Value} (hys : IntsAre ys ((keepP x.cps.toList c (pl.take i)).map fun (p : Nat) => (p : Int))) (h : pl[i]? = some p) (hp : p ≤ x.length) (hc : (Txt.slice x (some (p : Int)) (some ((p : Int) + 1)) == (⟨#[c]⟩ : Str)) = false) :
    IntsAre ys ((keepP x.cps.toList c (pl.take (i + 1))).map fun (p : Nat) => (p : Int)) := by
  rw [slice_one _ _ _ hp] at hc
  rw [keep_snoc h, if_neg (ne_true_of_eq_false hc), List.append_nil]
  exact hys
theorem keep_ok {x : Str} {c : Nat} {pl : List Nat} (h1 : ∀ p ∈ pl, p ≤ x.length) (h2 : pl.length ≤ x.length + 1) : (∀ p ∈ keepP x.cps.toList c pl, p ≤ x.length) ∧ (keepP x.cps.toList c pl).length ≤ x.length + 1 := by
  unfold keepP
  refine ⟨fun p hp => ?_, ?_⟩
  · obtain ⟨q, hq, rfl⟩ := List.mem_map.mp hp
    have hq2 := (List.mem_filter.mp hq).2
    have hq3 : x.cps.toList[q]? = some c := eq_of_beq hq2
    obtain ⟨hlt, _⟩ := List.getElem?_eq_some_iff.mp hq3
    rw [Array.length_toList] at hlt
    exact hlt
  · rw [List.length_map]
    exact Nat.le_trans (List.length_filter_le _ _) h2
theorem range_ok {x : Str} {p0 : Nat} (h : p0 ≤ x.length) : (∀ p ∈ (List.range (x.length + 1 - p0)).map (p0 + ·), p ≤ x.length) ∧ ((List.range (x.length + 1 - p0)).map (p0 + ·)).length ≤ x.length + 1 := by
  refine ⟨fun p hp => ?_, ?_⟩
  · obtain ⟨q, hq, rfl⟩ := List.mem_map.mp hp
    have := List.mem_range.mp hq
    show p0 + q ≤ _
    omega
  · rw [List.length_map, List.length_range]; omega
theorem take_all' {pv : List Value} {pl : List Nat} (h : IntsAre pv (pl.map fun (p : Nat) => (p : Int))) : pl.take pv.length = pl := by
  have := IntsAre.length h
  rw [List.length_map] at this
  rw [this, List.take_length]
theorem any_takes (pl : List Nat) (n : Nat) : ((pl.map fun (p : Nat) => (p : Int)).any fun z => z == (n : Int)) = pl.contains n := by
  induction pl with
  | nil => rfl
  | cons a r ih =>
    rw [List.map_cons, List.any_cons, ih, List.contains_cons]
    congr 1
    by_cases h : a = n
    · subst h; simp
    · have h' : ¬ (a : Int) = (n : Int) := by omega
      rw [beq_eq_false_iff_ne.mpr h', beq_eq_false_iff_ne.mpr (fun e => h e.symm)]
open LCt LCg in
theorem compT_ind {prog : Program} {w : World} {A : Around} {h₀ : Heap} {L : Addr} {m : Str → Option Value} {env : Env} {ct elt : Expr} {x : Str} {scope : Scope} {cl : List (Str × Addr)} {s : Shared} {S : List (Addr × Obj) → Prop} {P : Nat → Value → Prop} {Fin : List Value → List (Addr × Obj) → Prop}
    (n : Nat) (J : Nat → List Value → Led → Prop) (zero : ∀ ys news, J n ys news → Fin ys news)
    (succ : ∀ k i ys news, i + (k + 1) = n → J i ys news → (∀ ys' news', J (i + 1) ys' news' → CompRestT prog w A h₀ L m env ct elt x scope cl s S P Fin k (i + 1) ys' news') → CompRestT prog w A h₀ L m env ct elt x scope cl s S P Fin (k + 1) i ys news) (ys : List Value) (news : Led) (h : J 0 ys news) :
    CompRestT prog w A h₀ L m env ct elt x scope cl s S P Fin n 0 ys news :=
  comp_ind n J zero succ n 0 ys news (Nat.zero_add n) h
theorem pv_fit {pv : List Value} {pl : List Nat} (h : IntsAre pv (pl.map fun (p : Nat) => (p : Int))) (hl : pl.length ≤ 1001) : pv.length ≤ sizeLine := by
  have := IntsAre.length h
  rw [List.length_map] at this
  exact Nat.le_trans (by omega) (show 1001 ≤ sizeLine by decide)
theorem ints_at {pv : List Value} {pl : List Nat} (h : IntsAre pv (pl.map fun (p : Nat) => (p : Int))) {i : Nat} {v : Value} (hv : pv.toArray[i]? = some v) : ∃ p u, pl[i]? = some p ∧ v = .int (p : Int) u := by
  rw [List.getElem?_toArray] at hv
  induction pl generalizing pv i with
  | nil => cases h; cases hv
  | cons a r ih =>
    cases h with
    | cons _ t h =>
      cases i with
      | zero => cases hv; exact ⟨a, t, rfl, rfl⟩
      | succ i => exact ih h hv
inductive TkX (st : Addr) (x : Str) (t : Tok) (C1 C2 : Addr) (news : Led) (final : List Nat) (r : List Value) (m : Str → Option Value) (nw : Led) : Prop
  | mk (rest : List PTok) (pl : List Nat) (a : Addr) (pv : List Value) (n : Nat) (oS oT : Obj) (v : Option Value) : PartsC st r rest → (∀ t ∈ rest, t.ok) → rest.foldl (stepP x.cps.toList) pl = final → nw = (a, lstO pv n) :: (C2, oS) :: (C1, oT) :: news → IntsAre pv (pl.map fun (p : Nat) => (p : Int)) → (∀ p ∈ pl, p ≤ x.length) → pl.length ≤ x.length + 1 →
    oS.data = .cell v → oT.data = .cell (some (.str x t)) → (@Ne Nat C2 a ∧ @Ne Nat C1 a ∧ LCg.Off1 a news) → m (Str.ofString "places") = some (.ref a) → TkX st x t C1 C2 news final r m nw
structure TkI (st : Addr) (x : Str) (t : Tok) (C1 C2 : Addr) (news : Led) (final : List Nat) (r : List Value) (m : Str → Option Value) (nw : Led) : Prop where
  ex : TkX st x t C1 C2 news final r m nw
  mst : m (Str.ofString "star") = some (.ref st)
section
local macro_rules | `(tactic| k_all) => `(tactic| with_reducible assumption)
theorem takes_c (w : World) (x : Str) (t : Tok) (st l : Addr) (vs : List Value) (k : Nat) (toks : List PTok) (hx : x.length ≤ 1000) (hp : PartsAre st vs toks) (hok : ∀ t ∈ toks, t.ok) (hts : toks.length ≤ 1000) :
    CtrV w 192 5 200 [.ref l, .ref st, .str x t] (fun nw => (l, lstO vs k) ∈ nw) (fun v => v = .bool (takesB toks x.cps.toList)) := by
  w_top off
  unfold CtrV
  k_fill
  k_with_none
  (k_with "call ref" => (k_here; k_dflt (refine' CtrV.use (fsp_c _ _ _) ?zqk1 ?zqk2 ?zqk3 ?zqk4 ?zqk5 ?zqkK ?zqkd ?zqku ?zqkp ?_; (case zqk1 => k_asm); (case zqk2 => k_asm); (case zqk3 => k_asm); (case zqk4 => k_asm); (case zqk5 => k_asm); (case zqkK => exact rfl); (case zqkd => ktr_room); (case zqku => ktr_units); (case zqkp => trivial); k_whole); intro v9 h9 tk9 F9 N9 hp9; subst hp9; (try dsimp only); (try k_fold)))
  (k_with "compareOp Is str ref" => (k_here; refine wpAny_is_other (by rfl) (by intro x; cases x) ?_))
  (k_with "compareOp Is ref ref" => (k_here; refine wpAny_is_self (by rfl) ?_))
  (k_with "subscriptTail Name Constant str int" => (k_here; k_dflt (refine' item_at ?zqha ?zqhl ?_; (case zqha => assumption); (case zqhl => assumption); k_whole); intro tk9; (try dsimp only)))
  (k_with "subscriptTail Name UnaryOp str int" => (k_here; k_dflt (refine' item_neg ?zqha ?zqhl ?_; (case zqha => assumption); (case zqhl => assumption); k_whole); intro tk9; (try dsimp only)))
  (k_with "ite" => first | ((with_reducible refine ite_no ?zqiteh ?_); (case zqiteh => with_reducible assumption)) | ((with_reducible refine ite_yes ?zqiteh ?_); (case zqiteh => with_reducible assumption)))
  (k_with "compareOp NotEq ref ref" => (k_here; k_dflt (refine' ne_L ?zqN ?zqm ?zqm2 ?zqi ?zqu ?zqb ?_; (case zqN => k_asm); (case zqm => k_mem); (case zqm2 => k_mem); (case zqi => assumption); (case zqu => ke_room); (case zqb => assumption); k_whole); (try dsimp only)))
  (k_with "storeName" => (k_here; k_dflt (refine' storeX_F ?zqF ?zqN ?zqc ?zqU ?zqd ?_ ?zqa ?zqb; (case zqa => rfl); (case zqb => rfl); (case zqF => k_asm); (case zqN => k_asm); (case zqc => rfl); (case zqU => k_updF); (case zqd => k_asm); k_whole); intro h' o' F' N' d'; (try dsimp only at N'); (try k_sweep)))
  (k_with "call type:list" => (k_here; k_dflt (refine' lr_L ?zqhp ?zqhl ?zqhh ?zqF ?zqN ?zqr ?_; (case zqhp => assumption); (case zqhl => assumption); (case zqhh => exact rfl); (case zqF => k_asm); (case zqN => k_asm); (case zqr => assumption); k_whole); intro D9 us9 c9 h9 tk9 F9 N9 l9 hI9; (k_lt l9); (try dsimp only)))
  intro p loose mean mg mb dp un gd cn cs a ccd cl outer A₀ base h₀ L m news s Q E B F X N T hk hd hu hpre hret
  refine wpAny_call ?_
  (refine' code_defC ?k1 ?k2 ?k3 ?k4 ?k5 ?kA ?kF ?kK ?k6 ?k7 ?k8 ?k9 ?kB ?kD ?_ ?c2 ?c3 ?c4; (case kA => exact rfl); (case kF => exact rfl); (case kK => assumption); (case k1 => k_asm); (case k2 => k_asm); (case k3 => k_asm); (case k4 => k_asm); (case k5 => k_asm); (case k6 => k_is); (case k7 => k_is); (case k8 => ktr_room); (case k9 => first | exact BindsTo.of_eq rfl | exact binds_K (by k_in) rfl (by k_is) rfl rfl rfl | fail "k_enter: no rule for these arguments"); (case kB => exact rfl); (case kD => decide +kernel); (case c2 => exact rfl); (case c3 => exact rfl); (case c4 => exact rfl); k_whole; intro g' L' h' tk' cells' FG' F' N' Y' B' X' T' l1; (try k_lt l1); k_cells Y'; (try simp only [List.cons_append, List.nil_append] at N'); (try dsimp only); (try k_lift B'); (try k_fold))
  (repeat' ((fail_if_success (with_reducible show wpAny _ _ (exec (Stmt.Assign _ (Expr.ListComp _ _ _ _) _) _) _ _ _)); (fail_if_success (with_reducible show LCt.CompSrcT _ _ _ _ _ _ _ _ _ _ _ _ _ _ _)); (first | (k_unfold; (try dsimp only)) | (k_end; kc_close) | walk1 | (dsimp only; walk1) | (leave1; (try dsimp only)) | fail "no step")))
  rename_i oS oT dS dT a ha la hb FF NN
  have dT' : oT.data = .cell (some (.str x t)) := dT
  have hoff1 : ∀ p ∈ news, p.1 ≠ L' + 1 := fun p hp => by have := l1 p hp; exact Nat.ne_of_lt (Nat.lt_succ_of_lt this)
  have hoff2 : ∀ p ∈ news, p.1 ≠ L' + 1 + 1 := fun p hp => by have := l1 p hp; exact Nat.ne_of_lt (Nat.lt_succ_of_lt (Nat.lt_succ_of_lt this))
  refine For_turns (by k_asm) ?_
  (repeat' ((fail_if_success (with_reducible show wpAny _ _ (exec (Stmt.Assign _ (Expr.ListComp _ _ _ _) _) _) _ _ _)); (fail_if_success (with_reducible show LCt.CompSrcT _ _ _ _ _ _ _ _ _ _ _ _ _ _ _)); (first | (k_unfold; (try dsimp only)) | (k_end; kc_close) | walk1 | (dsimp only; walk1) | (leave1; (try dsimp only)) | fail "no step")))
  refine iter_listTurns (vs := vs) (n := k) rfl (by k_asm) (by k_asm) (.tail _ (.tail _ (.tail _ hpre))) rfl rfl (fun I hI => ?_)
  refine items_ind (TkI st x t (L' + 1) (L' + 1 + 1) news (toks.foldl (stepP x.cps.toList) [0])) ?nil ?cons _ _ _ ⟨⟨toks, [0], a, [.int 0 _], 0, oS, oT, _, PartsC.of hp, hok, rfl, rfl, ?z1, ?z2, ?z3, dS, dT', ⟨Nat.ne_of_lt la.1, Nat.ne_of_lt la.2.1, off1_lt la.2.2⟩, rfl⟩, rfl⟩
  case z1 => exact .cons _ _ .nil
  case z2 => intro p hp; rw [List.mem_singleton.mp hp]; exact Nat.zero_le _
  case z3 => exact Nat.le_add_left 1 _
  case nil =>
    rintro m₁ news₁ ⟨⟨rest, pl, a, pv, n, oS, oT, v, hpc, hoks, hfin, rfl, hpv, hple, hpll, hoS, hoT, hla, hmp⟩, hms⟩
    cases hpc
    refine ItemsRest.zero (fun h₁ tk₁ F₁ N₁ => ?_)
    replace F₁ := frK F₁ hmp
    (repeat' ((fail_if_success (with_reducible show wpAny _ _ (exec (Stmt.Assign _ (Expr.ListComp _ _ _ _) _) _) _ _ _)); (fail_if_success (with_reducible show LCt.CompSrcT _ _ _ _ _ _ _ _ _ _ _ _ _ _ _)); (first | (k_unfold; (try dsimp only)) | (k_end; kc_close) | walk1 | (dsimp only; walk1) | (leave1; (try dsimp only)) | fail "no step")))
    exact hret _ _ _ (by k_asm) (cb_drop (by assumption) (fun p hp => .tail _ (.tail _ (.tail _ hp)))) (by
      rw [any_takes]
      unfold takesB
      rw [← hfin]; rfl)
  case cons =>
    rintro v r m₁ news₁ ⟨⟨rest, pl, a, pv, n, oS, oT, v, hpc, hoks, hfin, rfl, hpv, hple, hpll, hoS, hoT, hla, hmp⟩, hms⟩ IH
    refine ItemsRest.val (fun h₁ tk₁ F₁ => AllObj.cons fun oI hoI => AllObj.nil fun N₁ => ?_)
    refine abs_post (fun R₁ Q₁ hR₁ => ?_)
    replace F₁ := frK F₁ hmp
    replace F₁ := frK (x := Str.ofString "star") (v := .ref st) F₁ hms
    cases hpc
    rename_i rest a9 hpi hpc
    have l1N := hI
    k_lt l1N
    simp only [List.cons_append, List.nil_append] at N₁
    have hoka := hoks a9 (.head _)
    rcases part_case hpi hoka with ⟨rfl, rfl⟩ | ⟨y, ty, c, d, rfl, hlen, had, hcc, hstep⟩
    rotate_left
    · rcases hcc with ⟨hd, hat⟩ | ⟨hd, hat⟩
      all_goals (repeat' ((fail_if_success (with_reducible show wpAny _ _ (exec (Stmt.Assign _ (Expr.ListComp _ _ _ _) _) _) _ _ _)); (fail_if_success (with_reducible show LCt.CompSrcT _ _ _ _ _ _ _ _ _ _ _ _ _ _ _)); (first | (k_unfold; (try dsimp only)) | (k_end; kc_close) | walk1 | (dsimp only; walk1) | (leave1; (try dsimp only)) | fail "no step")))
      all_goals rename_i o9 F9 N9 d9
      all_goals refine LCt.Assign_ListComp_T (F₀ := by k_asm) (by rfl) (by with_unfolding_all rfl) (by with_unfolding_all rfl) (by decide) (by rfl) (by decide) (by rfl) (by rfl) (by rfl) ?_
      all_goals (repeat' ((fail_if_success (with_reducible show wpAny _ _ (exec (Stmt.Assign _ (Expr.ListComp _ _ _ _) _) _) _ _ _)); (fail_if_success (with_reducible show LCt.CompSrcT _ _ _ _ _ _ _ _ _ _ _ _ _ _ _)); (first | (k_unfold; (try dsimp only)) | (k_end; kc_close) | walk1 | (dsimp only; walk1) | (leave1; (try dsimp only)) | fail "no step")))
      all_goals refine LCt.CompSrcT.ledger (its := pv.toArray) (k := n) (by rfl) (by k_asm) (by k_asm) (by k_mem) (by rw [List.size_toArray]; exact pv_fit hpv (by omega)) ?_
      all_goals intro g9
      all_goals rw [List.size_toArray]
      all_goals refine compT_ind pv.length (fun i ys nw => nw = _ ∧ IntsAre ys ((keepP x.cps.toList c (pl.take i)).map fun (p : Nat) => (p : Int))) ?_ ?_ _ _ ⟨rfl, .nil⟩
      all_goals first
        | (rintro k i ys nw e ⟨rfl, hys⟩ IH
           refine LCt.CompRestT.succ (fun v I9 oI9 C oC D m₂ h₁ tk₁ E' hP hoC hm₂ F₁ N₁ off ne => ?_)
           obtain ⟨p, u, hpi', rfl⟩ := ints_at hpv hP
           have hple' : p ≤ x.length := hple p (List.mem_of_getElem? hpi')
           simp only [LCg.Off3, and_true] at off
           (repeat' ((fail_if_success (with_reducible show wpAny _ _ (exec (Stmt.Assign _ (Expr.ListComp _ _ _ _) _) _) _ _ _)); (fail_if_success (with_reducible show LCt.CompSrcT _ _ _ _ _ _ _ _ _ _ _ _ _ _ _)); (first | (k_unfold; (try dsimp only)) | (k_end; kc_close) | walk1 | (dsimp only; walk1) | (leave1; (try dsimp only)) | fail "no step"))))
        | (rintro ys nw ⟨rfl, hys⟩ D h₁ tk₁ F₁ N₁ o1
           simp only [LCg.Off1] at o1
           dsimp only
           (repeat' ((fail_if_success (with_reducible show wpAny _ _ (exec (Stmt.Assign _ (Expr.ListComp _ _ _ _) _) _) _ _ _)); (fail_if_success (with_reducible show LCt.CompSrcT _ _ _ _ _ _ _ _ _ _ _ _ _ _ _)); (first | (k_unfold; (try dsimp only)) | (k_end; kc_close) | walk1 | (dsimp only; walk1) | (leave1; (try dsimp only)) | fail "no step"))))
      all_goals first
        | exact LCg.CompEnd.intro (by assumption) (by assumption) ((I, oI) :: (a, lstO pv n) :: (L' + 1 + 1, o9) :: (L' + 1, oT) :: news) (fun p hp => hp) off (.inr ⟨_, List.mem_cons_of_mem _ (List.mem_cons_self), rfl, _, rfl⟩) (IH _ _ ⟨rfl, keep_yes hys hpi' hple' (by assumption)⟩)
        | exact LCg.CompEnd.intro (by assumption) (by assumption) ((I, oI) :: (a, lstO pv n) :: (L' + 1 + 1, o9) :: (L' + 1, oT) :: news) (fun p hp => hp) off (.inr ⟨_, List.mem_cons_of_mem _ (List.mem_cons_self), rfl, _, rfl⟩) (IH _ _ ⟨rfl, keep_no hys hpi' hple' (by assumption)⟩)
        | (rw [take_all' hpv] at hys
           refine unrW_end (news' := (D, LCg.lst ys) :: (L' + 1 + 1, o9) :: (L' + 1, oT) :: news) (by assumption) (by assumption) (by intro p hp; simp only [List.singleton_append, List.mem_cons] at hp ⊢; rcases hp with h | h | h | h | h <;> simp only [h, true_or, or_true]) (tk_off o1.1 l1N.2.1 l1N.2.2.1 l1N.2.2.2) (hR₁ _ _ ⟨⟨.tail _ (.tail _ (.tail _ hpre)), trivial⟩, IH _ _ ⟨⟨rest, keepP x.cps.toList c pl, D, ys, _, o9, oT, _, hpc, fun t ht => hoks t (.tail _ ht), ?_, rfl, hys, (keep_ok hple hpll).1, (keep_ok hple hpll).2, d9, hoT, o1.2.2, rfl⟩, rfl⟩⟩)
           rw [← hfin, List.foldl_cons, hstep])
    · cases pl with
      | nil =>
        have hb : (!decide (([] : List Nat).map (fun p : Nat => (p : Int)) = [])) = false := rfl
        (repeat' ((fail_if_success (with_reducible show wpAny _ _ (exec (Stmt.Assign _ (Expr.ListComp _ _ _ _) _) _) _ _ _)); (fail_if_success (with_reducible show LCt.CompSrcT _ _ _ _ _ _ _ _ _ _ _ _ _ _ _)); (first | (k_unfold; (try dsimp only)) | (k_end; kc_close) | walk1 | (dsimp only; walk1) | (leave1; (try dsimp only)) | fail "no step")))
        rename_i l9 h9a ll9 h9b F9 N9
        refine unrW_end (news' := (l9, lstO [] 0) :: (L' + 1 + 1, oS) :: (L' + 1, oT) :: news) F9 N9 (by intro p hp; simp only [List.singleton_append, List.mem_cons] at hp ⊢; rcases hp with h | h | h | h | h <;> simp only [h, true_or, or_true]) (tk_off (Nat.ne_of_lt ll9.2.1) l1N.2.1 l1N.2.2.1 l1N.2.2.2) (hR₁ _ _ ⟨⟨.tail _ (.tail _ (.tail _ hpre)), trivial⟩, IH _ _ ⟨⟨rest, [], l9, [], 0, oS, oT, _, hpc, fun t ht => hoks t (.tail _ ht), ?_, rfl, .nil, (fun p hp => nomatch hp), Nat.zero_le _, hoS, hoT, ⟨Nat.ne_of_lt ll9.2.2.2.1, Nat.ne_of_lt ll9.2.2.2.2.1, off1_lt ll9.2.2.2.2.2⟩, rfl⟩, rfl⟩⟩)
        rw [← hfin]; rfl
      | cons p0 pl =>
        have hb : (!decide ((p0 :: pl).map (fun p : Nat => (p : Int)) = [])) = true := rfl
        have hp0 : p0 ≤ x.length := hple p0 (.head _)
        have hpv' := hpv
        cases hpv'
        (repeat' ((fail_if_success (with_reducible show wpAny _ _ (exec (Stmt.Assign _ (Expr.ListComp _ _ _ _) _) _) _ _ _)); (fail_if_success (with_reducible show LCt.CompSrcT _ _ _ _ _ _ _ _ _ _ _ _ _ _ _)); (first | (k_unfold; (try dsimp only)) | (k_end; kc_close) | walk1 | (dsimp only; walk1) | (leave1; (try dsimp only)) | fail "no step")))
        rename_i D9 us9 c9 h9 tk9 hI9 l9 hh F9 N9
        refine unrW_end (news' := (D9, lstO us9 c9) :: (L' + 1 + 1, oS) :: (L' + 1, oT) :: news) F9 N9 (by intro p hp; simp only [List.singleton_append, List.mem_cons] at hp ⊢; rcases hp with h | h | h | h | h <;> simp only [h, true_or, or_true]) (tk_off (Nat.ne_of_lt l9.2.1) l1N.2.1 l1N.2.2.1 l1N.2.2.2) (hR₁ _ _ ⟨⟨.tail _ (.tail _ (.tail _ hpre)), trivial⟩, IH _ _ ⟨⟨rest, (List.range (x.length + 1 - p0)).map (p0 + ·), D9, us9, c9, oS, oT, _, hpc, fun t ht => hoks t (.tail _ ht), ?_, rfl, hI9, (range_ok hp0).1, (range_ok hp0).2, hoS, hoT, ⟨Nat.ne_of_lt l9.2.2.2.1, Nat.ne_of_lt l9.2.2.2.2.1, off1_lt l9.2.2.2.2.2⟩, rfl⟩, rfl⟩⟩)
        rw [← hfin, List.foldl_cons]
        rfl
end
end Mine
end
section
open PySem PySem.W PyProof.Rows PySem.Spec PySem.Calls
set_option maxRecDepth 100000
set_option maxHeartbeats 0
set_option linter.unusedVariables false
namespace Mine
noncomputable def GoodN (b : Str) : Prop := 0 < b.length ∧ b.length ≤ 2 ∧ ∀ c ∈ b.cps.toList, c ≠ 39 ∧ c ≠ 45 ∧ c ≠ 46 ∧ c ≠ 47 ∧ c < 1114112
noncomputable def TagsOk (ts : List Str) : Prop := 1 ≤ ts.length ∧ ts.length ≤ 3 ∧ ∀ b ∈ ts, GoodN b
theorem good_sign {c : Nat} (hc : c < 1114112) (h : (Builtin.Str.occurrences (Str.ofString "-'/.") { cps := #[c] } 0 (Str.ofString "-'/.").length 1).isEmpty = true) : GoodN { cps := #[c] } := by
  refine ⟨Nat.lt_of_lt_of_le Nat.zero_lt_one (Nat.le_refl 1), Nat.le_succ 1, ?_⟩
  intro d hd
  have hd' : d = c := by simpa using hd
  subst hd'
  refine ⟨?_, ?_, ?_, ?_, hc⟩ <;> (intro e; subst e; revert h; decide +kernel)
theorem good_menu {g : Str} (hg : GoodN g) (x : Int) : GoodN ([Str.ofString "a", Str.ofString "b", Str.ofString "ab", Str.ofString "*", Str.ofString "a?", Str.ofString "[b", Str.ofString "!", g].getD (Int.fmod x 8).toNat Str.empty) := by
  have hk := fmod_bd x (b := 8) (by decide)
  have hi : (Int.fmod x 8).toNat < 8 := by omega
  have h : ∀ b ∈ [Str.ofString "a", Str.ofString "b", Str.ofString "ab", Str.ofString "*", Str.ofString "a?", Str.ofString "[b", Str.ofString "!"], GoodN b := by unfold GoodN; decide +kernel
  rw [List.getD_eq_getElem?_getD, List.getElem?_eq_getElem hi, Option.getD_some]
  rcases List.mem_append.mp (show _ ∈ [Str.ofString "a", Str.ofString "b", Str.ofString "ab", Str.ofString "*", Str.ofString "a?", Str.ofString "[b", Str.ofString "!"] ++ [g] from List.getElem_mem hi) with k | k
  · exact h _ k
  · exact (congrArg GoodN (List.mem_singleton.mp k)).mpr hg
theorem tags_slice {a b c : Str} (ha : GoodN a) (hb : GoodN b) (hc : GoodN c) (t u v : Tok) (x : Int) :
    ∃ vs ts, slicePick #[Value.str a t, Value.str b u, Value.str c v] none (some (1 + Int.fmod x 3)) none = vs.toArray ∧ StrsAre vs ts ∧ TagsOk ts := by
  have hk := fmod_bd x (b := 3) (by decide)
  have h : Int.fmod x 3 = 0 ∨ Int.fmod x 3 = 1 ∨ Int.fmod x 3 = 2 := by omega
  rcases h with h | h | h <;> rw [h]
  · exact ⟨[.str a t], [a], rfl, .cons _ _ .nil, by simp, by simp, fun y hy => by rcases List.mem_cons.mp hy with rfl | hy <;> first | assumption | (cases hy)⟩
  · refine ⟨[.str a t, .str b u], [a, b], rfl, .cons _ _ (.cons _ _ .nil), by simp, by simp, fun y hy => ?_⟩
    simp only [List.mem_cons, List.not_mem_nil, or_false] at hy
    rcases hy with rfl | rfl <;> assumption
  · refine ⟨[.str a t, .str b u, .str c v], [a, b, c], rfl, .cons _ _ (.cons _ _ (.cons _ _ .nil)), by simp, by simp, fun y hy => ?_⟩
    simp only [List.mem_cons, List.not_mem_nil, or_false] at hy
    rcases hy with rfl | rfl | rfl <;> assumption
theorem sign_lt (x : Int) : (Int.fmod x 55296).toNat < 1114112 := by
  have := fmod_bd x (b := 55296) (by decide)
  omega
section
theorem tag_c (w : World) (x : Int) (t : Tok) : CtrO w 182 1 40 [.int x t] (fun _ => True) (fun o => ∃ vs ts, o = lstO vs 0 ∧ StrsAre vs ts ∧ TagsOk ts) := by
  w_top off
  unfold CtrO
  k_fill
  k_with_none
  (k_with "subscriptTail" => (k_here; (with_reducible show wpAny _ _ (subscriptTail _ _ (Value.ref _) (Value.int (Int.fmod _ _) _)) _ _ _); k_dflt (refine' item_S ?zqkN ?zqhm ?zqhi ?zqhk ?zqfit ?_ ?zqhs ?zqhg; (case zqkN => k_asm); (case zqhm => k_mem); (case zqhi => exact rfl); (case zqhk => exact fmod_bd _ (by decide)); (case zqfit => first | decide | (simp only [List.length_cons, List.length_nil]; omega)); (case zqhs => with_unfolding_all rfl); (case zqhg => intro _; with_unfolding_all rfl); k_whole); intro t'))
  intro p loose mean mg mb dp un gd cn cs a ccd cl outer A₀ base h₀ L m news s Q E B F X N T hk hd hu hp hret
  refine wpAny_call ?_
  k_dflt cell_enter
  k_steps
  all_goals (apply ctrO_end hret <;> first | assumption | exact List.Mem.head _ | (intro p hp; exact .tail _ (.tail _ (.tail _ hp))) | (intro q hq; exact Nat.lt_succ_of_lt (Heap.lt_size (‹News _ _ _ (_ :: _ :: news)› q (.tail _ (.tail _ hq))).1)) | skip)
  · obtain ⟨vs, ts, e, h1, h2⟩ := tags_slice (good_menu (good_sign (sign_lt _) ‹_›) (Int.fdiv x 3)) (good_menu (good_sign (sign_lt _) ‹_›) (Int.fdiv x 24)) (good_menu (good_sign (sign_lt _) ‹_›) (Int.fdiv x 192)) _ _ _ x
    exact ⟨vs, ts, by rw [e], h1, h2⟩
  · obtain ⟨vs, ts, e, h1, h2⟩ := tags_slice (good_menu (show GoodN (Str.ofString "c") by unfold GoodN; decide +kernel) (Int.fdiv x 3)) (good_menu (show GoodN (Str.ofString "c") by unfold GoodN; decide +kernel) (Int.fdiv x 24)) (good_menu (show GoodN (Str.ofString "c") by unfold GoodN; decide +kernel) (Int.fdiv x 192)) _ _ _ x
    exact ⟨vs, ts, by rw [e], h1, h2⟩
end
end Mine
end
section
open PySem PySem.W PyProof.Rows PySem.Spec PySem.Calls PyProof.Rows.LCg
set_option maxRecDepth 100000
set_option maxHeartbeats 0
set_option linter.unusedVariables false
namespace Mine
noncomputable def barS (c : Nat) : Str := if c = 42 ∨ c = 63 ∨ c = 91 then ⟨#[91, c, 93]⟩ else ⟨#[c]⟩
theorem barS_len (c : Nat) : (barS c).length ≤ 3 := by
  unfold barS
  split <;> (simp [Str.length])
theorem bar_fits {x : Str} (hx : x.length ≤ 1000) : (((x.cps.toList.map barS).map (·.length)).sum + (x.cps.toList.map barS).length * (Str.ofString "").length ≤ 16777216) := by
  have h1 := sum_map_le 3 (x.cps.toList.map barS) (fun y hy => by obtain ⟨c, _, rfl⟩ := List.mem_map.mp hy; exact barS_len c)
  have h2 : (x.cps.toList.map barS).length = x.length := by simp [Str.length]
  have h3 : (Str.ofString "").length = 0 := by decide
  rw [h2] at h1
  rw [h3, h2]
  omega
theorem bar_yes {c : Nat} (h : (Builtin.Str.occurrences (Str.ofString "*?[") ⟨#[c]⟩ 0 (Str.ofString "*?[").length 1).isEmpty = false) : Str.ofString "[" ++ ⟨#[c]⟩ ++ Str.ofString "]" = barS c := by
  have h1 := of_decide_eq_true (in_menu _ _ h)
  have h2 : c ∈ [42, 63, 91] := h1
  simp only [List.mem_cons, List.not_mem_nil, or_false] at h2
  rw [barS, if_pos h2]
  exact Str.ext' (by show #[91] ++ #[c] ++ #[93] = _; simp)
theorem bar_no {c : Nat} (h : (Builtin.Str.occurrences (Str.ofString "*?[") ⟨#[c]⟩ 0 (Str.ofString "*?[").length 1).isEmpty = true) : (⟨#[c]⟩ : Str) = barS c := by
  have h1 := of_decide_eq_false (in_menu _ _ h)
  have h2 : ¬ c ∈ [42, 63, 91] := h1
  simp only [List.mem_cons, List.not_mem_nil, or_false] at h2
  rw [barS, if_neg h2]
theorem bar_snoc {x : Str} {i c : Nat} {ys : List Value} {y : Str} {t : Tok} (hys : StrsAre ys ((x.cps.toList.take i).map barS)) (hc : x.cps[i]? = some c) (e : y = barS c) : StrsAre (ys ++ [.str y t]) ((x.cps.toList.take (i + 1)).map barS) := by
  have : x.cps.toList.take (i + 1) = x.cps.toList.take i ++ [c] := by
    rw [List.take_add_one]
    rw [Array.getElem?_toList, hc]
    rfl
  rw [this, List.map_append, e]
  exact hys.append' (.cons _ _ .nil)
section
theorem bar_c (w : World) (x : Str) (t : Tok) (hx : x.length ≤ 1000) : CtrV w 187 1 60 [.str x t] (fun _ => True) (fun v => ∃ t', v = .str (Txt.join (Str.ofString "") (x.cps.toList.map barS)) t') := by
  w_top off
  unfold CtrV
  k_fill
  k_with_none
  (k_with "call builtin:str.join" => (k_here; k_dflt (refine' join_L ?zqkN ?zqhm ?zqhi ?zqhok ?_; (case zqkN => k_asm); (case zqhm => k_mem); (case zqhi => assumption); (case zqhok => first | assumption | omega); k_whole); intro t' k'))
  (k_with "eval ListComp" => (k_here; k_dflt (refine ListComp_Str (F₀ := by k_asm) (by with_unfolding_all rfl) (by decide) (by rfl) (by decide) (by rfl) ?_)))
  intro p loose mean mg mb dp un gd cn cs a ccd cl outer A₀ base h₀ L m news s Q E B F X N T hk hd hu hp hret
  refine wpAny_call ?_
  k_dflt cell_enter
  k_steps
  refine ⟨x, t, news, rfl, rfl, by k_asm, by k_asm, Nat.le_trans hx (by decide), ?_⟩
  rintro s₂ ⟨g₂, rfl⟩
  refine comp_ind x.cps.size (fun i ys nw => nw = news ∧ StrsAre ys ((x.cps.toList.take i).map barS)) ?zero ?succ _ 0 [] news (Nat.zero_add _) ⟨rfl, .nil⟩
  case zero =>
    rintro ys nw ⟨rfl, hys⟩ D h₁ tk₁ F₁ N₁ o1
    have hall : x.cps.toList.take x.cps.size = x.cps.toList := StrLaws.take_all x
    rw [hall] at hys
    have hfit := bar_fits hx
    k_steps
    exact hret _ _ _ (by k_asm) (cb_drop (by assumption) (fun p hp => .tail _ hp)) ⟨_, rfl⟩
  case succ =>
    rintro k i ys nw e ⟨rfl, hys⟩ IH
    refine CompRest.succ (fun v I oI C oC D m₂ h₁ tk₁ E' hP hoC hm₂ F₁ N₁ off ne => ?_)
    obtain ⟨c, u, hc, rfl⟩ := hP
    k_steps
    · exact CompEnd.intro F₁ N₁ nw (fun p hp => hp) off trivial (IH _ _ ⟨rfl, bar_snoc hys hc (bar_no ‹_›)⟩)
    · exact CompEnd.intro F₁ N₁ nw (fun p hp => hp) off trivial (IH _ _ ⟨rfl, bar_snoc hys hc (bar_yes ‹_›)⟩)
end
end Mine
end
section
open PySem PySem.W PyProof.Rows PySem.Spec PySem.Calls
set_option maxRecDepth 100000
set_option maxHeartbeats 0
set_option linter.unusedVariables false
namespace Mine
section

noncomputable def joinStep (path b : Str) : Str := if Txt.endswith path (Str.ofString "/") = true then path ++ b else path ++ (Str.ofString "/" ++ b)
inductive JoinI (res : Str) (D : Addr) (vs₀ : List Value) (tS : Tok) (news₀ : Led) (rest : List Value) (m : Str → Option Value) (news : Led) : Prop
  | mk : news = (D, tupO vs₀ 0) :: news₀ → ∀ (ns : List Str) (path : Str) (tP : Tok), StrsAre rest ns → (∀ b ∈ ns, Txt.startswith b (Str.ofString "/") = false ∧ b.length ≤ 100) → m (Str.ofString "path") = some (.str path tP) → m (Str.ofString "sep") = some (.str (Str.ofString "/") tS) →
    path.length ≠ 0 → path.length + 101 * ns.length ≤ 100000 → ns.foldl joinStep path = res → JoinI res D vs₀ tS news₀ rest m news
theorem join_c (w : World) (x : Str) (t : Tok) (vs : List Value) (names : List Str) (hv : StrsAre vs names) (hvs : vs.length ≤ 3) (hx : x.length ≤ 1000) (hx0 : x.length ≠ 0) (hn : ∀ b ∈ names, Txt.startswith b (Str.ofString "/") = false ∧ b.length ≤ 100) :
    CtrV w 163 5 60 (.str x t :: vs) (fun _ => True) (fun v => ∃ t', v = .str (names.foldl joinStep x) t') := by
  w_top off
  unfold CtrV
  k_fill
  k_with_none
  (k_with "call ref" => (k_here; k_dflt (refine' CtrV.use (fsp_c _ _ _) ?zqk1 ?zqk2 ?zqk3 ?zqk4 ?zqk5 ?zqkK ?zqkd ?zqku ?zqkp ?_; (case zqk1 => k_asm); (case zqk2 => k_asm); (case zqk3 => k_asm); (case zqk4 => k_asm); (case zqk5 => k_asm); (case zqkK => exact rfl); (case zqkd => ktr_room); (case zqku => ktr_units); (case zqkp => trivial); k_whole); intro v9 h9 tk9 F9 N9 hp9; subst hp9; (try dsimp only); (try k_fold)))
  (k_with "call ref" => (k_here; k_dflt (refine' CtrV.use (gsep_c _ _ _) ?zqk1 ?zqk2 ?zqk3 ?zqk4 ?zqk5 ?zqkK ?zqkd ?zqku ?zqkp ?_; (case zqk1 => k_asm); (case zqk2 => k_asm); (case zqk3 => k_asm); (case zqk4 => k_asm); (case zqk5 => k_asm); (case zqkK => exact rfl); (case zqkd => ktr_room); (case zqku => ktr_units); (case zqkp => trivial); k_whole); intro v9 h9 tk9 F9 N9 hp9; obtain ⟨t9, hp9⟩ := hp9; subst hp9; (try dsimp only); (try k_fold)))
  (k_with "last loadName" => (k_here; k_dflt (refine' ldn ?zqk1 ?zqk2 ?_; (case zqk1 => k_asm); (case zqk2 => assumption); k_whole)))
  (k_with "ite" => first | ((with_reducible refine ite_no ?zqiteh ?_); (case zqiteh => with_reducible assumption)) | ((with_reducible refine ite_yes ?zqiteh ?_); (case zqiteh => with_reducible assumption)))
  (k_with "last eval Name" => (k_here; k_dflt (refine' ld ?zqk1 ?zqk2 ?_; (case zqk1 => k_asm); (case zqk2 => assumption); k_whole)))
  intro p loose mean mg mb dp un gd cn cs a ccd cl outer A₀ base h₀ L m news s Q E B F X N T hk hd hu hp hret
  refine wpAny_call ?_
  have hvs' : vs.length ≤ sizeLine := Nat.le_trans hvs (by decide)
  (refine' kp_rest ?k1 ?k2 ?k3 ?k4 ?k5 ?kA ?kF ?kK ?k6 ?k7 ?k8 ?kV ?kP ?kG ?kB ?_ ?c2 ?c3 ?c4 ?c5; (case kA => exact rfl); (case kF => exact rfl); (case kK => assumption); (case k1 => k_asm); (case k2 => k_asm); (case k3 => k_asm); (case k4 => k_asm); (case k5 => k_asm); (case k6 => k_is); (case k7 => k_is); (case k8 => ktr_room); (case kV => exact rfl); (case kP => exact bind_rest hvs'); (case kG => exact fun _ => rfl); (case kB => exact fun _ => locs rfl); (case c5 => decide); (case c2 => exact rfl); (case c3 => exact rfl); (case c4 => exact rfl); k_whole; intro D' g' L' h' l1 FG' F' N' B' X' T'; (try dsimp only); (try k_lift B'); (try k_fold))

  k_steps
  refine For_turns (by k_asm) ?_
  k_steps
  refine iter_tupTurns (vs := vs) (n := 0) rfl (by k_asm) (by k_asm) (.head _) rfl rfl (fun I hI => ?_)
  refine items_ind (JoinI (names.foldl joinStep x) D' vs _ news) ?nil ?cons _ _ _ ⟨rfl, names, x, t, hv, hn, rfl, rfl, hx0, ?len, rfl⟩
  case len =>
    have := hv.len_eq
    omega
  case nil =>
    rintro m₁ news₁ ⟨rfl, ns, path, tP, hst, hgood, hpath, hsep, h0, hlen, hres⟩
    cases hst
    refine ItemsRest.zero (fun h₁ tk₁ F₁ N₁ => ?_)
    k_steps
    exact hret _ _ _ (by k_asm) (cb_drop (by assumption) (fun p hp => List.Mem.tail _ hp)) ⟨_, by rw [← hres]; rfl⟩
  case cons =>
    rintro v r m₁ news₁ ⟨rfl, ns, path, tP, hst, hgood, hpath, hsep, h0, hlen, hres⟩ IH
    cases hst
    rename_i b tb ns hst
    have hb := hgood b (List.mem_cons_self ..)
    have hbs := hb.1
    have hbl := hb.2
    have hns : ∀ c ∈ ns, Txt.startswith c (Str.ofString "/") = false ∧ c.length ≤ 100 := fun c hc => hgood c (List.mem_cons_of_mem _ hc)
    rw [List.length_cons] at hlen
    refine ItemsRest.val (fun h₁ tk₁ F₁ => AllObj.cons fun oI hoI => AllObj.nil fun N₁ => ?_)
    refine abs_post (fun R₁ Q₁ hR₁ => ?_)
    k_steps
    all_goals first
      | (exfalso; omega)
      | (apply unrW_end (news' := (D', tupO vs 0) :: news) <;> first | assumption | exact fun p hp => hp | exact off_one hI | skip
         refine hR₁ _ _ ⟨⟨List.Mem.head _, trivial⟩, IH _ _ ⟨rfl, ns, _, _, hst, hns, rfl, hsep, ?_, ?_, ?_⟩⟩
         · simp only [Str.length_append]; omega
         · simp only [Str.length_append]; have : (Str.ofString "/").length = 1 := by decide
           omega
         · rw [← hres, List.foldl_cons]
           congr 1
           unfold joinStep
           simp only [*, if_true, if_false, Bool.false_eq_true])
end
end Mine
end
section
open PySem PySem.W PyProof.Rows PySem.Spec PySem.Calls
set_option maxRecDepth 100000
set_option linter.unusedVariables false
namespace Mine
section
variable {prog : Program} {w : World} {A : Around} {E : Value → Shared → Prop} {s : Shared} {l a b I S : Addr}
theorem min_loop2 {c : Nat} {bt : Bool} {R : Result → Shared → Prop} (hh : A.handled = none) {oa ob : Obj} (ha : s.heap.get? a = some oa) (hb : s.heap.get? b = some ob) (hlI : l ≠ I) (hSI : S ≠ I) (hSl : S ≠ l) (haI : a ≠ I) (haS : a ≠ S) (hbI : b ≠ I) (hbS : b ≠ S)
    (st : s.heap.IsListIter I l 0 ∧ s.heap.IsList l #[.ref a, .ref b]) (hS : s.heap.get? S = some { cls := .type "list", dict := none, data := .seq #[] c, slots := #[] })
    (hcmp : ∀ (s' : Shared) (Q' E' : Value → Shared → Prop), s'.heap.get? a = some oa → s'.heap.get? b = some ob → Q' (.bool bt) s' → wpAny (model prog w) A.in1 (richCompare .Lt (.ref b) (.ref a)) Q' E' s')
    (hR : ∀ h' tk, (∀ c o, c ≠ I → c ≠ S → s.heap.get? c = some o → h'.get? c = some o) → R (.ok (.ret (.ref (if bt = true then b else a)))) { s with heap := h', toks := tk }) :
    codeAny (model prog w) A (.builtin "min.loop" ⟨[.ref I, .none, .ref S], []⟩) R s := by
  have hname : (toString "min" ++ toString ".loop" : String) = "min.loop" := by decide
  have W := Walks.list (prog := prog) (w := w) (A := A.in1) hh I l hlI #[.ref a, .ref b]
  have hSf : S ∉ [I, l] := by simp [hSI, hSl]
  have hSw : S ∉ [I] := by simp [hSI]
  refine codeAny_builtin PySem.F.entry_min_loop ?_
  rw [Around.under_plainId PySem.F.plain_min_loop _]
  show wpAny _ A.in1 (seqItems? (.ref S) >>= _) _ _ s
  refine wpAny_bind (wpAny_seqItems hS rfl ?_)
  show wpAny _ A.in1 (tryCatch (pyNext (.ref I)) _ >>= _) _ _ s
  refine wpAny_bind (wpAny_tryCatch (W.item 0 s _ _ (Nat.zero_lt_succ 1) st fun v h1 tk1 hP st1 hk1 => ?_))
  cases hP
  have hS1 := hk1 S _ hSw hS
  have ha1 := hk1 a _ (by simp [haI]) ha
  have hb1 := hk1 b _ (by simp [hbI]) hb
  show wpAny _ A.in1 (updateSeq S (fun _ => #[.ref a, .ref a]) >>= _) _ _ _
  refine wpAny_bind ?_
  refine wpAny_updateSeq hS1 rfl ?_
  rw [hname]
  refine wpAny_pure ⟨plainId_quiet PySem.F.plain_min_loop _, ?_⟩
  have st1' := W.frame _ _ (h1.update S (Obj.mapSeq fun _ => #[.ref a, .ref a])) st1 fun d hd o e => (Heap.get?_update_other _ _ (fun q : S = d => hSf (by rw [q]; exact hd))).trans e
  have hS1' : (h1.update S (Obj.mapSeq fun _ => #[.ref a, .ref a])).get? S = _ := Heap.get?_update_self _ hS1 rfl
  have ha1' := (Heap.get?_update_other h1 (Obj.mapSeq fun _ => #[.ref a, .ref a]) (Ne.symm haS)).trans ha1
  have hb1' := (Heap.get?_update_other h1 (Obj.mapSeq fun _ => #[.ref a, .ref a]) (Ne.symm hbS)).trans hb1
  have k1 : ∀ c o, c ≠ I → c ≠ S → s.heap.get? c = some o → (h1.update S (Obj.mapSeq fun _ => #[.ref a, .ref a])).get? c = some o := fun d o h2 h3 e => (Heap.get?_update_other _ _ (Ne.symm h3)).trans (hk1 d o (by simp [h2]) e)
  generalize h1.update S (Obj.mapSeq fun _ => #[.ref a, .ref a]) = h2 at st1' hS1' ha1' hb1' k1
  refine codeAny_builtin PySem.F.entry_min_loop ?_
  rw [Around.under_plainId PySem.F.plain_min_loop _]
  show wpAny _ A.in1 (seqItems? (.ref S) >>= _) _ _ _
  refine wpAny_bind (wpAny_seqItems hS1' rfl ?_)
  show wpAny _ A.in1 (tryCatch (pyNext (.ref I)) _ >>= _) _ _ _
  refine wpAny_bind (wpAny_tryCatch (W.item 1 _ _ _ (Nat.lt_succ_self 1) st1' fun v h3 tk3 hP st3 hk3 => ?_))
  cases hP
  have hS3 := hk3 S _ hSw hS1'
  have ha3 := hk3 a _ (by simp [haI]) ha1'
  have hb3 := hk3 b _ (by simp [hbI]) hb1'
  show wpAny _ A.in1 (tryCatch (holding [.ref b, .ref b] (richCompare .Lt (.ref b) (.ref a) >>= _)) _ >>= _) _ _ _
  refine wpAny_bind (wpAny_tryCatch (wpAny_holding (wpAny_bind (hcmp _ _ _ ha3 hb3 ?_))))
  refine wpAny_bind (wpAny_holding (wpAny_truthy_bool ?_))
  refine wpAny_bind (wpAny_letGo (wpAny_pure ?_))
  have fin : ∀ (h4 : Heap) (v : Value) (c4 : Nat), h4.IsListIter I l 2 ∧ h4.IsList l #[.ref a, .ref b] → h4.get? S = some { cls := .type "list", dict := none, data := .seq #[v, v] c4, slots := #[] } → v = .ref (if bt = true then b else a) →
      (∀ c o, c ≠ I → c ≠ S → s.heap.get? c = some o → h4.get? c = some o) → codeAny (model prog w) A (.builtin "min.loop" ⟨[.ref I, .none, .ref S], []⟩) R { s with heap := h4, toks := tk3 } := by
    intro h4 v c4 st4 hS4 hv k4
    refine codeAny_builtin PySem.F.entry_min_loop ?_
    rw [Around.under_plainId PySem.F.plain_min_loop _]
    show wpAny _ A.in1 (seqItems? (.ref S) >>= _) _ _ _
    refine wpAny_bind (wpAny_seqItems hS4 rfl ?_)
    show wpAny _ A.in1 (tryCatch (pyNext (.ref I)) _ >>= _) _ _ _
    refine wpAny_bind (wpAny_tryCatch (W.done _ _ _ st4 fun h5 tk5 hk5 => ?_))
    have hS5 := hk5 S _ hSw hS4
    show wpAny _ A.in1 (updateSeq S (fun _ => #[]) >>= _) _ _ _
    refine wpAny_bind ?_
    refine wpAny_updateSeq hS5 rfl (wpAny_bind (wpAny_letGo (wpAny_pure ?_)))
    rw [hv]
    exact hR _ tk5 fun d o h2 h3 e => (Heap.get?_update_other _ _ (Ne.symm h3)).trans (hk5 d o (by simp [h2]) (k4 d o h2 h3 e))
  have k3 : ∀ c o, c ≠ I → c ≠ S → s.heap.get? c = some o → h3.get? c = some o := fun d o h2 h3 e => hk3 d o (by simp [h2]) (k1 d o h2 h3 e)
  cases bt with
  | true =>
    simp only [if_true]
    refine wpAny_bind ?_
    refine wpAny_updateSeq hS3 rfl (wpAny_bind (wpAny_letGo ?_))
    rw [hname]
    refine wpAny_pure ⟨plainId_quiet PySem.F.plain_min_loop _, fin _ (.ref b) _ (W.frame _ _ _ st3 fun d hd o e => (Heap.get?_update_other _ _ (fun q : S = d => hSf (by rw [q]; exact hd))).trans e) (Heap.get?_update_self _ hS3 rfl) rfl fun d o h2 h3 e => (Heap.get?_update_other _ _ (Ne.symm h3)).trans (k3 d o h2 h3 e)⟩
  | false =>
    simp only [Bool.false_eq_true, if_false]
    refine wpAny_bind (wpAny_letGo ?_)
    rw [hname]
    exact wpAny_pure ⟨plainId_quiet PySem.F.plain_min_loop _, fin _ (.ref a) _ st3 hS3 rfl k3⟩
theorem min_two {n : Nat} {bt : Bool} {Q : Value → Shared → Prop} (hh : A.handled = none) (hl : s.heap.get? l = some (lstO [.ref a, .ref b] n)) {oa ob : Obj} (ha : s.heap.get? a = some oa) (hb : s.heap.get? b = some ob)
    (hcmp : ∀ (s' : Shared) (Q' E' : Value → Shared → Prop), s'.heap.get? a = some oa → s'.heap.get? b = some ob → Q' (.bool bt) s' → wpAny (model prog w) A.in1 (richCompare .Lt (.ref b) (.ref a)) Q' E' s')
    (h : ∀ h' tk, (∀ c o, s.heap.get? c = some o → h'.get? c = some o) → Q (.ref (if bt = true then b else a)) { s with heap := h', toks := tk }) :
    wpAny (model prog w) A (call (.builtin "min") [.ref l]) Q E s := by
  have hname : (toString "min" ++ toString ".loop" : String) = "min.loop" := by decide
  refine call_function_tree PySem.F.kind_min PySem.F.plain_min PySem.F.entry_min (PySem.F.args_min1 _) ?_
  show wpAny _ A.in1 (Builtin.Builtins.bindParams "min" ["key", "default"] 0 ⟨[], []⟩ >>= _) _ _ s
  refine wpAny_bind (wpAny_of_eq (show Builtin.Builtins.bindParams "min" ["key", "default"] 0 ⟨[], []⟩ = pure [none, none] from rfl) ?_)
  refine wpAny_bind (wpAny_pure ?_)
  refine wpAny_bind (wpAny_pyIter_list ⟨_, hl, rfl, n, rfl⟩ ?_)
  refine wpAny_bind (wpAny_newObj_type ?_)
  rw [hname]
  have lt : ∀ {c : Addr} {o : Obj}, s.heap.get? c = some o → c ≠ s.heap.objs.size := fun e => Nat.ne_of_lt (Heap.lt_size e)
  have hsz : (s.heap.push { cls := .type "list_iterator", data := .fields #[.ref l, .int 0 0] }).objs.size = s.heap.objs.size + 1 := Heap.size_push ..
  have lt1 : ∀ {c : Addr} {o : Obj}, s.heap.get? c = some o → c ≠ (s.heap.push { cls := .type "list_iterator", data := .fields #[.ref l, .int 0 0] }).objs.size := fun e => by
    rw [hsz]; exact Nat.ne_of_lt (Nat.lt_succ_of_lt (Heap.lt_size e))
  have up : ∀ {c : Addr} {o : Obj}, s.heap.get? c = some o → ((s.heap.push { cls := .type "list_iterator", data := .fields #[.ref l, .int 0 0] }).push { cls := .type "list", data := .seq ([] : List Value).toArray }).get? c = some o := fun e => Heap.get?_push_of_some _ (Heap.get?_push_of_some _ e)
  refine wpAny_pure ⟨plainId_quiet PySem.F.plain_min_loop _, min_loop2 (l := l) hh (up ha) (up hb) (lt hl) (by rw [hsz]; exact Nat.ne_of_gt (Nat.lt_succ_self _)) (Ne.symm (lt1 hl)) (lt ha) (lt1 ha) (lt hb) (lt1 hb)
    ⟨⟨_, Heap.get?_push_of_some _ (Heap.get?_push_size _ rfl), rfl, rfl⟩, ⟨_, up hl, rfl, n, rfl⟩⟩ (Heap.get?_push_size _ rfl) hcmp fun h' tk k => h h' tk fun c o e => k c o (lt e) (lt1 e) (up e)⟩
theorem max_loop2 {c : Nat} {bt : Bool} {R : Result → Shared → Prop} (hh : A.handled = none) {oa ob : Obj} (ha : s.heap.get? a = some oa) (hb : s.heap.get? b = some ob) (hlI : l ≠ I) (hSI : S ≠ I) (hSl : S ≠ l) (haI : a ≠ I) (haS : a ≠ S) (hbI : b ≠ I) (hbS : b ≠ S)
    (st : s.heap.IsListIter I l 0 ∧ s.heap.IsList l #[.ref a, .ref b]) (hS : s.heap.get? S = some { cls := .type "list", dict := none, data := .seq #[] c, slots := #[] })
    (hcmp : ∀ (s' : Shared) (Q' E' : Value → Shared → Prop), s'.heap.get? a = some oa → s'.heap.get? b = some ob → Q' (.bool bt) s' → wpAny (model prog w) A.in1 (richCompare .Gt (.ref b) (.ref a)) Q' E' s')
    (hR : ∀ h' tk, (∀ c o, c ≠ I → c ≠ S → s.heap.get? c = some o → h'.get? c = some o) → R (.ok (.ret (.ref (if bt = true then b else a)))) { s with heap := h', toks := tk }) :
    codeAny (model prog w) A (.builtin "max.loop" ⟨[.ref I, .none, .ref S], []⟩) R s := by
  have hname : (toString "max" ++ toString ".loop" : String) = "max.loop" := by decide
  have W := Walks.list (prog := prog) (w := w) (A := A.in1) hh I l hlI #[.ref a, .ref b]
  have hSf : S ∉ [I, l] := by simp [hSI, hSl]
  have hSw : S ∉ [I] := by simp [hSI]
  refine codeAny_builtin PySem.F.entry_max_loop ?_
  rw [Around.under_plainId PySem.F.plain_max_loop _]
  show wpAny _ A.in1 (seqItems? (.ref S) >>= _) _ _ s
  refine wpAny_bind (wpAny_seqItems hS rfl ?_)
  show wpAny _ A.in1 (tryCatch (pyNext (.ref I)) _ >>= _) _ _ s
  refine wpAny_bind (wpAny_tryCatch (W.item 0 s _ _ (Nat.zero_lt_succ 1) st fun v h1 tk1 hP st1 hk1 => ?_))
  cases hP
  have hS1 := hk1 S _ hSw hS
  have ha1 := hk1 a _ (by simp [haI]) ha
  have hb1 := hk1 b _ (by simp [hbI]) hb
  show wpAny _ A.in1 (updateSeq S (fun _ => #[.ref a, .ref a]) >>= _) _ _ _
  refine wpAny_bind ?_
  refine wpAny_updateSeq hS1 rfl ?_
  rw [hname]
  refine wpAny_pure ⟨plainId_quiet PySem.F.plain_max_loop _, ?_⟩
  have st1' := W.frame _ _ (h1.update S (Obj.mapSeq fun _ => #[.ref a, .ref a])) st1 fun d hd o e => (Heap.get?_update_other _ _ (fun q : S = d => hSf (by rw [q]; exact hd))).trans e
  have hS1' : (h1.update S (Obj.mapSeq fun _ => #[.ref a, .ref a])).get? S = _ := Heap.get?_update_self _ hS1 rfl
  have ha1' := (Heap.get?_update_other h1 (Obj.mapSeq fun _ => #[.ref a, .ref a]) (Ne.symm haS)).trans ha1
  have hb1' := (Heap.get?_update_other h1 (Obj.mapSeq fun _ => #[.ref a, .ref a]) (Ne.symm hbS)).trans hb1
  have k1 : ∀ c o, c ≠ I → c ≠ S → s.heap.get? c = some o → (h1.update S (Obj.mapSeq fun _ => #[.ref a, .ref a])).get? c = some o := fun d o h2 h3 e => (Heap.get?_update_other _ _ (Ne.symm h3)).trans (hk1 d o (by simp [h2]) e)
  generalize h1.update S (Obj.mapSeq fun _ => #[.ref a, .ref a]) = h2 at st1' hS1' ha1' hb1' k1
  refine codeAny_builtin PySem.F.entry_max_loop ?_
  rw [Around.under_plainId PySem.F.plain_max_loop _]
  show wpAny _ A.in1 (seqItems? (.ref S) >>= _) _ _ _
  refine wpAny_bind (wpAny_seqItems hS1' rfl ?_)
  show wpAny _ A.in1 (tryCatch (pyNext (.ref I)) _ >>= _) _ _ _
  refine wpAny_bind (wpAny_tryCatch (W.item 1 _ _ _ (Nat.lt_succ_self 1) st1' fun v h3 tk3 hP st3 hk3 => ?_))
  cases hP
  have hS3 := hk3 S _ hSw hS1'
  have ha3 := hk3 a _ (by simp [haI]) ha1'
  have hb3 := hk3 b _ (by simp [hbI]) hb1'
  show wpAny _ A.in1 (tryCatch (holding [.ref b, .ref b] (richCompare .Gt (.ref b) (.ref a) >>= _)) _ >>= _) _ _ _
  refine wpAny_bind (wpAny_tryCatch (wpAny_holding (wpAny_bind (hcmp _ _ _ ha3 hb3 ?_))))
  refine wpAny_bind (wpAny_holding (wpAny_truthy_bool ?_))
  refine wpAny_bind (wpAny_letGo (wpAny_pure ?_))
  have fin : ∀ (h4 : Heap) (v : Value) (c4 : Nat), h4.IsListIter I l 2 ∧ h4.IsList l #[.ref a, .ref b] → h4.get? S = some { cls := .type "list", dict := none, data := .seq #[v, v] c4, slots := #[] } → v = .ref (if bt = true then b else a) →
      (∀ c o, c ≠ I → c ≠ S → s.heap.get? c = some o → h4.get? c = some o) → codeAny (model prog w) A (.builtin "max.loop" ⟨[.ref I, .none, .ref S], []⟩) R { s with heap := h4, toks := tk3 } := by
    intro h4 v c4 st4 hS4 hv k4
    refine codeAny_builtin PySem.F.entry_max_loop ?_
    rw [Around.under_plainId PySem.F.plain_max_loop _]
    show wpAny _ A.in1 (seqItems? (.ref S) >>= _) _ _ _
    refine wpAny_bind (wpAny_seqItems hS4 rfl ?_)
    show wpAny _ A.in1 (tryCatch (pyNext (.ref I)) _ >>= _) _ _ _
    refine wpAny_bind (wpAny_tryCatch (W.done _ _ _ st4 fun h5 tk5 hk5 => ?_))
    have hS5 := hk5 S _ hSw hS4
    show wpAny _ A.in1 (updateSeq S (fun _ => #[]) >>= _) _ _ _
    refine wpAny_bind ?_
    refine wpAny_updateSeq hS5 rfl (wpAny_bind (wpAny_letGo (wpAny_pure ?_)))
    rw [hv]
    exact hR _ tk5 fun d o h2 h3 e => (Heap.get?_update_other _ _ (Ne.symm h3)).trans (hk5 d o (by simp [h2]) (k4 d o h2 h3 e))
  have k3 : ∀ c o, c ≠ I → c ≠ S → s.heap.get? c = some o → h3.get? c = some o := fun d o h2 h3 e => hk3 d o (by simp [h2]) (k1 d o h2 h3 e)
  cases bt with
  | true =>
    simp only [if_true]
    refine wpAny_bind ?_
    refine wpAny_updateSeq hS3 rfl (wpAny_bind (wpAny_letGo ?_))
    rw [hname]
    refine wpAny_pure ⟨plainId_quiet PySem.F.plain_max_loop _, fin _ (.ref b) _ (W.frame _ _ _ st3 fun d hd o e => (Heap.get?_update_other _ _ (fun q : S = d => hSf (by rw [q]; exact hd))).trans e) (Heap.get?_update_self _ hS3 rfl) rfl fun d o h2 h3 e => (Heap.get?_update_other _ _ (Ne.symm h3)).trans (k3 d o h2 h3 e)⟩
  | false =>
    simp only [Bool.false_eq_true, if_false]
    refine wpAny_bind (wpAny_letGo ?_)
    rw [hname]
    exact wpAny_pure ⟨plainId_quiet PySem.F.plain_max_loop _, fin _ (.ref a) _ st3 hS3 rfl k3⟩
theorem max_two {n : Nat} {bt : Bool} {Q : Value → Shared → Prop} (hh : A.handled = none) (hl : s.heap.get? l = some (lstO [.ref a, .ref b] n)) {oa ob : Obj} (ha : s.heap.get? a = some oa) (hb : s.heap.get? b = some ob)
    (hcmp : ∀ (s' : Shared) (Q' E' : Value → Shared → Prop), s'.heap.get? a = some oa → s'.heap.get? b = some ob → Q' (.bool bt) s' → wpAny (model prog w) A.in1 (richCompare .Gt (.ref b) (.ref a)) Q' E' s')
    (h : ∀ h' tk, (∀ c o, s.heap.get? c = some o → h'.get? c = some o) → Q (.ref (if bt = true then b else a)) { s with heap := h', toks := tk }) :
    wpAny (model prog w) A (call (.builtin "max") [.ref l]) Q E s := by
  have hname : (toString "max" ++ toString ".loop" : String) = "max.loop" := by decide
  refine call_function_tree PySem.F.kind_max PySem.F.plain_max PySem.F.entry_max (PySem.F.args_max1 _) ?_
  show wpAny _ A.in1 (Builtin.Builtins.bindParams "max" ["key", "default"] 0 ⟨[], []⟩ >>= _) _ _ s
  refine wpAny_bind (wpAny_of_eq (show Builtin.Builtins.bindParams "max" ["key", "default"] 0 ⟨[], []⟩ = pure [none, none] from rfl) ?_)
  refine wpAny_bind (wpAny_pure ?_)
  refine wpAny_bind (wpAny_pyIter_list ⟨_, hl, rfl, n, rfl⟩ ?_)
  refine wpAny_bind (wpAny_newObj_type ?_)
  rw [hname]
  have lt : ∀ {c : Addr} {o : Obj}, s.heap.get? c = some o → c ≠ s.heap.objs.size := fun e => Nat.ne_of_lt (Heap.lt_size e)
  have hsz : (s.heap.push { cls := .type "list_iterator", data := .fields #[.ref l, .int 0 0] }).objs.size = s.heap.objs.size + 1 := Heap.size_push ..
  have lt1 : ∀ {c : Addr} {o : Obj}, s.heap.get? c = some o → c ≠ (s.heap.push { cls := .type "list_iterator", data := .fields #[.ref l, .int 0 0] }).objs.size := fun e => by
    rw [hsz]; exact Nat.ne_of_lt (Nat.lt_succ_of_lt (Heap.lt_size e))
  have up : ∀ {c : Addr} {o : Obj}, s.heap.get? c = some o → ((s.heap.push { cls := .type "list_iterator", data := .fields #[.ref l, .int 0 0] }).push { cls := .type "list", data := .seq ([] : List Value).toArray }).get? c = some o := fun e => Heap.get?_push_of_some _ (Heap.get?_push_of_some _ e)
  refine wpAny_pure ⟨plainId_quiet PySem.F.plain_max_loop _, max_loop2 (l := l) hh (up ha) (up hb) (lt hl) (by rw [hsz]; exact Nat.ne_of_gt (Nat.lt_succ_self _)) (Ne.symm (lt1 hl)) (lt ha) (lt1 ha) (lt hb) (lt1 hb)
    ⟨⟨_, Heap.get?_push_of_some _ (Heap.get?_push_size _ rfl), rfl, rfl⟩, ⟨_, up hl, rfl, n, rfl⟩⟩ (Heap.get?_push_size _ rfl) hcmp fun h' tk k => h h' tk fun c o e => k c o (lt e) (lt1 e) (up e)⟩
end
end Mine
end
section
open PySem PySem.W PyProof.Rows PySem.Spec PySem.Calls
open PySem.AutoSeq1 (wpAny_loadPart')
open PySem.MeetsSeq PySem.MeetsSeq2 PySem.MeetsSeq3
set_option maxRecDepth 100000
set_option linter.unusedVariables false
namespace Mine
theorem str_at {X : List Value} {xs : List Str} (h : StrsAre X xs) (i : Nat) : (X.toArray[((i : Nat) : Int).toNat]? = none ∧ xs[i]? = none) ∨ ∃ x t, X.toArray[((i : Nat) : Int).toNat]? = some (.str x t) ∧ xs[i]? = some x := by
  have e : ((i : Nat) : Int).toNat = i := by omega
  rw [e, List.getElem?_toArray]
  induction h generalizing i with
  | nil => exact .inl ⟨rfl, rfl⟩
  | cons a u _ ih =>
    cases i with
    | zero => exact .inr ⟨a, u, rfl, rfl⟩
    | succ i =>
      have e' : ((i : Nat) : Int).toNat = i := by omega
      exact ih i e'
noncomputable def ltL : List Str → List Str → Bool
  | [], ys => decide (0 < ys.length)
  | x :: xs, [] => decide (xs.length + 1 < 0)
  | x :: xs, y :: ys => if x == y then ltL xs ys else decide (x.cps.toList < y.cps.toList)
theorem ltL_base {xs ys : List Str} {i : Nat} (hx : i ≤ xs.length) (hy : i ≤ ys.length) (h : xs[i]? = none ∨ ys[i]? = none) : ltL (xs.drop i) (ys.drop i) = decide (xs.length < ys.length) := by
  rcases h with h | h
  · have h1 := List.getElem?_eq_none_iff.mp h
    have h2 : xs.drop i = [] := List.drop_eq_nil_of_le h1
    rw [h2]
    show decide (0 < (ys.drop i).length) = _
    rw [List.length_drop]
    congr 1
    simp only [gt_iff_lt, eq_iff_iff]
    omega
  · have h1 := List.getElem?_eq_none_iff.mp h
    have h2 : ys.drop i = [] := List.drop_eq_nil_of_le h1
    rw [h2]
    cases hd : xs.drop i with
    | nil =>
      have h3 := List.drop_eq_nil_iff.mp hd
      show decide (0 < 0) = _
      congr 1
      simp only [gt_iff_lt, eq_iff_iff]
      omega
    | cons a r =>
      have h3 : (xs.drop i).length = r.length + 1 := by rw [hd]; rfl
      rw [List.length_drop] at h3
      show decide (r.length + 1 < 0) = _
      congr 1
      simp only [gt_iff_lt, eq_iff_iff]
      omega
theorem ltL_loop (l b : Addr) (X Y : List Value) (n n2 : Nat) (xs ys : List Str) (hX : StrsAre X xs) (hY : StrsAre Y ys) (k : Nat) :
    ∀ i : Nat, i ≤ xs.length → i ≤ ys.length → xs.length - i = k → Meets (Builtin.«list.__eq__.loop» ⟨[.ref l, .ref b, rawInt i, rawInt 0], []⟩)
      (fun A R s => s.heap.get? l = some (lstO X n) ∧ s.heap.get? b = some (lstO Y n2) ∧ R (.ok (.ret (.bool (ltL (xs.drop i) (ys.drop i))))) s) := by
  have eX : X.length = xs.length := hX.len_eq
  have eY : Y.length = ys.length := hY.len_eq
  induction k with
  | zero =>
    intro i hx hy hk prog w A R s h
    obtain ⟨hp, g, d, tk, os⟩ := s; obtain ⟨hl, hb, h⟩ := h
    have hn : xs[i]? = none := List.getElem?_eq_none (by omega)
    rw [ltL_base hx hy (.inl hn)] at h
    wp_walk using wpAny_loadPart' hl, wpAny_loadPart' hb
    rcases str_at hX i with ⟨h1, h2⟩ | ⟨x, t, h1, h2⟩
    · rw [h1]
      wp_walk using wpAny_loadPart' hl, wpAny_loadPart' hb
      show R (.ok (.ret (.bool (decide (X.toArray.size < Y.toArray.size))))) _
      rw [List.size_toArray, List.size_toArray, eX, eY]
      exact h
    · rw [hn] at h2; cases h2
  | succ k ih =>
    intro i hx hy hk prog w A R s h
    obtain ⟨hp, g, d, tk, os⟩ := s; obtain ⟨hl, hb, h⟩ := h
    wp_walk using wpAny_loadPart' hl, wpAny_loadPart' hb
    rcases str_at hX i with ⟨h1, h2⟩ | ⟨x, t, h1, h2⟩
    · have := List.getElem?_eq_none_iff.mp h2
      omega
    rcases str_at hY i with ⟨h3, h4⟩ | ⟨y, u, h3, h4⟩
    · rw [ltL_base hx hy (.inr h4)] at h
      rw [h1, h3]
      wp_walk using wpAny_loadPart' hl, wpAny_loadPart' hb
      show R (.ok (.ret (.bool (decide (X.toArray.size < Y.toArray.size))))) _
      rw [List.size_toArray, List.size_toArray, eX, eY]
      exact h
    obtain ⟨g1, e1⟩ := List.getElem?_eq_some_iff.mp h2
    obtain ⟨g2, e2⟩ := List.getElem?_eq_some_iff.mp h4
    have d1 : xs.drop i = x :: xs.drop (i + 1) := by rw [List.drop_eq_getElem_cons g1, e1]
    have d2 : ys.drop i = y :: ys.drop (i + 1) := by rw [List.drop_eq_getElem_cons g2, e2]
    rw [d1, d2] at h
    rw [h1, h3]
    refine wpAny_bind (PyProof.Rows.eqBool_str ?_)
    cases hxy : x == y with
    | true =>
      have h' : R (.ok (.ret (.bool (ltL (xs.drop (i + 1)) (ys.drop (i + 1)))))) ⟨hp, g, d, tk, os⟩ := by
        have e : ltL (x :: xs.drop (i + 1)) (y :: ys.drop (i + 1)) = ltL (xs.drop (i + 1)) (ys.drop (i + 1)) := by
          show (if x == y then _ else _) = _
          rw [if_pos hxy]
        rw [e] at h; exact h
      wp_walk
      rw [show ((i : Int) + 1) = ((i + 1 : Nat) : Int) by push_cast; rfl]
      exact ⟨plainId_quiet plain_eq_loop _, codeAny_builtin entry_eq_loop (by
        rw [Around.under_plainId plain_eq_loop _]
        exact ih (i + 1) (by omega) (by omega) (by omega) prog w A R _ ⟨hl, hb, h'⟩)⟩
    | false =>
      have h' : R (.ok (.ret (.bool (decide (x.cps.toList < y.cps.toList))))) ⟨hp, g, d, tk, os⟩ := by
        have e : ltL (x :: xs.drop (i + 1)) (y :: ys.drop (i + 1)) = decide (x.cps.toList < y.cps.toList) := by
          show (if x == y then _ else _) = _
          rw [if_neg (ne_true_of_eq_false hxy)]
        rw [e] at h; exact h
      wp_walk using wpAny_loadPart' hl, wpAny_loadPart' hb
      rw [h1, h3]
      refine wpAny_bind (richCompare_gives (op := .Lt) (typeIs_str _ x t) (typeIs_str _ y u) PySem.F.slot_str_lt PySem.F.entry_str_lt (PySem.F.args_str_lt_2 _ _) (gives_str_lt x y t u) (fun e => nomatch e) ?_)
      show wpAny (model prog w) A.in1 (ret _) _ _ _
      exact wpAny_pure h'
theorem ltL_call (l b : Addr) (X Y : List Value) (n n2 : Nat) (xs ys : List Str) (hX : StrsAre X xs) (hY : StrsAre Y ys) :
    Meets (Builtin.«list.__lt__» ⟨[.ref l, .ref b], []⟩)
      (fun A R s => s.heap.get? l = some (lstO X n) ∧ s.heap.get? b = some (lstO Y n2) ∧ R (.ok (.ret (.bool (ltL xs ys)))) s) := by
  intro prog w A R s h
  obtain ⟨hp, g, d, tk, os⟩ := s; obtain ⟨hl, hb, h⟩ := h
  wp_walk using wpAny_loadPart' hl, wpAny_loadPart' hb
  show wpAny _ _ (isSubtype (.type "list") (.type "list")) _ _ _
  refine wpAny_of_eq PySem.F.sub_list_list ?_
  wp_walk using wpAny_loadPart' hl, wpAny_loadPart' hb
  exact ⟨plainId_quiet plain_eq_loop _, codeAny_builtin entry_eq_loop (by
        rw [Around.under_plainId plain_eq_loop _]
        exact ltL_loop l b X Y n n2 xs ys hX hY _ 0 (Nat.zero_le _) (Nat.zero_le _) rfl prog w A R _ ⟨hl, hb, h⟩)⟩
theorem ltL_rich {prog : Program} {w : World} {A : Around} {E Q : Value → Shared → Prop} {s : Shared} {l b : Addr} {X Y : List Value} {n n2 : Nat} {xs ys : List Str} (hX : StrsAre X xs) (hY : StrsAre Y ys) (hl : s.heap.get? l = some (lstO X n)) (hb : s.heap.get? b = some (lstO Y n2)) (hu : A.units < cLine)
    (h : Q (.bool (ltL xs ys)) s) : wpAny (model prog w) A (richCompare .Lt (.ref l) (.ref b)) Q E s := by
  refine wpAny_richCompare_same_room ⟨_, hl, rfl⟩ ⟨_, hb, rfl⟩ PySem.F.slot_list_lt ?_ hu
  refine call_meets PySem.F.slot_list_lt ⟨_, hl, rfl⟩ PySem.F.entry_list_lt (PySem.F.args_list_lt_2 _ _) (ltL_call l b X Y n n2 xs ys hX hY) ?_
  exact ⟨hl, hb, fun e => (nomatch e), h⟩
noncomputable def gtL : List Str → List Str → Bool
  | [], ys => decide (0 > ys.length)
  | x :: xs, [] => decide (xs.length + 1 > 0)
  | x :: xs, y :: ys => if x == y then gtL xs ys else decide (y.cps.toList < x.cps.toList)
theorem gtL_base {xs ys : List Str} {i : Nat} (hx : i ≤ xs.length) (hy : i ≤ ys.length) (h : xs[i]? = none ∨ ys[i]? = none) : gtL (xs.drop i) (ys.drop i) = decide (xs.length > ys.length) := by
  rcases h with h | h
  · have h1 := List.getElem?_eq_none_iff.mp h
    have h2 : xs.drop i = [] := List.drop_eq_nil_of_le h1
    rw [h2]
    show decide (0 > (ys.drop i).length) = _
    rw [List.length_drop]
    congr 1
    simp only [gt_iff_lt, eq_iff_iff]
    omega
  · have h1 := List.getElem?_eq_none_iff.mp h
    have h2 : ys.drop i = [] := List.drop_eq_nil_of_le h1
    rw [h2]
    cases hd : xs.drop i with
    | nil =>
      have h3 := List.drop_eq_nil_iff.mp hd
      show decide (0 > 0) = _
      congr 1
      simp only [gt_iff_lt, eq_iff_iff]
      omega
    | cons a r =>
      have h3 : (xs.drop i).length = r.length + 1 := by rw [hd]; rfl
      rw [List.length_drop] at h3
      show decide (r.length + 1 > 0) = _
      congr 1
      simp only [gt_iff_lt, eq_iff_iff]
      omega
theorem gtL_loop (l b : Addr) (X Y : List Value) (n n2 : Nat) (xs ys : List Str) (hX : StrsAre X xs) (hY : StrsAre Y ys) (k : Nat) :
    ∀ i : Nat, i ≤ xs.length → i ≤ ys.length → xs.length - i = k → Meets (Builtin.«list.__eq__.loop» ⟨[.ref l, .ref b, rawInt i, rawInt 4], []⟩)
      (fun A R s => s.heap.get? l = some (lstO X n) ∧ s.heap.get? b = some (lstO Y n2) ∧ R (.ok (.ret (.bool (gtL (xs.drop i) (ys.drop i))))) s) := by
  have eX : X.length = xs.length := hX.len_eq
  have eY : Y.length = ys.length := hY.len_eq
  induction k with
  | zero =>
    intro i hx hy hk prog w A R s h
    obtain ⟨hp, g, d, tk, os⟩ := s; obtain ⟨hl, hb, h⟩ := h
    have hn : xs[i]? = none := List.getElem?_eq_none (by omega)
    rw [gtL_base hx hy (.inl hn)] at h
    wp_walk using wpAny_loadPart' hl, wpAny_loadPart' hb
    rcases str_at hX i with ⟨h1, h2⟩ | ⟨x, t, h1, h2⟩
    · rw [h1]
      wp_walk using wpAny_loadPart' hl, wpAny_loadPart' hb
      show R (.ok (.ret (.bool (decide (X.toArray.size > Y.toArray.size))))) _
      rw [List.size_toArray, List.size_toArray, eX, eY]
      exact h
    · rw [hn] at h2; cases h2
  | succ k ih =>
    intro i hx hy hk prog w A R s h
    obtain ⟨hp, g, d, tk, os⟩ := s; obtain ⟨hl, hb, h⟩ := h
    wp_walk using wpAny_loadPart' hl, wpAny_loadPart' hb
    rcases str_at hX i with ⟨h1, h2⟩ | ⟨x, t, h1, h2⟩
    · have := List.getElem?_eq_none_iff.mp h2
      omega
    rcases str_at hY i with ⟨h3, h4⟩ | ⟨y, u, h3, h4⟩
    · rw [gtL_base hx hy (.inr h4)] at h
      rw [h1, h3]
      wp_walk using wpAny_loadPart' hl, wpAny_loadPart' hb
      show R (.ok (.ret (.bool (decide (X.toArray.size > Y.toArray.size))))) _
      rw [List.size_toArray, List.size_toArray, eX, eY]
      exact h
    obtain ⟨g1, e1⟩ := List.getElem?_eq_some_iff.mp h2
    obtain ⟨g2, e2⟩ := List.getElem?_eq_some_iff.mp h4
    have d1 : xs.drop i = x :: xs.drop (i + 1) := by rw [List.drop_eq_getElem_cons g1, e1]
    have d2 : ys.drop i = y :: ys.drop (i + 1) := by rw [List.drop_eq_getElem_cons g2, e2]
    rw [d1, d2] at h
    rw [h1, h3]
    refine wpAny_bind (PyProof.Rows.eqBool_str ?_)
    cases hxy : x == y with
    | true =>
      have h' : R (.ok (.ret (.bool (gtL (xs.drop (i + 1)) (ys.drop (i + 1)))))) ⟨hp, g, d, tk, os⟩ := by
        have e : gtL (x :: xs.drop (i + 1)) (y :: ys.drop (i + 1)) = gtL (xs.drop (i + 1)) (ys.drop (i + 1)) := by
          show (if x == y then _ else _) = _
          rw [if_pos hxy]
        rw [e] at h; exact h
      wp_walk
      rw [show ((i : Int) + 1) = ((i + 1 : Nat) : Int) by push_cast; rfl]
      exact ⟨plainId_quiet plain_eq_loop _, codeAny_builtin entry_eq_loop (by
        rw [Around.under_plainId plain_eq_loop _]
        exact ih (i + 1) (by omega) (by omega) (by omega) prog w A R _ ⟨hl, hb, h'⟩)⟩
    | false =>
      have h' : R (.ok (.ret (.bool (decide (y.cps.toList < x.cps.toList))))) ⟨hp, g, d, tk, os⟩ := by
        have e : gtL (x :: xs.drop (i + 1)) (y :: ys.drop (i + 1)) = decide (y.cps.toList < x.cps.toList) := by
          show (if x == y then _ else _) = _
          rw [if_neg (ne_true_of_eq_false hxy)]
        rw [e] at h; exact h
      wp_walk using wpAny_loadPart' hl, wpAny_loadPart' hb
      rw [h1, h3]
      refine wpAny_bind (richCompare_gives (op := .Gt) (typeIs_str _ x t) (typeIs_str _ y u) PySem.F.slot_str_gt PySem.F.entry_str_gt (PySem.F.args_str_gt_2 _ _) (gives_str_gt x y t u) (fun e => nomatch e) ?_)
      show wpAny (model prog w) A.in1 (ret _) _ _ _
      exact wpAny_pure h'
theorem gtL_call (l b : Addr) (X Y : List Value) (n n2 : Nat) (xs ys : List Str) (hX : StrsAre X xs) (hY : StrsAre Y ys) :
    Meets (Builtin.«list.__gt__» ⟨[.ref l, .ref b], []⟩)
      (fun A R s => s.heap.get? l = some (lstO X n) ∧ s.heap.get? b = some (lstO Y n2) ∧ R (.ok (.ret (.bool (gtL xs ys)))) s) := by
  intro prog w A R s h
  obtain ⟨hp, g, d, tk, os⟩ := s; obtain ⟨hl, hb, h⟩ := h
  wp_walk using wpAny_loadPart' hl, wpAny_loadPart' hb
  show wpAny _ _ (isSubtype (.type "list") (.type "list")) _ _ _
  refine wpAny_of_eq PySem.F.sub_list_list ?_
  wp_walk using wpAny_loadPart' hl, wpAny_loadPart' hb
  exact ⟨plainId_quiet plain_eq_loop _, codeAny_builtin entry_eq_loop (by
        rw [Around.under_plainId plain_eq_loop _]
        exact gtL_loop l b X Y n n2 xs ys hX hY _ 0 (Nat.zero_le _) (Nat.zero_le _) rfl prog w A R _ ⟨hl, hb, h⟩)⟩
theorem gtL_rich {prog : Program} {w : World} {A : Around} {E Q : Value → Shared → Prop} {s : Shared} {l b : Addr} {X Y : List Value} {n n2 : Nat} {xs ys : List Str} (hX : StrsAre X xs) (hY : StrsAre Y ys) (hl : s.heap.get? l = some (lstO X n)) (hb : s.heap.get? b = some (lstO Y n2)) (hu : A.units < cLine)
    (h : Q (.bool (gtL xs ys)) s) : wpAny (model prog w) A (richCompare .Gt (.ref l) (.ref b)) Q E s := by
  refine wpAny_richCompare_same_room ⟨_, hl, rfl⟩ ⟨_, hb, rfl⟩ PySem.F.slot_list_gt ?_ hu
  refine call_meets PySem.F.slot_list_gt ⟨_, hl, rfl⟩ PySem.F.entry_list_gt (PySem.F.args_list_gt_2 _ _) (gtL_call l b X Y n n2 xs ys hX hY) ?_
  exact ⟨hl, hb, fun e => (nomatch e), h⟩
end Mine
end
section
open PySem PySem.W PyProof.Rows PySem.Spec PySem.Calls
set_option maxRecDepth 100000
set_option linter.unusedVariables false
namespace Mine
section
variable {prog : Program} {w : World} {A : Around} {E : Value → Shared → Prop} {s : Shared} {h₀ : Heap} {L l a b : Addr} {m : Str → Option Value} {news : Led} {X Y : List Value} {n k1 k2 : Nat} {xs ys : List Str} {Q : Value → Shared → Prop}
theorem min_L (hh : A.handled = none) (hu : A.units + 64 < cLine) (F : Fr h₀ L s.heap m) (N : News h₀ L s.heap news) (hl : (l, lstO [.ref a, .ref b] n) ∈ news) (ha : (a, lstO X k1) ∈ news) (hb : (b, lstO Y k2) ∈ news) (hX : StrsAre X xs) (hY : StrsAre Y ys)
    {s1 : Addr} (he : (if ltL ys xs = true then b else a) = s1) (h : ∀ h' tk, Fr h₀ L h' m → News h₀ L h' news → Q (.ref s1) { s with heap := h', toks := tk }) :
    wpAny (model prog w) A (call (.builtin "min") [.ref l]) Q E s := by
  subst he
  refine min_two hh (N _ hl).1 (N _ ha).1 (N _ hb).1 (fun s' Q' E' ea eb q => ltL_rich hY hX eb ea (by rw [Around.in1_units]; omega) q) fun h' tk k => h h' tk (F.keeps k) (N.grown k)
theorem max_L (hh : A.handled = none) (hu : A.units + 64 < cLine) (F : Fr h₀ L s.heap m) (N : News h₀ L s.heap news) (hl : (l, lstO [.ref a, .ref b] n) ∈ news) (ha : (a, lstO X k1) ∈ news) (hb : (b, lstO Y k2) ∈ news) (hX : StrsAre X xs) (hY : StrsAre Y ys)
    {s1 : Addr} (he : (if gtL ys xs = true then b else a) = s1) (h : ∀ h' tk, Fr h₀ L h' m → News h₀ L h' news → Q (.ref s1) { s with heap := h', toks := tk }) :
    wpAny (model prog w) A (call (.builtin "max") [.ref l]) Q E s := by
  subst he
  refine max_two hh (N _ hl).1 (N _ ha).1 (N _ hb).1 (fun s' Q' E' ea eb q => gtL_rich hY hX eb ea (by rw [Around.in1_units]; omega) q) fun h' tk k => h h' tk (F.keeps k) (N.grown k)
end
/-- what two lists begin with alike -/
noncomputable def cpL : List Str → List Str → List Str
  | x :: xs, y :: ys => if x == y then x :: cpL xs ys else []
  | _, _ => []
theorem cpL_self : ∀ xs : List Str, cpL xs xs = xs
  | [] => rfl
  | x :: xs => by
    show (if x == x then x :: cpL xs xs else []) = _
    rw [if_pos (beq_self_eq_true x), cpL_self xs]
theorem cpL_comm : ∀ xs ys : List Str, cpL xs ys = cpL ys xs
  | [], [] => rfl
  | [], _ :: _ => rfl
  | _ :: _, [] => rfl
  | x :: xs, y :: ys => by
    show (if x == y then x :: cpL xs ys else []) = if y == x then y :: cpL ys xs else []
    by_cases h : x = y
    · subst h
      rw [if_pos (beq_self_eq_true x), if_pos (beq_self_eq_true x), cpL_comm xs ys]
    · rw [if_neg (by simpa using h), if_neg (by simpa using Ne.symm h)]
/-- the second is no shorter where the first begins with it -/
noncomputable def SafeL (xs ys : List Str) : Prop := ∀ i, xs.take i = ys.take i → i < xs.length → i < ys.length
theorem safe_self (xs : List Str) : SafeL xs xs := fun i _ h => h
theorem safe_cons {x : Str} {xs ys : List Str} (h : SafeL xs ys) : SafeL (x :: xs) (x :: ys) := by
  intro i e hi
  cases i with
  | zero => exact Nat.zero_lt_succ _
  | succ i =>
    rw [List.take_succ_cons, List.take_succ_cons] at e
    exact Nat.succ_lt_succ (h i (List.cons.inj e).2 (Nat.lt_of_succ_lt_succ hi))
theorem safe_ne {x y : Str} {xs ys : List Str} (h : x ≠ y) : SafeL (x :: xs) (y :: ys) := by
  intro i e hi
  cases i with
  | zero => exact Nat.zero_lt_succ _
  | succ i =>
    rw [List.take_succ_cons, List.take_succ_cons] at e
    exact absurd (List.cons.inj e).1 h
theorem safe_nil (ys : List Str) : SafeL [] ys := fun i _ h => absurd h (Nat.not_lt_zero _)
theorem lt_safe : ∀ {xs ys : List Str}, ltL xs ys = true → SafeL xs ys
  | [], ys, _ => safe_nil ys
  | x :: xs, [], h => absurd (of_decide_eq_true h) (Nat.not_lt_zero _)
  | x :: xs, y :: ys, h => by
    by_cases e : x = y
    · subst e
      have h' : (if x == x then ltL xs ys else decide (x.cps.toList < x.cps.toList)) = true := h
      rw [if_pos (beq_self_eq_true x)] at h'
      exact safe_cons (lt_safe h')
    · exact safe_ne e
theorem gt_safe : ∀ {xs ys : List Str}, gtL ys xs = true → SafeL xs ys
  | [], ys, _ => safe_nil ys
  | x :: xs, [], h => absurd (of_decide_eq_true h) (Nat.not_lt_zero _)
  | x :: xs, y :: ys, h => by
    by_cases e : x = y
    · subst e
      have h' : (if x == x then gtL ys xs else decide (x.cps.toList < x.cps.toList)) = true := h
      rw [if_pos (beq_self_eq_true x)] at h'
      exact safe_cons (gt_safe h')
    · exact safe_ne e
theorem not_both : ∀ {xs ys : List Str}, ltL xs ys = true → gtL xs ys = true → False
  | [], ys, _, h => absurd (of_decide_eq_true h) (Nat.not_lt_zero _)
  | x :: xs, [], h, _ => absurd (of_decide_eq_true h) (Nat.not_lt_zero _)
  | x :: xs, y :: ys, h1, h2 => by
    have h1' : (if x == y then ltL xs ys else decide (x.cps.toList < y.cps.toList)) = true := h1
    have h2' : (if x == y then gtL xs ys else decide (y.cps.toList < x.cps.toList)) = true := h2
    cases e : x == y with
    | true => rw [e, if_pos rfl] at h1' h2'; exact not_both h1' h2'
    | false => rw [e, if_neg Bool.false_ne_true] at h1' h2'; exact List.lt_asymm (of_decide_eq_true h1') (of_decide_eq_true h2')
theorem neither : ∀ {xs ys : List Str}, ltL xs ys = false → gtL xs ys = false → xs = ys
  | [], [], _, _ => rfl
  | [], y :: ys, h, _ => absurd (Nat.zero_lt_succ ys.length) (of_decide_eq_false h)
  | x :: xs, [], _, h => absurd (Nat.zero_lt_succ xs.length) (of_decide_eq_false h)
  | x :: xs, y :: ys, h1, h2 => by
    have h1' : (if x == y then ltL xs ys else decide (x.cps.toList < y.cps.toList)) = false := h1
    have h2' : (if x == y then gtL xs ys else decide (y.cps.toList < x.cps.toList)) = false := h2
    cases e : x == y with
    | true => rw [e, if_pos rfl] at h1' h2'; rw [eq_of_beq e, neither h1' h2']
    | false =>
      rw [e, if_neg Bool.false_ne_true] at h1' h2'
      have a1 := List.not_lt.mp (of_decide_eq_false h1')
      have a2 := List.not_lt.mp (of_decide_eq_false h2')
      have : x.cps.toList = y.cps.toList := List.le_antisymm a2 a1
      have e' : x = y := Str.ext' (Array.toList_inj.mp this)
      rw [e', beq_self_eq_true] at e; cases e
/-- the least and the greatest of two lists, as the ledger bears them -/
theorem sel_two {h₀ h : Heap} {L a b : Addr} {X Y : List Value} {k1 k2 : Nat} {xs ys : List Str} {news : Led} (N : News h₀ L h news) (ha : (a, lstO X k1) ∈ news) (hb : (b, lstO Y k2) ∈ news) (hX : StrsAre X xs) (hY : StrsAre Y ys) :
    ∃ s1 X1 n1 x1 s2 X2 n2 x2, (if ltL ys xs = true then b else a) = s1 ∧ (if gtL ys xs = true then b else a) = s2 ∧ (s1, lstO X1 n1) ∈ news ∧ (s2, lstO X2 n2) ∈ news ∧ StrsAre X1 x1 ∧ StrsAre X2 x2 ∧ SafeL x1 x2 ∧ cpL x1 x2 = cpL xs ys ∧ (∀ c ∈ x1, c ∈ xs ∨ c ∈ ys) ∧ (∀ c ∈ x2, c ∈ xs ∨ c ∈ ys) ∧ (x1.length ≤ xs.length ∨ x1.length ≤ ys.length) ∧ (x2.length ≤ xs.length ∨ x2.length ≤ ys.length) := by
  cases h1 : ltL ys xs with
  | true =>
    cases h2 : gtL ys xs with
    | true => exact (not_both h1 h2).elim
    | false => exact ⟨b, Y, k2, ys, a, X, k1, xs, rfl, rfl, hb, ha, hY, hX, lt_safe h1, cpL_comm _ _, fun c h => .inr h, fun c h => .inl h, .inr (Nat.le_refl _), .inl (Nat.le_refl _)⟩
  | false =>
    cases h2 : gtL ys xs with
    | true => exact ⟨a, X, k1, xs, b, Y, k2, ys, rfl, rfl, ha, hb, hX, hY, gt_safe h2, rfl, fun c h => .inl h, fun c h => .inr h, .inl (Nat.le_refl _), .inr (Nat.le_refl _)⟩
    | false =>
      have e := neither h1 h2
      subst e
      exact ⟨a, X, k1, ys, a, X, k1, ys, rfl, rfl, ha, ha, hX, hX, safe_self _, rfl, fun c h => .inl h, fun c h => .inl h, .inl (Nat.le_refl _), .inl (Nat.le_refl _)⟩
theorem cpL_take : ∀ {xs ys : List Str} {i : Nat} {c d : Str}, xs.take i = ys.take i → xs[i]? = some c → ys[i]? = some d → c ≠ d → cpL xs ys = xs.take i
  | x :: xs, y :: ys, 0, c, d, _, h1, h2, h => by
    have e1 : x = c := Option.some.inj h1
    have e2 : y = d := Option.some.inj h2
    show (if x == y then x :: cpL xs ys else []) = _
    rw [if_neg (by rw [e1, e2]; simpa using h)]; rfl
  | x :: xs, y :: ys, i + 1, c, d, e, h1, h2, h => by
    rw [List.take_succ_cons, List.take_succ_cons] at e
    have e1 := (List.cons.inj e).1
    show (if x == y then x :: cpL xs ys else []) = _
    rw [e1, if_pos (beq_self_eq_true y), cpL_take (List.cons.inj e).2 h1 h2 h]; rfl
  | [], _, _, _, _, _, h1, _, _ => by cases h1
  | _ :: _, [], _, _, _, _, _, h2, _ => by cases h2
theorem cpL_all : ∀ {xs ys : List Str}, xs = ys.take xs.length → cpL xs ys = xs
  | [], [], _ => rfl
  | [], _ :: _, _ => rfl
  | x :: xs, [], h => by cases h
  | x :: xs, y :: ys, h => by
    rw [List.length_cons, List.take_succ_cons] at h
    have e1 := (List.cons.inj h).1
    show (if x == y then x :: cpL xs ys else []) = _
    rw [if_pos (by rw [e1]; exact beq_self_eq_true y), cpL_all (List.cons.inj h).2]
end Mine
end
section
open PySem PySem.W PyProof.Rows PySem.Spec PySem.Calls
set_option maxRecDepth 100000
set_option linter.unusedVariables false
namespace Mine
/-- one round of the law's first loop: the kind of value, the charset, the tag's subtags, the range's subtags -/
structure RowD where
  kind : Int
  cs : Str
  tag : List Str
  names : List Str
noncomputable def CsOk (c : Str) : Prop := c = Str.ofString "u-8" ∨ c = Str.ofString "*"
structure RowOk (r : RowD) : Prop where
  k0 : 0 ≤ r.kind
  k6 : r.kind < 6
  cs : CsOk r.cs
  tag : TagsOk r.tag
  names : ∃ i, 1 ≤ i ∧ r.names = r.tag.take i
noncomputable def wordT (ts : List Str) : Str := Txt.join (Str.ofString "-") ts
noncomputable def headT0 (r : RowD) : Str := r.cs ++ Str.ofString "'" ++ wordT r.names
noncomputable def frontT (r : RowD) : Str := Txt.join (Str.ofString "") ((headT0 r).cps.toList.map barS)
noncomputable def goalT (ns : List Str) : Str := ns.foldl joinStep (Str.ofString "/")
noncomputable def barTok (c : Nat) : PTok := if c = 42 ∨ c = 63 ∨ c = 91 then .bar c else .lit c
noncomputable def toks1 (r : RowD) : List PTok := (headT0 r).cps.toList.map barTok ++ [.lit 39, .star]
noncomputable def toks2 (r : RowD) : List PTok := (headT0 r).cps.toList.map barTok ++ [.lit 45, .star, .lit 39, .star]
inductive PartAt (st : Addr) (news : Led) (p : Addr) (ts : List PTok) : Prop
  | mk (vs : List Value) (k : Nat) : (p, lstO vs k) ∈ news → PartsAre st vs ts → PartAt st news p ts
inductive RowAt (news : Led) (v : Value) (r : RowD) : Prop
  | mk (T : Addr) (t1 t2 : Tok) (G : Addr) (vs : List Value) (n1 n2 : Nat) : v = .ref T → (T, tupO [.int r.kind t1, .str r.cs t2, .ref G] n1) ∈ news → (G, lstO vs n2) ∈ news → StrsAre vs r.tag → RowAt news v r
inductive RangeAt (st : Addr) (news : Led) (v : Value) (r : RowD) : Prop
  | mk (R : Addr) (t1 : Tok) (N : Addr) (t2 : Tok) (P : Addr) (vs : List Value) (p1 p2 : Addr) (n1 n2 n3 : Nat) : v = .ref R → (R, tupO [.str r.cs t1, .ref N, .str (goalT r.names) t2, .ref P] n1) ∈ news → (N, lstO vs n2) ∈ news → StrsAre vs r.names →
    (P, lstO [.ref p1, .ref p2] n3) ∈ news → PartAt st news p1 (toks1 r) → PartAt st news p2 (toks2 r) → RangeAt st news v r
theorem PartAt.mono {st : Addr} {a b : Led} {p : Addr} {ts : List PTok} (h : ∀ q ∈ a, q ∈ b) (k : PartAt st a p ts) : PartAt st b p ts := k.rec fun vs k x y => ⟨vs, k, h _ x, y⟩
theorem RowAt.mono {a b : Led} {v : Value} {r : RowD} (h : ∀ q ∈ a, q ∈ b) (k : RowAt a v r) : RowAt b v r := k.rec fun T t1 t2 G vs n1 n2 e x y z => ⟨T, t1, t2, G, vs, n1, n2, e, h _ x, h _ y, z⟩
theorem RangeAt.mono {st : Addr} {a b : Led} {v : Value} {r : RowD} (h : ∀ q ∈ a, q ∈ b) (k : RangeAt st a v r) : RangeAt st b v r :=
  k.rec fun R t1 N t2 P vs p1 p2 n1 n2 n3 e x y z u f1 f2 => ⟨R, t1, N, t2, P, vs, p1, p2, n1, n2, n3, e, h _ x, h _ y, z, h _ u, f1.mono h, f2.mono h⟩
inductive All2 {α β : Type} (R : α → β → Prop) : List α → List β → Prop
  | nil : All2 R [] []
  | cons {a b l₁ l₂} : R a b → All2 R l₁ l₂ → All2 R (a :: l₁) (b :: l₂)
theorem All2.snoc {α β : Type} {R : α → β → Prop} {a : α} {b : β} {l₁ : List α} {l₂ : List β} (k : All2 R l₁ l₂) (h : R a b) : All2 R (l₁ ++ [a]) (l₂ ++ [b]) :=
  k.rec (.cons h .nil) fun h₁ _ t => .cons h₁ t
theorem All2.mono {α β : Type} {R S : α → β → Prop} (h : ∀ a b, R a b → S a b) {l₁ : List α} {l₂ : List β} (k : All2 R l₁ l₂) : All2 S l₁ l₂ :=
  k.rec .nil fun h₁ _ t => .cons (h _ _ h₁) t
theorem All2.len {α β : Type} {R : α → β → Prop} {l₁ : List α} {l₂ : List β} (k : All2 R l₁ l₂) : l₁.length = l₂.length :=
  k.rec rfl fun _ _ t => congrArg (· + 1) t
theorem All2.at {α β : Type} {R : α → β → Prop} {l₁ : List α} {l₂ : List β} (k : All2 R l₁ l₂) {i : Nat} {b : β} (h : l₂[i]? = some b) : ∃ a, l₁[i]? = some a ∧ R a b := by
  have key : ∀ (i : Nat) (b : β), l₂[i]? = some b → ∃ a, l₁[i]? = some a ∧ R a b := by
    refine k.rec (fun i b h => absurd (List.getElem?_nil.symm.trans h) (Option.some_ne_none _).symm) fun h₁ _ ih i => ?_
    cases i with
    | zero => exact fun b h => ⟨_, rfl, Option.some.inj h ▸ h₁⟩
    | succ i => exact fun b h => ih i b h
  exact key i b h
theorem csOk_len {c : Str} (h : CsOk c) : c.length ≤ 3 := by
  rcases h with rfl | rfl
  · show (Str.ofString "u-8").length ≤ 3; decide
  · show (Str.ofString "*").length ≤ 3; decide
theorem csOk_ok {c : Str} (h : CsOk c) : OkS c := by
  rcases h with rfl | rfl
  · intro x hx; have : ∀ y ∈ (Str.ofString "u-8").cps.toList, y < 1114112 := by decide
    exact this x hx
  · intro x hx; have : ∀ y ∈ (Str.ofString "*").cps.toList, y < 1114112 := by decide
    exact this x hx
theorem good_ok {b : Str} (h : GoodN b) : OkS b := fun c hc => (h.2.2 c hc).2.2.2.2
theorem word_len {ts : List Str} (h : ∀ b ∈ ts, GoodN b) (hl : ts.length ≤ 3) : (wordT ts).length ≤ 8 ∧ (ts.map (·.length)).sum + ts.length * (Str.ofString "-").length ≤ 16777216 := by
  have a := sum_map_le 2 ts (fun y hy => (h y hy).2.1)
  have b := size_glued (Str.ofString "-") ts
  have c : (Str.ofString "-").length = 1 := by decide
  refine ⟨?_, by rw [c]; omega⟩
  show (Builtin.Str.glued _ _).length ≤ _
  rw [b, c]
  omega
theorem take_good {ts : List Str} (h : ∀ b ∈ ts, GoodN b) (i : Nat) : ∀ b ∈ ts.take i, GoodN b := fun b hb => h b (List.mem_of_mem_take hb)
theorem take_le3 {ts : List Str} (h : ts.length ≤ 3) (i : Nat) : (ts.take i).length ≤ 3 := Nat.le_trans (List.length_take_le' ..) h
end Mine
end
section
open PySem PySem.W PyProof.Rows PySem.Spec PySem.Calls
set_option maxRecDepth 100000
set_option maxHeartbeats 0
set_option linter.unusedVariables false
namespace Mine
section
local macro_rules | `(tactic| k_all) => `(tactic| with_reducible assumption)

theorem trans_c (w : World) (pat : Str) (t u : Tok) (st : Addr) (hpl : pat.length ≤ 1000) (toks : List PTok) (ht : pat.cps.toList = toksTxt toks) (hok : ∀ a ∈ toks, a.ok) (hadj : NoAdj toks) (ps : Array Value) (hps : TabOk ps) (rest₀ : Led) (hoff : ∀ p ∈ rest₀, p.1 ≠ 64) :
    CtrT w 69 5 60 [.str pat t, .ref st, .str (Str.ofString ".") u] ((64, tabObj ps) :: rest₀) (TransPost st toks rest₀) := by
  w_top off
  unfold CtrT
  k_fill
  k_with_none
  (k_with "call ref" => (k_here; k_dflt (refine' CtrV.use (fsp_c _ _ _) ?zqk1 ?zqk2 ?zqk3 ?zqk4 ?zqk5 ?zqkK ?zqkd ?zqku ?zqkp ?_; (case zqk1 => k_asm); (case zqk2 => k_asm); (case zqk3 => k_asm); (case zqk4 => k_asm); (case zqk5 => k_asm); (case zqkK => exact rfl); (case zqkd => ktr_room); (case zqku => ktr_units); (case zqkp => trivial); k_whole); intro v9 h9 tk9 F9 N9 hp9; subst hp9; (try dsimp only); (try k_fold)))
  (k_with "call ref" => (k_here; k_dflt (refine' CtrV.use (gsep_c _ _ _) ?zqk1 ?zqk2 ?zqk3 ?zqk4 ?zqk5 ?zqkK ?zqkd ?zqku ?zqkp ?_; (case zqk1 => k_asm); (case zqk2 => k_asm); (case zqk3 => k_asm); (case zqk4 => k_asm); (case zqk5 => k_asm); (case zqkK => exact rfl); (case zqkd => ktr_room); (case zqku => ktr_units); (case zqkp => trivial); k_whole); intro v9 h9 tk9 F9 N9 hp9; obtain ⟨t9, hp9⟩ := hp9; subst hp9; (try dsimp only); (try k_fold)))
  (k_with "getAttr ref" => (k_here; (with_reducible show wpAny _ _ (getAttr (Value.ref _) (PySem.Str.ofString "append") _) _ _ _); k_dflt (refine' app_attr_N ?zqk1 ?zqk2 ?zqk3 ?_; (case zqk1 => k_asm); (case zqk2 => k_asm); (case zqk3 => k_mem); k_whole); intro q hC tkB F' N' lt2; (try k_lt lt2); (try k_sweep)))
  (k_with "callWith ref" => (k_here; k_dflt (refine' callWith_B ?zqk1 ?zqk2 ?_; (case zqk1 => k_asm); (case zqk2 => k_mem); k_whole)))
  (k_with "And" => (k_here; (with_reducible refine And.intro ?zqha ?_); (case zqha => k_dflt (exact (News.get (by assumption) (by k_mem))))))
  (k_with "call ref" => (k_here; (with_reducible show wpAny _ _ (call (Value.ref _) [_]) _ _ _); k_dflt (refine' call_B ?zqk1 ?zqk2 ?zqk3 ?zqk4 ?_ ?zqz; (case zqk1 => k_asm); (case zqk2 => k_asm); (case zqk3 => k_mem); (case zqk4 => k_upd); (case zqz => first | assumption | size_fits); k_whole); intro h' F' N'; (try k_sweep)))
  (k_with "ite" => first | ((with_reducible refine ite_no ?zqiteh ?_); (case zqiteh => with_reducible assumption)) | ((with_reducible refine ite_yes ?zqiteh ?_); (case zqiteh => with_reducible assumption)))
  (k_with "subscriptTail Name Name str int" => (k_here; k_dflt (refine' item_at ?zqha ?zqhl ?_; (case zqha => assumption); (case zqhl => assumption); k_whole); intro tk9; (try dsimp only)))
  (k_with "subscriptTail Name Slice str ref" => (k_here; k_dflt (refine' slice_eq (s := ⟨_, _, _, _, _⟩) ?zqhy ?zqF ?zqN ?zqhl ?_; (case zqhy => assumption); (case zqF => k_asm); (case zqN => k_asm); (case zqhl => assumption); k_whole); intro h9 t9 k9 F9 N9; (try dsimp only)))
  (k_with "truthy ref" => (k_here; k_dflt (refine' truthy_B ?zqN ?zqm ?zqf ?zqb ?_; (case zqN => k_asm); (case zqm => k_mem); (case zqf => assumption); (case zqb => assumption); k_whole); intro tk9; (try dsimp only)))
  (k_with "subscriptTail Name UnaryOp ref int" => (k_here; k_dflt (refine' last_B ?zqN ?zqm ?zqf ?zqb ?_; (case zqN => k_asm); (case zqm => k_mem); (case zqf => assumption); (case zqb => assumption); k_whole); (try dsimp only)))
  (k_with "call ref" => (k_here; (with_reducible show wpAny _ _ (call (Value.ref 62) _) _ _ _); k_dflt (refine' CtrV.use (esc_c _ _ _) ?zqk1 ?zqk2 ?zqk3 ?zqk4 ?zqk5 ?zqkK ?zqkd ?zqku ?zqkp ?_; (case zqk1 => k_asm); (case zqk2 => k_asm); (case zqk3 => k_asm); (case zqk4 => k_asm); (case zqk5 => k_asm); (case zqkK => exact rfl); (case zqkd => ktr_room); (case zqku => ktr_units); (case zqkp => trivial); k_whole); intro v9 h9 tk9 F9 N9 hp9; obtain ⟨t9, hp9⟩ := hp9; subst hp9; (try dsimp only); (try k_fold)))
  (k_with "compareOp IsNot str ref" => (k_here; refine wpAny_isNot_other (by rfl) (by intro x; cases x) ?_))
  (k_with "call builtin:str.replace" => (k_here; k_dflt (refine' repl_none ?zqhc ?_; (case zqhc => assumption); k_whole); (try dsimp only)))
  (k_with "getMethod ref" => (k_here; (with_reducible show wpAny _ _ (getMethod (Value.ref 50) _ _) _ _ _); k_dflt (refine' get_sub ?zqX ?_; (case zqX => exact Frag.In.keeps (by assumption) (by intro b o e; exact Fr.keep (by assumption) _ _ e)); k_whole); (try dsimp only)))
  (k_with "call builtin:re.Pattern.sub" => (k_here; k_dflt (refine' sub_L ?zqF ?zqN ?zqX ?zqm ?zqc ?zqn ?zqa ?zqb ?_; (case zqF => k_asm); (case zqN => k_asm); (case zqX => assumption); (case zqm => k_mem); (case zqc => assumption); (case zqn => assumption); (case zqa => exact Nat.zero_lt_one); (case zqb => exact Nat.le_of_ble_eq_true rfl); k_whole); intro t9 h9 tk9 F9 N9; (try dsimp only)))
  (k_with "eval Lambda" => (k_here; k_dflt (refine' lam_any ?zqF ?zqN ?zqT ?zqC ?zqps ?zqq ?zql ?zqo rfl rfl ?zqd ?zqcl ?_; (case zqF => k_asm); (case zqN => k_asm); (case zqT => k_asm); (case zqC => assumption); (case zqps => assumption); (case zqq => (refine neN ?_; omega)); (case zql => (refine neN ?_; omega)); (case zqo => assumption); (case zqd => exact rfl); (case zqcl => exact rfl); k_whole); intro f9 oc9 h9 tk9 ps9 hps9 F9 N9 hoc9 l9; (k_lt l9); (try dsimp only)))
  (k_with "subscriptTail Name Constant str int" => (k_here; k_dflt (refine' item_at ?zqha ?zqhl ?_; (case zqha => assumption); (case zqhl => assumption); k_whole); intro tk9; (try dsimp only)))
  (k_with "truthy str" => (k_here; k_dflt (refine' truthy_one ?_; k_whole); intro tk9; (try dsimp only)))
  (k_with "joinParts" => (k_here; first | ((with_reducible show wpAny _ _ (joinParts _ (_ :: _)) _ _ _); (with_reducible refine joinParts_cons ?_)) | ((with_reducible show wpAny _ _ (joinParts _ []) _ _ _); (refine joinParts_nil ?_ (by exact Nat.le_of_ble_eq_true (by kernel_rfl))))))
  (k_with "And" => (k_here; (with_reducible refine And.intro ?zqha ?_); (case zqha => exact Nat.le_of_ble_eq_true (by kernel_rfl))))
  intro p loose mean mg mb dp un gd cn cs a ccd cl outer A₀ base h₀ L m s Q E B F X CH N T hk hd hu hret
  refine wpAny_call ?_
  k_dflt cell_enter
  have hcode := CH.keeps (Fr.keep (show Fr h₀ L _ m by assumption))
  (repeat' ((fail_if_success (with_reducible show wpAny _ _ (exec (Stmt.While _ _ _ _) _) _ _ _)); (first | (k_unfold; (try dsimp only)) | (k_end; kc_close) | walk1 | (dsimp only; walk1) | (leave1; (try dsimp only)) | fail "no step")))
  rename_i l hA lt1 hB tkA hD D hE lt3 hF hG hH FF NN
  have hql : l < q := lt2.1
  have h64l : 64 < l := lt1.1
  have hlr : ∀ p ∈ rest₀, p.1 < l := tb_ltOf lt1.2
  have hqr : ∀ p ∈ rest₀, p.1 < q := fun p hp => Nat.lt_trans (hlr p hp) hql
  refine While_inv (TJ pat t st l q toks rest₀) (n₀ := toks.length) FF (cb_drop NN (fun p hp => .tail _ hp)) ?init ?turn
  case init => exact ⟨⟨[], toks, #[], 0, ps, _, rfl, rfl, .nil, rfl, hps, rfl, rfl⟩, rfl, rfl, rfl, rfl, ⟨_, rfl⟩⟩
  case turn =>
    rintro n m₁ news₁ h₁ tk₁ F₁ N₁ ⟨⟨done, rest, its, k, ps₁, ti, htk, hn, hparts, hsz, hps₁, rfl, hmi⟩, hpat, hst, hres, hadd, ⟨tn, hmn⟩⟩
    replace F₁ := frK F₁ hadd
    replace F₁ := frK (x := Str.ofString "res") (v := .ref l) F₁ hres
    replace F₁ := frK (x := Str.ofString "STAR") (v := .ref st) F₁ hst
    replace F₁ := frK (x := Str.ofString "pat") (v := .str pat t) F₁ hpat
    replace F₁ := frK (x := Str.ofString "n") (v := .int (pat.length : Int) tn) F₁ hmn
    replace F₁ := frK (x := Str.ofString "i") (v := .int ((toksTxt done).length : Int) ti) F₁ hmi
    have hlen : pat.length = (toksTxt done).length + (toksTxt rest).length := by
      show pat.cps.size = _
      rw [← Array.length_toList, ht, htk, txt_app, List.length_append]
    have hdl := txt_le done
    have hits : its.size ≤ 1000 := by omega
    cases rest with
    | nil =>
      have hi0 : (toksTxt done).length = pat.length := by rw [hlen]; rfl
      rw [hi0] at hmi
      (repeat' ((fail_if_success (with_reducible show wpAny _ _ (exec (Stmt.While _ _ _ _) _) _ _ _)); (first | (k_unfold; (try dsimp only)) | (k_end; kc_close) | walk1 | (dsimp only; walk1) | (leave1; (try dsimp only)) | fail "no step")))
      · refine hret (.ref l) ((l, W.listOf its k) :: (64, tabObj ps₁) :: rest₀) _ _ (by assumption) ?_ ⟨l, its, k, ps₁, rfl, rfl, hps₁, by rw [htk, List.append_nil]; exact hparts, by rw [htk, List.append_nil]; exact hsz, h64l, hlr⟩
        exact cb_drop (by assumption) (fun p hp => .tail _ hp)
      all_goals (exfalso; omega)
    | cons a r =>
      have hrl : (toksTxt (a :: r)).length = a.txt.length + (toksTxt r).length := by
        show (a.txt ++ toksTxt r).length = _
        rw [List.length_append]
      have hal : 1 ≤ a.txt.length := by cases a <;> simp [PTok.txt]
      have hpos : decide (((toksTxt done).length : Int) < pat.length) = true := decide_eq_true (by omega)
      have haok : a.ok := hok a (by rw [htk]; exact List.mem_append_right _ (.head _))
      have hsplit : pat.cps.toList = toksTxt done ++ (a.txt ++ toksTxt r) := by rw [ht, htk, txt_app]; rfl
      cases a with
      | star =>
        have ha : At pat ((toksTxt done).length : Int) 42 := ⟨_, _, hsplit, rfl⟩
        have hc1 : ((⟨#[42]⟩ : Str) == Str.ofString "*") = true := by decide
        rcases parts_last hparts with hd0 | ⟨vi, y, ty, hl0⟩ | ⟨d₀, hl0⟩
        · have hb : (!its.isEmpty) = false := by rw [show its = #[] from Array.toList_inj.mp hd0]; rfl
          (repeat' ((fail_if_success (with_reducible show wpAny _ _ (exec (Stmt.While _ _ _ _) _) _ _ _)); (first | (k_unfold; (try dsimp only)) | (k_end; kc_close) | walk1 | (dsimp only; walk1) | (leave1; (try dsimp only)) | fail "no step")))
          all_goals first | exact Value.none | exact tj_close (tn := tn) (by assumption) (by assumption) (by k_mem) (by k_mem) (by k_mem) (by intro p hp; repeat (first | exact hp | apply List.Mem.tail)) htk hn hparts .star hsz hps₁ (by rfl) (by first | rfl | (simp [PTok.txt]; omega)) (by rfl) (by rfl) (by rfl) (by rfl) (by rfl)
        · have hlast : its = (vi ++ [Value.str y ty]).toArray := Array.toList_inj.mp hl0
          have hb : (!its.isEmpty) = true := by rw [hlast]; simp
          (repeat' ((fail_if_success (with_reducible show wpAny _ _ (exec (Stmt.While _ _ _ _) _) _ _ _)); (first | (k_unfold; (try dsimp only)) | (k_end; kc_close) | walk1 | (dsimp only; walk1) | (leave1; (try dsimp only)) | fail "no step")))
          all_goals first | exact Value.none | exact tj_close (tn := tn) (by assumption) (by assumption) (by k_mem) (by k_mem) (by k_mem) (by intro p hp; repeat (first | exact hp | apply List.Mem.tail)) htk hn hparts .star hsz hps₁ (by rfl) (by first | rfl | (simp [PTok.txt]; omega)) (by rfl) (by rfl) (by rfl) (by rfl) (by rfl)
        · exact absurd (by rw [htk, hl0, List.append_assoc]; rfl) (hadj d₀ r)
      | bar c =>
        have ha : At pat ((toksTxt done).length : Int) 91 := ⟨_, _, hsplit, rfl⟩
        have ha1 : At pat ((toksTxt done).length + 1 : Int) c := ⟨toksTxt done ++ [91], 93 :: toksTxt r, by rw [hsplit]; simp [PTok.txt], by simp⟩
        have ha2 : At pat ((toksTxt done).length + 1 + 1 : Int) 93 := ⟨toksTxt done ++ [91, c], toksTxt r, by rw [hsplit]; simp [PTok.txt], by simp; omega⟩
        have hp1 := ha1.lt.2
        have hp2 := ha2.lt.2
        have hp1' : decide (((toksTxt done).length : Int) + 1 < pat.length) = true := decide_eq_true ha1.lt.2
        have hp2' : decide (((toksTxt done).length : Int) + 1 + 1 < pat.length) = true := decide_eq_true ha2.lt.2
        have h91a : ((⟨#[91]⟩ : Str) == Str.ofString "*") = false := by decide
        have h91b : ((⟨#[91]⟩ : Str) == Str.ofString "?") = false := by decide
        have h91c : ((⟨#[91]⟩ : Str) == Str.ofString "[") = true := by decide
        have h93 : ((⟨#[93]⟩ : Str) == Str.ofString "]") = true := by decide
        have hc0 : c ≠ 33 ∧ c ≠ 93 := by rcases haok with rfl | rfl | rfl <;> decide
        have hc1 : ((⟨#[c]⟩ : Str) == Str.ofString "!") = false := one_ne (by decide) hc0.1
        have hc2 : ((⟨#[c]⟩ : Str) == Str.ofString "]") = false := one_ne (by decide) hc0.2
        have hc3 : ((⟨#[c]⟩ : Str) != Str.ofString "]") = true := by rw [bne, hc2]; rfl
        have hsl : Txt.slice pat (some ((toksTxt done).length + 1 : Int)) (some ((toksTxt done).length + 1 + 1 : Int)) = ⟨[c].toArray⟩ := slice_of (p := toksTxt done ++ [91]) (q := 93 :: toksTxt r) (by rw [hsplit]; simp [PTok.txt]) (by simp) (by simp)
        (repeat' ((fail_if_success (with_reducible show wpAny _ _ (exec (Stmt.While _ _ _ _) _) _ _ _)); (first | (k_unfold; (try dsimp only)) | (k_end; kc_close) | walk1 | (dsimp only; walk1) | (leave1; (try dsimp only)) | fail "no step")))
        refine while_once (Str.ofString "j") ((toksTxt done).length + 1 + 1 : Int) (by assumption) (by assumption) ?_
        rintro n₂ m₂ news₂ h₂ tk₂ F₂ N₂ ⟨rfl, ⟨rfl, rfl⟩ | ⟨rfl, t₂, rfl⟩⟩
        · (repeat' ((fail_if_success (with_reducible show wpAny _ _ (exec (Stmt.While _ _ _ _) _) _ _ _)); (first | (k_unfold; (try dsimp only)) | (k_end; kc_close) | walk1 | (dsimp only; walk1) | (leave1; (try dsimp only)) | fail "no step")))
          exact WhileStep.intro (n' := 0) (by assumption) (by assumption) (by decide) ⟨rfl, .inr ⟨rfl, _, rfl⟩⟩
        · have hsz1 : ((⟨#[c]⟩ : Str).length : Int) = 1 := rfl
          have hA0 : At ⟨#[c]⟩ 0 c := ⟨[], [], rfl, rfl⟩
          have hl0 : (⟨#[c]⟩ : Str).length ≤ 1000 := by show 1 ≤ 1000; decide
          obtain ⟨hdash, hbs, hnext⟩ := bar_facts w.params haok
          rcases Decidable.em (c = 91) with h91 | h91
          all_goals first | have hany := bar_any haok h91 | have hany := bar_anyN haok h91
          all_goals (repeat' ((fail_if_success (with_reducible show wpAny _ _ (exec (Stmt.While _ _ _ _) _) _ _ _)); (first | (k_unfold; (try dsimp only)) | (k_end; kc_close) | walk1 | (dsimp only; walk1) | (leave1; (try dsimp only)) | fail "no step")))
          all_goals first | exact Value.none | exact tj_close (tn := tn) (by assumption) (by assumption) (by k_mem) (by k_mem) (by k_mem) (by intro p hp; repeat (first | exact hp | apply List.Mem.tail)) htk hn hparts (by first | exact barS_yes h91 | exact barS_no haok h91) hsz (by assumption) (by rfl) (by first | rfl | (simp [PTok.txt]; omega)) (by rfl) (by rfl) (by rfl) (by rfl) (by rfl)
      | lit c =>
        have ha : At pat ((toksTxt done).length : Int) c := ⟨_, _, hsplit, rfl⟩
        have hc1 : ((⟨#[c]⟩ : Str) == Str.ofString "*") = false := one_ne (by decide) haok.1
        have hc2 : ((⟨#[c]⟩ : Str) == Str.ofString "?") = false := one_ne (by decide) haok.2.1
        have hc3 : ((⟨#[c]⟩ : Str) == Str.ofString "[") = false := one_ne (by decide) haok.2.2
        (repeat' ((fail_if_success (with_reducible show wpAny _ _ (exec (Stmt.While _ _ _ _) _) _ _ _)); (first | (k_unfold; (try dsimp only)) | (k_end; kc_close) | walk1 | (dsimp only; walk1) | (leave1; (try dsimp only)) | fail "no step")))
        all_goals first | exact Value.none | exact tj_close (tn := tn) (by assumption) (by assumption) (by k_mem) (by k_mem) (by k_mem) (by intro p hp; repeat (first | exact hp | apply List.Mem.tail)) htk hn hparts (.lit _ _) hsz hps₁ (by rfl) (by first | rfl | (simp [PTok.txt]; omega)) (by rfl) (by rfl) (by rfl) (by rfl) (by rfl)
end
end Mine
end
section
open PySem PySem.W PyProof.Rows PySem.Spec PySem.Calls
set_option maxRecDepth 100000
set_option linter.unusedVariables false
namespace Mine
noncomputable def objO : Obj := { cls := .type "object", data := .plain }
theorem mro_object : mroOf (.type "object") = pure [.type "object"] := by rw [mroOf_type]; kernel_rfl
theorem lookup_object_new : typeLookup (.type "object") "__new__" = pure (some (.builtin "object.__new__")) := by rw [typeLookup_type, builtinLookup_eq_fast]; kernel_rfl
theorem slot_object_init' : Slot "object" "__init__" "object.__init__" :=
  .of (owner := "object") (n := "__init__") (by rw [typeLookup_type, builtinLookup_eq_fast]; kernel_rfl) (by decide +kernel) (by decide +kernel) (by decide +kernel)
    (by first | exact .inl (by decide +kernel) | exact .inr (by decide +kernel)) (by rw [isSubtype_type]; kernel_rfl)
theorem entry_object_new' : entryFor table "object.__new__" = some Builtin.«object.__new__» := entryFor_of_tree (by kernel_rfl)
theorem args_object_init_1' (a : Value) : argsOk "object.__init__" ⟨[a], []⟩ := by unfold argsOk; kernel_rfl
theorem made_object : Bind.madeBy (.type "object") = pure (some "object.__new__") := madeBy_type mro_object lookup_object_new (by decide +kernel)
theorem sub_object : isSubtype (.type "object") (.type "object") = pure true := by rw [isSubtype_type]; kernel_rfl
theorem called_object : TypeCalled "object" "object.__new__" "object.__init__" :=
  ⟨by decide +kernel, by decide +kernel, ⟨_, _, mro_object⟩, made_object, by decide +kernel, sub_object, slot_object_init'⟩
theorem typeCall_object : checkTypeCall "object" ⟨[], []⟩ = pure () := by kernel_rfl
theorem newCall_object : checkBuiltinCall "object.__new__" ⟨[.type "object"], []⟩ = pure () := by kernel_rfl
theorem madeHere_object : Bind.madeHere "object.__new__" (.type "object") = pure () := by kernel_rfl
theorem meets_object_new : Meets (Builtin.«object.__new__» ⟨[.type "object"], []⟩) (fun _ R s => R (.ok (.ret (.ref s.heap.objs.size))) { s with heap := s.heap.push objO }) :=
  .of_wp fun prog w A R s h => by
    have h1 := made_object
    have h2 := madeHere_object
    have h3 := sub_object
    wp_walk
    exact ⟨_, rfl, h⟩
section
variable {prog : Program} {w : World} {A : Around} {E : Value → Shared → Prop} {s : Shared}
theorem call_object {Q : Value → Shared → Prop} (h : Q (.ref s.heap.objs.size) { s with heap := s.heap.push objO }) : wpAny (model prog w) A (call (.type "object") []) Q E s :=
  callType_meets (Q₁ := fun v s₁ => s₁.TypeIs v "object" ∧ Q v s₁) called_object typeCall_object newCall_object entry_object_new' PySem.F.entry_object_init meets_object_new ⟨⟨_, Heap.get?_push_size _ rfl, rfl⟩, h⟩ fun obj s₁ hq =>
    ⟨hq.1, args_object_init_1' obj, fun _ R s => R (.ok (.ret .none)) s, .of_wp fun prog w A R s h => wpAny_pure ⟨_, rfl, h⟩, rfl, hq.2⟩
theorem object_L {h₀ : Heap} {L : Addr} {m : Str → Option Value} {news : Led} {Q : Value → Shared → Prop} (F : Fr h₀ L s.heap m) (N : News h₀ L s.heap news)
    (h : ∀ a h', Fr h₀ L h' m → News h₀ L h' ((a, objO) :: news) → (∀ q ∈ news, q.1 < a) → Q (.ref a) { s with heap := h' }) : wpAny (model prog w) A (call (.type "object") []) Q E s :=
  call_object (h _ _ (F.push _) (fun q hq => by
    rcases List.mem_cons.mp hq with rfl | hq
    · exact ⟨Heap.get?_push_size _ rfl, Nat.ne_of_gt F.ns.lt, Heap.get?_none_of_le (Nat.le_trans F.above (Nat.le_of_lt F.ns.lt))⟩
    · exact ⟨Heap.get?_push_of_some _ (N q hq).1, (N q hq).2⟩) fun q hq => Heap.lt_size (N q hq).1)
end
end Mine
end
section
open PySem PySem.W PyProof.Rows PySem.Spec PySem.Calls
set_option maxRecDepth 100000
set_option maxHeartbeats 0
set_option linter.unusedVariables false
namespace Mine
noncomputable def headT (x : Str) : Str := Txt.slice x none (some (Txt.rfind x (Str.ofString "/") + 1))
noncomputable def dirT (x : Str) : Str := if ((headT x).length : Int) = 0 then headT x else if (headT x != Txt.mul (Str.ofString "/") ((headT x).length : Int)) = true then Txt.rstripChars (headT x) (Str.ofString "/") else headT x
theorem dir_end {h₀ h' : Heap} {L : Addr} {m : Str → Option Value} {news : Led} {s : Shared} {Q : Value → Shared → Prop} {post : Value → Prop} {v : Value} {tk : Nat}
    (hret : ∀ (v : Value) (h' : Heap) (tk' : Nat), Fr h₀ L h' m → News h₀ L h' news → post v → Q v { s with heap := h', toks := tk' }) (hp : post v) (F : Fr h₀ L h' m) (N : News h₀ L h' news) : Q v { s with heap := h', toks := tk } := hret v h' tk F N hp
section
theorem dirn_c (w : World) (x : Str) (t : Tok) (hx : x.length ≤ 1000) : CtrV w 170 5 60 [.str x t] (fun _ => True) (fun v => ∃ t', v = .str (dirT x) t') := by
  w_top off
  unfold CtrV
  k_fill
  k_with_none
  (k_with "call ref" => (k_here; k_dflt (refine' CtrV.use (fsp_c _ _ _) ?zqk1 ?zqk2 ?zqk3 ?zqk4 ?zqk5 ?zqkK ?zqkd ?zqku ?zqkp ?_; (case zqk1 => k_asm); (case zqk2 => k_asm); (case zqk3 => k_asm); (case zqk4 => k_asm); (case zqk5 => k_asm); (case zqkK => exact rfl); (case zqkd => ktr_room); (case zqku => ktr_units); (case zqkp => trivial); k_whole); intro v9 h9 tk9 F9 N9 hp9; subst hp9; (try dsimp only); (try k_fold)))
  (k_with "call ref" => (k_here; k_dflt (refine' CtrV.use (gsep_c _ _ _) ?zqk1 ?zqk2 ?zqk3 ?zqk4 ?zqk5 ?zqkK ?zqkd ?zqku ?zqkp ?_; (case zqk1 => k_asm); (case zqk2 => k_asm); (case zqk3 => k_asm); (case zqk4 => k_asm); (case zqk5 => k_asm); (case zqkK => exact rfl); (case zqkd => ktr_room); (case zqku => ktr_units); (case zqkp => trivial); k_whole); intro v9 h9 tk9 F9 N9 hp9; obtain ⟨t9, hp9⟩ := hp9; subst hp9; (try dsimp only); (try k_fold)))
  intro p loose mean mg mb dp un gd cn cs a ccd cl outer A₀ base h₀ L m news s Q E B F X N T hk hd hu hp hret
  refine wpAny_call ?_
  k_dflt cell_enter
  k_steps
  all_goals refine dir_end hret ⟨_, congrArg (Value.str · _) (Eq.symm ?_)⟩ (by assumption) (by assumption)
  all_goals unfold dirT headT
  all_goals first | rw [if_pos (by assumption)] | rw [if_neg (by assumption), if_pos (by assumption)] | rw [if_neg (by assumption), if_neg (ne_true_of_eq_false (by assumption))] | rw [if_neg (by assumption), if_neg (by assumption)]
end
end Mine
end
section
open PySem PySem.W PyProof.Rows PySem.Spec PySem.Calls
set_option maxRecDepth 100000
set_option linter.unusedVariables false
namespace Mine
section
variable {prog : Program} {w : World} {A : Around} {E : Value → Shared → Prop} {s : Shared} {h₀ : Heap} {L a : Addr} {m : Str → Option Value} {news : Led} {value slice : Expr} {X : List Value} {n : Nat} {u t1 t2 : Tok} {x : Int} {Q : Value → Shared → Prop}
theorem slice_three {ms : List Int} (F : Fr h₀ L s.heap m) (N : News h₀ L s.heap news) (hm : (a, lstO X n) ∈ news) (hi : IntsAre X (ms.take 3 ++ [2642, 14763]))
    (h : ∀ D X' h', Fr h₀ L h' m → News h₀ L h' ((D, lstO X' 0) :: news) → (∀ p ∈ news, p.1 < D) → IntsAre X' ((ms.take 3 ++ [2642, 14763]).take 3) → Q (.ref D) { s with heap := h' })
    (hs : subscripted slice false (.ref a) (.ref s.heap.objs.size) = operate [.ref s.heap.objs.size, .ref a] (getItem (.ref a) (.ref s.heap.objs.size)) := by with_unfolding_all rfl) :
    wpAny (model prog w) A (subscriptTail value slice (.ref a) (.ref s.heap.objs.size)) Q E { s with heap := s.heap.push { cls := .type "slice", data := .fields #[.none, .int 3 u, .none] } } := by
  refine kba_turn (value' := Expr.Name (Str.ofString "x") ⟨0, 0, 0, 0⟩) (fun _ => rfl) ?_
  have hl := hi.length
  rw [List.length_append, List.length_take] at hl
  have hl' : X.length ≤ 5 := by rw [hl]; show min 3 ms.length + 2 ≤ 5; omega
  have e : slicePick X.toArray none (some 3) none = (X.take 3).toArray := slicePick_upto' X.toArray 3
  have hk : IntsAre (X.take 3) ((ms.take 3 ++ [2642, 14763]).take 3) := by
    have := slice_ints_uptoW hi (y := 3) (by decide)
    rw [e] at this
    exact this
  refine kmk_slice (its := X.toArray) F N ⟨_, (N _ hm).1, rfl, n, rfl⟩ .none (.int _ _) (fun D h' F' N' l1 => h D (X.take 3) h' F' ?_ l1 hk) hs (fun _ => rfl) (by rw [List.size_toArray]; exact Nat.le_trans hl' (by decide))
  rw [e] at N'
  exact N'
theorem item_cs (N : News h₀ L s.heap news) (hm : (a, lstO [.str (Str.ofString "u-8") t1, .str (Str.ofString "*") t2] n) ∈ news) (h : ∀ cs t', CsOk cs → Q (.str cs t') s)
    (hs : subscripted slice false (.ref a) (.int (Int.fmod x 2) u) = operate [.ref a, .int (Int.fmod x 2) u] (getItem (.ref a) (.int (Int.fmod x 2) u)) := by with_unfolding_all rfl) :
    wpAny (model prog w) A (subscriptTail value slice (.ref a) (.int (Int.fmod x 2) u)) Q E s := by
  refine kba_turn (value' := Expr.Name (Str.ofString "x") ⟨0, 0, 0, 0⟩) (fun _ => rfl) ?_
  refine item_S N hm rfl (fmod_bd x (b := 2) (by decide)) (by decide) (fun t' => h _ t' ?_) hs (fun _ => rfl)
  have hb := fmod_bd x (b := 2) (by decide)
  have hk : (Int.fmod x 2).toNat = 0 ∨ (Int.fmod x 2).toNat = 1 := by omega
  rcases hk with e | e <;> rw [e]
  · exact .inl rfl
  · exact .inr rfl
theorem slice_tag (F : Fr h₀ L s.heap m) (N : News h₀ L s.heap news) (hm : (a, lstO X n) ∈ news) (hz : X.length ≤ 3)
    (h : ∀ D i h', 1 ≤ i → Fr h₀ L h' m → News h₀ L h' ((D, lstO (X.take i) 0) :: news) → (∀ p ∈ news, p.1 < D) → Q (.ref D) { s with heap := h' })
    (hs : subscripted slice false (.ref a) (.ref s.heap.objs.size) = operate [.ref s.heap.objs.size, .ref a] (getItem (.ref a) (.ref s.heap.objs.size)) := by with_unfolding_all rfl) (ht : ∀ r, letTemporaryGo value (.ref a) r = pure () := by intro _; with_unfolding_all rfl) :
    wpAny (model prog w) A (subscriptTail value slice (.ref a) (.ref s.heap.objs.size)) Q E { s with heap := s.heap.push { cls := .type "slice", data := .fields #[.none, .int (1 + Int.fmod x 3) u, .none] } } := by
  have hb := fmod_bd x (b := 3) (by decide)
  have e : slicePick X.toArray none (some (1 + Int.fmod x 3)) none = (X.take (1 + Int.fmod x 3).toNat).toArray := by
    have := slicePick_upto' X.toArray (1 + Int.fmod x 3).toNat
    rw [show (((1 + Int.fmod x 3).toNat : Nat) : Int) = 1 + Int.fmod x 3 by omega] at this
    exact this
  refine kmk_slice (its := X.toArray) F N ⟨_, (N _ hm).1, rfl, n, rfl⟩ .none (.int _ _) (fun D h' F' N' l1 => h D (1 + Int.fmod x 3).toNat h' (by omega) F' ?_ l1) hs ht (by rw [List.size_toArray]; exact Nat.le_trans hz (by decide))
  rw [e] at N'
  exact N'
end
theorem bars_txt : ∀ l : List Nat, (Str.join (Str.ofString "") (l.map barS)).cps.toList = toksTxt (l.map barTok)
  | [] => rfl
  | [c] => by
    show (barS c).cps.toList = (barTok c).txt ++ []
    unfold barS barTok
    split <;> rfl
  | c :: d :: r => by
    have ih := bars_txt (d :: r)
    show ((barS c).cps ++ (Str.ofString "").cps ++ (Str.join (Str.ofString "") ((d :: r).map barS)).cps).toList = (barTok c).txt ++ toksTxt ((d :: r).map barTok)
    rw [Array.toList_append, Array.toList_append, ih]
    have h1 : (Str.ofString "").cps.toList = [] := by decide
    have h2 : (barS c).cps.toList = (barTok c).txt := by
      unfold barS barTok
      split <;> rfl
    rw [h1, h2, List.append_nil]
theorem bar_ok (c : Nat) : (barTok c).ok ∧ barTok c ≠ .star ∧ (barTok c).txt.length ≤ 3 := by
  unfold barTok
  split
  · rename_i h; exact ⟨h, by simp, by simp [PTok.txt]⟩
  · rename_i h; exact ⟨by simp only [PTok.ok]; omega, by simp, by simp [PTok.txt]⟩
theorem bars_len : ∀ l : List Nat, (toksTxt (l.map barTok)).length ≤ 3 * l.length
  | [] => Nat.le_refl _
  | c :: r => by
    show ((barTok c).txt ++ toksTxt (r.map barTok)).length ≤ _
    rw [List.length_append, List.length_cons]
    have := bars_len r
    have := (bar_ok c).2.2
    omega
theorem front_ok {cs x : Str} (h1 : cs.length ≤ 3) (h2 : x.length ≤ 8) : ∃ fr, fr = Txt.join (Str.ofString "") ((cs ++ Str.ofString "'" ++ x).cps.toList.map barS) ∧ fr.length ≤ 40 ∧ fr.cps.toList = toksTxt ((cs ++ Str.ofString "'" ++ x).cps.toList.map barTok) := by
  have h3 : (Str.ofString "'").length = 1 := by decide
  have hl : (cs ++ Str.ofString "'" ++ x).length ≤ 12 := by rw [Str.length_append, Str.length_append, h3]; omega
  generalize cs ++ Str.ofString "'" ++ x = y at hl ⊢
  have e : (Txt.join (Str.ofString "") (y.cps.toList.map barS)).cps.toList = toksTxt (y.cps.toList.map barTok) := by
    show (Builtin.Str.glued _ _).cps.toList = _
    rw [StrLaws.glued_eq_join]
    exact bars_txt _
  refine ⟨_, rfl, ?_, e⟩
  have h4 := bars_len y.cps.toList
  rw [← e, Array.length_toList, Array.length_toList] at h4
  have h5 : y.cps.size ≤ 12 := hl
  show (Txt.join _ _).cps.size ≤ 40
  omega
theorem toks_txt1 {fr : Str} {l : List Nat} (h : fr.cps.toList = toksTxt (l.map barTok)) : (fr ++ Str.ofString "'*").cps.toList = toksTxt (l.map barTok ++ [.lit 39, .star]) := by
  show (fr.cps ++ (Str.ofString "'*").cps).toList = _
  rw [Array.toList_append, h, txt_app]
  rfl
theorem toks_txt2 {fr : Str} {l : List Nat} (h : fr.cps.toList = toksTxt (l.map barTok)) : (fr ++ Str.ofString "-*'*").cps.toList = toksTxt (l.map barTok ++ [.lit 45, .star, .lit 39, .star]) := by
  show (fr.cps ++ (Str.ofString "-*'*").cps).toList = _
  rw [Array.toList_append, h, txt_app]
  rfl
theorem toks_ok1 (l : List Nat) : ∀ a ∈ l.map barTok ++ [.lit 39, .star], a.ok := by
  intro a ha
  rcases List.mem_append.mp ha with h | h
  · obtain ⟨c, _, rfl⟩ := List.mem_map.mp h; exact (bar_ok c).1
  · simp only [List.mem_cons, List.not_mem_nil, or_false] at h
    rcases h with rfl | rfl
    · exact ⟨by decide, by decide, by decide⟩
    · trivial
theorem toks_ok2 (l : List Nat) : ∀ a ∈ l.map barTok ++ [.lit 45, .star, .lit 39, .star], a.ok := by
  intro a ha
  rcases List.mem_append.mp ha with h | h
  · obtain ⟨c, _, rfl⟩ := List.mem_map.mp h; exact (bar_ok c).1
  · simp only [List.mem_cons, List.not_mem_nil, or_false] at h
    rcases h with rfl | rfl | rfl | rfl
    · exact ⟨by decide, by decide, by decide⟩
    · trivial
    · exact ⟨by decide, by decide, by decide⟩
    · trivial
theorem adj_cons {a : PTok} {l : List PTok} (h : a ≠ .star ∨ l.head? ≠ some .star) (hl : NoAdj l) : NoAdj (a :: l) := by
  intro d r e
  cases d with
  | nil =>
    have e1 : a = .star := (List.cons.inj e).1
    have e2 : l = .star :: r := (List.cons.inj e).2
    rcases h with h | h
    · exact h e1
    · exact h (by rw [e2]; rfl)
  | cons b d => exact hl d r (List.cons.inj e).2
theorem adj_bars (t : List PTok) (ht : NoAdj t) : ∀ l : List Nat, NoAdj (l.map barTok ++ t)
  | [] => ht
  | c :: r => adj_cons (.inl (bar_ok c).2.1) (adj_bars t ht r)
theorem adj_nil : NoAdj [] := fun d r e => by cases d <;> cases e
theorem toks_adj1 (l : List Nat) : NoAdj (l.map barTok ++ [.lit 39, .star]) :=
  adj_bars _ (adj_cons (.inl (by simp)) (adj_cons (.inr (by simp)) adj_nil)) l
theorem toks_adj2 (l : List Nat) : NoAdj (l.map barTok ++ [.lit 45, .star, .lit 39, .star]) :=
  adj_bars _ (adj_cons (.inl (by simp)) (adj_cons (.inr (by simp)) (adj_cons (.inl (by simp)) (adj_cons (.inr (by simp)) adj_nil)))) l
section
variable {w : World} {f : Addr} {d u : Nat} {args : List Value} {p : Program} {loose : List Str} {mean : ExcName → Option Value} {mg mb : Str → Option Value} {dp un : Nat} {gd : Option (List Code)} {cn : Str} {cs : Scope} {a : Addr} {ccd : Value} {cl : List (Str × Addr)} {outer : List Env} {A₀ : Around}
    {base h₀ : Heap} {L : Addr} {m : Str → Option Value} {news : Led} {s : Shared} {Q E : Value → Shared → Prop}
theorem CtrT.use {post : Value → Led → Prop} (C : CtrT w f d u args news post) (B : Below A₀ base outer h₀) (F : Fr h₀ L s.heap m) (X : (Mine.hd.heap_39 w.params).In h₀) (CH : CodeHd h₀ 68 64) (N : News h₀ L s.heap news) (T : Top p loose mean mg mb h₀) (hk : cs.kind = .function)
    (hd : dp + d < recursionLimit) (hu : un + u < cLine)
    (h : ∀ (v : Value) (news' : Led) (h' : Heap) (tk' : Nat), Fr h₀ L h' m → News h₀ L h' news' → post v news' → Q v { s with heap := h', toks := tk' }) :
    wpAny (model PySem.Challenge.rw_ik0124_01.prog w) (ktrTop dp un gd cn cs L a ccd cl outer) (call (.ref f) args) Q E s := C _ _ _ _ _ _ _ _ _ _ _ _ _ _ _ _ _ _ _ _ _ _ B F X CH N T hk hd hu h
end
theorem news_pull {h₀ h : Heap} {L : Addr} {l : Led} {x : Addr × Obj} (k : Nat) (N : News h₀ L h l) (e : l[k]? = some x) : News h₀ L h (x :: l.eraseIdx k) := fun p hp => by
  rcases List.mem_cons.mp hp with rfl | hp
  · exact N _ (List.mem_of_getElem? e)
  · exact N _ (List.mem_of_mem_eraseIdx hp)
theorem mem_rot5 {α : Type} {a b c x y : α} {rest : List α} : ∀ p ∈ a :: b :: c :: x :: y :: rest, p ∈ x :: y :: a :: b :: c :: rest := by
  intro p hp
  simp only [List.mem_cons] at hp ⊢
  rcases hp with h | h | h | h | h | h <;> simp only [h, true_or, or_true]
theorem app_L {prog : Program} {w : World} {A : Around} {E : Value → Shared → Prop} {s : Shared} {h₀ : Heap} {L a : Addr} {m : Str → Option Value} {news : Led} {g : Obj → Led} {X : List Value} {n : Nat} {v : Value} {Q : Value → Shared → Prop} (F : Fr h₀ L s.heap m) (N : News h₀ L s.heap news) (U : UpdF a (lstO X n) news g) (hz : X.length ≤ 100)
    (h : ∀ h', Fr h₀ L h' m → News h₀ L h' (g (lstO (X ++ [v]) (n + 1))) → Q .none { s with heap := h' }) : wpAny (model prog w) A (call (.builtin "list.append") [.ref a, v]) Q E s := by
  obtain ⟨own, rest, rfl, hg, h1, h2⟩ := U.split
  have hmem := N (a, lstO X n) (List.mem_append_right _ (.head _))
  refine append_at (hsz := by rw [List.size_toArray]; exact Nat.le_trans hz (by decide)) hmem.1 fun h' hs ho' => h h' (F.change hs hmem.2.1 hmem.2.2) (hg _ ▸ N.setAt h1 h2 hs ?_)
  rw [ho', List.push_toArray]
theorem mem_skip {α : Type} {l : List α} (k : Nat) {p : α} (h : p ∈ l.eraseIdx k) : p ∈ l := List.mem_of_mem_eraseIdx h
theorem off3_pull {I C D r c : Addr} {x o o' : Obj} {l l' : Led} (h : LCg.Off3 I C D l) (hsub : ∀ p ∈ l', p ∈ l) (hc : (c, o) ∈ l) (hr : (@LT.lt Nat _ I r) ∧ (@LT.lt Nat _ C r) ∧ (@LT.lt Nat _ D r)) : LCg.Off3 I C D ((r, x) :: (c, o') :: l') :=
  ⟨⟨Nat.ne_of_gt hr.1, Nat.ne_of_gt hr.2.1, Nat.ne_of_gt hr.2.2⟩, h.mem (c, o) hc, LCg.Off3.of fun p hp => h.mem p (hsub p hp)⟩
noncomputable def OffT (L ra ga I : Addr) (p : Addr × Obj) : Prop := p.1 ≠ ra ∧ p.1 ≠ ga ∧ p.1 ≠ L + 1 + 1 + 1 ∧ p.1 ≠ L + 1 + 1 ∧ p.1 ≠ L + 1 ∧ p.1 ≠ 64 ∧ p.1 ≠ I
theorem offT_gt {L ra ga I a : Addr} {o : Obj} {R : Prop} (h : (@LT.lt Nat _ ra I) ∧ (@LT.lt Nat _ ga I) ∧ (@LT.lt Nat _ (L + 1 + 1 + 1) I) ∧ (@LT.lt Nat _ (L + 1 + 1) I) ∧ (@LT.lt Nat _ (L + 1) I) ∧ (@LT.lt Nat _ 64 I) ∧ R) (ha : @LT.lt Nat _ I a) : OffT L ra ga I (a, o) :=
  ⟨Nat.ne_of_gt (Nat.lt_trans h.1 ha), Nat.ne_of_gt (Nat.lt_trans h.2.1 ha), Nat.ne_of_gt (Nat.lt_trans h.2.2.1 ha), Nat.ne_of_gt (Nat.lt_trans h.2.2.2.1 ha), Nat.ne_of_gt (Nat.lt_trans h.2.2.2.2.1 ha), Nat.ne_of_gt (Nat.lt_trans h.2.2.2.2.2.1 ha), Nat.ne_of_gt ha⟩
theorem offT_low {L ra ga I st : Addr} {p : Addr × Obj} (h : @LT.lt Nat _ (L + 1 + 1 + 1) ra ∧ @LT.lt Nat _ ra ga ∧ @LT.lt Nat _ ga st ∧ @LT.lt Nat _ 64 L) (h1 : @LE.le Nat _ st p.1) (h2 : @LT.lt Nat _ p.1 I) : OffT L ra ga I p := by
  refine ⟨?_, ?_, ?_, ?_, ?_, ?_, ?_⟩ <;> (show @Ne Nat _ _; omega)
theorem offT_dz {L ra ga I Dz : Addr} {o : Obj} {R : Prop} (h : (@Ne Nat I Dz) ∧ (@Ne Nat ra Dz) ∧ (@Ne Nat ga Dz) ∧ (@Ne Nat (L + 1 + 1 + 1) Dz) ∧ (@Ne Nat (L + 1 + 1) Dz) ∧ (@Ne Nat (L + 1) Dz) ∧ R) (h64 : @Ne Nat 64 Dz) : OffT L ra ga I (Dz, o) :=
  ⟨Ne.symm h.2.1, Ne.symm h.2.2.1, Ne.symm h.2.2.2.1, Ne.symm h.2.2.2.2.1, Ne.symm h.2.2.2.2.2.1, Ne.symm h64, Ne.symm h.1⟩
inductive L1X (L ra ga st D9 I : Addr) (X9 : List Value) (r : List Value) (nw : Led) : Prop
  | mk (rs : List RowD) (rest : List Int) (rv gv : List Value) (n1 n2 : Nat) (oV oF oS : Obj) (v1 v2 : Option Value) (ps : Array Value) (tail : Led) : nw = (ra, lstO rv n1) :: (ga, lstO gv n2) :: (L + 1 + 1 + 1, oV) :: (L + 1 + 1, oF) :: (L + 1, oS) :: (64, tabObj ps) :: tail → IntsAre r rest → rs.length + rest.length ≤ 3 → 2 ≤ rs.length + rest.length →
    All2 (RowAt tail) rv rs → All2 (RangeAt st tail) gv rs → (∀ a ∈ rs, RowOk a) → oV.data = .cell v1 → oF.data = .cell v2 → oS.data = .cell (some (.ref st)) → TabOk ps → (D9, lstO X9 0) ∈ tail → (st, objO) ∈ tail → (∀ p ∈ tail, OffT L ra ga I p) → L1X L ra ga st D9 I X9 r nw
/-- the state of the law's first loop between two turns -/
structure L1 (L ra ga st D9 I : Addr) (X9 : List Value) (r : List Value) (m : Str → Option Value) (nw : Led) : Prop where
  ex : L1X L ra ga st D9 I X9 r nw
  mr : m (Str.ofString "rows") = some (.ref ra)
  mg : m (Str.ofString "ranges") = some (.ref ga)
end Mine
end
section
open PySem PySem.W PyProof.Rows PySem.Spec PySem.Calls
set_option maxRecDepth 100000
set_option maxHeartbeats 0
set_option linter.unusedVariables false
namespace Mine
noncomputable def DecOut (x : Str) (t : Tok) (parts : List Str) (o : Obj) : Prop :=
  (parts.length ≤ 2 ∧ ∃ n, o = tupO [.none, .none, .str x t] n) ∨
  (2 < parts.length ∧ ∃ vs n, StrsAre vs parts ∧ o = lstO vs n)
section
variable {prog : Program} {w : World} {A : Around} {E : Value → Shared → Prop} {s : Shared} {h₀ : Heap} {L a : Addr} {m : Str → Option Value} {news : List (Addr × Obj)} {Q : Value → Shared → Prop} {x y : Str} {t u v : Tok} {k : Int}
theorem split2_L (hF : Fr h₀ L s.heap m) (hN : News h₀ L s.heap news) (hy : (y.length == 0) = false) (hk : (decide (k < -(2 ^ 63 : Int)) || decide (k ≥ 2 ^ 63)) = false) (hx : x.length ≤ 1000)
    (h : ∀ r vs h' tk, StrsAre vs (Txt.splitMax x y k) → Fr h₀ L h' m → News h₀ L h' ((r, lstO vs 0) :: news) → (∀ q ∈ news, q.1 < r) → Q (.ref r) { s with heap := h', toks := tk }) :
    wpAny (model prog w) A (call (.builtin "str.split") [.str x t, .str y u, .int k v]) Q E s :=
  splitN2A hF hN hy hk (fun l h' tk e1 e2 _ _ F' N' => h _ _ _ _ (e1 ▸ e2) F' N' (fun q hq => Heap.lt_size (hN q hq).1)) (Nat.le_trans (Nat.add_le_add_right hx 2) (by decide))
theorem split1_L (hF : Fr h₀ L s.heap m) (hN : News h₀ L s.heap news) (hy : (y.length == 0) = false) (hx : x.length ≤ 1000)
    (h : ∀ r vs h' tk, StrsAre vs (Txt.split x y) → Fr h₀ L h' m → News h₀ L h' ((r, lstO vs 0) :: news) → (∀ q ∈ news, q.1 < r) → Q (.ref r) { s with heap := h', toks := tk }) :
    wpAny (model prog w) A (call (.builtin "str.split") [.str x t, .str y u]) Q E s :=
  splitN1A hF hN hy (fun l h' tk e1 e2 _ _ F' N' => h _ _ _ _ (e1 ▸ e2) F' N' (fun q hq => Heap.lt_size (hN q hq).1)) (Nat.le_trans (Nat.add_le_add_right hx 2) (by decide))
end
section
theorem dec_c (w : World) (x : Str) (t : Tok) (parts : List Str) (hx : x.length ≤ 1000) (hsp : Txt.splitMax x (Str.ofString "'") 2 = parts) (hp3 : parts.length ≤ 3) : CtrO w 45 1 20 [.str x t] (fun _ => True) (DecOut x t parts) := by
  w_top off
  unfold CtrO
  k_fill
  k_with_none
  (k_with "call builtin:str.split" => (k_here; k_dflt (refine' split2_L ?zqF ?zqN ?zqy ?zqk ?zqx ?_; (case zqF => k_asm); (case zqN => k_asm); (case zqy => rfl); (case zqk => decide); (case zqx => assumption); k_whole); intro r9 vs9 h9 k9 hs9 F9 N9 lt9; (try dsimp only)))
  (k_with "call builtin:len" => (k_here; k_dflt (refine' len_L ?zqkN ?zqhm ?zqfit ?_; (case zqkN => k_asm); (case zqhm => k_mem); (case zqfit => (have hh := StrsAre.len_eq ‹StrsAre _ _›; simp only [*] at hh; omega)); k_whole); intro t' tk'))
  intro p loose mean mg mb dp un gd cn cs a ccd cl outer A₀ base h₀ L m news s Q E B F X N T hk hd hu hp hret
  refine wpAny_call ?_
  k_dflt cell_enter
  k_steps
  · have hlt := ‹@LT.lt Nat _ _ _ ∧ AllLt _ news›
    have hs := ‹StrsAre _ _›
    have hle := ‹(_ : Int) ≤ 2›
    rw [hsp] at hs
    exact ctrO_end hret (by assumption) (by assumption) (.head _) (fun p hp => .tail _ (.tail _ hp)) (tb_ltOf hlt.2) (.inl ⟨by have := hs.len_eq; omega, _, rfl⟩)
  · have hs := ‹StrsAre _ _›
    have hle := ‹¬ (_ : Int) ≤ 2›
    rw [hsp] at hs
    exact ctrO_end hret (by assumption) (by assumption) (.head _) (fun p hp => .tail _ hp) (by assumption) (.inr ⟨by have := hs.len_eq; omega, _, _, hs, rfl⟩)
end
end Mine
end
section
open PySem PySem.W PyProof.Rows PySem.Spec PySem.Calls
set_option maxRecDepth 100000
set_option linter.unusedVariables false
namespace Mine
theorem slot_map_init : Slot "map" "__init__" "object.__init__" :=
  .of (owner := "object") (n := "__init__") (by rw [typeLookup_type, builtinLookup_eq_fast]; kernel_rfl) (by decide +kernel) (by decide +kernel) (by decide +kernel)
    (by first | exact .inl (by decide +kernel) | exact .inr (by decide +kernel)) (by rw [isSubtype_type]; kernel_rfl)
theorem slot_map_iter : Slot "map" "__iter__" "map.__iter__" :=
  .of (owner := "map") (n := "__iter__") (by rw [typeLookup_type, builtinLookup_eq_fast]; kernel_rfl) (by decide +kernel) (by decide +kernel) (by decide +kernel)
    (by first | exact .inl (by decide +kernel) | exact .inr (by decide +kernel)) (by rw [isSubtype_type]; kernel_rfl)
theorem slot_map_next : Slot "map" "__next__" "map.__next__" :=
  .of (owner := "map") (n := "__next__") (by rw [typeLookup_type, builtinLookup_eq_fast]; kernel_rfl) (by decide +kernel) (by decide +kernel) (by decide +kernel)
    (by first | exact .inl (by decide +kernel) | exact .inr (by decide +kernel)) (by rw [isSubtype_type]; kernel_rfl)
theorem entry_map_next : entryFor table "map.__next__" = some Builtin.«map.__next__» := entryFor_of_tree (by kernel_rfl)
theorem entry_map_new : entryFor table "map.__new__" = some Builtin.«map.__new__» := entryFor_of_tree (by kernel_rfl)
theorem args_map_next (a : Value) : argsOk "map.__next__" ⟨[a], []⟩ := by unfold argsOk; kernel_rfl
theorem args_map_iter (a : Value) : argsOk "map.__iter__" ⟨[a], []⟩ := by unfold argsOk; kernel_rfl
theorem entry_map_iter : entryFor table "map.__iter__" = some Builtin.«dict_keyiterator.__iter__» :=
  entryFor_alias (id' := "dict_keyiterator.__iter__") (by kernel_rfl) (by first | rfl | decide +kernel | (unfold String.splitOn; simp +decide [String.splitOnAux])) (by decide +kernel) (by kernel_rfl)
theorem mro_map : mroOf (.type "map") = pure [.type "map", .type "object"] := by rw [mroOf_type]; kernel_rfl
theorem lookup_map_new : typeLookup (.type "map") "__new__" = pure (some (.builtin "map.__new__")) := by rw [typeLookup_type, builtinLookup_eq_fast]; kernel_rfl
theorem called_map : TypeCalled "map" "map.__new__" "object.__init__" :=
  ⟨by decide +kernel, by decide +kernel, ⟨_, _, mro_map⟩, madeBy_type mro_map lookup_map_new (by decide +kernel), by decide +kernel, by rw [isSubtype_type]; kernel_rfl, slot_map_init⟩
theorem typeCall_map_2 (a b : Value) : checkTypeCall "map" ⟨[a, b], []⟩ = pure () := by kernel_rfl
theorem newCall_map_2 (a b : Value) : checkBuiltinCall "map.__new__" ⟨[.type "map", a, b], []⟩ = pure () := by kernel_rfl
theorem map_no_len : typeLookup (.type "map") "__len__" = pure none := by rw [typeLookup_type, builtinLookup_eq_fast]; kernel_rfl
theorem map_no_hint : typeLookup (.type "map") "__length_hint__" = pure none := by rw [typeLookup_type, builtinLookup_eq_fast]; kernel_rfl
theorem sub_map : isSubtype (.type "map") (.type "map") = pure true := by rw [isSubtype_type]; kernel_rfl
abbrev mp1 (h : Heap) (l : Addr) : Heap := h.push { cls := .type "list_iterator", data := .fields #[.ref l, .int 0 0] }
abbrev mp2 (h : Heap) (l : Addr) : Heap := (mp1 h l).push (tupO [.ref h.objs.size] 0)
abbrev mp3 (h : Heap) (l f : Addr) : Heap := (mp2 h l).push { cls := .type "map", data := .fields #[.ref (mp1 h l).objs.size, .ref f] }
theorem meets_map_new (l f : Addr) (xs : Array Value) :
    Meets (Builtin.«map.__new__» ⟨[.type "map", .ref f, .ref l], []⟩) (fun _ R s => s.heap.IsList l xs ∧ R (.ok (.ret (.ref (mp2 s.heap l).objs.size))) { s with heap := mp3 s.heap l f }) :=
  .of_wp fun prog w A R s h => by
    obtain ⟨hp, g, d, tk, os⟩ := s; obtain ⟨hl1, h⟩ := h
    have hsub := sub_map
    have hL1 : Heap.IsList (Shared.heap ⟨hp, g, d, tk, os⟩) l xs := hl1
    wp_walk using wpAny_pyIter_list hL1
    exact ⟨_, rfl, h⟩
section
variable {prog : Program} {w : World} {A : Around} {E : Value → Shared → Prop} {s : Shared}
theorem call_map {l f : Addr} {xs : Array Value} {Q : Value → Shared → Prop} (hl : s.heap.IsList l xs) (h : Q (.ref (mp2 s.heap l).objs.size) { s with heap := mp3 s.heap l f }) :
    wpAny (model prog w) A (call (.type "map") [.ref f, .ref l]) Q E s :=
  callType_new called_map (by decide) (typeCall_map_2 _ _) (newCall_map_2 _ _) (fun obj => PySem.F.args_object_init_3 obj _ _) entry_map_new (meets_map_new l f xs) ⟨hl, ⟨_, Heap.get?_push_size _ rfl, rfl⟩, h⟩
theorem map_next_item {M T I l f : Addr} {k n : Nat} {xs : Array Value} {x : Value} {Q : Value → Shared → Prop} (hM : s.heap.get? M = some { cls := .type "map", data := .fields #[.ref T, .ref f] }) (hT : s.heap.get? T = some (tupO [.ref I] n)) (hMI : M ≠ I)
    (hi : s.heap.IsListIter I l k) (hl : s.heap.IsList l xs) (hx : xs[k]? = some x)
    (hQ : ∀ h', h'.IsListIter I l (k + 1) → (∀ c o, c ≠ I → s.heap.get? c = some o → h'.get? c = some o) → wpAny (model prog w) A (call (.ref f) [x]) Q E { s with heap := h' }) :
    wpAny (model prog w) A (Builtin.«map.__next__» ⟨[.ref M], []⟩) (fun fin s' => ∃ v, fin = .done (.ret v) ∧ Q v s') E s := by
  show wpAny _ _ (field (.ref M) 0 >>= _) _ _ _
  refine wpAny_bind (wpAny_field hM rfl (x := .ref T) rfl ?_)
  refine wpAny_bind (wpAny_seqItems hT rfl ?_)
  refine wpAny_bind ?_
  simp only [List.forIn_toArray, List.forIn_cons, List.forIn_nil]
  refine wpAny_bind (wpAny_bind (wpAny_holding (wpAny_nextOf_list_item hi hl hx fun h₁ hi₁ hs₁ => wpAny_pure (wpAny_pure ?_))))
  refine wpAny_bind (wpAny_field (hs₁.extBut _ _ hMI hM) rfl (x := .ref f) rfl ?_)
  exact wpAny_bind (wpAny_holding (wpAny_mono (hQ h₁ hi₁ fun c o hc e => hs₁.extBut _ _ hc e) (fun v s' hv => wpAny_bind (wpAny_letGo (wpAny_pure ⟨v, rfl, hv⟩))) fun _ _ e => e))
theorem map_next_end {M T I l f : Addr} {k n : Nat} {xs : Array Value} {Q : Fin → Shared → Prop} (hh : A.handled = none) (hM : s.heap.get? M = some { cls := .type "map", data := .fields #[.ref T, .ref f] }) (hT : s.heap.get? T = some (tupO [.ref I] n))
    (hi : s.heap.IsListIter I l k) (hl : s.heap.IsList l xs) (hx : xs[k]? = none)
    (hE : ∀ h' e, (∀ c o, c ≠ I → s.heap.get? c = some o → h'.get? c = some o) → (∃ o, h'.get? e = some o ∧ o.cls = .type "StopIteration") → E (.ref e) { s with heap := h' }) :
    wpAny (model prog w) A (Builtin.«map.__next__» ⟨[.ref M], []⟩) Q E s := by
  show wpAny _ _ (field (.ref M) 0 >>= _) _ _ _
  refine wpAny_bind (wpAny_field hM rfl (x := .ref T) rfl ?_)
  refine wpAny_bind (wpAny_seqItems hT rfl ?_)
  refine wpAny_bind ?_
  simp only [List.forIn_toArray, List.forIn_cons, List.forIn_nil]
  exact wpAny_bind (wpAny_bind (wpAny_holding (wpAny_nextOf_list_end hh hi hl hx fun h₁ e hs₁ he => hE h₁ e (fun c o hc x => hs₁ _ _ hc x) he)))
theorem pyNext_map_item {M T I l f : Addr} {k n : Nat} {xs : Array Value} {x : Value} {Q : Option Value → Shared → Prop} (hM : s.heap.get? M = some { cls := .type "map", data := .fields #[.ref T, .ref f] }) (hT : s.heap.get? T = some (tupO [.ref I] n)) (hMI : M ≠ I)
    (hi : s.heap.IsListIter I l k) (hl : s.heap.IsList l xs) (hx : xs[k]? = some x)
    (hQ : ∀ h' E', h'.IsListIter I l (k + 1) → (∀ c o, c ≠ I → s.heap.get? c = some o → h'.get? c = some o) → wpAny (model prog w) A.in1 (call (.ref f) [x]) (fun v s' => Q (some v) s') E' { s with heap := h' }) :
    wpAny (model prog w) A (pyNext (.ref M)) Q E s := by
  have hTy : s.TypeIs (.ref M) "map" := ⟨_, hM, rfl⟩
  unfold pyNext
  exact wpAny_bind (wpAny_attempt (wpAny_callSpecial?_slot (name := Str.ofString "__next__") hTy slot_map_next
    (wpAny_call_entry slot_map_next hTy entry_map_next (map_next_item hM hT hMI hi hl hx fun h' a1 a2 => wpAny_mono (hQ h' _ a1 a2) (fun v s' hv => wpAny_pure hv) fun _ _ e => e) (args_map_next _))))
theorem pyNext_map_end {M T I l f : Addr} {k n : Nat} {xs : Array Value} {Q : Option Value → Shared → Prop} (hh : A.handled = none) (hM : s.heap.get? M = some { cls := .type "map", data := .fields #[.ref T, .ref f] }) (hT : s.heap.get? T = some (tupO [.ref I] n))
    (hi : s.heap.IsListIter I l k) (hl : s.heap.IsList l xs) (hx : xs[k]? = none)
    (hQ : ∀ h', (∀ c o, c ≠ I → s.heap.get? c = some o → h'.get? c = some o) → Q none { s with heap := h' }) :
    wpAny (model prog w) A (pyNext (.ref M)) Q E s := by
  have hTy : s.TypeIs (.ref M) "map" := ⟨_, hM, rfl⟩
  unfold pyNext
  refine wpAny_bind (wpAny_attempt (wpAny_callSpecial?_slot (name := Str.ofString "__next__") hTy slot_map_next
    (wpAny_call_entry slot_map_next hTy entry_map_next (map_next_end hh hM hT hi hl hx fun h' e hk he => ?_) (args_map_next _))))
  obtain ⟨o, ho, hc⟩ := he
  refine wpAny_bind (wpAny_isInstance (T := "StopIteration") (b := true) ⟨o, ho, hc⟩ isSubtype_stop ?_)
  exact wpAny_pure (hQ _ hk)
end
end Mine
end
section
open PySem PySem.W PyProof.Rows PySem.Spec PySem.Calls
open Sem (wp)
open AutoSeq1 (wpAny_loadPart')
set_option maxRecDepth 100000
set_option linter.unusedVariables false
namespace Mine
/-- every object of `h` that is neither the frame nor of the base -/
noncomputable def allN (h₀ h : Heap) (L : Addr) : Led := (List.range h.objs.size).filterMap fun b => if b = L then none else match h₀.get? b with
  | some _ => none
  | none => (h.get? b).map fun o => (b, o)
theorem allN_news {h₀ h : Heap} {L : Addr} : News h₀ L h (allN h₀ h L) := by
  intro p hp
  obtain ⟨b, hb, e⟩ := List.mem_filterMap.mp hp
  by_cases hbL : b = L
  · rw [if_pos hbL] at e; cases e
  · rw [if_neg hbL] at e
    cases h0 : h₀.get? b with
    | some o => rw [h0] at e; cases e
    | none =>
      rw [h0] at e
      obtain ⟨o, ho, rfl⟩ := Option.map_eq_some_iff.mp e
      exact ⟨ho, hbL, h0⟩
theorem allN_mem {h₀ h : Heap} {L b : Addr} {o : Obj} (e : h.get? b = some o) (hb : b ≠ L) (h0 : h₀.get? b = none) : (b, o) ∈ allN h₀ h L := by
  refine List.mem_filterMap.mpr ⟨b, List.mem_range.mpr (Heap.lt_size e), ?_⟩
  rw [if_neg hb, h0, e]
  rfl
section
variable {w : World} {p : Program} {loose : List Str} {mean : ExcName → Option Value} {mg mb : Str → Option Value} {dp un : Nat} {gd : Option (List Code)} {cn : Str} {cs : Scope} {a : Addr} {ccd : Value} {cl : List (Str × Addr)} {outer : List Env} {A₀ : Around}
    {base h₀ : Heap} {L : Addr} {m : Str → Option Value}
theorem fsp_keep {s : Shared} {Q E : Value → Shared → Prop} (x : Str) (t : Tok) (B : Below A₀ base outer h₀) (F : Fr h₀ L s.heap m) (X : (Mine.hd.heap_39 w.params).In h₀) (T : Top p loose mean mg mb h₀) (hk : cs.kind = .function)
    (hd : dp + 1 < recursionLimit) (hu : un + 20 < cLine)
    (h : ∀ h' tk, Fr h₀ L h' m → (∀ b o, b ≠ L → s.heap.get? b = some o → h'.get? b = some o) → Q (.str x t) { s with heap := h', toks := tk }) :
    wpAny (model prg w) (ktrTop dp un gd cn cs L a ccd cl outer) (call (.ref 142) [.str x t]) Q E s := by
  refine CtrV.use (fsp_c w x t) B F X (allN_news (h := s.heap)) T hk hd hu trivial (fun v h' tk' F' N' hv => ?_)
  subst hv
  refine h h' tk' F' (fun b o hb e => ?_)
  cases h0 : h₀.get? b with
  | some o' =>
    have e1 := F.keep b o' h0
    rw [e] at e1; cases e1
    exact F'.keep b _ h0
  | none => exact (N' _ (allN_mem e hb h0)).1
theorem fr_iter {h h' : Heap} {I : Addr} (F : Fr h₀ L h m) (hk : ∀ b o, b ≠ I → h.get? b = some o → h'.get? b = some o) (hL : I ≠ L) (h0 : h₀.get? I = none) : Fr h₀ L h' m :=
  kmk_fr F (fun b o hb e => hk b o (by simpa using hb) e) hL h0
theorem walks_map {M T I l : Addr} {arr : Array Value} {N : Nat} (x y : Str) (tx ty : Tok) (harr : arr = #[.str x tx, .str y ty]) (B : Below A₀ base outer h₀) (X : (Mine.hd.heap_39 w.params).In h₀) (Tp : Top p loose mean mg mb h₀) (hk : cs.kind = .function)
    (hd : dp + 1 < recursionLimit) (hu : un + 21 < cLine) (hN : L < N) (hMN : M < N) (hTN : T < N) (hIN : I < N) (hlN : l < N) (hMI : M ≠ I) (hTI : T ≠ I) (hlI : l ≠ I) (hIL : I ≠ L) (hML : M ≠ L) (hTL : T ≠ L) (hlL : l ≠ L) (hI0 : h₀.get? I = none) (h0N : h₀.objs.size ≤ L) :
    Walks prg w (ktrTop dp un gd cn cs L a ccd cl outer) M (List.range N) [I, L] 2 (fun i v => arr[i]? = some v)
      (fun i h => h.IsListIter I l i ∧ h.IsList l arr ∧ h.get? M = some { cls := .type "map", data := .fields #[.ref T, .ref 142] } ∧ h.get? T = some (tupO [.ref I] 0) ∧ Fr h₀ L h m) where
  sub := fun b hb => by
    rcases List.mem_cons.mp hb with rfl | hb
    · exact List.mem_range.mpr hIN
    · rw [List.mem_singleton.mp hb]; exact List.mem_range.mpr hN
  frame := fun i h h' ⟨s1, s2, s3, s4, F⟩ hk => by
    have k : ∀ b o, b < N → h.get? b = some o → h'.get? b = some o := fun b o hb e => hk b (List.mem_range.mpr hb) o e
    refine ⟨s1.at fun o e => k I o hIN e, ?_, k _ _ hMN s3, k _ _ hTN s4, ?_⟩
    · obtain ⟨o, e, r⟩ := s2
      exact ⟨o, k _ _ hlN e, r⟩
    · exact ⟨F.ns.at' fun o e => k _ _ hN e, fun b o e => k b o (Nat.lt_of_lt_of_le (Heap.lt_size e) (Nat.le_of_lt (Nat.lt_of_le_of_lt h0N hN))) (F.keep b o e), F.above⟩
  item := fun i s Q E hi ⟨s1, s2, s3, s4, F⟩ hQ => by
    obtain ⟨z, tz, hz⟩ : ∃ z tz, arr[i]? = some (.str z tz) := by
      subst harr
      rcases i with _ | _ | i
      · exact ⟨x, tx, rfl⟩
      · exact ⟨y, ty, rfl⟩
      · omega
    refine pyNext_map_item s3 s4 hMI s1 s2 hz (fun h' E' s1' k' => ?_)
    have F' := fr_iter F k' hIL hI0
    refine fsp_keep (un := un + 1) z tz B F' X Tp hk hd (by omega) (fun h'' tk F'' k'' => ?_)
    refine hQ _ h'' tk hz ⟨s1'.at fun o e => k'' _ _ hIL e, ?_, k'' _ _ hML (k' _ _ hMI s3), k'' _ _ hTL (k' _ _ hTI s4), F''⟩ fun b o hb e => k'' b o (fun q => hb (by simp [q])) (k' b o (fun q => hb (by simp [q])) e)
    obtain ⟨o, e, r⟩ := s2
    exact ⟨o, k'' _ _ hlL (k' _ _ hlI e), r⟩
  done := fun s Q E ⟨s1, s2, s3, s4, F⟩ hQ => pyNext_map_end rfl s3 s4 s1 s2 (by rw [harr]; rfl) fun h' k' => hQ h' s.toks fun b o hb e => k' b o (fun q => hb (by simp [q])) e
  self := fun i s Q E ⟨s1, s2, s3, s4, F⟩ hQ => by
    have hT : s.TypeIs (.ref M) "map" := ⟨_, s3, rfl⟩
    refine wpAny_pyIter_slot hT slot_map_iter (wpAny_call_entry slot_map_iter hT entry_map_iter ?_ (args_map_iter _))
    show wpAny _ _ (ret (.ref M)) _ _ s
    exact wpAny_pure ⟨_, rfl, "map", _, hT, slot_map_next.lookup, hQ⟩
end
end Mine
end
section
open PySem PySem.W PyProof.Rows PySem.Spec PySem.Calls
open Sem (wp)
open AutoSeq1 (wpAny_loadPart')
set_option maxRecDepth 100000
set_option linter.unusedVariables false
namespace Mine
section
variable {prog : Program} {w : World} {A : Around} {E : Value → Shared → Prop} {s : Shared} {I : Addr} {fp wr : List Addr} {G : Array GenState → Array GenState → Prop} {n : Nat} {P : Nat → Value → Prop} {St : Nat → Shared → Prop}
theorem ext_loop {R : Result → Shared → Prop} {St' : Shared → Prop} (W : WalksS prog w A.in1 I fp wr G n P St) (hdone : ∀ (s : Shared) (Q : Option Value → Shared → Prop) (E : Value → Shared → Prop), St n s → (∀ s', St' s' → Moved wr G s s' → Q none s') → wpAny (model prog w) A.in1 (pyNext (.ref I)) Q E s) (hn : n ≤ sizeLine) (S : Addr) (hSf : S ∉ fp) (res : Value) :
    ∀ (k i : Nat) (s : Shared) (acc : Array Value) (c : Nat), n - i = k → i ≤ n → St i s → s.heap.get? S = some { cls := .type "list", dict := none, data := .seq acc c, slots := #[] } → ItemsOf P acc i →
    (∀ s' acc' c', St' s' → Moved (S :: wr) G s s' → s'.heap.get? S = some { cls := .type "list", dict := none, data := .seq acc' c', slots := #[] } → ItemsOf P acc' n → R (.ok (.ret res)) s') →
    codeAny (model prog w) A (.builtin "list.extend.loop" ⟨[.ref S, .ref I, res], []⟩) R s := by
  have hSw : S ∉ wr := fun h => hSf (W.sub _ h)
  have hsub : ∀ b ∈ wr, b ∈ S :: wr := fun b hb => List.mem_cons_of_mem _ hb
  intro k
  induction k with
  | zero =>
    intro i s acc c hk hi hst hS hacc hR
    have hin : i = n := by omega
    subst hin
    refine codeAny_builtin PySem.F.entry_extend_loop ?_
    rw [Around.under_plainId PySem.F.plain_extend_loop _]
    show wpAny _ A.in1 (pyNext (.ref I) >>= _) _ _ s
    refine wpAny_bind (hdone s _ _ hst fun s' hst' hm => ?_)
    exact wpAny_pure (hR s' acc c hst' (hm.mono hsub) (hm.heap S _ hSw hS) hacc)
  | succ k ih =>
    intro i s acc c hk hi hst hS hacc hR
    have hlt : i < n := by omega
    refine codeAny_builtin PySem.F.entry_extend_loop ?_
    rw [Around.under_plainId PySem.F.plain_extend_loop _]
    show wpAny _ A.in1 (pyNext (.ref I) >>= _) _ _ s
    refine wpAny_bind (W.item i s _ _ hlt hst fun v s' hP hst' hm => ?_)
    have hS' := hm.heap S _ hSw hS
    show wpAny _ A.in1 (updateSeq S (·.push v) >>= _) _ _ _
    refine wpAny_bind ?_
    refine wpAny_updateSeq hS' rfl (wpAny_pure ⟨plainId_quiet PySem.F.plain_extend_loop _, ih (i + 1) _ (acc.push v) _ (by omega) hlt (W.frame _ s' _ s'.toks hst' (Nat.le_refl _) fun b hb o e => ?_) (Heap.get?_update_self _ hS' rfl) (hacc.push hP) fun s'' acc' c' ht hm'' hS'' hacc' => ?_⟩)
      (by rw [hacc.1]; omega) (by show (acc.push v).size ≤ sizeLine + 1; rw [Array.size_push, hacc.1]; omega)
    · exact (Heap.get?_update_other _ _ (fun h : S = b => hSf (by rw [h]; exact hb))).trans e
    · refine hR s'' acc' c' ht (Moved.trans W.gtrans ((hm.mono hsub).then_heap (by first | exact Nat.le_refl _ | exact Nat.le_succ _ | omega) fun b o hb e => ?_) hm'') hS'' hacc'
      exact (Heap.get?_update_other _ _ (fun h : S = b => hb (by rw [h]; exact List.mem_cons_self))).trans e
theorem collect_map {St' : Shared → Prop} {Q : List Value → Shared → Prop} (W : WalksS prog w A.in1 I fp wr G n P St) (hdone : ∀ (s : Shared) (Q : Option Value → Shared → Prop) (E : Value → Shared → Prop), St n s → (∀ s', St' s' → Moved wr G s s' → Q none s') → wpAny (model prog w) A.in1 (pyNext (.ref I)) Q E s) (hT : ∀ i s, St i s → s.TypeIs (.ref I) "map") (hst : St 0 s) (hfp : ∀ b ∈ fp, b < s.heap.objs.size) (hI : I ∈ fp)
    (hQ : ∀ s' acc, St' s' → Moved wr G s s' → ItemsOf P acc n → Q acc.toList s') (hn : n ≤ sizeLine) : wpAny (model prog w) A (collect (.ref I)) Q E s := by
  have hSf : s.heap.objs.size ∉ fp := fun hm => Nat.lt_irrefl _ (hfp _ hm)
  have hSI : s.heap.objs.size ≠ I := fun e => hSf (e ▸ hI)
  unfold collect
  refine wpAny_bind (wpAny_runValue (codeAny_builtin PySem.F.entry_proto_collect ?_))
  rw [Around.under_plainId PySem.F.plain_proto_collect _]
  show wpAny _ A.in1 (newList [] >>= fun l => again (.builtin "list.__iadd__" ⟨[l, .ref I], []⟩)) _ _ s
  refine wpAny_bind (wpAny_newObj_type ?_)
  refine wpAny_pure ⟨plainId_quiet PySem.F.plain_list_iadd _, codeAny_builtin PySem.F.entry_list_iadd ?_⟩
  rw [Around.under_plainId PySem.F.plain_list_iadd _]
  have hst₁ := W.frame 0 s (s.heap.push { cls := .type "list", data := .seq ([] : List Value).toArray }) s.toks hst (Nat.le_refl _) fun b _ o e => Heap.get?_push_of_some _ e
  show wpAny _ A.in1 (Builtin.List.listExtendWith (.ref s.heap.objs.size) (.ref I) (.ref s.heap.objs.size)) _ _ _
  unfold Builtin.List.listExtendWith
  refine wpAny_bind (wpAny_typeOf (hT 0 _ hst₁) ?_)
  have h1 : Builtin.List.listSameRef (.ref s.heap.objs.size) (.ref I) = false := by simp [Builtin.List.listSameRef, hSI]
  have h2 : (Value.type "map" == Value.type "list") = false := by decide
  have h3 : (Value.type "map" == Value.type "tuple") = false := by decide
  simp only [h1, h2, h3, Bool.or_false, Bool.false_eq_true, if_false]
  refine wpAny_bind (W.self 0 _ _ _ hst₁ ?_)
  refine wpAny_bind (wpAny_holding ?_)
  unfold Builtin.List.listLengthHint
  refine wpAny_bind (wpAny_specialOf (hT 0 _ hst₁) map_no_len ?_)
  show wpAny _ A.in1 (specialOf (Value.ref I) (Str.ofString "__length_hint__") >>= _) _ _ _
  refine wpAny_bind (wpAny_specialOf (hT 0 _ hst₁) map_no_hint ?_)
  refine wpAny_pure ?_
  show wpAny _ A.in1 (rule "list.extend.makes-room" >>= fun _ => Builtin.List.listTouch (.ref s.heap.objs.size) >>= fun _ =>
    again (.builtin "list.extend.loop" ⟨[.ref s.heap.objs.size, .ref I, .ref s.heap.objs.size], []⟩)) _ _ _
  refine wpAny_bind (wpAny_rule ?_)
  have hS₁ : (s.heap.push { cls := .type "list", data := .seq ([] : List Value).toArray }).get? s.heap.objs.size = some { cls := .type "list", data := .seq ([] : List Value).toArray } := Heap.get?_push_size _ rfl
  refine wpAny_bind ?_
  show wpAny _ A.in1 (updateSeq s.heap.objs.size (·.push .none) >>= fun _ => updateSeq s.heap.objs.size (·.pop)) _ _ _
  refine wpAny_bind (wpAny_updateSeq hS₁ rfl ?_)
  have hS₂ := Heap.get?_update_self (Obj.mapSeq (·.push Value.none)) hS₁ rfl
  refine wpAny_updateSeq hS₂ rfl ?_
  have hS₃ := Heap.get?_update_self (Obj.mapSeq (·.pop)) hS₂ rfl
  have oth : ∀ b o, b ≠ s.heap.objs.size → (s.heap.push { cls := .type "list", data := .seq ([] : List Value).toArray }).get? b = some o →
      (((s.heap.push { cls := .type "list", data := .seq ([] : List Value).toArray }).update s.heap.objs.size (Obj.mapSeq (·.push Value.none))).update s.heap.objs.size (Obj.mapSeq (·.pop))).get? b = some o :=
    fun b o hb e => (Heap.get?_update_other _ _ (Ne.symm hb)).trans ((Heap.get?_update_other _ _ (Ne.symm hb)).trans e)
  refine wpAny_pure ⟨plainId_quiet PySem.F.plain_extend_loop _, ext_loop W hdone hn _ hSf _ n 0 _ _ _ rfl (Nat.zero_le _)
    (W.frame 0 ({ s with heap := s.heap.push { cls := .type "list", data := .seq ([] : List Value).toArray } } : Shared) _ s.toks hst₁ (Nat.le_refl _) fun b hb o e => oth b o (fun h => hSf (h ▸ hb)) e) hS₃ (ItemsOf.nil P) fun s' acc' c' ht hm hS' hacc => ?_⟩
  show wpAny _ A (load s.heap.objs.size >>= _) _ _ s'
  refine wpAny_bind (wpAny_load hS' ?_)
  refine wpAny_pure (hQ s' acc' ht (Moved.drop_new (o := { cls := .type "list", data := .seq ([] : List Value).toArray }) (tk := s.toks) (Moved.trans W.gtrans ((Moved.refl W.grefl).then_heap (by first | exact Nat.le_refl _ | exact Nat.le_succ _ | omega) fun b o hb e => ?_) hm) (Nat.le_refl _)) hacc)
  exact oth b o (fun q => hb (by rw [q]; exact List.mem_cons_self)) e
theorem code_tuple_map {St' : Shared → Prop} {Q₁ : Value → Shared → Prop} (W : WalksS prog w A.in1.in1 I fp wr G n P St) (hdone : ∀ (s : Shared) (Q : Option Value → Shared → Prop) (E : Value → Shared → Prop), St n s → (∀ s', St' s' → Moved wr G s s' → Q none s') → wpAny (model prog w) A.in1.in1 (pyNext (.ref I)) Q E s) (hT : ∀ i s, St i s → s.TypeIs (.ref I) "map") (hst : St 0 s) (hfp : ∀ b ∈ fp, b < s.heap.objs.size) (hI : I ∈ fp)
    (h : ∀ s' acc, St' s' → Moved wr G s s' → ItemsOf P acc n → Q₁ (.ref s'.heap.objs.size) { s' with heap := s'.heap.push { cls := .type "tuple", data := .seq acc } }) (hsz : n ≤ sizeLine) :
    codeAny (model prog w) A (.call (.builtin "tuple.__new__") ⟨[.type "tuple", .ref I], []⟩) (wants Q₁ E) s := by
  refine codeAny_of_tree ?_
  show wpAny _ A.in1 (do checkBuiltinCall "tuple.__new__" ⟨[.type "tuple", .ref I], []⟩; again (.builtin "tuple.__new__" ⟨[.type "tuple", .ref I], []⟩)) _ _ s
  refine wpAny_bind (wpAny_of_eq (PySem.F.newCall_tuple_1 _) (wpAny_pure ⟨plainId_quiet PySem.F.plain_tuple_new _, codeAny_builtin PySem.F.entry_tuple_new ?_⟩))
  rw [Around.under_plainId PySem.F.plain_tuple_new _]
  have hsub := sub_tuple_self
  have hinit := init_tuple_lookup
  have hmh := madeHere_tuple
  have hTI := hT 0 s hst
  wp_walk using wpAny_typeOf hTI, collect_map (hn := hsz) W hdone hT hst hfp hI
  intro s' acc ht hm hacc
  show wpAny _ _ (Builtin.Tuple.tupleExact acc.toList.toArray >>= fun v => ret v) _ _ _
  unfold Builtin.Tuple.tupleExact
  refine wpAny_bind (wpAny_newObj_type ?_ (by show acc.toList.toArray.size ≤ sizeLine; simp only [Array.toArray_toList]; rw [hacc.1]; exact hsz))
  refine wpAny_pure ?_
  have e : acc.toList.toArray = acc := by simp
  rw [e]
  exact h s' acc ht hm hacc
theorem call_tuple_map {St' : Shared → Prop} {Q : Value → Shared → Prop} (W : WalksS prog w A.in1.in1.in1 I fp wr G n P St) (hdone : ∀ (s : Shared) (Q : Option Value → Shared → Prop) (E : Value → Shared → Prop), St n s → (∀ s', St' s' → Moved wr G s s' → Q none s') → wpAny (model prog w) A.in1.in1.in1 (pyNext (.ref I)) Q E s) (hT : ∀ i s, St i s → s.TypeIs (.ref I) "map") (hst : St 0 s) (hfp : ∀ b ∈ fp, b < s.heap.objs.size) (hI : I ∈ fp)
    (hQ : ∀ s' acc, St' s' → Moved wr G s s' → ItemsOf P acc n → Q (.ref s'.heap.objs.size) { s' with heap := s'.heap.push { cls := .type "tuple", data := .seq acc } }) (hsz : n ≤ sizeLine) :
    wpAny (model prog w) A (call (.type "tuple") [.ref I]) Q E s := by
  refine callType_codes (Q₁ := fun obj s₁ => s₁.TypeIs obj "tuple" ∧ Q obj s₁) PySem.F.called_tuple (PySem.F.typeCall_tuple_1 _) PySem.F.entry_object_init
    (code_tuple_map (hsz := hsz) W hdone hT hst hfp hI fun s' acc ht hm hacc => ⟨⟨_, Heap.get?_push_size _ rfl, rfl⟩, hQ s' acc ht hm hacc⟩) fun obj s₁ h₁ => ?_
  exact ⟨h₁.1, PySem.F.args_object_init_2 obj _, object_init_meets PySem.F.called_tuple.init.lookup PySem.F.called_tuple.made (by decide) prog w A.in1 _ s₁ ⟨h₁.1, rfl, h₁.2⟩⟩
end
section
variable {w : World} {p : Program} {loose : List Str} {mean : ExcName → Option Value} {mg mb : Str → Option Value} {dp un : Nat} {gd : Option (List Code)} {cn : Str} {cs : Scope} {a : Addr} {ccd : Value} {cl : List (Str × Addr)} {outer : List Env} {A₀ : Around}
    {base h₀ : Heap} {L : Addr} {m : Str → Option Value} {news : Led} {s : Shared} {E : Value → Shared → Prop}
/-- the object of `map(fspath, l)`, before its first item -/
noncomputable def MapAt (h : Heap) (L : Addr) (h₀ : Heap) (news : Led) (M l : Addr) : Prop := ∃ T I, h.IsListIter I l 0 ∧ h.get? M = some { cls := .type "map", data := .fields #[.ref T, .ref 142] } ∧ h.get? T = some (tupO [.ref I] 0) ∧ M ≠ I ∧ T ≠ I ∧ l ≠ I ∧ I ≠ L ∧ M ≠ L ∧ T ≠ L ∧ h₀.get? I = none ∧ ∀ q ∈ news, q.1 ≠ I
theorem map_L {l : Addr} {vs : List Value} {n : Nat} {Q : Value → Shared → Prop} (F : Fr h₀ L s.heap m) (N : News h₀ L s.heap news) (hm : (l, lstO vs n) ∈ news)
    (h : ∀ M h', Fr h₀ L h' m → News h₀ L h' news → MapAt h' L h₀ news M l → Q (.ref M) { s with heap := h' }) :
    wpAny (model prg w) (ktrTop dp un gd cn cs L a ccd cl outer) (call (.type "map") [.ref 142, .ref l]) Q E s := by
  have z1 : (mp1 s.heap l).objs.size = s.heap.objs.size + 1 := Heap.size_push ..
  have z2 : (mp2 s.heap l).objs.size = s.heap.objs.size + 2 := by rw [Heap.size_push, z1]
  have g3 : (mp3 s.heap l 142).get? (mp2 s.heap l).objs.size = some _ := Heap.get?_push_size _ rfl
  have g2 : (mp3 s.heap l 142).get? (mp1 s.heap l).objs.size = some _ := Heap.get?_push_of_some _ (Heap.get?_push_size _ rfl)
  have g1 : (mp3 s.heap l 142).get? s.heap.objs.size = some _ := Heap.get?_push_of_some _ (Heap.get?_push_of_some _ (Heap.get?_push_size _ rfl))
  have up : ∀ c o, s.heap.get? c = some o → (mp3 s.heap l 142).get? c = some o := fun c o e => Heap.get?_push_of_some _ (Heap.get?_push_of_some _ (Heap.get?_push_of_some _ e))
  have hLs : L < s.heap.objs.size := F.ns.lt
  have hl := (N _ hm).1
  have hls : l < s.heap.objs.size := Heap.lt_size hl
  have h0 : h₀.get? s.heap.objs.size = none := Heap.get?_none_of_le (Nat.le_trans F.above (Nat.le_of_lt hLs))
  refine call_map ⟨_, hl, rfl, n, rfl⟩ (h _ _ (F.keeps up) (N.grown up) ⟨(mp1 s.heap l).objs.size, s.heap.objs.size, ⟨_, g1, rfl, rfl⟩, g3, g2, ?_, ?_, ?_, ?_, ?_, ?_, h0, ?_⟩)
  · rw [z2]; exact Nat.ne_of_gt (Nat.lt_add_of_pos_right (by decide))
  · rw [z1]; exact Nat.ne_of_gt (Nat.lt_succ_self _)
  · exact Nat.ne_of_lt hls
  · exact Nat.ne_of_gt hLs
  · rw [z2]; exact Nat.ne_of_gt (Nat.lt_of_lt_of_le hLs (Nat.le_add_right _ _))
  · rw [z1]; exact Nat.ne_of_gt (Nat.lt_succ_of_lt hLs)
  · intro q hq e
    have := Heap.lt_size (N q hq).1
    rw [e] at this
    exact Nat.lt_irrefl _ this
theorem tup_L {l M : Addr} {x y : Str} {tx ty : Tok} {n : Nat} {Q : Value → Shared → Prop} (B : Below A₀ base outer h₀) (F : Fr h₀ L s.heap m) (X : (Mine.hd.heap_39 w.params).In h₀) (N : News h₀ L s.heap news) (Tp : Top p loose mean mg mb h₀) (hk : cs.kind = .function)
    (hd : dp + 1 < recursionLimit) (hu : un + 24 < cLine) (hm : (l, lstO [.str x tx, .str y ty] n) ∈ news) (hM : MapAt s.heap L h₀ news M l)
    (h : ∀ D h' tk, Fr h₀ L h' m → News h₀ L h' ((D, tupO [.str x tx, .str y ty] 0) :: news) → (∀ q ∈ news, q.1 < D) → Q (.ref D) { s with heap := h', toks := tk }) :
    wpAny (model prg w) (ktrTop dp un gd cn cs L a ccd cl outer) (call (.type "tuple") [.ref M]) Q E s := by
  obtain ⟨T, I, hi, gM, gT, hMI, hTI, hlI, hIL, hML, hTL, h0I, hoff⟩ := hM
  have hl := N _ hm
  have lt : ∀ {b : Addr} {o : Obj}, s.heap.get? b = some o → b < s.heap.objs.size := fun e => Heap.lt_size e
  have W := walks_map (w := w) (un := un + 3) (m := m) (gd := gd) (cn := cn) (a := a) (ccd := ccd) (cl := cl) (arr := #[.str x tx, .str y ty]) (N := s.heap.objs.size) x y tx ty rfl B X Tp hk hd (by omega) F.ns.lt (lt gM) (lt gT) (by obtain ⟨o, e, _⟩ := hi; exact lt e) (lt hl.1) hMI hTI hlI hIL hML hTL hl.2.1 h0I F.above
  have hList : s.heap.IsList l #[.str x tx, .str y ty] := ⟨_, hl.1, rfl, n, rfl⟩
  refine call_tuple_map (St' := fun s' => Fr h₀ L s'.heap m) W.toS (fun s Q E ⟨s1, s2, s3, s4, F⟩ hQ => ?_) (fun i s ⟨s1, s2, s3, s4, F⟩ => ⟨_, s3, rfl⟩) ⟨hi, hList, gM, gT, F⟩ (fun b hb => List.mem_range.mp hb) (List.mem_range.mpr (lt gM)) (fun s' acc F' hmv hacc => ?_) (by decide)
  · exact wpAny_with_toks (Nat.le_refl s.toks) (pyNext_map_end rfl s3 s4 s1 s2 rfl fun h' k' htk => hQ _ (fr_iter F k' hIL h0I) ⟨fun b o hb e => k' b o (fun q => hb (by simp [q])) e, rfl, rfl, rfl, htk⟩)
  · have hacc' : acc = #[.str x tx, .str y ty] := by
      obtain ⟨h1, h2⟩ := hacc
      refine Array.ext_getElem? fun j => ?_
      cases e : acc[j]? with
      | some v => exact (h2 j v e).symm
      | none =>
        have := Array.getElem?_eq_none_iff.mp e
        rw [h1] at this
        exact (Array.getElem?_eq_none_iff.mpr this).symm
    subst hacc'
    obtain ⟨hp, g, d, tk, os⟩ := s'
    obtain ⟨k1, k2, k3, k4, k5⟩ := hmv
    have k2 : g = s.gens := k2
    have k3 : d = s.drawn := k3
    have k4 : os = s.os := k4
    subst k2 k3 k4
    have F'' : Fr h₀ L hp m := F'
    have k1' : ∀ q ∈ news, hp.get? q.1 = some q.2 := fun q hq => k1 _ _ (by simp only [List.mem_cons, List.not_mem_nil, or_false, not_or]; exact ⟨hoff q hq, (N q hq).2.1⟩) (N q hq).1
    refine h hp.objs.size (hp.push (tupO [.str x tx, .str y ty] 0)) tk (F''.push _) (fun q hq => ?_) (fun q hq => Heap.lt_size (k1' q hq))
    rcases List.mem_cons.mp hq with rfl | hq
    · exact ⟨Heap.get?_push_size _ rfl, Nat.ne_of_gt F''.ns.lt, Heap.get?_none_of_le (Nat.le_trans F''.above (Nat.le_of_lt F''.ns.lt))⟩
    · exact ⟨Heap.get?_push_of_some _ (k1' q hq), (N q hq).2⟩
end
end Mine
end
section
open PySem PySem.W PyProof.Rows PySem.Spec PySem.Calls PyProof.Rows.LCg
set_option maxRecDepth 100000
set_option linter.unusedVariables false
namespace Mine
section
variable {prog : Program} {w : World} {A : Around} {E : Value → Shared → Prop} {s : Shared} {h₀ : Heap} {L : Addr} {m : Str → Option Value} {env : Env}
noncomputable def TupAt (ax : Addr) (vs : List Value) (k : Nat) (news : Led) : Prop := (ax, tupO vs k) ∈ news
noncomputable def SrcTup (prog : Program) (w : World) (A : Around) (h₀ : Heap) (L : Addr) (m : Str → Option Value) (env : Env) (elt : Expr) (x : Str) (scope : Scope) (cl : List (Str × Addr)) (Fin : Shared → List Value → List (Addr × Obj) → Prop) (xv : Value) (s₁ : Shared) : Prop :=
  ∃ ax vs k news, xv = .ref ax ∧ A.handled = none ∧ Fr h₀ L s₁.heap m ∧ News h₀ L s₁.heap news ∧ (ax, tupO vs k) ∈ news ∧ vs.length ≤ sizeLine ∧
    ∀ s₂ : Shared, (∃ h, s₂ = { s₁ with heap := h }) → CompRest prog w A h₀ L m env elt x scope cl s₂ (TupAt ax vs k) (fun i v => vs.toArray[i]? = some v) (Fin s₂) vs.length 0 [] news
theorem tup_st {ax I : Addr} {vs : List Value} {k : Nat} : ∀ i (h h' : Heap) (o : Obj) (nw : List (Addr × Obj)), (h.IsTupleIter I ax i ∧ h.IsTuple ax vs.toArray) → h.get? I = some o → h'.get? I = some o → (∀ b o, h₀.get? b = some o → h'.get? b = some o) → News h₀ L h' nw → TupAt ax vs k nw → (h'.IsTupleIter I ax i ∧ h'.IsTuple ax vs.toArray) :=
  fun i h h' o nw st e e' _ N S => ⟨by obtain ⟨o', q, r⟩ := st.1; rw [e] at q; cases q; exact ⟨o, e', r⟩, ⟨_, (N _ S).1, rfl, k, rfl⟩⟩
theorem ListComp_Tup {elt iter : Expr} {x : Str} {px : Pos} {scope : Scope} {cl : List (Str × Addr)} {pos : Pos} {Q : Value → Shared → Prop} (F₀ : Fr h₀ L s.heap m)
    (hclos : closureFor scope env = pure cl) (hcell : ∀ y ∈ scope.names, y.2 ≠ .cell) (hkind : scope.kind = .function)
    (hnames : ∀ y ∈ scope.names, y.2 = .local → scope.names.lookup y.1 = some .local) (hx : scope.names.lookup x = some .local)
    (h : wpAny (model prog w) A (eval iter env) (SrcTup prog w A h₀ L m env elt x scope cl (fun s₂ => FinE h₀ L m s₂ Q)) E s)
    (hs : ∀ x, foldedSetIterable iter env x = pure x := by intro _; rfl) :
    wpAny (model prog w) A (eval (.ListComp elt [⟨.Name x px, iter, [], 0⟩] scope pos) env) Q E s := by
  rw [eval_ListComp]
  refine wpAny_comprehension_free (use := none) rfl hs hclos hkind hnames (wpAny_mono h (fun xv s₁ h₁ => ?_) fun _ _ e => e)
  obtain ⟨ax, vs, k, news, rfl, hh, F, N, hm, hsz, R⟩ := h₁
  have hl : s₁.heap.IsTuple ax vs.toArray := ⟨_, (N _ hm).1, rfl, k, rfl⟩
  have hlt : ax < s₁.heap.objs.size := Heap.lt_size (N _ hm).1
  refine wpAny_pyIter_tuple hl ?_
  have up : ∀ b o, s₁.heap.get? b = some o → (s₁.heap.push { cls := .type "tuple_iterator", data := .fields #[.ref ax, .int 0 0] }).get? b = some o := fun b o e => Heap.get?_push_of_some _ e
  have hsize : vs.toArray.size = vs.length := List.size_toArray ..
  refine block_U (n := vs.length) (hsize ▸ Walks.tuple hh s₁.heap.objs.size ax (Nat.ne_of_lt hlt) vs.toArray) hsz (fun i h st => by obtain ⟨o, e, _⟩ := st.1; exact ⟨o, e⟩) tup_st hcell hkind hx ⟨⟨_, Heap.get?_push_size _ rfl, rfl, rfl⟩, ⟨_, up _ _ (N _ hm).1, rfl, k, rfl⟩⟩ (fun b hb => ?_)
    (F.keeps up) (N.grown up) (Nat.ne_of_lt F.ns.lt) (next_is_new F) (fun p hp => Nat.ne_of_lt (Heap.lt_size (N p hp).1)) hm (R _ ⟨_, rfl⟩) ?_
  · show b < (s₁.heap.push _).objs.size
    rw [Heap.size_push]
    rcases List.mem_cons.mp hb with rfl | hb
    · exact Nat.lt_succ_self _
    · rw [List.mem_singleton.mp hb]; exact Nat.lt_succ_of_lt hlt
  · intro D C h tk m' ys news' F' N' o1 hn hC₀ hD₀ hCL hDL hCD offC fin
    refine ⟨m', hn, fun h'' hs'' => fin D h'' tk (F'.change hs'' hCL hC₀) (fun p hp => ?_) o1⟩
    refine ⟨hs''.extBut _ _ ?_ (N' p hp).1, (N' p hp).2⟩
    rcases List.mem_cons.mp hp with rfl | hp
    · exact Ne.symm hCD
    · exact offC p hp
theorem Assign_ListComp_Tup {elt iter : Expr} {x y : Str} {px py : Pos} {scope : Scope} {cl : List (Str × Addr)} {pos spos : Pos} {Q : Flow → Shared → Prop} (F₀ : Fr h₀ L s.heap m) (hLe : env.locals = L)
    (hsw : swapsWith (.ListComp elt [⟨.Name x px, iter, [], 0⟩] scope pos) (some (.Name y py)) spos.line env = pure true)
    (hclos : closureFor scope env = pure cl) (hcell : ∀ z ∈ scope.names, z.2 ≠ .cell) (hkind : scope.kind = .function)
    (hnames : ∀ z ∈ scope.names, z.2 = .local → scope.names.lookup z.1 = some .local) (hx : scope.names.lookup x = some .local)
    (hy : env.kindOf y = some .local) (hp : (env.scope.kind == .class || (env.scope.kind == .module && env.locals != env.globals)) = false)
    (h : wpAny (model prog w) A (eval iter env) (SrcTup prog w A h₀ L m env elt x scope cl (fun s₂ => FinA h₀ L m s₂ y Q)) E s)
    (hs : ∀ x, foldedSetIterable iter env x = pure x := by intro _; rfl) :
    wpAny (model prog w) A (exec (.Assign [.Name y py] (.ListComp elt [⟨.Name x px, iter, [], 0⟩] scope pos) spos) env) Q E s := by
  subst hLe
  rw [exec_Assign_Name_used _ _ _ _ hsw]
  refine wpAny_bind (wpAny_standAt (wpAny_bind ?_))
  show wpAny _ A (do let _ ← comprehension (.ListComp elt [⟨.Name x px, iter, [], 0⟩] scope pos) scope env _ (newList []) false (eval iter env) (some (assign (.Name y py) env))) _ _ s
  refine wpAny_bind (wpAny_mono (wpAny_comprehension_free (use := some (assign (.Name y py) env)) (Q := fun _ s' => Q .next s') rfl hs hclos hkind hnames
    (wpAny_mono h (fun xv s₁ h₁ => ?_) fun _ _ e => e)) (fun _ s' hq => wpAny_pure (wpAny_pure hq)) fun _ _ e => e)
  obtain ⟨ax, vs, k, news, rfl, hh, F, N, hm, hsz, R⟩ := h₁
  have hl : s₁.heap.IsTuple ax vs.toArray := ⟨_, (N _ hm).1, rfl, k, rfl⟩
  have hlt : ax < s₁.heap.objs.size := Heap.lt_size (N _ hm).1
  refine wpAny_pyIter_tuple hl ?_
  have up : ∀ b o, s₁.heap.get? b = some o → (s₁.heap.push { cls := .type "tuple_iterator", data := .fields #[.ref ax, .int 0 0] }).get? b = some o := fun b o e => Heap.get?_push_of_some _ e
  have hsize : vs.toArray.size = vs.length := List.size_toArray ..
  refine block_U (n := vs.length) (hsize ▸ Walks.tuple hh s₁.heap.objs.size ax (Nat.ne_of_lt hlt) vs.toArray) hsz (fun i h st => by obtain ⟨o, e, _⟩ := st.1; exact ⟨o, e⟩) tup_st hcell hkind hx ⟨⟨_, Heap.get?_push_size _ rfl, rfl, rfl⟩, ⟨_, up _ _ (N _ hm).1, rfl, k, rfl⟩⟩ (fun b hb => ?_)
    (F.keeps up) (N.grown up) (Nat.ne_of_lt F.ns.lt) (next_is_new F) (fun p hp => Nat.ne_of_lt (Heap.lt_size (N p hp).1)) hm (R _ ⟨_, rfl⟩) ?_
  · show b < (s₁.heap.push _).objs.size
    rw [Heap.size_push]
    rcases List.mem_cons.mp hb with rfl | hb
    · exact Nat.lt_succ_self _
    · rw [List.mem_singleton.mp hb]; exact Nat.lt_succ_of_lt hlt
  · intro D C h' tk m' ys news' F' N' o1 hn hC₀ hD₀ hCL hDL hCD offC fin
    show wpAny _ A (assign (.Name y py) env (.ref D)) _ _ _
    refine wpAny_assign_Name (wpAny_storeName_local hy F'.ns (fun h₂ hn₂ hs₂ => ?_) hp)
    have hL₀ : h₀.get? env.locals = none := Heap.get?_none_of_le F'.above
    have F₂ : Fr h₀ env.locals h₂ (fun z => if z = y then some (.ref D) else m z) := ⟨hn₂, fun b o e => hs₂.extBut b o (fun q => by rw [q, hL₀] at e; cases e) (F'.keep b o e), F'.above⟩
    refine ⟨m', hn.sameBut hs₂ hCL, fun h'' hs'' => fin D h'' _ (F₂.change hs'' hCL hC₀) (fun p hp => ?_) o1⟩
    have z : h₂.get? p.1 = some p.2 := hs₂.extBut _ _ (N' p hp).2.1 (N' p hp).1
    refine ⟨hs''.extBut _ _ ?_ z, (N' p hp).2⟩
    rcases List.mem_cons.mp hp with rfl | hp
    · exact Ne.symm hCD
    · exact offC p hp
end
end Mine
end
section
open PySem PySem.W PyProof.Rows PySem.Spec PySem.Calls
set_option maxRecDepth 100000
set_option linter.unusedVariables false
namespace Mine
noncomputable def tab0 (b : Bool) : SetTable := SetTable.fresh 0 0 b
noncomputable def tab1 (b : Bool) : SetTable := { mask := 7, place := #[1], dummies := #[], finger := 0, led := b, moves := 0, plain := true }
noncomputable def set0 (b : Bool) : Obj := { cls := .type "set", dict := none, data := .set #[] 0 (tab0 b) }
noncomputable def set1 (b : Bool) : Obj := { cls := .type "set", dict := none, data := .set #[(1, .bool true)] 1 (tab1 b) }
theorem slot_bool_hash' : Slot "bool" "__hash__" "int.__hash__" :=
  .of (owner := "int") (n := "__hash__") (by rw [typeLookup_type, builtinLookup_eq_fast]; kernel_rfl) (by decide +kernel) (by decide +kernel) (by decide +kernel)
    (by first | exact .inl (by decide +kernel) | exact .inr (by decide +kernel)) (by rw [isSubtype_type]; kernel_rfl)
section
variable {prog : Program} {w : World} {A : Around} {E : Value → Shared → Prop} {s : Shared}
theorem hash_true {Q : Int → Shared → Prop} (h : ∀ tk, Q 1 { s with toks := tk }) : wpAny (model prog w) A (pyHash (.bool true)) Q E s := by
  have hT := PySem.typeIs_bool s true
  unfold pyHash
  have hv : [Value.bool true].any Value.onHeap = false := rfl
  refine wpAny_bind ?_
  rw [cRoomFor, if_neg (by rw [hv]; exact Bool.false_ne_true)]; refine wpAny_pure ?_
  refine wpAny_bind (wpAny_specialOf hT slot_bool_hash'.lookup ?_)
  show wpAny _ _ (if (some (Value.builtin "int.__hash__") == some Value.none) = true then _ else _) Q E s
  rw [if_neg (by rw [beq_builtin_none]; exact Bool.false_ne_true)]
  refine wpAny_bind (wpAny_specialOf hT slot_bool_hash'.lookup ?_)
  show wpAny _ _ (callSpecialIfBoundUnlessNone? (.bool true) "__hash__" _ >>= _) Q E s
  refine wpAny_bind (wpAny_callSpecialIfBoundUnlessNone?_slot hT slot_bool_hash'
    (wpAny_call_entry slot_bool_hash' hT PySem.F.entry_int_hash
      (show wpAny _ _ (do ret (← mkInt 1)) _ _ s from wpAny_ret_mkInt ?_) (PySem.F.args_int_hash_1 _)))
  show wpAny _ _ (if (decide (-(2 : Int) ^ 63 ≤ 1) && decide ((1 : Int) < 2 ^ 63)) = true then _ else _) Q E _
  rw [if_pos (by decide)]
  exact wpAny_pure (h _)
theorem gw {g : Bool} {s₁ : Shared} {Q' : Unit → Shared → Prop} (hq : Q' () s₁) : wpAny (model prog w) A (match g with | true => rule "set.scan.the-table-gave-way" | false => pure ()) Q' E s₁ := by
  cases g <;> first | exact wpAny_pure hq | exact wpAny_rule hq
theorem add_new {a : Addr} {b : Bool} {Q : Bool → Shared → Prop} (ha : s.heap.get? a = some (set0 b)) (h : ∀ h', h'.get? a = some (set1 b) → Heap.SameBut a s.heap h' → Q true { s with heap := h' }) :
    wpAny (model prog w) A (setAddHashed a (.bool true) 1) Q E s := by
  unfold setAddHashed setAddHashedIn
  refine wpAny_holding (wpAny_bind (wpAny_setState_of ha rfl (by cases b <;> decide) ?_))
  dsimp only
  rw [show byScan (.bool true) #[] = true by decide +kernel]
  simp only [↓reduceIte]
  unfold setAddByScan
  refine wpAny_bind ?_
  refine wpAny_bind (wpAny_rule ?_)
  refine wpAny_bind (m := setScan a (.bool true) 1 true #[]) (wpAny_pure ?_)
  dsimp only
  have hL : layNew (tab0 b) #[] 1 (.bool true) = (#[(1, .bool true)], tab1 b, false, false) := by cases b <;> decide +kernel
  rw [hL]
  dsimp only
  refine wpAny_bind (gw (g := false) ?_)
  rw [if_pos (show (tab1 b).plain = true from rfl)]
  refine wpAny_bind (m := hashByValue 8 (.bool true)) (wpAny_pure ?_)
  simp only [if_true]
  refine wpAny_bind (wpAny_storeSet_of ha rfl ?_ (by decide))
  rw [if_neg (by cases b <;> decide +kernel)]
  refine wpAny_pure (wpAny_pure ?_)
  exact h _ (Heap.get?_update_self _ ha rfl) (Heap.SameBut.update ..)
theorem add_again {a : Addr} {b : Bool} {Q : Bool → Shared → Prop} (ha : s.heap.get? a = some (set1 b)) (h : Q false s) :
    wpAny (model prog w) A (setAddHashed a (.bool true) 1) Q E s := by
  unfold setAddHashed setAddHashedIn
  refine wpAny_holding (wpAny_bind (wpAny_setState_of ha rfl (by cases b <;> decide) ?_))
  dsimp only
  rw [show byScan (.bool true) #[(1, .bool true)] = true by decide +kernel]
  simp only [↓reduceIte]
  unfold setAddByScan
  refine wpAny_bind ?_
  refine wpAny_bind (wpAny_rule ?_)
  refine wpAny_bind (m := setScan a (.bool true) 1 true #[(1, .bool true)]) ?_
  show wpAny _ _ (setScanFrom a (.bool true) 1 true [(1, .bool true)] 0) _ _ _
  unfold setScanFrom
  rw [if_pos (by decide)]
  refine wpAny_bind ?_
  unfold setEpoch
  refine wpAny_bind (wpAny_setState_of ha rfl (by cases b <;> decide) (wpAny_pure ?_))
  refine wpAny_bind (m := eqBool (.bool true) (.bool true)) ?_
  unfold eqBool
  refine wpAny_holding ?_
  rw [if_pos (by decide)]
  refine wpAny_bind (wpAny_rule (wpAny_pure ?_))
  simp only [Bool.and_self, if_true]
  refine wpAny_pure ?_
  refine wpAny_pure (wpAny_pure ?_)
  exact h
end
end Mine
end
section
open PySem PySem.W PyProof.Rows PySem.Spec PySem.Calls
set_option maxRecDepth 100000
set_option linter.unusedVariables false
namespace Mine
section
variable {prog : Program} {w : World} {A : Around} {E : Value → Shared → Prop} {s : Shared}
theorem call_add {a : Addr} {o : Obj} {Q : Value → Shared → Prop} (ha : s.heap.get? a = some o) (hc : o.cls = .type "set") (h : ∀ tk, wpAny (model prog w) A.in1 (setAddHashed a (.bool true) 1) (fun _ s' => Q .none s') E { s with toks := tk }) :
    wpAny (model prog w) A (call (.builtin "set.add") [.ref a, .bool true]) Q E s := by
  have hT : s.TypeIs (.ref a) "set" := ⟨_, ha, hc⟩
  refine wpAny_call_entry PySem.F.slot_set_add hT PySem.F.entry_set_add ?_ (PySem.F.args_set_add_2 _ _)
  unfold Builtin.«set.add» Builtin.Frozenset.oneOther
  simp only [List.isEmpty_nil, bind_assoc]
  unfold Builtin.Frozenset.addrOf setAdd
  refine wpAny_bind (wpAny_pure ?_)
  try dsimp only
  refine wpAny_bind (wpAny_pure ?_)
  try dsimp only
  refine wpAny_bind ?_
  refine wpAny_holding ?_
  refine wpAny_bind (hash_true fun tk => ?_)
  refine wpAny_mono (h tk) (fun _ s' h' => ?_) fun _ _ e => e
  show wpAny _ _ (ret Value.none) _ _ _
  exact wpAny_pure ⟨_, rfl, h'⟩
theorem call_add_new {a : Addr} {b : Bool} {Q : Value → Shared → Prop} (ha : s.heap.get? a = some (set0 b)) (h : ∀ h' tk, h'.get? a = some (set1 b) → Heap.SameBut a s.heap h' → Q .none { s with heap := h', toks := tk }) :
    wpAny (model prog w) A (call (.builtin "set.add") [.ref a, .bool true]) Q E s :=
  call_add ha rfl fun tk => add_new (s := { s with toks := tk }) ha fun h' e1 e2 => h h' tk e1 e2
theorem call_add_again {a : Addr} {b : Bool} {Q : Value → Shared → Prop} (ha : s.heap.get? a = some (set1 b)) (h : ∀ tk, Q .none { s with toks := tk }) :
    wpAny (model prog w) A (call (.builtin "set.add") [.ref a, .bool true]) Q E s :=
  call_add ha rfl fun tk => add_again (s := { s with toks := tk }) ha (h tk)
end
end Mine
end
section
open PySem PySem.W PyProof.Rows PySem.Spec PySem.Calls
set_option maxRecDepth 100000
set_option linter.unusedVariables false
namespace Mine
theorem slot_si_next : Slot "set_iterator" "__next__" "set_iterator.__next__" :=
  .of (owner := "set_iterator") (n := "__next__") (by rw [typeLookup_type, builtinLookup_eq_fast]; kernel_rfl) (by decide +kernel) (by decide +kernel) (by decide +kernel)
    (by first | exact .inl (by decide +kernel) | exact .inr (by decide +kernel)) (by rw [isSubtype_type]; kernel_rfl)
theorem entry_si_next : entryFor table "set_iterator.__next__" = some Builtin.«set_iterator.__next__» := entryFor_of_fast (by kernel_rfl)
theorem args_si_next (a : Value) : argsOk "set_iterator.__next__" ⟨[a], []⟩ := by unfold argsOk; kernel_rfl
theorem entry_set_it : entryFor table "set.__iter__" = some Builtin.«frozenset.__iter__» :=
  entryFor_alias (id' := "frozenset.__iter__") (by kernel_rfl) rfl (by decide +kernel) (by kernel_rfl)
noncomputable def siO (a : Addr) (sl i : Int) : Obj := { cls := .type "set_iterator", data := .fields #[.int sl 0, .int i 0, .ref a, .int 1 0, .int 1 0] }
noncomputable def siE (a : Addr) (sl i : Int) : Obj := { cls := .type "set_iterator", data := .fields #[.int sl 0, .int i 0, .none, .int 1 0, .int 1 0] }
section
variable {prog : Program} {w : World} {A : Around} {E : Value → Shared → Prop} {s : Shared}
theorem by_text {Q : Bool → Shared → Prop} (h : Q (w.params.followText "set-order") s) : wpAny (model prog w) A setsByText Q E s := by
  unfold setsByText
  exact wpAny_bind (wpAny_askSetting (wpAny_pure h))
theorem new_set {Q : Value → Shared → Prop} (h : Q (.ref s.heap.objs.size) { s with heap := s.heap.push (set0 (!w.params.followText "set-order")) }) : wpAny (model prog w) A (newSet (.type "set")) Q E s := by
  unfold newSet
  refine wpAny_bind (by_text ?_)
  dsimp only
  simp only [newObj]
  exact wpAny_bind (wpAny_alloc (wpAny_pure h))
theorem iter_set1 {a : Addr} {b : Bool} {Q : Value → Shared → Prop} (ha : s.heap.get? a = some (set1 b)) (h : Q (.ref s.heap.objs.size) { s with heap := s.heap.push (siO a 0 0) }) :
    wpAny (model prog w) A (pyIter (.ref a)) Q E s := by
  have hT : s.TypeIs (.ref a) "set" := ⟨_, ha, rfl⟩
  refine wpAny_pyIter_slot hT PySem.F.slot_set_iter (wpAny_call_entry PySem.F.slot_set_iter hT entry_set_it ?_ (PySem.F.args_set_iter_1 _))
  unfold Builtin.«frozenset.__iter__»
  refine wpAny_bind (m := Builtin.Frozenset.slot0 "__iter__" _) (wpAny_pure (a := a) ?_)
  unfold Builtin.Frozenset.sizeOf setEntries
  refine wpAny_bind (wpAny_bind (wpAny_bind (wpAny_setState_of ha rfl (by cases b <;> decide) (wpAny_pure (wpAny_pure ?_)))))
  dsimp only
  unfold setDrawn
  refine wpAny_bind (wpAny_bind (wpAny_setState_of ha rfl (by cases b <;> decide) ?_))
  dsimp only
  refine wpAny_bind (by_text ?_)
  refine wpAny_pure ?_
  have hd : ∀ x : Bool, (x && false) = false := fun x => by cases x <;> rfl
  show wpAny _ _ (if (!_ && false) = true then _ else _) _ _ _
  rw [hd]
  rw [if_neg Bool.false_ne_true]
  refine wpAny_bind (wpAny_pure ?_)
  unfold setEpoch
  refine wpAny_bind (wpAny_bind (wpAny_setState_of ha rfl (by cases b <;> decide) (wpAny_pure ?_)))
  exact wpAny_bind (wpAny_newObj_type (wpAny_pure ⟨_, rfl, "set_iterator", _, ⟨_, Heap.get?_push_size _ rfl, rfl⟩, slot_si_next.lookup, h⟩))
theorem set_next0 {a : Addr} {Q : Option (Value × Nat) → Shared → Prop} (ha : s.heap.get? a = some (set1 (!w.params.followText "set-order")))
    (h : ∀ j, (j = 0 ∨ j = 2) → (w.params.followText "set-order" = false → j = 2) → Q (some (.bool true, j)) s) :
    wpAny (model prog w) A (setNext a 0 0 1) Q E s := by
  cases hb : w.params.followText "set-order" with
  | true =>
    rw [hb] at ha
    unfold setNext
    refine wpAny_bind (wpAny_setState_of ha rfl (by decide) ?_)
    dsimp only
    refine wpAny_bind (by_text ?_)
    rw [hb]
    simp only [if_true]
    unfold setWalk
    refine wpAny_bind (wpAny_bind (wpAny_setState_of ha rfl (by decide) ?_))
    dsimp only
    refine wpAny_bind (by_text ?_)
    rw [hb]
    simp only [if_true]
    refine wpAny_bind (wpAny_askSetting (wpAny_pure ?_))
    have : ∀ f, pickOrder f #[((1 : Int), Value.bool true)] = #[((1 : Int), Value.bool true)] := by
      intro f
      show pickOrder.go f 1 0 [((1 : Int), Value.bool true)] #[] = _
      unfold pickOrder.go
      rw [show f 0 % [((1 : Int), Value.bool true)].length = 0 from Nat.mod_one _]
      rfl
    rw [this]
    exact wpAny_pure (h 0 (.inl rfl) (fun e => by rw [hb] at e; cases e))
  | false =>
    rw [hb] at ha
    unfold setNext
    refine wpAny_bind (wpAny_setState_of ha rfl (by decide) ?_)
    dsimp only
    refine wpAny_bind (by_text ?_)
    rw [hb]
    simp only [Bool.false_eq_true, if_false]
    exact wpAny_pure (h 2 (.inr rfl) (fun _ => rfl))
theorem set_next1 {a : Addr} {j : Nat} {Q : Option (Value × Nat) → Shared → Prop} (ha : s.heap.get? a = some (set1 (!w.params.followText "set-order")))
    (hj : w.params.followText "set-order" = false → j = 2) (h : Q none s) :
    wpAny (model prog w) A (setNext a j 1 1) Q E s := by
  cases hb : w.params.followText "set-order" with
  | true =>
    rw [hb] at ha
    unfold setNext
    refine wpAny_bind (wpAny_setState_of ha rfl (by decide) ?_)
    dsimp only
    refine wpAny_bind (by_text ?_)
    rw [hb]
    simp only [if_true]
    unfold setWalk
    refine wpAny_bind (wpAny_bind (wpAny_setState_of ha rfl (by decide) ?_))
    dsimp only
    refine wpAny_bind (by_text ?_)
    rw [hb]
    simp only [if_true]
    refine wpAny_bind (wpAny_askSetting (wpAny_pure ?_))
    have : ∀ f, pickOrder f #[((1 : Int), Value.bool true)] = #[((1 : Int), Value.bool true)] := by
      intro f
      show pickOrder.go f 1 0 [((1 : Int), Value.bool true)] #[] = _
      unfold pickOrder.go
      rw [show f 0 % [((1 : Int), Value.bool true)].length = 0 from Nat.mod_one _]
      rfl
    rw [this]
    exact wpAny_pure h
  | false =>
    obtain rfl := hj hb
    rw [hb] at ha
    unfold setNext
    refine wpAny_bind (wpAny_setState_of ha rfl (by decide) ?_)
    dsimp only
    refine wpAny_bind (by_text ?_)
    rw [hb]
    simp only [Bool.false_eq_true, if_false]
    exact wpAny_pure h
theorem si_next_item {a it : Addr} {Q : Option Value → Shared → Prop} (hi : s.heap.get? it = some (siO a 0 0)) (ha : s.heap.get? a = some (set1 (!w.params.followText "set-order")))
    (h : ∀ h' (j : Nat), (w.params.followText "set-order" = false → j = 2) → h'.get? it = some (siO a j 1) → Heap.SameBut it s.heap h' → Q (some (.bool true)) { s with heap := h' }) :
    wpAny (model prog w) A (pyNext (.ref it)) Q E s := by
  have hT : s.TypeIs (.ref it) "set_iterator" := ⟨_, hi, rfl⟩
  unfold pyNext
  refine wpAny_bind (wpAny_attempt (wpAny_callSpecial?_slot (name := Str.ofString "__next__") hT slot_si_next
    (wpAny_call_entry slot_si_next hT entry_si_next ?_ (args_si_next _))))
  unfold Builtin.«set_iterator.__next__»
  refine wpAny_bind (m := slotArgs "__next__" 0 _) (wpAny_pure (a := (Value.ref it, ([] : List Value))) ?_)
  dsimp only
  refine wpAny_bind (wpAny_fieldsOf hi rfl ?_)
  dsimp only
  unfold setEntries
  refine wpAny_bind (wpAny_bind (wpAny_setState_of ha rfl (by cases w.params.followText "set-order" <;> decide) (wpAny_pure ?_)))
  dsimp only
  rw [if_neg (by decide)]
  refine wpAny_bind (set_next0 ha fun j hj hj2 => ?_)
  dsimp only
  have g1 := Heap.get?_update_self (Obj.mapFields (·.setIfInBounds 0 (rawInt j))) hi rfl
  refine wpAny_bind (wpAny_setField hi rfl (by simp) ?_)
  refine wpAny_bind (wpAny_setField g1 rfl (by simp) ?_)
  refine wpAny_pure ⟨_, rfl, wpAny_pure ?_⟩
  have g2 := Heap.get?_update_self (Obj.mapFields (·.setIfInBounds 1 (rawInt (0 + 1)))) g1 rfl
  exact h _ j hj2 g2 ((Heap.SameBut.update ..).trans (Heap.SameBut.update ..))
theorem si_next_end {a it : Addr} {j : Nat} {Q : Option Value → Shared → Prop} (hh : A.handled = none) (hi : s.heap.get? it = some (siO a j 1)) (ha : s.heap.get? a = some (set1 (!w.params.followText "set-order")))
    (hj : w.params.followText "set-order" = false → j = 2) (h : ∀ h', Heap.ExtBut it s.heap h' → Q none { s with heap := h' }) :
    wpAny (model prog w) A (pyNext (.ref it)) Q E s := by
  have hT : s.TypeIs (.ref it) "set_iterator" := ⟨_, hi, rfl⟩
  unfold pyNext
  refine wpAny_bind (wpAny_attempt (wpAny_callSpecial?_slot (name := Str.ofString "__next__") hT slot_si_next
    (wpAny_call_entry slot_si_next hT entry_si_next ?_ (args_si_next _))))
  unfold Builtin.«set_iterator.__next__»
  refine wpAny_bind (m := slotArgs "__next__" 0 _) (wpAny_pure (a := (Value.ref it, ([] : List Value))) ?_)
  dsimp only
  refine wpAny_bind (wpAny_fieldsOf hi rfl ?_)
  dsimp only
  unfold setEntries
  refine wpAny_bind (wpAny_bind (wpAny_setState_of ha rfl (by cases w.params.followText "set-order" <;> decide) (wpAny_pure ?_)))
  dsimp only
  rw [if_neg (by decide)]
  refine wpAny_bind (set_next1 (j := ((j : Nat) : Int).toNat) ha (by intro e; rw [hj e]; rfl) ?_)
  dsimp only
  refine wpAny_bind (wpAny_setField hi rfl (by simp) ?_)
  show wpAny _ _ (newExc (.type "StopIteration") [] >>= _) _ _ _
  refine wpAny_bind ?_
  simp only [newExc, newTuple]
  refine wpAny_bind (wpAny_newObj_type ?_ (by size_fits))
  refine wpAny_bind (m := firstArgMember _ _) (wpAny_of_eq (a := Value.none) (by first | rfl | (simp only [firstArgMember]; rfl)) ?_)
  refine wpAny_newObj_type ?_ (by size_fits)
  simp only [raiseNew]
  refine wpAny_bind (wpAny_handled ?_)
  first | rw [show A.in1.handled = none from hh] | rw [hh]
  refine wpAny_bind (wpAny_pure (wpAny_throw ?_))
  refine wpAny_bind (wpAny_isInstance (T := "StopIteration") (b := true) ⟨_, Heap.get?_push_size _ rfl, rfl⟩ isSubtype_stop ?_)
  exact wpAny_pure (h _ (((Heap.SameBut.update ..).extBut.push _).push _))
theorem unpack_set1 {a : Addr} {Q : List Value → Shared → Prop} (hh : A.handled = none) (ha : s.heap.get? a = some (set1 (!w.params.followText "set-order")))
    (hQ : ∀ h', Heap.ExtBut s.heap.objs.size s.heap h' → Q [.bool true] { s with heap := h' }) : wpAny (model prog w) A (unpackItems (.ref a) 1 none) Q E s := by
  have hT : s.TypeIs (.ref a) "set" := ⟨_, ha, rfl⟩
  have hlt : a ≠ s.heap.objs.size := Nat.ne_of_lt (Heap.lt_size ha)
  unfold unpackItems
  refine wpAny_bind ?_
  · unfold notIterableAtAll
    refine wpAny_bind (wpAny_specialOf hT PySem.F.slot_set_iter.lookup ?_)
    refine wpAny_pure ?_
    simp only [Bool.false_eq_true, if_false]
    refine wpAny_bind (wpAny_holding (iter_set1 ha ?_))
    refine wpAny_bind (wpAny_holding ?_)
    show wpAny _ _ (pyNext _ >>= _) _ _ _
    refine wpAny_bind (si_next_item (Heap.get?_push_size _ rfl) (Heap.get?_push_of_some _ ha) fun h₁ j hj g1 hs₁ => ?_)
    have ha1 := hs₁.extBut _ _ hlt (Heap.get?_push_of_some _ ha)
    refine wpAny_bind (wpAny_holding (wpAny_pure (wpAny_pure ?_)))
    rw [if_neg (by simp)]
    refine wpAny_bind (wpAny_holding (si_next_end hh g1 ha1 hj fun h₂ he₂ => ?_))
    simp only [Option.isSome_none, Bool.false_eq_true, if_false]
    refine wpAny_pure (hQ h₂ fun b o hb e => he₂ b o hb (hs₁.extBut b o hb (Heap.get?_push_of_some _ e)))
/-- `x, = s` for the set of True alone -/
theorem assign_set1 {env : Env} {x : Str} {px : Pos} {k} {pos : Pos} {a : Addr} {Q : Unit → Shared → Prop} (hh : A.handled = none) (ha : s.heap.get? a = some (set1 (!w.params.followText "set-order")))
    (h : ∀ h', Heap.ExtBut s.heap.objs.size s.heap h' → wpAny (model prog w) A (assign (.Name x px) env (.bool true)) Q E { s with heap := h' }) :
    wpAny (model prog w) A (assign (.Tuple [.Name x px] k pos) env (.ref a)) Q E s := by
  rw [arm_assign_Tuple]
  refine wpAny_bind (wpAny_standAt ?_)
  unfold unpack
  refine wpAny_bind (wpAny_holding (unpack_set1 hh ha fun h' e => ?_))
  show wpAny _ _ (do holding [] (assign (.Name x px) env (.bool true)); assignInOrder [] []) _ _ _
  exact wpAny_bind (wpAny_holding (wpAny_mono (h h' e) (fun _ s' q => wpAny_pure q) fun _ _ e => e))
end
end Mine
end
section
open PySem PySem.W PyProof.Rows PySem.Spec PySem.Calls PyProof.Rows.LCg
set_option maxRecDepth 100000
set_option linter.unusedVariables false
namespace Mine
theorem compTurn_set1 (elt target iter : Expr) (scope : Scope) (pos : Pos) (it acc : Value) (env : Env) :
    compTurn (.SetComp elt [⟨target, iter, [], 0⟩] scope pos) 0 it acc env = (standAt iter.pos >>= fun _ => pyNext it >>= fun r => match r with
      | none => pure (.done .next)
      | some v => letOwnedTupleGo target it v >>= fun _ => assign target env v >>= fun _ =>
        (eval elt env >>= fun x => standAt elt.pos >>= fun _ => call (.builtin "set.add") [acc, x] >>= fun _ => pure ()) >>= fun _ =>
          again (.compLoop (.SetComp elt [⟨target, iter, [], 0⟩] scope pos) 0 it acc env)) := by rfl
section
variable {prog : Program} {w : World} {A : Around} {E : Value → Shared → Prop} {s : Shared} {R : Result → Shared → Prop}
theorem codeAny_compStart_set {elt target iter ifs rest scope pos it acc env}
    (h0 : codeAny (model prog w) A (.compLoop (.SetComp elt (⟨target, iter, ifs, 0⟩ :: rest) scope pos) 0 it acc env) R s)
    (h : wpAny (model prog w) A (pyIter it) (fun it' s' => codeAny (model prog w) A (.compLoop (.SetComp elt (⟨target, iter, ifs, 0⟩ :: rest) scope pos) 0 it' acc env) R s')
      (notedBy (model prog w) A env fun x s' => R (.error x) s') s) :
    codeAny (model prog w) A (.compStart (.SetComp elt (⟨target, iter, ifs, 0⟩ :: rest) scope pos) 0 it acc env) R s := by
  refine codeAny_of_tree ?_
  show wpAny _ _ ((compStart (.SetComp elt (⟨target, iter, ifs, 0⟩ :: rest) scope pos) 0 it acc env).onRaise (fun x => do noteFrame x env; standAt theWindowsPlace)) _ _ s
  refine wpAny_notedAt ?_
  unfold compStart
  show wpAny _ _ (ask >>= _) _ _ s
  refine wpAny_bind (wpAny_askSetting (wpAny_ite ?_))
  split
  · first
      | exact wpAny_bind (wpAny_pure (wpAny_pure (And.intro rfl h0)))
      | exact wpAny_pure (And.intro rfl h0)
  · first
      | exact wpAny_bind (wpAny_rule (wpAny_bind (wpAny_standAt (wpAny_bind (wpAny_mono h (fun it' s' h' => wpAny_pure (And.intro rfl h')) fun _ _ x => x)))))
      | (refine wpAny_bind (wpAny_rule ?_); show wpAny _ _ (standAt iter.pos >>= _) _ _ s; exact wpAny_bind (wpAny_standAt (wpAny_bind (wpAny_mono h (fun it' s' h' => wpAny_pure (And.intro rfl h')) fun _ _ x => x))))
theorem codeAny_compLoop_set {elt target iter : Expr} {scope : Scope} {pos : Pos} {it acc : Value} {env : Env} (I : Nat → Shared → Prop)
    (turn : ∀ n s, I n s → wpAny (model prog w) A (pyNext it) (fun r s₁ => match r with
      | none => R (.ok .next) s₁
      | some v => wpAny (model prog w) A (assign target env v) (fun _ s₂ => wpAny (model prog w) A (eval elt env) (fun x s₃ =>
          wpAny (model prog w) A (call (.builtin "set.add") [acc, x]) (fun _ s₄ => ∃ m, m < n ∧ I m s₄) (notedBy (model prog w) A env fun e s' => R (.error e) s') s₃)
          (notedBy (model prog w) A env fun e s' => R (.error e) s') s₂) (notedBy (model prog w) A env fun e s' => R (.error e) s') s₁) (notedBy (model prog w) A env fun e s' => R (.error e) s') s)
    (n : Nat) (h : I n s) (ht : ∀ v, letOwnedTupleGo target it v = pure () := by intro _; rfl) :
    codeAny (model prog w) A (.compLoop (.SetComp elt [⟨target, iter, [], 0⟩] scope pos) 0 it acc env) R s := by
  refine codeAny_loop rfl I (fun n s hI => ?_) n h
  show wpAny _ _ ((compTurn (.SetComp elt [⟨target, iter, [], 0⟩] scope pos) 0 it acc env).onRaise (fun x => do noteFrame x env; theTreesLotGoes x)) _ _ s
  refine wpAny_noted ?_
  rw [compTurn_set1]
  refine wpAny_bind (wpAny_standAt (wpAny_bind (wpAny_mono (turn n s hI) (fun r s₁ h₁ => ?_) fun _ _ h' => h')))
  cases r with
  | none => exact wpAny_pure h₁
  | some v =>
    refine wpAny_bind (wpAny_of_eq (ht v) ?_)
    exact wpAny_bind (wpAny_mono h₁ (fun _ s₂ h₂ => wpAny_bind (wpAny_bind (wpAny_mono h₂ (fun x s₃ h₃ => wpAny_bind (wpAny_standAt (wpAny_bind (wpAny_mono h₃
      (fun _ s₄ h₄ => wpAny_pure (wpAny_pure ⟨rfl, h₄⟩)) fun _ _ h' => h')))) fun _ _ h' => h'))) fun _ _ h' => h')
end
noncomputable def accS (b : Bool) : Nat → Obj
  | 0 => set0 b
  | _ + 1 => set1 b
section
variable {prog : Program} {w : World} {A : Around} {E : Value → Shared → Prop} {s : Shared} {h₀ : Heap} {L : Addr} {m : Str → Option Value} {env : Env}
theorem add_acc {a : Addr} {b : Bool} {i : Nat} {Q : Value → Shared → Prop} (ha : s.heap.get? a = some (accS b i)) (h : ∀ h' tk, h'.get? a = some (accS b (i + 1)) → Heap.SameBut a s.heap h' → Q .none { s with heap := h', toks := tk }) :
    wpAny (model prog w) A (call (.builtin "set.add") [.ref a, .bool true]) Q E s := by
  cases i with
  | zero => exact call_add_new ha h
  | succ i => exact call_add_again ha fun tk => h s.heap tk ha (Heap.SameBut.refl ..)
/-- an element of a set comprehension that is True and leaves all as it stood -/
noncomputable def TrueElt (prog : Program) (w : World) (A : Around) (h₀ : Heap) (L : Addr) (m : Str → Option Value) (env : Env) (elt : Expr) (x : Str) (scope : Scope) (cl : List (Str × Addr)) (s : Shared) (P : Nat → Value → Prop) (news : Led) : Prop :=
  ∀ i v I oI C oC D oD m₂ h tk (E' : Value → Shared → Prop), P i v → NsObj oC m₂ → m₂ x = some v → Fr h₀ L h m → News h₀ L h ((I, oI) :: (C, oC) :: (D, oD) :: news) → Off3 I C D news → ((@Ne Nat I C) ∧ (@Ne Nat I D) ∧ (@Ne Nat C D)) →
    wpAny (model prog w) A (eval elt (compEnvC scope cl C env)) (fun y s' => y = .bool true ∧ ∃ h' tk', s' = { s with heap := h', toks := tk' } ∧ Fr h₀ L h' m ∧ News h₀ L h' ((I, oI) :: (C, oC) :: (D, oD) :: news)) E' { s with heap := h, toks := tk }
theorem block_S {elt iter : Expr} {x : Str} {px : Pos} {scope : Scope} {cl : List (Str × Addr)} {pos : Pos} {s₂ : Shared} {I : Addr} {fp : List Addr} {n : Nat} {P : Nat → Value → Prop} {St : Nat → Heap → Prop} {news : Led}
    {RR : Value → Addr → Result → Shared → Prop}
    (W : Walks prog w A I fp [I] n P St) (hn0 : 0 < n) (hIo : ∀ i h, St i h → ∃ o, h.get? I = some o)
    (hSt : ∀ i h h' o, St i h → h.get? I = some o → h'.get? I = some o → (∀ b o, h₀.get? b = some o → h'.get? b = some o) → News h₀ L h' news → St i h')
    (hcell : ∀ y ∈ scope.names, y.2 ≠ .cell) (hkind : scope.kind = .function) (hx : scope.names.lookup x = some .local) (hst : St 0 s₂.heap) (hfp : ∀ b ∈ fp, b < s₂.heap.objs.size)
    (F : Fr h₀ L s₂.heap m) (N : News h₀ L s₂.heap news) (hIL : L ≠ I) (hI₀ : h₀.get? I = none) (off : ∀ p ∈ news, p.1 ≠ I)
    (R : TrueElt prog w A h₀ L m env elt x scope cl s₂ P news)
    (hRR : ∀ D C h tk m', Fr h₀ L h m → News h₀ L h ((D, set1 (!w.params.followText "set-order")) :: news) → Off1 D news → h.Ns C m' → h₀.get? C = none → h₀.get? D = none → C ≠ L → D ≠ L → C ≠ D → (∀ p ∈ news, p.1 ≠ C) → RR (.ref D) C (.ok .next) { s₂ with heap := h, toks := tk }) :
    wpAny (model prog w) A (newSet (.type "set")) (fun acc s₃ => wpAny (model prog w) A (newFunctionEnv scope env.globals cl [] env.qual none .none (some env)) (fun cenv s₄ =>
      codeAny (model prog w) A (.compStart (.SetComp elt [⟨.Name x px, iter, [], 0⟩] scope pos) 0 (.ref I) acc { cenv with scope := relabel scope env }) (RR acc cenv.locals) s₄) E s₃) E s₂ := by
  refine new_set (wpAny_newFunctionEnv hcell (by intro y hy; simp at hy) (fun h₁ hns₁ hsb₁ => ?_) hkind)
  dsimp only at hns₁ hsb₁ ⊢
  generalize hb : (!w.params.followText "set-order") = b at hns₁ hsb₁ hRR ⊢
  generalize hH2 : s₂.heap.push (set0 b) = H2 at hns₁ hsb₁ ⊢
  have hC : H2.objs.size = s₂.heap.objs.size + 1 := by rw [← hH2, Heap.size_push]
  have hDC : s₂.heap.objs.size ≠ H2.objs.size := by rw [hC]; exact Nat.ne_of_lt (Nat.lt_succ_self _)
  have below : ∀ b, b < s₂.heap.objs.size → b ≠ H2.objs.size ∧ b ≠ s₂.heap.objs.size := fun b hb => ⟨by rw [hC]; exact Nat.ne_of_lt (Nat.lt_succ_of_lt hb), Nat.ne_of_lt hb⟩
  have hDf : s₂.heap.objs.size ∉ fp := fun hm => Nat.lt_irrefl _ (hfp _ hm)
  have hCf : H2.objs.size ∉ fp := fun hm => by have := hfp _ hm; rw [hC] at this; exact Nat.lt_irrefl _ (Nat.lt_of_succ_lt this)
  have hIf : I ∈ fp := W.sub I (List.mem_singleton.mpr rfl)
  have hIlt : I < s₂.heap.objs.size := hfp I hIf
  have old : ∀ b o, s₂.heap.get? b = some o → h₁.get? b = some o := fun b o e => hsb₁.extBut b o (below b (Heap.lt_size e)).1 (Heap.get?_push_of_some _ (hH2 ▸ Heap.get?_push_of_some _ e))
  have hacc : h₁.get? s₂.heap.objs.size = some (accS b 0) := hsb₁.extBut _ _ hDC (Heap.get?_push_of_some _ (hH2 ▸ Heap.get?_push_size _ rfl))
  have hst₁ : St 0 h₁ := W.frame _ _ _ hst fun b _ o e => old b o e
  have fresh : ∀ a, s₂.heap.objs.size ≤ a → s₂.heap.get? a = none := fun a ha => by
    cases e : s₂.heap.get? a with
    | none => rfl
    | some o' => exact absurd (Heap.lt_size e) (Nat.not_lt.mpr ha)
  have fresh₀ : ∀ a, s₂.heap.objs.size ≤ a → h₀.get? a = none := fun a ha => by
    cases e : h₀.get? a with
    | none => rfl
    | some o' => have := F.keep a o' e; rw [fresh a ha] at this; cases this
  have hD₀ : h₀.get? s₂.heap.objs.size = none := fresh₀ _ (Nat.le_refl _)
  have hC₀ : h₀.get? H2.objs.size = none := fresh₀ _ (by rw [hC]; exact Nat.le_succ _)
  have hLlt : L < s₂.heap.objs.size := F.ns.lt
  have hDL : s₂.heap.objs.size ≠ L := Ne.symm (below L hLlt).2
  have hCL : H2.objs.size ≠ L := Ne.symm (below L hLlt).1
  have hCI : I ≠ H2.objs.size := (below I hIlt).1
  have hDI : I ≠ s₂.heap.objs.size := (below I hIlt).2
  have off₀ : Off3 I H2.objs.size s₂.heap.objs.size news := Off3.of fun p hp => ⟨off p hp, (below _ (Heap.lt_size (N p hp).1)).1, (below _ (Heap.lt_size (N p hp).1)).2⟩
  have off3 := off₀.mem
  have loop : ∀ s₃ : Shared, s₃ = { s₂ with heap := h₁, toks := s₂.toks + ([] : List (Str × Value)).length } →
      codeAny (model prog w) A (.compLoop (.SetComp elt [⟨.Name x px, iter, [], 0⟩] scope pos) 0 (.ref I) (.ref s₂.heap.objs.size) (compEnvC scope cl H2.objs.size env))
        (RR (.ref s₂.heap.objs.size) H2.objs.size) s₃ := by
    rintro s₃ rfl
    refine codeAny_compLoop_set
      (fun k s' => ∃ h' tk i m', s' = { s₂ with heap := h', toks := tk } ∧ i ≤ n ∧ k = n + 1 - i ∧ St i h' ∧ Fr h₀ L h' m ∧ h'.Ns H2.objs.size m' ∧ News h₀ L h' ((s₂.heap.objs.size, accS b i) :: news)) ?_ (n + 1)
      ⟨h₁, _, 0, _, rfl, Nat.zero_le _, rfl, hst₁, F.keeps old, hns₁, fun p hp => ?_⟩
    · rintro k s' ⟨h', tk, i, m', rfl, hi, rfl, hst', F', hn', N'⟩
      by_cases hlt : i < n
      · refine W.item i _ _ _ hlt hst' fun v h₂ tk₂ hPv hst₂ hk₂ => ?_
        refine wpAny_assign_Name (wpAny_storeName_local (lookup_relabel_local hx) (hn'.at' fun o e => hk₂ _ o (by simpa using Ne.symm hCI) e) (fun h₃ hn₃ hs₃ => ?_) (by simp [compEnvC, relabel, hkind]))
        have hst₃ : St (i + 1) h₃ := W.frame _ _ _ hst₂ fun b hb o e => hs₃.extBut b o (fun q => hCf (by have q' : b = H2.objs.size := q; rw [← q']; exact hb)) e
        obtain ⟨oI, heI⟩ := hIo _ _ hst₃
        obtain ⟨oC, heC, hoC⟩ := ns_obj hn₃
        have F₃ : Fr h₀ L h₃ m := (fr_but F' hk₂ hIL hI₀).change hs₃ hCL hC₀
        have N₂ : News h₀ L h₂ ((s₂.heap.objs.size, accS b i) :: news) := news_but N' hk₂ fun p hp => by
          rcases List.mem_cons.mp hp with rfl | hp
          · exact Ne.symm hDI
          · exact (off3 p hp).1
        have N₃ : News h₀ L h₃ ((I, oI) :: (H2.objs.size, oC) :: (s₂.heap.objs.size, accS b i) :: news) := fun p hp => by
          rcases List.mem_cons.mp hp with rfl | hp
          · exact ⟨heI, Ne.symm hIL, hI₀⟩
          · rcases List.mem_cons.mp hp with rfl | hp
            · exact ⟨heC, hCL, hC₀⟩
            · have z := N₂ p hp
              refine ⟨hs₃.extBut _ _ ?_ z.1, z.2⟩
              rcases List.mem_cons.mp hp with rfl | hp
              · exact hDC
              · exact (off3 p hp).2.1
        refine wpAny_mono (R i v I oI H2.objs.size oC s₂.heap.objs.size _ _ h₃ _ _ hPv hoC (by simp) F₃ N₃ off₀ ⟨hCI, hDI, Ne.symm hDC⟩) (fun y s₄ h₄ => ?_) fun _ _ e => e
        obtain ⟨rfl, h₄, tk₄, rfl, F₄, N₄⟩ := h₄
        have zI := (N₄ (I, oI) List.mem_cons_self).1
        have zC := (N₄ (H2.objs.size, oC) (List.mem_cons_of_mem _ List.mem_cons_self)).1
        have zD := (N₄ (s₂.heap.objs.size, accS b i) (List.mem_cons_of_mem _ (List.mem_cons_of_mem _ List.mem_cons_self))).1
        have N₄' : News h₀ L h₄ news := fun p hp => N₄ p (List.mem_cons_of_mem _ (List.mem_cons_of_mem _ (List.mem_cons_of_mem _ hp)))
        have hst₄ : St (i + 1) h₄ := hSt _ _ _ _ hst₃ heI zI F₄.keep N₄'
        refine add_acc zD fun h₅ tk₅ hD₅ hs₅ => ?_
        refine ⟨n + 1 - (i + 1), by omega, h₅, tk₅, i + 1, _, rfl, hlt, rfl, W.frame _ _ _ hst₄ fun b hb o e => hs₅.extBut b o (fun q => hDf (q ▸ hb)) e, F₄.change hs₅ hDL hD₀,
          (hoC.ns zC).sameBut hs₅ (Ne.symm hDC), fun p hp => ?_⟩
        · rcases List.mem_cons.mp hp with rfl | hp
          · exact ⟨hD₅, hDL, hD₀⟩
          · exact ⟨hs₅.extBut _ _ (off3 p hp).2.2 (N₄' p hp).1, (N₄' p hp).2⟩
      · obtain rfl : i = n := Nat.le_antisymm hi (Nat.not_lt.mp hlt)
        refine W.done _ _ _ hst' fun h₂ tk₂ hk₂ => ?_
        obtain ⟨j, rfl⟩ : ∃ j, i = j + 1 := ⟨i - 1, by omega⟩
        exact hRR _ _ h₂ tk₂ _ (fr_but F' hk₂ hIL hI₀) (news_but N' hk₂ fun p hp => by
          rcases List.mem_cons.mp hp with rfl | hp
          · exact Ne.symm hDI
          · exact (off3 p hp).1) off₀.one (hn'.at' fun o e => hk₂ _ o (by simpa using Ne.symm hCI) e) hC₀ hD₀ hCL hDL (Ne.symm hDC) (fun p hp => (off3 p hp).2.1)
    · rcases List.mem_cons.mp hp with rfl | hp
      · exact ⟨hacc, hDL, hD₀⟩
      · exact ⟨old _ _ (N p hp).1, (N p hp).2⟩
  exact codeAny_compStart_set (loop _ rfl) (W.self 0 _ _ _ hst₁ (loop _ rfl))
noncomputable def FinS (w : World) (h₀ : Heap) (L : Addr) (m : Str → Option Value) (s : Shared) (Q : Value → Shared → Prop) (news : Led) : Prop :=
  ∀ D h tk, Fr h₀ L h m → News h₀ L h ((D, set1 (!w.params.followText "set-order")) :: news) → Off1 D news → Q (.ref D) { s with heap := h, toks := tk }
noncomputable def SrcSet (prog : Program) (w : World) (A : Around) (h₀ : Heap) (L : Addr) (m : Str → Option Value) (env : Env) (elt : Expr) (x : Str) (scope : Scope) (cl : List (Str × Addr)) (Q : Value → Shared → Prop) (xv : Value) (s₁ : Shared) : Prop :=
  ∃ ax vs k news, xv = .ref ax ∧ A.handled = none ∧ Fr h₀ L s₁.heap m ∧ News h₀ L s₁.heap news ∧ (ax, tupO vs k) ∈ news ∧ 0 < vs.length ∧
    ∀ s₂ : Shared, (∃ h, s₂ = { s₁ with heap := h }) → TrueElt prog w A h₀ L m env elt x scope cl s₂ (fun i v => vs.toArray[i]? = some v) news ∧ FinS w h₀ L m s₂ Q news
theorem SetComp_Tup {elt iter : Expr} {x : Str} {px : Pos} {scope : Scope} {cl : List (Str × Addr)} {pos : Pos} {Q : Value → Shared → Prop} (F₀ : Fr h₀ L s.heap m)
    (hclos : closureFor scope env = pure cl) (hcell : ∀ y ∈ scope.names, y.2 ≠ .cell) (hkind : scope.kind = .function)
    (hnames : ∀ y ∈ scope.names, y.2 = .local → scope.names.lookup y.1 = some .local) (hx : scope.names.lookup x = some .local)
    (h : wpAny (model prog w) A (eval iter env) (SrcSet prog w A h₀ L m env elt x scope cl Q) E s)
    (hs : ∀ x, foldedSetIterable iter env x = pure x := by intro _; rfl) :
    wpAny (model prog w) A (eval (.SetComp elt [⟨.Name x px, iter, [], 0⟩] scope pos) env) Q E s := by
  rw [arm_eval_SetComp]
  refine wpAny_comprehension_free (use := none) rfl hs hclos hkind hnames (wpAny_mono h (fun xv s₁ h₁ => ?_) fun _ _ e => e)
  obtain ⟨ax, vs, k, news, rfl, hh, F, N, hm, hsz, R⟩ := h₁
  have hl : s₁.heap.IsTuple ax vs.toArray := ⟨_, (N _ hm).1, rfl, k, rfl⟩
  have hlt : ax < s₁.heap.objs.size := Heap.lt_size (N _ hm).1
  refine wpAny_pyIter_tuple hl ?_
  have up : ∀ b o, s₁.heap.get? b = some o → (s₁.heap.push { cls := .type "tuple_iterator", data := .fields #[.ref ax, .int 0 0] }).get? b = some o := fun b o e => Heap.get?_push_of_some _ e
  have hsize : vs.toArray.size = vs.length := List.size_toArray ..
  obtain ⟨R1, R2⟩ := R _ ⟨_, rfl⟩
  refine block_S (n := vs.length) (hsize ▸ Walks.tuple hh s₁.heap.objs.size ax (Nat.ne_of_lt hlt) vs.toArray) hsz (fun i h st => by obtain ⟨o, e, _⟩ := st.1; exact ⟨o, e⟩) (fun i h h' o st e e' k₀ N' => tup_st i h h' o _ st e e' k₀ N' hm) hcell hkind hx ⟨⟨_, Heap.get?_push_size _ rfl, rfl, rfl⟩, ⟨_, up _ _ (N _ hm).1, rfl, k, rfl⟩⟩ (fun b hb => ?_)
    (F.keeps up) (N.grown up) (Nat.ne_of_lt F.ns.lt) (next_is_new F) (fun p hp => Nat.ne_of_lt (Heap.lt_size (N p hp).1)) R1 ?_
  · show b < (s₁.heap.push _).objs.size
    rw [Heap.size_push]
    rcases List.mem_cons.mp hb with rfl | hb
    · exact Nat.lt_succ_self _
    · rw [List.mem_singleton.mp hb]; exact Nat.lt_succ_of_lt hlt
  · intro D C h tk m' F' N' o1 hn hC₀ hD₀ hCL hDL hCD offC
    refine ⟨m', hn, fun h'' hs'' => R2 D h'' tk (F'.change hs'' hCL hC₀) (fun p hp => ?_) o1⟩
    refine ⟨hs''.extBut _ _ ?_ (N' p hp).1, (N' p hp).2⟩
    rcases List.mem_cons.mp hp with rfl | hp
    · exact Ne.symm hCD
    · exact offC p hp
theorem assign_setL {x : Str} {px : Pos} {k} {pos : Pos} {a : Addr} {news : Led} {Q : Unit → Shared → Prop} (hh : A.handled = none) (F : Fr h₀ L s.heap m) (N : News h₀ L s.heap news) (hm : (a, set1 (!w.params.followText "set-order")) ∈ news)
    (h : ∀ h', Fr h₀ L h' m → News h₀ L h' news → wpAny (model prog w) A (assign (.Name x px) env (.bool true)) Q E { s with heap := h' }) :
    wpAny (model prog w) A (assign (.Tuple [.Name x px] k pos) env (.ref a)) Q E s :=
  assign_set1 hh (N _ hm).1 fun h' e => h h' (F.extBut e (Nat.le_refl _)) fun p hp => ⟨e _ _ (Nat.ne_of_lt (Heap.lt_size (N p hp).1)) (N p hp).1, (N p hp).2⟩
end
end Mine
end
section
open PySem PySem.W PyProof.Rows PySem.Spec PySem.Calls
set_option maxRecDepth 100000
set_option maxHeartbeats 0
set_option linter.unusedVariables false
namespace Mine
theorem mem_rot3 {α : Type} {a b c r : α} {rest : List α} : ∀ p ∈ a :: b :: c :: r :: rest, p ∈ r :: a :: b :: c :: rest := by
  intro p hp
  simp only [List.mem_cons] at hp ⊢
  rcases hp with h | h | h | h | h
  · exact .inr (.inl h)
  · exact .inr (.inr (.inl h))
  · exact .inr (.inr (.inr (.inl h)))
  · exact .inl h
  · exact .inr (.inr (.inr (.inr h)))
noncomputable def keepC (l : List Str) : List Str := l.filter fun c => decide (c.length ≠ 0) && (c != Str.ofString ".")
theorem strs_at {X : List Value} {xs : List Str} (h : StrsAre X xs) {i : Nat} {v : Value} (hv : X.toArray[i]? = some v) : ∃ c t, xs[i]? = some c ∧ v = .str c t := by
  rw [List.getElem?_toArray] at hv
  induction h generalizing i with
  | nil => cases hv
  | cons a u _ ih =>
    cases i with
    | zero => cases hv; exact ⟨a, u, rfl, rfl⟩
    | succ i => exact ih hv
theorem split_fits {X : List Value} {x : Str} (h : StrsAre X (Txt.split x (Str.ofString "/"))) (hx : x.length ≤ 500) : X.length ≤ sizeLine := by
  have h1 := h.len_eq
  have h2 := split_le x (Str.ofString "/")
  exact Nat.le_trans (by omega) (show 502 ≤ sizeLine by decide)
theorem part_le {x c : Str} {i : Nat} (h : (Txt.split x (Str.ofString "/"))[i]? = some c) (hx : x.length ≤ 500) : c.length ≤ 500 := Nat.le_trans (part_short (List.mem_of_getElem? h)) hx
theorem take_len {X : List Value} {xs : List Str} (h : StrsAre X xs) : xs.take X.length = xs := by rw [h.len_eq, List.take_length]
theorem keepC_snoc {xs : List Str} {i : Nat} {c : Str} (h : xs[i]? = some c) : keepC (xs.take (i + 1)) = keepC (xs.take i) ++ (if (decide (c.length ≠ 0) && (c != Str.ofString ".")) = true then [c] else []) := by
  have e : xs.take (i + 1) = xs.take i ++ [c] := by rw [List.take_add_one, h]; rfl
  unfold keepC
  rw [e, List.filter_append]
  congr 1
  by_cases hc : (decide (c.length ≠ 0) && (c != Str.ofString ".")) = true
  · rw [if_pos hc, List.filter_cons_of_pos (p := fun c : Str => decide (c.length ≠ 0) && (c != Str.ofString ".")) hc]; rfl
  · rw [if_neg hc, List.filter_cons_of_neg (p := fun c : Str => decide (c.length ≠ 0) && (c != Str.ofString ".")) hc]; rfl
theorem keepC_yes {xs : List Str} {i : Nat} {c : Str} {ys : List Value} {t : Tok} (hys : StrsAre ys (keepC (xs.take i))) (h : xs[i]? = some c) (h1 : (c.length : Int) ≠ 0) (h2 : (c != Str.ofString ".") = true) : StrsAre (ys ++ [.str c t]) (keepC (xs.take (i + 1))) := by
  have h3 : c.length ≠ 0 := by omega
  rw [keepC_snoc h, if_pos (by rw [h2, decide_eq_true h3]; rfl)]
  exact hys.append' (.cons _ _ .nil)
theorem keepC_no1 {xs : List Str} {i : Nat} {c : Str} {ys : List Value} (hys : StrsAre ys (keepC (xs.take i))) (h : xs[i]? = some c) (h1 : (c.length : Int) = 0) : StrsAre ys (keepC (xs.take (i + 1))) := by
  have h3 : ¬ (c.length ≠ 0) := by omega
  rw [keepC_snoc h, if_neg (by rw [decide_eq_false h3]; exact Bool.false_ne_true), List.append_nil]
  exact hys
theorem keepC_no2 {xs : List Str} {i : Nat} {c : Str} {ys : List Value} (hys : StrsAre ys (keepC (xs.take i))) (h : xs[i]? = some c) (h2 : (c != Str.ofString ".") = false) : StrsAre ys (keepC (xs.take (i + 1))) := by
  rw [keepC_snoc h, if_neg (by rw [h2, Bool.and_false]; exact Bool.false_ne_true), List.append_nil]
  exact hys
theorem enum_ind {R : List Itm → (Str → Option Value) → Led → Prop} (I : Nat → List Value → (Str → Option Value) → Led → Prop)
    (nil : ∀ i m news, I i [] m news → R [] m news)
    (cons : ∀ i v r m news, I i (v :: r) m news → (∀ m' news', I (i + 1) r m' news' → R (enumItems (i + 1) r) m' news') → R (.pair (fun t => .int (i : Int) t) v :: enumItems (i + 1) r) m news) :
    ∀ r i m news, I i r m news → R (enumItems i r) m news
  | [], i, m, news, h => nil i m news h
  | v :: r, i, m, news, h => cons i v r m news h fun m' news' h' => enum_ind I nil cons r (i + 1) m' news' h'
inductive CmX (x1 x2 : List Str) (i : Nat) (r : List Value) : Prop
  | mk (done rest : List Str) : x1 = done ++ rest → StrsAre r rest → done = x2.take i → i = done.length → CmX x1 x2 i r
structure CmI (NW : Led) (s1 s2 : Addr) (x1 x2 : List Str) (i : Nat) (r : List Value) (m : Str → Option Value) (nw : Led) : Prop where
  ex : CmX x1 x2 i r
  nw : nw = NW
  m1 : m (Str.ofString "s1") = some (.ref s1)
  m2 : m (Str.ofString "s2") = some (.ref s2)
  mc : m (Str.ofString "common") = some (.ref s1)
  mi : m (Str.ofString "isabs") = some (.bool true)
theorem item_L2 {prog : Program} {w : World} {A : Around} {E : Value → Shared → Prop} {s : Shared} {h₀ : Heap} {L a : Addr} {news : Led} {value slice : Expr} {X : List Value} {n i : Nat} {xs : List Str} {d : Str} {u : Tok} {Q : Value → Shared → Prop} (N : News h₀ L s.heap news) (hm : (a, lstO X n) ∈ news) (hX : StrsAre X xs) (hd : xs[i]? = some d) (hfit : xs.length ≤ 502)
    (h : ∀ t', Q (.str d t') s)
    (hs : subscripted slice false (.ref a) (.int (i : Int) u) = operate [.ref a, .int (i : Int) u] (getItem (.ref a) (.int (i : Int) u)) := by with_unfolding_all rfl) (hg : ∀ r, letTemporaryGo value (.ref a) r = pure () := by intro _; with_unfolding_all rfl) :
    wpAny (model prog w) A (subscriptTail value slice (.ref a) (.int (i : Int) u)) Q E s := by
  obtain ⟨hlt, e⟩ := List.getElem?_eq_some_iff.mp hd
  refine item_strsA ⟨_, (N _ hm).1, rfl, n, rfl⟩ hX (by omega) (by omega) (by omega) (fun t' => ?_) hs hg
  have : xs.getD ((i : Int).toNat) Str.empty = d := by
    rw [show (i : Int).toNat = i by omega]
    simp [List.getD, hd]
  rw [this]
  exact h t'
theorem join_len {xs : List Str} (h1 : ∀ c ∈ xs, c.length ≤ 500) (h2 : xs.length ≤ 502) : (Txt.join (Str.ofString "/") xs).length ≤ 300000 ∧ (xs.map (·.length)).sum + xs.length * (Str.ofString "/").length ≤ 16777216 := by
  have a := sum_map_le 500 xs h1
  have b := size_glued (Str.ofString "/") xs
  have c : (Str.ofString "/").length = 1 := by decide
  refine ⟨?_, by rw [c]; omega⟩
  show (Builtin.Str.glued _ _).length ≤ _
  rw [b, c]
  omega
theorem keepC_in {x : Str} (hx : x.length ≤ 500) : (∀ c ∈ keepC (Txt.split x (Str.ofString "/")), c.length ≤ 500) ∧ (keepC (Txt.split x (Str.ofString "/"))).length ≤ 502 := by
  refine ⟨fun c hc => Nat.le_trans (part_short (List.mem_filter.mp hc).1) hx, ?_⟩
  have h2 := split_le x (Str.ofString "/")
  exact Nat.le_trans (List.length_filter_le _ _) (by omega)
theorem cm_item {x1 x2 done rest : List Str} {c : Str} {i : Nat} (hs : SafeL x1 x2) (h : x1 = done ++ c :: rest) (hd : done = x2.take i) (hi : i = done.length) : ∃ d, x2[i]? = some d := by
  have h1 : x1.take i = x2.take i := by rw [h, hi, List.take_left', ← hi, ← hd]; rfl
  have h2 : i < x1.length := by rw [h, List.length_append, List.length_cons]; omega
  exact ⟨_, List.getElem?_eq_getElem (hs i h1 h2)⟩
theorem cm_done {x1 x2 done : List Str} {i : Nat} (h : x1 = done ++ []) (hd : done = x2.take i) (hi : i = done.length) : x1 = x2.take x1.length := by
  rw [List.append_nil] at h
  subst h
  rw [← hi]; exact hd
theorem slice_L2 {prog : Program} {w : World} {A : Around} {E : Value → Shared → Prop} {s : Shared} {h₀ : Heap} {L a : Addr} {m : Str → Option Value} {news : Led} {value slice : Expr} {X : List Value} {n i : Nat} {u : Tok} {Q : Value → Shared → Prop} (F : Fr h₀ L s.heap m) (N : News h₀ L s.heap news) (hm : (a, lstO X n) ∈ news) (hz : X.length ≤ sizeLine)
    (h : ∀ D h', Fr h₀ L h' m → News h₀ L h' ((D, lstO (X.take i) 0) :: news) → (∀ p ∈ news, p.1 < D) → Q (.ref D) { s with heap := h' })
    (hs : subscripted slice false (.ref a) (.ref s.heap.objs.size) = operate [.ref s.heap.objs.size, .ref a] (getItem (.ref a) (.ref s.heap.objs.size)) := by with_unfolding_all rfl) (ht : ∀ r, letTemporaryGo value (.ref a) r = pure () := by intro _; with_unfolding_all rfl) :
    wpAny (model prog w) A (subscriptTail value slice (.ref a) (.ref s.heap.objs.size)) Q E { s with heap := s.heap.push { cls := .type "slice", data := .fields #[.none, .int (i : Int) u, .none] } } := by
  refine kmk_slice (its := X.toArray) F N ⟨_, (N _ hm).1, rfl, n, rfl⟩ .none (.int _ _) (fun D h' F' N' l1 => h D h' F' ?_ l1) hs ht (by rw [List.size_toArray]; exact hz)
  rw [slicePick_upto'] at N'
  exact N'
theorem cm_off {I : Addr} {o1 o2 : Obj} {NW : Led} (h : ∀ p ∈ NW, p.1 < I) : ∀ p ∈ NW, ∀ q ∈ [(I + 1, o1), (I, o2)], p.1 ≠ q.1 := by
  intro p hp q hq
  have h1 := h p hp
  have h2 : q.1 = I + 1 ∨ q.1 = I := by
    rcases List.mem_cons.mp hq with rfl | hq
    · exact .inl rfl
    · rw [List.mem_singleton.mp hq]; exact .inr rfl
  intro e
  have h1' : @LT.lt Nat _ p.1 I := h1
  rw [e] at h1'
  rcases h2 with h2 | h2 <;> rw [h2] at h1' <;> omega
theorem cm_next {x1 x2 done rest : List Str} {c d : Str} {i : Nat} (h : x1 = done ++ c :: rest) (hd : done = x2.take i) (hi : i = done.length) (hx : x2[i]? = some d) (e : (c != d) = false) :
    ∃ done' rest', x1 = done' ++ rest' ∧ rest' = rest ∧ done' = x2.take (i + 1) ∧ i + 1 = done'.length := by
  have e' : c = d := by simpa using e
  refine ⟨done ++ [c], rest, by rw [h]; simp, rfl, ?_, by rw [List.length_append, List.length_singleton, ← hi]⟩
  rw [List.take_add_one, hx, ← hd, e']; rfl
theorem cm_break {x1 x2 done rest : List Str} {c d : Str} {i : Nat} (h : x1 = done ++ c :: rest) (hd : done = x2.take i) (hi : i = done.length) (hx : x2[i]? = some d) (e : (c != d) = true) : cpL x1 x2 = x1.take i := by
  have h1 : x1.take i = x2.take i := by rw [h, hi, List.take_left', ← hi, ← hd]; rfl
  have h2 : x1[i]? = some c := by rw [h, hi]; simp
  exact cpL_take h1 h2 hx (by simpa using e)
section
local macro_rules | `(tactic| k_all) => `(tactic| with_reducible assumption)
theorem comm_c (w : World) (x y : Str) (tx ty : Tok) (l : Addr) (k : Nat) (hx : x.length ≤ 500) (hy : y.length ≤ 500) (hx1 : Txt.startswith x (Str.ofString "/") = true) (hy1 : Txt.startswith y (Str.ofString "/") = true) :
    CtrV w 175 5 300 [.ref l] (fun nw => (l, lstO [.str x tx, .str y ty] k) ∈ nw) (fun v => ∃ t, v = .str (Str.ofString "/" ++ Txt.join (Str.ofString "/") (cpL (keepC (Txt.split x (Str.ofString "/"))) (keepC (Txt.split y (Str.ofString "/"))))) t) := by
  w_top off
  unfold CtrV
  k_fill
  k_with_none
  (k_with "subscriptTail Name Slice ref ref" => (k_here; k_dflt (refine' slice_L2 (s := ⟨_, _, _, _, _⟩) ?zqF ?zqN ?zqhm ?zqhz ?_; (case zqF => k_asm); (case zqN => k_asm); (case zqhm => exact List.mem_cons_of_mem _ (List.mem_cons_of_mem _ (by assumption))); (case zqhz => assumption); k_whole); intro D9 h9 F9 N9 l9; (try dsimp only)))
  (k_with "call ref" => (k_here; k_dflt (refine' CtrV.use (fsp_c _ _ _) ?zqk1 ?zqk2 ?zqk3 ?zqk4 ?zqk5 ?zqkK ?zqkd ?zqku ?zqkp ?_; (case zqk1 => k_asm); (case zqk2 => k_asm); (case zqk3 => k_asm); (case zqk4 => k_asm); (case zqk5 => k_asm); (case zqkK => exact rfl); (case zqkd => ktr_room); (case zqku => ktr_units); (case zqkp => trivial); k_whole); intro v9 h9 tk9 F9 N9 hp9; subst hp9; (try dsimp only); (try k_fold)))
  (k_with "call type:map" => (k_here; k_dflt (refine' map_L ?zqF ?zqN ?zqm ?_; (case zqF => k_asm); (case zqN => k_asm); (case zqm => first | k_mem | (exact List.mem_cons_of_mem _ (List.mem_cons_of_mem _ (by assumption)))); k_whole); intro M9 h9 F9 N9 hM9; (try dsimp only)))
  (k_with "call type:tuple" => (k_here; k_dflt (refine' tup_L ?zqB ?zqF ?zqX ?zqN ?zqT ?zqk ?zqd ?zqu ?zqm ?zqM ?_; (case zqB => k_asm); (case zqF => k_asm); (case zqX => k_asm); (case zqN => k_asm); (case zqT => k_asm); (case zqk => exact rfl); (case zqd => ktr_room); (case zqu => ktr_units); (case zqm => first | k_mem | (exact List.mem_cons_of_mem _ (List.mem_cons_of_mem _ (by assumption)))); (case zqM => assumption); k_whole); intro D9 h9 tk9 F9 N9 l9; (k_lt l9); (try dsimp only)))
  (k_with "exec Try" => (k_here; refine wpAny_Try_except ?_))
  (k_with "call builtin:str.split" => (k_here; k_dflt (refine' split1_L ?zqF ?zqN ?zqy ?zqx ?_; (case zqF => k_asm); (case zqN => k_asm); (case zqy => rfl); (case zqx => omega); k_whole); intro r1 vs1 hr1 k1 hs1 F2 N2 lt1; (k_lt lt1); (try dsimp only)))
  (k_with "call builtin:min" => (k_here; k_dflt (refine' min_L (n := 2) ?zqhh ?zqhu ?zqF ?zqN ?zql ?zqa ?zqb ?zqX ?zqY ?zqhe ?_; (case zqhe => assumption); (case zqhh => exact rfl); (case zqF => k_asm); (case zqN => k_asm); (case zql => k_mem); (case zqa => k_mem); (case zqb => k_mem); (case zqX => assumption); (case zqY => assumption); (case zqhu => ke_room); k_whole); intro h9 tk9 F9 N9; (try dsimp only)))
  (k_with "call builtin:max" => (k_here; k_dflt (refine' max_L (n := 2) ?zqhh ?zqhu ?zqF ?zqN ?zql ?zqa ?zqb ?zqX ?zqY ?zqhe ?_; (case zqhe => assumption); (case zqhh => exact rfl); (case zqF => k_asm); (case zqN => k_asm); (case zql => k_mem); (case zqa => k_mem); (case zqb => k_mem); (case zqX => assumption); (case zqY => assumption); (case zqhu => ke_room); k_whole); intro h9 tk9 F9 N9; (try dsimp only)))
  (k_with "subscriptTail Name Name ref int" => (k_here; k_dflt (refine' item_L2 ?zqkN ?zqhm ?zqhX ?zqhd ?zqfit ?_ ?zqhs ?zqhg; (case zqkN => k_asm); (case zqhm => exact List.mem_cons_of_mem _ (List.mem_cons_of_mem _ (by assumption))); (case zqhX => assumption); (case zqhd => assumption); (case zqfit => assumption); (case zqhs => with_unfolding_all rfl); (case zqhg => intro _; with_unfolding_all rfl); k_whole); intro t'))
  (k_with "call builtin:str.join" => (k_here; k_dflt (refine' join_L ?zqkN ?zqhm ?zqhi ?zqhok ?_; (case zqkN => k_asm); (case zqhm => first | assumption | k_mem); (case zqhi => assumption); (case zqhok => assumption); k_whole); intro t' k'))
  intro p loose mean mg mb dp un gd cn cs a ccd cl outer A₀ base h₀ L m news s Q E B F X N T hk hd hu hpre hret
  refine wpAny_call ?_
  (refine' code_defC ?k1 ?k2 ?k3 ?k4 ?k5 ?kA ?kF ?kK ?k6 ?k7 ?k8 ?k9 ?kB ?kD ?_ ?c2 ?c3 ?c4; (case kA => exact rfl); (case kF => exact rfl); (case kK => assumption); (case k1 => k_asm); (case k2 => k_asm); (case k3 => k_asm); (case k4 => k_asm); (case k5 => k_asm); (case k6 => k_is); (case k7 => k_is); (case k8 => ktr_room); (case k9 => first | exact BindsTo.of_eq rfl | exact binds_K (by k_in) rfl (by k_is) rfl rfl rfl | fail "k_enter: no rule for these arguments"); (case kB => exact rfl); (case kD => decide +kernel); (case c2 => exact rfl); (case c3 => exact rfl); (case c4 => exact rfl); k_whole; intro g' L' h' tk' cells' FG' F' N' Y' B' X' T' l1; (try k_lt l1); k_cells Y'; (try simp only [List.cons_append, List.nil_append] at N'); (try dsimp only); (try k_lift B'); (try k_fold))
  have hoff1 : ∀ p ∈ news, p.1 ≠ L' + 1 := fun p hp => by have := l1 p hp; exact Nat.ne_of_lt (Nat.lt_succ_of_lt this)
  have hoff2 : ∀ p ∈ news, p.1 ≠ L' + 1 + 1 := fun p hp => by have := l1 p hp; exact Nat.ne_of_lt (Nat.lt_succ_of_lt (Nat.lt_succ_of_lt this))
  (repeat' ((fail_if_success (with_reducible show wpAny _ _ (exec (Stmt.For _ _ _ _ _) _) _ _ _)); (fail_if_success (with_reducible show wpAny _ _ (exec (Stmt.Assign _ (Expr.ListComp _ _ _ _) _) _) _ _ _)); (fail_if_success (with_reducible show LCt.CompSrcT _ _ _ _ _ _ _ _ _ _ _ _ _ _ _)); (fail_if_success (with_reducible show LCg.CompSrc _ _ _ _ _ _ _ _ _ _ _ _ _ _)); (fail_if_success (with_reducible show wpAny _ _ (eval (Expr.ListComp _ _ _ _) _) _ _ _)); (fail_if_success (with_reducible show SrcTup _ _ _ _ _ _ _ _ _ _ _ _ _ _)); (fail_if_success (with_reducible show SrcSet _ _ _ _ _ _ _ _ _ _ _ _ _ _)); (first | (k_unfold; (try dsimp only)) | (k_end; kc_close) | walk1 | (dsimp only; walk1) | (leave1; (try dsimp only)) | fail "no step")))
  rename_i hM hE tkE tkF tkG hA o1 d1 h1 o2 F0 N0 d2
  refine Assign_ListComp_Tup (F₀ := by k_asm) (by rfl) (by with_unfolding_all rfl) (by with_unfolding_all rfl) (by decide) (by rfl) (by decide) (by rfl) (by rfl) (by rfl) ?_
  (repeat' ((fail_if_success (with_reducible show wpAny _ _ (exec (Stmt.For _ _ _ _ _) _) _ _ _)); (fail_if_success (with_reducible show wpAny _ _ (exec (Stmt.Assign _ (Expr.ListComp _ _ _ _) _) _) _ _ _)); (fail_if_success (with_reducible show LCt.CompSrcT _ _ _ _ _ _ _ _ _ _ _ _ _ _ _)); (fail_if_success (with_reducible show LCg.CompSrc _ _ _ _ _ _ _ _ _ _ _ _ _ _)); (fail_if_success (with_reducible show wpAny _ _ (eval (Expr.ListComp _ _ _ _) _) _ _ _)); (fail_if_success (with_reducible show SrcTup _ _ _ _ _ _ _ _ _ _ _ _ _ _)); (fail_if_success (with_reducible show SrcSet _ _ _ _ _ _ _ _ _ _ _ _ _ _)); (first | (k_unfold; (try dsimp only)) | (k_end; kc_close) | walk1 | (dsimp only; walk1) | (leave1; (try dsimp only)) | fail "no step")))
  refine ⟨_, [.str x tx, .str y ty], 0, _, rfl, rfl, by k_asm, by k_asm, .head _, by show 2 ≤ sizeLine; decide, ?_⟩
  rintro s₂ ⟨g₂, rfl⟩
  refine LCg.CompRest.succ (fun v I oI C oC D m₂ h₁ tk₁ E' hP hoC hm₂ F₁ N₁ off ne => ?_)
  obtain rfl : v = .str x tx := (Option.some.inj hP).symm
  simp only [LCg.Off3, and_true] at off
  (repeat' ((fail_if_success (with_reducible show wpAny _ _ (exec (Stmt.For _ _ _ _ _) _) _ _ _)); (fail_if_success (with_reducible show wpAny _ _ (exec (Stmt.Assign _ (Expr.ListComp _ _ _ _) _) _) _ _ _)); (fail_if_success (with_reducible show LCt.CompSrcT _ _ _ _ _ _ _ _ _ _ _ _ _ _ _)); (fail_if_success (with_reducible show LCg.CompSrc _ _ _ _ _ _ _ _ _ _ _ _ _ _)); (fail_if_success (with_reducible show wpAny _ _ (eval (Expr.ListComp _ _ _ _) _) _ _ _)); (fail_if_success (with_reducible show SrcTup _ _ _ _ _ _ _ _ _ _ _ _ _ _)); (fail_if_success (with_reducible show SrcSet _ _ _ _ _ _ _ _ _ _ _ _ _ _)); (first | (k_unfold; (try dsimp only)) | (k_end; kc_close) | walk1 | (dsimp only; walk1) | (leave1; (try dsimp only)) | fail "no step")))
  (k_with "call builtin:str.split" => (k_here; k_dflt (refine' split1_L ?zqF ?zqN ?zqy ?zqx ?_; (case zqF => k_asm); (case zqN => k_asm); (case zqy => rfl); (case zqx => omega); k_whole); intro r2 vs2 hr2 k2 hs2 F4 N4 lt2; (k_lt lt2); (try dsimp only)))
  refine LCg.CompEnd.intro F2 N2 ((r1, lstO vs1 0) :: (D9, tupO [.str x tx, .str y ty] 0) :: (L' + 1 + 1, o2) :: (L' + 1, o1) :: news) ?sub1 ?off1 (.tail _ (.head _)) ?_
  case sub1 => exact mem_rot3
  case off1 => exact ⟨⟨Nat.ne_of_gt lt1.1, Nat.ne_of_gt lt1.2.1, Nat.ne_of_gt lt1.2.2.1⟩, off⟩
  refine LCg.CompRest.succ (fun v I9 oI9 C9 oC9 E9 m₃ h₃ tk₃ E3 hP3 hoC3 hm₃ F₃ N₃ off3 ne3 => ?_)
  obtain rfl : v = .str y ty := (Option.some.inj hP3).symm
  simp only [LCg.Off3, and_true] at off3
  (repeat' ((fail_if_success (with_reducible show wpAny _ _ (exec (Stmt.For _ _ _ _ _) _) _ _ _)); (fail_if_success (with_reducible show wpAny _ _ (exec (Stmt.Assign _ (Expr.ListComp _ _ _ _) _) _) _ _ _)); (fail_if_success (with_reducible show LCt.CompSrcT _ _ _ _ _ _ _ _ _ _ _ _ _ _ _)); (fail_if_success (with_reducible show LCg.CompSrc _ _ _ _ _ _ _ _ _ _ _ _ _ _)); (fail_if_success (with_reducible show wpAny _ _ (eval (Expr.ListComp _ _ _ _) _) _ _ _)); (fail_if_success (with_reducible show SrcTup _ _ _ _ _ _ _ _ _ _ _ _ _ _)); (fail_if_success (with_reducible show SrcSet _ _ _ _ _ _ _ _ _ _ _ _ _ _)); (first | (k_unfold; (try dsimp only)) | (k_end; kc_close) | walk1 | (dsimp only; walk1) | (leave1; (try dsimp only)) | fail "no step")))
  refine LCg.CompEnd.intro F4 N4 ((r2, lstO vs2 0) :: (r1, lstO vs1 0) :: (D9, tupO [.str x tx, .str y ty] 0) :: (L' + 1 + 1, o2) :: (L' + 1, o1) :: news) ?sub2 ?off2 (.tail _ (.tail _ (.head _))) ?_
  case sub2 => exact mem_rot3
  case off2 => exact ⟨⟨Nat.ne_of_gt lt2.1, Nat.ne_of_gt lt2.2.1, Nat.ne_of_gt lt2.2.2.1⟩, off3⟩
  refine LCg.CompRest.zero ?_
  intro D h₅ tk₅ F₅ N₅ o5
  simp only [LCg.Off1] at o5
  dsimp only
  (repeat' ((fail_if_success (with_reducible show wpAny _ _ (exec (Stmt.For _ _ _ _ _) _) _ _ _)); (fail_if_success (with_reducible show wpAny _ _ (exec (Stmt.Assign _ (Expr.ListComp _ _ _ _) _) _) _ _ _)); (fail_if_success (with_reducible show LCt.CompSrcT _ _ _ _ _ _ _ _ _ _ _ _ _ _ _)); (fail_if_success (with_reducible show LCg.CompSrc _ _ _ _ _ _ _ _ _ _ _ _ _ _)); (fail_if_success (with_reducible show wpAny _ _ (eval (Expr.ListComp _ _ _ _) _) _ _ _)); (fail_if_success (with_reducible show SrcTup _ _ _ _ _ _ _ _ _ _ _ _ _ _)); (fail_if_success (with_reducible show SrcSet _ _ _ _ _ _ _ _ _ _ _ _ _ _)); (first | (k_unfold; (try dsimp only)) | (k_end; kc_close) | walk1 | (dsimp only; walk1) | (leave1; (try dsimp only)) | fail "no step")))
  refine SetComp_Tup (F₀ := F₅) (by with_unfolding_all rfl) (by decide) (by rfl) (by decide) (by rfl) ?_
  (repeat' ((fail_if_success (with_reducible show wpAny _ _ (exec (Stmt.For _ _ _ _ _) _) _ _ _)); (fail_if_success (with_reducible show wpAny _ _ (exec (Stmt.Assign _ (Expr.ListComp _ _ _ _) _) _) _ _ _)); (fail_if_success (with_reducible show LCt.CompSrcT _ _ _ _ _ _ _ _ _ _ _ _ _ _ _)); (fail_if_success (with_reducible show LCg.CompSrc _ _ _ _ _ _ _ _ _ _ _ _ _ _)); (fail_if_success (with_reducible show wpAny _ _ (eval (Expr.ListComp _ _ _ _) _) _ _ _)); (fail_if_success (with_reducible show SrcTup _ _ _ _ _ _ _ _ _ _ _ _ _ _)); (fail_if_success (with_reducible show SrcSet _ _ _ _ _ _ _ _ _ _ _ _ _ _)); (first | (k_unfold; (try dsimp only)) | (k_end; kc_close) | walk1 | (dsimp only; walk1) | (leave1; (try dsimp only)) | fail "no step")))
  refine ⟨_, [.str x tx, .str y ty], 0, _, rfl, rfl, by k_asm, by k_asm, .tail _ (.tail _ (.tail _ (.head _))), Nat.zero_lt_succ _, ?_⟩
  rintro s₃ ⟨g₃, rfl⟩
  refine ⟨?_, ?_⟩
  · intro i9 v I9 oI9 C9 oC9 D9 oD9 m₃ h₃ tk₃ E3 hP3 hoC3 hm₃ F₃ N₃ off3 ne3
    obtain ⟨z, tz, rfl, hz1⟩ : ∃ z tz, v = .str z tz ∧ Txt.startswith z (Str.ofString "/") = true := by
      match i9, hP3 with
      | 0, h => exact ⟨x, tx, (Option.some.inj h).symm, hx1⟩
      | 1, h => exact ⟨y, ty, (Option.some.inj h).symm, hy1⟩
    (repeat' ((fail_if_success (with_reducible show wpAny _ _ (exec (Stmt.For _ _ _ _ _) _) _ _ _)); (fail_if_success (with_reducible show wpAny _ _ (exec (Stmt.Assign _ (Expr.ListComp _ _ _ _) _) _) _ _ _)); (fail_if_success (with_reducible show LCt.CompSrcT _ _ _ _ _ _ _ _ _ _ _ _ _ _ _)); (fail_if_success (with_reducible show LCg.CompSrc _ _ _ _ _ _ _ _ _ _ _ _ _ _)); (fail_if_success (with_reducible show wpAny _ _ (eval (Expr.ListComp _ _ _ _) _) _ _ _)); (fail_if_success (with_reducible show SrcTup _ _ _ _ _ _ _ _ _ _ _ _ _ _)); (fail_if_success (with_reducible show SrcSet _ _ _ _ _ _ _ _ _ _ _ _ _ _)); (first | (k_unfold; (try dsimp only)) | (k_end; kc_close) | walk1 | (dsimp only; walk1) | (leave1; (try dsimp only)) | fail "no step")))
    · rw [hz1]
    · assumption
    · assumption
  · intro D6 h₆ tk₆ F₆ N₆ o6
    simp only [LCg.Off1] at o6
    refine assign_setL (by rfl) F₆ N₆ (.head _) fun h₇ F₇ N₇ => ?_
    (repeat' ((fail_if_success (with_reducible show wpAny _ _ (exec (Stmt.For _ _ _ _ _) _) _ _ _)); (fail_if_success (with_reducible show wpAny _ _ (exec (Stmt.Assign _ (Expr.ListComp _ _ _ _) _) _) _ _ _)); (fail_if_success (with_reducible show LCt.CompSrcT _ _ _ _ _ _ _ _ _ _ _ _ _ _ _)); (fail_if_success (with_reducible show LCg.CompSrc _ _ _ _ _ _ _ _ _ _ _ _ _ _)); (fail_if_success (with_reducible show wpAny _ _ (eval (Expr.ListComp _ _ _ _) _) _ _ _)); (fail_if_success (with_reducible show SrcTup _ _ _ _ _ _ _ _ _ _ _ _ _ _)); (fail_if_success (with_reducible show SrcSet _ _ _ _ _ _ _ _ _ _ _ _ _ _)); (first | (k_unfold; (try dsimp only)) | (k_end; kc_close) | walk1 | (dsimp only; walk1) | (leave1; (try dsimp only)) | fail "no step")))
    refine LCg.Assign_ListComp_U (F₀ := by k_asm) (by rfl) (by with_unfolding_all rfl) (by with_unfolding_all rfl) (by decide) (by rfl) (by decide) (by rfl) (by rfl) (by rfl) ?_
    (repeat' ((fail_if_success (with_reducible show wpAny _ _ (exec (Stmt.For _ _ _ _ _) _) _ _ _)); (fail_if_success (with_reducible show wpAny _ _ (exec (Stmt.Assign _ (Expr.ListComp _ _ _ _) _) _) _ _ _)); (fail_if_success (with_reducible show LCt.CompSrcT _ _ _ _ _ _ _ _ _ _ _ _ _ _ _)); (fail_if_success (with_reducible show LCg.CompSrc _ _ _ _ _ _ _ _ _ _ _ _ _ _)); (fail_if_success (with_reducible show wpAny _ _ (eval (Expr.ListComp _ _ _ _) _) _ _ _)); (fail_if_success (with_reducible show SrcTup _ _ _ _ _ _ _ _ _ _ _ _ _ _)); (fail_if_success (with_reducible show SrcSet _ _ _ _ _ _ _ _ _ _ _ _ _ _)); (first | (k_unfold; (try dsimp only)) | (k_end; kc_close) | walk1 | (dsimp only; walk1) | (leave1; (try dsimp only)) | fail "no step")))
    refine LCg.CompSrc.ledger (its := #[.ref r1, .ref r2]) (k := 2) (by rfl) (by k_asm) (by k_asm) (.tail _ (.head _)) (show 2 ≤ sizeLine by decide) ?_
    intro g₇
    refine LCg.CompRest.succ (fun v Ia1 oIa1 Ca1 oCa1 Da1 ma1 ha1 tka1 Ea1 hPa1 hoCa1 hma1 Fa1 Na1 offa1 nea1 => ?_)
    obtain rfl : v = .ref r1 := (Option.some.inj hPa1).symm
    simp only [LCg.Off3] at offa1
    refine LCt.ListComp_T (F₀ := Fa1) (by with_unfolding_all rfl) (by decide) (by rfl) (by decide) (by rfl) ?_
    (repeat' ((fail_if_success (with_reducible show wpAny _ _ (exec (Stmt.For _ _ _ _ _) _) _ _ _)); (fail_if_success (with_reducible show wpAny _ _ (exec (Stmt.Assign _ (Expr.ListComp _ _ _ _) _) _) _ _ _)); (fail_if_success (with_reducible show LCt.CompSrcT _ _ _ _ _ _ _ _ _ _ _ _ _ _ _)); (fail_if_success (with_reducible show LCg.CompSrc _ _ _ _ _ _ _ _ _ _ _ _ _ _)); (fail_if_success (with_reducible show wpAny _ _ (eval (Expr.ListComp _ _ _ _) _) _ _ _)); (fail_if_success (with_reducible show SrcTup _ _ _ _ _ _ _ _ _ _ _ _ _ _)); (fail_if_success (with_reducible show SrcSet _ _ _ _ _ _ _ _ _ _ _ _ _ _)); (first | (k_unfold; (try dsimp only)) | (k_end; kc_close) | walk1 | (dsimp only; walk1) | (leave1; (try dsimp only)) | fail "no step")))
    refine LCt.CompSrcT.ledger (its := vs1.toArray) (k := 0) (by rfl) (by k_asm) (by k_asm) (by k_mem) (by rw [List.size_toArray]; exact split_fits hs1 hx) ?_
    intro gb1
    rw [List.size_toArray]
    refine compT_ind vs1.length (fun i ys nw => nw = _ ∧ StrsAre ys (keepC ((Txt.split x (Str.ofString "/")).take i))) ?_ ?_ _ _ ⟨rfl, .nil⟩
    rotate_left
    · rintro k i ys nw e ⟨rfl, hys⟩ IH
      refine LCt.CompRestT.succ (fun v I9 oI9 C oC D m₂ h₁ tk₁ E' hP hoC hm₂ F₁ N₁ off ne => ?_)
      obtain ⟨c, u, hpi', rfl⟩ := strs_at hs1 hP
      have hcl := part_le hpi' hx
      (repeat' ((fail_if_success (with_reducible show wpAny _ _ (exec (Stmt.For _ _ _ _ _) _) _ _ _)); (fail_if_success (with_reducible show wpAny _ _ (exec (Stmt.Assign _ (Expr.ListComp _ _ _ _) _) _) _ _ _)); (fail_if_success (with_reducible show LCt.CompSrcT _ _ _ _ _ _ _ _ _ _ _ _ _ _ _)); (fail_if_success (with_reducible show LCg.CompSrc _ _ _ _ _ _ _ _ _ _ _ _ _ _)); (fail_if_success (with_reducible show wpAny _ _ (eval (Expr.ListComp _ _ _ _) _) _ _ _)); (fail_if_success (with_reducible show SrcTup _ _ _ _ _ _ _ _ _ _ _ _ _ _)); (fail_if_success (with_reducible show SrcSet _ _ _ _ _ _ _ _ _ _ _ _ _ _)); (first | (k_unfold; (try dsimp only)) | (k_end; kc_close) | walk1 | (dsimp only; walk1) | (leave1; (try dsimp only)) | fail "no step")))
      · exact LCg.CompEnd.intro F₁ N₁ _ (fun p hp => hp) off (.inr ⟨_, by k_mem, rfl, _, rfl⟩) (IH _ _ ⟨rfl, keepC_yes hys hpi' (by assumption) (by assumption)⟩)
      · exact LCg.CompEnd.intro F₁ N₁ _ (fun p hp => hp) off (.inr ⟨_, by k_mem, rfl, _, rfl⟩) (IH _ _ ⟨rfl, keepC_no2 hys hpi' (by assumption)⟩)
      · exact LCg.CompEnd.intro F₁ N₁ _ (fun p hp => hp) off (.inr ⟨_, by k_mem, rfl, _, rfl⟩) (IH _ _ ⟨rfl, keepC_no1 hys hpi' (by assumption)⟩)
    rintro ys1 nw ⟨rfl, hys1⟩ Dk1 hk1 tkk1 Fk1 Nk1 ok1
    simp only [LCg.Off1] at ok1
    dsimp only
    rw [take_len hs1] at hys1
    refine LCg.CompEnd.intro Fk1 Nk1 _ mem_rot3 ⟨⟨Ne.symm ok1.1, Ne.symm ok1.2.1, Ne.symm ok1.2.2.1⟩, offa1⟩ (.inr ⟨_, by k_mem, rfl, _, rfl⟩) ?_
    refine LCg.CompRest.succ (fun v Ia2 oIa2 Ca2 oCa2 Da2 ma2 ha2 tka2 Ea2 hPa2 hoCa2 hma2 Fa2 Na2 offa2 nea2 => ?_)
    obtain rfl : v = .ref r2 := (Option.some.inj hPa2).symm
    simp only [LCg.Off3] at offa2
    refine LCt.ListComp_T (F₀ := Fa2) (by with_unfolding_all rfl) (by decide) (by rfl) (by decide) (by rfl) ?_
    (repeat' ((fail_if_success (with_reducible show wpAny _ _ (exec (Stmt.For _ _ _ _ _) _) _ _ _)); (fail_if_success (with_reducible show wpAny _ _ (exec (Stmt.Assign _ (Expr.ListComp _ _ _ _) _) _) _ _ _)); (fail_if_success (with_reducible show LCt.CompSrcT _ _ _ _ _ _ _ _ _ _ _ _ _ _ _)); (fail_if_success (with_reducible show LCg.CompSrc _ _ _ _ _ _ _ _ _ _ _ _ _ _)); (fail_if_success (with_reducible show wpAny _ _ (eval (Expr.ListComp _ _ _ _) _) _ _ _)); (fail_if_success (with_reducible show SrcTup _ _ _ _ _ _ _ _ _ _ _ _ _ _)); (fail_if_success (with_reducible show SrcSet _ _ _ _ _ _ _ _ _ _ _ _ _ _)); (first | (k_unfold; (try dsimp only)) | (k_end; kc_close) | walk1 | (dsimp only; walk1) | (leave1; (try dsimp only)) | fail "no step")))
    refine LCt.CompSrcT.ledger (its := vs2.toArray) (k := 0) (by rfl) (by k_asm) (by k_asm) (by k_mem) (by rw [List.size_toArray]; exact split_fits hs2 hy) ?_
    intro gb2
    rw [List.size_toArray]
    refine compT_ind vs2.length (fun i ys nw => nw = _ ∧ StrsAre ys (keepC ((Txt.split y (Str.ofString "/")).take i))) ?_ ?_ _ _ ⟨rfl, .nil⟩
    rotate_left
    · rintro k i ys nw e ⟨rfl, hys⟩ IH
      refine LCt.CompRestT.succ (fun v I9 oI9 C oC D m₂ h₁ tk₁ E' hP hoC hm₂ F₁ N₁ off ne => ?_)
      obtain ⟨c, u, hpi', rfl⟩ := strs_at hs2 hP
      have hcl := part_le hpi' hy
      (repeat' ((fail_if_success (with_reducible show wpAny _ _ (exec (Stmt.For _ _ _ _ _) _) _ _ _)); (fail_if_success (with_reducible show wpAny _ _ (exec (Stmt.Assign _ (Expr.ListComp _ _ _ _) _) _) _ _ _)); (fail_if_success (with_reducible show LCt.CompSrcT _ _ _ _ _ _ _ _ _ _ _ _ _ _ _)); (fail_if_success (with_reducible show LCg.CompSrc _ _ _ _ _ _ _ _ _ _ _ _ _ _)); (fail_if_success (with_reducible show wpAny _ _ (eval (Expr.ListComp _ _ _ _) _) _ _ _)); (fail_if_success (with_reducible show SrcTup _ _ _ _ _ _ _ _ _ _ _ _ _ _)); (fail_if_success (with_reducible show SrcSet _ _ _ _ _ _ _ _ _ _ _ _ _ _)); (first | (k_unfold; (try dsimp only)) | (k_end; kc_close) | walk1 | (dsimp only; walk1) | (leave1; (try dsimp only)) | fail "no step")))
      · exact LCg.CompEnd.intro F₁ N₁ _ (fun p hp => hp) off (.inr ⟨_, by k_mem, rfl, _, rfl⟩) (IH _ _ ⟨rfl, keepC_yes hys hpi' (by assumption) (by assumption)⟩)
      · exact LCg.CompEnd.intro F₁ N₁ _ (fun p hp => hp) off (.inr ⟨_, by k_mem, rfl, _, rfl⟩) (IH _ _ ⟨rfl, keepC_no2 hys hpi' (by assumption)⟩)
      · exact LCg.CompEnd.intro F₁ N₁ _ (fun p hp => hp) off (.inr ⟨_, by k_mem, rfl, _, rfl⟩) (IH _ _ ⟨rfl, keepC_no1 hys hpi' (by assumption)⟩)
    rintro ys2 nw ⟨rfl, hys2⟩ Dk2 hk2 tkk2 Fk2 Nk2 ok2
    simp only [LCg.Off1] at ok2
    dsimp only
    rw [take_len hs2] at hys2
    refine LCg.CompEnd.intro Fk2 Nk2 _ mem_rot3 ⟨⟨Ne.symm ok2.1, Ne.symm ok2.2.1, Ne.symm ok2.2.2.1⟩, offa2⟩ (.inr ⟨_, by k_mem, rfl, _, rfl⟩) ?_
    refine LCg.CompRest.zero ?_
    intro Dz hz tkz Fz Nz oz
    simp only [LCg.Off1] at oz
    dsimp only
    obtain ⟨s1, X1, n1, x1, s2, X2, n2, x2, e1, e2, hm1, hm2, hX1, hX2, hsafe, hcp, hin1, hin2, hle1, hle2⟩ := sel_two Nz (a := Dk1) (b := Dk2) (by k_mem) (by k_mem) hys1 hys2
    (repeat' ((fail_if_success (with_reducible show wpAny _ _ (exec (Stmt.For _ _ _ _ _) _) _ _ _)); (fail_if_success (with_reducible show wpAny _ _ (exec (Stmt.Assign _ (Expr.ListComp _ _ _ _) _) _) _ _ _)); (fail_if_success (with_reducible show LCt.CompSrcT _ _ _ _ _ _ _ _ _ _ _ _ _ _ _)); (fail_if_success (with_reducible show LCg.CompSrc _ _ _ _ _ _ _ _ _ _ _ _ _ _)); (fail_if_success (with_reducible show wpAny _ _ (eval (Expr.ListComp _ _ _ _) _) _ _ _)); (fail_if_success (with_reducible show SrcTup _ _ _ _ _ _ _ _ _ _ _ _ _ _)); (fail_if_success (with_reducible show SrcSet _ _ _ _ _ _ _ _ _ _ _ _ _ _)); (first | (k_unfold; (try dsimp only)) | (k_end; kc_close) | walk1 | (dsimp only; walk1) | (leave1; (try dsimp only)) | fail "no step")))
    rename_i hn9 Fn Nn
    have hlen1 : ∀ c ∈ x1, c.length ≤ 500 := fun c hc => (hin1 c hc).elim ((keepC_in hx).1 c) ((keepC_in hy).1 c)
    have hl1 : x1.length ≤ 502 := hle1.elim (fun h => Nat.le_trans h (keepC_in hx).2) (fun h => Nat.le_trans h (keepC_in hy).2)
    have hl2 : x2.length ≤ 502 := hle2.elim (fun h => Nat.le_trans h (keepC_in hx).2) (fun h => Nat.le_trans h (keepC_in hy).2)
    refine For_turns (by k_asm) ?_
    (repeat' ((fail_if_success (with_reducible show wpAny _ _ (exec (Stmt.For _ _ _ _ _) _) _ _ _)); (fail_if_success (with_reducible show wpAny _ _ (exec (Stmt.Assign _ (Expr.ListComp _ _ _ _) _) _) _ _ _)); (fail_if_success (with_reducible show LCt.CompSrcT _ _ _ _ _ _ _ _ _ _ _ _ _ _ _)); (fail_if_success (with_reducible show LCg.CompSrc _ _ _ _ _ _ _ _ _ _ _ _ _ _)); (fail_if_success (with_reducible show wpAny _ _ (eval (Expr.ListComp _ _ _ _) _) _ _ _)); (fail_if_success (with_reducible show SrcTup _ _ _ _ _ _ _ _ _ _ _ _ _ _)); (fail_if_success (with_reducible show SrcSet _ _ _ _ _ _ _ _ _ _ _ _ _ _)); (first | (k_unfold; (try dsimp only)) | (k_end; kc_close) | walk1 | (dsimp only; walk1) | (leave1; (try dsimp only)) | fail "no step")))
    refine ktu_enum (vs := X1) (n := n1) (by rfl) (by k_asm) (by k_asm) hm1 rfl rfl rfl (fun I hI => ?_)
    refine enum_ind (CmI _ s1 s2 x1 x2) ?nil ?cons _ _ _ _ ⟨⟨[], x1, rfl, hX1, rfl, rfl⟩, rfl, rfl, rfl, rfl, rfl⟩
    case nil =>
      rintro i m₁ news₁ ⟨⟨done, rest, hx12, hrest, hdone, hi⟩, rfl, h1, h2, hc, hia⟩
      cases hrest
      refine ItemsRest.zero (fun h₁ tk₁ F₁ N₁ => ?_)
      replace F₁ := frK (x := Str.ofString "common") (v := .ref s1) F₁ hc
      replace F₁ := frK (x := Str.ofString "isabs") (v := .bool true) F₁ hia
      obtain ⟨hj1, hj2⟩ := join_len hlen1 hl1
      (repeat' ((fail_if_success (with_reducible show wpAny _ _ (exec (Stmt.For _ _ _ _ _) _) _ _ _)); (fail_if_success (with_reducible show wpAny _ _ (exec (Stmt.Assign _ (Expr.ListComp _ _ _ _) _) _) _ _ _)); (fail_if_success (with_reducible show LCt.CompSrcT _ _ _ _ _ _ _ _ _ _ _ _ _ _ _)); (fail_if_success (with_reducible show LCg.CompSrc _ _ _ _ _ _ _ _ _ _ _ _ _ _)); (fail_if_success (with_reducible show wpAny _ _ (eval (Expr.ListComp _ _ _ _) _) _ _ _)); (fail_if_success (with_reducible show SrcTup _ _ _ _ _ _ _ _ _ _ _ _ _ _)); (fail_if_success (with_reducible show SrcSet _ _ _ _ _ _ _ _ _ _ _ _ _ _)); (first | (k_unfold; (try dsimp only)) | (k_end; kc_close) | walk1 | (dsimp only; walk1) | (leave1; (try dsimp only)) | fail "no step")))
      exact hret _ _ _ (by k_asm) (cb_drop (by assumption) (by kcj_all)) ⟨_, by rw [← hcp, cpL_all (cm_done hx12 hdone hi)]⟩
    case cons =>
      rintro i v r m₁ news₁ ⟨⟨done, rest, hx12, hrest, hdone, hi⟩, rfl, h1, h2, hc, hia⟩ IH
      cases hrest
      rename_i c tc rest hrest
      refine ItemsRest.pair (fun T t h₁ tk₁ hT F₁ => AllObj.cons fun oI1 hoI1 => AllObj.cons fun oI2 hoI2 => AllObj.nil fun N₁ => ?_)
      refine abs_rest (fun R₁ hR₁ => ?_)
      replace F₁ := frK (x := Str.ofString "common") (v := .ref s1) F₁ hc
      replace F₁ := frK (x := Str.ofString "isabs") (v := .bool true) F₁ hia
      replace F₁ := frK (x := Str.ofString "s1") (v := .ref s1) F₁ h1
      replace F₁ := frK (x := Str.ofString "s2") (v := .ref s2) F₁ h2
      simp only [List.cons_append, List.nil_append] at N₁
      obtain ⟨d, hd⟩ : ∃ d, x2[i]? = some d := cm_item hsafe hx12 hdone hi
      have hXi := hX1.take' i
      obtain ⟨hj1, hj2⟩ := join_len (xs := x1.take i) (fun c hc => hlen1 c (List.mem_of_mem_take hc)) (Nat.le_trans (List.length_take_le' ..) hl1)
      have hz1 : X1.length ≤ sizeLine := by rw [hX1.len_eq]; exact Nat.le_trans hl1 (show 502 ≤ sizeLine by decide)
      (repeat' ((fail_if_success (with_reducible show wpAny _ _ (exec (Stmt.For _ _ _ _ _) _) _ _ _)); (fail_if_success (with_reducible show wpAny _ _ (exec (Stmt.Assign _ (Expr.ListComp _ _ _ _) _) _) _ _ _)); (fail_if_success (with_reducible show LCt.CompSrcT _ _ _ _ _ _ _ _ _ _ _ _ _ _ _)); (fail_if_success (with_reducible show LCg.CompSrc _ _ _ _ _ _ _ _ _ _ _ _ _ _)); (fail_if_success (with_reducible show wpAny _ _ (eval (Expr.ListComp _ _ _ _) _) _ _ _)); (fail_if_success (with_reducible show SrcTup _ _ _ _ _ _ _ _ _ _ _ _ _ _)); (fail_if_success (with_reducible show SrcSet _ _ _ _ _ _ _ _ _ _ _ _ _ _)); (first | (k_unfold; (try dsimp only)) | (k_end; kc_close) | walk1 | (dsimp only; walk1) | (leave1; (try dsimp only)) | fail "no step")))
      · exact hret _ _ _ (by k_asm) (cb_drop (by assumption) (by kcj_all)) ⟨_, by rw [← hcp, cm_break hx12 hdone hi hd (by assumption)]⟩
      · obtain ⟨done', rest', g1, rfl, g2, g3⟩ := cm_next hx12 hdone hi hd (by assumption)
        refine unrW_end (by assumption) (by assumption) _ (fun p hp => hp) (cm_off hI) (hR₁ _ _ ⟨⟨hm1, trivial⟩, IH _ _ ⟨⟨done', _, g1, hrest, g2, g3⟩, rfl, ?_, ?_, ?_, ?_⟩⟩)
        all_goals rfl
end
end Mine
end
section
open PySem PySem.W PyProof.Rows PySem.Spec PySem.Calls
set_option maxRecDepth 100000
set_option linter.unusedVariables false
namespace Mine
noncomputable def rItems : Nat → Nat → List Itm
  | _, 0 => []
  | i, k + 1 => .tok (fun t => .int (i : Int) t) :: rItems (i + 1) k
theorem rItems_len : ∀ k i, (rItems i k).length = k
  | 0, _ => rfl
  | k + 1, i => congrArg (· + 1) (rItems_len k (i + 1))
theorem rItems_get : ∀ k a i, i < k → (rItems a k)[i]? = some (.tok fun t => .int ((a + i : Nat) : Int) t)
  | 0, _, _, h => absurd h (Nat.not_lt_zero _)
  | k + 1, a, 0, _ => rfl
  | k + 1, a, i + 1, h => by
    have q := rItems_get k (a + 1) i (Nat.lt_of_succ_lt_succ h)
    rw [show a + 1 + i = a + (i + 1) by omega] at q
    exact q
theorem range_ind {R : List Itm → (Str → Option Value) → Led → Prop} (n : Nat) (J : Nat → (Str → Option Value) → Led → Prop) (nil : ∀ m news, J n m news → R [] m news)
    (cons : ∀ i k m news, i + (k + 1) = n → J i m news → (∀ m' news', J (i + 1) m' news' → R (rItems (i + 1) k) m' news') → R (.tok (fun t => .int (i : Int) t) :: rItems (i + 1) k) m news) :
    ∀ k i m news, i + k = n → J i m news → R (rItems i k) m news
  | 0, i, m, news, e, h => by
    have e' : i = n := by omega
    subst e'
    exact nil m news h
  | k + 1, i, m, news, e, h => cons i k m news e h fun m' news' h' => range_ind n J nil cons k (i + 1) m' news' (by omega) h'
section
variable {prog : Program} {w : World} {A : Around} {E : Value → Shared → Prop} {s : Shared} {env : Env} {h₀ : Heap} {body : List Stmt} {Q : Flow → Shared → Prop}
theorem iter_rangeTurns {x : Str} {px : Pos} {r : Addr} {n : Nat} {t u v : Tok} {m₀ : Str → Option Value} {news : Led}
    (hh : A.handled = none) (F : Fr h₀ env.locals s.heap m₀) (N : News h₀ env.locals s.heap news) (hr : IsRange s.heap r 0 (n : Int) 1 t u v) (hn : n ≤ 1000)
    (rest₀ : ∀ I : Addr, (∀ p ∈ news, p.1 < I) → ItemsRest prog w A E h₀ env (.Name x px) body Q s [(I, "range_iterator")] [] (rItems 0 n) m₀ news) :
    wpAny (model prog w) A (pyIter (.ref r)) (fun it s₂ => TurnsAt prog w A h₀ env (.Name x px) body Q E it s₂) E s := by
  have hsz : Builtin.Range.rangeSize 0 (n : Int) 1 = (n : Int) := by
    have := rangeSize_nat 0 (n : Int)
    omega
  refine wpAny_pyIter_range hr (small_one (by omega) (by omega) (by omega) (by omega)) ?_
  rw [hsz]
  refine ktu_core (tk0 := s.toks) (keep := []) (KTurns.ofWalks ((Walks.range hh s.heap.objs.size 0 1 n).bound) fun i v s Q E st q => wpAny_pure q) (rItems_len n 0).symm (fun i v h hp => ⟨_, rItems_get n 0 i hp.1, ?_⟩) (fun i h st => ?_) (fun b hb => ?_) (fun b hb => by simpa using hb) (fun b hb => ?_) ?_ (fun p hp hI => ?_) ?_ (F.push _) (fun p hp => ⟨Heap.get?_push_of_some _ (N p hp).1, (N p hp).2⟩) trivial (rest₀ _ fun p hp => Heap.lt_size (N p hp).1)
  · obtain ⟨_, t, e⟩ := hp
    refine ⟨t, ?_⟩
    rw [e]
    congr 1
    omega
  · have st' : h.get? s.heap.objs.size = some _ := st
    exact ⟨[(s.heap.objs.size, _)], ⟨⟨rfl, rfl⟩, trivial⟩, fun p hp => by rw [List.mem_singleton.mp hp]; exact st'⟩
  · have hb' : b = s.heap.objs.size := by simpa using hb
    rw [hb']
    exact ⟨List.mem_cons_self .., next_is_new F⟩
  · have hb' : b = s.heap.objs.size := by simpa using hb
    exact .inl (by simp [hb'])
  · intro hI
    exact absurd F.ns.lt (by have e : env.locals = s.heap.objs.size := by simpa using hI
                             rw [e]; exact Nat.lt_irrefl _)
  · exact absurd (Heap.lt_size (N p hp).1) ((List.mem_singleton.mp hI) ▸ Nat.lt_irrefl _)
  · show (s.heap.push _).get? s.heap.objs.size = some _
    rw [Heap.get?_push_size _ rfl]
    simp [rawInt]
end
section
variable {prog : Program} {w : World} {A : Around} {E : Value → Shared → Prop} {s : Shared} {h₀ : Heap} {L a : Addr} {m : Str → Option Value} {news : Led} {value slice : Expr} {X : List Value} {n i : Nat} {u : Tok} {v : Value} {Q : Value → Shared → Prop}
theorem item_any (N : News h₀ L s.heap news) (hm : (a, lstO X n) ∈ news) (hx : X[i]? = some v) (hfit : X.length ≤ 1000) (h : Q v s)
    (hs : subscripted slice false (.ref a) (.int (i : Int) u) = operate [.ref a, .int (i : Int) u] (getItem (.ref a) (.int (i : Int) u)) := by with_unfolding_all rfl) (hg : ∀ r, letTemporaryGo value (.ref a) r = pure () := by intro _; with_unfolding_all rfl) :
    wpAny (model prog w) A (subscriptTail value slice (.ref a) (.int (i : Int) u)) Q E s := by
  obtain ⟨hlt, e⟩ := List.getElem?_eq_some_iff.mp hx
  have hl : s.heap.IsList a X.toArray := ⟨_, (N _ hm).1, rfl, n, rfl⟩
  refine subscriptTail_builtin hl.typeIs slot_list_getitem.lookup (wpAny_getItem_list hl (by omega) (by omega) ?_ h) hs hg
  rw [show (i : Int).toNat = i by omega, List.getElem?_toArray]
  exact hx
end
theorem okS_lit {x : Str} (h : (x.cps.toList.all fun c => decide (c < 1114112)) = true) : OkS x := fun c hc => of_decide_eq_true (List.all_eq_true.mp h c hc)
theorem item_mod {prog : Program} {w : World} {A : Around} {E : Value → Shared → Prop} {s : Shared} {h₀ : Heap} {L a : Addr} {news : Led} {value slice : Expr} {X : List Value} {n i k : Nat} {u : Tok} {v : Value} {Q : Value → Shared → Prop} (N : News h₀ L s.heap news) (hm : (a, lstO X n) ∈ news) (hx : X[(i + 1) % k]? = some v) (hfit : X.length ≤ 1000) (hk : 0 < k) (h : Q v s)
    (hs : subscripted slice false (.ref a) (.int (((i + 1) % k : Nat) : Int) u) = operate [.ref a, .int (((i + 1) % k : Nat) : Int) u] (getItem (.ref a) (.int (((i + 1) % k : Nat) : Int) u)) := by with_unfolding_all rfl) (hg : ∀ r, letTemporaryGo value (.ref a) r = pure () := by intro _; with_unfolding_all rfl) :
    wpAny (model prog w) A (subscriptTail value slice (.ref a) (.int (Int.fmod ((i : Int) + 1) (k : Int)) u)) Q E s := by
  have e : Int.fmod ((i : Int) + 1) (k : Int) = (((i + 1) % k : Nat) : Int) := by
    rw [Int.fmod_eq_emod_of_nonneg _ (by omega)]
    rfl
  rw [e]
  exact item_any N hm hx hfit h hs hg
theorem word_ok {ts : List Str} (h : ∀ b ∈ ts, GoodN b) : OkS (Txt.join (Str.ofString "-") ts) := by
  show OkS (Builtin.Str.glued _ _)
  rw [StrLaws.glued_eq_join]
  induction ts with
  | nil => exact okS_lit (by decide)
  | cons a r ih =>
    cases r with
    | nil => exact good_ok (h a (.head _))
    | cons b r => exact okS_app (okS_app (good_ok (h a (.head _))) (okS_lit (by decide))) (ih fun x hx => h x (.tail _ hx))
/-- behind `if kind in [2, 3]` -/
inductive TextPost (s₁ : Shared) (h₀ : Heap) (L : Addr) (nw : Led) (ra ga G : Addr) (kind : Int) (t1 : Tok) (cs : Str) (t2 : Tok) (word : Str) (tw : Tok) (f : Flow) (s' : Shared) : Prop
  | mk : f = .next → ∀ (text : Str) (tt : Tok) (h' : Heap) (tk : Nat) (m' : Str → Option Value), s' = { s₁ with heap := h', toks := tk } → Fr h₀ L h' m' → News h₀ L h' nw → OkS text → text.length ≤ 14 → m' (Str.ofString "text") = some (.str text tt) → m' (Str.ofString "rows") = some (.ref ra) → m' (Str.ofString "ranges") = some (.ref ga) →
    m' (Str.ofString "kind") = some (.int kind t1) → m' (Str.ofString "charset") = some (.str cs t2) → m' (Str.ofString "tag") = some (.ref G) → m' (Str.ofString "word") = some (.str word tw) → TextPost s₁ h₀ L nw ra ga G kind t1 cs t2 word tw f s'
theorem TextPost.intro {s₁ : Shared} {h₀ h' : Heap} {L : Addr} {nw : Led} {ra ga G : Addr} {kind : Int} {t1 : Tok} {cs : Str} {t2 : Tok} {word : Str} {tw : Tok} {tk : Nat} {m' : Str → Option Value}
    (F : Fr h₀ L h' m') (N : News h₀ L h' nw) (hq : ∃ text tt, m' (Str.ofString "text") = some (.str text tt) ∧ OkS text ∧ text.length ≤ 14) (q2 : m' (Str.ofString "rows") = some (.ref ra)) (q3 : m' (Str.ofString "ranges") = some (.ref ga))
    (q4 : m' (Str.ofString "kind") = some (.int kind t1)) (q5 : m' (Str.ofString "charset") = some (.str cs t2)) (q6 : m' (Str.ofString "tag") = some (.ref G)) (q7 : m' (Str.ofString "word") = some (.str word tw)) :
    TextPost s₁ h₀ L nw ra ga G kind t1 cs t2 word tw .next { s₁ with heap := h', toks := tk } := by
  obtain ⟨text, tt, q1, h1, h2⟩ := hq
  exact ⟨rfl, text, tt, h', tk, m', rfl, F, N, h1, h2, q1, q2, q3, q4, q5, q6, q7⟩
/-- the state of the law's second loop between two turns -/
inductive L2X (L : Addr) (tailX nw : Led) : Prop
  | mk (oV : Obj) (v : Option Value) : nw = (L + 1 + 1 + 1, oV) :: tailX → oV.data = .cell v → L2X L tailX nw
structure L2 (L ra ga : Addr) (tailX : Led) (m : Str → Option Value) (nw : Led) : Prop where
  ex : L2X L tailX nw
  mr : m (Str.ofString "rows") = some (.ref ra)
  mg : m (Str.ofString "ranges") = some (.ref ga)
end Mine
end
section
open PySem PySem.W PyProof.Rows PySem.Spec PySem.Calls
set_option maxRecDepth 100000
set_option linter.unusedVariables false
namespace Mine
noncomputable def valT (cs word text : Str) : Str := cs ++ Str.ofString "'" ++ word ++ Str.ofString "'" ++ text
theorem str_name (x : Str) : ∃ y, y = x := ⟨x, rfl⟩
theorem news_name {h₀ h : Heap} {L : Addr} {l : Led} (N : News h₀ L h l) : ∃ l', News h₀ L h l' ∧ l' = l := ⟨l, N, rfl⟩
theorem head_le {a : RowD} (ha : RowOk a) : (headT0 a).cps.toList.length ≤ 12 := by
  obtain ⟨j, _, e⟩ := ha.names
  have h1 := csOk_len ha.cs
  have h2 := (word_len (ts := a.names) (by rw [e]; exact take_good ha.tag.2.2 j) (by rw [e]; exact take_le3 ha.tag.2.1 j)).1
  have h3 : (Str.ofString "'").length = 1 := by decide
  rw [Array.length_toList]
  show (headT0 a).length ≤ 12
  unfold headT0
  rw [Str.length_append, Str.length_append, h3]
  omega
theorem toks1_ok {a : RowD} (ha : RowOk a) : (∀ t ∈ toks1 a, t.ok) ∧ (toks1 a).length ≤ 1000 := by
  refine ⟨toks_ok1 _, ?_⟩
  have := head_le ha
  unfold toks1
  rw [List.length_append, List.length_map]
  show _ + 2 ≤ 1000
  omega
theorem toks2_ok {a : RowD} (ha : RowOk a) : (∀ t ∈ toks2 a, t.ok) ∧ (toks2 a).length ≤ 1000 := by
  refine ⟨toks_ok2 _, ?_⟩
  have := head_le ha
  unfold toks2
  rw [List.length_append, List.length_map]
  show _ + 4 ≤ 1000
  omega
/-- the longest of the ranges met so far that the value lies in -/
noncomputable def bestT (cs : Str) (tag : List Str) : List RowD → List Str → List Str
  | [], n => n
  | a :: r, n => bestT cs tag r (if (a.cs = cs ∧ tag.take a.names.length = a.names) ∧ n.length < a.names.length then a.names else n)
theorem bestT_snoc (cs : Str) (tag : List Str) (a : RowD) : ∀ (l : List RowD) (n : List Str), bestT cs tag (l ++ [a]) n = (if (a.cs = cs ∧ tag.take a.names.length = a.names) ∧ (bestT cs tag l n).length < a.names.length then a.names else bestT cs tag l n)
  | [], _ => rfl
  | b :: l, n => bestT_snoc cs tag a l _
theorem bestT_le (cs : Str) (tag : List Str) : ∀ (l : List RowD) (n : List Str), (∀ a ∈ l, a.names.length ≤ 3) → n.length ≤ 3 → (bestT cs tag l n).length ≤ 3
  | [], _, _, h => h
  | a :: l, n, h1, h2 => bestT_le cs tag l _ (fun b hb => h1 b (.tail _ hb)) (by
      split
      · exact h1 a (.head _)
      · exact h2)
theorem names_le {a : RowD} (ha : RowOk a) : a.names.length ≤ 3 := by
  obtain ⟨j, _, e⟩ := ha.names
  rw [e]; exact take_le3 ha.tag.2.1 j
theorem off_K {K : Addr} {o : Obj} {nw : Led} (h : ∀ p ∈ nw, p.1 ≠ K) : ∀ p ∈ nw, ∀ q ∈ [(K, o)], p.1 ≠ q.1 := fun p hp q hq => by
  rw [List.mem_singleton.mp hq]; exact h p hp
/-- the state of the law's inner loop between two turns -/
inductive L3X (tailY : Led) (st : Addr) (rs : List RowD) (cs : Str) (tag : List Str) (r : List Value) (m : Str → Option Value) : Prop
  | mk (dn rest : List RowD) (na : Addr) (nv : List Value) (k : Nat) : rs = dn ++ rest → All2 (RangeAt st tailY) r rest → m (Str.ofString "nearest") = some (.ref na) → (na, lstO nv k) ∈ tailY → StrsAre nv (bestT cs tag dn []) → L3X tailY st rs cs tag r m
structure L3 (tailY : Led) (st ra ga G rP : Addr) (rs : List RowD) (kind : Int) (t1 : Tok) (cs : Str) (t2 : Tok) (tag : List Str) (place : Str) (tpl : Tok) (r : List Value) (m : Str → Option Value) (nw : Led) : Prop where
  ex : L3X tailY st rs cs tag r m
  nw : nw = tailY
  q1 : m (Str.ofString "rows") = some (.ref ra)
  q2 : m (Str.ofString "ranges") = some (.ref ga)
  q3 : m (Str.ofString "kind") = some (.int kind t1)
  q4 : m (Str.ofString "charset") = some (.str cs t2)
  q5 : m (Str.ofString "tag") = some (.ref G)
  q6 : m (Str.ofString "parts") = some (.ref rP)
  q7 : m (Str.ofString "place") = some (.str place tpl)
section
variable {prog : Program} {w : World} {A : Around} {E : Value → Shared → Prop} {s : Shared} {h₀ : Heap} {L a b : Addr} {m : Str → Option Value} {news : Led} {xs ys : List Value} {ns : List Str} {n k : Nat} {Q : Value → Shared → Prop} {value slice : Expr} {t1 t2 u : Tok} {kd : Int}
theorem ne_same_L (N : News h₀ L s.heap news) (ha : (a, lstO xs n) ∈ news) (hb : (b, lstO ys k) ∈ news) (hi : StrsAre xs ns) (hj : StrsAre ys ns) (h1 : ∀ x ∈ ns, OkS x) (hu : A.units + 64 < cLine) (h : Q (.bool false) s) :
    wpAny (model prog w) A (compareOp .NotEq (.ref a) (.ref b)) Q E s :=
  ne_strs_L N ha hb hi hj h1 h1 hu (by rw [decide_eq_true rfl]; exact h)
theorem eq_to_L {ms : List Str} {bo : Bool} (hb : decide (ns = ms) = bo) (N : News h₀ L s.heap news) (ha : (a, lstO xs n) ∈ news) (hb2 : (b, lstO ys k) ∈ news) (hi : StrsAre xs ns) (hj : StrsAre ys ms) (h1 : ∀ x ∈ ns, OkS x) (h2 : ∀ x ∈ ms, OkS x) (hu : A.units + 64 < cLine) (h : Q (.bool bo) s) :
    wpAny (model prog w) A (compareOp .Eq (.ref a) (.ref b)) Q E s := by
  subst hb
  exact eq_strs_L N ha hb2 hi hj h1 h2 hu h
theorem eq_str_to {x y : Str} {bo : Bool} (hb : (x == y) = bo) (h : Q (.bool bo) s) : wpAny (model prog w) A (compareOp .Eq (.str x t1) (.str y t2)) Q E s := by
  subst hb
  exact PyProof.Rows.eq_str h
theorem ne_ints_same {is : List Int} (N : News h₀ L s.heap news) (ha : (a, lstO xs n) ∈ news) (hb : (b, lstO ys k) ∈ news) (hi : IntsAre xs is) (hj : IntsAre ys is) (hu : A.units + 64 < cLine) (h : Q (.bool false) s) :
    wpAny (model prog w) A (compareOp .NotEq (.ref a) (.ref b)) Q E s :=
  ke_ne_ints ⟨_, (N _ ha).1, rfl, n, rfl⟩ ⟨_, (N _ hb).1, rfl, k, rfl⟩ hi hj hu (by rw [decide_eq_true rfl]; exact h)
theorem item_sep (N : News h₀ L s.heap news) (hm : (a, lstO [.str (Str.ofString "'") t1, .str (Str.ofString "-") t2] n) ∈ news) (h4 : 3 < kd) (h6 : kd < 6) (h : ∀ sep t', (sep = Str.ofString "'" ∨ sep = Str.ofString "-") → Q (.str sep t') s)
    (hs : subscripted slice false (.ref a) (.int (kd - 4) u) = operate [.ref a, .int (kd - 4) u] (getItem (.ref a) (.int (kd - 4) u)) := by with_unfolding_all rfl) :
    wpAny (model prog w) A (subscriptTail value slice (.ref a) (.int (kd - 4) u)) Q E s := by
  refine kba_turn (value' := Expr.Name (Str.ofString "x") ⟨0, 0, 0, 0⟩) (fun _ => rfl) ?_
  refine item_S N hm rfl ⟨by omega, by show kd - 4 < 2; omega⟩ (by decide) (fun t' => h _ t' ?_) hs (fun _ => rfl)
  have hk : (kd - 4).toNat = 0 ∨ (kd - 4).toNat = 1 := by omega
  rcases hk with e | e <;> rw [e]
  · exact .inl rfl
  · exact .inr rfl
end
end Mine
end
section
open PySem PySem.W PyProof.Rows PySem.Spec PySem.Calls
set_option maxRecDepth 100000
set_option linter.unusedVariables false
namespace Mine
theorem free_cut {c : Nat} : ∀ {a b r s : List Nat}, c ∉ a → c ∉ b → a ++ c :: r = b ++ c :: s → a = b ∧ r = s
  | [], [], r, s, _, _, h => ⟨rfl, by injection h⟩
  | [], y :: b, r, s, _, h2, h => by injection h with h3 _; exact absurd (h3 ▸ List.mem_cons_self ..) h2
  | x :: a, [], r, s, h1, _, h => by injection h with h3 _; exact absurd (h3 ▸ List.mem_cons_self ..) h1
  | x :: a, y :: b, r, s, h1, h2, h => by
    injection h with h3 h4
    obtain ⟨e1, e2⟩ := free_cut (fun k => h1 (.tail _ k)) (fun k => h2 (.tail _ k)) h4
    exact ⟨by rw [h3, e1], e2⟩
theorem str_list {x y : Str} (h : x.cps.toList = y.cps.toList) : x = y := Str.ext' (Array.toList_inj.mp h)
theorem join_cons_list (c : Nat) (x y : Str) (r : List Str) : (Str.join ⟨#[c]⟩ (x :: y :: r)).cps.toList = x.cps.toList ++ c :: (Str.join ⟨#[c]⟩ (y :: r)).cps.toList := by
  show (x.cps ++ #[c] ++ (Str.join ⟨#[c]⟩ (y :: r)).cps).toList = _
  simp
theorem join_inj {c : Nat} {xs ys : List Str} (h0 : xs ≠ []) (g0 : ys ≠ []) (h1 : ∀ x ∈ xs, c ∉ x.cps.toList) (h2 : ∀ y ∈ ys, c ∉ y.cps.toList) (h : (Str.join ⟨#[c]⟩ xs).cps.toList = (Str.join ⟨#[c]⟩ ys).cps.toList) : xs = ys := by
  induction xs generalizing ys with
  | nil => exact absurd rfl h0
  | cons x xs ih =>
    cases ys with
    | nil => exact absurd rfl g0
    | cons y ys =>
      cases xs with
      | nil =>
        cases ys with
        | nil => rw [show x = y from str_list h]
        | cons z r =>
          rw [join_cons_list] at h
          exact absurd (show c ∈ x.cps.toList from (show x.cps.toList = _ from h) ▸ List.mem_append_right _ (List.mem_cons_self ..)) (h1 x (.head _))
      | cons a r =>
        cases ys with
        | nil =>
          rw [join_cons_list] at h
          exact absurd (show c ∈ y.cps.toList from (show _ = y.cps.toList from h) ▸ List.mem_append_right _ (List.mem_cons_self ..)) (h2 y (.head _))
        | cons b q =>
          rw [join_cons_list, join_cons_list] at h
          obtain ⟨e1, e2⟩ := free_cut (h1 x (.head _)) (h2 y (.head _)) h
          rw [str_list e1, ih (List.cons_ne_nil a r) (List.cons_ne_nil b q) (fun z hz => h1 z (.tail _ hz)) (fun z hz => h2 z (.tail _ hz)) e2]
theorem split_ne (x : Str) (c : Nat) : Txt.split x ⟨#[c]⟩ ≠ [] := by
  unfold Txt.split
  split
  · simp
  · split
    · simp
    · rw [StrLaws.partsBetween_eq]
      obtain ⟨p, r, e⟩ := StrLaws.partsFrom_ne x (⟨#[c]⟩ : Str).length 0 (Builtin.Str.occurrences x ⟨#[c]⟩ 0 x.length (x.length + 1))
      rw [e]; simp
theorem split_join {c : Nat} {xs : List Str} (h0 : xs ≠ []) (h1 : ∀ x ∈ xs, c ∉ x.cps.toList) : Txt.split (Str.join ⟨#[c]⟩ xs) ⟨#[c]⟩ = xs :=
  join_inj (split_ne _ c) h0 (StrLaws.split_free _ c) h1 (by rw [StrLaws.join_split])
theorem join_txt (sep : Str) (xs : List Str) : Txt.join sep xs = Str.join sep xs := StrLaws.glued_eq_join sep xs
theorem good_free {b : Str} (h : GoodN b) : 39 ∉ b.cps.toList ∧ 45 ∉ b.cps.toList ∧ 46 ∉ b.cps.toList ∧ 47 ∉ b.cps.toList :=
  ⟨fun k => (h.2.2 _ k).1 rfl, fun k => (h.2.2 _ k).2.1 rfl, fun k => (h.2.2 _ k).2.2.1 rfl, fun k => (h.2.2 _ k).2.2.2.1 rfl⟩
theorem tag_ne {tag : List Str} (ht : TagsOk tag) : tag ≠ [] := fun h => by have := ht.1; rw [h] at this; simp at this
theorem dash_eq : Str.ofString "-" = ⟨#[45]⟩ := by decide +kernel
theorem apo_eq : Str.ofString "'" = ⟨#[39]⟩ := by decide +kernel
theorem slash_eq : Str.ofString "/" = ⟨#[47]⟩ := by decide +kernel
theorem pl_split3' {tag : List Str} (ht : TagsOk tag) : Txt.split (Txt.join (Str.ofString "-") tag) (Str.ofString "-") = tag := by
  rw [join_txt, dash_eq]
  exact split_join (tag_ne ht) fun x hx => (good_free (ht.2.2 x hx)).2.1
end Mine
end
section
open PySem PySem.W PyProof.Rows PySem.Spec PySem.Calls PySem.Builtin PySem.Builtin.Str
set_option maxRecDepth 100000
set_option linter.unusedVariables false
namespace Mine
theorem occ_full (s sub : Str) (hi limit : Nat) : ∀ (l : List Nat) (st : Array Nat × Nat), limit ≤ st.fst.size → (forIn l st (StrLaws.occBody s sub hi limit)).run = st
  | [], st, _ => rfl
  | a :: l, st, h => by
    rw [List.forIn_cons]
    unfold StrLaws.occBody
    split
    · rename_i hc
      have := hc.1.1.1
      omega
    · exact occ_full s sub hi limit l st h
theorem occ_keeps (s sub : Str) (hi limit : Nat) : ∀ (l : List Nat) (st : Array Nat × Nat), ∃ q, (forIn l st (StrLaws.occBody s sub hi limit)).run.fst.toList = st.fst.toList ++ q
  | [], st => ⟨[], (List.append_nil _).symm⟩
  | a :: l, st => by
    rw [List.forIn_cons]
    unfold StrLaws.occBody
    split
    · obtain ⟨q, e⟩ := occ_keeps s sub hi limit l (st.fst.push a, a + sub.length)
      refine ⟨a :: q, ?_⟩
      refine Eq.trans e ?_
      rw [Array.toList_push, List.append_assoc]; rfl
    · exact occ_keeps s sub hi limit l st
theorem occ_take (s sub : Str) (hi big k : Nat) (hk : k ≤ big) : ∀ (l : List Nat) (st : Array Nat × Nat), st.fst.size ≤ k →
    (forIn l st (StrLaws.occBody s sub hi k)).run.fst.toList = (forIn l st (StrLaws.occBody s sub hi big)).run.fst.toList.take k
  | [], st, h => (List.take_of_length_le (by simpa using h)).symm
  | a :: l, st, h => by
    by_cases hf : st.fst.size = k
    · rw [occ_full s sub hi k (a :: l) st (by omega)]
      obtain ⟨q, e⟩ := occ_keeps s sub hi big (a :: l) st
      rw [e, List.take_append_of_le_length (by simp; omega), List.take_of_length_le (by simp; omega)]
    · rw [List.forIn_cons, List.forIn_cons]
      unfold StrLaws.occBody
      by_cases hc : ((st.fst.size < k ∧ st.snd ≤ a) ∧ a + sub.length ≤ hi) ∧ subAt s sub a = true
      · have hc2 : ((st.fst.size < big ∧ st.snd ≤ a) ∧ a + sub.length ≤ hi) ∧ subAt s sub a = true := ⟨⟨⟨by have := hc.1.1.1; omega, hc.1.1.2⟩, hc.1.2⟩, hc.2⟩
        rw [if_pos hc, if_pos hc2]
        exact occ_take s sub hi big k hk l (st.fst.push a, a + sub.length) (by rw [Array.size_push]; omega)
      · have hc2 : ¬ (((st.fst.size < big ∧ st.snd ≤ a) ∧ a + sub.length ≤ hi) ∧ subAt s sub a = true) := fun h2 => hc ⟨⟨⟨by omega, h2.1.1.2⟩, h2.1.2⟩, h2.2⟩
        rw [if_neg hc, if_neg hc2]
        exact occ_take s sub hi big k hk l st h
theorem occ_two (x y : Str) (k : Nat) (hk : k ≤ x.length + 1) : occurrences x y 0 x.length k = (occurrences x y 0 x.length (x.length + 1)).take k := by
  rw [StrLaws.occ_eq, StrLaws.occ_eq]
  exact occ_take x y x.length (x.length + 1) k hk _ _ (by simp)
theorem splitMax_two {x : Str} {c : Nat} {p1 p2 q : Str} {r : List Str} (h : Txt.split x ⟨#[c]⟩ = p1 :: p2 :: q :: r) : Txt.splitMax x ⟨#[c]⟩ 2 = [p1, p2, Str.join ⟨#[c]⟩ (q :: r)] := by
  unfold Txt.split at h
  unfold Txt.splitMax
  split at h
  · cases h
  · rename_i hn
    rw [if_neg hn]
    split at h
    · cases h
    · rename_i he
      obtain ⟨f, hch⟩ := StrLaws.occ_chain x ⟨#[c]⟩ (x.length + 1)
      have hl : limitOf x 2 = 2 := rfl
      have hlen : 1 ≤ x.length := by
        have : ¬ (x.length < (⟨#[c]⟩ : Str).length) := fun k => hn (by rw [Bool.or_eq_true, decide_eq_true_eq]; exact .inl k)
        exact Nat.le_of_not_lt this
      rw [hl, occ_two x ⟨#[c]⟩ 2 (by omega)]
      rw [StrLaws.partsBetween_eq] at h
      generalize occurrences x ⟨#[c]⟩ 0 x.length (x.length + 1) = cuts at h hch
      cases cuts with
      | nil => cases h
      | cons a cuts =>
        cases cuts with
        | nil => cases h
        | cons b cuts =>
          have hj := StrLaws.join_partsFrom x ⟨#[c]⟩ cuts (b + (⟨#[c]⟩ : Str).length) f hch.2.2.2.2
          injection h with h1 h
          injection h with h2 h
          rw [if_neg (by simp)]
          rw [StrLaws.partsBetween_eq]
          rw [h] at hj
          rw [hj, ← h1, ← h2]
          rfl
theorem splitMax_small {x : Str} {c : Nat} (h : (Txt.split x ⟨#[c]⟩).length ≤ 2) : (Txt.splitMax x ⟨#[c]⟩ 2).length ≤ 2 := by
  unfold Txt.split at h
  unfold Txt.splitMax
  split at h
  · rename_i hn
    rw [if_pos hn]; exact Nat.le_succ 1
  · rename_i hn
    rw [if_neg hn]
    have hlen : 1 ≤ x.length := by
      have : ¬ (x.length < (⟨#[c]⟩ : Str).length) := fun k => hn (by rw [Bool.or_eq_true, decide_eq_true_eq]; exact .inl k)
      exact Nat.le_of_not_lt this
    have hl : limitOf x 2 = 2 := rfl
    rw [hl, occ_two x ⟨#[c]⟩ 2 (by omega)]
    split at h
    · rename_i he
      rw [if_pos (by rw [List.isEmpty_iff.mp he]; rfl)]; exact Nat.le_succ 1
    · split
      · exact Nat.le_succ 1
      · rw [len_partsBetween] at h ⊢
        rw [List.length_take]
        omega
theorem cs_free {cs : Str} (h : CsOk cs) : 39 ∉ cs.cps.toList ∧ 47 ∉ cs.cps.toList := by
  rcases h with rfl | rfl <;> constructor <;> decide +kernel
theorem free_app {c : Nat} {x y : Str} (h1 : c ∉ x.cps.toList) (h2 : c ∉ y.cps.toList) : c ∉ (x ++ y).cps.toList := by
  show c ∉ (x.cps ++ y.cps).toList
  rw [Array.toList_append, List.mem_append]
  exact fun h => h.elim h1 h2
theorem word_free {c : Nat} (hc : c ≠ 45) : ∀ {ts : List Str}, (∀ b ∈ ts, c ∉ b.cps.toList) → c ∉ (Str.join ⟨#[45]⟩ ts).cps.toList
  | [], _ => by simp [Str.join, Str.empty]
  | [x], h => h x (.head _)
  | x :: y :: r, h => by
    rw [join_cons_list]
    intro k
    rcases List.mem_append.mp k with k | k
    · exact h x (.head _) k
    · rcases List.mem_cons.mp k with k | k
      · exact hc k
      · exact word_free hc (fun b hb => h b (.tail _ hb)) k
theorem pl_split1' {cs : Str} {tag : List Str} (text : Str) (hcs : CsOk cs) (ht : ∀ b ∈ tag, GoodN b) : Txt.splitMax (cs ++ Str.ofString "'" ++ Txt.join (Str.ofString "-") tag ++ Str.ofString "'" ++ text) (Str.ofString "'") 2 = [cs, Txt.join (Str.ofString "-") tag, text] := by
  rw [join_txt, dash_eq, apo_eq]
  have hw := word_free (c := 39) (by decide) (ts := tag) fun b hb => (good_free (ht b hb)).1
  obtain ⟨q, r, hr⟩ : ∃ q r, Txt.split text ⟨#[39]⟩ = q :: r := by
    cases h : Txt.split text ⟨#[39]⟩ with
    | nil => exact absurd h (split_ne _ _)
    | cons q r => exact ⟨q, r, rfl⟩
  have hj := StrLaws.join_split text ⟨#[39]⟩
  rw [hr] at hj
  have hs : cs ++ ⟨#[39]⟩ ++ Str.join ⟨#[45]⟩ tag ++ ⟨#[39]⟩ ++ text = Str.join ⟨#[39]⟩ (cs :: Str.join ⟨#[45]⟩ tag :: q :: r) := by
    apply str_list
    rw [join_cons_list, join_cons_list, hj]
    show (cs.cps ++ #[39] ++ (Str.join ⟨#[45]⟩ tag).cps ++ #[39] ++ text.cps).toList = _
    simp
  have hsp := split_join (c := 39) (xs := cs :: Str.join ⟨#[45]⟩ tag :: q :: r) (by simp) fun x hx => by
    rcases List.mem_cons.mp hx with rfl | hx
    · exact (cs_free hcs).1
    · rcases List.mem_cons.mp hx with rfl | hx
      · exact hw
      · exact StrLaws.split_free text 39 x (hr ▸ hx)
  rw [← hs] at hsp
  rw [splitMax_two hsp, hj]
theorem pl_split2' {cs sep : Str} {tag : List Str} (hcs : CsOk cs) (ht : ∀ b ∈ tag, GoodN b) (hs : sep = Str.ofString "'" ∨ sep = Str.ofString "-") : (Txt.splitMax (cs ++ sep ++ Txt.join (Str.ofString "-") tag) (Str.ofString "'") 2).length ≤ 2 := by
  rw [join_txt, dash_eq, apo_eq] at *
  have hw := word_free (c := 39) (by decide) (ts := tag) fun b hb => (good_free (ht b hb)).1
  apply splitMax_small
  rcases hs with rfl | rfl
  · have hs : cs ++ ⟨#[39]⟩ ++ Str.join ⟨#[45]⟩ tag = Str.join ⟨#[39]⟩ [cs, Str.join ⟨#[45]⟩ tag] := rfl
    rw [hs, split_join (by simp) fun x hx => by
      rcases List.mem_cons.mp hx with rfl | hx
      · exact (cs_free hcs).1
      · rw [List.mem_singleton.mp hx]; exact hw]
    exact Nat.le_refl _
  · have hs : cs ++ ⟨#[45]⟩ ++ Str.join ⟨#[45]⟩ tag = Str.join ⟨#[39]⟩ [cs ++ ⟨#[45]⟩ ++ Str.join ⟨#[45]⟩ tag] := rfl
    rw [hs, split_join (by simp) fun x hx => by
      rw [List.mem_singleton.mp hx]
      exact free_app (free_app (cs_free hcs).1 (by simp)) hw]
    exact Nat.le_succ _
end Mine
end
section
open PySem PySem.W PyProof.Rows PySem.Spec PySem.Calls PySem.Builtin PySem.Builtin.Str
set_option maxRecDepth 100000
set_option linter.unusedVariables false
namespace Mine
theorem ends_iff (x : Str) (c : Nat) : Txt.endswith x ⟨#[c]⟩ = true ↔ x.cps.toList[x.length - 1]? = some c := by
  unfold Txt.endswith
  rw [Bool.and_eq_true, decide_eq_true_eq, ← StrLaws.subAt_one x c (x.length - 1)]
  show (0 + 1 ≤ x.length ∧ subAt x ⟨#[c]⟩ (x.length - 1) = true) ↔ (x.length - 1 + 1 ≤ x.length ∧ _)
  constructor
  · exact fun h => ⟨by omega, h.2⟩
  · rintro ⟨h1, h2⟩
    refine ⟨?_, h2⟩
    omega
theorem starts_iff (x : Str) (c : Nat) : Txt.startswith x ⟨#[c]⟩ = true ↔ x.cps.toList[0]? = some c := by
  unfold Txt.startswith
  rw [Bool.and_eq_true, decide_eq_true_eq, ← StrLaws.subAt_one x c 0]
theorem good_names' {ns : List Str} (h : ∀ b ∈ ns, GoodN b) : ∀ b ∈ ns, Txt.startswith b (Str.ofString "/") = false ∧ b.length ≤ 100 := by
  intro b hb
  refine ⟨?_, Nat.le_trans (h b hb).2.1 (by decide)⟩
  rw [slash_eq, Bool.eq_false_iff, Ne, starts_iff]
  exact fun e => (good_free (h b hb)).2.2.2 (List.mem_of_getElem? e)
theorem ends_app {x b : Str} (h0 : 0 < b.length) (h : 47 ∉ b.cps.toList) : Txt.endswith (x ++ b) ⟨#[47]⟩ = false := by
  rw [Bool.eq_false_iff, Ne, ends_iff]
  intro e
  have hb : b.cps.toList.length = b.length := Array.length_toList
  have hx : x.cps.toList.length = x.length := Array.length_toList
  rw [Str.length_append] at e
  have e2 : (x.cps.toList ++ b.cps.toList)[x.length + b.length - 1]? = some 47 := by
    have : (x ++ b).cps.toList = x.cps.toList ++ b.cps.toList := Array.toList_append
    rw [← this]; exact e
  rw [List.getElem?_append_right (by omega)] at e2
  exact h (List.mem_of_getElem? e2)
theorem fold_join : ∀ (ns : List Str) (p : Str), Txt.endswith p ⟨#[47]⟩ = false → (∀ b ∈ ns, GoodN b) → ns.foldl joinStep p = Str.join ⟨#[47]⟩ (p :: ns)
  | [], p, _, _ => rfl
  | b :: r, p, hp, h => by
    have hb := h b (.head _)
    have e : joinStep p b = p ++ (⟨#[47]⟩ ++ b) := by
      unfold joinStep
      rw [slash_eq, if_neg (by rw [hp]; exact Bool.false_ne_true)]
    show r.foldl joinStep (joinStep p b) = _
    rw [e, fold_join r (p ++ (⟨#[47]⟩ ++ b)) (by rw [← Str.append_assoc]; exact ends_app hb.1 (good_free hb).2.2.2) fun x hx => h x (.tail _ hx)]
    rw [← Str.append_assoc]
    exact StrLaws.join_shift _ _ _ _
theorem goal_eq {ns : List Str} (h : ∀ b ∈ ns, GoodN b) : goalT ns = ⟨#[47]⟩ ++ Str.join ⟨#[47]⟩ ns := by
  cases ns with
  | nil => unfold goalT; rw [slash_eq]; rfl
  | cons b r =>
    have hb := h b (.head _)
    have e : joinStep ⟨#[47]⟩ b = ⟨#[47]⟩ ++ b := by
      unfold joinStep
      rw [slash_eq, if_pos (by decide +kernel)]
    show r.foldl joinStep (joinStep (Str.ofString "/") b) = _
    rw [slash_eq, e, fold_join r _ (ends_app hb.1 (good_free hb).2.2.2) fun x hx => h x (.tail _ hx)]
    cases r with
    | nil => rfl
    | cons y r => 
      show ⟨#[47]⟩ ++ b ++ ⟨#[47]⟩ ++ Str.join ⟨#[47]⟩ (y :: r) = ⟨#[47]⟩ ++ (b ++ ⟨#[47]⟩ ++ Str.join ⟨#[47]⟩ (y :: r))
      simp only [Str.append_assoc]
theorem keep_good : ∀ {ns : List Str}, (∀ b ∈ ns, GoodN b) → keepC ns = ns
  | [], _ => rfl
  | b :: r, h => by
    have hb := h b (.head _)
    have ih := keep_good (ns := r) fun x hx => h x (.tail _ hx)
    unfold keepC at ih ⊢
    rw [List.filter_cons, if_pos, ih]
    rw [Bool.and_eq_true, decide_eq_true_eq, bne_iff_ne]
    refine ⟨by have := hb.1; omega, fun e => ?_⟩
    exact (good_free hb).2.2.1 (by rw [e]; decide +kernel)
theorem keep_split {ns : List Str} (h : ∀ b ∈ ns, GoodN b) : keepC (Txt.split (goalT ns) (Str.ofString "/")) = ns := by
  rw [goal_eq h, slash_eq]
  cases ns with
  | nil => decide +kernel
  | cons b r =>
    have e : (⟨#[47]⟩ : Str) ++ Str.join ⟨#[47]⟩ (b :: r) = Str.join ⟨#[47]⟩ (⟨#[]⟩ :: b :: r) := by
      apply str_list
      rw [join_cons_list]
      show (#[47] ++ (Str.join ⟨#[47]⟩ (b :: r)).cps).toList = _
      simp
    rw [e, split_join (by simp) fun x hx => by
      rcases List.mem_cons.mp hx with rfl | hx
      · simp
      · exact (good_free (h x hx)).2.2.2]
    exact keep_good h
theorem goal_inj {xs ys : List Str} (h1 : ∀ b ∈ xs, GoodN b) (h2 : ∀ b ∈ ys, GoodN b) (e : goalT xs = goalT ys) : xs = ys := by
  rw [← keep_split h1, ← keep_split h2, e]
theorem cpL_mem : ∀ {xs ys : List Str} {b : Str}, b ∈ cpL xs ys → b ∈ xs
  | [], _, b, h => by cases h
  | x :: xs, [], b, h => by cases h
  | x :: xs, y :: ys, b, h => by
    have h' : b ∈ (if x == y then x :: cpL xs ys else []) := h
    split at h'
    · rcases List.mem_cons.mp h' with rfl | h'
      · exact .head _
      · exact .tail _ (cpL_mem h')
    · cases h'
theorem cpL_is : ∀ (xs ys : List Str), cpL xs ys = xs ↔ ys.take xs.length = xs
  | [], ys => by simp [cpL]
  | x :: xs, [] => by simp [cpL]
  | x :: xs, y :: ys => by
    show (if x == y then x :: cpL xs ys else []) = x :: xs ↔ (y :: ys).take (xs.length + 1) = x :: xs
    rw [List.take_succ_cons, List.cons.injEq]
    by_cases e : x = y
    · subst e
      rw [if_pos (beq_self_eq_true x), List.cons.injEq, cpL_is xs ys]
    · rw [if_neg (by simpa using e)]
      exact ⟨fun h => (by cases h), fun h => absurd h.1.symm e⟩
theorem pl_common' {ns ts : List Str} (h1 : ∀ b ∈ ns, GoodN b) (h2 : ∀ b ∈ ts, GoodN b) : ((Str.ofString "/" ++ Txt.join (Str.ofString "/") (cpL (keepC (Txt.split (goalT ns) (Str.ofString "/"))) (keepC (Txt.split (goalT ts) (Str.ofString "/"))))) == goalT ns) = decide (ts.take ns.length = ns) := by
  rw [keep_split h1, keep_split h2, join_txt, slash_eq, ← goal_eq fun b hb => h1 b (cpL_mem hb)]
  by_cases e : ts.take ns.length = ns
  · rw [decide_eq_true e, (cpL_is ns ts).mpr e]
    exact beq_self_eq_true _
  · rw [decide_eq_false e, beq_eq_false_iff_ne]
    exact fun k => e ((cpL_is ns ts).mp (goal_inj (fun b hb => h1 b (cpL_mem hb)) h1 k))
theorem pl_goal' {ns : List Str} (h1 : ∀ b ∈ ns, GoodN b) (h2 : ns.length ≤ 3) : (goalT ns).length ≤ 500 ∧ Txt.startswith (goalT ns) (Str.ofString "/") = true ∧ OkS (goalT ns) := by
  rw [goal_eq h1]
  refine ⟨?_, ?_, ?_⟩
  · have a := sum_map_le 2 ns (fun y hy => (h1 y hy).2.1)
    have b := StrLaws.join_length_le ⟨#[47]⟩ ns
    have c : (⟨#[47]⟩ : Str).length = 1 := rfl
    rw [Str.length_append, c]
    rw [c] at b
    omega
  · rw [slash_eq, starts_iff]
    show (#[47] ++ (Str.join ⟨#[47]⟩ ns).cps).toList[0]? = some 47
    rw [Array.toList_append]; rfl
  · refine okS_app (okS_lit (by decide)) ?_
    clear h2
    induction ns with
    | nil => exact okS_lit (by decide)
    | cons a r ih =>
      cases r with
      | nil => exact good_ok (h1 a (.head _))
      | cons b r => exact okS_app (okS_app (good_ok (h1 a (.head _))) (okS_lit (by decide))) (ih fun x hx => h1 x (.tail _ hx))
end Mine
end
section
open PySem PySem.W PyProof.Rows PySem.Spec PySem.Calls PySem.Builtin PySem.Builtin.Str
set_option maxRecDepth 100000
set_option linter.unusedVariables false
namespace Mine
theorem step_nil (x : List Nat) (t : PTok) : stepP x [] t = [] := by cases t <;> rfl
theorem fold_nil (x : List Nat) : ∀ ts : List PTok, ts.foldl (stepP x) [] = []
  | [] => rfl
  | t :: ts => by rw [List.foldl_cons, step_nil, fold_nil x ts]
theorem step_one (x : List Nat) (p c : Nat) : stepP x [p] (barTok c) = if x[p]? = some c then [p + 1] else [] := by
  have h : ∀ t : PTok, t = .bar c ∨ t = .lit c → stepP x [p] t = if x[p]? = some c then [p + 1] else [] := by
    rintro t (rfl | rfl) <;>
    · show (List.filter (fun q => x[q]? == some c) [p]).map (· + 1) = _
      by_cases e : x[p]? = some c
      · rw [if_pos e]; simp [e]
      · rw [if_neg e]; simp [e]
  apply h
  unfold barTok
  split
  · exact .inl rfl
  · exact .inr rfl
theorem fold_pref (x : List Nat) : ∀ (l : List Nat) (p : Nat), (∃ r, x.drop p = l ++ r) ∧ (l.map barTok).foldl (stepP x) [p] = [p + l.length] ∨ (¬ ∃ r, x.drop p = l ++ r) ∧ (l.map barTok).foldl (stepP x) [p] = []
  | [], p => .inl ⟨⟨_, rfl⟩, rfl⟩
  | c :: l, p => by
    rw [List.map_cons, List.foldl_cons, step_one]
    by_cases e : x[p]? = some c
    · rw [if_pos e]
      have hd : x.drop p = c :: x.drop (p + 1) := by
        obtain ⟨hlt, hx⟩ := List.getElem?_eq_some_iff.mp e
        rw [List.drop_eq_getElem_cons hlt, hx]
      rcases fold_pref x l (p + 1) with ⟨⟨r, h1⟩, h2⟩ | ⟨h1, h2⟩
      · refine .inl ⟨⟨r, by rw [hd, h1]; rfl⟩, ?_⟩
        rw [h2, List.length_cons]; congr 1; omega
      · refine .inr ⟨fun ⟨r, h⟩ => h1 ⟨r, ?_⟩, h2⟩
        rw [hd] at h
        injection h
    · rw [if_neg e]
      refine .inr ⟨fun ⟨r, h⟩ => e ?_, fold_nil x _⟩
      have : (x.drop p)[0]? = some c := by rw [h]; rfl
      rwa [List.getElem?_drop, Nat.add_zero] at this
theorem star_has {x : List Nat} {p : Nat} {ps : List Nat} (h : p ≤ x.length) : (stepP x (p :: ps) .star).contains x.length = true := by
  rw [List.contains_iff_mem]
  show x.length ∈ (List.range (x.length + 1 - p)).map (p + ·)
  rw [List.mem_map]
  exact ⟨x.length - p, List.mem_range.mpr (by omega), by omega⟩
theorem takes_one {x l : List Nat} : takesB ((l ++ [39]).map barTok ++ [.star]) x = true ↔ ∃ r, x = l ++ 39 :: r := by
  unfold takesB
  rw [List.foldl_append]
  rcases fold_pref x (l ++ [39]) 0 with ⟨⟨r, h1⟩, h2⟩ | ⟨h1, h2⟩
  · rw [h2]
    have hx : x = l ++ 39 :: r := by simpa using h1
    refine ⟨fun _ => ⟨r, hx⟩, fun _ => ?_⟩
    exact star_has (ps := []) (by rw [hx]; simp)
  · rw [h2]
    refine ⟨fun k => (by cases k), fun ⟨r, h⟩ => absurd ⟨r, by rw [h]; simp⟩ h1⟩
theorem takes_two {x l : List Nat} : takesB ((l ++ [45]).map barTok ++ [.star, .lit 39, .star]) x = true ↔ ∃ r, x = l ++ 45 :: r ∧ 39 ∈ r := by
  unfold takesB
  rw [List.foldl_append]
  rcases fold_pref x (l ++ [45]) 0 with ⟨⟨r, h1⟩, h2⟩ | ⟨h1, h2⟩
  · rw [h2]
    have hx : x = l ++ 45 :: r := by simpa using h1
    have hn : 0 + (l ++ [45]).length = l.length + 1 := by simp
    rw [hn]
    have hd : x.length = l.length + 1 + r.length := by rw [hx]; simp; omega
    have hget : ∀ j, x[l.length + 1 + j]? = r[j]? := fun j => by
      rw [hx, List.getElem?_append_right (by omega), show l.length + 1 + j - l.length = j + 1 by omega, List.getElem?_cons_succ]
    rw [List.foldl_cons, List.foldl_cons, List.foldl_cons, List.foldl_nil]
    have hs2 : ∀ p, p ∈ stepP x (stepP x [l.length + 1] .star) (.lit 39) ↔ ∃ j, r[j]? = some 39 ∧ p = l.length + 1 + j + 1 := by
      intro p
      show p ∈ (((List.range (x.length + 1 - (l.length + 1))).map (l.length + 1 + ·)).filter fun p => x[p]? == some 39).map (· + 1) ↔ _
      rw [List.mem_map]
      constructor
      · rintro ⟨q, hq, rfl⟩
        obtain ⟨hq1, hq2⟩ := List.mem_filter.mp hq
        obtain ⟨j, hj, rfl⟩ := List.mem_map.mp hq1
        exact ⟨j, by rw [← hget]; exact eq_of_beq hq2, rfl⟩
      · rintro ⟨j, hj, rfl⟩
        have hlt := (List.getElem?_eq_some_iff.mp hj).1
        exact ⟨_, List.mem_filter.mpr ⟨List.mem_map.mpr ⟨j, List.mem_range.mpr (by omega), rfl⟩, by rw [hget, hj]; rfl⟩, rfl⟩
    generalize hg : stepP x (stepP x [l.length + 1] .star) (.lit 39) = s2 at hs2
    cases s2 with
    | nil =>
      refine ⟨fun k => (by cases k), fun ⟨r', e, hm⟩ => ?_⟩
      have er : r' = r := by
        have := hx.symm.trans e
        simpa using this.symm
      subst er
      obtain ⟨j, hj⟩ := List.getElem?_of_mem hm
      exact absurd ((hs2 _).mpr ⟨j, hj, rfl⟩) (by simp)
    | cons p ps =>
      obtain ⟨j, hj, e⟩ := (hs2 p).mp (.head _)
      have hlt := (List.getElem?_eq_some_iff.mp hj).1
      exact ⟨fun _ => ⟨r, hx, List.mem_of_getElem? hj⟩, fun _ => star_has (by omega)⟩
  · rw [h2, fold_nil]
    refine ⟨fun k => (by cases k), fun ⟨r, h, _⟩ => absurd ⟨r, by rw [h]; simp⟩ h1⟩
theorem toks1_eq (a : RowD) : toks1 a = ((headT0 a).cps.toList ++ [39]).map barTok ++ [.star] := by
  unfold toks1
  rw [List.map_append, List.append_assoc]
  rfl
theorem toks2_eq (a : RowD) : toks2 a = ((headT0 a).cps.toList ++ [45]).map barTok ++ [.star, .lit 39, .star] := by
  unfold toks2
  rw [List.map_append, List.append_assoc]
  rfl
theorem head_list (a : RowD) : (headT0 a).cps.toList = a.cs.cps.toList ++ 39 :: (Str.join ⟨#[45]⟩ a.names).cps.toList := by
  unfold headT0 wordT
  rw [join_txt, dash_eq, apo_eq]
  show (a.cs.cps ++ #[39] ++ _).toList = _
  simp
theorem val_list (cs text : Str) (tag : List Str) : (cs ++ Str.ofString "'" ++ Txt.join (Str.ofString "-") tag ++ Str.ofString "'" ++ text).cps.toList = cs.cps.toList ++ 39 :: ((Str.join ⟨#[45]⟩ tag).cps.toList ++ 39 :: text.cps.toList) := by
  rw [join_txt, dash_eq, apo_eq]
  show (cs.cps ++ #[39] ++ (Str.join ⟨#[45]⟩ tag).cps ++ #[39] ++ text.cps).toList = _
  simp
theorem row_names {a : RowD} (ha : RowOk a) : a.names ≠ [] ∧ (∀ b ∈ a.names, GoodN b) := by
  obtain ⟨i, h1, e⟩ := ha.names
  refine ⟨fun h => ?_, by rw [e]; exact take_good ha.tag.2.2 i⟩
  have := congrArg List.length (e.symm.trans h)
  rw [List.length_take, List.length_nil] at this
  have := ha.tag.1
  omega
theorem bool_is {b : Bool} {p : Prop} [Decidable p] (h : b = true ↔ p) : b = decide p := by
  by_cases e : p
  · rw [decide_eq_true e]; exact h.mpr e
  · rw [decide_eq_false e]; exact Bool.eq_false_iff.mpr fun k => e (h.mp k)
theorem free39 {ts : List Str} (h : ∀ b ∈ ts, GoodN b) : 39 ∉ (Str.join ⟨#[45]⟩ ts).cps.toList := word_free (by decide) fun b hb => (good_free (h b hb)).1
theorem pl_takes1' {a r : RowD} (text : Str) (ha : RowOk a) (hr : RowOk r) : takesB (toks1 a) (r.cs ++ Str.ofString "'" ++ Txt.join (Str.ofString "-") r.tag ++ Str.ofString "'" ++ text).cps.toList = decide (a.cs = r.cs ∧ a.names = r.tag) := by
  apply bool_is
  rw [toks1_eq, takes_one, head_list, val_list]
  constructor
  · rintro ⟨t, h⟩
    rw [List.append_assoc, List.cons_append] at h
    obtain ⟨e1, e2⟩ := free_cut (cs_free hr.cs).1 (cs_free ha.cs).1 h
    obtain ⟨e3, _⟩ := free_cut (free39 hr.tag.2.2) (free39 (row_names ha).2) e2
    exact ⟨(str_list e1).symm, (join_inj (tag_ne hr.tag) (row_names ha).1 (fun b hb => (good_free (hr.tag.2.2 b hb)).2.1) (fun b hb => (good_free ((row_names ha).2 b hb)).2.1) e3).symm⟩
  · rintro ⟨e1, e2⟩
    exact ⟨text.cps.toList, by rw [e1, e2, List.append_assoc]; rfl⟩
theorem join_more : ∀ {xs ys : List Str}, xs ≠ [] → ys ≠ [] → (Str.join ⟨#[45]⟩ (xs ++ ys)).cps.toList = (Str.join ⟨#[45]⟩ xs).cps.toList ++ 45 :: (Str.join ⟨#[45]⟩ ys).cps.toList
  | [], _, h, _ => absurd rfl h
  | _, [], _, h => absurd rfl h
  | [x], y :: r, _, _ => join_cons_list 45 x y r
  | x :: z :: q, y :: r, _, _ => by
    rw [List.cons_append, List.cons_append, join_cons_list, join_cons_list, ← List.cons_append, join_more (xs := z :: q) (ys := y :: r) (by simp) (by simp), List.append_assoc]
    rfl
theorem pl_takes2' {a r : RowD} (text : Str) (ha : RowOk a) (hr : RowOk r) : takesB (toks2 a) (r.cs ++ Str.ofString "'" ++ Txt.join (Str.ofString "-") r.tag ++ Str.ofString "'" ++ text).cps.toList = decide (a.cs = r.cs ∧ r.tag.take a.names.length = a.names ∧ a.names ≠ r.tag) := by
  apply bool_is
  rw [toks2_eq, takes_two, head_list, val_list]
  constructor
  · rintro ⟨t, h, _⟩
    rw [List.append_assoc, List.cons_append] at h
    obtain ⟨e1, e2⟩ := free_cut (cs_free hr.cs).1 (cs_free ha.cs).1 h
    have hw := free39 hr.tag.2.2
    have hv := free39 (row_names ha).2
    obtain ⟨u, e3⟩ : ∃ u, (Str.join ⟨#[45]⟩ r.tag).cps.toList = (Str.join ⟨#[45]⟩ a.names).cps.toList ++ 45 :: u := by
      rcases List.append_eq_append_iff.mp e2 with ⟨c, h1, h2⟩ | ⟨c, h1, h2⟩
      · cases c with
        | nil => simp at h2
        | cons d c =>
          injection h2 with h3 h4
          subst h3
          exact absurd (h1 ▸ List.mem_append_right _ (List.mem_cons_self ..)) hv
      · cases c with
        | nil => simp at h2
        | cons d c =>
          injection h2 with h3 h4
          subst h3
          exact ⟨c, h1⟩
    have e4 : r.tag = a.names ++ Txt.split ⟨u.toArray⟩ ⟨#[45]⟩ := by
      refine join_inj (c := 45) (tag_ne hr.tag) (by simp [(row_names ha).1]) (fun b hb => (good_free (hr.tag.2.2 b hb)).2.1) (fun b hb => ?_) ?_
      · rcases List.mem_append.mp hb with hb | hb
        · exact (good_free ((row_names ha).2 b hb)).2.1
        · exact StrLaws.split_free _ 45 b hb
      · rw [join_more (row_names ha).1 (split_ne _ _), StrLaws.join_split, e3]
    refine ⟨(str_list e1).symm, by rw [e4]; simp, fun k => ?_⟩
    have := congrArg List.length (k.trans e4)
    rw [List.length_append] at this
    exact split_ne ⟨u.toArray⟩ 45 (List.eq_nil_of_length_eq_zero (by omega))
  · rintro ⟨e1, e2, e3⟩
    have e4 : r.tag = a.names ++ r.tag.drop a.names.length := by
      conv => lhs; rw [← List.take_append_drop a.names.length r.tag, e2]
    have e5 : r.tag.drop a.names.length ≠ [] := fun k => e3 (by rw [k, List.append_nil] at e4; exact e4.symm)
    refine ⟨(Str.join ⟨#[45]⟩ (r.tag.drop a.names.length)).cps.toList ++ 39 :: text.cps.toList, ?_, by simp⟩
    rw [e1, List.append_assoc, List.cons_append]
    congr 2
    conv => lhs; rw [e4, join_more (row_names ha).1 e5]
    simp
theorem pl_takes3' {a r : RowD} {sep : Str} (ha : RowOk a) (hr : RowOk r) (hs : sep = Str.ofString "'" ∨ sep = Str.ofString "-") : takesB (toks1 a) (r.cs ++ sep ++ Txt.join (Str.ofString "-") r.tag).cps.toList = false ∧ takesB (toks2 a) (r.cs ++ sep ++ Txt.join (Str.ofString "-") r.tag).cps.toList = false := by
  have hw := free39 hr.tag.2.2
  have hl : (r.cs ++ sep ++ Txt.join (Str.ofString "-") r.tag).cps.toList = r.cs.cps.toList ++ (sep.cps.toList ++ (Str.join ⟨#[45]⟩ r.tag).cps.toList) := by
    rw [join_txt, dash_eq]
    show (r.cs.cps ++ sep.cps ++ (Str.join ⟨#[45]⟩ r.tag).cps).toList = _
    simp
  have key : ∀ t : List Nat, r.cs.cps.toList ++ (sep.cps.toList ++ (Str.join ⟨#[45]⟩ r.tag).cps.toList) = a.cs.cps.toList ++ 39 :: t → 39 ∉ t := by
    intro t h
    rcases hs with rfl | rfl
    · rw [apo_eq] at h
      obtain ⟨_, e⟩ := free_cut (cs_free hr.cs).1 (cs_free ha.cs).1 (show r.cs.cps.toList ++ 39 :: (Str.join ⟨#[45]⟩ r.tag).cps.toList = _ from h)
      rw [← e]; exact hw
    · rw [dash_eq] at h
      have : 39 ∈ r.cs.cps.toList ++ ([45] ++ (Str.join ⟨#[45]⟩ r.tag).cps.toList) := (show r.cs.cps.toList ++ ([45] ++ (Str.join ⟨#[45]⟩ r.tag).cps.toList) = _ from h) ▸ List.mem_append_right _ (List.mem_cons_self ..)
      rcases List.mem_append.mp this with k | k
      · exact absurd k (cs_free hr.cs).1
      · rcases List.mem_append.mp k with k | k
        · simp at k
        · exact absurd k hw
  refine ⟨Bool.eq_false_iff.mpr fun k => ?_, Bool.eq_false_iff.mpr fun k => ?_⟩
  · rw [toks1_eq, takes_one, head_list, hl] at k
    obtain ⟨t, h⟩ := k
    rw [List.append_assoc, List.cons_append] at h
    exact key _ h (by simp)
  · rw [toks2_eq, takes_two, head_list, hl] at k
    obtain ⟨t, h, hm⟩ := k
    rw [List.append_assoc, List.cons_append] at h
    exact key _ h (by simp [hm])
end Mine
end
section
open PySem PySem.W PyProof.Rows PySem.Spec PySem.Calls PySem.Builtin PySem.Builtin.Str
set_option maxRecDepth 100000
set_option linter.unusedVariables false
namespace Mine
theorem last_slash {x : Str} {P B : List Nat} (h : x.cps.toList = P ++ 47 :: B) (hB : 47 ∉ B) : Txt.rfind x ⟨#[47]⟩ = (P.length : Int) := by
  have hat : StrLaws.At x ⟨#[47]⟩ x.length P.length := (StrLaws.subAt_one x 47 P.length).mpr (by rw [h, List.getElem?_append_right (Nat.le_refl _), Nat.sub_self]; rfl)
  rcases rfind_whole x ⟨#[47]⟩ with ⟨_, h2⟩ | ⟨i, h1, h2, h3⟩
  · exact absurd hat (h2 _)
  · rw [h1]
    have hi := (StrLaws.subAt_one x 47 i).mp h2
    by_cases e : P.length < i
    · rw [h, List.getElem?_append_right (by omega), show i - P.length = (i - P.length - 1) + 1 by omega, List.getElem?_cons_succ] at hi
      exact absurd (List.mem_of_getElem? hi) hB
    · by_cases e2 : i < P.length
      · exact absurd hat (h3 _ e2)
      · congr 1; omega
theorem head_is {x : Str} {P B : List Nat} (h : x.cps.toList = P ++ 47 :: B) (hB : 47 ∉ B) : headT x = ⟨(P ++ [47]).toArray⟩ := by
  unfold headT
  rw [slash_eq, last_slash h hB]
  have hc := slice_closes_to (x := x) (j := (P.length : Int) + 1) ⟨by omega, by rw [h]; simp; omega⟩
  rw [eq_of_beq hc]
  apply str_list
  show ((x.cps.toList.drop 0).take ((P.length : Int) + 1 - 0).toNat) = P ++ [47]
  rw [List.drop_zero, h, show ((P.length : Int) + 1 - 0).toNat = P.length + 1 by omega, show P ++ 47 :: B = (P ++ [47]) ++ B by simp, List.take_append_of_le_length (by simp), List.take_of_length_le (by simp)]
theorem rstrip_is {P : List Nat} {d : Nat} {P' : List Nat} (h : P.reverse = d :: P') (hd : d ≠ 47) : Txt.rstripChars ⟨(P ++ [47]).toArray⟩ ⟨#[47]⟩ = ⟨P.toArray⟩ := by
  have hc : ∀ k : Nat, (#[47] : Array Nat).contains k = decide (k = 47) := fun k => by simp
  have hhi : stripHi (#[47] : Array Nat).contains true ⟨(P ++ [47]).toArray⟩ 0 = P.length := by
    unfold stripHi
    rw [if_pos rfl]
    show (P ++ [47]).toArray.size - ((((P ++ [47]).drop 0).reverse).takeWhile _).length = _
    rw [List.drop_zero, List.reverse_append, h]
    simp [hd]
  unfold Txt.rstripChars Txt.stripBy stripSame PySem.stripped
  have hlo : stripLo (#[47] : Array Nat).contains false ⟨(P ++ [47]).toArray⟩ = 0 := rfl
  rw [hlo, hhi, if_neg (by show ¬ ((0 == 0) && (P.length == (P ++ [47]).toArray.size)) = true; simp)]
  apply str_list
  rw [StrLaws.strSub_toList]
  show (((P ++ [47]).drop 0).take (P.length - 0)) = P
  rw [List.drop_zero, Nat.sub_zero, List.take_append_of_le_length (Nat.le_refl _), List.take_length]
theorem rep_all : ∀ (n : Nat) (a : Array Nat), (∀ c ∈ a.toList, c = 47) → ∀ c ∈ ((List.replicate n (#[47] : Array Nat)).foldl (· ++ ·) a).toList, c = 47
  | 0, a, h => h
  | n + 1, a, h => by
    rw [List.replicate_succ, List.foldl_cons]
    refine rep_all n _ fun c hc => ?_
    rw [Array.toList_append, List.mem_append] at hc
    rcases hc with hc | hc
    · exact h c hc
    · simpa using hc
theorem mul_all (n : Int) : ∀ c ∈ (Txt.mul ⟨#[47]⟩ n).cps.toList, c = 47 := by
  unfold Txt.mul
  split
  · intro c hc; simp [Str.empty] at hc
  · split
    · intro c hc; simpa using hc
    · exact rep_all _ _ (by simp)
theorem dir_is {x : Str} {P P' B : List Nat} {d : Nat} (h : x.cps.toList = P ++ 47 :: B) (hB : 47 ∉ B) (hr : P.reverse = d :: P') (hd : d ≠ 47) : dirT x = ⟨P.toArray⟩ := by
  unfold dirT
  rw [head_is h hB, slash_eq]
  rw [if_neg (by show ¬ (((P ++ [47]).toArray.size : Nat) : Int) = 0; simp; omega)]
  rw [if_pos, rstrip_is hr hd]
  rw [bne_iff_ne]
  intro e
  have hm : d ∈ P := by rw [← List.mem_reverse, hr]; exact List.mem_cons_self ..
  have hall := mul_all ((⟨(P ++ [47]).toArray⟩ : Str).length : Nat)
  rw [← e] at hall
  exact hd (hall d (List.mem_append_left _ hm))
theorem goal_one {b : Str} (hb : GoodN b) : dirT (goalT [b]) = goalT [] := by
  rw [goal_eq (ns := [b]) (fun x hx => by rw [List.mem_singleton.mp hx]; exact hb)]
  unfold dirT
  rw [head_is (P := []) (B := b.cps.toList) (by show (#[47] ++ b.cps).toList = _; simp) (good_free hb).2.2.2]
  decide +kernel
theorem join_snoc {c : Nat} : ∀ {xs : List Str} {b : Str}, xs ≠ [] → (Str.join ⟨#[c]⟩ (xs ++ [b])).cps.toList = (Str.join ⟨#[c]⟩ xs).cps.toList ++ c :: b.cps.toList
  | [], _, h => absurd rfl h
  | [x], b, _ => join_cons_list c x b []
  | x :: z :: q, b, _ => by
    rw [List.cons_append, List.cons_append, join_cons_list, join_cons_list, ← List.cons_append, join_snoc (xs := z :: q) (b := b) (by simp), List.append_assoc]
    rfl
theorem goal_snoc {ns : List Str} {b : Str} (h : ∀ x ∈ ns, GoodN x) (hb : GoodN b) (h0 : ns ≠ []) : (goalT (ns ++ [b])).cps.toList = (goalT ns).cps.toList ++ 47 :: b.cps.toList := by
  rw [goal_eq h, goal_eq fun x hx => by
    rcases List.mem_append.mp hx with hx | hx
    · exact h x hx
    · rw [List.mem_singleton.mp hx]; exact hb]
  show (#[47] ++ (Str.join ⟨#[47]⟩ (ns ++ [b])).cps).toList = (#[47] ++ (Str.join ⟨#[47]⟩ ns).cps).toList ++ 47 :: b.cps.toList
  rw [Array.toList_append, Array.toList_append, join_snoc h0, List.append_assoc]
theorem last_good {b : Str} (hb : GoodN b) (p : List Nat) : ∃ d P', (p ++ b.cps.toList).reverse = d :: P' ∧ d ≠ 47 := by
  rw [List.reverse_append]
  cases e : b.cps.toList.reverse with
  | nil =>
    have := congrArg List.length e
    rw [List.length_reverse, Array.length_toList] at this
    have := hb.1
    exact absurd this (by show ¬ 0 < b.cps.size; simp only [List.length_nil] at *; omega)
  | cons d q =>
    refine ⟨d, q ++ p.reverse, rfl, fun k => (good_free hb).2.2.2 ?_⟩
    rw [← List.mem_reverse, e, k]
    exact List.mem_cons_self ..
theorem goal_last {ns : List Str} (h : ∀ x ∈ ns, GoodN x) (h0 : ns ≠ []) : ∃ d P', (goalT ns).cps.toList.reverse = d :: P' ∧ d ≠ 47 := by
  have e := (List.dropLast_concat_getLast h0).symm
  have hb := h _ (List.getLast_mem h0)
  have hp : ∀ x ∈ ns.dropLast, GoodN x := fun x hx => h x ((List.dropLast_subset _) hx)
  generalize ns.getLast h0 = b at e hb
  generalize ns.dropLast = q at e hp
  subst e
  by_cases hq : q = []
  · subst hq
    rw [goal_eq h]
    show ∃ d P', (#[47] ++ b.cps).toList.reverse = d :: P' ∧ d ≠ 47
    rw [Array.toList_append]
    exact last_good hb _
  · rw [goal_snoc hp hb hq, show (goalT q).cps.toList ++ 47 :: b.cps.toList = ((goalT q).cps.toList ++ [47]) ++ b.cps.toList by simp]
    exact last_good hb _
theorem goal_up {ns : List Str} {b : Str} (h : ∀ x ∈ ns, GoodN x) (hb : GoodN b) : dirT (goalT (ns ++ [b])) = goalT ns := by
  by_cases h0 : ns = []
  · subst h0; exact goal_one hb
  · obtain ⟨d, P', hr, hd⟩ := goal_last h h0
    rw [dir_is (goal_snoc h hb h0) (good_free hb).2.2.2 hr hd]
end Mine
end
section
open PySem PySem.W PyProof.Rows PySem.Spec PySem.Calls PySem.Builtin PySem.Builtin.Str
set_option maxRecDepth 100000
set_option linter.unusedVariables false
namespace Mine
theorem best_in (cs : Str) (tag : List Str) : ∀ (l : List RowD) (n : List Str), bestT cs tag l n = n ∨ ∃ a ∈ l, a.cs = cs ∧ tag.take a.names.length = a.names ∧ bestT cs tag l n = a.names
  | [], n => .inl rfl
  | a :: l, n => by
    rcases best_in cs tag l (if (a.cs = cs ∧ tag.take a.names.length = a.names) ∧ n.length < a.names.length then a.names else n) with h | ⟨b, hb, h1, h2, h3⟩
    · show bestT cs tag l _ = n ∨ _
      by_cases e : (a.cs = cs ∧ tag.take a.names.length = a.names) ∧ n.length < a.names.length
      · rw [if_pos e] at h
        exact .inr ⟨a, .head _, e.1.1, e.1.2, by show bestT cs tag l _ = _; rw [if_pos e]; exact h⟩
      · rw [if_neg e] at h ⊢
        exact .inl h
    · exact .inr ⟨b, .tail _ hb, h1, h2, h3⟩
theorem best_ge (cs : Str) (tag : List Str) : ∀ (l : List RowD) (n : List Str), n.length ≤ (bestT cs tag l n).length
  | [], n => Nat.le_refl _
  | a :: l, n => by
    refine Nat.le_trans ?_ (best_ge cs tag l _)
    split
    · rename_i e; omega
    · exact Nat.le_refl _
theorem best_max {cs : Str} {tag : List Str} : ∀ {l : List RowD} {n : List Str} {a : RowD}, a ∈ l → a.cs = cs → tag.take a.names.length = a.names → a.names.length ≤ (bestT cs tag l n).length
  | b :: l, n, a, h, h1, h2 => by
    rcases List.mem_cons.mp h with rfl | h
    · refine Nat.le_trans ?_ (best_ge cs tag l _)
      split
      · exact Nat.le_refl _
      · rename_i e
        exact Nat.le_of_not_lt fun k => e ⟨⟨h1, h2⟩, k⟩
    · exact best_max (l := l) h h1 h2
theorem best_pref (cs : Str) (tag : List Str) (l : List RowD) : tag.take (bestT cs tag l []).length = bestT cs tag l [] := by
  rcases best_in cs tag l [] with h | ⟨a, _, _, h2, h3⟩
  · rw [h]; rfl
  · rw [h3]; exact h2
theorem best_good {cs : Str} {tag : List Str} {l : List RowD} (ht : ∀ b ∈ tag, GoodN b) : ∀ b ∈ bestT cs tag l [], GoodN b := by
  rw [← best_pref]; exact take_good ht _
/-- where the way up from the tag stands -/
noncomputable def UpAt (cs : Str) (tag : List Str) (rs : List RowD) (j : Nat) (place : Str) : Prop := j ≤ tag.length ∧ place = goalT (tag.take j) ∧ (bestT cs tag rs []).length ≤ j
theorem up_start (cs : Str) (tag : List Str) (rs : List RowD) : UpAt cs tag rs tag.length (goalT tag) := by
  refine ⟨Nat.le_refl _, by rw [List.take_length], ?_⟩
  have := congrArg List.length (best_pref cs tag rs)
  rw [List.length_take] at this
  omega
theorem up_step {cs : Str} {tag : List Str} {rs : List RowD} {j : Nat} {place : Str} (ht : ∀ b ∈ tag, GoodN b) (h : UpAt cs tag rs j place) (h1 : place ≠ Str.ofString "/") (h2 : ¬ ∃ a ∈ rs, a.cs = cs ∧ goalT a.names = place) : ∃ i, j = i + 1 ∧ UpAt cs tag rs i (dirT place) := by
  obtain ⟨hj, e, hb⟩ := h
  cases j with
  | zero => exact absurd e h1
  | succ i =>
    refine ⟨i, rfl, by omega, ?_, ?_⟩
    · have hlt : i < tag.length := by omega
      rw [e, List.take_succ_eq_append_getElem hlt]
      exact goal_up (take_good ht i) (ht _ (List.getElem_mem hlt))
    · refine Nat.le_of_lt_succ (Nat.lt_of_le_of_ne hb fun k => ?_)
      rcases best_in cs tag rs [] with h | ⟨a, ha, h3, h4, h5⟩
      · rw [h] at k; cases k
      · refine h2 ⟨a, ha, h3, ?_⟩
        have k' : (bestT cs tag rs []).length = i + 1 := k
        rw [e, ← h5, ← k', best_pref]
theorem up_done {cs : Str} {tag : List Str} {rs : List RowD} {j : Nat} {place : Str} (ht : ∀ b ∈ tag, GoodN b) (hr : ∀ a ∈ rs, ∀ b ∈ a.names, GoodN b) (h : UpAt cs tag rs j place) (h1 : place = Str.ofString "/" ∨ ∃ a ∈ rs, a.cs = cs ∧ goalT a.names = place) : place = goalT (bestT cs tag rs []) := by
  obtain ⟨hj, e, hb⟩ := h
  rcases h1 with h1 | ⟨a, ha, h2, h3⟩
  · have h0 : tag.take j = [] := goal_inj (take_good ht j) (fun _ h => by cases h) (e.symm.trans h1)
    have hj0 : j = 0 := by
      have := congrArg List.length h0
      rw [List.length_take, List.length_nil] at this
      omega
    have hn : bestT cs tag rs [] = [] := List.eq_nil_of_length_eq_zero (by omega)
    rw [h1, hn]
    rfl
  · have hn : a.names = tag.take j := goal_inj (hr a ha) (take_good ht j) (h3.trans e)
    have hl : a.names.length = j := by rw [hn, List.length_take]; omega
    have hm := best_max (n := []) ha h2 (by rw [hl]; exact hn.symm)
    have hk : (bestT cs tag rs []).length = j := by omega
    rw [e, ← hk, best_pref]
end Mine
end
section
open PySem PySem.W PyProof.Rows PySem.Spec PySem.Calls
set_option maxRecDepth 100000
set_option linter.unusedVariables false
namespace Mine
open LCg in
theorem compU_ind {prog : Program} {w : World} {A : Around} {h₀ : Heap} {L : Addr} {m : Str → Option Value} {env : Env} {elt : Expr} {x : Str} {scope : Scope} {cl : List (Str × Addr)} {s : Shared} {S : List (Addr × Obj) → Prop} {P : Nat → Value → Prop} {Fin : List Value → List (Addr × Obj) → Prop}
    (n : Nat) (J : Nat → List Value → Led → Prop) (zero : ∀ ys news, J n ys news → Fin ys news)
    (succ : ∀ k i ys news, i + (k + 1) = n → J i ys news → (∀ ys' news', J (i + 1) ys' news' → CompRest prog w A h₀ L m env elt x scope cl s S P Fin k (i + 1) ys' news') → CompRest prog w A h₀ L m env elt x scope cl s S P Fin (k + 1) i ys news) (ys : List Value) (news : Led) (h : J 0 ys news) :
    CompRest prog w A h₀ L m env elt x scope cl s S P Fin n 0 ys news :=
  comp_ind n J zero succ n 0 ys news (Nat.zero_add n) h
theorem All2.left {α β : Type} {R : α → β → Prop} {l₁ : List α} {l₂ : List β} (k : All2 R l₁ l₂) {i : Nat} {a : α} (h : l₁[i]? = some a) : ∃ b, l₂[i]? = some b ∧ R a b := by
  have key : ∀ (i : Nat) (a : α), l₁[i]? = some a → ∃ b, l₂[i]? = some b ∧ R a b := by
    refine k.rec (fun i a h => absurd (List.getElem?_nil.symm.trans h) (Option.some_ne_none _).symm) fun h₁ _ ih i => ?_
    cases i with
    | zero => exact fun a h => ⟨_, rfl, Option.some.inj h ▸ h₁⟩
    | succ i => exact fun a h => ih i a h
  exact key i a h
/-- charset and goal of each range -/
noncomputable def pairsT (rs : List RowD) : List (Str × Str) := rs.map fun a => (a.cs, goalT a.names)
/-- the comprehension over the ranges, behind i of them -/
noncomputable def CpJ (base : Led) (rs : List RowD) (i : Nat) (ys : List Value) (nw : Led) : Prop := (∀ p ∈ base, p ∈ nw) ∧ PairsAre nw ys (pairsT (rs.take i))
theorem CpJ.next {base : Led} {rs : List RowD} {i : Nat} {ys : List Value} {nw : Led} {b : RowD} {T : Addr} {k : Nat} {t u : Tok} (h : CpJ base rs i ys nw) (hb : rs[i]? = some b) :
    CpJ base rs (i + 1) (ys ++ [.ref T]) ((T, tupO [.str b.cs t, .str (goalT b.names) u] k) :: nw) := by
  refine ⟨fun p hp => .tail _ (h.1 p hp), ?_⟩
  have e : pairsT (rs.take (i + 1)) = pairsT (rs.take i) ++ [(b.cs, goalT b.names)] := by
    unfold pairsT
    rw [List.take_add_one, hb, List.map_append]
    rfl
  rw [e]
  exact .snoc (.head _) (h.2.mono fun p hp => .tail _ hp)
theorem any_yes {rs : List RowD} {cs place : Str} (h : ∃ a ∈ rs, a.cs = cs ∧ goalT a.names = place) : (!(pairsT rs).any fun p => p == (cs, place)) = false := by
  obtain ⟨a, ha, h1, h2⟩ := h
  have : ((pairsT rs).any fun p => p == (cs, place)) = true := List.any_eq_true.mpr ⟨(a.cs, goalT a.names), List.mem_map.mpr ⟨a, ha, rfl⟩, by rw [h1, h2]; exact beq_self_eq_true _⟩
  rw [this]; rfl
theorem any_no {rs : List RowD} {cs place : Str} (h : ¬ ∃ a ∈ rs, a.cs = cs ∧ goalT a.names = place) : (!(pairsT rs).any fun p => p == (cs, place)) = true := by
  have : ((pairsT rs).any fun p => p == (cs, place)) = false := by
    rw [Bool.eq_false_iff]
    intro k
    obtain ⟨p, hp, e⟩ := List.any_eq_true.mp k
    obtain ⟨a, ha, rfl⟩ := List.mem_map.mp hp
    have e' : (a.cs, goalT a.names) = (cs, place) := eq_of_beq e
    exact h ⟨a, ha, (Prod.mk.inj e').1, (Prod.mk.inj e').2⟩
  rw [this]; rfl
/-- the state of the while between two turns -/
structure WayJ (nw₀ : Led) (rs : List RowD) (cs : Str) (tag : List Str) (ra ga rP na : Addr) (n : Nat) (m : Str → Option Value) (nw : Led) : Prop where
  nw : nw = nw₀
  up : ∃ place tp, UpAt cs tag rs n place ∧ m (Str.ofString "place") = some (.str place tp)
  q0 : m (Str.ofString "nearest") = some (.ref na)
  q1 : m (Str.ofString "rows") = some (.ref ra)
  q2 : m (Str.ofString "ranges") = some (.ref ga)
  q3 : m (Str.ofString "parts") = some (.ref rP)
/-- the state of the law's inner loop between two turns, for a value without two apostrophes -/
structure L5 (tailY : Led) (st ra ga ne rP : Addr) (rs : List RowD) (kind : Int) (t1 : Tok) (r : List Value) (m : Str → Option Value) (nw : Led) : Prop where
  ex : ∃ rest, All2 (RangeAt st tailY) r rest ∧ (∀ a ∈ rest, a ∈ rs)
  nw : nw = tailY
  q0 : m (Str.ofString "nearest") = some (.ref ne)
  q1 : m (Str.ofString "rows") = some (.ref ra)
  q2 : m (Str.ofString "ranges") = some (.ref ga)
  q3 : m (Str.ofString "kind") = some (.int kind t1)
  q6 : m (Str.ofString "parts") = some (.ref rP)
  q7 : ∃ tpl, m (Str.ofString "place") = some (.str (Str.ofString "/") tpl)
theorem names_pos {a : RowD} (h : RowOk a) : a.names ≠ [] := by
  obtain ⟨j, hj, e⟩ := h.names
  intro k
  have h1 := congrArg List.length (e.symm.trans k)
  rw [List.length_take, List.length_nil] at h1
  have := h.tag.1
  omega
theorem sep_ok {sep : Str} (h : sep = Str.ofString "'" ∨ sep = Str.ofString "-") : sep.length = 1 ∧ OkS sep := by
  rcases h with rfl | rfl
  · exact ⟨by decide, okS_lit (by decide)⟩
  · exact ⟨by decide, okS_lit (by decide)⟩
theorem sep_len {cs sep x : Str} (h1 : cs.length ≤ 3) (h2 : sep.length = 1) (h3 : x.length ≤ 8) : (cs ++ sep ++ x).length ≤ 1000 := by
  rw [Str.length_append, Str.length_append]
  omega
/-- behind the while -/
inductive WayPost (s₁ : Shared) (h₀ : Heap) (L : Addr) (nw : Led) (ra ga na : Addr) (place : Str) (f : Flow) (s' : Shared) : Prop
  | mk : f = .next → ∀ (tp : Tok) (h' : Heap) (tk : Nat) (m' : Str → Option Value), s' = { s₁ with heap := h', toks := tk } → Fr h₀ L h' m' → News h₀ L h' nw → m' (Str.ofString "place") = some (.str place tp) → m' (Str.ofString "nearest") = some (.ref na) → m' (Str.ofString "rows") = some (.ref ra) → m' (Str.ofString "ranges") = some (.ref ga) → WayPost s₁ h₀ L nw ra ga na place f s'
theorem WayPost.intro {s₁ : Shared} {h₀ h' : Heap} {L : Addr} {nw : Led} {ra ga na : Addr} {place place' : Str} {tp : Tok} {tk : Nat} {m' : Str → Option Value} (F : Fr h₀ L h' m') (N : News h₀ L h' nw) (e : place = place')
    (q : m' (Str.ofString "place") = some (.str place tp)) (q0 : m' (Str.ofString "nearest") = some (.ref na)) (q1 : m' (Str.ofString "rows") = some (.ref ra)) (q2 : m' (Str.ofString "ranges") = some (.ref ga)) :
    WayPost s₁ h₀ L nw ra ga na place' .next { s₁ with heap := h', toks := tk } := by
  subst e
  exact ⟨rfl, tp, h', tk, m', rfl, F, N, q, q0, q1, q2⟩
section
variable {prog : Program} {w : World} {A : Around} {E : Value → Shared → Prop} {s : Shared} {h₀ : Heap} {L a c : Addr} {news nw : Led} {xs : List Value} {n k : Nat} {Q : Value → Shared → Prop} {x y : Str} {t u : Tok}
theorem notin_to {rs : List RowD} {bo : Bool} (hb : (!(pairsT rs).any fun p => p == (x, y)) = bo) (N : News h₀ L s.heap news) (ha : (a, tupO [.str x t, .str y u] k) ∈ news) (hc : (c, lstO xs n) ∈ news) (hp : PairsAre nw xs (pairsT rs)) (hs : ∀ p ∈ nw, p ∈ news) (hx : OkS x) (hy : OkS y) (hps : ∀ a ∈ rs, OkS a.cs ∧ OkS (goalT a.names)) (hu : A.units + 64 < cLine)
    (h : Q (.bool bo) s) : wpAny (model prog w) A (compareOp .NotIn (.ref a) (.ref c)) Q E s := by
  subst hb
  refine notin_L N ha hc (hp.mono hs) hx hy (fun p hp => ?_) hu h
  obtain ⟨a, ha, rfl⟩ := List.mem_map.mp hp
  exact hps a ha
theorem tup_any {value slice : Expr} {X : List Value} {i : Nat} {v : Value} (N : News h₀ L s.heap news) (hm : (a, tupO X n) ∈ news) (hx : X[i]? = some v) (hfit : X.length ≤ 1000) (h : Q v s)
    (hs : subscripted slice false (.ref a) (.int (i : Int) u) = operate [.ref a, .int (i : Int) u] (getItem (.ref a) (.int (i : Int) u)) := by with_unfolding_all rfl) (hg : ∀ r, letTemporaryGo value (.ref a) r = pure () := by intro _; with_unfolding_all rfl) :
    wpAny (model prog w) A (subscriptTail value slice (.ref a) (.int (i : Int) u)) Q E s := by
  obtain ⟨hlt, e⟩ := List.getElem?_eq_some_iff.mp hx
  exact item_tupleL ⟨_, (N _ hm).1, rfl, n, rfl⟩ (by omega) (by omega) (j := i) (by rw [seqIndex_of (by omega) (by omega), Int.toNat_natCast]) hx h hs hg
end
/-- behind a statement that stores a truth value and else leaves the frame and the ledger as they were -/
noncomputable def BoolPost (s₁ : Shared) (h₀ : Heap) (L : Addr) (m : Str → Option Value) (nw : Led) (x : Str) (b : Bool) (f : Flow) (s' : Shared) : Prop :=
  f = .next ∧ ∃ h' tk, s' = { s₁ with heap := h', toks := tk } ∧ Fr h₀ L h' (fun y => if y = x then some (.bool b) else m y) ∧ News h₀ L h' nw
theorem BoolPost.intro {s₁ : Shared} {h₀ h' : Heap} {L : Addr} {m : Str → Option Value} {nw all : Led} {x : Str} {b : Bool} {tk : Nat} (F : Fr h₀ L h' (fun y => if y = x then some (.bool b) else m y)) (N : News h₀ L h' all) (sub : ∀ p ∈ nw, p ∈ all) :
    BoolPost s₁ h₀ L m nw x b .next { s₁ with heap := h', toks := tk } := ⟨rfl, h', tk, rfl, F, fun p hp => N p (sub p hp)⟩
/-- behind a statement that leaves the frame and the ledger as they were -/
noncomputable def SkipPost (s₁ : Shared) (h₀ : Heap) (L : Addr) (m : Str → Option Value) (nw : Led) (f : Flow) (s' : Shared) : Prop :=
  f = .next ∧ ∃ h' tk, s' = { s₁ with heap := h', toks := tk } ∧ Fr h₀ L h' m ∧ News h₀ L h' nw
theorem SkipPost.intro {s₁ : Shared} {h₀ h' : Heap} {L : Addr} {m : Str → Option Value} {nw all : Led} {tk : Nat} (F : Fr h₀ L h' m) (N : News h₀ L h' all) (sub : ∀ p ∈ nw, p ∈ all) :
    SkipPost s₁ h₀ L m nw .next { s₁ with heap := h', toks := tk } := ⟨rfl, h', tk, rfl, F, fun p hp => N p (sub p hp)⟩
section
variable {prog : Program} {w : World} {A : Around} {E : Value → Shared → Prop} {s : Shared} {h₀ : Heap} {L : Addr} {m : Str → Option Value} {nw : Led} {Q : Flow → Shared → Prop} {T : Sem Flow} {body : List Stmt}
/-- a walk whose end and whose way out are names: the proof is smaller -/
theorem abs_QE {env : Env} (hp : PassesOwn (model prog w) A env E) (h : ∀ (Q₀ : Flow → Shared → Prop) (E₀ : Value → Shared → Prop), Q₀ = Q → PassesOwn (model prog w) A env E₀ → wpAny (model prog w) A (execs body env) Q₀ E₀ s) : wpAny (model prog w) A (execs body env) Q E s := h Q E rfl hp
/-- the frame's map under a name of its own: the proof is smaller -/
theorem fold_map {g h : Heap} {L : Addr} {m : Str → Option Value} {P : Prop} (F : Fr g L h m) (k : let m' := m; Fr g L h m' → P) : P := k F
theorem join_bool (x : Str) (b : Bool) (F : Fr h₀ L s.heap m) (N : News h₀ L s.heap nw) (body : wpAny (model prog w) A T (BoolPost s h₀ L m nw x b) E s)
    (after : ∀ h' tk, Fr h₀ L h' (fun y => if y = x then some (.bool b) else m y) → News h₀ L h' nw → Q .next { s with heap := h', toks := tk }) : wpAny (model prog w) A T Q E s :=
  wpAny_mono body (fun f s' h => by obtain ⟨rfl, h', tk, rfl, F', N'⟩ := h; exact after h' tk F' N') fun _ _ e => e
theorem join_skip (F : Fr h₀ L s.heap m) (N : News h₀ L s.heap nw) (body : wpAny (model prog w) A T (SkipPost s h₀ L m nw) E s)
    (after : ∀ h' tk, Fr h₀ L h' m → News h₀ L h' nw → Q .next { s with heap := h', toks := tk }) : wpAny (model prog w) A T Q E s :=
  wpAny_mono body (fun f s' h => by obtain ⟨rfl, h', tk, rfl, F', N'⟩ := h; exact after h' tk F' N') fun _ _ e => e
end
noncomputable def onesT (ts : List Bool) : List Int := ts.filterMap fun t => if t = true then some 1 else none
theorem ones_yes {ts : List Bool} {i : Nat} {ys : List Value} {u : Tok} (h : IntsAre ys (onesT (ts.take i))) (ht : ts[i]? = some true) : IntsAre (ys ++ [.int 1 u]) (onesT (ts.take (i + 1))) := by
  have e : onesT (ts.take (i + 1)) = onesT (ts.take i) ++ [1] := by
    unfold onesT
    rw [List.take_add_one, ht, List.filterMap_append]
    rfl
  rw [e]
  exact ints_app h (.cons _ _ .nil)
theorem ones_no {ts : List Bool} {i : Nat} {ys : List Value} (h : IntsAre ys (onesT (ts.take i))) (ht : ts[i]? = some false) : IntsAre ys (onesT (ts.take (i + 1))) := by
  have e : onesT (ts.take (i + 1)) = onesT (ts.take i) := by
    unfold onesT
    rw [List.take_add_one, ht, List.filterMap_append]
    exact List.append_nil _
  rw [e]
  exact h
theorem ones_told {t1 t2 b : Bool} {P : Prop} [Decidable P] {n T : List Str} (h1 : decide (P ∧ n = T) = t1) (h2 : decide (P ∧ T.take n.length = n ∧ n ≠ T) = t2) (hb : decide (P ∧ T.take n.length = n) = b) : onesT [t1, t2] = if b = true then [1] else [] := by
  subst h1; subst h2; subst hb
  by_cases hP : P
  · by_cases hn : n = T
    · subst hn; simp [onesT, hP]
    · by_cases hp : T.take n.length = n
      · simp [onesT, hP, hn, hp]
      · simp [onesT, hP, hn, hp]
  · simp [onesT, hP]
theorem two_false {i : Nat} {t : Bool} (h : [false, false][i]? = some t) : t = false := by
  match i, h with
  | 0, h => exact (Option.some.inj h).symm
  | 1, h => exact (Option.some.inj h).symm
/-- a pattern of a range, and whether it takes the value -/
inductive PatAt (st : Addr) (nw : Led) (V : Str) (v : Value) (t : Bool) : Prop
  | mk (p : Addr) (vp : List Value) (kp : Nat) (toks : List PTok) : v = .ref p → (p, lstO vp kp) ∈ nw → PartsAre st vp toks → (∀ t ∈ toks, t.ok) → toks.length ≤ 1000 → takesB toks V.cps.toList = t → PatAt st nw V v t
theorem pat_at {st : Addr} {nw : Led} {V : Str} {v1 v2 v : Value} {t1 t2 : Bool} (h1 : PatAt st nw V v1 t1) (h2 : PatAt st nw V v2 t2) {i : Nat} (hP : #[v1, v2][i]? = some v) : ∃ t, PatAt st nw V v t ∧ [t1, t2][i]? = some t := by
  match i, hP with
  | 0, h => exact ⟨t1, (Option.some.inj h) ▸ h1, rfl⟩
  | 1, h => exact ⟨t2, (Option.some.inj h) ▸ h2, rfl⟩
end Mine
end
section
open PySem PySem.W PyProof.Rows PySem.Spec PySem.Calls
set_option maxRecDepth 100000
set_option maxHeartbeats 0
set_option linter.unusedVariables false
namespace Mine
theorem low_of {D9 D3 st : Addr} {o9 o3 os : Obj} (h : (@LT.lt Nat _ st D9 ∧ @LT.lt Nat _ st D3) ∧ True) : ∀ p ∈ [(D9, o9), (D3, o3), (st, os)], st ≤ p.1 := by
  intro p hp
  rcases List.mem_cons.mp hp with rfl | hp
  · exact Nat.le_of_lt h.1.1
  rcases List.mem_cons.mp hp with rfl | hp
  · exact Nat.le_of_lt h.1.2
  rw [List.mem_singleton.mp hp]
  exact Nat.le_refl st
theorem off_low {st c : Addr} {tail : Led} (h : ∀ p ∈ tail, st ≤ p.1) (hc : @LT.lt Nat _ c st) : ∀ p ∈ tail, p.1 ≠ c := by
  intro p hp
  have h1 : @LE.le Nat _ st p.1 := h p hp
  exact Nat.ne_of_gt (Nat.lt_of_lt_of_le hc h1)
theorem leN {a b : Nat} (h : a ≤ b) : a ≤ b := h
theorem text_len {cs x : Str} (h1 : cs.length ≤ 3) (h2 : x.length ≤ 8) : (cs ++ Str.ofString "'" ++ x ++ Str.ofString "'a").length ≤ 14 := by
  have h3 : (Str.ofString "'").length = 1 := by decide
  have h4 : (Str.ofString "'a").length = 2 := by decide
  rw [Str.length_append, Str.length_append, Str.length_append, h3, h4]
  omega
theorem val_len {cs x y : Str} (h1 : cs.length ≤ 3) (h2 : x.length ≤ 8) (h3 : y.length ≤ 14) : (cs ++ Str.ofString "'" ++ x ++ Str.ofString "'" ++ y).length ≤ 1000 := by
  have h4 : (Str.ofString "'").length = 1 := by decide
  rw [Str.length_append, Str.length_append, Str.length_append, Str.length_append, h4]
  omega
theorem ok3 {a b c : Str} (ha : OkS a) (hb : OkS b) (hc : OkS c) : ∀ x ∈ [a, b, c], OkS x := by
  intro x hx
  simp only [List.mem_cons, List.not_mem_nil, or_false] at hx
  rcases hx with rfl | rfl | rfl <;> assumption
theorem head_len {cs x : Str} (h1 : cs.length ≤ 3) (h2 : x.length ≤ 8) : (cs ++ Str.ofString "'" ++ x).length ≤ 1000 := by
  have h3 : (Str.ofString "'").length = 1 := by decide
  rw [Str.length_append, Str.length_append, h3]
  omega
section
local macro_rules | `(tactic| k_mem) => `(tactic| assumption)
local macro_rules | `(tactic| k_all) => `(tactic| with_reducible assumption)
theorem law0 : PySem.Challenge.rw_ik0124_01.Holds := hd (by
  w_top off
  k_with_none
  (k_with "subscriptTail BinOp Subscript Add List Slice ref ref" => (k_here; k_dflt (refine' slice_three (s := ⟨_, _, _, _, _⟩) ?zqF ?zqN ?zqm ?zqi ?_; (case zqF => k_asm); (case zqN => k_asm); (case zqm => k_mem); (case zqi => assumption); k_whole); intro D9 X9 h9 F9 N9 l9 hi9; (k_lt l9); (try dsimp only)))
  (k_with "call type:object" => (k_here; k_dflt (refine' object_L ?zqF ?zqN ?_; (case zqF => k_asm); (case zqN => k_asm); k_whole); intro st h24 F24 N24 l12; (k_lt l12); (try dsimp only)))
  (k_with "ite" => first | ((with_reducible refine ite_no ?zqiteh ?_); (case zqiteh => with_reducible assumption)) | ((with_reducible refine ite_yes ?zqiteh ?_); (case zqiteh => with_reducible assumption)))
  (k_with "compareOp Eq str str" => (k_here; k_dflt (refine' eq_str_to ?zqhb ?_; (case zqhb => with_reducible assumption))))
  k_go0
  (all_goals try k_fold)
  refine abs_QE (by passes_own) (fun Q₀ E₀ hQ₀ hpo => ?_)
  (repeat' ((fail_if_success (with_reducible show wpAny _ _ (exec (Stmt.Assign _ (Expr.BoolOp _ _ _) _) _) _ _ _)); (fail_if_success (with_reducible show BoolPost _ _ _ _ _ _ _ _ _)); (fail_if_success (with_reducible show SkipPost _ _ _ _ _ _ _)); (fail_if_success (with_reducible show LCt.CompSrcT _ _ _ _ _ _ _ _ _ _ _ _ _ _ _)); (fail_if_success (with_reducible show wpAny _ _ (exec (Stmt.Return _ _) _) _ _ _)); (fail_if_success (with_reducible show wpAny _ _ (eval (Expr.ListComp _ _ _ _) _) _ _ _)); (fail_if_success (with_reducible show wpAny _ _ (compareOp CmpOp.Eq (Value.ref _) (Value.ref _)) _ _ _)); (fail_if_success (with_reducible show wpAny _ _ (call (Value.builtin "str.split") _) _ _ _)); (fail_if_success (with_reducible show wpAny _ _ (compareOp CmpOp.NotEq (Value.ref _) (Value.ref _)) _ _ _)); (fail_if_success (with_reducible show TextPost _ _ _ _ _ _ _ _ _ _ _ _ _ _ _)); (fail_if_success (with_reducible show wpAny _ _ (exec (Stmt.If _ _ _ _) _) _ _ _)); (fail_if_success (with_reducible show wpAny _ _ (call (Value.builtin "len") _) _ _ _)); (fail_if_success (with_reducible show StarOf _ _ _ _ _ _)); (fail_if_success (with_reducible show wpAny _ _ (call (Value.builtin "list.append") _) _ _ _)); (fail_if_success (with_reducible show LCg.CompSrc _ _ _ _ _ _ _ _ _ _ _ _ _ _)); (fail_if_success (with_reducible show wpAny _ _ (call (Value.ref _) _) _ _ _)); (fail_if_success (with_reducible show wpAny _ _ (call (Value.builtin "str.join") _) _ _ _)); (fail_if_success (with_reducible show wpAny _ _ (subscriptTail _ _ _ _) _ _ _)); (fail_if_success (with_reducible show wpAny _ _ (exec (Stmt.Assign _ (Expr.ListComp _ _ _ _) _) _) _ _ _)); (fail_if_success (with_reducible show wpAny _ _ (pyIter _) _ _ _)); (fail_if_success (with_reducible show wpAny _ _ (exec (Stmt.While _ _ _ _) _) _ _ _)); (fail_if_success (with_reducible show wpAny _ _ (compareOp CmpOp.NotIn (Value.ref _) (Value.ref _)) _ _ _)); (fail_if_success (with_reducible show wpAny _ _ (exec (Stmt.For _ _ _ _ _) _) _ _ _)); (first | (k_unfold; (try dsimp only)) | (k_end; kc_close) | walk1 | (dsimp only; walk1) | (leave1; (try dsimp only)) | fail "no step")))
  rename_i F0 N0 l0
  refine For_turns (by k_asm) ?_
  (repeat' ((fail_if_success (with_reducible show wpAny _ _ (exec (Stmt.Assign _ (Expr.BoolOp _ _ _) _) _) _ _ _)); (fail_if_success (with_reducible show BoolPost _ _ _ _ _ _ _ _ _)); (fail_if_success (with_reducible show SkipPost _ _ _ _ _ _ _)); (fail_if_success (with_reducible show LCt.CompSrcT _ _ _ _ _ _ _ _ _ _ _ _ _ _ _)); (fail_if_success (with_reducible show wpAny _ _ (exec (Stmt.Return _ _) _) _ _ _)); (fail_if_success (with_reducible show wpAny _ _ (eval (Expr.ListComp _ _ _ _) _) _ _ _)); (fail_if_success (with_reducible show wpAny _ _ (compareOp CmpOp.Eq (Value.ref _) (Value.ref _)) _ _ _)); (fail_if_success (with_reducible show wpAny _ _ (call (Value.builtin "str.split") _) _ _ _)); (fail_if_success (with_reducible show wpAny _ _ (compareOp CmpOp.NotEq (Value.ref _) (Value.ref _)) _ _ _)); (fail_if_success (with_reducible show TextPost _ _ _ _ _ _ _ _ _ _ _ _ _ _ _)); (fail_if_success (with_reducible show wpAny _ _ (exec (Stmt.If _ _ _ _) _) _ _ _)); (fail_if_success (with_reducible show wpAny _ _ (call (Value.builtin "len") _) _ _ _)); (fail_if_success (with_reducible show StarOf _ _ _ _ _ _)); (fail_if_success (with_reducible show wpAny _ _ (call (Value.builtin "list.append") _) _ _ _)); (fail_if_success (with_reducible show LCg.CompSrc _ _ _ _ _ _ _ _ _ _ _ _ _ _)); (fail_if_success (with_reducible show wpAny _ _ (call (Value.ref _) _) _ _ _)); (fail_if_success (with_reducible show wpAny _ _ (call (Value.builtin "str.join") _) _ _ _)); (fail_if_success (with_reducible show wpAny _ _ (subscriptTail _ _ _ _) _ _ _)); (fail_if_success (with_reducible show wpAny _ _ (exec (Stmt.Assign _ (Expr.ListComp _ _ _ _) _) _) _ _ _)); (fail_if_success (with_reducible show wpAny _ _ (pyIter _) _ _ _)); (fail_if_success (with_reducible show wpAny _ _ (exec (Stmt.While _ _ _ _) _) _ _ _)); (fail_if_success (with_reducible show wpAny _ _ (compareOp CmpOp.NotIn (Value.ref _) (Value.ref _)) _ _ _)); (fail_if_success (with_reducible show wpAny _ _ (exec (Stmt.For _ _ _ _ _) _) _ _ _)); (first | (k_unfold; (try dsimp only)) | (k_end; kc_close) | walk1 | (dsimp only; walk1) | (leave1; (try dsimp only)) | fail "no step")))
  walk1
  (repeat' ((fail_if_success (with_reducible show wpAny _ _ (exec (Stmt.Assign _ (Expr.BoolOp _ _ _) _) _) _ _ _)); (fail_if_success (with_reducible show BoolPost _ _ _ _ _ _ _ _ _)); (fail_if_success (with_reducible show SkipPost _ _ _ _ _ _ _)); (fail_if_success (with_reducible show LCt.CompSrcT _ _ _ _ _ _ _ _ _ _ _ _ _ _ _)); (fail_if_success (with_reducible show wpAny _ _ (exec (Stmt.Return _ _) _) _ _ _)); (fail_if_success (with_reducible show wpAny _ _ (eval (Expr.ListComp _ _ _ _) _) _ _ _)); (fail_if_success (with_reducible show wpAny _ _ (compareOp CmpOp.Eq (Value.ref _) (Value.ref _)) _ _ _)); (fail_if_success (with_reducible show wpAny _ _ (call (Value.builtin "str.split") _) _ _ _)); (fail_if_success (with_reducible show wpAny _ _ (compareOp CmpOp.NotEq (Value.ref _) (Value.ref _)) _ _ _)); (fail_if_success (with_reducible show TextPost _ _ _ _ _ _ _ _ _ _ _ _ _ _ _)); (fail_if_success (with_reducible show wpAny _ _ (exec (Stmt.If _ _ _ _) _) _ _ _)); (fail_if_success (with_reducible show wpAny _ _ (call (Value.builtin "len") _) _ _ _)); (fail_if_success (with_reducible show StarOf _ _ _ _ _ _)); (fail_if_success (with_reducible show wpAny _ _ (call (Value.builtin "list.append") _) _ _ _)); (fail_if_success (with_reducible show LCg.CompSrc _ _ _ _ _ _ _ _ _ _ _ _ _ _)); (fail_if_success (with_reducible show wpAny _ _ (call (Value.ref _) _) _ _ _)); (fail_if_success (with_reducible show wpAny _ _ (call (Value.builtin "str.join") _) _ _ _)); (fail_if_success (with_reducible show wpAny _ _ (subscriptTail _ _ _ _) _ _ _)); (fail_if_success (with_reducible show wpAny _ _ (exec (Stmt.Assign _ (Expr.ListComp _ _ _ _) _) _) _ _ _)); (fail_if_success (with_reducible show wpAny _ _ (pyIter _) _ _ _)); (fail_if_success (with_reducible show wpAny _ _ (exec (Stmt.While _ _ _ _) _) _ _ _)); (fail_if_success (with_reducible show wpAny _ _ (compareOp CmpOp.NotIn (Value.ref _) (Value.ref _)) _ _ _)); (fail_if_success (with_reducible show wpAny _ _ (exec (Stmt.For _ _ _ _ _) _) _ _ _)); (first | (k_unfold; (try dsimp only)) | (k_end; kc_close) | walk1 | (dsimp only; walk1) | (leave1; (try dsimp only)) | fail "no step")))
  walk1
  (repeat' ((fail_if_success (with_reducible show wpAny _ _ (exec (Stmt.Assign _ (Expr.BoolOp _ _ _) _) _) _ _ _)); (fail_if_success (with_reducible show BoolPost _ _ _ _ _ _ _ _ _)); (fail_if_success (with_reducible show SkipPost _ _ _ _ _ _ _)); (fail_if_success (with_reducible show LCt.CompSrcT _ _ _ _ _ _ _ _ _ _ _ _ _ _ _)); (fail_if_success (with_reducible show wpAny _ _ (exec (Stmt.Return _ _) _) _ _ _)); (fail_if_success (with_reducible show wpAny _ _ (eval (Expr.ListComp _ _ _ _) _) _ _ _)); (fail_if_success (with_reducible show wpAny _ _ (compareOp CmpOp.Eq (Value.ref _) (Value.ref _)) _ _ _)); (fail_if_success (with_reducible show wpAny _ _ (call (Value.builtin "str.split") _) _ _ _)); (fail_if_success (with_reducible show wpAny _ _ (compareOp CmpOp.NotEq (Value.ref _) (Value.ref _)) _ _ _)); (fail_if_success (with_reducible show TextPost _ _ _ _ _ _ _ _ _ _ _ _ _ _ _)); (fail_if_success (with_reducible show wpAny _ _ (exec (Stmt.If _ _ _ _) _) _ _ _)); (fail_if_success (with_reducible show wpAny _ _ (call (Value.builtin "len") _) _ _ _)); (fail_if_success (with_reducible show StarOf _ _ _ _ _ _)); (fail_if_success (with_reducible show wpAny _ _ (call (Value.builtin "list.append") _) _ _ _)); (fail_if_success (with_reducible show LCg.CompSrc _ _ _ _ _ _ _ _ _ _ _ _ _ _)); (fail_if_success (with_reducible show wpAny _ _ (call (Value.ref _) _) _ _ _)); (fail_if_success (with_reducible show wpAny _ _ (call (Value.builtin "str.join") _) _ _ _)); (fail_if_success (with_reducible show wpAny _ _ (subscriptTail _ _ _ _) _ _ _)); (fail_if_success (with_reducible show wpAny _ _ (exec (Stmt.Assign _ (Expr.ListComp _ _ _ _) _) _) _ _ _)); (fail_if_success (with_reducible show wpAny _ _ (pyIter _) _ _ _)); (fail_if_success (with_reducible show wpAny _ _ (exec (Stmt.While _ _ _ _) _) _ _ _)); (fail_if_success (with_reducible show wpAny _ _ (compareOp CmpOp.NotIn (Value.ref _) (Value.ref _)) _ _ _)); (fail_if_success (with_reducible show wpAny _ _ (exec (Stmt.For _ _ _ _ _) _) _ _ _)); (first | (k_unfold; (try dsimp only)) | (k_end; kc_close) | walk1 | (dsimp only; walk1) | (leave1; (try dsimp only)) | fail "no step")))
  rename_i w s₀ s₁ mg mb G0 Y0 fa o0 pm0 cd doc0 ho0 hcd0 hg0 XM0 V0 TT0 BT0 TE0 TW0 ms hs0 hlay0 hLy0 hr00 hl20 ad7 ad6 sa svs ad3 hL0 ra0 w10 r00 hI0 hr0 hc0 hc1 hD0 h10 tk10 oV0 oF0 oS0 lf0 lf1 rt0 X00 X0 T0 K0 l00 ra h20 l10 h21 tk0 ga h22 l11 h23 tk1 h25 oS D1 ws1 h26 hI1 hC1 hL1 l13 D2 h27 l14 D3 ws3 h28 F28 N28 hI3 l15
  have hlow : @LT.lt Nat _ (s₁.heap.objs.size + 1 + 1 + 1) ra ∧ @LT.lt Nat _ ra ga ∧ @LT.lt Nat _ ga st ∧ @LT.lt Nat _ 64 (s₁.heap.objs.size) := ⟨l10.1, l11.1, l12.1, l00⟩
  refine iter_listTurns (vs := X9) (n := 0) (lo := lstO X9 0) (news := (ra, lstO [] 0) :: (ga, lstO [] 0) :: (s₁.heap.objs.size + 1 + 1 + 1, oV0) :: (s₁.heap.objs.size + 1 + 1, oF0) :: (s₁.heap.objs.size + 1, oS) :: (64, tabObj #[]) :: [(D9, lstO X9 0), (D3, W.listOf ws3.toArray 0), (st, objO)]) rfl F9 (cb_drop N9 (by kcj_all)) (by k_mem) rfl rfl (fun I hI => ?_)
  refine items_ind (L1 s₁.heap.objs.size ra ga st D9 I X9) ?nil ?cons _ _ _ ⟨⟨[], _, [], [], 0, 0, oV0, oF0, oS, _, _, #[], _, rfl, hi9, ?z1, ?z2, .nil, .nil, ?z3, lf0, lf1, l0, .inl rfl, ?z4, ?z5, ?z6⟩, rfl, rfl⟩
  case z1 => simp only [List.length_nil, List.length_take]; omega
  case z2 => simp only [List.length_nil, List.length_take, List.length_append, List.length_cons]; omega
  case z3 => intro a ha; cases ha
  case z4 => k_mem
  case z5 => k_mem
  case z6 => exact fun p hp => offT_low hlow (low_of ⟨⟨l9.2.2.2.1, l15.2.2.1⟩, trivial⟩ p hp) (hI p (.tail _ (.tail _ (.tail _ (.tail _ (.tail _ (.tail _ hp)))))))
  -- L1 BEGIN
  case cons =>
    rintro v r m₁ news₁ ⟨⟨rs, rest, rv, gv, n1, n2, oV, oF, oS, v1, v2, ps, tail, rfl, hir, hle, hge, hrows, hrngs, hok, hV, hF, hS, hps, hD9, hst, htail⟩, hmr, hmg⟩ IH
    cases hir
    rename_i x tx rest hir
    refine ItemsRest.val (fun h₁ tk₁ F₁ => AllObj.cons fun oI hoI => AllObj.nil fun N₁ => ?_)
    refine abs_post (fun R₁ Q₁ hR₁ => ?_)
    replace F₁ := frK F₁ hmr
    replace F₁ := frK (x := Str.ofString "ranges") (v := .ref ga) F₁ hmg
    simp only [List.cons_append, List.nil_append] at N₁
    have lI := hI
    k_lt lI
    have of3 := fun p hp => (htail p hp).2.2.1
    have of2 := fun p hp => (htail p hp).2.2.2.1
    have of1 := fun p hp => (htail p hp).2.2.2.2.1
    have ofr := fun p hp => (htail p hp).1
    have ofg := fun p hp => (htail p hp).2.1
    have of64 := fun p hp => (htail p hp).2.2.2.2.2.1
    have hoffI := fun p hp => (htail p hp).2.2.2.2.2.2
    (repeat' ((fail_if_success (with_reducible show wpAny _ _ (exec (Stmt.Assign _ (Expr.BoolOp _ _ _) _) _) _ _ _)); (fail_if_success (with_reducible show BoolPost _ _ _ _ _ _ _ _ _)); (fail_if_success (with_reducible show SkipPost _ _ _ _ _ _ _)); (fail_if_success (with_reducible show LCt.CompSrcT _ _ _ _ _ _ _ _ _ _ _ _ _ _ _)); (fail_if_success (with_reducible show wpAny _ _ (exec (Stmt.Return _ _) _) _ _ _)); (fail_if_success (with_reducible show wpAny _ _ (eval (Expr.ListComp _ _ _ _) _) _ _ _)); (fail_if_success (with_reducible show wpAny _ _ (compareOp CmpOp.Eq (Value.ref _) (Value.ref _)) _ _ _)); (fail_if_success (with_reducible show wpAny _ _ (call (Value.builtin "str.split") _) _ _ _)); (fail_if_success (with_reducible show wpAny _ _ (compareOp CmpOp.NotEq (Value.ref _) (Value.ref _)) _ _ _)); (fail_if_success (with_reducible show TextPost _ _ _ _ _ _ _ _ _ _ _ _ _ _ _)); (fail_if_success (with_reducible show wpAny _ _ (exec (Stmt.If _ _ _ _) _) _ _ _)); (fail_if_success (with_reducible show wpAny _ _ (call (Value.builtin "len") _) _ _ _)); (fail_if_success (with_reducible show StarOf _ _ _ _ _ _)); (fail_if_success (with_reducible show wpAny _ _ (call (Value.builtin "list.append") _) _ _ _)); (fail_if_success (with_reducible show LCg.CompSrc _ _ _ _ _ _ _ _ _ _ _ _ _ _)); (fail_if_success (with_reducible show wpAny _ _ (call (Value.ref _) _) _ _ _)); (fail_if_success (with_reducible show wpAny _ _ (call (Value.builtin "str.join") _) _ _ _)); (fail_if_success (with_reducible show wpAny _ _ (subscriptTail _ _ _ _) _ _ _)); (fail_if_success (with_reducible show wpAny _ _ (exec (Stmt.Assign _ (Expr.ListComp _ _ _ _) _) _) _ _ _)); (fail_if_success (with_reducible show wpAny _ _ (pyIter _) _ _ _)); (fail_if_success (with_reducible show wpAny _ _ (exec (Stmt.While _ _ _ _) _) _ _ _)); (fail_if_success (with_reducible show wpAny _ _ (compareOp CmpOp.NotIn (Value.ref _) (Value.ref _)) _ _ _)); (fail_if_success (with_reducible show wpAny _ _ (exec (Stmt.For _ _ _ _ _) _) _ _ _)); (first | (k_unfold; (try dsimp only)) | (k_end; kc_close) | walk1 | (dsimp only; walk1) | (leave1; (try dsimp only)) | fail "no step")))
    refine item_cs (by k_asm) (by k_mem) (fun cs tcs hcs => ?_)
    have hcl := csOk_len hcs
    (repeat' ((fail_if_success (with_reducible show wpAny _ _ (exec (Stmt.Assign _ (Expr.BoolOp _ _ _) _) _) _ _ _)); (fail_if_success (with_reducible show BoolPost _ _ _ _ _ _ _ _ _)); (fail_if_success (with_reducible show SkipPost _ _ _ _ _ _ _)); (fail_if_success (with_reducible show LCt.CompSrcT _ _ _ _ _ _ _ _ _ _ _ _ _ _ _)); (fail_if_success (with_reducible show wpAny _ _ (exec (Stmt.Return _ _) _) _ _ _)); (fail_if_success (with_reducible show wpAny _ _ (eval (Expr.ListComp _ _ _ _) _) _ _ _)); (fail_if_success (with_reducible show wpAny _ _ (compareOp CmpOp.Eq (Value.ref _) (Value.ref _)) _ _ _)); (fail_if_success (with_reducible show wpAny _ _ (call (Value.builtin "str.split") _) _ _ _)); (fail_if_success (with_reducible show wpAny _ _ (compareOp CmpOp.NotEq (Value.ref _) (Value.ref _)) _ _ _)); (fail_if_success (with_reducible show TextPost _ _ _ _ _ _ _ _ _ _ _ _ _ _ _)); (fail_if_success (with_reducible show wpAny _ _ (exec (Stmt.If _ _ _ _) _) _ _ _)); (fail_if_success (with_reducible show wpAny _ _ (call (Value.builtin "len") _) _ _ _)); (fail_if_success (with_reducible show StarOf _ _ _ _ _ _)); (fail_if_success (with_reducible show wpAny _ _ (call (Value.builtin "list.append") _) _ _ _)); (fail_if_success (with_reducible show LCg.CompSrc _ _ _ _ _ _ _ _ _ _ _ _ _ _)); (fail_if_success (with_reducible show wpAny _ _ (call (Value.ref _) _) _ _ _)); (fail_if_success (with_reducible show wpAny _ _ (call (Value.builtin "str.join") _) _ _ _)); (fail_if_success (with_reducible show wpAny _ _ (subscriptTail _ _ _ _) _ _ _)); (fail_if_success (with_reducible show wpAny _ _ (exec (Stmt.Assign _ (Expr.ListComp _ _ _ _) _) _) _ _ _)); (fail_if_success (with_reducible show wpAny _ _ (pyIter _) _ _ _)); (fail_if_success (with_reducible show wpAny _ _ (exec (Stmt.While _ _ _ _) _) _ _ _)); (fail_if_success (with_reducible show wpAny _ _ (compareOp CmpOp.NotIn (Value.ref _) (Value.ref _)) _ _ _)); (fail_if_success (with_reducible show wpAny _ _ (exec (Stmt.For _ _ _ _ _) _) _ _ _)); (first | (k_unfold; (try dsimp only)) | (k_end; kc_close) | walk1 | (dsimp only; walk1) | (leave1; (try dsimp only)) | fail "no step")))
    k_dflt (refine' CtrO.use (tag_c _ _ _) ?k1 ?k2 ?k3 ?k4 ?k5 ?kK ?kd ?ku ?kp ?_; (case k1 => k_asm); (case k2 => k_asm); (case k3 => k_asm); (case k4 => k_asm); (case k5 => k_asm); (case kK => exact rfl); (case kd => ktr_room); (case ku => ktr_units); (case kp => first | trivial | k_mem | assumption); k_whole)
    intro rG oG hG tkG FG NG lG pG
    obtain ⟨vG, tag, rfl, hvG, htag⟩ := pG
    k_lt lG
    try dsimp only
    (repeat' ((fail_if_success (with_reducible show wpAny _ _ (exec (Stmt.Assign _ (Expr.BoolOp _ _ _) _) _) _ _ _)); (fail_if_success (with_reducible show BoolPost _ _ _ _ _ _ _ _ _)); (fail_if_success (with_reducible show SkipPost _ _ _ _ _ _ _)); (fail_if_success (with_reducible show LCt.CompSrcT _ _ _ _ _ _ _ _ _ _ _ _ _ _ _)); (fail_if_success (with_reducible show wpAny _ _ (exec (Stmt.Return _ _) _) _ _ _)); (fail_if_success (with_reducible show wpAny _ _ (eval (Expr.ListComp _ _ _ _) _) _ _ _)); (fail_if_success (with_reducible show wpAny _ _ (compareOp CmpOp.Eq (Value.ref _) (Value.ref _)) _ _ _)); (fail_if_success (with_reducible show wpAny _ _ (call (Value.builtin "str.split") _) _ _ _)); (fail_if_success (with_reducible show wpAny _ _ (compareOp CmpOp.NotEq (Value.ref _) (Value.ref _)) _ _ _)); (fail_if_success (with_reducible show TextPost _ _ _ _ _ _ _ _ _ _ _ _ _ _ _)); (fail_if_success (with_reducible show wpAny _ _ (exec (Stmt.If _ _ _ _) _) _ _ _)); (fail_if_success (with_reducible show wpAny _ _ (call (Value.builtin "len") _) _ _ _)); (fail_if_success (with_reducible show StarOf _ _ _ _ _ _)); (fail_if_success (with_reducible show wpAny _ _ (call (Value.builtin "list.append") _) _ _ _)); (fail_if_success (with_reducible show LCg.CompSrc _ _ _ _ _ _ _ _ _ _ _ _ _ _)); (fail_if_success (with_reducible show wpAny _ _ (call (Value.ref _) _) _ _ _)); (fail_if_success (with_reducible show wpAny _ _ (call (Value.builtin "str.join") _) _ _ _)); (fail_if_success (with_reducible show wpAny _ _ (subscriptTail _ _ _ _) _ _ _)); (fail_if_success (with_reducible show wpAny _ _ (exec (Stmt.Assign _ (Expr.ListComp _ _ _ _) _) _) _ _ _)); (fail_if_success (with_reducible show wpAny _ _ (pyIter _) _ _ _)); (fail_if_success (with_reducible show wpAny _ _ (exec (Stmt.While _ _ _ _) _) _ _ _)); (fail_if_success (with_reducible show wpAny _ _ (compareOp CmpOp.NotIn (Value.ref _) (Value.ref _)) _ _ _)); (fail_if_success (with_reducible show wpAny _ _ (exec (Stmt.For _ _ _ _ _) _) _ _ _)); (first | (k_unfold; (try dsimp only)) | (k_end; kc_close) | walk1 | (dsimp only; walk1) | (leave1; (try dsimp only)) | fail "no step")))
    have hz := hvG.len_eq
    refine slice_tag (s := ⟨_, _, _, _, _⟩) (by k_asm) (by k_asm) (by k_mem) (by have := htag.2.1; omega) (fun rN i hN hi1 FN NN lN => ?_)
    k_lt lN
    have hgood := take_good htag.2.2 i
    have hl3 := take_le3 htag.2.1 i
    obtain ⟨hwl, hwok⟩ := word_len hgood hl3
    unfold wordT at hwl
    have hvN := hvG.take' i
    try dsimp only
    (repeat' ((fail_if_success (with_reducible show wpAny _ _ (exec (Stmt.Assign _ (Expr.BoolOp _ _ _) _) _) _ _ _)); (fail_if_success (with_reducible show BoolPost _ _ _ _ _ _ _ _ _)); (fail_if_success (with_reducible show SkipPost _ _ _ _ _ _ _)); (fail_if_success (with_reducible show LCt.CompSrcT _ _ _ _ _ _ _ _ _ _ _ _ _ _ _)); (fail_if_success (with_reducible show wpAny _ _ (exec (Stmt.Return _ _) _) _ _ _)); (fail_if_success (with_reducible show wpAny _ _ (eval (Expr.ListComp _ _ _ _) _) _ _ _)); (fail_if_success (with_reducible show wpAny _ _ (compareOp CmpOp.Eq (Value.ref _) (Value.ref _)) _ _ _)); (fail_if_success (with_reducible show wpAny _ _ (call (Value.builtin "str.split") _) _ _ _)); (fail_if_success (with_reducible show wpAny _ _ (compareOp CmpOp.NotEq (Value.ref _) (Value.ref _)) _ _ _)); (fail_if_success (with_reducible show TextPost _ _ _ _ _ _ _ _ _ _ _ _ _ _ _)); (fail_if_success (with_reducible show wpAny _ _ (exec (Stmt.If _ _ _ _) _) _ _ _)); (fail_if_success (with_reducible show wpAny _ _ (call (Value.builtin "len") _) _ _ _)); (fail_if_success (with_reducible show StarOf _ _ _ _ _ _)); (fail_if_success (with_reducible show wpAny _ _ (call (Value.builtin "list.append") _) _ _ _)); (fail_if_success (with_reducible show LCg.CompSrc _ _ _ _ _ _ _ _ _ _ _ _ _ _)); (fail_if_success (with_reducible show wpAny _ _ (call (Value.ref _) _) _ _ _)); (fail_if_success (with_reducible show wpAny _ _ (call (Value.builtin "str.join") _) _ _ _)); (fail_if_success (with_reducible show wpAny _ _ (subscriptTail _ _ _ _) _ _ _)); (fail_if_success (with_reducible show wpAny _ _ (exec (Stmt.Assign _ (Expr.ListComp _ _ _ _) _) _) _ _ _)); (fail_if_success (with_reducible show wpAny _ _ (pyIter _) _ _ _)); (fail_if_success (with_reducible show wpAny _ _ (exec (Stmt.While _ _ _ _) _) _ _ _)); (fail_if_success (with_reducible show wpAny _ _ (compareOp CmpOp.NotIn (Value.ref _) (Value.ref _)) _ _ _)); (fail_if_success (with_reducible show wpAny _ _ (exec (Stmt.For _ _ _ _ _) _) _ _ _)); (first | (k_unfold; (try dsimp only)) | (k_end; kc_close) | walk1 | (dsimp only; walk1) | (leave1; (try dsimp only)) | fail "no step")))
    refine join_L (by k_asm) (by k_mem) hvN hwok (fun tw kw => ?_)
    try dsimp only
    (repeat' ((fail_if_success (with_reducible show wpAny _ _ (exec (Stmt.Assign _ (Expr.BoolOp _ _ _) _) _) _ _ _)); (fail_if_success (with_reducible show BoolPost _ _ _ _ _ _ _ _ _)); (fail_if_success (with_reducible show SkipPost _ _ _ _ _ _ _)); (fail_if_success (with_reducible show LCt.CompSrcT _ _ _ _ _ _ _ _ _ _ _ _ _ _ _)); (fail_if_success (with_reducible show wpAny _ _ (exec (Stmt.Return _ _) _) _ _ _)); (fail_if_success (with_reducible show wpAny _ _ (eval (Expr.ListComp _ _ _ _) _) _ _ _)); (fail_if_success (with_reducible show wpAny _ _ (compareOp CmpOp.Eq (Value.ref _) (Value.ref _)) _ _ _)); (fail_if_success (with_reducible show wpAny _ _ (call (Value.builtin "str.split") _) _ _ _)); (fail_if_success (with_reducible show wpAny _ _ (compareOp CmpOp.NotEq (Value.ref _) (Value.ref _)) _ _ _)); (fail_if_success (with_reducible show TextPost _ _ _ _ _ _ _ _ _ _ _ _ _ _ _)); (fail_if_success (with_reducible show wpAny _ _ (exec (Stmt.If _ _ _ _) _) _ _ _)); (fail_if_success (with_reducible show wpAny _ _ (call (Value.builtin "len") _) _ _ _)); (fail_if_success (with_reducible show StarOf _ _ _ _ _ _)); (fail_if_success (with_reducible show wpAny _ _ (call (Value.builtin "list.append") _) _ _ _)); (fail_if_success (with_reducible show LCg.CompSrc _ _ _ _ _ _ _ _ _ _ _ _ _ _)); (fail_if_success (with_reducible show wpAny _ _ (call (Value.ref _) _) _ _ _)); (fail_if_success (with_reducible show wpAny _ _ (call (Value.builtin "str.join") _) _ _ _)); (fail_if_success (with_reducible show wpAny _ _ (subscriptTail _ _ _ _) _ _ _)); (fail_if_success (with_reducible show wpAny _ _ (exec (Stmt.Assign _ (Expr.ListComp _ _ _ _) _) _) _ _ _)); (fail_if_success (with_reducible show wpAny _ _ (pyIter _) _ _ _)); (fail_if_success (with_reducible show wpAny _ _ (exec (Stmt.While _ _ _ _) _) _ _ _)); (fail_if_success (with_reducible show wpAny _ _ (compareOp CmpOp.NotIn (Value.ref _) (Value.ref _)) _ _ _)); (fail_if_success (with_reducible show wpAny _ _ (exec (Stmt.For _ _ _ _ _) _) _ _ _)); (first | (k_unfold; (try dsimp only)) | (k_end; kc_close) | walk1 | (dsimp only; walk1) | (leave1; (try dsimp only)) | fail "no step")))
    k_dflt (refine' CtrV.use (bar_c _ _ _ (head_len hcl hwl)) ?k1 ?k2 ?k3 ?k4 ?k5 ?kK ?kd ?ku ?kp ?_; (case k1 => k_asm); (case k2 => k_asm); (case k3 => k_asm); (case k4 => k_asm); (case k5 => k_asm); (case kK => exact rfl); (case kd => ktr_room); (case ku => ktr_units); (case kp => first | trivial | k_mem | assumption); k_whole)
    intro v9 h9 tk9 F9 N9 hp9
    obtain ⟨tF, hv9⟩ := hp9
    obtain ⟨fr, hfr, hfl, hft⟩ := front_ok hcl hwl
    rw [← hfr] at hv9
    subst hv9
    clear hfr
    try dsimp only
    (repeat' ((fail_if_success (with_reducible show wpAny _ _ (exec (Stmt.Assign _ (Expr.BoolOp _ _ _) _) _) _ _ _)); (fail_if_success (with_reducible show BoolPost _ _ _ _ _ _ _ _ _)); (fail_if_success (with_reducible show SkipPost _ _ _ _ _ _ _)); (fail_if_success (with_reducible show LCt.CompSrcT _ _ _ _ _ _ _ _ _ _ _ _ _ _ _)); (fail_if_success (with_reducible show wpAny _ _ (exec (Stmt.Return _ _) _) _ _ _)); (fail_if_success (with_reducible show wpAny _ _ (eval (Expr.ListComp _ _ _ _) _) _ _ _)); (fail_if_success (with_reducible show wpAny _ _ (compareOp CmpOp.Eq (Value.ref _) (Value.ref _)) _ _ _)); (fail_if_success (with_reducible show wpAny _ _ (call (Value.builtin "str.split") _) _ _ _)); (fail_if_success (with_reducible show wpAny _ _ (compareOp CmpOp.NotEq (Value.ref _) (Value.ref _)) _ _ _)); (fail_if_success (with_reducible show TextPost _ _ _ _ _ _ _ _ _ _ _ _ _ _ _)); (fail_if_success (with_reducible show wpAny _ _ (exec (Stmt.If _ _ _ _) _) _ _ _)); (fail_if_success (with_reducible show wpAny _ _ (call (Value.builtin "len") _) _ _ _)); (fail_if_success (with_reducible show StarOf _ _ _ _ _ _)); (fail_if_success (with_reducible show wpAny _ _ (call (Value.builtin "list.append") _) _ _ _)); (fail_if_success (with_reducible show LCg.CompSrc _ _ _ _ _ _ _ _ _ _ _ _ _ _)); (fail_if_success (with_reducible show wpAny _ _ (call (Value.ref _) _) _ _ _)); (fail_if_success (with_reducible show wpAny _ _ (call (Value.builtin "str.join") _) _ _ _)); (fail_if_success (with_reducible show wpAny _ _ (subscriptTail _ _ _ _) _ _ _)); (fail_if_success (with_reducible show wpAny _ _ (exec (Stmt.Assign _ (Expr.ListComp _ _ _ _) _) _) _ _ _)); (fail_if_success (with_reducible show wpAny _ _ (pyIter _) _ _ _)); (fail_if_success (with_reducible show wpAny _ _ (exec (Stmt.While _ _ _ _) _) _ _ _)); (fail_if_success (with_reducible show wpAny _ _ (compareOp CmpOp.NotIn (Value.ref _) (Value.ref _)) _ _ _)); (fail_if_success (with_reducible show wpAny _ _ (exec (Stmt.For _ _ _ _ _) _) _ _ _)); (first | (k_unfold; (try dsimp only)) | (k_end; kc_close) | walk1 | (dsimp only; walk1) | (leave1; (try dsimp only)) | fail "no step")))
    refine LCg.Assign_ListComp_U (F₀ := by k_asm) (by rfl) (by with_unfolding_all rfl) (by with_unfolding_all rfl) (by decide) (by rfl) (by decide) (by rfl) (by rfl) (by rfl) ?_
    (repeat' ((fail_if_success (with_reducible show wpAny _ _ (exec (Stmt.Assign _ (Expr.BoolOp _ _ _) _) _) _ _ _)); (fail_if_success (with_reducible show BoolPost _ _ _ _ _ _ _ _ _)); (fail_if_success (with_reducible show SkipPost _ _ _ _ _ _ _)); (fail_if_success (with_reducible show LCt.CompSrcT _ _ _ _ _ _ _ _ _ _ _ _ _ _ _)); (fail_if_success (with_reducible show wpAny _ _ (exec (Stmt.Return _ _) _) _ _ _)); (fail_if_success (with_reducible show wpAny _ _ (eval (Expr.ListComp _ _ _ _) _) _ _ _)); (fail_if_success (with_reducible show wpAny _ _ (compareOp CmpOp.Eq (Value.ref _) (Value.ref _)) _ _ _)); (fail_if_success (with_reducible show wpAny _ _ (call (Value.builtin "str.split") _) _ _ _)); (fail_if_success (with_reducible show wpAny _ _ (compareOp CmpOp.NotEq (Value.ref _) (Value.ref _)) _ _ _)); (fail_if_success (with_reducible show TextPost _ _ _ _ _ _ _ _ _ _ _ _ _ _ _)); (fail_if_success (with_reducible show wpAny _ _ (exec (Stmt.If _ _ _ _) _) _ _ _)); (fail_if_success (with_reducible show wpAny _ _ (call (Value.builtin "len") _) _ _ _)); (fail_if_success (with_reducible show StarOf _ _ _ _ _ _)); (fail_if_success (with_reducible show wpAny _ _ (call (Value.builtin "list.append") _) _ _ _)); (fail_if_success (with_reducible show LCg.CompSrc _ _ _ _ _ _ _ _ _ _ _ _ _ _)); (fail_if_success (with_reducible show wpAny _ _ (call (Value.ref _) _) _ _ _)); (fail_if_success (with_reducible show wpAny _ _ (call (Value.builtin "str.join") _) _ _ _)); (fail_if_success (with_reducible show wpAny _ _ (subscriptTail _ _ _ _) _ _ _)); (fail_if_success (with_reducible show wpAny _ _ (exec (Stmt.Assign _ (Expr.ListComp _ _ _ _) _) _) _ _ _)); (fail_if_success (with_reducible show wpAny _ _ (pyIter _) _ _ _)); (fail_if_success (with_reducible show wpAny _ _ (exec (Stmt.While _ _ _ _) _) _ _ _)); (fail_if_success (with_reducible show wpAny _ _ (compareOp CmpOp.NotIn (Value.ref _) (Value.ref _)) _ _ _)); (fail_if_success (with_reducible show wpAny _ _ (exec (Stmt.For _ _ _ _ _) _) _ _ _)); (first | (k_unfold; (try dsimp only)) | (k_end; kc_close) | walk1 | (dsimp only; walk1) | (leave1; (try dsimp only)) | fail "no step")))
    rename_i oF2 dF2 lA hA FA NA llA
    refine LCg.CompSrc.ledger (k := 0) (by rfl) (by k_asm) (by k_asm) (.head _) (by exact (show 2 ≤ sizeLine by decide)) ?_
    intro gA
    refine LCg.CompRest.succ (fun v Ia oIa Ca oCa Da ma ha tka Ea hPa hoCa hma Fa Na offa nea => ?_)
    obtain rfl : v = .str (Str.ofString "'*") _ := (Option.some.inj hPa).symm
    have offb := offa
    simp only [LCg.Off3] at offb
    have h64a := offb.2.2.2.2.2.2.2.2.2.2.1
    clear offb
    (repeat' ((fail_if_success (with_reducible show wpAny _ _ (exec (Stmt.Assign _ (Expr.BoolOp _ _ _) _) _) _ _ _)); (fail_if_success (with_reducible show BoolPost _ _ _ _ _ _ _ _ _)); (fail_if_success (with_reducible show SkipPost _ _ _ _ _ _ _)); (fail_if_success (with_reducible show LCt.CompSrcT _ _ _ _ _ _ _ _ _ _ _ _ _ _ _)); (fail_if_success (with_reducible show wpAny _ _ (exec (Stmt.Return _ _) _) _ _ _)); (fail_if_success (with_reducible show wpAny _ _ (eval (Expr.ListComp _ _ _ _) _) _ _ _)); (fail_if_success (with_reducible show wpAny _ _ (compareOp CmpOp.Eq (Value.ref _) (Value.ref _)) _ _ _)); (fail_if_success (with_reducible show wpAny _ _ (call (Value.builtin "str.split") _) _ _ _)); (fail_if_success (with_reducible show wpAny _ _ (compareOp CmpOp.NotEq (Value.ref _) (Value.ref _)) _ _ _)); (fail_if_success (with_reducible show TextPost _ _ _ _ _ _ _ _ _ _ _ _ _ _ _)); (fail_if_success (with_reducible show wpAny _ _ (exec (Stmt.If _ _ _ _) _) _ _ _)); (fail_if_success (with_reducible show wpAny _ _ (call (Value.builtin "len") _) _ _ _)); (fail_if_success (with_reducible show StarOf _ _ _ _ _ _)); (fail_if_success (with_reducible show wpAny _ _ (call (Value.builtin "list.append") _) _ _ _)); (fail_if_success (with_reducible show LCg.CompSrc _ _ _ _ _ _ _ _ _ _ _ _ _ _)); (fail_if_success (with_reducible show wpAny _ _ (call (Value.ref _) _) _ _ _)); (fail_if_success (with_reducible show wpAny _ _ (call (Value.builtin "str.join") _) _ _ _)); (fail_if_success (with_reducible show wpAny _ _ (subscriptTail _ _ _ _) _ _ _)); (fail_if_success (with_reducible show wpAny _ _ (exec (Stmt.Assign _ (Expr.ListComp _ _ _ _) _) _) _ _ _)); (fail_if_success (with_reducible show wpAny _ _ (pyIter _) _ _ _)); (fail_if_success (with_reducible show wpAny _ _ (exec (Stmt.While _ _ _ _) _) _ _ _)); (fail_if_success (with_reducible show wpAny _ _ (compareOp CmpOp.NotIn (Value.ref _) (Value.ref _)) _ _ _)); (fail_if_success (with_reducible show wpAny _ _ (exec (Stmt.For _ _ _ _ _) _) _ _ _)); (first | (k_unfold; (try dsimp only)) | (k_end; kc_close) | walk1 | (dsimp only; walk1) | (leave1; (try dsimp only)) | fail "no step")))
    have N2 := news_pull 13 Na rfl
    simp only [List.eraseIdx_cons_succ, List.eraseIdx_cons_zero] at N2
    k_dflt (refine' CtrT.use (trans_c _ (fr ++ Str.ofString "'*") _ _ st ?hpl _ (toks_txt1 hft) (toks_ok1 _) (toks_adj1 _) _ ?hps _ ?hoff) ?k1 ?k2 ?k3 ?kc ?k4 ?k5 ?kK ?kd ?ku ?_; (case k1 => k_asm); (case k2 => k_asm); (case k3 => k_asm); (case kc => exact codeHd); (case k4 => exact N2); (case k5 => k_asm); (case kK => exact rfl); (case kd => ktr_room); (case ku => ktr_units); (case hps => assumption); (case hpl => (have h1 : (Str.ofString "'*").length ≤ 4 := by decide); (rw [Str.length_append]); omega); (case hoff => (intro p hp; (repeat' (rcases List.mem_cons.mp hp with rfl | hp)); (all_goals first | exact of64 _ hp | exact Ne.symm h64a.1 | exact Ne.symm h64a.2.1 | exact Ne.symm h64a.2.2 | (refine neN ?_; dsimp only; omega)))); k_whole)
    intro vT1 nwT1 hT1 tkT1 FT1 NT1 pT1
    obtain ⟨p1, its1, kk1, ps1, rfl, rfl, hps1, hpa1, hsz1, h641, hltT1⟩ := pT1
    have ltT1 := hltT1
    k_lt ltT1
    try dsimp only
    refine LCg.CompEnd.intro FT1 NT1 _ mem_rot5 (off3_pull offa (fun q hq => (mem_skip 10 hq)) (by k_mem) ⟨ltT1.1, ltT1.2.1, ltT1.2.2.1⟩) (.inr ⟨_, by k_mem, rfl, _, rfl⟩) ?_
    refine LCg.CompRest.succ (fun v Ib oIb Cb oCb Db mb' hb tkb Eb hPb hoCb hmb Fb Nb offb2 neb => ?_)
    obtain rfl : v = .str (Str.ofString "-*'*") _ := (Option.some.inj hPb).symm
    have offb3 := offb2
    simp only [LCg.Off3] at offb3
    replace h64a := offb3.2.1
    clear offb3
    (repeat' ((fail_if_success (with_reducible show wpAny _ _ (exec (Stmt.Assign _ (Expr.BoolOp _ _ _) _) _) _ _ _)); (fail_if_success (with_reducible show BoolPost _ _ _ _ _ _ _ _ _)); (fail_if_success (with_reducible show SkipPost _ _ _ _ _ _ _)); (fail_if_success (with_reducible show LCt.CompSrcT _ _ _ _ _ _ _ _ _ _ _ _ _ _ _)); (fail_if_success (with_reducible show wpAny _ _ (exec (Stmt.Return _ _) _) _ _ _)); (fail_if_success (with_reducible show wpAny _ _ (eval (Expr.ListComp _ _ _ _) _) _ _ _)); (fail_if_success (with_reducible show wpAny _ _ (compareOp CmpOp.Eq (Value.ref _) (Value.ref _)) _ _ _)); (fail_if_success (with_reducible show wpAny _ _ (call (Value.builtin "str.split") _) _ _ _)); (fail_if_success (with_reducible show wpAny _ _ (compareOp CmpOp.NotEq (Value.ref _) (Value.ref _)) _ _ _)); (fail_if_success (with_reducible show TextPost _ _ _ _ _ _ _ _ _ _ _ _ _ _ _)); (fail_if_success (with_reducible show wpAny _ _ (exec (Stmt.If _ _ _ _) _) _ _ _)); (fail_if_success (with_reducible show wpAny _ _ (call (Value.builtin "len") _) _ _ _)); (fail_if_success (with_reducible show StarOf _ _ _ _ _ _)); (fail_if_success (with_reducible show wpAny _ _ (call (Value.builtin "list.append") _) _ _ _)); (fail_if_success (with_reducible show LCg.CompSrc _ _ _ _ _ _ _ _ _ _ _ _ _ _)); (fail_if_success (with_reducible show wpAny _ _ (call (Value.ref _) _) _ _ _)); (fail_if_success (with_reducible show wpAny _ _ (call (Value.builtin "str.join") _) _ _ _)); (fail_if_success (with_reducible show wpAny _ _ (subscriptTail _ _ _ _) _ _ _)); (fail_if_success (with_reducible show wpAny _ _ (exec (Stmt.Assign _ (Expr.ListComp _ _ _ _) _) _) _ _ _)); (fail_if_success (with_reducible show wpAny _ _ (pyIter _) _ _ _)); (fail_if_success (with_reducible show wpAny _ _ (exec (Stmt.While _ _ _ _) _) _ _ _)); (fail_if_success (with_reducible show wpAny _ _ (compareOp CmpOp.NotIn (Value.ref _) (Value.ref _)) _ _ _)); (fail_if_success (with_reducible show wpAny _ _ (exec (Stmt.For _ _ _ _ _) _) _ _ _)); (first | (k_unfold; (try dsimp only)) | (k_end; kc_close) | walk1 | (dsimp only; walk1) | (leave1; (try dsimp only)) | fail "no step")))
    have N3 := news_pull 4 Nb rfl
    simp only [List.eraseIdx_cons_succ, List.eraseIdx_cons_zero] at N3
    k_dflt (refine' CtrT.use (trans_c _ (fr ++ Str.ofString "-*'*") _ _ st ?hpl _ (toks_txt2 hft) (toks_ok2 _) (toks_adj2 _) _ ?hps _ ?hoff) ?k1 ?k2 ?k3 ?kc ?k4 ?k5 ?kK ?kd ?ku ?_; (case k1 => k_asm); (case k2 => k_asm); (case k3 => k_asm); (case kc => exact codeHd); (case k4 => exact N3); (case k5 => k_asm); (case kK => exact rfl); (case kd => ktr_room); (case ku => ktr_units); (case hps => assumption); (case hpl => (have h1 : (Str.ofString "-*'*").length ≤ 4 := by decide); (rw [Str.length_append]); omega); (case hoff => (intro p hp; (repeat' (rcases List.mem_cons.mp hp with rfl | hp)); (all_goals first | exact of64 _ hp | exact Ne.symm h64a.1 | exact Ne.symm h64a.2.1 | exact Ne.symm h64a.2.2 | (refine neN ?_; dsimp only; omega)))); k_whole)
    intro vT2 nwT2 hT2 tkT2 FT2 NT2 pT2
    obtain ⟨p2, its2, kk2, ps2, rfl, rfl, hps2, hpa2, hsz2, h642, hltT2⟩ := pT2
    have ltT2 := hltT2
    k_lt ltT2
    try dsimp only
    refine LCg.CompEnd.intro FT2 NT2 _ mem_rot5 (off3_pull offb2 (fun q hq => (mem_skip 1 hq)) (by k_mem) ⟨ltT2.1, ltT2.2.1, ltT2.2.2.1⟩) (.inr ⟨_, by k_mem, rfl, _, rfl⟩) ?_
    refine LCg.CompRest.zero ?_
    intro Dz hz2 tkz Fz Nz oz
    simp only [LCg.Off1] at oz
    dsimp only
    (repeat' ((fail_if_success (with_reducible show wpAny _ _ (exec (Stmt.Assign _ (Expr.BoolOp _ _ _) _) _) _ _ _)); (fail_if_success (with_reducible show BoolPost _ _ _ _ _ _ _ _ _)); (fail_if_success (with_reducible show SkipPost _ _ _ _ _ _ _)); (fail_if_success (with_reducible show LCt.CompSrcT _ _ _ _ _ _ _ _ _ _ _ _ _ _ _)); (fail_if_success (with_reducible show wpAny _ _ (exec (Stmt.Return _ _) _) _ _ _)); (fail_if_success (with_reducible show wpAny _ _ (eval (Expr.ListComp _ _ _ _) _) _ _ _)); (fail_if_success (with_reducible show wpAny _ _ (compareOp CmpOp.Eq (Value.ref _) (Value.ref _)) _ _ _)); (fail_if_success (with_reducible show wpAny _ _ (call (Value.builtin "str.split") _) _ _ _)); (fail_if_success (with_reducible show wpAny _ _ (compareOp CmpOp.NotEq (Value.ref _) (Value.ref _)) _ _ _)); (fail_if_success (with_reducible show TextPost _ _ _ _ _ _ _ _ _ _ _ _ _ _ _)); (fail_if_success (with_reducible show wpAny _ _ (exec (Stmt.If _ _ _ _) _) _ _ _)); (fail_if_success (with_reducible show wpAny _ _ (call (Value.builtin "len") _) _ _ _)); (fail_if_success (with_reducible show StarOf _ _ _ _ _ _)); (fail_if_success (with_reducible show wpAny _ _ (call (Value.builtin "list.append") _) _ _ _)); (fail_if_success (with_reducible show LCg.CompSrc _ _ _ _ _ _ _ _ _ _ _ _ _ _)); (fail_if_success (with_reducible show wpAny _ _ (call (Value.ref _) _) _ _ _)); (fail_if_success (with_reducible show wpAny _ _ (call (Value.builtin "str.join") _) _ _ _)); (fail_if_success (with_reducible show wpAny _ _ (subscriptTail _ _ _ _) _ _ _)); (fail_if_success (with_reducible show wpAny _ _ (exec (Stmt.Assign _ (Expr.ListComp _ _ _ _) _) _) _ _ _)); (fail_if_success (with_reducible show wpAny _ _ (pyIter _) _ _ _)); (fail_if_success (with_reducible show wpAny _ _ (exec (Stmt.While _ _ _ _) _) _ _ _)); (fail_if_success (with_reducible show wpAny _ _ (compareOp CmpOp.NotIn (Value.ref _) (Value.ref _)) _ _ _)); (fail_if_success (with_reducible show wpAny _ _ (exec (Stmt.For _ _ _ _ _) _) _ _ _)); (first | (k_unfold; (try dsimp only)) | (k_end; kc_close) | walk1 | (dsimp only; walk1) | (leave1; (try dsimp only)) | fail "no step")))
    rename_i TT hTT FTT NTT lTT
    have hrvl := hrows.len
    k_dflt (refine' app_L ?F ?N ?U ?hz ?_; (case F => k_asm); (case N => k_asm); (case U => k_updF); (case hz => omega); k_whole)
    intro hap Fap Nap
    try dsimp only
    (repeat' ((fail_if_success (with_reducible show wpAny _ _ (exec (Stmt.Assign _ (Expr.BoolOp _ _ _) _) _) _ _ _)); (fail_if_success (with_reducible show BoolPost _ _ _ _ _ _ _ _ _)); (fail_if_success (with_reducible show SkipPost _ _ _ _ _ _ _)); (fail_if_success (with_reducible show LCt.CompSrcT _ _ _ _ _ _ _ _ _ _ _ _ _ _ _)); (fail_if_success (with_reducible show wpAny _ _ (exec (Stmt.Return _ _) _) _ _ _)); (fail_if_success (with_reducible show wpAny _ _ (eval (Expr.ListComp _ _ _ _) _) _ _ _)); (fail_if_success (with_reducible show wpAny _ _ (compareOp CmpOp.Eq (Value.ref _) (Value.ref _)) _ _ _)); (fail_if_success (with_reducible show wpAny _ _ (call (Value.builtin "str.split") _) _ _ _)); (fail_if_success (with_reducible show wpAny _ _ (compareOp CmpOp.NotEq (Value.ref _) (Value.ref _)) _ _ _)); (fail_if_success (with_reducible show TextPost _ _ _ _ _ _ _ _ _ _ _ _ _ _ _)); (fail_if_success (with_reducible show wpAny _ _ (exec (Stmt.If _ _ _ _) _) _ _ _)); (fail_if_success (with_reducible show wpAny _ _ (call (Value.builtin "len") _) _ _ _)); (fail_if_success (with_reducible show StarOf _ _ _ _ _ _)); (fail_if_success (with_reducible show wpAny _ _ (call (Value.builtin "list.append") _) _ _ _)); (fail_if_success (with_reducible show LCg.CompSrc _ _ _ _ _ _ _ _ _ _ _ _ _ _)); (fail_if_success (with_reducible show wpAny _ _ (call (Value.ref _) _) _ _ _)); (fail_if_success (with_reducible show wpAny _ _ (call (Value.builtin "str.join") _) _ _ _)); (fail_if_success (with_reducible show wpAny _ _ (subscriptTail _ _ _ _) _ _ _)); (fail_if_success (with_reducible show wpAny _ _ (exec (Stmt.Assign _ (Expr.ListComp _ _ _ _) _) _) _ _ _)); (fail_if_success (with_reducible show wpAny _ _ (pyIter _) _ _ _)); (fail_if_success (with_reducible show wpAny _ _ (exec (Stmt.While _ _ _ _) _) _ _ _)); (fail_if_success (with_reducible show wpAny _ _ (compareOp CmpOp.NotIn (Value.ref _) (Value.ref _)) _ _ _)); (fail_if_success (with_reducible show wpAny _ _ (exec (Stmt.For _ _ _ _ _) _) _ _ _)); (first | (k_unfold; (try dsimp only)) | (k_end; kc_close) | walk1 | (dsimp only; walk1) | (leave1; (try dsimp only)) | fail "no step")))
    k_dflt (refine' star_seq (T := "list") (o := lstO (vG.take i) 0) (n := 0) (its := (vG.take i).toArray) (ws := vG.take i) ?k1 ?k2 ?m rfl rfl (.inl rfl) rfl ?z ?_; (case k1 => k_asm); (case k2 => k_asm); (case m => k_mem); (case z => (rw [List.size_toArray, List.length_take]; exact Nat.le_trans (Nat.min_le_right _ _) (Nat.le_trans (by have := htag.2.1; omega : vG.length ≤ 3) (by decide)))); k_whole)
    intro hst1 Fst1 Nst1
    try dsimp only
    (repeat' ((fail_if_success (with_reducible show wpAny _ _ (exec (Stmt.Assign _ (Expr.BoolOp _ _ _) _) _) _ _ _)); (fail_if_success (with_reducible show BoolPost _ _ _ _ _ _ _ _ _)); (fail_if_success (with_reducible show SkipPost _ _ _ _ _ _ _)); (fail_if_success (with_reducible show LCt.CompSrcT _ _ _ _ _ _ _ _ _ _ _ _ _ _ _)); (fail_if_success (with_reducible show wpAny _ _ (exec (Stmt.Return _ _) _) _ _ _)); (fail_if_success (with_reducible show wpAny _ _ (eval (Expr.ListComp _ _ _ _) _) _ _ _)); (fail_if_success (with_reducible show wpAny _ _ (compareOp CmpOp.Eq (Value.ref _) (Value.ref _)) _ _ _)); (fail_if_success (with_reducible show wpAny _ _ (call (Value.builtin "str.split") _) _ _ _)); (fail_if_success (with_reducible show wpAny _ _ (compareOp CmpOp.NotEq (Value.ref _) (Value.ref _)) _ _ _)); (fail_if_success (with_reducible show TextPost _ _ _ _ _ _ _ _ _ _ _ _ _ _ _)); (fail_if_success (with_reducible show wpAny _ _ (exec (Stmt.If _ _ _ _) _) _ _ _)); (fail_if_success (with_reducible show wpAny _ _ (call (Value.builtin "len") _) _ _ _)); (fail_if_success (with_reducible show StarOf _ _ _ _ _ _)); (fail_if_success (with_reducible show wpAny _ _ (call (Value.builtin "list.append") _) _ _ _)); (fail_if_success (with_reducible show LCg.CompSrc _ _ _ _ _ _ _ _ _ _ _ _ _ _)); (fail_if_success (with_reducible show wpAny _ _ (call (Value.ref _) _) _ _ _)); (fail_if_success (with_reducible show wpAny _ _ (call (Value.builtin "str.join") _) _ _ _)); (fail_if_success (with_reducible show wpAny _ _ (subscriptTail _ _ _ _) _ _ _)); (fail_if_success (with_reducible show wpAny _ _ (exec (Stmt.Assign _ (Expr.ListComp _ _ _ _) _) _) _ _ _)); (fail_if_success (with_reducible show wpAny _ _ (pyIter _) _ _ _)); (fail_if_success (with_reducible show wpAny _ _ (exec (Stmt.While _ _ _ _) _) _ _ _)); (fail_if_success (with_reducible show wpAny _ _ (compareOp CmpOp.NotIn (Value.ref _) (Value.ref _)) _ _ _)); (fail_if_success (with_reducible show wpAny _ _ (exec (Stmt.For _ _ _ _ _) _) _ _ _)); (first | (k_unfold; (try dsimp only)) | (k_end; kc_close) | walk1 | (dsimp only; walk1) | (leave1; (try dsimp only)) | fail "no step")))
    have hvN' : StrsAre (vG.take i ++ []) (tag.take i) := by rw [List.append_nil]; exact hvN
    have hvNl : (vG.take i ++ []).length ≤ 3 := by rw [List.append_nil, List.length_take]; have := htag.2.1; omega
    k_dflt (refine' CtrV.use (join_c _ _ _ _ _ hvN' hvNl (by decide) (by decide) (good_names' hgood)) ?k1 ?k2 ?k3 ?k4 ?k5 ?kK ?kd ?ku ?kp ?_; (case k1 => k_asm); (case k2 => k_asm); (case k3 => k_asm); (case k4 => k_asm); (case k5 => k_asm); (case kK => exact rfl); (case kd => ktr_room); (case ku => ktr_units); (case kp => first | trivial | k_mem | assumption); k_whole)
    intro v8 h8 tk8 F8 N8 hp8
    obtain ⟨tJ, rfl⟩ := hp8
    try dsimp only
    (repeat' ((fail_if_success (with_reducible show wpAny _ _ (exec (Stmt.Assign _ (Expr.BoolOp _ _ _) _) _) _ _ _)); (fail_if_success (with_reducible show BoolPost _ _ _ _ _ _ _ _ _)); (fail_if_success (with_reducible show SkipPost _ _ _ _ _ _ _)); (fail_if_success (with_reducible show LCt.CompSrcT _ _ _ _ _ _ _ _ _ _ _ _ _ _ _)); (fail_if_success (with_reducible show wpAny _ _ (exec (Stmt.Return _ _) _) _ _ _)); (fail_if_success (with_reducible show wpAny _ _ (eval (Expr.ListComp _ _ _ _) _) _ _ _)); (fail_if_success (with_reducible show wpAny _ _ (compareOp CmpOp.Eq (Value.ref _) (Value.ref _)) _ _ _)); (fail_if_success (with_reducible show wpAny _ _ (call (Value.builtin "str.split") _) _ _ _)); (fail_if_success (with_reducible show wpAny _ _ (compareOp CmpOp.NotEq (Value.ref _) (Value.ref _)) _ _ _)); (fail_if_success (with_reducible show TextPost _ _ _ _ _ _ _ _ _ _ _ _ _ _ _)); (fail_if_success (with_reducible show wpAny _ _ (exec (Stmt.If _ _ _ _) _) _ _ _)); (fail_if_success (with_reducible show wpAny _ _ (call (Value.builtin "len") _) _ _ _)); (fail_if_success (with_reducible show StarOf _ _ _ _ _ _)); (fail_if_success (with_reducible show wpAny _ _ (call (Value.builtin "list.append") _) _ _ _)); (fail_if_success (with_reducible show LCg.CompSrc _ _ _ _ _ _ _ _ _ _ _ _ _ _)); (fail_if_success (with_reducible show wpAny _ _ (call (Value.ref _) _) _ _ _)); (fail_if_success (with_reducible show wpAny _ _ (call (Value.builtin "str.join") _) _ _ _)); (fail_if_success (with_reducible show wpAny _ _ (subscriptTail _ _ _ _) _ _ _)); (fail_if_success (with_reducible show wpAny _ _ (exec (Stmt.Assign _ (Expr.ListComp _ _ _ _) _) _) _ _ _)); (fail_if_success (with_reducible show wpAny _ _ (pyIter _) _ _ _)); (fail_if_success (with_reducible show wpAny _ _ (exec (Stmt.While _ _ _ _) _) _ _ _)); (fail_if_success (with_reducible show wpAny _ _ (compareOp CmpOp.NotIn (Value.ref _) (Value.ref _)) _ _ _)); (fail_if_success (with_reducible show wpAny _ _ (exec (Stmt.For _ _ _ _ _) _) _ _ _)); (first | (k_unfold; (try dsimp only)) | (k_end; kc_close) | walk1 | (dsimp only; walk1) | (leave1; (try dsimp only)) | fail "no step")))
    rename_i TR hTR FTR NTR lTR
    have hgvl := hrngs.len
    k_dflt (refine' app_L ?F ?N ?U ?hz ?_; (case F => k_asm); (case N => k_asm); (case U => k_updF); (case hz => omega); k_whole)
    intro hap2 Fap2 Nap2
    try dsimp only
    (repeat' ((fail_if_success (with_reducible show wpAny _ _ (exec (Stmt.Assign _ (Expr.BoolOp _ _ _) _) _) _ _ _)); (fail_if_success (with_reducible show BoolPost _ _ _ _ _ _ _ _ _)); (fail_if_success (with_reducible show SkipPost _ _ _ _ _ _ _)); (fail_if_success (with_reducible show LCt.CompSrcT _ _ _ _ _ _ _ _ _ _ _ _ _ _ _)); (fail_if_success (with_reducible show wpAny _ _ (exec (Stmt.Return _ _) _) _ _ _)); (fail_if_success (with_reducible show wpAny _ _ (eval (Expr.ListComp _ _ _ _) _) _ _ _)); (fail_if_success (with_reducible show wpAny _ _ (compareOp CmpOp.Eq (Value.ref _) (Value.ref _)) _ _ _)); (fail_if_success (with_reducible show wpAny _ _ (call (Value.builtin "str.split") _) _ _ _)); (fail_if_success (with_reducible show wpAny _ _ (compareOp CmpOp.NotEq (Value.ref _) (Value.ref _)) _ _ _)); (fail_if_success (with_reducible show TextPost _ _ _ _ _ _ _ _ _ _ _ _ _ _ _)); (fail_if_success (with_reducible show wpAny _ _ (exec (Stmt.If _ _ _ _) _) _ _ _)); (fail_if_success (with_reducible show wpAny _ _ (call (Value.builtin "len") _) _ _ _)); (fail_if_success (with_reducible show StarOf _ _ _ _ _ _)); (fail_if_success (with_reducible show wpAny _ _ (call (Value.builtin "list.append") _) _ _ _)); (fail_if_success (with_reducible show LCg.CompSrc _ _ _ _ _ _ _ _ _ _ _ _ _ _)); (fail_if_success (with_reducible show wpAny _ _ (call (Value.ref _) _) _ _ _)); (fail_if_success (with_reducible show wpAny _ _ (call (Value.builtin "str.join") _) _ _ _)); (fail_if_success (with_reducible show wpAny _ _ (subscriptTail _ _ _ _) _ _ _)); (fail_if_success (with_reducible show wpAny _ _ (exec (Stmt.Assign _ (Expr.ListComp _ _ _ _) _) _) _ _ _)); (fail_if_success (with_reducible show wpAny _ _ (pyIter _) _ _ _)); (fail_if_success (with_reducible show wpAny _ _ (exec (Stmt.While _ _ _ _) _) _ _ _)); (fail_if_success (with_reducible show wpAny _ _ (compareOp CmpOp.NotIn (Value.ref _) (Value.ref _)) _ _ _)); (fail_if_success (with_reducible show wpAny _ _ (exec (Stmt.For _ _ _ _ _) _) _ _ _)); (first | (k_unfold; (try dsimp only)) | (k_end; kc_close) | walk1 | (dsimp only; walk1) | (leave1; (try dsimp only)) | fail "no step")))
    have NX := news_pull 4 Nap2 rfl
    simp only [List.eraseIdx_cons_succ, List.eraseIdx_cons_zero] at NX
    replace NX := news_pull 15 NX rfl
    simp only [List.eraseIdx_cons_succ, List.eraseIdx_cons_zero] at NX
    replace NX := news_pull 15 NX rfl
    simp only [List.eraseIdx_cons_succ, List.eraseIdx_cons_zero] at NX
    replace NX := news_pull 15 NX rfl
    simp only [List.eraseIdx_cons_succ, List.eraseIdx_cons_zero] at NX
    replace NX := news_pull 15 NX rfl
    simp only [List.eraseIdx_cons_succ, List.eraseIdx_cons_zero] at NX
    replace NX := news_pull 15 NX rfl
    simp only [List.eraseIdx_cons_succ, List.eraseIdx_cons_zero] at NX
    replace NX := news_pull 15 NX rfl
    simp only [List.eraseIdx_cons_succ, List.eraseIdx_cons_zero] at NX
    clear h64a
    have oz1 := oz.2.2.2.2.2.2.2
    have oz2 := oz.2.1
    clear oz
    refine unrW_end Fap2 NX _ (fun p hp => hp) ?offE (hR₁ _ _ ⟨⟨?memD, trivial⟩, IH _ _ ⟨⟨rs ++ [⟨Int.fmod x 6, cs, tag, tag.take i⟩], rest, _, _, _, _, _, _, _, _, _, ps2, _, rfl, hir, ?e1, ?e2, ?e3, ?e4, ?e5, hV, dF2, hS, hps2, ?e6, ?e7, ?e8⟩, rfl, rfl⟩⟩)
    case offE =>
      intro p hp q hq
      rw [List.mem_singleton.mp hq]
      repeat' (rcases List.mem_cons.mp hp with rfl | hp)
      all_goals first | exact hoffI _ hp | exact Ne.symm oz1.1 | (refine neN ?_; dsimp only; clear oz1 oz2; omega)
    case memD => k_mem
    case e1 => rw [List.length_append, List.length_singleton]; rw [List.length_cons] at hle; omega
    case e2 => rw [List.length_append, List.length_singleton]; rw [List.length_cons] at hge; omega
    case e3 =>
      refine All2.snoc (b := (⟨Int.fmod x 6, cs, tag, tag.take i⟩ : RowD)) ?g1 ?g2
      case g1 =>
        refine All2.mono (fun a b hab => RowAt.mono ?_ hab) hrows
        intro q hq
        exact .tail _ (.tail _ (.tail _ (.tail _ (.tail _ (.tail _ (.tail _ (.tail _ (.tail _ hq))))))))
      case g2 => exact ⟨TT, _, _, rG, vG, _, _, rfl, by k_mem, by k_mem, hvG⟩
    case e4 =>
      refine All2.snoc (b := (⟨Int.fmod x 6, cs, tag, tag.take i⟩ : RowD)) ?g1 ?g2
      case g1 =>
        refine All2.mono (fun a b hab => RangeAt.mono ?_ hab) hrngs
        intro q hq
        exact .tail _ (.tail _ (.tail _ (.tail _ (.tail _ (.tail _ (.tail _ (.tail _ (.tail _ hq))))))))
      case g2 => exact ⟨TR, _, rN, _, Dz, _, p1, p2, _, _, _, rfl, by k_mem, by k_mem, hvN, by k_mem, ⟨its1.toList, kk1, by k_mem, hpa1⟩, ⟨its2.toList, kk2, by k_mem, hpa2⟩⟩
    case e5 =>
      intro a ha
      rcases List.mem_append.mp ha with ha | ha
      · exact hok a ha
      · rw [List.mem_singleton.mp ha]
        exact ⟨(fmod_bd x (by decide)).1, (fmod_bd x (by decide)).2, hcs, htag, i, hi1, rfl⟩
    case e6 => k_mem
    case e7 => k_mem
    case e8 =>
      intro p hp
      repeat' (rcases List.mem_cons.mp hp with rfl | hp)
      all_goals first | exact htail _ hp | exact offT_dz oz1 oz2 | (refine offT_gt lI ?_; clear oz1 oz2; omega)
  -- L1 END
  case nil =>
    rintro m₁ news₁ ⟨⟨rs, rest, rv, gv, n1, n2, oV, oF, oS, v1, v2, ps, tail, rfl, hir, hle, hge, hrows, hrngs, hok, hV, hF, hS, hps, hD9, hst, htail⟩, hmr, hmg⟩
    cases hir
    refine ItemsRest.zero (fun h₁ tk₁ F₁ N₁ => ?_)
    replace F₁ := frK F₁ hmr
    replace F₁ := frK (x := Str.ofString "ranges") (v := .ref ga) F₁ hmg
    simp only [List.length_nil, Nat.add_zero] at hle hge
    have hrvl := hrows.len
    have hgvl := hrngs.len
    (repeat' ((fail_if_success (with_reducible show wpAny _ _ (exec (Stmt.Assign _ (Expr.BoolOp _ _ _) _) _) _ _ _)); (fail_if_success (with_reducible show BoolPost _ _ _ _ _ _ _ _ _)); (fail_if_success (with_reducible show SkipPost _ _ _ _ _ _ _)); (fail_if_success (with_reducible show LCt.CompSrcT _ _ _ _ _ _ _ _ _ _ _ _ _ _ _)); (fail_if_success (with_reducible show wpAny _ _ (exec (Stmt.Return _ _) _) _ _ _)); (fail_if_success (with_reducible show wpAny _ _ (eval (Expr.ListComp _ _ _ _) _) _ _ _)); (fail_if_success (with_reducible show wpAny _ _ (compareOp CmpOp.Eq (Value.ref _) (Value.ref _)) _ _ _)); (fail_if_success (with_reducible show wpAny _ _ (call (Value.builtin "str.split") _) _ _ _)); (fail_if_success (with_reducible show wpAny _ _ (compareOp CmpOp.NotEq (Value.ref _) (Value.ref _)) _ _ _)); (fail_if_success (with_reducible show TextPost _ _ _ _ _ _ _ _ _ _ _ _ _ _ _)); (fail_if_success (with_reducible show wpAny _ _ (exec (Stmt.If _ _ _ _) _) _ _ _)); (fail_if_success (with_reducible show wpAny _ _ (call (Value.builtin "len") _) _ _ _)); (fail_if_success (with_reducible show StarOf _ _ _ _ _ _)); (fail_if_success (with_reducible show wpAny _ _ (call (Value.builtin "list.append") _) _ _ _)); (fail_if_success (with_reducible show LCg.CompSrc _ _ _ _ _ _ _ _ _ _ _ _ _ _)); (fail_if_success (with_reducible show wpAny _ _ (call (Value.ref _) _) _ _ _)); (fail_if_success (with_reducible show wpAny _ _ (call (Value.builtin "str.join") _) _ _ _)); (fail_if_success (with_reducible show wpAny _ _ (subscriptTail _ _ _ _) _ _ _)); (fail_if_success (with_reducible show wpAny _ _ (exec (Stmt.Assign _ (Expr.ListComp _ _ _ _) _) _) _ _ _)); (fail_if_success (with_reducible show wpAny _ _ (pyIter _) _ _ _)); (fail_if_success (with_reducible show wpAny _ _ (exec (Stmt.While _ _ _ _) _) _ _ _)); (fail_if_success (with_reducible show wpAny _ _ (compareOp CmpOp.NotIn (Value.ref _) (Value.ref _)) _ _ _)); (fail_if_success (with_reducible show wpAny _ _ (exec (Stmt.For _ _ _ _ _) _) _ _ _)); (first | (k_unfold; (try dsimp only)) | (k_end; kc_close) | walk1 | (dsimp only; walk1) | (leave1; (try dsimp only)) | fail "no step")))
    obtain ⟨tailX, hX⟩ : ∃ tailX, tailX = (s₁.heap.objs.size + 1, oS) :: (64, tabObj ps) :: (ra, lstO rv n1) :: (ga, lstO gv n2) :: tail := ⟨_, rfl⟩
    have NX : News (ghostOf s₁.heap [(68, 64)]) s₁.heap.objs.size h₁ ((s₁.heap.objs.size + 1 + 1 + 1, oV) :: tailX) := by rw [hX]; exact cb_drop N₁ (by kcj_all)
    have mX1 : (s₁.heap.objs.size + 1, oS) ∈ tailX := by rw [hX]; k_mem
    have mX64 : (64, tabObj ps) ∈ tailX := by rw [hX]; k_mem
    have mXr : (ra, lstO rv n1) ∈ tailX := by rw [hX]; k_mem
    have mXg : (ga, lstO gv n2) ∈ tailX := by rw [hX]; k_mem
    have mXs : (st, objO) ∈ tailX := by rw [hX]; k_mem
    have subX : ∀ q ∈ tail, q ∈ tailX := fun q hq => by rw [hX]; exact .tail _ (.tail _ (.tail _ (.tail _ hq)))
    replace hrows := All2.mono (fun a b hab => RowAt.mono subX hab) hrows
    replace hrngs := All2.mono (fun a b hab => RangeAt.mono subX hab) hrngs
    have of3 : ∀ p ∈ tailX, p.1 ≠ s₁.heap.objs.size + 1 + 1 + 1 := by
      rw [hX]
      intro p hp
      repeat' (rcases List.mem_cons.mp hp with rfl | hp)
      all_goals first | exact (htail p hp).2.2.1 | (refine neN ?_; dsimp only; omega)
    clear hX N₁ htail hst hD9 subX
    refine For_turns (by k_asm) ?_
    (repeat' ((fail_if_success (with_reducible show wpAny _ _ (exec (Stmt.Assign _ (Expr.BoolOp _ _ _) _) _) _ _ _)); (fail_if_success (with_reducible show BoolPost _ _ _ _ _ _ _ _ _)); (fail_if_success (with_reducible show SkipPost _ _ _ _ _ _ _)); (fail_if_success (with_reducible show LCt.CompSrcT _ _ _ _ _ _ _ _ _ _ _ _ _ _ _)); (fail_if_success (with_reducible show wpAny _ _ (exec (Stmt.Return _ _) _) _ _ _)); (fail_if_success (with_reducible show wpAny _ _ (eval (Expr.ListComp _ _ _ _) _) _ _ _)); (fail_if_success (with_reducible show wpAny _ _ (compareOp CmpOp.Eq (Value.ref _) (Value.ref _)) _ _ _)); (fail_if_success (with_reducible show wpAny _ _ (call (Value.builtin "str.split") _) _ _ _)); (fail_if_success (with_reducible show wpAny _ _ (compareOp CmpOp.NotEq (Value.ref _) (Value.ref _)) _ _ _)); (fail_if_success (with_reducible show TextPost _ _ _ _ _ _ _ _ _ _ _ _ _ _ _)); (fail_if_success (with_reducible show wpAny _ _ (exec (Stmt.If _ _ _ _) _) _ _ _)); (fail_if_success (with_reducible show wpAny _ _ (call (Value.builtin "len") _) _ _ _)); (fail_if_success (with_reducible show StarOf _ _ _ _ _ _)); (fail_if_success (with_reducible show wpAny _ _ (call (Value.builtin "list.append") _) _ _ _)); (fail_if_success (with_reducible show LCg.CompSrc _ _ _ _ _ _ _ _ _ _ _ _ _ _)); (fail_if_success (with_reducible show wpAny _ _ (call (Value.ref _) _) _ _ _)); (fail_if_success (with_reducible show wpAny _ _ (call (Value.builtin "str.join") _) _ _ _)); (fail_if_success (with_reducible show wpAny _ _ (subscriptTail _ _ _ _) _ _ _)); (fail_if_success (with_reducible show wpAny _ _ (exec (Stmt.Assign _ (Expr.ListComp _ _ _ _) _) _) _ _ _)); (fail_if_success (with_reducible show wpAny _ _ (pyIter _) _ _ _)); (fail_if_success (with_reducible show wpAny _ _ (exec (Stmt.While _ _ _ _) _) _ _ _)); (fail_if_success (with_reducible show wpAny _ _ (compareOp CmpOp.NotIn (Value.ref _) (Value.ref _)) _ _ _)); (fail_if_success (with_reducible show wpAny _ _ (exec (Stmt.For _ _ _ _ _) _) _ _ _)); (first | (k_unfold; (try dsimp only)) | (k_end; kc_close) | walk1 | (dsimp only; walk1) | (leave1; (try dsimp only)) | fail "no step")))
    refine len_L (by k_asm) (by k_mem) (by omega) (fun tl tkl => ?_)
    rw [hrvl]
    (repeat' ((fail_if_success (with_reducible show wpAny _ _ (exec (Stmt.Assign _ (Expr.BoolOp _ _ _) _) _) _ _ _)); (fail_if_success (with_reducible show BoolPost _ _ _ _ _ _ _ _ _)); (fail_if_success (with_reducible show SkipPost _ _ _ _ _ _ _)); (fail_if_success (with_reducible show LCt.CompSrcT _ _ _ _ _ _ _ _ _ _ _ _ _ _ _)); (fail_if_success (with_reducible show wpAny _ _ (exec (Stmt.Return _ _) _) _ _ _)); (fail_if_success (with_reducible show wpAny _ _ (eval (Expr.ListComp _ _ _ _) _) _ _ _)); (fail_if_success (with_reducible show wpAny _ _ (compareOp CmpOp.Eq (Value.ref _) (Value.ref _)) _ _ _)); (fail_if_success (with_reducible show wpAny _ _ (call (Value.builtin "str.split") _) _ _ _)); (fail_if_success (with_reducible show wpAny _ _ (compareOp CmpOp.NotEq (Value.ref _) (Value.ref _)) _ _ _)); (fail_if_success (with_reducible show TextPost _ _ _ _ _ _ _ _ _ _ _ _ _ _ _)); (fail_if_success (with_reducible show wpAny _ _ (exec (Stmt.If _ _ _ _) _) _ _ _)); (fail_if_success (with_reducible show wpAny _ _ (call (Value.builtin "len") _) _ _ _)); (fail_if_success (with_reducible show StarOf _ _ _ _ _ _)); (fail_if_success (with_reducible show wpAny _ _ (call (Value.builtin "list.append") _) _ _ _)); (fail_if_success (with_reducible show LCg.CompSrc _ _ _ _ _ _ _ _ _ _ _ _ _ _)); (fail_if_success (with_reducible show wpAny _ _ (call (Value.ref _) _) _ _ _)); (fail_if_success (with_reducible show wpAny _ _ (call (Value.builtin "str.join") _) _ _ _)); (fail_if_success (with_reducible show wpAny _ _ (subscriptTail _ _ _ _) _ _ _)); (fail_if_success (with_reducible show wpAny _ _ (exec (Stmt.Assign _ (Expr.ListComp _ _ _ _) _) _) _ _ _)); (fail_if_success (with_reducible show wpAny _ _ (pyIter _) _ _ _)); (fail_if_success (with_reducible show wpAny _ _ (exec (Stmt.While _ _ _ _) _) _ _ _)); (fail_if_success (with_reducible show wpAny _ _ (compareOp CmpOp.NotIn (Value.ref _) (Value.ref _)) _ _ _)); (fail_if_success (with_reducible show wpAny _ _ (exec (Stmt.For _ _ _ _ _) _) _ _ _)); (first | (k_unfold; (try dsimp only)) | (k_end; kc_close) | walk1 | (dsimp only; walk1) | (leave1; (try dsimp only)) | fail "no step")))
    rename_i hRng FRng NRng keepRng
    refine iter_rangeTurns (n := rs.length) rfl FRng NRng hRng (by omega) (fun J hJ => ?_)
    have of3J : ∀ p ∈ tailX, p.1 ≠ J := fun p hp => Nat.ne_of_lt (hJ p (.tail _ hp))
    have J3 : @LT.lt Nat _ (s₁.heap.objs.size + 1 + 1 + 1) J := hJ _ (.head _)
    refine range_ind rs.length (fun _ => L2 s₁.heap.objs.size ra ga tailX) ?done2 ?turn2 _ 0 _ _ (Nat.zero_add _) ⟨⟨oV, _, rfl, hV⟩, rfl, rfl⟩
    case done2 =>
      rintro m₂ news₂ ⟨⟨oV2, v2, rfl, hV2⟩, hmr2, hmg2⟩
      refine ItemsRest.zero (fun h₂ tk₂ F₂ N₂ => ?_)
      (repeat' ((fail_if_success (with_reducible show wpAny _ _ (exec (Stmt.Assign _ (Expr.BoolOp _ _ _) _) _) _ _ _)); (fail_if_success (with_reducible show BoolPost _ _ _ _ _ _ _ _ _)); (fail_if_success (with_reducible show SkipPost _ _ _ _ _ _ _)); (fail_if_success (with_reducible show LCt.CompSrcT _ _ _ _ _ _ _ _ _ _ _ _ _ _ _)); (fail_if_success (with_reducible show wpAny _ _ (exec (Stmt.Return _ _) _) _ _ _)); (fail_if_success (with_reducible show wpAny _ _ (eval (Expr.ListComp _ _ _ _) _) _ _ _)); (fail_if_success (with_reducible show wpAny _ _ (compareOp CmpOp.Eq (Value.ref _) (Value.ref _)) _ _ _)); (fail_if_success (with_reducible show wpAny _ _ (call (Value.builtin "str.split") _) _ _ _)); (fail_if_success (with_reducible show wpAny _ _ (compareOp CmpOp.NotEq (Value.ref _) (Value.ref _)) _ _ _)); (fail_if_success (with_reducible show TextPost _ _ _ _ _ _ _ _ _ _ _ _ _ _ _)); (fail_if_success (with_reducible show wpAny _ _ (exec (Stmt.If _ _ _ _) _) _ _ _)); (fail_if_success (with_reducible show wpAny _ _ (call (Value.builtin "len") _) _ _ _)); (fail_if_success (with_reducible show StarOf _ _ _ _ _ _)); (fail_if_success (with_reducible show wpAny _ _ (call (Value.builtin "list.append") _) _ _ _)); (fail_if_success (with_reducible show LCg.CompSrc _ _ _ _ _ _ _ _ _ _ _ _ _ _)); (fail_if_success (with_reducible show wpAny _ _ (call (Value.ref _) _) _ _ _)); (fail_if_success (with_reducible show wpAny _ _ (call (Value.builtin "str.join") _) _ _ _)); (fail_if_success (with_reducible show wpAny _ _ (subscriptTail _ _ _ _) _ _ _)); (fail_if_success (with_reducible show wpAny _ _ (exec (Stmt.Assign _ (Expr.ListComp _ _ _ _) _) _) _ _ _)); (fail_if_success (with_reducible show wpAny _ _ (pyIter _) _ _ _)); (fail_if_success (with_reducible show wpAny _ _ (exec (Stmt.While _ _ _ _) _) _ _ _)); (fail_if_success (with_reducible show wpAny _ _ (compareOp CmpOp.NotIn (Value.ref _) (Value.ref _)) _ _ _)); (fail_if_success (with_reducible show wpAny _ _ (exec (Stmt.For _ _ _ _ _) _) _ _ _)); (first | (k_unfold; (try dsimp only)) | (k_end; kc_close) | walk1 | (dsimp only; walk1) | (leave1; (try dsimp only)) | fail "no step")))
      subst hQ₀
      repeat' (first | (k_unfold; (try dsimp only)) | (k_end; kc_close) | walk1 | (dsimp only; walk1) | (leave1; (try dsimp only)))
    case turn2 =>
      rintro i k m₂ news₂ hik ⟨⟨oV2, v2, rfl, hV2⟩, hmr2, hmg2⟩ IH
      refine ItemsRest.tok (fun tK h₂ tk₂ F₂ => AllObj.cons fun oJ hoJ => AllObj.nil fun N₂ => ?_)
      refine abs_post (fun R₁ Q₁ hR₁ => ?_)
      replace F₂ := frK F₂ hmr2
      replace F₂ := frK (x := Str.ofString "ranges") (v := .ref ga) F₂ hmg2
      simp only [List.cons_append, List.nil_append] at N₂
      have hi : i < rs.length := by omega
      obtain ⟨r, hr⟩ : ∃ r, rs[i]? = some r := ⟨_, List.getElem?_eq_getElem hi⟩
      obtain ⟨vr, hvr, T, t1, t2, G, vG, m1, m2, rfl, hT, hG, hvG⟩ := hrows.at hr
      have hrok := hok r (List.mem_of_getElem? hr)
      (repeat' ((fail_if_success (with_reducible show wpAny _ _ (exec (Stmt.Assign _ (Expr.BoolOp _ _ _) _) _) _ _ _)); (fail_if_success (with_reducible show BoolPost _ _ _ _ _ _ _ _ _)); (fail_if_success (with_reducible show SkipPost _ _ _ _ _ _ _)); (fail_if_success (with_reducible show LCt.CompSrcT _ _ _ _ _ _ _ _ _ _ _ _ _ _ _)); (fail_if_success (with_reducible show wpAny _ _ (exec (Stmt.Return _ _) _) _ _ _)); (fail_if_success (with_reducible show wpAny _ _ (eval (Expr.ListComp _ _ _ _) _) _ _ _)); (fail_if_success (with_reducible show wpAny _ _ (compareOp CmpOp.Eq (Value.ref _) (Value.ref _)) _ _ _)); (fail_if_success (with_reducible show wpAny _ _ (call (Value.builtin "str.split") _) _ _ _)); (fail_if_success (with_reducible show wpAny _ _ (compareOp CmpOp.NotEq (Value.ref _) (Value.ref _)) _ _ _)); (fail_if_success (with_reducible show TextPost _ _ _ _ _ _ _ _ _ _ _ _ _ _ _)); (fail_if_success (with_reducible show wpAny _ _ (exec (Stmt.If _ _ _ _) _) _ _ _)); (fail_if_success (with_reducible show wpAny _ _ (call (Value.builtin "len") _) _ _ _)); (fail_if_success (with_reducible show StarOf _ _ _ _ _ _)); (fail_if_success (with_reducible show wpAny _ _ (call (Value.builtin "list.append") _) _ _ _)); (fail_if_success (with_reducible show LCg.CompSrc _ _ _ _ _ _ _ _ _ _ _ _ _ _)); (fail_if_success (with_reducible show wpAny _ _ (call (Value.ref _) _) _ _ _)); (fail_if_success (with_reducible show wpAny _ _ (call (Value.builtin "str.join") _) _ _ _)); (fail_if_success (with_reducible show wpAny _ _ (subscriptTail _ _ _ _) _ _ _)); (fail_if_success (with_reducible show wpAny _ _ (exec (Stmt.Assign _ (Expr.ListComp _ _ _ _) _) _) _ _ _)); (fail_if_success (with_reducible show wpAny _ _ (pyIter _) _ _ _)); (fail_if_success (with_reducible show wpAny _ _ (exec (Stmt.While _ _ _ _) _) _ _ _)); (fail_if_success (with_reducible show wpAny _ _ (compareOp CmpOp.NotIn (Value.ref _) (Value.ref _)) _ _ _)); (fail_if_success (with_reducible show wpAny _ _ (exec (Stmt.For _ _ _ _ _) _) _ _ _)); (first | (k_unfold; (try dsimp only)) | (k_end; kc_close) | walk1 | (dsimp only; walk1) | (leave1; (try dsimp only)) | fail "no step")))
      refine item_any (by k_asm) (by k_mem) hvr (by omega) ?_
      (repeat' ((fail_if_success (with_reducible show wpAny _ _ (exec (Stmt.Assign _ (Expr.BoolOp _ _ _) _) _) _ _ _)); (fail_if_success (with_reducible show BoolPost _ _ _ _ _ _ _ _ _)); (fail_if_success (with_reducible show SkipPost _ _ _ _ _ _ _)); (fail_if_success (with_reducible show LCt.CompSrcT _ _ _ _ _ _ _ _ _ _ _ _ _ _ _)); (fail_if_success (with_reducible show wpAny _ _ (exec (Stmt.Return _ _) _) _ _ _)); (fail_if_success (with_reducible show wpAny _ _ (eval (Expr.ListComp _ _ _ _) _) _ _ _)); (fail_if_success (with_reducible show wpAny _ _ (compareOp CmpOp.Eq (Value.ref _) (Value.ref _)) _ _ _)); (fail_if_success (with_reducible show wpAny _ _ (call (Value.builtin "str.split") _) _ _ _)); (fail_if_success (with_reducible show wpAny _ _ (compareOp CmpOp.NotEq (Value.ref _) (Value.ref _)) _ _ _)); (fail_if_success (with_reducible show TextPost _ _ _ _ _ _ _ _ _ _ _ _ _ _ _)); (fail_if_success (with_reducible show wpAny _ _ (exec (Stmt.If _ _ _ _) _) _ _ _)); (fail_if_success (with_reducible show wpAny _ _ (call (Value.builtin "len") _) _ _ _)); (fail_if_success (with_reducible show StarOf _ _ _ _ _ _)); (fail_if_success (with_reducible show wpAny _ _ (call (Value.builtin "list.append") _) _ _ _)); (fail_if_success (with_reducible show LCg.CompSrc _ _ _ _ _ _ _ _ _ _ _ _ _ _)); (fail_if_success (with_reducible show wpAny _ _ (call (Value.ref _) _) _ _ _)); (fail_if_success (with_reducible show wpAny _ _ (call (Value.builtin "str.join") _) _ _ _)); (fail_if_success (with_reducible show wpAny _ _ (subscriptTail _ _ _ _) _ _ _)); (fail_if_success (with_reducible show wpAny _ _ (exec (Stmt.Assign _ (Expr.ListComp _ _ _ _) _) _) _ _ _)); (fail_if_success (with_reducible show wpAny _ _ (pyIter _) _ _ _)); (fail_if_success (with_reducible show wpAny _ _ (exec (Stmt.While _ _ _ _) _) _ _ _)); (fail_if_success (with_reducible show wpAny _ _ (compareOp CmpOp.NotIn (Value.ref _) (Value.ref _)) _ _ _)); (fail_if_success (with_reducible show wpAny _ _ (exec (Stmt.For _ _ _ _ _) _) _ _ _)); (first | (k_unfold; (try dsimp only)) | (k_end; kc_close) | walk1 | (dsimp only; walk1) | (leave1; (try dsimp only)) | fail "no step")))
      obtain ⟨hwl, hwok⟩ := word_len hrok.tag.2.2 hrok.tag.2.1
      unfold wordT at hwl
      refine join_L (by k_asm) (by k_mem) hvG hwok (fun tw kw => ?_)
      try dsimp only
      (repeat' ((fail_if_success (with_reducible show wpAny _ _ (exec (Stmt.Assign _ (Expr.BoolOp _ _ _) _) _) _ _ _)); (fail_if_success (with_reducible show BoolPost _ _ _ _ _ _ _ _ _)); (fail_if_success (with_reducible show SkipPost _ _ _ _ _ _ _)); (fail_if_success (with_reducible show LCt.CompSrcT _ _ _ _ _ _ _ _ _ _ _ _ _ _ _)); (fail_if_success (with_reducible show wpAny _ _ (exec (Stmt.Return _ _) _) _ _ _)); (fail_if_success (with_reducible show wpAny _ _ (eval (Expr.ListComp _ _ _ _) _) _ _ _)); (fail_if_success (with_reducible show wpAny _ _ (compareOp CmpOp.Eq (Value.ref _) (Value.ref _)) _ _ _)); (fail_if_success (with_reducible show wpAny _ _ (call (Value.builtin "str.split") _) _ _ _)); (fail_if_success (with_reducible show wpAny _ _ (compareOp CmpOp.NotEq (Value.ref _) (Value.ref _)) _ _ _)); (fail_if_success (with_reducible show TextPost _ _ _ _ _ _ _ _ _ _ _ _ _ _ _)); (fail_if_success (with_reducible show wpAny _ _ (exec (Stmt.If _ _ _ _) _) _ _ _)); (fail_if_success (with_reducible show wpAny _ _ (call (Value.builtin "len") _) _ _ _)); (fail_if_success (with_reducible show StarOf _ _ _ _ _ _)); (fail_if_success (with_reducible show wpAny _ _ (call (Value.builtin "list.append") _) _ _ _)); (fail_if_success (with_reducible show LCg.CompSrc _ _ _ _ _ _ _ _ _ _ _ _ _ _)); (fail_if_success (with_reducible show wpAny _ _ (call (Value.ref _) _) _ _ _)); (fail_if_success (with_reducible show wpAny _ _ (call (Value.builtin "str.join") _) _ _ _)); (fail_if_success (with_reducible show wpAny _ _ (subscriptTail _ _ _ _) _ _ _)); (fail_if_success (with_reducible show wpAny _ _ (exec (Stmt.Assign _ (Expr.ListComp _ _ _ _) _) _) _ _ _)); (fail_if_success (with_reducible show wpAny _ _ (pyIter _) _ _ _)); (fail_if_success (with_reducible show wpAny _ _ (exec (Stmt.While _ _ _ _) _) _ _ _)); (fail_if_success (with_reducible show wpAny _ _ (compareOp CmpOp.NotIn (Value.ref _) (Value.ref _)) _ _ _)); (fail_if_success (with_reducible show wpAny _ _ (exec (Stmt.For _ _ _ _ _) _) _ _ _)); (first | (k_unfold; (try dsimp only)) | (k_end; kc_close) | walk1 | (dsimp only; walk1) | (leave1; (try dsimp only)) | fail "no step")))
      refine wpAny_mono (Q := TextPost s₁ (ghostOf s₁.heap [(68, 64)]) s₁.heap.objs.size ((J, oJ) :: (s₁.heap.objs.size + 1 + 1 + 1, oV2) :: tailX) ra ga G r.kind t1 r.cs t2 (Txt.join (Str.ofString "-") r.tag) tw) ?body (fun f s' hf => ?after) (fun _ _ e => e)
      case body =>
        walk1
        (repeat' ((fail_if_success (with_reducible show wpAny _ _ (exec (Stmt.Assign _ (Expr.BoolOp _ _ _) _) _) _ _ _)); (fail_if_success (with_reducible show BoolPost _ _ _ _ _ _ _ _ _)); (fail_if_success (with_reducible show SkipPost _ _ _ _ _ _ _)); (fail_if_success (with_reducible show LCt.CompSrcT _ _ _ _ _ _ _ _ _ _ _ _ _ _ _)); (fail_if_success (with_reducible show wpAny _ _ (exec (Stmt.Return _ _) _) _ _ _)); (fail_if_success (with_reducible show wpAny _ _ (eval (Expr.ListComp _ _ _ _) _) _ _ _)); (fail_if_success (with_reducible show wpAny _ _ (compareOp CmpOp.Eq (Value.ref _) (Value.ref _)) _ _ _)); (fail_if_success (with_reducible show wpAny _ _ (call (Value.builtin "str.split") _) _ _ _)); (fail_if_success (with_reducible show wpAny _ _ (compareOp CmpOp.NotEq (Value.ref _) (Value.ref _)) _ _ _)); (fail_if_success (with_reducible show TextPost _ _ _ _ _ _ _ _ _ _ _ _ _ _ _)); (fail_if_success (with_reducible show wpAny _ _ (exec (Stmt.If _ _ _ _) _) _ _ _)); (fail_if_success (with_reducible show wpAny _ _ (call (Value.builtin "len") _) _ _ _)); (fail_if_success (with_reducible show StarOf _ _ _ _ _ _)); (fail_if_success (with_reducible show wpAny _ _ (call (Value.builtin "list.append") _) _ _ _)); (fail_if_success (with_reducible show LCg.CompSrc _ _ _ _ _ _ _ _ _ _ _ _ _ _)); (fail_if_success (with_reducible show wpAny _ _ (call (Value.ref _) _) _ _ _)); (fail_if_success (with_reducible show wpAny _ _ (call (Value.builtin "str.join") _) _ _ _)); (fail_if_success (with_reducible show wpAny _ _ (subscriptTail _ _ _ _) _ _ _)); (fail_if_success (with_reducible show wpAny _ _ (exec (Stmt.Assign _ (Expr.ListComp _ _ _ _) _) _) _ _ _)); (fail_if_success (with_reducible show wpAny _ _ (pyIter _) _ _ _)); (fail_if_success (with_reducible show wpAny _ _ (exec (Stmt.While _ _ _ _) _) _ _ _)); (fail_if_success (with_reducible show wpAny _ _ (compareOp CmpOp.NotIn (Value.ref _) (Value.ref _)) _ _ _)); (fail_if_success (with_reducible show wpAny _ _ (exec (Stmt.For _ _ _ _ _) _) _ _ _)); (first | (k_unfold; (try dsimp only)) | (k_end; kc_close) | walk1 | (dsimp only; walk1) | (leave1; (try dsimp only)) | fail "no step")))
        rotate_left
        · k_dflt (refine' TextPost.intro ?tpF ?tpN ?q1 ?q2 ?q3 ?q4 ?q5 ?q6 ?q7)
          case tpF => k_asm
          case tpN => exact cb_drop (by k_asm) (fun p hp => .tail _ hp)
          case q1 => exact ⟨_, _, if_pos rfl, okS_lit (by decide), by decide⟩
          case q2 => (repeat (first | exact if_pos rfl | assumption | refine (if_neg (by decide)).trans ?_))
          case q3 => (repeat (first | exact if_pos rfl | assumption | refine (if_neg (by decide)).trans ?_))
          case q4 => (repeat (first | exact if_pos rfl | assumption | refine (if_neg (by decide)).trans ?_))
          case q5 => (repeat (first | exact if_pos rfl | assumption | refine (if_neg (by decide)).trans ?_))
          case q6 => (repeat (first | exact if_pos rfl | assumption | refine (if_neg (by decide)).trans ?_))
          case q7 => (repeat (first | exact if_pos rfl | assumption | refine (if_neg (by decide)).trans ?_))
        refine len_L (by k_asm) (by k_mem) (by omega) (fun tl2 tkl2 => ?_)
        rw [hrvl]
        (repeat' ((fail_if_success (with_reducible show wpAny _ _ (exec (Stmt.Assign _ (Expr.BoolOp _ _ _) _) _) _ _ _)); (fail_if_success (with_reducible show BoolPost _ _ _ _ _ _ _ _ _)); (fail_if_success (with_reducible show SkipPost _ _ _ _ _ _ _)); (fail_if_success (with_reducible show LCt.CompSrcT _ _ _ _ _ _ _ _ _ _ _ _ _ _ _)); (fail_if_success (with_reducible show wpAny _ _ (exec (Stmt.Return _ _) _) _ _ _)); (fail_if_success (with_reducible show wpAny _ _ (eval (Expr.ListComp _ _ _ _) _) _ _ _)); (fail_if_success (with_reducible show wpAny _ _ (compareOp CmpOp.Eq (Value.ref _) (Value.ref _)) _ _ _)); (fail_if_success (with_reducible show wpAny _ _ (call (Value.builtin "str.split") _) _ _ _)); (fail_if_success (with_reducible show wpAny _ _ (compareOp CmpOp.NotEq (Value.ref _) (Value.ref _)) _ _ _)); (fail_if_success (with_reducible show TextPost _ _ _ _ _ _ _ _ _ _ _ _ _ _ _)); (fail_if_success (with_reducible show wpAny _ _ (exec (Stmt.If _ _ _ _) _) _ _ _)); (fail_if_success (with_reducible show wpAny _ _ (call (Value.builtin "len") _) _ _ _)); (fail_if_success (with_reducible show StarOf _ _ _ _ _ _)); (fail_if_success (with_reducible show wpAny _ _ (call (Value.builtin "list.append") _) _ _ _)); (fail_if_success (with_reducible show LCg.CompSrc _ _ _ _ _ _ _ _ _ _ _ _ _ _)); (fail_if_success (with_reducible show wpAny _ _ (call (Value.ref _) _) _ _ _)); (fail_if_success (with_reducible show wpAny _ _ (call (Value.builtin "str.join") _) _ _ _)); (fail_if_success (with_reducible show wpAny _ _ (subscriptTail _ _ _ _) _ _ _)); (fail_if_success (with_reducible show wpAny _ _ (exec (Stmt.Assign _ (Expr.ListComp _ _ _ _) _) _) _ _ _)); (fail_if_success (with_reducible show wpAny _ _ (pyIter _) _ _ _)); (fail_if_success (with_reducible show wpAny _ _ (exec (Stmt.While _ _ _ _) _) _ _ _)); (fail_if_success (with_reducible show wpAny _ _ (compareOp CmpOp.NotIn (Value.ref _) (Value.ref _)) _ _ _)); (fail_if_success (with_reducible show wpAny _ _ (exec (Stmt.For _ _ _ _ _) _) _ _ _)); (first | (k_unfold; (try dsimp only)) | (k_end; kc_close) | walk1 | (dsimp only; walk1) | (leave1; (try dsimp only)) | fail "no step")))
        obtain ⟨r2, hr2⟩ : ∃ r2, rs[(i + 1) % rs.length]? = some r2 := ⟨_, List.getElem?_eq_getElem (Nat.mod_lt _ (by omega))⟩
        obtain ⟨vr2, hvr2, T2, t12, t22, G2, vG2, m12, m22, rfl, hT2, hG2, hvG2⟩ := hrows.at hr2
        have hrok2 := hok r2 (List.mem_of_getElem? hr2)
        have hcl2 := csOk_len hrok2.cs
        obtain ⟨hwl2, hwok2⟩ := word_len hrok2.tag.2.2 hrok2.tag.2.1
        unfold wordT at hwl2
        refine item_mod (by k_asm) (by k_mem) hvr2 (by omega) (by omega) ?_
        (repeat' ((fail_if_success (with_reducible show wpAny _ _ (exec (Stmt.Assign _ (Expr.BoolOp _ _ _) _) _) _ _ _)); (fail_if_success (with_reducible show BoolPost _ _ _ _ _ _ _ _ _)); (fail_if_success (with_reducible show SkipPost _ _ _ _ _ _ _)); (fail_if_success (with_reducible show LCt.CompSrcT _ _ _ _ _ _ _ _ _ _ _ _ _ _ _)); (fail_if_success (with_reducible show wpAny _ _ (exec (Stmt.Return _ _) _) _ _ _)); (fail_if_success (with_reducible show wpAny _ _ (eval (Expr.ListComp _ _ _ _) _) _ _ _)); (fail_if_success (with_reducible show wpAny _ _ (compareOp CmpOp.Eq (Value.ref _) (Value.ref _)) _ _ _)); (fail_if_success (with_reducible show wpAny _ _ (call (Value.builtin "str.split") _) _ _ _)); (fail_if_success (with_reducible show wpAny _ _ (compareOp CmpOp.NotEq (Value.ref _) (Value.ref _)) _ _ _)); (fail_if_success (with_reducible show TextPost _ _ _ _ _ _ _ _ _ _ _ _ _ _ _)); (fail_if_success (with_reducible show wpAny _ _ (exec (Stmt.If _ _ _ _) _) _ _ _)); (fail_if_success (with_reducible show wpAny _ _ (call (Value.builtin "len") _) _ _ _)); (fail_if_success (with_reducible show StarOf _ _ _ _ _ _)); (fail_if_success (with_reducible show wpAny _ _ (call (Value.builtin "list.append") _) _ _ _)); (fail_if_success (with_reducible show LCg.CompSrc _ _ _ _ _ _ _ _ _ _ _ _ _ _)); (fail_if_success (with_reducible show wpAny _ _ (call (Value.ref _) _) _ _ _)); (fail_if_success (with_reducible show wpAny _ _ (call (Value.builtin "str.join") _) _ _ _)); (fail_if_success (with_reducible show wpAny _ _ (subscriptTail _ _ _ _) _ _ _)); (fail_if_success (with_reducible show wpAny _ _ (exec (Stmt.Assign _ (Expr.ListComp _ _ _ _) _) _) _ _ _)); (fail_if_success (with_reducible show wpAny _ _ (pyIter _) _ _ _)); (fail_if_success (with_reducible show wpAny _ _ (exec (Stmt.While _ _ _ _) _) _ _ _)); (fail_if_success (with_reducible show wpAny _ _ (compareOp CmpOp.NotIn (Value.ref _) (Value.ref _)) _ _ _)); (fail_if_success (with_reducible show wpAny _ _ (exec (Stmt.For _ _ _ _ _) _) _ _ _)); (first | (k_unfold; (try dsimp only)) | (k_end; kc_close) | walk1 | (dsimp only; walk1) | (leave1; (try dsimp only)) | fail "no step")))
        walk1
        (repeat' ((fail_if_success (with_reducible show wpAny _ _ (exec (Stmt.Assign _ (Expr.BoolOp _ _ _) _) _) _ _ _)); (fail_if_success (with_reducible show BoolPost _ _ _ _ _ _ _ _ _)); (fail_if_success (with_reducible show SkipPost _ _ _ _ _ _ _)); (fail_if_success (with_reducible show LCt.CompSrcT _ _ _ _ _ _ _ _ _ _ _ _ _ _ _)); (fail_if_success (with_reducible show wpAny _ _ (exec (Stmt.Return _ _) _) _ _ _)); (fail_if_success (with_reducible show wpAny _ _ (eval (Expr.ListComp _ _ _ _) _) _ _ _)); (fail_if_success (with_reducible show wpAny _ _ (compareOp CmpOp.Eq (Value.ref _) (Value.ref _)) _ _ _)); (fail_if_success (with_reducible show wpAny _ _ (call (Value.builtin "str.split") _) _ _ _)); (fail_if_success (with_reducible show wpAny _ _ (compareOp CmpOp.NotEq (Value.ref _) (Value.ref _)) _ _ _)); (fail_if_success (with_reducible show TextPost _ _ _ _ _ _ _ _ _ _ _ _ _ _ _)); (fail_if_success (with_reducible show wpAny _ _ (exec (Stmt.If _ _ _ _) _) _ _ _)); (fail_if_success (with_reducible show wpAny _ _ (call (Value.builtin "len") _) _ _ _)); (fail_if_success (with_reducible show StarOf _ _ _ _ _ _)); (fail_if_success (with_reducible show wpAny _ _ (call (Value.builtin "list.append") _) _ _ _)); (fail_if_success (with_reducible show LCg.CompSrc _ _ _ _ _ _ _ _ _ _ _ _ _ _)); (fail_if_success (with_reducible show wpAny _ _ (call (Value.ref _) _) _ _ _)); (fail_if_success (with_reducible show wpAny _ _ (call (Value.builtin "str.join") _) _ _ _)); (fail_if_success (with_reducible show wpAny _ _ (subscriptTail _ _ _ _) _ _ _)); (fail_if_success (with_reducible show wpAny _ _ (exec (Stmt.Assign _ (Expr.ListComp _ _ _ _) _) _) _ _ _)); (fail_if_success (with_reducible show wpAny _ _ (pyIter _) _ _ _)); (fail_if_success (with_reducible show wpAny _ _ (exec (Stmt.While _ _ _ _) _) _ _ _)); (fail_if_success (with_reducible show wpAny _ _ (compareOp CmpOp.NotIn (Value.ref _) (Value.ref _)) _ _ _)); (fail_if_success (with_reducible show wpAny _ _ (exec (Stmt.For _ _ _ _ _) _) _ _ _)); (first | (k_unfold; (try dsimp only)) | (k_end; kc_close) | walk1 | (dsimp only; walk1) | (leave1; (try dsimp only)) | fail "no step")))
        walk1
        (repeat' ((fail_if_success (with_reducible show wpAny _ _ (exec (Stmt.Assign _ (Expr.BoolOp _ _ _) _) _) _ _ _)); (fail_if_success (with_reducible show BoolPost _ _ _ _ _ _ _ _ _)); (fail_if_success (with_reducible show SkipPost _ _ _ _ _ _ _)); (fail_if_success (with_reducible show LCt.CompSrcT _ _ _ _ _ _ _ _ _ _ _ _ _ _ _)); (fail_if_success (with_reducible show wpAny _ _ (exec (Stmt.Return _ _) _) _ _ _)); (fail_if_success (with_reducible show wpAny _ _ (eval (Expr.ListComp _ _ _ _) _) _ _ _)); (fail_if_success (with_reducible show wpAny _ _ (compareOp CmpOp.Eq (Value.ref _) (Value.ref _)) _ _ _)); (fail_if_success (with_reducible show wpAny _ _ (call (Value.builtin "str.split") _) _ _ _)); (fail_if_success (with_reducible show wpAny _ _ (compareOp CmpOp.NotEq (Value.ref _) (Value.ref _)) _ _ _)); (fail_if_success (with_reducible show TextPost _ _ _ _ _ _ _ _ _ _ _ _ _ _ _)); (fail_if_success (with_reducible show wpAny _ _ (exec (Stmt.If _ _ _ _) _) _ _ _)); (fail_if_success (with_reducible show wpAny _ _ (call (Value.builtin "len") _) _ _ _)); (fail_if_success (with_reducible show StarOf _ _ _ _ _ _)); (fail_if_success (with_reducible show wpAny _ _ (call (Value.builtin "list.append") _) _ _ _)); (fail_if_success (with_reducible show LCg.CompSrc _ _ _ _ _ _ _ _ _ _ _ _ _ _)); (fail_if_success (with_reducible show wpAny _ _ (call (Value.ref _) _) _ _ _)); (fail_if_success (with_reducible show wpAny _ _ (call (Value.builtin "str.join") _) _ _ _)); (fail_if_success (with_reducible show wpAny _ _ (subscriptTail _ _ _ _) _ _ _)); (fail_if_success (with_reducible show wpAny _ _ (exec (Stmt.Assign _ (Expr.ListComp _ _ _ _) _) _) _ _ _)); (fail_if_success (with_reducible show wpAny _ _ (pyIter _) _ _ _)); (fail_if_success (with_reducible show wpAny _ _ (exec (Stmt.While _ _ _ _) _) _ _ _)); (fail_if_success (with_reducible show wpAny _ _ (compareOp CmpOp.NotIn (Value.ref _) (Value.ref _)) _ _ _)); (fail_if_success (with_reducible show wpAny _ _ (exec (Stmt.For _ _ _ _ _) _) _ _ _)); (first | (k_unfold; (try dsimp only)) | (k_end; kc_close) | walk1 | (dsimp only; walk1) | (leave1; (try dsimp only)) | fail "no step")))
        refine join_L (by k_asm) (by k_mem) hvG2 hwok2 (fun tw2 kw2 => ?_)
        try dsimp only
        (repeat' ((fail_if_success (with_reducible show wpAny _ _ (exec (Stmt.Assign _ (Expr.BoolOp _ _ _) _) _) _ _ _)); (fail_if_success (with_reducible show BoolPost _ _ _ _ _ _ _ _ _)); (fail_if_success (with_reducible show SkipPost _ _ _ _ _ _ _)); (fail_if_success (with_reducible show LCt.CompSrcT _ _ _ _ _ _ _ _ _ _ _ _ _ _ _)); (fail_if_success (with_reducible show wpAny _ _ (exec (Stmt.Return _ _) _) _ _ _)); (fail_if_success (with_reducible show wpAny _ _ (eval (Expr.ListComp _ _ _ _) _) _ _ _)); (fail_if_success (with_reducible show wpAny _ _ (compareOp CmpOp.Eq (Value.ref _) (Value.ref _)) _ _ _)); (fail_if_success (with_reducible show wpAny _ _ (call (Value.builtin "str.split") _) _ _ _)); (fail_if_success (with_reducible show wpAny _ _ (compareOp CmpOp.NotEq (Value.ref _) (Value.ref _)) _ _ _)); (fail_if_success (with_reducible show TextPost _ _ _ _ _ _ _ _ _ _ _ _ _ _ _)); (fail_if_success (with_reducible show wpAny _ _ (exec (Stmt.If _ _ _ _) _) _ _ _)); (fail_if_success (with_reducible show wpAny _ _ (call (Value.builtin "len") _) _ _ _)); (fail_if_success (with_reducible show StarOf _ _ _ _ _ _)); (fail_if_success (with_reducible show wpAny _ _ (call (Value.builtin "list.append") _) _ _ _)); (fail_if_success (with_reducible show LCg.CompSrc _ _ _ _ _ _ _ _ _ _ _ _ _ _)); (fail_if_success (with_reducible show wpAny _ _ (call (Value.ref _) _) _ _ _)); (fail_if_success (with_reducible show wpAny _ _ (call (Value.builtin "str.join") _) _ _ _)); (fail_if_success (with_reducible show wpAny _ _ (subscriptTail _ _ _ _) _ _ _)); (fail_if_success (with_reducible show wpAny _ _ (exec (Stmt.Assign _ (Expr.ListComp _ _ _ _) _) _) _ _ _)); (fail_if_success (with_reducible show wpAny _ _ (pyIter _) _ _ _)); (fail_if_success (with_reducible show wpAny _ _ (exec (Stmt.While _ _ _ _) _) _ _ _)); (fail_if_success (with_reducible show wpAny _ _ (compareOp CmpOp.NotIn (Value.ref _) (Value.ref _)) _ _ _)); (fail_if_success (with_reducible show wpAny _ _ (exec (Stmt.For _ _ _ _ _) _) _ _ _)); (first | (k_unfold; (try dsimp only)) | (k_end; kc_close) | walk1 | (dsimp only; walk1) | (leave1; (try dsimp only)) | fail "no step")))
        k_dflt (refine' TextPost.intro ?tpF ?tpN ?q1 ?q2 ?q3 ?q4 ?q5 ?q6 ?q7)
        case tpF => k_asm
        case tpN => exact cb_drop (by k_asm) (fun p hp => .tail _ hp)
        case q1 => exact ⟨_, _, if_pos rfl, okS_app (okS_app (okS_app (csOk_ok hrok2.cs) (okS_lit (by decide))) (word_ok hrok2.tag.2.2)) (okS_lit (by decide)), text_len hcl2 hwl2⟩
        case q2 => (repeat (first | exact if_pos rfl | assumption | refine (if_neg (by decide)).trans ?_))
        case q3 => (repeat (first | exact if_pos rfl | assumption | refine (if_neg (by decide)).trans ?_))
        case q4 => (repeat (first | exact if_pos rfl | assumption | refine (if_neg (by decide)).trans ?_))
        case q5 => (repeat (first | exact if_pos rfl | assumption | refine (if_neg (by decide)).trans ?_))
        case q6 => (repeat (first | exact if_pos rfl | assumption | refine (if_neg (by decide)).trans ?_))
        case q7 => (repeat (first | exact if_pos rfl | assumption | refine (if_neg (by decide)).trans ?_))
      case after =>
        obtain ⟨rfl, text, tt, h3, tk3, m3, rfl, F3, N3, hto, htl, q1, q2, q3, q4, q5, q6, q7⟩ := hf
        replace F3 := frK F3 q7
        replace F3 := frK (x := Str.ofString "tag") (v := .ref G) F3 q6
        replace F3 := frK (x := Str.ofString "charset") (v := .str r.cs t2) F3 q5
        replace F3 := frK (x := Str.ofString "kind") (v := .int r.kind t1) F3 q4
        replace F3 := frK (x := Str.ofString "ranges") (v := .ref ga) F3 q3
        replace F3 := frK (x := Str.ofString "rows") (v := .ref ra) F3 q2
        replace F3 := frK (x := Str.ofString "text") (v := .str text tt) F3 q1
        have hcl := csOk_len hrok.cs
        try dsimp only
        (repeat' ((fail_if_success (with_reducible show wpAny _ _ (exec (Stmt.Assign _ (Expr.BoolOp _ _ _) _) _) _ _ _)); (fail_if_success (with_reducible show BoolPost _ _ _ _ _ _ _ _ _)); (fail_if_success (with_reducible show SkipPost _ _ _ _ _ _ _)); (fail_if_success (with_reducible show LCt.CompSrcT _ _ _ _ _ _ _ _ _ _ _ _ _ _ _)); (fail_if_success (with_reducible show wpAny _ _ (exec (Stmt.Return _ _) _) _ _ _)); (fail_if_success (with_reducible show wpAny _ _ (eval (Expr.ListComp _ _ _ _) _) _ _ _)); (fail_if_success (with_reducible show wpAny _ _ (compareOp CmpOp.Eq (Value.ref _) (Value.ref _)) _ _ _)); (fail_if_success (with_reducible show wpAny _ _ (call (Value.builtin "str.split") _) _ _ _)); (fail_if_success (with_reducible show wpAny _ _ (compareOp CmpOp.NotEq (Value.ref _) (Value.ref _)) _ _ _)); (fail_if_success (with_reducible show TextPost _ _ _ _ _ _ _ _ _ _ _ _ _ _ _)); (fail_if_success (with_reducible show wpAny _ _ (exec (Stmt.If _ _ _ _) _) _ _ _)); (fail_if_success (with_reducible show wpAny _ _ (call (Value.builtin "len") _) _ _ _)); (fail_if_success (with_reducible show StarOf _ _ _ _ _ _)); (fail_if_success (with_reducible show wpAny _ _ (call (Value.builtin "list.append") _) _ _ _)); (fail_if_success (with_reducible show LCg.CompSrc _ _ _ _ _ _ _ _ _ _ _ _ _ _)); (fail_if_success (with_reducible show wpAny _ _ (call (Value.ref _) _) _ _ _)); (fail_if_success (with_reducible show wpAny _ _ (call (Value.builtin "str.join") _) _ _ _)); (fail_if_success (with_reducible show wpAny _ _ (subscriptTail _ _ _ _) _ _ _)); (fail_if_success (with_reducible show wpAny _ _ (exec (Stmt.Assign _ (Expr.ListComp _ _ _ _) _) _) _ _ _)); (fail_if_success (with_reducible show wpAny _ _ (pyIter _) _ _ _)); (fail_if_success (with_reducible show wpAny _ _ (exec (Stmt.While _ _ _ _) _) _ _ _)); (fail_if_success (with_reducible show wpAny _ _ (compareOp CmpOp.NotIn (Value.ref _) (Value.ref _)) _ _ _)); (fail_if_success (with_reducible show wpAny _ _ (exec (Stmt.For _ _ _ _ _) _) _ _ _)); (first | (k_unfold; (try dsimp only)) | (k_end; kc_close) | walk1 | (dsimp only; walk1) | (leave1; (try dsimp only)) | fail "no step")))
        rename_i oV3 dV3 lDue hD1 lD2 hD3 FD ND
        walk1
        (repeat' ((fail_if_success (with_reducible show wpAny _ _ (exec (Stmt.Assign _ (Expr.BoolOp _ _ _) _) _) _ _ _)); (fail_if_success (with_reducible show BoolPost _ _ _ _ _ _ _ _ _)); (fail_if_success (with_reducible show SkipPost _ _ _ _ _ _ _)); (fail_if_success (with_reducible show LCt.CompSrcT _ _ _ _ _ _ _ _ _ _ _ _ _ _ _)); (fail_if_success (with_reducible show wpAny _ _ (exec (Stmt.Return _ _) _) _ _ _)); (fail_if_success (with_reducible show wpAny _ _ (eval (Expr.ListComp _ _ _ _) _) _ _ _)); (fail_if_success (with_reducible show wpAny _ _ (compareOp CmpOp.Eq (Value.ref _) (Value.ref _)) _ _ _)); (fail_if_success (with_reducible show wpAny _ _ (call (Value.builtin "str.split") _) _ _ _)); (fail_if_success (with_reducible show wpAny _ _ (compareOp CmpOp.NotEq (Value.ref _) (Value.ref _)) _ _ _)); (fail_if_success (with_reducible show TextPost _ _ _ _ _ _ _ _ _ _ _ _ _ _ _)); (fail_if_success (with_reducible show wpAny _ _ (exec (Stmt.If _ _ _ _) _) _ _ _)); (fail_if_success (with_reducible show wpAny _ _ (call (Value.builtin "len") _) _ _ _)); (fail_if_success (with_reducible show StarOf _ _ _ _ _ _)); (fail_if_success (with_reducible show wpAny _ _ (call (Value.builtin "list.append") _) _ _ _)); (fail_if_success (with_reducible show LCg.CompSrc _ _ _ _ _ _ _ _ _ _ _ _ _ _)); (fail_if_success (with_reducible show wpAny _ _ (call (Value.ref _) _) _ _ _)); (fail_if_success (with_reducible show wpAny _ _ (call (Value.builtin "str.join") _) _ _ _)); (fail_if_success (with_reducible show wpAny _ _ (subscriptTail _ _ _ _) _ _ _)); (fail_if_success (with_reducible show wpAny _ _ (exec (Stmt.Assign _ (Expr.ListComp _ _ _ _) _) _) _ _ _)); (fail_if_success (with_reducible show wpAny _ _ (pyIter _) _ _ _)); (fail_if_success (with_reducible show wpAny _ _ (exec (Stmt.While _ _ _ _) _) _ _ _)); (fail_if_success (with_reducible show wpAny _ _ (compareOp CmpOp.NotIn (Value.ref _) (Value.ref _)) _ _ _)); (fail_if_success (with_reducible show wpAny _ _ (exec (Stmt.For _ _ _ _ _) _) _ _ _)); (first | (k_unfold; (try dsimp only)) | (k_end; kc_close) | walk1 | (dsimp only; walk1) | (leave1; (try dsimp only)) | fail "no step")))
        -- P2 BEGIN
        · have hk4 : 3 < r.kind := by assumption
          refine item_sep (by k_asm) (by k_mem) hk4 hrok.k6 (fun sep tsep hsep => ?_)
          obtain ⟨hsl, hsok⟩ := sep_ok hsep
          (repeat' ((fail_if_success (with_reducible show wpAny _ _ (exec (Stmt.Assign _ (Expr.BoolOp _ _ _) _) _) _ _ _)); (fail_if_success (with_reducible show BoolPost _ _ _ _ _ _ _ _ _)); (fail_if_success (with_reducible show SkipPost _ _ _ _ _ _ _)); (fail_if_success (with_reducible show LCt.CompSrcT _ _ _ _ _ _ _ _ _ _ _ _ _ _ _)); (fail_if_success (with_reducible show wpAny _ _ (exec (Stmt.Return _ _) _) _ _ _)); (fail_if_success (with_reducible show wpAny _ _ (eval (Expr.ListComp _ _ _ _) _) _ _ _)); (fail_if_success (with_reducible show wpAny _ _ (compareOp CmpOp.Eq (Value.ref _) (Value.ref _)) _ _ _)); (fail_if_success (with_reducible show wpAny _ _ (call (Value.builtin "str.split") _) _ _ _)); (fail_if_success (with_reducible show wpAny _ _ (compareOp CmpOp.NotEq (Value.ref _) (Value.ref _)) _ _ _)); (fail_if_success (with_reducible show TextPost _ _ _ _ _ _ _ _ _ _ _ _ _ _ _)); (fail_if_success (with_reducible show wpAny _ _ (exec (Stmt.If _ _ _ _) _) _ _ _)); (fail_if_success (with_reducible show wpAny _ _ (call (Value.builtin "len") _) _ _ _)); (fail_if_success (with_reducible show StarOf _ _ _ _ _ _)); (fail_if_success (with_reducible show wpAny _ _ (call (Value.builtin "list.append") _) _ _ _)); (fail_if_success (with_reducible show LCg.CompSrc _ _ _ _ _ _ _ _ _ _ _ _ _ _)); (fail_if_success (with_reducible show wpAny _ _ (call (Value.ref _) _) _ _ _)); (fail_if_success (with_reducible show wpAny _ _ (call (Value.builtin "str.join") _) _ _ _)); (fail_if_success (with_reducible show wpAny _ _ (subscriptTail _ _ _ _) _ _ _)); (fail_if_success (with_reducible show wpAny _ _ (exec (Stmt.Assign _ (Expr.ListComp _ _ _ _) _) _) _ _ _)); (fail_if_success (with_reducible show wpAny _ _ (pyIter _) _ _ _)); (fail_if_success (with_reducible show wpAny _ _ (exec (Stmt.While _ _ _ _) _) _ _ _)); (fail_if_success (with_reducible show wpAny _ _ (compareOp CmpOp.NotIn (Value.ref _) (Value.ref _)) _ _ _)); (fail_if_success (with_reducible show wpAny _ _ (exec (Stmt.For _ _ _ _ _) _) _ _ _)); (first | (k_unfold; (try dsimp only)) | (k_end; kc_close) | walk1 | (dsimp only; walk1) | (leave1; (try dsimp only)) | fail "no step")))
          rename_i oV4 dV4 tkE lDu2 hE1 lE2 hE3 FE NE
          have hvl := sep_len hcl hsl hwl
          have hp2 := pl_split2' hrok.cs hrok.tag.2.2 hsep
          k_dflt (refine' CtrO.use (dec_c _ (r.cs ++ sep ++ Txt.join (Str.ofString "-") r.tag) _ _ hvl rfl (Nat.le_succ_of_le hp2)) ?k1 ?k2 ?k3 ?k4 ?k5 ?kK ?kd ?ku ?kp ?_; (case k1 => k_asm); (case k2 => k_asm); (case k3 => k_asm); (case k4 => k_asm); (case k5 => k_asm); (case kK => exact rfl); (case kd => ktr_room); (case ku => ktr_units); (case kp => first | trivial | k_mem | assumption); k_whole)
          intro rP oP hP tkP FP NP lP pP
          rcases pP with ⟨_, nP, rfl⟩ | ⟨h2, _⟩
          rotate_left
          · exact absurd h2 (Nat.not_lt.mpr hp2)
          k_lt lP
          try dsimp only
          (repeat' ((fail_if_success (with_reducible show wpAny _ _ (exec (Stmt.Assign _ (Expr.BoolOp _ _ _) _) _) _ _ _)); (fail_if_success (with_reducible show BoolPost _ _ _ _ _ _ _ _ _)); (fail_if_success (with_reducible show SkipPost _ _ _ _ _ _ _)); (fail_if_success (with_reducible show LCt.CompSrcT _ _ _ _ _ _ _ _ _ _ _ _ _ _ _)); (fail_if_success (with_reducible show wpAny _ _ (exec (Stmt.Return _ _) _) _ _ _)); (fail_if_success (with_reducible show wpAny _ _ (eval (Expr.ListComp _ _ _ _) _) _ _ _)); (fail_if_success (with_reducible show wpAny _ _ (compareOp CmpOp.Eq (Value.ref _) (Value.ref _)) _ _ _)); (fail_if_success (with_reducible show wpAny _ _ (call (Value.builtin "str.split") _) _ _ _)); (fail_if_success (with_reducible show wpAny _ _ (compareOp CmpOp.NotEq (Value.ref _) (Value.ref _)) _ _ _)); (fail_if_success (with_reducible show TextPost _ _ _ _ _ _ _ _ _ _ _ _ _ _ _)); (fail_if_success (with_reducible show wpAny _ _ (exec (Stmt.If _ _ _ _) _) _ _ _)); (fail_if_success (with_reducible show wpAny _ _ (call (Value.builtin "len") _) _ _ _)); (fail_if_success (with_reducible show StarOf _ _ _ _ _ _)); (fail_if_success (with_reducible show wpAny _ _ (call (Value.builtin "list.append") _) _ _ _)); (fail_if_success (with_reducible show LCg.CompSrc _ _ _ _ _ _ _ _ _ _ _ _ _ _)); (fail_if_success (with_reducible show wpAny _ _ (call (Value.ref _) _) _ _ _)); (fail_if_success (with_reducible show wpAny _ _ (call (Value.builtin "str.join") _) _ _ _)); (fail_if_success (with_reducible show wpAny _ _ (subscriptTail _ _ _ _) _ _ _)); (fail_if_success (with_reducible show wpAny _ _ (exec (Stmt.Assign _ (Expr.ListComp _ _ _ _) _) _) _ _ _)); (fail_if_success (with_reducible show wpAny _ _ (pyIter _) _ _ _)); (fail_if_success (with_reducible show wpAny _ _ (exec (Stmt.While _ _ _ _) _) _ _ _)); (fail_if_success (with_reducible show wpAny _ _ (compareOp CmpOp.NotIn (Value.ref _) (Value.ref _)) _ _ _)); (fail_if_success (with_reducible show wpAny _ _ (exec (Stmt.For _ _ _ _ _) _) _ _ _)); (first | (k_unfold; (try dsimp only)) | (k_end; kc_close) | walk1 | (dsimp only; walk1) | (leave1; (try dsimp only)) | fail "no step")))
          walk1
          (repeat' ((fail_if_success (with_reducible show wpAny _ _ (exec (Stmt.Assign _ (Expr.BoolOp _ _ _) _) _) _ _ _)); (fail_if_success (with_reducible show BoolPost _ _ _ _ _ _ _ _ _)); (fail_if_success (with_reducible show SkipPost _ _ _ _ _ _ _)); (fail_if_success (with_reducible show LCt.CompSrcT _ _ _ _ _ _ _ _ _ _ _ _ _ _ _)); (fail_if_success (with_reducible show wpAny _ _ (exec (Stmt.Return _ _) _) _ _ _)); (fail_if_success (with_reducible show wpAny _ _ (eval (Expr.ListComp _ _ _ _) _) _ _ _)); (fail_if_success (with_reducible show wpAny _ _ (compareOp CmpOp.Eq (Value.ref _) (Value.ref _)) _ _ _)); (fail_if_success (with_reducible show wpAny _ _ (call (Value.builtin "str.split") _) _ _ _)); (fail_if_success (with_reducible show wpAny _ _ (compareOp CmpOp.NotEq (Value.ref _) (Value.ref _)) _ _ _)); (fail_if_success (with_reducible show TextPost _ _ _ _ _ _ _ _ _ _ _ _ _ _ _)); (fail_if_success (with_reducible show wpAny _ _ (exec (Stmt.If _ _ _ _) _) _ _ _)); (fail_if_success (with_reducible show wpAny _ _ (call (Value.builtin "len") _) _ _ _)); (fail_if_success (with_reducible show StarOf _ _ _ _ _ _)); (fail_if_success (with_reducible show wpAny _ _ (call (Value.builtin "list.append") _) _ _ _)); (fail_if_success (with_reducible show LCg.CompSrc _ _ _ _ _ _ _ _ _ _ _ _ _ _)); (fail_if_success (with_reducible show wpAny _ _ (call (Value.ref _) _) _ _ _)); (fail_if_success (with_reducible show wpAny _ _ (call (Value.builtin "str.join") _) _ _ _)); (fail_if_success (with_reducible show wpAny _ _ (subscriptTail _ _ _ _) _ _ _)); (fail_if_success (with_reducible show wpAny _ _ (exec (Stmt.Assign _ (Expr.ListComp _ _ _ _) _) _) _ _ _)); (fail_if_success (with_reducible show wpAny _ _ (pyIter _) _ _ _)); (fail_if_success (with_reducible show wpAny _ _ (exec (Stmt.While _ _ _ _) _) _ _ _)); (fail_if_success (with_reducible show wpAny _ _ (compareOp CmpOp.NotIn (Value.ref _) (Value.ref _)) _ _ _)); (fail_if_success (with_reducible show wpAny _ _ (exec (Stmt.For _ _ _ _ _) _) _ _ _)); (first | (k_unfold; (try dsimp only)) | (k_end; kc_close) | walk1 | (dsimp only; walk1) | (leave1; (try dsimp only)) | fail "no step")))
          refine ne_tup3_L (by k_asm) (by k_mem) (by k_mem) (okS_app (okS_app (csOk_ok hrok.cs) hsok) (word_ok hrok.tag.2.2)) (by ke_room) ?_
          (repeat' ((fail_if_success (with_reducible show wpAny _ _ (exec (Stmt.Assign _ (Expr.BoolOp _ _ _) _) _) _ _ _)); (fail_if_success (with_reducible show BoolPost _ _ _ _ _ _ _ _ _)); (fail_if_success (with_reducible show SkipPost _ _ _ _ _ _ _)); (fail_if_success (with_reducible show LCt.CompSrcT _ _ _ _ _ _ _ _ _ _ _ _ _ _ _)); (fail_if_success (with_reducible show wpAny _ _ (exec (Stmt.Return _ _) _) _ _ _)); (fail_if_success (with_reducible show wpAny _ _ (eval (Expr.ListComp _ _ _ _) _) _ _ _)); (fail_if_success (with_reducible show wpAny _ _ (compareOp CmpOp.Eq (Value.ref _) (Value.ref _)) _ _ _)); (fail_if_success (with_reducible show wpAny _ _ (call (Value.builtin "str.split") _) _ _ _)); (fail_if_success (with_reducible show wpAny _ _ (compareOp CmpOp.NotEq (Value.ref _) (Value.ref _)) _ _ _)); (fail_if_success (with_reducible show TextPost _ _ _ _ _ _ _ _ _ _ _ _ _ _ _)); (fail_if_success (with_reducible show wpAny _ _ (exec (Stmt.If _ _ _ _) _) _ _ _)); (fail_if_success (with_reducible show wpAny _ _ (call (Value.builtin "len") _) _ _ _)); (fail_if_success (with_reducible show StarOf _ _ _ _ _ _)); (fail_if_success (with_reducible show wpAny _ _ (call (Value.builtin "list.append") _) _ _ _)); (fail_if_success (with_reducible show LCg.CompSrc _ _ _ _ _ _ _ _ _ _ _ _ _ _)); (fail_if_success (with_reducible show wpAny _ _ (call (Value.ref _) _) _ _ _)); (fail_if_success (with_reducible show wpAny _ _ (call (Value.builtin "str.join") _) _ _ _)); (fail_if_success (with_reducible show wpAny _ _ (subscriptTail _ _ _ _) _ _ _)); (fail_if_success (with_reducible show wpAny _ _ (exec (Stmt.Assign _ (Expr.ListComp _ _ _ _) _) _) _ _ _)); (fail_if_success (with_reducible show wpAny _ _ (pyIter _) _ _ _)); (fail_if_success (with_reducible show wpAny _ _ (exec (Stmt.While _ _ _ _) _) _ _ _)); (fail_if_success (with_reducible show wpAny _ _ (compareOp CmpOp.NotIn (Value.ref _) (Value.ref _)) _ _ _)); (fail_if_success (with_reducible show wpAny _ _ (exec (Stmt.For _ _ _ _ _) _) _ _ _)); (first | (k_unfold; (try dsimp only)) | (k_end; kc_close) | walk1 | (dsimp only; walk1) | (leave1; (try dsimp only)) | fail "no step")))
          rename_i lNe hNe lNe1 hNe2 FNe NNe
          refine For_turns (by k_asm) ?_
          (repeat' ((fail_if_success (with_reducible show wpAny _ _ (exec (Stmt.Assign _ (Expr.BoolOp _ _ _) _) _) _ _ _)); (fail_if_success (with_reducible show BoolPost _ _ _ _ _ _ _ _ _)); (fail_if_success (with_reducible show SkipPost _ _ _ _ _ _ _)); (fail_if_success (with_reducible show LCt.CompSrcT _ _ _ _ _ _ _ _ _ _ _ _ _ _ _)); (fail_if_success (with_reducible show wpAny _ _ (exec (Stmt.Return _ _) _) _ _ _)); (fail_if_success (with_reducible show wpAny _ _ (eval (Expr.ListComp _ _ _ _) _) _ _ _)); (fail_if_success (with_reducible show wpAny _ _ (compareOp CmpOp.Eq (Value.ref _) (Value.ref _)) _ _ _)); (fail_if_success (with_reducible show wpAny _ _ (call (Value.builtin "str.split") _) _ _ _)); (fail_if_success (with_reducible show wpAny _ _ (compareOp CmpOp.NotEq (Value.ref _) (Value.ref _)) _ _ _)); (fail_if_success (with_reducible show TextPost _ _ _ _ _ _ _ _ _ _ _ _ _ _ _)); (fail_if_success (with_reducible show wpAny _ _ (exec (Stmt.If _ _ _ _) _) _ _ _)); (fail_if_success (with_reducible show wpAny _ _ (call (Value.builtin "len") _) _ _ _)); (fail_if_success (with_reducible show StarOf _ _ _ _ _ _)); (fail_if_success (with_reducible show wpAny _ _ (call (Value.builtin "list.append") _) _ _ _)); (fail_if_success (with_reducible show LCg.CompSrc _ _ _ _ _ _ _ _ _ _ _ _ _ _)); (fail_if_success (with_reducible show wpAny _ _ (call (Value.ref _) _) _ _ _)); (fail_if_success (with_reducible show wpAny _ _ (call (Value.builtin "str.join") _) _ _ _)); (fail_if_success (with_reducible show wpAny _ _ (subscriptTail _ _ _ _) _ _ _)); (fail_if_success (with_reducible show wpAny _ _ (exec (Stmt.Assign _ (Expr.ListComp _ _ _ _) _) _) _ _ _)); (fail_if_success (with_reducible show wpAny _ _ (pyIter _) _ _ _)); (fail_if_success (with_reducible show wpAny _ _ (exec (Stmt.While _ _ _ _) _) _ _ _)); (fail_if_success (with_reducible show wpAny _ _ (compareOp CmpOp.NotIn (Value.ref _) (Value.ref _)) _ _ _)); (fail_if_success (with_reducible show wpAny _ _ (exec (Stmt.For _ _ _ _ _) _) _ _ _)); (first | (k_unfold; (try dsimp only)) | (k_end; kc_close) | walk1 | (dsimp only; walk1) | (leave1; (try dsimp only)) | fail "no step")))
          obtain ⟨tailY, NY, hY⟩ := news_name NNe
          have yN : (lNe, lstO [] 0) ∈ tailY := by rw [hY]; k_mem
          have yV : (s₁.heap.objs.size + 1 + 1 + 1, oV4) ∈ tailY := by rw [hY]; k_mem
          have backY : ∀ q ∈ (J, oJ) :: (s₁.heap.objs.size + 1 + 1 + 1, oV4) :: tailX, q ∈ tailY := fun q hq => by rw [hY]; exact .tail _ (.tail _ (.tail _ (.tail _ (.tail _ hq))))
          have subY : ∀ q ∈ tailX, q ∈ tailY := fun q hq => backY q (.tail _ (.tail _ hq))
          clear hY NNe
          have y1 := subY _ mX1
          have yg := subY _ mXg
          have yG := subY _ hG
          have hrngsY := All2.mono (fun a b hab => RangeAt.mono subY hab) hrngs
          refine iter_listTurns (vs := gv) (n := n2) (lo := lstO gv n2) rfl FNe NY yg rfl rfl (fun K hK => ?_)
          have ofK : ∀ p ∈ tailY, p.1 ≠ K := fun p hp => Nat.ne_of_lt (hK p hp)
          refine items_ind (L5 tailY st ra ga lNe rP rs r.kind t1) ?done5 ?turn5 _ _ _ ⟨⟨rs, hrngsY, fun _ h => h⟩, rfl, ?pc0, ?pc1, ?pc2, ?pc3, ?pc4, ?pc5⟩
          case pc0 => (repeat (first | exact if_pos rfl | assumption | refine (if_neg (by decide)).trans ?_))
          case pc1 => (repeat (first | exact if_pos rfl | assumption | refine (if_neg (by decide)).trans ?_))
          case pc2 => (repeat (first | exact if_pos rfl | assumption | refine (if_neg (by decide)).trans ?_))
          case pc3 => (repeat (first | exact if_pos rfl | assumption | refine (if_neg (by decide)).trans ?_))
          case pc4 => (repeat (first | exact if_pos rfl | assumption | refine (if_neg (by decide)).trans ?_))
          case pc5 => apply Exists.intro; (repeat (first | exact if_pos rfl | assumption | refine (if_neg (by decide)).trans ?_))
          -- P2D BEGIN
          case done5 =>
            rintro m₃ news₃ ⟨⟨rest, hr9, hin⟩, rfl, q0, q1, q2, q3, q6, ⟨tpl, q7⟩⟩
            refine ItemsRest.zero (fun h₃ tk₃ F₃ N₃ => ?_)
            replace F₃ := frK F₃ q1
            replace F₃ := frK (x := Str.ofString "ranges") (v := .ref ga) F₃ q2
            replace F₃ := frK (x := Str.ofString "place") (v := .str (Str.ofString "/") tpl) F₃ q7
            replace F₃ := frK (x := Str.ofString "nearest") (v := .ref lNe) F₃ q0
            have hee : (Str.ofString "/" != Str.ofString "/") = false := bne_self_eq_false _
            (repeat' ((fail_if_success (with_reducible show wpAny _ _ (exec (Stmt.Assign _ (Expr.BoolOp _ _ _) _) _) _ _ _)); (fail_if_success (with_reducible show BoolPost _ _ _ _ _ _ _ _ _)); (fail_if_success (with_reducible show SkipPost _ _ _ _ _ _ _)); (fail_if_success (with_reducible show LCt.CompSrcT _ _ _ _ _ _ _ _ _ _ _ _ _ _ _)); (fail_if_success (with_reducible show wpAny _ _ (exec (Stmt.Return _ _) _) _ _ _)); (fail_if_success (with_reducible show wpAny _ _ (eval (Expr.ListComp _ _ _ _) _) _ _ _)); (fail_if_success (with_reducible show wpAny _ _ (compareOp CmpOp.Eq (Value.ref _) (Value.ref _)) _ _ _)); (fail_if_success (with_reducible show wpAny _ _ (call (Value.builtin "str.split") _) _ _ _)); (fail_if_success (with_reducible show wpAny _ _ (compareOp CmpOp.NotEq (Value.ref _) (Value.ref _)) _ _ _)); (fail_if_success (with_reducible show TextPost _ _ _ _ _ _ _ _ _ _ _ _ _ _ _)); (fail_if_success (with_reducible show wpAny _ _ (exec (Stmt.If _ _ _ _) _) _ _ _)); (fail_if_success (with_reducible show wpAny _ _ (call (Value.builtin "len") _) _ _ _)); (fail_if_success (with_reducible show StarOf _ _ _ _ _ _)); (fail_if_success (with_reducible show wpAny _ _ (call (Value.builtin "list.append") _) _ _ _)); (fail_if_success (with_reducible show LCg.CompSrc _ _ _ _ _ _ _ _ _ _ _ _ _ _)); (fail_if_success (with_reducible show wpAny _ _ (call (Value.ref _) _) _ _ _)); (fail_if_success (with_reducible show wpAny _ _ (call (Value.builtin "str.join") _) _ _ _)); (fail_if_success (with_reducible show wpAny _ _ (subscriptTail _ _ _ _) _ _ _)); (fail_if_success (with_reducible show wpAny _ _ (exec (Stmt.Assign _ (Expr.ListComp _ _ _ _) _) _) _ _ _)); (fail_if_success (with_reducible show wpAny _ _ (pyIter _) _ _ _)); (fail_if_success (with_reducible show wpAny _ _ (exec (Stmt.While _ _ _ _) _) _ _ _)); (fail_if_success (with_reducible show wpAny _ _ (compareOp CmpOp.NotIn (Value.ref _) (Value.ref _)) _ _ _)); (fail_if_success (with_reducible show wpAny _ _ (exec (Stmt.For _ _ _ _ _) _) _ _ _)); (first | (k_unfold; (try dsimp only)) | (k_end; kc_close) | walk1 | (dsimp only; walk1) | (leave1; (try dsimp only)) | fail "no step")))
            refine While_inv (hE := hpo) (fun _ m nw => nw = news₃ ∧ (∃ t, m (Str.ofString "place") = some (.str (Str.ofString "/") t)) ∧ m (Str.ofString "nearest") = some (.ref lNe) ∧ m (Str.ofString "rows") = some (.ref ra) ∧ m (Str.ofString "ranges") = some (.ref ga)) (n₀ := 0) (by k_asm) (by k_asm) ⟨rfl, ⟨tpl, by (repeat (first | exact if_pos rfl | assumption | refine (if_neg (by decide)).trans ?_))⟩, by (repeat (first | exact if_pos rfl | assumption | refine (if_neg (by decide)).trans ?_)), by (repeat (first | exact if_pos rfl | assumption | refine (if_neg (by decide)).trans ?_)), by (repeat (first | exact if_pos rfl | assumption | refine (if_neg (by decide)).trans ?_))⟩ ?_
            rintro n m₄ news₄ h₄ tk₄ F₄ N₄ ⟨hnw, ⟨tpw, r1⟩, r2, r3, r4⟩
            subst hnw
            replace F₄ := frK F₄ r4
            replace F₄ := frK (x := Str.ofString "rows") (v := .ref ra) F₄ r3
            replace F₄ := frK (x := Str.ofString "nearest") (v := .ref lNe) F₄ r2
            replace F₄ := frK (x := Str.ofString "place") (v := .str (Str.ofString "/") tpw) F₄ r1
            (repeat' ((fail_if_success (with_reducible show wpAny _ _ (exec (Stmt.Assign _ (Expr.BoolOp _ _ _) _) _) _ _ _)); (fail_if_success (with_reducible show BoolPost _ _ _ _ _ _ _ _ _)); (fail_if_success (with_reducible show SkipPost _ _ _ _ _ _ _)); (fail_if_success (with_reducible show LCt.CompSrcT _ _ _ _ _ _ _ _ _ _ _ _ _ _ _)); (fail_if_success (with_reducible show wpAny _ _ (exec (Stmt.Return _ _) _) _ _ _)); (fail_if_success (with_reducible show wpAny _ _ (eval (Expr.ListComp _ _ _ _) _) _ _ _)); (fail_if_success (with_reducible show wpAny _ _ (compareOp CmpOp.Eq (Value.ref _) (Value.ref _)) _ _ _)); (fail_if_success (with_reducible show wpAny _ _ (call (Value.builtin "str.split") _) _ _ _)); (fail_if_success (with_reducible show wpAny _ _ (compareOp CmpOp.NotEq (Value.ref _) (Value.ref _)) _ _ _)); (fail_if_success (with_reducible show TextPost _ _ _ _ _ _ _ _ _ _ _ _ _ _ _)); (fail_if_success (with_reducible show wpAny _ _ (exec (Stmt.If _ _ _ _) _) _ _ _)); (fail_if_success (with_reducible show wpAny _ _ (call (Value.builtin "len") _) _ _ _)); (fail_if_success (with_reducible show StarOf _ _ _ _ _ _)); (fail_if_success (with_reducible show wpAny _ _ (call (Value.builtin "list.append") _) _ _ _)); (fail_if_success (with_reducible show LCg.CompSrc _ _ _ _ _ _ _ _ _ _ _ _ _ _)); (fail_if_success (with_reducible show wpAny _ _ (call (Value.ref _) _) _ _ _)); (fail_if_success (with_reducible show wpAny _ _ (call (Value.builtin "str.join") _) _ _ _)); (fail_if_success (with_reducible show wpAny _ _ (subscriptTail _ _ _ _) _ _ _)); (fail_if_success (with_reducible show wpAny _ _ (exec (Stmt.Assign _ (Expr.ListComp _ _ _ _) _) _) _ _ _)); (fail_if_success (with_reducible show wpAny _ _ (pyIter _) _ _ _)); (fail_if_success (with_reducible show wpAny _ _ (exec (Stmt.While _ _ _ _) _) _ _ _)); (fail_if_success (with_reducible show wpAny _ _ (compareOp CmpOp.NotIn (Value.ref _) (Value.ref _)) _ _ _)); (fail_if_success (with_reducible show wpAny _ _ (exec (Stmt.For _ _ _ _ _) _) _ _ _)); (first | (k_unfold; (try dsimp only)) | (k_end; kc_close) | walk1 | (dsimp only; walk1) | (leave1; (try dsimp only)) | fail "no step")))
            walk1
            (repeat' ((fail_if_success (with_reducible show wpAny _ _ (exec (Stmt.Assign _ (Expr.BoolOp _ _ _) _) _) _ _ _)); (fail_if_success (with_reducible show BoolPost _ _ _ _ _ _ _ _ _)); (fail_if_success (with_reducible show SkipPost _ _ _ _ _ _ _)); (fail_if_success (with_reducible show LCt.CompSrcT _ _ _ _ _ _ _ _ _ _ _ _ _ _ _)); (fail_if_success (with_reducible show wpAny _ _ (exec (Stmt.Return _ _) _) _ _ _)); (fail_if_success (with_reducible show wpAny _ _ (eval (Expr.ListComp _ _ _ _) _) _ _ _)); (fail_if_success (with_reducible show wpAny _ _ (compareOp CmpOp.Eq (Value.ref _) (Value.ref _)) _ _ _)); (fail_if_success (with_reducible show wpAny _ _ (call (Value.builtin "str.split") _) _ _ _)); (fail_if_success (with_reducible show wpAny _ _ (compareOp CmpOp.NotEq (Value.ref _) (Value.ref _)) _ _ _)); (fail_if_success (with_reducible show TextPost _ _ _ _ _ _ _ _ _ _ _ _ _ _ _)); (fail_if_success (with_reducible show wpAny _ _ (exec (Stmt.If _ _ _ _) _) _ _ _)); (fail_if_success (with_reducible show wpAny _ _ (call (Value.builtin "len") _) _ _ _)); (fail_if_success (with_reducible show StarOf _ _ _ _ _ _)); (fail_if_success (with_reducible show wpAny _ _ (call (Value.builtin "list.append") _) _ _ _)); (fail_if_success (with_reducible show LCg.CompSrc _ _ _ _ _ _ _ _ _ _ _ _ _ _)); (fail_if_success (with_reducible show wpAny _ _ (call (Value.ref _) _) _ _ _)); (fail_if_success (with_reducible show wpAny _ _ (call (Value.builtin "str.join") _) _ _ _)); (fail_if_success (with_reducible show wpAny _ _ (subscriptTail _ _ _ _) _ _ _)); (fail_if_success (with_reducible show wpAny _ _ (exec (Stmt.Assign _ (Expr.ListComp _ _ _ _) _) _) _ _ _)); (fail_if_success (with_reducible show wpAny _ _ (pyIter _) _ _ _)); (fail_if_success (with_reducible show wpAny _ _ (exec (Stmt.While _ _ _ _) _) _ _ _)); (fail_if_success (with_reducible show wpAny _ _ (compareOp CmpOp.NotIn (Value.ref _) (Value.ref _)) _ _ _)); (fail_if_success (with_reducible show wpAny _ _ (exec (Stmt.For _ _ _ _ _) _) _ _ _)); (first | (k_unfold; (try dsimp only)) | (k_end; kc_close) | walk1 | (dsimp only; walk1) | (leave1; (try dsimp only)) | fail "no step")))
            k_dflt (refine' star_seq (T := "list") (o := lstO [] 0) (n := 0) (its := #[]) (ws := []) ?k1 ?k2 ?m rfl rfl (.inl rfl) rfl ?z ?_; (case k1 => k_asm); (case k2 => k_asm); (case m => k_mem); (case z => exact Nat.zero_le _); k_whole)
            intro hst5 Fst5 Nst5
            try dsimp only
            (repeat' ((fail_if_success (with_reducible show wpAny _ _ (exec (Stmt.Assign _ (Expr.BoolOp _ _ _) _) _) _ _ _)); (fail_if_success (with_reducible show BoolPost _ _ _ _ _ _ _ _ _)); (fail_if_success (with_reducible show SkipPost _ _ _ _ _ _ _)); (fail_if_success (with_reducible show LCt.CompSrcT _ _ _ _ _ _ _ _ _ _ _ _ _ _ _)); (fail_if_success (with_reducible show wpAny _ _ (exec (Stmt.Return _ _) _) _ _ _)); (fail_if_success (with_reducible show wpAny _ _ (eval (Expr.ListComp _ _ _ _) _) _ _ _)); (fail_if_success (with_reducible show wpAny _ _ (compareOp CmpOp.Eq (Value.ref _) (Value.ref _)) _ _ _)); (fail_if_success (with_reducible show wpAny _ _ (call (Value.builtin "str.split") _) _ _ _)); (fail_if_success (with_reducible show wpAny _ _ (compareOp CmpOp.NotEq (Value.ref _) (Value.ref _)) _ _ _)); (fail_if_success (with_reducible show TextPost _ _ _ _ _ _ _ _ _ _ _ _ _ _ _)); (fail_if_success (with_reducible show wpAny _ _ (exec (Stmt.If _ _ _ _) _) _ _ _)); (fail_if_success (with_reducible show wpAny _ _ (call (Value.builtin "len") _) _ _ _)); (fail_if_success (with_reducible show StarOf _ _ _ _ _ _)); (fail_if_success (with_reducible show wpAny _ _ (call (Value.builtin "list.append") _) _ _ _)); (fail_if_success (with_reducible show LCg.CompSrc _ _ _ _ _ _ _ _ _ _ _ _ _ _)); (fail_if_success (with_reducible show wpAny _ _ (call (Value.ref _) _) _ _ _)); (fail_if_success (with_reducible show wpAny _ _ (call (Value.builtin "str.join") _) _ _ _)); (fail_if_success (with_reducible show wpAny _ _ (subscriptTail _ _ _ _) _ _ _)); (fail_if_success (with_reducible show wpAny _ _ (exec (Stmt.Assign _ (Expr.ListComp _ _ _ _) _) _) _ _ _)); (fail_if_success (with_reducible show wpAny _ _ (pyIter _) _ _ _)); (fail_if_success (with_reducible show wpAny _ _ (exec (Stmt.While _ _ _ _) _) _ _ _)); (fail_if_success (with_reducible show wpAny _ _ (compareOp CmpOp.NotIn (Value.ref _) (Value.ref _)) _ _ _)); (fail_if_success (with_reducible show wpAny _ _ (exec (Stmt.For _ _ _ _ _) _) _ _ _)); (first | (k_unfold; (try dsimp only)) | (k_end; kc_close) | walk1 | (dsimp only; walk1) | (leave1; (try dsimp only)) | fail "no step")))
            k_dflt (refine' CtrV.use (join_c _ _ _ _ _ (StrsAre.nil) (by decide) (by decide) (by decide) (good_names' (ns := []) (fun _ h => by cases h))) ?k1 ?k2 ?k3 ?k4 ?k5 ?kK ?kd ?ku ?kp ?_; (case k1 => k_asm); (case k2 => k_asm); (case k3 => k_asm); (case k4 => k_asm); (case k5 => k_asm); (case kK => exact rfl); (case kd => ktr_room); (case ku => ktr_units); (case kp => first | trivial | k_mem | assumption); k_whole)
            intro v7 h7 tk7 F7 N7 hp7
            obtain ⟨tPl7, hv7⟩ := hp7
            replace hv7 : v7 = Value.str (Str.ofString "/") tPl7 := hv7
            subst hv7
            try dsimp only
            (repeat' ((fail_if_success (with_reducible show wpAny _ _ (exec (Stmt.Assign _ (Expr.BoolOp _ _ _) _) _) _ _ _)); (fail_if_success (with_reducible show BoolPost _ _ _ _ _ _ _ _ _)); (fail_if_success (with_reducible show SkipPost _ _ _ _ _ _ _)); (fail_if_success (with_reducible show LCt.CompSrcT _ _ _ _ _ _ _ _ _ _ _ _ _ _ _)); (fail_if_success (with_reducible show wpAny _ _ (exec (Stmt.Return _ _) _) _ _ _)); (fail_if_success (with_reducible show wpAny _ _ (eval (Expr.ListComp _ _ _ _) _) _ _ _)); (fail_if_success (with_reducible show wpAny _ _ (compareOp CmpOp.Eq (Value.ref _) (Value.ref _)) _ _ _)); (fail_if_success (with_reducible show wpAny _ _ (call (Value.builtin "str.split") _) _ _ _)); (fail_if_success (with_reducible show wpAny _ _ (compareOp CmpOp.NotEq (Value.ref _) (Value.ref _)) _ _ _)); (fail_if_success (with_reducible show TextPost _ _ _ _ _ _ _ _ _ _ _ _ _ _ _)); (fail_if_success (with_reducible show wpAny _ _ (exec (Stmt.If _ _ _ _) _) _ _ _)); (fail_if_success (with_reducible show wpAny _ _ (call (Value.builtin "len") _) _ _ _)); (fail_if_success (with_reducible show StarOf _ _ _ _ _ _)); (fail_if_success (with_reducible show wpAny _ _ (call (Value.builtin "list.append") _) _ _ _)); (fail_if_success (with_reducible show LCg.CompSrc _ _ _ _ _ _ _ _ _ _ _ _ _ _)); (fail_if_success (with_reducible show wpAny _ _ (call (Value.ref _) _) _ _ _)); (fail_if_success (with_reducible show wpAny _ _ (call (Value.builtin "str.join") _) _ _ _)); (fail_if_success (with_reducible show wpAny _ _ (subscriptTail _ _ _ _) _ _ _)); (fail_if_success (with_reducible show wpAny _ _ (exec (Stmt.Assign _ (Expr.ListComp _ _ _ _) _) _) _ _ _)); (fail_if_success (with_reducible show wpAny _ _ (pyIter _) _ _ _)); (fail_if_success (with_reducible show wpAny _ _ (exec (Stmt.While _ _ _ _) _) _ _ _)); (fail_if_success (with_reducible show wpAny _ _ (compareOp CmpOp.NotIn (Value.ref _) (Value.ref _)) _ _ _)); (fail_if_success (with_reducible show wpAny _ _ (exec (Stmt.For _ _ _ _ _) _) _ _ _)); (first | (k_unfold; (try dsimp only)) | (k_end; kc_close) | walk1 | (dsimp only; walk1) | (leave1; (try dsimp only)) | fail "no step")))
            refine unrW_end F7 N7 ((s₁.heap.objs.size + 1 + 1 + 1, oV4) :: tailX) (fun p hp => backY p hp) ?offP (hR₁ _ _ ⟨trivial, IH _ _ ⟨⟨oV4, _, rfl, dV4⟩, ?pw0, ?pw1⟩⟩)
            case offP =>
              intro p hp q hq
              rw [List.mem_singleton.mp hq]
              rcases List.mem_cons.mp hp with rfl | hp
              · exact Nat.ne_of_lt J3
              · exact of3J p hp
            case pw0 => (repeat (first | exact if_pos rfl | assumption | refine (if_neg (by decide)).trans ?_))
            case pw1 => (repeat (first | exact if_pos rfl | assumption | refine (if_neg (by decide)).trans ?_))
          -- P2D END
          -- P2T BEGIN
          case turn5 =>
            rintro v9 r9 m₃ news₃ ⟨⟨rest, hr9, hin⟩, rfl, q0, q1, q2, q3, q6, ⟨tpl, q7⟩⟩ IH3
            cases hr9
            rename_i a rest hRA hr9
            obtain ⟨R, tR1, Nm, tR2, P, vNm, p1, p2, nR1, nR2, nR3, rfl, hR, hNm, hvNm, hP, ⟨vp1, kp1, hp1, hpa1⟩, ⟨vp2, kp2, hp2, hpa2⟩⟩ := hRA
            have haok : RowOk a := hok a (hin a (.head _))
            refine ItemsRest.val (fun h₃ tk₃ F₃ => AllObj.cons fun oK hoK => AllObj.nil fun N₃ => ?_)
            refine abs_post (fun R₁ Q₁ hR₁ => ?_)
            replace F₃ := frK F₃ q1
            replace F₃ := frK (x := Str.ofString "ranges") (v := .ref ga) F₃ q2
            replace F₃ := frK (x := Str.ofString "kind") (v := .int r.kind t1) F₃ q3
            replace F₃ := frK (x := Str.ofString "parts") (v := .ref rP) F₃ q6
            replace F₃ := frK (x := Str.ofString "place") (v := .str (Str.ofString "/") tpl) F₃ q7
            replace F₃ := frK (x := Str.ofString "nearest") (v := .ref lNe) F₃ q0
            simp only [List.cons_append, List.nil_append] at N₃
            have hag : ∀ b ∈ a.names, GoodN b := by
              obtain ⟨j, _, e⟩ := haok.names
              rw [e]; exact take_good haok.tag.2.2 j
            have hal := names_le haok
            obtain ⟨hg1, hg2, hg3⟩ := pl_goal' hag hal
            have hcm : ((Str.ofString "/" ++ Txt.join (Str.ofString "/") (cpL (keepC (Txt.split (goalT a.names) (Str.ofString "/"))) (keepC (Txt.split (Str.ofString "/") (Str.ofString "/"))))) == goalT a.names) = false :=
              (pl_common' hag (ts := []) (fun _ h => by cases h)).trans (decide_eq_false (by rw [List.take_nil]; exact fun h => names_pos haok h.symm))
            obtain ⟨gT, hgT⟩ := str_name (goalT a.names)
            rw [← hgT] at hR hg1 hg2 hg3 hcm
            obtain ⟨ht1, ht2⟩ := pl_takes3' haok hrok hsep
            have hpat1 : PatAt st news₃ (r.cs ++ sep ++ Txt.join (Str.ofString "-") r.tag) (.ref p1) false := ⟨p1, vp1, kp1, toks1 a, rfl, hp1, hpa1, (toks1_ok haok).1, (toks1_ok haok).2, ht1⟩
            have hpat2 : PatAt st news₃ (r.cs ++ sep ++ Txt.join (Str.ofString "-") r.tag) (.ref p2) false := ⟨p2, vp2, kp2, toks2 a, rfl, hp2, hpa2, (toks2_ok haok).1, (toks2_ok haok).2, ht2⟩
            have hk5 : decide (r.kind < 4) = false := decide_eq_false (by omega)
            (repeat' ((fail_if_success (with_reducible show wpAny _ _ (exec (Stmt.Assign _ (Expr.BoolOp _ _ _) _) _) _ _ _)); (fail_if_success (with_reducible show BoolPost _ _ _ _ _ _ _ _ _)); (fail_if_success (with_reducible show SkipPost _ _ _ _ _ _ _)); (fail_if_success (with_reducible show LCt.CompSrcT _ _ _ _ _ _ _ _ _ _ _ _ _ _ _)); (fail_if_success (with_reducible show wpAny _ _ (exec (Stmt.Return _ _) _) _ _ _)); (fail_if_success (with_reducible show wpAny _ _ (eval (Expr.ListComp _ _ _ _) _) _ _ _)); (fail_if_success (with_reducible show wpAny _ _ (compareOp CmpOp.Eq (Value.ref _) (Value.ref _)) _ _ _)); (fail_if_success (with_reducible show wpAny _ _ (call (Value.builtin "str.split") _) _ _ _)); (fail_if_success (with_reducible show wpAny _ _ (compareOp CmpOp.NotEq (Value.ref _) (Value.ref _)) _ _ _)); (fail_if_success (with_reducible show TextPost _ _ _ _ _ _ _ _ _ _ _ _ _ _ _)); (fail_if_success (with_reducible show wpAny _ _ (exec (Stmt.If _ _ _ _) _) _ _ _)); (fail_if_success (with_reducible show wpAny _ _ (call (Value.builtin "len") _) _ _ _)); (fail_if_success (with_reducible show StarOf _ _ _ _ _ _)); (fail_if_success (with_reducible show wpAny _ _ (call (Value.builtin "list.append") _) _ _ _)); (fail_if_success (with_reducible show LCg.CompSrc _ _ _ _ _ _ _ _ _ _ _ _ _ _)); (fail_if_success (with_reducible show wpAny _ _ (call (Value.ref _) _) _ _ _)); (fail_if_success (with_reducible show wpAny _ _ (call (Value.builtin "str.join") _) _ _ _)); (fail_if_success (with_reducible show wpAny _ _ (subscriptTail _ _ _ _) _ _ _)); (fail_if_success (with_reducible show wpAny _ _ (exec (Stmt.Assign _ (Expr.ListComp _ _ _ _) _) _) _ _ _)); (fail_if_success (with_reducible show wpAny _ _ (pyIter _) _ _ _)); (fail_if_success (with_reducible show wpAny _ _ (exec (Stmt.While _ _ _ _) _) _ _ _)); (fail_if_success (with_reducible show wpAny _ _ (compareOp CmpOp.NotIn (Value.ref _) (Value.ref _)) _ _ _)); (fail_if_success (with_reducible show wpAny _ _ (exec (Stmt.For _ _ _ _ _) _) _ _ _)); (first | (k_unfold; (try dsimp only)) | (k_end; kc_close) | walk1 | (dsimp only; walk1) | (leave1; (try dsimp only)) | fail "no step")))
            walk1
            (repeat' ((fail_if_success (with_reducible show wpAny _ _ (exec (Stmt.Assign _ (Expr.BoolOp _ _ _) _) _) _ _ _)); (fail_if_success (with_reducible show BoolPost _ _ _ _ _ _ _ _ _)); (fail_if_success (with_reducible show SkipPost _ _ _ _ _ _ _)); (fail_if_success (with_reducible show LCt.CompSrcT _ _ _ _ _ _ _ _ _ _ _ _ _ _ _)); (fail_if_success (with_reducible show wpAny _ _ (exec (Stmt.Return _ _) _) _ _ _)); (fail_if_success (with_reducible show wpAny _ _ (eval (Expr.ListComp _ _ _ _) _) _ _ _)); (fail_if_success (with_reducible show wpAny _ _ (compareOp CmpOp.Eq (Value.ref _) (Value.ref _)) _ _ _)); (fail_if_success (with_reducible show wpAny _ _ (call (Value.builtin "str.split") _) _ _ _)); (fail_if_success (with_reducible show wpAny _ _ (compareOp CmpOp.NotEq (Value.ref _) (Value.ref _)) _ _ _)); (fail_if_success (with_reducible show TextPost _ _ _ _ _ _ _ _ _ _ _ _ _ _ _)); (fail_if_success (with_reducible show wpAny _ _ (exec (Stmt.If _ _ _ _) _) _ _ _)); (fail_if_success (with_reducible show wpAny _ _ (call (Value.builtin "len") _) _ _ _)); (fail_if_success (with_reducible show StarOf _ _ _ _ _ _)); (fail_if_success (with_reducible show wpAny _ _ (call (Value.builtin "list.append") _) _ _ _)); (fail_if_success (with_reducible show LCg.CompSrc _ _ _ _ _ _ _ _ _ _ _ _ _ _)); (fail_if_success (with_reducible show wpAny _ _ (call (Value.ref _) _) _ _ _)); (fail_if_success (with_reducible show wpAny _ _ (call (Value.builtin "str.join") _) _ _ _)); (fail_if_success (with_reducible show wpAny _ _ (subscriptTail _ _ _ _) _ _ _)); (fail_if_success (with_reducible show wpAny _ _ (exec (Stmt.Assign _ (Expr.ListComp _ _ _ _) _) _) _ _ _)); (fail_if_success (with_reducible show wpAny _ _ (pyIter _) _ _ _)); (fail_if_success (with_reducible show wpAny _ _ (exec (Stmt.While _ _ _ _) _) _ _ _)); (fail_if_success (with_reducible show wpAny _ _ (compareOp CmpOp.NotIn (Value.ref _) (Value.ref _)) _ _ _)); (fail_if_success (with_reducible show wpAny _ _ (exec (Stmt.For _ _ _ _ _) _) _ _ _)); (first | (k_unfold; (try dsimp only)) | (k_end; kc_close) | walk1 | (dsimp only; walk1) | (leave1; (try dsimp only)) | fail "no step")))
            rename_i FTo NTo
            rw [hk5] at FTo
            refine join_skip (by k_asm) (by k_asm) ?s5 (fun hB5 tkB5 FB5 NB5 => ?_)
            case s5 =>
              walk1
              (repeat' ((fail_if_success (with_reducible show wpAny _ _ (exec (Stmt.Assign _ (Expr.BoolOp _ _ _) _) _) _ _ _)); (fail_if_success (with_reducible show BoolPost _ _ _ _ _ _ _ _ _)); (fail_if_success (with_reducible show SkipPost _ _ _ _ _ _ _)); (fail_if_success (with_reducible show LCt.CompSrcT _ _ _ _ _ _ _ _ _ _ _ _ _ _ _)); (fail_if_success (with_reducible show wpAny _ _ (exec (Stmt.Return _ _) _) _ _ _)); (fail_if_success (with_reducible show wpAny _ _ (eval (Expr.ListComp _ _ _ _) _) _ _ _)); (fail_if_success (with_reducible show wpAny _ _ (compareOp CmpOp.Eq (Value.ref _) (Value.ref _)) _ _ _)); (fail_if_success (with_reducible show wpAny _ _ (call (Value.builtin "str.split") _) _ _ _)); (fail_if_success (with_reducible show wpAny _ _ (compareOp CmpOp.NotEq (Value.ref _) (Value.ref _)) _ _ _)); (fail_if_success (with_reducible show TextPost _ _ _ _ _ _ _ _ _ _ _ _ _ _ _)); (fail_if_success (with_reducible show wpAny _ _ (exec (Stmt.If _ _ _ _) _) _ _ _)); (fail_if_success (with_reducible show wpAny _ _ (call (Value.builtin "len") _) _ _ _)); (fail_if_success (with_reducible show StarOf _ _ _ _ _ _)); (fail_if_success (with_reducible show wpAny _ _ (call (Value.builtin "list.append") _) _ _ _)); (fail_if_success (with_reducible show LCg.CompSrc _ _ _ _ _ _ _ _ _ _ _ _ _ _)); (fail_if_success (with_reducible show wpAny _ _ (call (Value.ref _) _) _ _ _)); (fail_if_success (with_reducible show wpAny _ _ (call (Value.builtin "str.join") _) _ _ _)); (fail_if_success (with_reducible show wpAny _ _ (subscriptTail _ _ _ _) _ _ _)); (fail_if_success (with_reducible show wpAny _ _ (exec (Stmt.Assign _ (Expr.ListComp _ _ _ _) _) _) _ _ _)); (fail_if_success (with_reducible show wpAny _ _ (pyIter _) _ _ _)); (fail_if_success (with_reducible show wpAny _ _ (exec (Stmt.While _ _ _ _) _) _ _ _)); (fail_if_success (with_reducible show wpAny _ _ (compareOp CmpOp.NotIn (Value.ref _) (Value.ref _)) _ _ _)); (fail_if_success (with_reducible show wpAny _ _ (exec (Stmt.For _ _ _ _ _) _) _ _ _)); (first | (k_unfold; (try dsimp only)) | (k_end; kc_close) | walk1 | (dsimp only; walk1) | (leave1; (try dsimp only)) | fail "no step")))
              k_dflt (refine' CtrV.use (comm_c _ gT (Str.ofString "/") _ _ _ _ hg1 (by decide) hg2 (by decide)) ?k1 ?k2 ?k3 ?k4 ?k5 ?kK ?kd ?ku ?kp ?_; (case k1 => k_asm); (case k2 => k_asm); (case k3 => k_asm); (case k4 => k_asm); (case k5 => k_asm); (case kK => exact rfl); (case kd => ktr_room); (case ku => ktr_units); (case kp => first | trivial | k_mem | assumption); k_whole)
              intro vC hC tkC FC NC pC
              obtain ⟨tC, hvC⟩ := pC
              obtain ⟨cp, hcp⟩ := str_name (Str.ofString "/" ++ Txt.join (Str.ofString "/") (cpL (keepC (Txt.split gT (Str.ofString "/"))) (keepC (Txt.split (Str.ofString "/") (Str.ofString "/")))))
              rw [← hcp] at hvC hcm
              subst hvC
              clear hcp
              try dsimp only
              (repeat' ((fail_if_success (with_reducible show wpAny _ _ (exec (Stmt.Assign _ (Expr.BoolOp _ _ _) _) _) _ _ _)); (fail_if_success (with_reducible show BoolPost _ _ _ _ _ _ _ _ _)); (fail_if_success (with_reducible show SkipPost _ _ _ _ _ _ _)); (fail_if_success (with_reducible show LCt.CompSrcT _ _ _ _ _ _ _ _ _ _ _ _ _ _ _)); (fail_if_success (with_reducible show wpAny _ _ (exec (Stmt.Return _ _) _) _ _ _)); (fail_if_success (with_reducible show wpAny _ _ (eval (Expr.ListComp _ _ _ _) _) _ _ _)); (fail_if_success (with_reducible show wpAny _ _ (compareOp CmpOp.Eq (Value.ref _) (Value.ref _)) _ _ _)); (fail_if_success (with_reducible show wpAny _ _ (call (Value.builtin "str.split") _) _ _ _)); (fail_if_success (with_reducible show wpAny _ _ (compareOp CmpOp.NotEq (Value.ref _) (Value.ref _)) _ _ _)); (fail_if_success (with_reducible show TextPost _ _ _ _ _ _ _ _ _ _ _ _ _ _ _)); (fail_if_success (with_reducible show wpAny _ _ (exec (Stmt.If _ _ _ _) _) _ _ _)); (fail_if_success (with_reducible show wpAny _ _ (call (Value.builtin "len") _) _ _ _)); (fail_if_success (with_reducible show StarOf _ _ _ _ _ _)); (fail_if_success (with_reducible show wpAny _ _ (call (Value.builtin "list.append") _) _ _ _)); (fail_if_success (with_reducible show LCg.CompSrc _ _ _ _ _ _ _ _ _ _ _ _ _ _)); (fail_if_success (with_reducible show wpAny _ _ (call (Value.ref _) _) _ _ _)); (fail_if_success (with_reducible show wpAny _ _ (call (Value.builtin "str.join") _) _ _ _)); (fail_if_success (with_reducible show wpAny _ _ (subscriptTail _ _ _ _) _ _ _)); (fail_if_success (with_reducible show wpAny _ _ (exec (Stmt.Assign _ (Expr.ListComp _ _ _ _) _) _) _ _ _)); (fail_if_success (with_reducible show wpAny _ _ (pyIter _) _ _ _)); (fail_if_success (with_reducible show wpAny _ _ (exec (Stmt.While _ _ _ _) _) _ _ _)); (fail_if_success (with_reducible show wpAny _ _ (compareOp CmpOp.NotIn (Value.ref _) (Value.ref _)) _ _ _)); (fail_if_success (with_reducible show wpAny _ _ (exec (Stmt.For _ _ _ _ _) _) _ _ _)); (first | (k_unfold; (try dsimp only)) | (k_end; kc_close) | walk1 | (dsimp only; walk1) | (leave1; (try dsimp only)) | fail "no step")))
              exact SkipPost.intro (by k_asm) (by k_asm) (fun p hp => .tail _ hp)
            clear FTo NTo
            try dsimp only
            (repeat' ((fail_if_success (with_reducible show wpAny _ _ (exec (Stmt.Assign _ (Expr.BoolOp _ _ _) _) _) _ _ _)); (fail_if_success (with_reducible show BoolPost _ _ _ _ _ _ _ _ _)); (fail_if_success (with_reducible show SkipPost _ _ _ _ _ _ _)); (fail_if_success (with_reducible show LCt.CompSrcT _ _ _ _ _ _ _ _ _ _ _ _ _ _ _)); (fail_if_success (with_reducible show wpAny _ _ (exec (Stmt.Return _ _) _) _ _ _)); (fail_if_success (with_reducible show wpAny _ _ (eval (Expr.ListComp _ _ _ _) _) _ _ _)); (fail_if_success (with_reducible show wpAny _ _ (compareOp CmpOp.Eq (Value.ref _) (Value.ref _)) _ _ _)); (fail_if_success (with_reducible show wpAny _ _ (call (Value.builtin "str.split") _) _ _ _)); (fail_if_success (with_reducible show wpAny _ _ (compareOp CmpOp.NotEq (Value.ref _) (Value.ref _)) _ _ _)); (fail_if_success (with_reducible show TextPost _ _ _ _ _ _ _ _ _ _ _ _ _ _ _)); (fail_if_success (with_reducible show wpAny _ _ (exec (Stmt.If _ _ _ _) _) _ _ _)); (fail_if_success (with_reducible show wpAny _ _ (call (Value.builtin "len") _) _ _ _)); (fail_if_success (with_reducible show StarOf _ _ _ _ _ _)); (fail_if_success (with_reducible show wpAny _ _ (call (Value.builtin "list.append") _) _ _ _)); (fail_if_success (with_reducible show LCg.CompSrc _ _ _ _ _ _ _ _ _ _ _ _ _ _)); (fail_if_success (with_reducible show wpAny _ _ (call (Value.ref _) _) _ _ _)); (fail_if_success (with_reducible show wpAny _ _ (call (Value.builtin "str.join") _) _ _ _)); (fail_if_success (with_reducible show wpAny _ _ (subscriptTail _ _ _ _) _ _ _)); (fail_if_success (with_reducible show wpAny _ _ (exec (Stmt.Assign _ (Expr.ListComp _ _ _ _) _) _) _ _ _)); (fail_if_success (with_reducible show wpAny _ _ (pyIter _) _ _ _)); (fail_if_success (with_reducible show wpAny _ _ (exec (Stmt.While _ _ _ _) _) _ _ _)); (fail_if_success (with_reducible show wpAny _ _ (compareOp CmpOp.NotIn (Value.ref _) (Value.ref _)) _ _ _)); (fail_if_success (with_reducible show wpAny _ _ (exec (Stmt.For _ _ _ _ _) _) _ _ _)); (first | (k_unfold; (try dsimp only)) | (k_end; kc_close) | walk1 | (dsimp only; walk1) | (leave1; (try dsimp only)) | fail "no step")))
            refine join_skip (by k_asm) (by k_asm) ?s6 (fun hB6 tkB6 FB6 NB6 => ?_)
            case s6 =>
              walk1
              (repeat' ((fail_if_success (with_reducible show wpAny _ _ (exec (Stmt.Assign _ (Expr.BoolOp _ _ _) _) _) _ _ _)); (fail_if_success (with_reducible show BoolPost _ _ _ _ _ _ _ _ _)); (fail_if_success (with_reducible show SkipPost _ _ _ _ _ _ _)); (fail_if_success (with_reducible show LCt.CompSrcT _ _ _ _ _ _ _ _ _ _ _ _ _ _ _)); (fail_if_success (with_reducible show wpAny _ _ (exec (Stmt.Return _ _) _) _ _ _)); (fail_if_success (with_reducible show wpAny _ _ (eval (Expr.ListComp _ _ _ _) _) _ _ _)); (fail_if_success (with_reducible show wpAny _ _ (compareOp CmpOp.Eq (Value.ref _) (Value.ref _)) _ _ _)); (fail_if_success (with_reducible show wpAny _ _ (call (Value.builtin "str.split") _) _ _ _)); (fail_if_success (with_reducible show wpAny _ _ (compareOp CmpOp.NotEq (Value.ref _) (Value.ref _)) _ _ _)); (fail_if_success (with_reducible show TextPost _ _ _ _ _ _ _ _ _ _ _ _ _ _ _)); (fail_if_success (with_reducible show wpAny _ _ (exec (Stmt.If _ _ _ _) _) _ _ _)); (fail_if_success (with_reducible show wpAny _ _ (call (Value.builtin "len") _) _ _ _)); (fail_if_success (with_reducible show StarOf _ _ _ _ _ _)); (fail_if_success (with_reducible show wpAny _ _ (call (Value.builtin "list.append") _) _ _ _)); (fail_if_success (with_reducible show LCg.CompSrc _ _ _ _ _ _ _ _ _ _ _ _ _ _)); (fail_if_success (with_reducible show wpAny _ _ (call (Value.ref _) _) _ _ _)); (fail_if_success (with_reducible show wpAny _ _ (call (Value.builtin "str.join") _) _ _ _)); (fail_if_success (with_reducible show wpAny _ _ (subscriptTail _ _ _ _) _ _ _)); (fail_if_success (with_reducible show wpAny _ _ (exec (Stmt.Assign _ (Expr.ListComp _ _ _ _) _) _) _ _ _)); (fail_if_success (with_reducible show wpAny _ _ (pyIter _) _ _ _)); (fail_if_success (with_reducible show wpAny _ _ (exec (Stmt.While _ _ _ _) _) _ _ _)); (fail_if_success (with_reducible show wpAny _ _ (compareOp CmpOp.NotIn (Value.ref _) (Value.ref _)) _ _ _)); (fail_if_success (with_reducible show wpAny _ _ (exec (Stmt.For _ _ _ _ _) _) _ _ _)); (first | (k_unfold; (try dsimp only)) | (k_end; kc_close) | walk1 | (dsimp only; walk1) | (leave1; (try dsimp only)) | fail "no step")))
              refine LCt.ListComp_T (F₀ := by k_asm) (by with_unfolding_all rfl) (by decide) (by rfl) (by decide) (by rfl) ?_
              (repeat' ((fail_if_success (with_reducible show wpAny _ _ (exec (Stmt.Assign _ (Expr.BoolOp _ _ _) _) _) _ _ _)); (fail_if_success (with_reducible show BoolPost _ _ _ _ _ _ _ _ _)); (fail_if_success (with_reducible show SkipPost _ _ _ _ _ _ _)); (fail_if_success (with_reducible show LCt.CompSrcT _ _ _ _ _ _ _ _ _ _ _ _ _ _ _)); (fail_if_success (with_reducible show wpAny _ _ (exec (Stmt.Return _ _) _) _ _ _)); (fail_if_success (with_reducible show wpAny _ _ (eval (Expr.ListComp _ _ _ _) _) _ _ _)); (fail_if_success (with_reducible show wpAny _ _ (compareOp CmpOp.Eq (Value.ref _) (Value.ref _)) _ _ _)); (fail_if_success (with_reducible show wpAny _ _ (call (Value.builtin "str.split") _) _ _ _)); (fail_if_success (with_reducible show wpAny _ _ (compareOp CmpOp.NotEq (Value.ref _) (Value.ref _)) _ _ _)); (fail_if_success (with_reducible show TextPost _ _ _ _ _ _ _ _ _ _ _ _ _ _ _)); (fail_if_success (with_reducible show wpAny _ _ (exec (Stmt.If _ _ _ _) _) _ _ _)); (fail_if_success (with_reducible show wpAny _ _ (call (Value.builtin "len") _) _ _ _)); (fail_if_success (with_reducible show StarOf _ _ _ _ _ _)); (fail_if_success (with_reducible show wpAny _ _ (call (Value.builtin "list.append") _) _ _ _)); (fail_if_success (with_reducible show LCg.CompSrc _ _ _ _ _ _ _ _ _ _ _ _ _ _)); (fail_if_success (with_reducible show wpAny _ _ (call (Value.ref _) _) _ _ _)); (fail_if_success (with_reducible show wpAny _ _ (call (Value.builtin "str.join") _) _ _ _)); (fail_if_success (with_reducible show wpAny _ _ (subscriptTail _ _ _ _) _ _ _)); (fail_if_success (with_reducible show wpAny _ _ (exec (Stmt.Assign _ (Expr.ListComp _ _ _ _) _) _) _ _ _)); (fail_if_success (with_reducible show wpAny _ _ (pyIter _) _ _ _)); (fail_if_success (with_reducible show wpAny _ _ (exec (Stmt.While _ _ _ _) _) _ _ _)); (fail_if_success (with_reducible show wpAny _ _ (compareOp CmpOp.NotIn (Value.ref _) (Value.ref _)) _ _ _)); (fail_if_success (with_reducible show wpAny _ _ (exec (Stmt.For _ _ _ _ _) _) _ _ _)); (first | (k_unfold; (try dsimp only)) | (k_end; kc_close) | walk1 | (dsimp only; walk1) | (leave1; (try dsimp only)) | fail "no step")))
              refine LCt.CompSrcT.ledger (its := #[.ref p1, .ref p2]) (k := nR3) (by rfl) (by k_asm) (by k_asm) (by k_mem) (by exact (show 2 ≤ sizeLine by decide)) ?_
              intro gT1
              refine compT_ind 2 (fun i ys nw => nw = _ ∧ IntsAre ys (onesT ([false, false].take i))) ?cz5 ?cs5 _ _ ⟨rfl, .nil⟩
              case cs5 =>
                rintro k i ys nw hik ⟨rfl, hys⟩ IHc
                refine LCt.CompRestT.succ (fun v IaT oIaT CaT oCaT DaT maT haT tkaT EaT hPaT hoCaT hmaT FaT NaT offaT neaT => ?_)
                obtain ⟨t, ⟨pq, vpq, kpq, toksq, rfl, hpm, hpa, hpk, hpz, htk⟩, hts⟩ := pat_at hpat1 hpat2 hPaT
                have htf : t = false := two_false hts
                subst htf
                (repeat' ((fail_if_success (with_reducible show wpAny _ _ (exec (Stmt.Assign _ (Expr.BoolOp _ _ _) _) _) _ _ _)); (fail_if_success (with_reducible show BoolPost _ _ _ _ _ _ _ _ _)); (fail_if_success (with_reducible show SkipPost _ _ _ _ _ _ _)); (fail_if_success (with_reducible show LCt.CompSrcT _ _ _ _ _ _ _ _ _ _ _ _ _ _ _)); (fail_if_success (with_reducible show wpAny _ _ (exec (Stmt.Return _ _) _) _ _ _)); (fail_if_success (with_reducible show wpAny _ _ (eval (Expr.ListComp _ _ _ _) _) _ _ _)); (fail_if_success (with_reducible show wpAny _ _ (compareOp CmpOp.Eq (Value.ref _) (Value.ref _)) _ _ _)); (fail_if_success (with_reducible show wpAny _ _ (call (Value.builtin "str.split") _) _ _ _)); (fail_if_success (with_reducible show wpAny _ _ (compareOp CmpOp.NotEq (Value.ref _) (Value.ref _)) _ _ _)); (fail_if_success (with_reducible show TextPost _ _ _ _ _ _ _ _ _ _ _ _ _ _ _)); (fail_if_success (with_reducible show wpAny _ _ (exec (Stmt.If _ _ _ _) _) _ _ _)); (fail_if_success (with_reducible show wpAny _ _ (call (Value.builtin "len") _) _ _ _)); (fail_if_success (with_reducible show StarOf _ _ _ _ _ _)); (fail_if_success (with_reducible show wpAny _ _ (call (Value.builtin "list.append") _) _ _ _)); (fail_if_success (with_reducible show LCg.CompSrc _ _ _ _ _ _ _ _ _ _ _ _ _ _)); (fail_if_success (with_reducible show wpAny _ _ (call (Value.ref _) _) _ _ _)); (fail_if_success (with_reducible show wpAny _ _ (call (Value.builtin "str.join") _) _ _ _)); (fail_if_success (with_reducible show wpAny _ _ (subscriptTail _ _ _ _) _ _ _)); (fail_if_success (with_reducible show wpAny _ _ (exec (Stmt.Assign _ (Expr.ListComp _ _ _ _) _) _) _ _ _)); (fail_if_success (with_reducible show wpAny _ _ (pyIter _) _ _ _)); (fail_if_success (with_reducible show wpAny _ _ (exec (Stmt.While _ _ _ _) _) _ _ _)); (fail_if_success (with_reducible show wpAny _ _ (compareOp CmpOp.NotIn (Value.ref _) (Value.ref _)) _ _ _)); (fail_if_success (with_reducible show wpAny _ _ (exec (Stmt.For _ _ _ _ _) _) _ _ _)); (first | (k_unfold; (try dsimp only)) | (k_end; kc_close) | walk1 | (dsimp only; walk1) | (leave1; (try dsimp only)) | fail "no step")))
                k_dflt (refine' CtrV.use (takes_c _ (r.cs ++ sep ++ Txt.join (Str.ofString "-") r.tag) _ st pq vpq kpq toksq hvl hpa hpk hpz) ?k1 ?k2 ?k3 ?k4 ?k5 ?kK ?kd ?ku ?kp ?_; (case k1 => k_asm); (case k2 => k_asm); (case k3 => k_asm); (case k4 => k_asm); (case k5 => k_asm); (case kK => exact rfl); (case kd => ktr_room); (case ku => ktr_units); (case kp => first | trivial | k_mem | assumption); k_whole)
                intro vq1 hq1 tkq1 Fq1 Nq1 pq1
                rw [htk] at pq1
                subst pq1
                try dsimp only
                (repeat' ((fail_if_success (with_reducible show wpAny _ _ (exec (Stmt.Assign _ (Expr.BoolOp _ _ _) _) _) _ _ _)); (fail_if_success (with_reducible show BoolPost _ _ _ _ _ _ _ _ _)); (fail_if_success (with_reducible show SkipPost _ _ _ _ _ _ _)); (fail_if_success (with_reducible show LCt.CompSrcT _ _ _ _ _ _ _ _ _ _ _ _ _ _ _)); (fail_if_success (with_reducible show wpAny _ _ (exec (Stmt.Return _ _) _) _ _ _)); (fail_if_success (with_reducible show wpAny _ _ (eval (Expr.ListComp _ _ _ _) _) _ _ _)); (fail_if_success (with_reducible show wpAny _ _ (compareOp CmpOp.Eq (Value.ref _) (Value.ref _)) _ _ _)); (fail_if_success (with_reducible show wpAny _ _ (call (Value.builtin "str.split") _) _ _ _)); (fail_if_success (with_reducible show wpAny _ _ (compareOp CmpOp.NotEq (Value.ref _) (Value.ref _)) _ _ _)); (fail_if_success (with_reducible show TextPost _ _ _ _ _ _ _ _ _ _ _ _ _ _ _)); (fail_if_success (with_reducible show wpAny _ _ (exec (Stmt.If _ _ _ _) _) _ _ _)); (fail_if_success (with_reducible show wpAny _ _ (call (Value.builtin "len") _) _ _ _)); (fail_if_success (with_reducible show StarOf _ _ _ _ _ _)); (fail_if_success (with_reducible show wpAny _ _ (call (Value.builtin "list.append") _) _ _ _)); (fail_if_success (with_reducible show LCg.CompSrc _ _ _ _ _ _ _ _ _ _ _ _ _ _)); (fail_if_success (with_reducible show wpAny _ _ (call (Value.ref _) _) _ _ _)); (fail_if_success (with_reducible show wpAny _ _ (call (Value.builtin "str.join") _) _ _ _)); (fail_if_success (with_reducible show wpAny _ _ (subscriptTail _ _ _ _) _ _ _)); (fail_if_success (with_reducible show wpAny _ _ (exec (Stmt.Assign _ (Expr.ListComp _ _ _ _) _) _) _ _ _)); (fail_if_success (with_reducible show wpAny _ _ (pyIter _) _ _ _)); (fail_if_success (with_reducible show wpAny _ _ (exec (Stmt.While _ _ _ _) _) _ _ _)); (fail_if_success (with_reducible show wpAny _ _ (compareOp CmpOp.NotIn (Value.ref _) (Value.ref _)) _ _ _)); (fail_if_success (with_reducible show wpAny _ _ (exec (Stmt.For _ _ _ _ _) _) _ _ _)); (first | (k_unfold; (try dsimp only)) | (k_end; kc_close) | walk1 | (dsimp only; walk1) | (leave1; (try dsimp only)) | fail "no step")))
                exact LCg.CompEnd.intro (by k_asm) (by k_asm) _ (fun p hp => hp) offaT (.inr ⟨_, by k_mem, rfl, _, rfl⟩) (IHc _ _ ⟨rfl, ones_no hys hts⟩)
              case cz5 =>
                rintro ys nw ⟨rfl, hys⟩ Dt hDt tkt Ft Nt ot
                clear ot
                replace hys : IntsAre ys [] := hys
                dsimp only
                (repeat' ((fail_if_success (with_reducible show wpAny _ _ (exec (Stmt.Assign _ (Expr.BoolOp _ _ _) _) _) _ _ _)); (fail_if_success (with_reducible show BoolPost _ _ _ _ _ _ _ _ _)); (fail_if_success (with_reducible show SkipPost _ _ _ _ _ _ _)); (fail_if_success (with_reducible show LCt.CompSrcT _ _ _ _ _ _ _ _ _ _ _ _ _ _ _)); (fail_if_success (with_reducible show wpAny _ _ (exec (Stmt.Return _ _) _) _ _ _)); (fail_if_success (with_reducible show wpAny _ _ (eval (Expr.ListComp _ _ _ _) _) _ _ _)); (fail_if_success (with_reducible show wpAny _ _ (compareOp CmpOp.Eq (Value.ref _) (Value.ref _)) _ _ _)); (fail_if_success (with_reducible show wpAny _ _ (call (Value.builtin "str.split") _) _ _ _)); (fail_if_success (with_reducible show wpAny _ _ (compareOp CmpOp.NotEq (Value.ref _) (Value.ref _)) _ _ _)); (fail_if_success (with_reducible show TextPost _ _ _ _ _ _ _ _ _ _ _ _ _ _ _)); (fail_if_success (with_reducible show wpAny _ _ (exec (Stmt.If _ _ _ _) _) _ _ _)); (fail_if_success (with_reducible show wpAny _ _ (call (Value.builtin "len") _) _ _ _)); (fail_if_success (with_reducible show StarOf _ _ _ _ _ _)); (fail_if_success (with_reducible show wpAny _ _ (call (Value.builtin "list.append") _) _ _ _)); (fail_if_success (with_reducible show LCg.CompSrc _ _ _ _ _ _ _ _ _ _ _ _ _ _)); (fail_if_success (with_reducible show wpAny _ _ (call (Value.ref _) _) _ _ _)); (fail_if_success (with_reducible show wpAny _ _ (call (Value.builtin "str.join") _) _ _ _)); (fail_if_success (with_reducible show wpAny _ _ (subscriptTail _ _ _ _) _ _ _)); (fail_if_success (with_reducible show wpAny _ _ (exec (Stmt.Assign _ (Expr.ListComp _ _ _ _) _) _) _ _ _)); (fail_if_success (with_reducible show wpAny _ _ (pyIter _) _ _ _)); (fail_if_success (with_reducible show wpAny _ _ (exec (Stmt.While _ _ _ _) _) _ _ _)); (fail_if_success (with_reducible show wpAny _ _ (compareOp CmpOp.NotIn (Value.ref _) (Value.ref _)) _ _ _)); (fail_if_success (with_reducible show wpAny _ _ (exec (Stmt.For _ _ _ _ _) _) _ _ _)); (first | (k_unfold; (try dsimp only)) | (k_end; kc_close) | walk1 | (dsimp only; walk1) | (leave1; (try dsimp only)) | fail "no step")))
                refine ne_ints_same (is := []) (by k_asm) (by k_mem) (by k_mem) hys .nil (by ke_room) ?_
                (repeat' ((fail_if_success (with_reducible show wpAny _ _ (exec (Stmt.Assign _ (Expr.BoolOp _ _ _) _) _) _ _ _)); (fail_if_success (with_reducible show BoolPost _ _ _ _ _ _ _ _ _)); (fail_if_success (with_reducible show SkipPost _ _ _ _ _ _ _)); (fail_if_success (with_reducible show LCt.CompSrcT _ _ _ _ _ _ _ _ _ _ _ _ _ _ _)); (fail_if_success (with_reducible show wpAny _ _ (exec (Stmt.Return _ _) _) _ _ _)); (fail_if_success (with_reducible show wpAny _ _ (eval (Expr.ListComp _ _ _ _) _) _ _ _)); (fail_if_success (with_reducible show wpAny _ _ (compareOp CmpOp.Eq (Value.ref _) (Value.ref _)) _ _ _)); (fail_if_success (with_reducible show wpAny _ _ (call (Value.builtin "str.split") _) _ _ _)); (fail_if_success (with_reducible show wpAny _ _ (compareOp CmpOp.NotEq (Value.ref _) (Value.ref _)) _ _ _)); (fail_if_success (with_reducible show TextPost _ _ _ _ _ _ _ _ _ _ _ _ _ _ _)); (fail_if_success (with_reducible show wpAny _ _ (exec (Stmt.If _ _ _ _) _) _ _ _)); (fail_if_success (with_reducible show wpAny _ _ (call (Value.builtin "len") _) _ _ _)); (fail_if_success (with_reducible show StarOf _ _ _ _ _ _)); (fail_if_success (with_reducible show wpAny _ _ (call (Value.builtin "list.append") _) _ _ _)); (fail_if_success (with_reducible show LCg.CompSrc _ _ _ _ _ _ _ _ _ _ _ _ _ _)); (fail_if_success (with_reducible show wpAny _ _ (call (Value.ref _) _) _ _ _)); (fail_if_success (with_reducible show wpAny _ _ (call (Value.builtin "str.join") _) _ _ _)); (fail_if_success (with_reducible show wpAny _ _ (subscriptTail _ _ _ _) _ _ _)); (fail_if_success (with_reducible show wpAny _ _ (exec (Stmt.Assign _ (Expr.ListComp _ _ _ _) _) _) _ _ _)); (fail_if_success (with_reducible show wpAny _ _ (pyIter _) _ _ _)); (fail_if_success (with_reducible show wpAny _ _ (exec (Stmt.While _ _ _ _) _) _ _ _)); (fail_if_success (with_reducible show wpAny _ _ (compareOp CmpOp.NotIn (Value.ref _) (Value.ref _)) _ _ _)); (fail_if_success (with_reducible show wpAny _ _ (exec (Stmt.For _ _ _ _ _) _) _ _ _)); (first | (k_unfold; (try dsimp only)) | (k_end; kc_close) | walk1 | (dsimp only; walk1) | (leave1; (try dsimp only)) | fail "no step")))
                exact SkipPost.intro (by k_asm) (by k_asm) (fun p hp => .tail _ (.tail _ hp))
            try dsimp only
            (repeat' ((fail_if_success (with_reducible show wpAny _ _ (exec (Stmt.Assign _ (Expr.BoolOp _ _ _) _) _) _ _ _)); (fail_if_success (with_reducible show BoolPost _ _ _ _ _ _ _ _ _)); (fail_if_success (with_reducible show SkipPost _ _ _ _ _ _ _)); (fail_if_success (with_reducible show LCt.CompSrcT _ _ _ _ _ _ _ _ _ _ _ _ _ _ _)); (fail_if_success (with_reducible show wpAny _ _ (exec (Stmt.Return _ _) _) _ _ _)); (fail_if_success (with_reducible show wpAny _ _ (eval (Expr.ListComp _ _ _ _) _) _ _ _)); (fail_if_success (with_reducible show wpAny _ _ (compareOp CmpOp.Eq (Value.ref _) (Value.ref _)) _ _ _)); (fail_if_success (with_reducible show wpAny _ _ (call (Value.builtin "str.split") _) _ _ _)); (fail_if_success (with_reducible show wpAny _ _ (compareOp CmpOp.NotEq (Value.ref _) (Value.ref _)) _ _ _)); (fail_if_success (with_reducible show TextPost _ _ _ _ _ _ _ _ _ _ _ _ _ _ _)); (fail_if_success (with_reducible show wpAny _ _ (exec (Stmt.If _ _ _ _) _) _ _ _)); (fail_if_success (with_reducible show wpAny _ _ (call (Value.builtin "len") _) _ _ _)); (fail_if_success (with_reducible show StarOf _ _ _ _ _ _)); (fail_if_success (with_reducible show wpAny _ _ (call (Value.builtin "list.append") _) _ _ _)); (fail_if_success (with_reducible show LCg.CompSrc _ _ _ _ _ _ _ _ _ _ _ _ _ _)); (fail_if_success (with_reducible show wpAny _ _ (call (Value.ref _) _) _ _ _)); (fail_if_success (with_reducible show wpAny _ _ (call (Value.builtin "str.join") _) _ _ _)); (fail_if_success (with_reducible show wpAny _ _ (subscriptTail _ _ _ _) _ _ _)); (fail_if_success (with_reducible show wpAny _ _ (exec (Stmt.Assign _ (Expr.ListComp _ _ _ _) _) _) _ _ _)); (fail_if_success (with_reducible show wpAny _ _ (pyIter _) _ _ _)); (fail_if_success (with_reducible show wpAny _ _ (exec (Stmt.While _ _ _ _) _) _ _ _)); (fail_if_success (with_reducible show wpAny _ _ (compareOp CmpOp.NotIn (Value.ref _) (Value.ref _)) _ _ _)); (fail_if_success (with_reducible show wpAny _ _ (exec (Stmt.For _ _ _ _ _) _) _ _ _)); (first | (k_unfold; (try dsimp only)) | (k_end; kc_close) | walk1 | (dsimp only; walk1) | (leave1; (try dsimp only)) | fail "no step")))
            walk1
            (repeat' ((fail_if_success (with_reducible show wpAny _ _ (exec (Stmt.Assign _ (Expr.BoolOp _ _ _) _) _) _ _ _)); (fail_if_success (with_reducible show BoolPost _ _ _ _ _ _ _ _ _)); (fail_if_success (with_reducible show SkipPost _ _ _ _ _ _ _)); (fail_if_success (with_reducible show LCt.CompSrcT _ _ _ _ _ _ _ _ _ _ _ _ _ _ _)); (fail_if_success (with_reducible show wpAny _ _ (exec (Stmt.Return _ _) _) _ _ _)); (fail_if_success (with_reducible show wpAny _ _ (eval (Expr.ListComp _ _ _ _) _) _ _ _)); (fail_if_success (with_reducible show wpAny _ _ (compareOp CmpOp.Eq (Value.ref _) (Value.ref _)) _ _ _)); (fail_if_success (with_reducible show wpAny _ _ (call (Value.builtin "str.split") _) _ _ _)); (fail_if_success (with_reducible show wpAny _ _ (compareOp CmpOp.NotEq (Value.ref _) (Value.ref _)) _ _ _)); (fail_if_success (with_reducible show TextPost _ _ _ _ _ _ _ _ _ _ _ _ _ _ _)); (fail_if_success (with_reducible show wpAny _ _ (exec (Stmt.If _ _ _ _) _) _ _ _)); (fail_if_success (with_reducible show wpAny _ _ (call (Value.builtin "len") _) _ _ _)); (fail_if_success (with_reducible show StarOf _ _ _ _ _ _)); (fail_if_success (with_reducible show wpAny _ _ (call (Value.builtin "list.append") _) _ _ _)); (fail_if_success (with_reducible show LCg.CompSrc _ _ _ _ _ _ _ _ _ _ _ _ _ _)); (fail_if_success (with_reducible show wpAny _ _ (call (Value.ref _) _) _ _ _)); (fail_if_success (with_reducible show wpAny _ _ (call (Value.builtin "str.join") _) _ _ _)); (fail_if_success (with_reducible show wpAny _ _ (subscriptTail _ _ _ _) _ _ _)); (fail_if_success (with_reducible show wpAny _ _ (exec (Stmt.Assign _ (Expr.ListComp _ _ _ _) _) _) _ _ _)); (fail_if_success (with_reducible show wpAny _ _ (pyIter _) _ _ _)); (fail_if_success (with_reducible show wpAny _ _ (exec (Stmt.While _ _ _ _) _) _ _ _)); (fail_if_success (with_reducible show wpAny _ _ (compareOp CmpOp.NotIn (Value.ref _) (Value.ref _)) _ _ _)); (fail_if_success (with_reducible show wpAny _ _ (exec (Stmt.For _ _ _ _ _) _) _ _ _)); (first | (k_unfold; (try dsimp only)) | (k_end; kc_close) | walk1 | (dsimp only; walk1) | (leave1; (try dsimp only)) | fail "no step")))
            refine unrW_end (by k_asm) (by k_asm) news₃ (fun p hp => hp) (off_K ofK) (hR₁ _ _ ⟨⟨yg, trivial⟩, IH3 _ _ ⟨⟨rest, hr9, fun b hb => hin b (.tail _ hb)⟩, rfl, ?pc0, ?pc1, ?pc2, ?pc3, ?pc4, ?pc5⟩⟩)
            case pc0 => (repeat (first | exact if_pos rfl | assumption | refine (if_neg (by decide)).trans ?_))
            case pc1 => (repeat (first | exact if_pos rfl | assumption | refine (if_neg (by decide)).trans ?_))
            case pc2 => (repeat (first | exact if_pos rfl | assumption | refine (if_neg (by decide)).trans ?_))
            case pc3 => (repeat (first | exact if_pos rfl | assumption | refine (if_neg (by decide)).trans ?_))
            case pc4 => (repeat (first | exact if_pos rfl | assumption | refine (if_neg (by decide)).trans ?_))
            case pc5 => apply Exists.intro; (repeat (first | exact if_pos rfl | assumption | refine (if_neg (by decide)).trans ?_))
          -- P2T END
        -- P2 END
        -- P1: kind ≤ 3
        have hk3 : ¬ (3 < r.kind) := by assumption
        k_dflt (refine' CtrO.use (dec_c _ _ _ _ (val_len hcl hwl htl) (pl_split1' text hrok.cs hrok.tag.2.2) (Nat.le_refl 3)) ?k1 ?k2 ?k3 ?k4 ?k5 ?kK ?kd ?ku ?kp ?_; (case k1 => k_asm); (case k2 => k_asm); (case k3 => k_asm); (case k4 => k_asm); (case k5 => k_asm); (case kK => exact rfl); (case kd => ktr_room); (case ku => ktr_units); (case kp => first | trivial | k_mem | assumption); k_whole)
        intro rP oP hP tkP FP NP lP pP
        rcases pP with ⟨h2, _⟩ | ⟨_, vsP, nP, hvP, rfl⟩
        · exact absurd h2 (by show ¬ (3 ≤ 2); decide)
        k_lt lP
        cases hvP
        rename_i tP1 vsP hvP
        cases hvP
        rename_i tP2 vsP hvP
        cases hvP
        rename_i tP3 vsP hvP
        cases hvP
        try dsimp only
        (repeat' ((fail_if_success (with_reducible show wpAny _ _ (exec (Stmt.Assign _ (Expr.BoolOp _ _ _) _) _) _ _ _)); (fail_if_success (with_reducible show BoolPost _ _ _ _ _ _ _ _ _)); (fail_if_success (with_reducible show SkipPost _ _ _ _ _ _ _)); (fail_if_success (with_reducible show LCt.CompSrcT _ _ _ _ _ _ _ _ _ _ _ _ _ _ _)); (fail_if_success (with_reducible show wpAny _ _ (exec (Stmt.Return _ _) _) _ _ _)); (fail_if_success (with_reducible show wpAny _ _ (eval (Expr.ListComp _ _ _ _) _) _ _ _)); (fail_if_success (with_reducible show wpAny _ _ (compareOp CmpOp.Eq (Value.ref _) (Value.ref _)) _ _ _)); (fail_if_success (with_reducible show wpAny _ _ (call (Value.builtin "str.split") _) _ _ _)); (fail_if_success (with_reducible show wpAny _ _ (compareOp CmpOp.NotEq (Value.ref _) (Value.ref _)) _ _ _)); (fail_if_success (with_reducible show TextPost _ _ _ _ _ _ _ _ _ _ _ _ _ _ _)); (fail_if_success (with_reducible show wpAny _ _ (exec (Stmt.If _ _ _ _) _) _ _ _)); (fail_if_success (with_reducible show wpAny _ _ (call (Value.builtin "len") _) _ _ _)); (fail_if_success (with_reducible show StarOf _ _ _ _ _ _)); (fail_if_success (with_reducible show wpAny _ _ (call (Value.builtin "list.append") _) _ _ _)); (fail_if_success (with_reducible show LCg.CompSrc _ _ _ _ _ _ _ _ _ _ _ _ _ _)); (fail_if_success (with_reducible show wpAny _ _ (call (Value.ref _) _) _ _ _)); (fail_if_success (with_reducible show wpAny _ _ (call (Value.builtin "str.join") _) _ _ _)); (fail_if_success (with_reducible show wpAny _ _ (subscriptTail _ _ _ _) _ _ _)); (fail_if_success (with_reducible show wpAny _ _ (exec (Stmt.Assign _ (Expr.ListComp _ _ _ _) _) _) _ _ _)); (fail_if_success (with_reducible show wpAny _ _ (pyIter _) _ _ _)); (fail_if_success (with_reducible show wpAny _ _ (exec (Stmt.While _ _ _ _) _) _ _ _)); (fail_if_success (with_reducible show wpAny _ _ (compareOp CmpOp.NotIn (Value.ref _) (Value.ref _)) _ _ _)); (fail_if_success (with_reducible show wpAny _ _ (exec (Stmt.For _ _ _ _ _) _) _ _ _)); (first | (k_unfold; (try dsimp only)) | (k_end; kc_close) | walk1 | (dsimp only; walk1) | (leave1; (try dsimp only)) | fail "no step")))
        walk1
        (repeat' ((fail_if_success (with_reducible show wpAny _ _ (exec (Stmt.Assign _ (Expr.BoolOp _ _ _) _) _) _ _ _)); (fail_if_success (with_reducible show BoolPost _ _ _ _ _ _ _ _ _)); (fail_if_success (with_reducible show SkipPost _ _ _ _ _ _ _)); (fail_if_success (with_reducible show LCt.CompSrcT _ _ _ _ _ _ _ _ _ _ _ _ _ _ _)); (fail_if_success (with_reducible show wpAny _ _ (exec (Stmt.Return _ _) _) _ _ _)); (fail_if_success (with_reducible show wpAny _ _ (eval (Expr.ListComp _ _ _ _) _) _ _ _)); (fail_if_success (with_reducible show wpAny _ _ (compareOp CmpOp.Eq (Value.ref _) (Value.ref _)) _ _ _)); (fail_if_success (with_reducible show wpAny _ _ (call (Value.builtin "str.split") _) _ _ _)); (fail_if_success (with_reducible show wpAny _ _ (compareOp CmpOp.NotEq (Value.ref _) (Value.ref _)) _ _ _)); (fail_if_success (with_reducible show TextPost _ _ _ _ _ _ _ _ _ _ _ _ _ _ _)); (fail_if_success (with_reducible show wpAny _ _ (exec (Stmt.If _ _ _ _) _) _ _ _)); (fail_if_success (with_reducible show wpAny _ _ (call (Value.builtin "len") _) _ _ _)); (fail_if_success (with_reducible show StarOf _ _ _ _ _ _)); (fail_if_success (with_reducible show wpAny _ _ (call (Value.builtin "list.append") _) _ _ _)); (fail_if_success (with_reducible show LCg.CompSrc _ _ _ _ _ _ _ _ _ _ _ _ _ _)); (fail_if_success (with_reducible show wpAny _ _ (call (Value.ref _) _) _ _ _)); (fail_if_success (with_reducible show wpAny _ _ (call (Value.builtin "str.join") _) _ _ _)); (fail_if_success (with_reducible show wpAny _ _ (subscriptTail _ _ _ _) _ _ _)); (fail_if_success (with_reducible show wpAny _ _ (exec (Stmt.Assign _ (Expr.ListComp _ _ _ _) _) _) _ _ _)); (fail_if_success (with_reducible show wpAny _ _ (pyIter _) _ _ _)); (fail_if_success (with_reducible show wpAny _ _ (exec (Stmt.While _ _ _ _) _) _ _ _)); (fail_if_success (with_reducible show wpAny _ _ (compareOp CmpOp.NotIn (Value.ref _) (Value.ref _)) _ _ _)); (fail_if_success (with_reducible show wpAny _ _ (exec (Stmt.For _ _ _ _ _) _) _ _ _)); (first | (k_unfold; (try dsimp only)) | (k_end; kc_close) | walk1 | (dsimp only; walk1) | (leave1; (try dsimp only)) | fail "no step")))
        refine ne_same_L (by k_asm) (by k_mem) (by k_mem) (.cons _ _ (.cons _ _ (.cons _ _ .nil))) (.cons _ _ (.cons _ _ (.cons _ _ .nil))) (ok3 (csOk_ok hrok.cs) (word_ok hrok.tag.2.2) hto) (by ke_room) ?_
        (repeat' ((fail_if_success (with_reducible show wpAny _ _ (exec (Stmt.Assign _ (Expr.BoolOp _ _ _) _) _) _ _ _)); (fail_if_success (with_reducible show BoolPost _ _ _ _ _ _ _ _ _)); (fail_if_success (with_reducible show SkipPost _ _ _ _ _ _ _)); (fail_if_success (with_reducible show LCt.CompSrcT _ _ _ _ _ _ _ _ _ _ _ _ _ _ _)); (fail_if_success (with_reducible show wpAny _ _ (exec (Stmt.Return _ _) _) _ _ _)); (fail_if_success (with_reducible show wpAny _ _ (eval (Expr.ListComp _ _ _ _) _) _ _ _)); (fail_if_success (with_reducible show wpAny _ _ (compareOp CmpOp.Eq (Value.ref _) (Value.ref _)) _ _ _)); (fail_if_success (with_reducible show wpAny _ _ (call (Value.builtin "str.split") _) _ _ _)); (fail_if_success (with_reducible show wpAny _ _ (compareOp CmpOp.NotEq (Value.ref _) (Value.ref _)) _ _ _)); (fail_if_success (with_reducible show TextPost _ _ _ _ _ _ _ _ _ _ _ _ _ _ _)); (fail_if_success (with_reducible show wpAny _ _ (exec (Stmt.If _ _ _ _) _) _ _ _)); (fail_if_success (with_reducible show wpAny _ _ (call (Value.builtin "len") _) _ _ _)); (fail_if_success (with_reducible show StarOf _ _ _ _ _ _)); (fail_if_success (with_reducible show wpAny _ _ (call (Value.builtin "list.append") _) _ _ _)); (fail_if_success (with_reducible show LCg.CompSrc _ _ _ _ _ _ _ _ _ _ _ _ _ _)); (fail_if_success (with_reducible show wpAny _ _ (call (Value.ref _) _) _ _ _)); (fail_if_success (with_reducible show wpAny _ _ (call (Value.builtin "str.join") _) _ _ _)); (fail_if_success (with_reducible show wpAny _ _ (subscriptTail _ _ _ _) _ _ _)); (fail_if_success (with_reducible show wpAny _ _ (exec (Stmt.Assign _ (Expr.ListComp _ _ _ _) _) _) _ _ _)); (fail_if_success (with_reducible show wpAny _ _ (pyIter _) _ _ _)); (fail_if_success (with_reducible show wpAny _ _ (exec (Stmt.While _ _ _ _) _) _ _ _)); (fail_if_success (with_reducible show wpAny _ _ (compareOp CmpOp.NotIn (Value.ref _) (Value.ref _)) _ _ _)); (fail_if_success (with_reducible show wpAny _ _ (exec (Stmt.For _ _ _ _ _) _) _ _ _)); (first | (k_unfold; (try dsimp only)) | (k_end; kc_close) | walk1 | (dsimp only; walk1) | (leave1; (try dsimp only)) | fail "no step")))
        walk1
        (repeat' ((fail_if_success (with_reducible show wpAny _ _ (exec (Stmt.Assign _ (Expr.BoolOp _ _ _) _) _) _ _ _)); (fail_if_success (with_reducible show BoolPost _ _ _ _ _ _ _ _ _)); (fail_if_success (with_reducible show SkipPost _ _ _ _ _ _ _)); (fail_if_success (with_reducible show LCt.CompSrcT _ _ _ _ _ _ _ _ _ _ _ _ _ _ _)); (fail_if_success (with_reducible show wpAny _ _ (exec (Stmt.Return _ _) _) _ _ _)); (fail_if_success (with_reducible show wpAny _ _ (eval (Expr.ListComp _ _ _ _) _) _ _ _)); (fail_if_success (with_reducible show wpAny _ _ (compareOp CmpOp.Eq (Value.ref _) (Value.ref _)) _ _ _)); (fail_if_success (with_reducible show wpAny _ _ (call (Value.builtin "str.split") _) _ _ _)); (fail_if_success (with_reducible show wpAny _ _ (compareOp CmpOp.NotEq (Value.ref _) (Value.ref _)) _ _ _)); (fail_if_success (with_reducible show TextPost _ _ _ _ _ _ _ _ _ _ _ _ _ _ _)); (fail_if_success (with_reducible show wpAny _ _ (exec (Stmt.If _ _ _ _) _) _ _ _)); (fail_if_success (with_reducible show wpAny _ _ (call (Value.builtin "len") _) _ _ _)); (fail_if_success (with_reducible show StarOf _ _ _ _ _ _)); (fail_if_success (with_reducible show wpAny _ _ (call (Value.builtin "list.append") _) _ _ _)); (fail_if_success (with_reducible show LCg.CompSrc _ _ _ _ _ _ _ _ _ _ _ _ _ _)); (fail_if_success (with_reducible show wpAny _ _ (call (Value.ref _) _) _ _ _)); (fail_if_success (with_reducible show wpAny _ _ (call (Value.builtin "str.join") _) _ _ _)); (fail_if_success (with_reducible show wpAny _ _ (subscriptTail _ _ _ _) _ _ _)); (fail_if_success (with_reducible show wpAny _ _ (exec (Stmt.Assign _ (Expr.ListComp _ _ _ _) _) _) _ _ _)); (fail_if_success (with_reducible show wpAny _ _ (pyIter _) _ _ _)); (fail_if_success (with_reducible show wpAny _ _ (exec (Stmt.While _ _ _ _) _) _ _ _)); (fail_if_success (with_reducible show wpAny _ _ (compareOp CmpOp.NotIn (Value.ref _) (Value.ref _)) _ _ _)); (fail_if_success (with_reducible show wpAny _ _ (exec (Stmt.For _ _ _ _ _) _) _ _ _)); (first | (k_unfold; (try dsimp only)) | (k_end; kc_close) | walk1 | (dsimp only; walk1) | (leave1; (try dsimp only)) | fail "no step")))
        refine split1_L (by k_asm) (by k_asm) rfl (by omega) (fun rS vsS hS tkS hvS FS NS lS => ?_)
        rw [pl_split3' hrok.tag] at hvS
        k_lt lS
        try dsimp only
        (repeat' ((fail_if_success (with_reducible show wpAny _ _ (exec (Stmt.Assign _ (Expr.BoolOp _ _ _) _) _) _ _ _)); (fail_if_success (with_reducible show BoolPost _ _ _ _ _ _ _ _ _)); (fail_if_success (with_reducible show SkipPost _ _ _ _ _ _ _)); (fail_if_success (with_reducible show LCt.CompSrcT _ _ _ _ _ _ _ _ _ _ _ _ _ _ _)); (fail_if_success (with_reducible show wpAny _ _ (exec (Stmt.Return _ _) _) _ _ _)); (fail_if_success (with_reducible show wpAny _ _ (eval (Expr.ListComp _ _ _ _) _) _ _ _)); (fail_if_success (with_reducible show wpAny _ _ (compareOp CmpOp.Eq (Value.ref _) (Value.ref _)) _ _ _)); (fail_if_success (with_reducible show wpAny _ _ (call (Value.builtin "str.split") _) _ _ _)); (fail_if_success (with_reducible show wpAny _ _ (compareOp CmpOp.NotEq (Value.ref _) (Value.ref _)) _ _ _)); (fail_if_success (with_reducible show TextPost _ _ _ _ _ _ _ _ _ _ _ _ _ _ _)); (fail_if_success (with_reducible show wpAny _ _ (exec (Stmt.If _ _ _ _) _) _ _ _)); (fail_if_success (with_reducible show wpAny _ _ (call (Value.builtin "len") _) _ _ _)); (fail_if_success (with_reducible show StarOf _ _ _ _ _ _)); (fail_if_success (with_reducible show wpAny _ _ (call (Value.builtin "list.append") _) _ _ _)); (fail_if_success (with_reducible show LCg.CompSrc _ _ _ _ _ _ _ _ _ _ _ _ _ _)); (fail_if_success (with_reducible show wpAny _ _ (call (Value.ref _) _) _ _ _)); (fail_if_success (with_reducible show wpAny _ _ (call (Value.builtin "str.join") _) _ _ _)); (fail_if_success (with_reducible show wpAny _ _ (subscriptTail _ _ _ _) _ _ _)); (fail_if_success (with_reducible show wpAny _ _ (exec (Stmt.Assign _ (Expr.ListComp _ _ _ _) _) _) _ _ _)); (fail_if_success (with_reducible show wpAny _ _ (pyIter _) _ _ _)); (fail_if_success (with_reducible show wpAny _ _ (exec (Stmt.While _ _ _ _) _) _ _ _)); (fail_if_success (with_reducible show wpAny _ _ (compareOp CmpOp.NotIn (Value.ref _) (Value.ref _)) _ _ _)); (fail_if_success (with_reducible show wpAny _ _ (exec (Stmt.For _ _ _ _ _) _) _ _ _)); (first | (k_unfold; (try dsimp only)) | (k_end; kc_close) | walk1 | (dsimp only; walk1) | (leave1; (try dsimp only)) | fail "no step")))
        have hzS := hvS.len_eq
        have htl3 := hrok.tag.2.1
        k_dflt (refine' star_seq (T := "list") (o := lstO vsS 0) (n := 0) (its := vsS.toArray) (ws := vsS) ?k1 ?k2 ?m rfl rfl (.inl rfl) rfl ?z ?_; (case k1 => k_asm); (case k2 => k_asm); (case m => k_mem); (case z => (rw [List.size_toArray]; exact Nat.le_trans (by omega : vsS.length ≤ 3) (by decide))); k_whole)
        intro hst2 Fst2 Nst2
        try dsimp only
        (repeat' ((fail_if_success (with_reducible show wpAny _ _ (exec (Stmt.Assign _ (Expr.BoolOp _ _ _) _) _) _ _ _)); (fail_if_success (with_reducible show BoolPost _ _ _ _ _ _ _ _ _)); (fail_if_success (with_reducible show SkipPost _ _ _ _ _ _ _)); (fail_if_success (with_reducible show LCt.CompSrcT _ _ _ _ _ _ _ _ _ _ _ _ _ _ _)); (fail_if_success (with_reducible show wpAny _ _ (exec (Stmt.Return _ _) _) _ _ _)); (fail_if_success (with_reducible show wpAny _ _ (eval (Expr.ListComp _ _ _ _) _) _ _ _)); (fail_if_success (with_reducible show wpAny _ _ (compareOp CmpOp.Eq (Value.ref _) (Value.ref _)) _ _ _)); (fail_if_success (with_reducible show wpAny _ _ (call (Value.builtin "str.split") _) _ _ _)); (fail_if_success (with_reducible show wpAny _ _ (compareOp CmpOp.NotEq (Value.ref _) (Value.ref _)) _ _ _)); (fail_if_success (with_reducible show TextPost _ _ _ _ _ _ _ _ _ _ _ _ _ _ _)); (fail_if_success (with_reducible show wpAny _ _ (exec (Stmt.If _ _ _ _) _) _ _ _)); (fail_if_success (with_reducible show wpAny _ _ (call (Value.builtin "len") _) _ _ _)); (fail_if_success (with_reducible show StarOf _ _ _ _ _ _)); (fail_if_success (with_reducible show wpAny _ _ (call (Value.builtin "list.append") _) _ _ _)); (fail_if_success (with_reducible show LCg.CompSrc _ _ _ _ _ _ _ _ _ _ _ _ _ _)); (fail_if_success (with_reducible show wpAny _ _ (call (Value.ref _) _) _ _ _)); (fail_if_success (with_reducible show wpAny _ _ (call (Value.builtin "str.join") _) _ _ _)); (fail_if_success (with_reducible show wpAny _ _ (subscriptTail _ _ _ _) _ _ _)); (fail_if_success (with_reducible show wpAny _ _ (exec (Stmt.Assign _ (Expr.ListComp _ _ _ _) _) _) _ _ _)); (fail_if_success (with_reducible show wpAny _ _ (pyIter _) _ _ _)); (fail_if_success (with_reducible show wpAny _ _ (exec (Stmt.While _ _ _ _) _) _ _ _)); (fail_if_success (with_reducible show wpAny _ _ (compareOp CmpOp.NotIn (Value.ref _) (Value.ref _)) _ _ _)); (fail_if_success (with_reducible show wpAny _ _ (exec (Stmt.For _ _ _ _ _) _) _ _ _)); (first | (k_unfold; (try dsimp only)) | (k_end; kc_close) | walk1 | (dsimp only; walk1) | (leave1; (try dsimp only)) | fail "no step")))
        have hvS' : StrsAre (vsS ++ []) r.tag := by rw [List.append_nil]; exact hvS
        k_dflt (refine' CtrV.use (join_c _ _ _ _ _ hvS' (by rw [List.append_nil]; omega) (by decide) (by decide) (good_names' hrok.tag.2.2)) ?k1 ?k2 ?k3 ?k4 ?k5 ?kK ?kd ?ku ?kp ?_; (case k1 => k_asm); (case k2 => k_asm); (case k3 => k_asm); (case k4 => k_asm); (case k5 => k_asm); (case kK => exact rfl); (case kd => ktr_room); (case ku => ktr_units); (case kp => first | trivial | k_mem | assumption); k_whole)
        intro v7 h7 tk7 F7 N7 hp7
        obtain ⟨tPl, hv7⟩ := hp7
        obtain ⟨pT, hpT⟩ := str_name (r.tag.foldl joinStep (Str.ofString "/"))
        rw [← hpT] at hv7
        subst hv7
        replace hpT : pT = goalT r.tag := hpT
        try dsimp only
        (repeat' ((fail_if_success (with_reducible show wpAny _ _ (exec (Stmt.Assign _ (Expr.BoolOp _ _ _) _) _) _ _ _)); (fail_if_success (with_reducible show BoolPost _ _ _ _ _ _ _ _ _)); (fail_if_success (with_reducible show SkipPost _ _ _ _ _ _ _)); (fail_if_success (with_reducible show LCt.CompSrcT _ _ _ _ _ _ _ _ _ _ _ _ _ _ _)); (fail_if_success (with_reducible show wpAny _ _ (exec (Stmt.Return _ _) _) _ _ _)); (fail_if_success (with_reducible show wpAny _ _ (eval (Expr.ListComp _ _ _ _) _) _ _ _)); (fail_if_success (with_reducible show wpAny _ _ (compareOp CmpOp.Eq (Value.ref _) (Value.ref _)) _ _ _)); (fail_if_success (with_reducible show wpAny _ _ (call (Value.builtin "str.split") _) _ _ _)); (fail_if_success (with_reducible show wpAny _ _ (compareOp CmpOp.NotEq (Value.ref _) (Value.ref _)) _ _ _)); (fail_if_success (with_reducible show TextPost _ _ _ _ _ _ _ _ _ _ _ _ _ _ _)); (fail_if_success (with_reducible show wpAny _ _ (exec (Stmt.If _ _ _ _) _) _ _ _)); (fail_if_success (with_reducible show wpAny _ _ (call (Value.builtin "len") _) _ _ _)); (fail_if_success (with_reducible show StarOf _ _ _ _ _ _)); (fail_if_success (with_reducible show wpAny _ _ (call (Value.builtin "list.append") _) _ _ _)); (fail_if_success (with_reducible show LCg.CompSrc _ _ _ _ _ _ _ _ _ _ _ _ _ _)); (fail_if_success (with_reducible show wpAny _ _ (call (Value.ref _) _) _ _ _)); (fail_if_success (with_reducible show wpAny _ _ (call (Value.builtin "str.join") _) _ _ _)); (fail_if_success (with_reducible show wpAny _ _ (subscriptTail _ _ _ _) _ _ _)); (fail_if_success (with_reducible show wpAny _ _ (exec (Stmt.Assign _ (Expr.ListComp _ _ _ _) _) _) _ _ _)); (fail_if_success (with_reducible show wpAny _ _ (pyIter _) _ _ _)); (fail_if_success (with_reducible show wpAny _ _ (exec (Stmt.While _ _ _ _) _) _ _ _)); (fail_if_success (with_reducible show wpAny _ _ (compareOp CmpOp.NotIn (Value.ref _) (Value.ref _)) _ _ _)); (fail_if_success (with_reducible show wpAny _ _ (exec (Stmt.For _ _ _ _ _) _) _ _ _)); (first | (k_unfold; (try dsimp only)) | (k_end; kc_close) | walk1 | (dsimp only; walk1) | (leave1; (try dsimp only)) | fail "no step")))
        rename_i lNe hNe lNe1 hNe2 FNe NNe
        refine For_turns (by k_asm) ?_
        (repeat' ((fail_if_success (with_reducible show wpAny _ _ (exec (Stmt.Assign _ (Expr.BoolOp _ _ _) _) _) _ _ _)); (fail_if_success (with_reducible show BoolPost _ _ _ _ _ _ _ _ _)); (fail_if_success (with_reducible show SkipPost _ _ _ _ _ _ _)); (fail_if_success (with_reducible show LCt.CompSrcT _ _ _ _ _ _ _ _ _ _ _ _ _ _ _)); (fail_if_success (with_reducible show wpAny _ _ (exec (Stmt.Return _ _) _) _ _ _)); (fail_if_success (with_reducible show wpAny _ _ (eval (Expr.ListComp _ _ _ _) _) _ _ _)); (fail_if_success (with_reducible show wpAny _ _ (compareOp CmpOp.Eq (Value.ref _) (Value.ref _)) _ _ _)); (fail_if_success (with_reducible show wpAny _ _ (call (Value.builtin "str.split") _) _ _ _)); (fail_if_success (with_reducible show wpAny _ _ (compareOp CmpOp.NotEq (Value.ref _) (Value.ref _)) _ _ _)); (fail_if_success (with_reducible show TextPost _ _ _ _ _ _ _ _ _ _ _ _ _ _ _)); (fail_if_success (with_reducible show wpAny _ _ (exec (Stmt.If _ _ _ _) _) _ _ _)); (fail_if_success (with_reducible show wpAny _ _ (call (Value.builtin "len") _) _ _ _)); (fail_if_success (with_reducible show StarOf _ _ _ _ _ _)); (fail_if_success (with_reducible show wpAny _ _ (call (Value.builtin "list.append") _) _ _ _)); (fail_if_success (with_reducible show LCg.CompSrc _ _ _ _ _ _ _ _ _ _ _ _ _ _)); (fail_if_success (with_reducible show wpAny _ _ (call (Value.ref _) _) _ _ _)); (fail_if_success (with_reducible show wpAny _ _ (call (Value.builtin "str.join") _) _ _ _)); (fail_if_success (with_reducible show wpAny _ _ (subscriptTail _ _ _ _) _ _ _)); (fail_if_success (with_reducible show wpAny _ _ (exec (Stmt.Assign _ (Expr.ListComp _ _ _ _) _) _) _ _ _)); (fail_if_success (with_reducible show wpAny _ _ (pyIter _) _ _ _)); (fail_if_success (with_reducible show wpAny _ _ (exec (Stmt.While _ _ _ _) _) _ _ _)); (fail_if_success (with_reducible show wpAny _ _ (compareOp CmpOp.NotIn (Value.ref _) (Value.ref _)) _ _ _)); (fail_if_success (with_reducible show wpAny _ _ (exec (Stmt.For _ _ _ _ _) _) _ _ _)); (first | (k_unfold; (try dsimp only)) | (k_end; kc_close) | walk1 | (dsimp only; walk1) | (leave1; (try dsimp only)) | fail "no step")))
        obtain ⟨tailY, NY, hY⟩ := news_name NNe
        have yN : (lNe, lstO [] 0) ∈ tailY := by rw [hY]; k_mem
        have yP : (rP, lstO [Value.str r.cs tP1, Value.str (Txt.join (Str.ofString "-") r.tag) tP2, Value.str text tP3] nP) ∈ tailY := by rw [hY]; k_mem
        have yV : (s₁.heap.objs.size + 1 + 1 + 1, oV3) ∈ tailY := by rw [hY]; k_mem
        have backY : ∀ q ∈ (J, oJ) :: (s₁.heap.objs.size + 1 + 1 + 1, oV3) :: tailX, q ∈ tailY := fun q hq => by rw [hY]; exact .tail _ (.tail _ (.tail _ (.tail _ hq)))
        have subY : ∀ q ∈ tailX, q ∈ tailY := fun q hq => backY q (.tail _ (.tail _ hq))
        clear hY NNe
        have y1 := subY _ mX1
        have yg := subY _ mXg
        have yG := subY _ hG
        have hrngsY := All2.mono (fun a b hab => RangeAt.mono subY hab) hrngs
        refine iter_listTurns (vs := gv) (n := n2) (lo := lstO gv n2) rfl FNe NY yg rfl rfl (fun K hK => ?_)
        have ofK : ∀ p ∈ tailY, p.1 ≠ K := fun p hp => Nat.ne_of_lt (hK p hp)
        refine items_ind (L3 tailY st ra ga G rP rs r.kind t1 r.cs t2 r.tag pT tPl) ?done3 ?turn3 _ _ _ ⟨⟨[], rs, lNe, [], 0, rfl, hrngsY, ?c0, yN, .nil⟩, rfl, ?c1, ?c2, ?c3, ?c4, ?c5, ?c6, ?c7⟩
        case c0 => exact if_pos rfl
        case c1 => (repeat (first | exact if_pos rfl | assumption | refine (if_neg (by decide)).trans ?_))
        case c2 => (repeat (first | exact if_pos rfl | assumption | refine (if_neg (by decide)).trans ?_))
        case c3 => (repeat (first | exact if_pos rfl | assumption | refine (if_neg (by decide)).trans ?_))
        case c4 => (repeat (first | exact if_pos rfl | assumption | refine (if_neg (by decide)).trans ?_))
        case c5 => (repeat (first | exact if_pos rfl | assumption | refine (if_neg (by decide)).trans ?_))
        case c6 => (repeat (first | exact if_pos rfl | assumption | refine (if_neg (by decide)).trans ?_))
        case c7 => (repeat (first | exact if_pos rfl | assumption | refine (if_neg (by decide)).trans ?_))
        -- D3 BEGIN
        case done3 =>
          rintro m₃ news₃ ⟨⟨dn, rest, na, nv, kn, hrs, hr9, hmn, hna, hnv⟩, rfl, q1, q2, q3, q4, q5, q6, q7⟩
          cases hr9
          rw [List.append_nil] at hrs
          subst hrs
          refine ItemsRest.zero (fun h₃ tk₃ F₃ N₃ => ?_)
          replace F₃ := frK F₃ q1
          replace F₃ := frK (x := Str.ofString "ranges") (v := .ref ga) F₃ q2
          replace F₃ := frK (x := Str.ofString "parts") (v := .ref rP) F₃ q6
          replace F₃ := frK (x := Str.ofString "place") (v := .str pT tPl) F₃ q7
          replace F₃ := frK (x := Str.ofString "nearest") (v := .ref na) F₃ hmn
          have hgn : ∀ a ∈ rs, ∀ b ∈ a.names, GoodN b := fun a ha => by
            obtain ⟨j, _, e⟩ := (hok a ha).names
            rw [e]; exact take_good (hok a ha).tag.2.2 j
          have hps : ∀ a ∈ rs, OkS a.cs ∧ OkS (goalT a.names) := fun a ha => ⟨csOk_ok (hok a ha).cs, (pl_goal' (hgn a ha) (names_le (hok a ha))).2.2⟩
          obtain ⟨gB, hgB⟩ := str_name (goalT (bestT r.cs r.tag rs []))
          have hee : (gB != gB) = false := bne_self_eq_false _
          (repeat' ((fail_if_success (with_reducible show wpAny _ _ (exec (Stmt.Assign _ (Expr.BoolOp _ _ _) _) _) _ _ _)); (fail_if_success (with_reducible show BoolPost _ _ _ _ _ _ _ _ _)); (fail_if_success (with_reducible show SkipPost _ _ _ _ _ _ _)); (fail_if_success (with_reducible show LCt.CompSrcT _ _ _ _ _ _ _ _ _ _ _ _ _ _ _)); (fail_if_success (with_reducible show wpAny _ _ (exec (Stmt.Return _ _) _) _ _ _)); (fail_if_success (with_reducible show wpAny _ _ (eval (Expr.ListComp _ _ _ _) _) _ _ _)); (fail_if_success (with_reducible show wpAny _ _ (compareOp CmpOp.Eq (Value.ref _) (Value.ref _)) _ _ _)); (fail_if_success (with_reducible show wpAny _ _ (call (Value.builtin "str.split") _) _ _ _)); (fail_if_success (with_reducible show wpAny _ _ (compareOp CmpOp.NotEq (Value.ref _) (Value.ref _)) _ _ _)); (fail_if_success (with_reducible show TextPost _ _ _ _ _ _ _ _ _ _ _ _ _ _ _)); (fail_if_success (with_reducible show wpAny _ _ (exec (Stmt.If _ _ _ _) _) _ _ _)); (fail_if_success (with_reducible show wpAny _ _ (call (Value.builtin "len") _) _ _ _)); (fail_if_success (with_reducible show StarOf _ _ _ _ _ _)); (fail_if_success (with_reducible show wpAny _ _ (call (Value.builtin "list.append") _) _ _ _)); (fail_if_success (with_reducible show LCg.CompSrc _ _ _ _ _ _ _ _ _ _ _ _ _ _)); (fail_if_success (with_reducible show wpAny _ _ (call (Value.ref _) _) _ _ _)); (fail_if_success (with_reducible show wpAny _ _ (call (Value.builtin "str.join") _) _ _ _)); (fail_if_success (with_reducible show wpAny _ _ (subscriptTail _ _ _ _) _ _ _)); (fail_if_success (with_reducible show wpAny _ _ (exec (Stmt.Assign _ (Expr.ListComp _ _ _ _) _) _) _ _ _)); (fail_if_success (with_reducible show wpAny _ _ (pyIter _) _ _ _)); (fail_if_success (with_reducible show wpAny _ _ (exec (Stmt.While _ _ _ _) _) _ _ _)); (fail_if_success (with_reducible show wpAny _ _ (compareOp CmpOp.NotIn (Value.ref _) (Value.ref _)) _ _ _)); (fail_if_success (with_reducible show wpAny _ _ (exec (Stmt.For _ _ _ _ _) _) _ _ _)); (first | (k_unfold; (try dsimp only)) | (k_end; kc_close) | walk1 | (dsimp only; walk1) | (leave1; (try dsimp only)) | fail "no step")))
          refine wpAny_mono (Q := WayPost s₁ (ghostOf s₁.heap [(68, 64)]) s₁.heap.objs.size news₃ ra ga na gB) ?way (fun f s' hf => ?after3) (fun _ _ e => e)
          case way =>
            refine While_inv (hE := hpo) (WayJ news₃ rs r.cs r.tag ra ga rP na) (n₀ := r.tag.length) (by k_asm) (by k_asm) ⟨rfl, ⟨pT, tPl, by rw [hpT]; exact up_start _ _ _, by (repeat (first | exact if_pos rfl | assumption | refine (if_neg (by decide)).trans ?_))⟩, by (repeat (first | exact if_pos rfl | assumption | refine (if_neg (by decide)).trans ?_)), by (repeat (first | exact if_pos rfl | assumption | refine (if_neg (by decide)).trans ?_)), by (repeat (first | exact if_pos rfl | assumption | refine (if_neg (by decide)).trans ?_)), by (repeat (first | exact if_pos rfl | assumption | refine (if_neg (by decide)).trans ?_))⟩ ?_
            rintro n m₄ news₄ h₄ tk₄ F₄ N₄ ⟨hnw, ⟨place, tp, hup, hpl⟩, p0, p1, p2, p6⟩
            subst hnw
            replace F₄ := frK F₄ p1
            replace F₄ := frK (x := Str.ofString "ranges") (v := .ref ga) F₄ p2
            replace F₄ := frK (x := Str.ofString "parts") (v := .ref rP) F₄ p6
            replace F₄ := frK (x := Str.ofString "nearest") (v := .ref na) F₄ p0
            replace F₄ := frK (x := Str.ofString "place") (v := .str place tp) F₄ hpl
            obtain ⟨hpl1, hpl2, hpl3⟩ : place.length ≤ 500 ∧ Txt.startswith place (Str.ofString "/") = true ∧ OkS place := by
              rw [hup.2.1]; exact pl_goal' (take_good hrok.tag.2.2 _) (take_le3 hrok.tag.2.1 _)
            rcases Bool.eq_false_or_eq_true (place != Str.ofString "/") with hne | hne
            rotate_left
            · (repeat' ((fail_if_success (with_reducible show wpAny _ _ (exec (Stmt.Assign _ (Expr.BoolOp _ _ _) _) _) _ _ _)); (fail_if_success (with_reducible show BoolPost _ _ _ _ _ _ _ _ _)); (fail_if_success (with_reducible show SkipPost _ _ _ _ _ _ _)); (fail_if_success (with_reducible show LCt.CompSrcT _ _ _ _ _ _ _ _ _ _ _ _ _ _ _)); (fail_if_success (with_reducible show wpAny _ _ (exec (Stmt.Return _ _) _) _ _ _)); (fail_if_success (with_reducible show wpAny _ _ (eval (Expr.ListComp _ _ _ _) _) _ _ _)); (fail_if_success (with_reducible show wpAny _ _ (compareOp CmpOp.Eq (Value.ref _) (Value.ref _)) _ _ _)); (fail_if_success (with_reducible show wpAny _ _ (call (Value.builtin "str.split") _) _ _ _)); (fail_if_success (with_reducible show wpAny _ _ (compareOp CmpOp.NotEq (Value.ref _) (Value.ref _)) _ _ _)); (fail_if_success (with_reducible show TextPost _ _ _ _ _ _ _ _ _ _ _ _ _ _ _)); (fail_if_success (with_reducible show wpAny _ _ (exec (Stmt.If _ _ _ _) _) _ _ _)); (fail_if_success (with_reducible show wpAny _ _ (call (Value.builtin "len") _) _ _ _)); (fail_if_success (with_reducible show StarOf _ _ _ _ _ _)); (fail_if_success (with_reducible show wpAny _ _ (call (Value.builtin "list.append") _) _ _ _)); (fail_if_success (with_reducible show LCg.CompSrc _ _ _ _ _ _ _ _ _ _ _ _ _ _)); (fail_if_success (with_reducible show wpAny _ _ (call (Value.ref _) _) _ _ _)); (fail_if_success (with_reducible show wpAny _ _ (call (Value.builtin "str.join") _) _ _ _)); (fail_if_success (with_reducible show wpAny _ _ (subscriptTail _ _ _ _) _ _ _)); (fail_if_success (with_reducible show wpAny _ _ (exec (Stmt.Assign _ (Expr.ListComp _ _ _ _) _) _) _ _ _)); (fail_if_success (with_reducible show wpAny _ _ (pyIter _) _ _ _)); (fail_if_success (with_reducible show wpAny _ _ (exec (Stmt.While _ _ _ _) _) _ _ _)); (fail_if_success (with_reducible show wpAny _ _ (compareOp CmpOp.NotIn (Value.ref _) (Value.ref _)) _ _ _)); (fail_if_success (with_reducible show wpAny _ _ (exec (Stmt.For _ _ _ _ _) _) _ _ _)); (first | (k_unfold; (try dsimp only)) | (k_end; kc_close) | walk1 | (dsimp only; walk1) | (leave1; (try dsimp only)) | fail "no step")))
              refine WayPost.intro (place := place) (tp := tp) (by k_asm) (by k_asm) ?wE ?w0 ?w1 ?w2 ?w3
              case wE => rw [hgB]; exact up_done hrok.tag.2.2 hgn hup (.inl (bne_eq_false_iff_eq.mp hne))
              case w0 => (repeat (first | exact if_pos rfl | assumption | refine (if_neg (by decide)).trans ?_))
              case w1 => (repeat (first | exact if_pos rfl | assumption | refine (if_neg (by decide)).trans ?_))
              case w2 => (repeat (first | exact if_pos rfl | assumption | refine (if_neg (by decide)).trans ?_))
              case w3 => (repeat (first | exact if_pos rfl | assumption | refine (if_neg (by decide)).trans ?_))
            · (repeat' ((fail_if_success (with_reducible show wpAny _ _ (exec (Stmt.Assign _ (Expr.BoolOp _ _ _) _) _) _ _ _)); (fail_if_success (with_reducible show BoolPost _ _ _ _ _ _ _ _ _)); (fail_if_success (with_reducible show SkipPost _ _ _ _ _ _ _)); (fail_if_success (with_reducible show LCt.CompSrcT _ _ _ _ _ _ _ _ _ _ _ _ _ _ _)); (fail_if_success (with_reducible show wpAny _ _ (exec (Stmt.Return _ _) _) _ _ _)); (fail_if_success (with_reducible show wpAny _ _ (eval (Expr.ListComp _ _ _ _) _) _ _ _)); (fail_if_success (with_reducible show wpAny _ _ (compareOp CmpOp.Eq (Value.ref _) (Value.ref _)) _ _ _)); (fail_if_success (with_reducible show wpAny _ _ (call (Value.builtin "str.split") _) _ _ _)); (fail_if_success (with_reducible show wpAny _ _ (compareOp CmpOp.NotEq (Value.ref _) (Value.ref _)) _ _ _)); (fail_if_success (with_reducible show TextPost _ _ _ _ _ _ _ _ _ _ _ _ _ _ _)); (fail_if_success (with_reducible show wpAny _ _ (exec (Stmt.If _ _ _ _) _) _ _ _)); (fail_if_success (with_reducible show wpAny _ _ (call (Value.builtin "len") _) _ _ _)); (fail_if_success (with_reducible show StarOf _ _ _ _ _ _)); (fail_if_success (with_reducible show wpAny _ _ (call (Value.builtin "list.append") _) _ _ _)); (fail_if_success (with_reducible show LCg.CompSrc _ _ _ _ _ _ _ _ _ _ _ _ _ _)); (fail_if_success (with_reducible show wpAny _ _ (call (Value.ref _) _) _ _ _)); (fail_if_success (with_reducible show wpAny _ _ (call (Value.builtin "str.join") _) _ _ _)); (fail_if_success (with_reducible show wpAny _ _ (subscriptTail _ _ _ _) _ _ _)); (fail_if_success (with_reducible show wpAny _ _ (exec (Stmt.Assign _ (Expr.ListComp _ _ _ _) _) _) _ _ _)); (fail_if_success (with_reducible show wpAny _ _ (pyIter _) _ _ _)); (fail_if_success (with_reducible show wpAny _ _ (exec (Stmt.While _ _ _ _) _) _ _ _)); (fail_if_success (with_reducible show wpAny _ _ (compareOp CmpOp.NotIn (Value.ref _) (Value.ref _)) _ _ _)); (fail_if_success (with_reducible show wpAny _ _ (exec (Stmt.For _ _ _ _ _) _) _ _ _)); (first | (k_unfold; (try dsimp only)) | (k_end; kc_close) | walk1 | (dsimp only; walk1) | (leave1; (try dsimp only)) | fail "no step")))
              refine item_any (i := 0) (X := [Value.str r.cs tP1, Value.str (Txt.join (Str.ofString "-") r.tag) tP2, Value.str text tP3]) (v := .str r.cs tP1) (n := nP) (by k_asm) (by k_mem) rfl (by show 3 ≤ 1000; decide) ?_
              (repeat' ((fail_if_success (with_reducible show wpAny _ _ (exec (Stmt.Assign _ (Expr.BoolOp _ _ _) _) _) _ _ _)); (fail_if_success (with_reducible show BoolPost _ _ _ _ _ _ _ _ _)); (fail_if_success (with_reducible show SkipPost _ _ _ _ _ _ _)); (fail_if_success (with_reducible show LCt.CompSrcT _ _ _ _ _ _ _ _ _ _ _ _ _ _ _)); (fail_if_success (with_reducible show wpAny _ _ (exec (Stmt.Return _ _) _) _ _ _)); (fail_if_success (with_reducible show wpAny _ _ (eval (Expr.ListComp _ _ _ _) _) _ _ _)); (fail_if_success (with_reducible show wpAny _ _ (compareOp CmpOp.Eq (Value.ref _) (Value.ref _)) _ _ _)); (fail_if_success (with_reducible show wpAny _ _ (call (Value.builtin "str.split") _) _ _ _)); (fail_if_success (with_reducible show wpAny _ _ (compareOp CmpOp.NotEq (Value.ref _) (Value.ref _)) _ _ _)); (fail_if_success (with_reducible show TextPost _ _ _ _ _ _ _ _ _ _ _ _ _ _ _)); (fail_if_success (with_reducible show wpAny _ _ (exec (Stmt.If _ _ _ _) _) _ _ _)); (fail_if_success (with_reducible show wpAny _ _ (call (Value.builtin "len") _) _ _ _)); (fail_if_success (with_reducible show StarOf _ _ _ _ _ _)); (fail_if_success (with_reducible show wpAny _ _ (call (Value.builtin "list.append") _) _ _ _)); (fail_if_success (with_reducible show LCg.CompSrc _ _ _ _ _ _ _ _ _ _ _ _ _ _)); (fail_if_success (with_reducible show wpAny _ _ (call (Value.ref _) _) _ _ _)); (fail_if_success (with_reducible show wpAny _ _ (call (Value.builtin "str.join") _) _ _ _)); (fail_if_success (with_reducible show wpAny _ _ (subscriptTail _ _ _ _) _ _ _)); (fail_if_success (with_reducible show wpAny _ _ (exec (Stmt.Assign _ (Expr.ListComp _ _ _ _) _) _) _ _ _)); (fail_if_success (with_reducible show wpAny _ _ (pyIter _) _ _ _)); (fail_if_success (with_reducible show wpAny _ _ (exec (Stmt.While _ _ _ _) _) _ _ _)); (fail_if_success (with_reducible show wpAny _ _ (compareOp CmpOp.NotIn (Value.ref _) (Value.ref _)) _ _ _)); (fail_if_success (with_reducible show wpAny _ _ (exec (Stmt.For _ _ _ _ _) _) _ _ _)); (first | (k_unfold; (try dsimp only)) | (k_end; kc_close) | walk1 | (dsimp only; walk1) | (leave1; (try dsimp only)) | fail "no step")))
              refine LCg.ListComp_U (F₀ := by k_asm) (by with_unfolding_all rfl) (by decide) (by rfl) (by decide) (by rfl) ?_
              (repeat' ((fail_if_success (with_reducible show wpAny _ _ (exec (Stmt.Assign _ (Expr.BoolOp _ _ _) _) _) _ _ _)); (fail_if_success (with_reducible show BoolPost _ _ _ _ _ _ _ _ _)); (fail_if_success (with_reducible show SkipPost _ _ _ _ _ _ _)); (fail_if_success (with_reducible show LCt.CompSrcT _ _ _ _ _ _ _ _ _ _ _ _ _ _ _)); (fail_if_success (with_reducible show wpAny _ _ (exec (Stmt.Return _ _) _) _ _ _)); (fail_if_success (with_reducible show wpAny _ _ (eval (Expr.ListComp _ _ _ _) _) _ _ _)); (fail_if_success (with_reducible show wpAny _ _ (compareOp CmpOp.Eq (Value.ref _) (Value.ref _)) _ _ _)); (fail_if_success (with_reducible show wpAny _ _ (call (Value.builtin "str.split") _) _ _ _)); (fail_if_success (with_reducible show wpAny _ _ (compareOp CmpOp.NotEq (Value.ref _) (Value.ref _)) _ _ _)); (fail_if_success (with_reducible show TextPost _ _ _ _ _ _ _ _ _ _ _ _ _ _ _)); (fail_if_success (with_reducible show wpAny _ _ (exec (Stmt.If _ _ _ _) _) _ _ _)); (fail_if_success (with_reducible show wpAny _ _ (call (Value.builtin "len") _) _ _ _)); (fail_if_success (with_reducible show StarOf _ _ _ _ _ _)); (fail_if_success (with_reducible show wpAny _ _ (call (Value.builtin "list.append") _) _ _ _)); (fail_if_success (with_reducible show LCg.CompSrc _ _ _ _ _ _ _ _ _ _ _ _ _ _)); (fail_if_success (with_reducible show wpAny _ _ (call (Value.ref _) _) _ _ _)); (fail_if_success (with_reducible show wpAny _ _ (call (Value.builtin "str.join") _) _ _ _)); (fail_if_success (with_reducible show wpAny _ _ (subscriptTail _ _ _ _) _ _ _)); (fail_if_success (with_reducible show wpAny _ _ (exec (Stmt.Assign _ (Expr.ListComp _ _ _ _) _) _) _ _ _)); (fail_if_success (with_reducible show wpAny _ _ (pyIter _) _ _ _)); (fail_if_success (with_reducible show wpAny _ _ (exec (Stmt.While _ _ _ _) _) _ _ _)); (fail_if_success (with_reducible show wpAny _ _ (compareOp CmpOp.NotIn (Value.ref _) (Value.ref _)) _ _ _)); (fail_if_success (with_reducible show wpAny _ _ (exec (Stmt.For _ _ _ _ _) _) _ _ _)); (first | (k_unfold; (try dsimp only)) | (k_end; kc_close) | walk1 | (dsimp only; walk1) | (leave1; (try dsimp only)) | fail "no step")))
              refine LCg.CompSrc.ledger (its := gv.toArray) (k := n2) (by rfl) (by k_asm) (by k_asm) (by k_mem) (by rw [List.size_toArray, hgvl]; exact Nat.le_trans (by omega : rs.length ≤ 3) (by decide)) ?_
              intro gW
              rw [List.size_toArray]
              refine compU_ind gv.length (CpJ _ rs) ?cz ?cs _ _ ⟨fun p hp => hp, .nil⟩
              case cs =>
                rintro k i ys nw hik hJ IHc
                refine LCg.CompRest.succ (fun v I oI C oC D m₂ h₁ tk₁ E' hP hoC hm₂ F₁ N₁ off ne => ?_)
                rw [List.getElem?_toArray] at hP
                obtain ⟨b, hb, R, tR1, Nm, tR2, P, vNm, p1, p2, nR1, nR2, nR3, rfl, hR, _⟩ := hrngsY.left hP
                have hR' := hJ.1 _ (.tail _ hR)
                (repeat' ((fail_if_success (with_reducible show wpAny _ _ (exec (Stmt.Assign _ (Expr.BoolOp _ _ _) _) _) _ _ _)); (fail_if_success (with_reducible show BoolPost _ _ _ _ _ _ _ _ _)); (fail_if_success (with_reducible show SkipPost _ _ _ _ _ _ _)); (fail_if_success (with_reducible show LCt.CompSrcT _ _ _ _ _ _ _ _ _ _ _ _ _ _ _)); (fail_if_success (with_reducible show wpAny _ _ (exec (Stmt.Return _ _) _) _ _ _)); (fail_if_success (with_reducible show wpAny _ _ (eval (Expr.ListComp _ _ _ _) _) _ _ _)); (fail_if_success (with_reducible show wpAny _ _ (compareOp CmpOp.Eq (Value.ref _) (Value.ref _)) _ _ _)); (fail_if_success (with_reducible show wpAny _ _ (call (Value.builtin "str.split") _) _ _ _)); (fail_if_success (with_reducible show wpAny _ _ (compareOp CmpOp.NotEq (Value.ref _) (Value.ref _)) _ _ _)); (fail_if_success (with_reducible show TextPost _ _ _ _ _ _ _ _ _ _ _ _ _ _ _)); (fail_if_success (with_reducible show wpAny _ _ (exec (Stmt.If _ _ _ _) _) _ _ _)); (fail_if_success (with_reducible show wpAny _ _ (call (Value.builtin "len") _) _ _ _)); (fail_if_success (with_reducible show StarOf _ _ _ _ _ _)); (fail_if_success (with_reducible show wpAny _ _ (call (Value.builtin "list.append") _) _ _ _)); (fail_if_success (with_reducible show LCg.CompSrc _ _ _ _ _ _ _ _ _ _ _ _ _ _)); (fail_if_success (with_reducible show wpAny _ _ (call (Value.ref _) _) _ _ _)); (fail_if_success (with_reducible show wpAny _ _ (call (Value.builtin "str.join") _) _ _ _)); (fail_if_success (with_reducible show wpAny _ _ (subscriptTail _ _ _ _) _ _ _)); (fail_if_success (with_reducible show wpAny _ _ (exec (Stmt.Assign _ (Expr.ListComp _ _ _ _) _) _) _ _ _)); (fail_if_success (with_reducible show wpAny _ _ (pyIter _) _ _ _)); (fail_if_success (with_reducible show wpAny _ _ (exec (Stmt.While _ _ _ _) _) _ _ _)); (fail_if_success (with_reducible show wpAny _ _ (compareOp CmpOp.NotIn (Value.ref _) (Value.ref _)) _ _ _)); (fail_if_success (with_reducible show wpAny _ _ (exec (Stmt.For _ _ _ _ _) _) _ _ _)); (first | (k_unfold; (try dsimp only)) | (k_end; kc_close) | walk1 | (dsimp only; walk1) | (leave1; (try dsimp only)) | fail "no step")))
                refine tup_any (i := 0) (by k_asm) (by k_mem) rfl (by show 4 ≤ 1000; decide) ?_
                (repeat' ((fail_if_success (with_reducible show wpAny _ _ (exec (Stmt.Assign _ (Expr.BoolOp _ _ _) _) _) _ _ _)); (fail_if_success (with_reducible show BoolPost _ _ _ _ _ _ _ _ _)); (fail_if_success (with_reducible show SkipPost _ _ _ _ _ _ _)); (fail_if_success (with_reducible show LCt.CompSrcT _ _ _ _ _ _ _ _ _ _ _ _ _ _ _)); (fail_if_success (with_reducible show wpAny _ _ (exec (Stmt.Return _ _) _) _ _ _)); (fail_if_success (with_reducible show wpAny _ _ (eval (Expr.ListComp _ _ _ _) _) _ _ _)); (fail_if_success (with_reducible show wpAny _ _ (compareOp CmpOp.Eq (Value.ref _) (Value.ref _)) _ _ _)); (fail_if_success (with_reducible show wpAny _ _ (call (Value.builtin "str.split") _) _ _ _)); (fail_if_success (with_reducible show wpAny _ _ (compareOp CmpOp.NotEq (Value.ref _) (Value.ref _)) _ _ _)); (fail_if_success (with_reducible show TextPost _ _ _ _ _ _ _ _ _ _ _ _ _ _ _)); (fail_if_success (with_reducible show wpAny _ _ (exec (Stmt.If _ _ _ _) _) _ _ _)); (fail_if_success (with_reducible show wpAny _ _ (call (Value.builtin "len") _) _ _ _)); (fail_if_success (with_reducible show StarOf _ _ _ _ _ _)); (fail_if_success (with_reducible show wpAny _ _ (call (Value.builtin "list.append") _) _ _ _)); (fail_if_success (with_reducible show LCg.CompSrc _ _ _ _ _ _ _ _ _ _ _ _ _ _)); (fail_if_success (with_reducible show wpAny _ _ (call (Value.ref _) _) _ _ _)); (fail_if_success (with_reducible show wpAny _ _ (call (Value.builtin "str.join") _) _ _ _)); (fail_if_success (with_reducible show wpAny _ _ (subscriptTail _ _ _ _) _ _ _)); (fail_if_success (with_reducible show wpAny _ _ (exec (Stmt.Assign _ (Expr.ListComp _ _ _ _) _) _) _ _ _)); (fail_if_success (with_reducible show wpAny _ _ (pyIter _) _ _ _)); (fail_if_success (with_reducible show wpAny _ _ (exec (Stmt.While _ _ _ _) _) _ _ _)); (fail_if_success (with_reducible show wpAny _ _ (compareOp CmpOp.NotIn (Value.ref _) (Value.ref _)) _ _ _)); (fail_if_success (with_reducible show wpAny _ _ (exec (Stmt.For _ _ _ _ _) _) _ _ _)); (first | (k_unfold; (try dsimp only)) | (k_end; kc_close) | walk1 | (dsimp only; walk1) | (leave1; (try dsimp only)) | fail "no step")))
                refine tup_any (i := 2) (by k_asm) (by k_mem) rfl (by show 4 ≤ 1000; decide) ?_
                (repeat' ((fail_if_success (with_reducible show wpAny _ _ (exec (Stmt.Assign _ (Expr.BoolOp _ _ _) _) _) _ _ _)); (fail_if_success (with_reducible show BoolPost _ _ _ _ _ _ _ _ _)); (fail_if_success (with_reducible show SkipPost _ _ _ _ _ _ _)); (fail_if_success (with_reducible show LCt.CompSrcT _ _ _ _ _ _ _ _ _ _ _ _ _ _ _)); (fail_if_success (with_reducible show wpAny _ _ (exec (Stmt.Return _ _) _) _ _ _)); (fail_if_success (with_reducible show wpAny _ _ (eval (Expr.ListComp _ _ _ _) _) _ _ _)); (fail_if_success (with_reducible show wpAny _ _ (compareOp CmpOp.Eq (Value.ref _) (Value.ref _)) _ _ _)); (fail_if_success (with_reducible show wpAny _ _ (call (Value.builtin "str.split") _) _ _ _)); (fail_if_success (with_reducible show wpAny _ _ (compareOp CmpOp.NotEq (Value.ref _) (Value.ref _)) _ _ _)); (fail_if_success (with_reducible show TextPost _ _ _ _ _ _ _ _ _ _ _ _ _ _ _)); (fail_if_success (with_reducible show wpAny _ _ (exec (Stmt.If _ _ _ _) _) _ _ _)); (fail_if_success (with_reducible show wpAny _ _ (call (Value.builtin "len") _) _ _ _)); (fail_if_success (with_reducible show StarOf _ _ _ _ _ _)); (fail_if_success (with_reducible show wpAny _ _ (call (Value.builtin "list.append") _) _ _ _)); (fail_if_success (with_reducible show LCg.CompSrc _ _ _ _ _ _ _ _ _ _ _ _ _ _)); (fail_if_success (with_reducible show wpAny _ _ (call (Value.ref _) _) _ _ _)); (fail_if_success (with_reducible show wpAny _ _ (call (Value.builtin "str.join") _) _ _ _)); (fail_if_success (with_reducible show wpAny _ _ (subscriptTail _ _ _ _) _ _ _)); (fail_if_success (with_reducible show wpAny _ _ (exec (Stmt.Assign _ (Expr.ListComp _ _ _ _) _) _) _ _ _)); (fail_if_success (with_reducible show wpAny _ _ (pyIter _) _ _ _)); (fail_if_success (with_reducible show wpAny _ _ (exec (Stmt.While _ _ _ _) _) _ _ _)); (fail_if_success (with_reducible show wpAny _ _ (compareOp CmpOp.NotIn (Value.ref _) (Value.ref _)) _ _ _)); (fail_if_success (with_reducible show wpAny _ _ (exec (Stmt.For _ _ _ _ _) _) _ _ _)); (first | (k_unfold; (try dsimp only)) | (k_end; kc_close) | walk1 | (dsimp only; walk1) | (leave1; (try dsimp only)) | fail "no step")))
                rename_i TT hTT FTT NTT lTT
                exact LCg.CompEnd.intro FTT NTT _ mem_rot3 ⟨⟨Nat.ne_of_gt lTT.1, Nat.ne_of_gt lTT.2.1, Nat.ne_of_gt lTT.2.2.1⟩, off⟩ (.inr ⟨_, .tail _ (hJ.1 _ (.tail _ yg)), rfl, _, rfl⟩) (IHc _ _ (hJ.next hb))
              case cz =>
                rintro ys nw ⟨hJ1, hJ2⟩ D h₁ tk₁ F₁ N₁ o1
                rw [hgvl, List.take_length] at hJ2
                dsimp only
                (repeat' ((fail_if_success (with_reducible show wpAny _ _ (exec (Stmt.Assign _ (Expr.BoolOp _ _ _) _) _) _ _ _)); (fail_if_success (with_reducible show BoolPost _ _ _ _ _ _ _ _ _)); (fail_if_success (with_reducible show SkipPost _ _ _ _ _ _ _)); (fail_if_success (with_reducible show LCt.CompSrcT _ _ _ _ _ _ _ _ _ _ _ _ _ _ _)); (fail_if_success (with_reducible show wpAny _ _ (exec (Stmt.Return _ _) _) _ _ _)); (fail_if_success (with_reducible show wpAny _ _ (eval (Expr.ListComp _ _ _ _) _) _ _ _)); (fail_if_success (with_reducible show wpAny _ _ (compareOp CmpOp.Eq (Value.ref _) (Value.ref _)) _ _ _)); (fail_if_success (with_reducible show wpAny _ _ (call (Value.builtin "str.split") _) _ _ _)); (fail_if_success (with_reducible show wpAny _ _ (compareOp CmpOp.NotEq (Value.ref _) (Value.ref _)) _ _ _)); (fail_if_success (with_reducible show TextPost _ _ _ _ _ _ _ _ _ _ _ _ _ _ _)); (fail_if_success (with_reducible show wpAny _ _ (exec (Stmt.If _ _ _ _) _) _ _ _)); (fail_if_success (with_reducible show wpAny _ _ (call (Value.builtin "len") _) _ _ _)); (fail_if_success (with_reducible show StarOf _ _ _ _ _ _)); (fail_if_success (with_reducible show wpAny _ _ (call (Value.builtin "list.append") _) _ _ _)); (fail_if_success (with_reducible show LCg.CompSrc _ _ _ _ _ _ _ _ _ _ _ _ _ _)); (fail_if_success (with_reducible show wpAny _ _ (call (Value.ref _) _) _ _ _)); (fail_if_success (with_reducible show wpAny _ _ (call (Value.builtin "str.join") _) _ _ _)); (fail_if_success (with_reducible show wpAny _ _ (subscriptTail _ _ _ _) _ _ _)); (fail_if_success (with_reducible show wpAny _ _ (exec (Stmt.Assign _ (Expr.ListComp _ _ _ _) _) _) _ _ _)); (fail_if_success (with_reducible show wpAny _ _ (pyIter _) _ _ _)); (fail_if_success (with_reducible show wpAny _ _ (exec (Stmt.While _ _ _ _) _) _ _ _)); (fail_if_success (with_reducible show wpAny _ _ (compareOp CmpOp.NotIn (Value.ref _) (Value.ref _)) _ _ _)); (fail_if_success (with_reducible show wpAny _ _ (exec (Stmt.For _ _ _ _ _) _) _ _ _)); (first | (k_unfold; (try dsimp only)) | (k_end; kc_close) | walk1 | (dsimp only; walk1) | (leave1; (try dsimp only)) | fail "no step")))
                rcases Classical.em (∃ a ∈ rs, a.cs = r.cs ∧ goalT a.names = place) with hex | hex
                · refine notin_to (any_yes hex) (by k_asm) (.tail _ (hJ1 _ (.head _))) (by k_mem) hJ2 (fun p hp => .tail _ hp) (csOk_ok hrok.cs) hpl3 hps (by ke_room) ?_
                  (repeat' ((fail_if_success (with_reducible show wpAny _ _ (exec (Stmt.Assign _ (Expr.BoolOp _ _ _) _) _) _ _ _)); (fail_if_success (with_reducible show BoolPost _ _ _ _ _ _ _ _ _)); (fail_if_success (with_reducible show SkipPost _ _ _ _ _ _ _)); (fail_if_success (with_reducible show LCt.CompSrcT _ _ _ _ _ _ _ _ _ _ _ _ _ _ _)); (fail_if_success (with_reducible show wpAny _ _ (exec (Stmt.Return _ _) _) _ _ _)); (fail_if_success (with_reducible show wpAny _ _ (eval (Expr.ListComp _ _ _ _) _) _ _ _)); (fail_if_success (with_reducible show wpAny _ _ (compareOp CmpOp.Eq (Value.ref _) (Value.ref _)) _ _ _)); (fail_if_success (with_reducible show wpAny _ _ (call (Value.builtin "str.split") _) _ _ _)); (fail_if_success (with_reducible show wpAny _ _ (compareOp CmpOp.NotEq (Value.ref _) (Value.ref _)) _ _ _)); (fail_if_success (with_reducible show TextPost _ _ _ _ _ _ _ _ _ _ _ _ _ _ _)); (fail_if_success (with_reducible show wpAny _ _ (exec (Stmt.If _ _ _ _) _) _ _ _)); (fail_if_success (with_reducible show wpAny _ _ (call (Value.builtin "len") _) _ _ _)); (fail_if_success (with_reducible show StarOf _ _ _ _ _ _)); (fail_if_success (with_reducible show wpAny _ _ (call (Value.builtin "list.append") _) _ _ _)); (fail_if_success (with_reducible show LCg.CompSrc _ _ _ _ _ _ _ _ _ _ _ _ _ _)); (fail_if_success (with_reducible show wpAny _ _ (call (Value.ref _) _) _ _ _)); (fail_if_success (with_reducible show wpAny _ _ (call (Value.builtin "str.join") _) _ _ _)); (fail_if_success (with_reducible show wpAny _ _ (subscriptTail _ _ _ _) _ _ _)); (fail_if_success (with_reducible show wpAny _ _ (exec (Stmt.Assign _ (Expr.ListComp _ _ _ _) _) _) _ _ _)); (fail_if_success (with_reducible show wpAny _ _ (pyIter _) _ _ _)); (fail_if_success (with_reducible show wpAny _ _ (exec (Stmt.While _ _ _ _) _) _ _ _)); (fail_if_success (with_reducible show wpAny _ _ (compareOp CmpOp.NotIn (Value.ref _) (Value.ref _)) _ _ _)); (fail_if_success (with_reducible show wpAny _ _ (exec (Stmt.For _ _ _ _ _) _) _ _ _)); (first | (k_unfold; (try dsimp only)) | (k_end; kc_close) | walk1 | (dsimp only; walk1) | (leave1; (try dsimp only)) | fail "no step")))
                  refine WayPost.intro (place := place) (tp := tp) (by k_asm) (cb_drop (by k_asm) (fun p hp => .tail _ (hJ1 _ (.tail _ hp)))) ?wE ?w0 ?w1 ?w2 ?w3
                  case wE => rw [hgB]; exact up_done hrok.tag.2.2 hgn hup (.inr hex)
                  case w0 => (repeat (first | exact if_pos rfl | assumption | refine (if_neg (by decide)).trans ?_))
                  case w1 => (repeat (first | exact if_pos rfl | assumption | refine (if_neg (by decide)).trans ?_))
                  case w2 => (repeat (first | exact if_pos rfl | assumption | refine (if_neg (by decide)).trans ?_))
                  case w3 => (repeat (first | exact if_pos rfl | assumption | refine (if_neg (by decide)).trans ?_))
                · refine notin_to (any_no hex) (by k_asm) (.tail _ (hJ1 _ (.head _))) (by k_mem) hJ2 (fun p hp => .tail _ hp) (csOk_ok hrok.cs) hpl3 hps (by ke_room) ?_
                  (repeat' ((fail_if_success (with_reducible show wpAny _ _ (exec (Stmt.Assign _ (Expr.BoolOp _ _ _) _) _) _ _ _)); (fail_if_success (with_reducible show BoolPost _ _ _ _ _ _ _ _ _)); (fail_if_success (with_reducible show SkipPost _ _ _ _ _ _ _)); (fail_if_success (with_reducible show LCt.CompSrcT _ _ _ _ _ _ _ _ _ _ _ _ _ _ _)); (fail_if_success (with_reducible show wpAny _ _ (exec (Stmt.Return _ _) _) _ _ _)); (fail_if_success (with_reducible show wpAny _ _ (eval (Expr.ListComp _ _ _ _) _) _ _ _)); (fail_if_success (with_reducible show wpAny _ _ (compareOp CmpOp.Eq (Value.ref _) (Value.ref _)) _ _ _)); (fail_if_success (with_reducible show wpAny _ _ (call (Value.builtin "str.split") _) _ _ _)); (fail_if_success (with_reducible show wpAny _ _ (compareOp CmpOp.NotEq (Value.ref _) (Value.ref _)) _ _ _)); (fail_if_success (with_reducible show TextPost _ _ _ _ _ _ _ _ _ _ _ _ _ _ _)); (fail_if_success (with_reducible show wpAny _ _ (exec (Stmt.If _ _ _ _) _) _ _ _)); (fail_if_success (with_reducible show wpAny _ _ (call (Value.builtin "len") _) _ _ _)); (fail_if_success (with_reducible show StarOf _ _ _ _ _ _)); (fail_if_success (with_reducible show wpAny _ _ (call (Value.builtin "list.append") _) _ _ _)); (fail_if_success (with_reducible show LCg.CompSrc _ _ _ _ _ _ _ _ _ _ _ _ _ _)); (fail_if_success (with_reducible show wpAny _ _ (call (Value.ref _) _) _ _ _)); (fail_if_success (with_reducible show wpAny _ _ (call (Value.builtin "str.join") _) _ _ _)); (fail_if_success (with_reducible show wpAny _ _ (subscriptTail _ _ _ _) _ _ _)); (fail_if_success (with_reducible show wpAny _ _ (exec (Stmt.Assign _ (Expr.ListComp _ _ _ _) _) _) _ _ _)); (fail_if_success (with_reducible show wpAny _ _ (pyIter _) _ _ _)); (fail_if_success (with_reducible show wpAny _ _ (exec (Stmt.While _ _ _ _) _) _ _ _)); (fail_if_success (with_reducible show wpAny _ _ (compareOp CmpOp.NotIn (Value.ref _) (Value.ref _)) _ _ _)); (fail_if_success (with_reducible show wpAny _ _ (exec (Stmt.For _ _ _ _ _) _) _ _ _)); (first | (k_unfold; (try dsimp only)) | (k_end; kc_close) | walk1 | (dsimp only; walk1) | (leave1; (try dsimp only)) | fail "no step")))
                  k_dflt (refine' CtrV.use (dirn_c _ place tp (by omega)) ?k1 ?k2 ?k3 ?k4 ?k5 ?kK ?kd ?ku ?kp ?_; (case k1 => k_asm); (case k2 => k_asm); (case k3 => k_asm); (case k4 => k_asm); (case k5 => k_asm); (case kK => exact rfl); (case kd => ktr_room); (case ku => ktr_units); (case kp => first | trivial | k_mem | assumption); k_whole)
                  intro vD hD tkD FD9 ND9 pD
                  obtain ⟨tD, rfl⟩ := pD
                  try dsimp only
                  (repeat' ((fail_if_success (with_reducible show wpAny _ _ (exec (Stmt.Assign _ (Expr.BoolOp _ _ _) _) _) _ _ _)); (fail_if_success (with_reducible show BoolPost _ _ _ _ _ _ _ _ _)); (fail_if_success (with_reducible show SkipPost _ _ _ _ _ _ _)); (fail_if_success (with_reducible show LCt.CompSrcT _ _ _ _ _ _ _ _ _ _ _ _ _ _ _)); (fail_if_success (with_reducible show wpAny _ _ (exec (Stmt.Return _ _) _) _ _ _)); (fail_if_success (with_reducible show wpAny _ _ (eval (Expr.ListComp _ _ _ _) _) _ _ _)); (fail_if_success (with_reducible show wpAny _ _ (compareOp CmpOp.Eq (Value.ref _) (Value.ref _)) _ _ _)); (fail_if_success (with_reducible show wpAny _ _ (call (Value.builtin "str.split") _) _ _ _)); (fail_if_success (with_reducible show wpAny _ _ (compareOp CmpOp.NotEq (Value.ref _) (Value.ref _)) _ _ _)); (fail_if_success (with_reducible show TextPost _ _ _ _ _ _ _ _ _ _ _ _ _ _ _)); (fail_if_success (with_reducible show wpAny _ _ (exec (Stmt.If _ _ _ _) _) _ _ _)); (fail_if_success (with_reducible show wpAny _ _ (call (Value.builtin "len") _) _ _ _)); (fail_if_success (with_reducible show StarOf _ _ _ _ _ _)); (fail_if_success (with_reducible show wpAny _ _ (call (Value.builtin "list.append") _) _ _ _)); (fail_if_success (with_reducible show LCg.CompSrc _ _ _ _ _ _ _ _ _ _ _ _ _ _)); (fail_if_success (with_reducible show wpAny _ _ (call (Value.ref _) _) _ _ _)); (fail_if_success (with_reducible show wpAny _ _ (call (Value.builtin "str.join") _) _ _ _)); (fail_if_success (with_reducible show wpAny _ _ (subscriptTail _ _ _ _) _ _ _)); (fail_if_success (with_reducible show wpAny _ _ (exec (Stmt.Assign _ (Expr.ListComp _ _ _ _) _) _) _ _ _)); (fail_if_success (with_reducible show wpAny _ _ (pyIter _) _ _ _)); (fail_if_success (with_reducible show wpAny _ _ (exec (Stmt.While _ _ _ _) _) _ _ _)); (fail_if_success (with_reducible show wpAny _ _ (compareOp CmpOp.NotIn (Value.ref _) (Value.ref _)) _ _ _)); (fail_if_success (with_reducible show wpAny _ _ (exec (Stmt.For _ _ _ _ _) _) _ _ _)); (first | (k_unfold; (try dsimp only)) | (k_end; kc_close) | walk1 | (dsimp only; walk1) | (leave1; (try dsimp only)) | fail "no step")))
                  obtain ⟨i9, rfl, hup9⟩ := up_step hrok.tag.2.2 hup (bne_iff_ne.mp hne) hex
                  refine WhileStep.intro (n' := i9) (by k_asm) (cb_drop (by k_asm) (fun p hp => .tail _ (hJ1 _ (.tail _ hp)))) (by omega) ⟨rfl, ⟨_, tD, hup9, ?w0⟩, ?w1, ?w2, ?w3, ?w4⟩
                  case w0 => (repeat (first | exact if_pos rfl | assumption | refine (if_neg (by decide)).trans ?_))
                  case w1 => (repeat (first | exact if_pos rfl | assumption | refine (if_neg (by decide)).trans ?_))
                  case w2 => (repeat (first | exact if_pos rfl | assumption | refine (if_neg (by decide)).trans ?_))
                  case w3 => (repeat (first | exact if_pos rfl | assumption | refine (if_neg (by decide)).trans ?_))
                  case w4 => (repeat (first | exact if_pos rfl | assumption | refine (if_neg (by decide)).trans ?_))
          case after3 =>
            obtain ⟨rfl, tp, h5, tk5, m5, rfl, F5, N5, r1, r2, r3, r4⟩ := hf
            replace F5 := frK F5 r4
            replace F5 := frK (x := Str.ofString "rows") (v := .ref ra) F5 r3
            replace F5 := frK (x := Str.ofString "nearest") (v := .ref na) F5 r2
            replace F5 := frK (x := Str.ofString "place") (v := .str gB tp) F5 r1
            try dsimp only
            (repeat' ((fail_if_success (with_reducible show wpAny _ _ (exec (Stmt.Assign _ (Expr.BoolOp _ _ _) _) _) _ _ _)); (fail_if_success (with_reducible show BoolPost _ _ _ _ _ _ _ _ _)); (fail_if_success (with_reducible show SkipPost _ _ _ _ _ _ _)); (fail_if_success (with_reducible show LCt.CompSrcT _ _ _ _ _ _ _ _ _ _ _ _ _ _ _)); (fail_if_success (with_reducible show wpAny _ _ (exec (Stmt.Return _ _) _) _ _ _)); (fail_if_success (with_reducible show wpAny _ _ (eval (Expr.ListComp _ _ _ _) _) _ _ _)); (fail_if_success (with_reducible show wpAny _ _ (compareOp CmpOp.Eq (Value.ref _) (Value.ref _)) _ _ _)); (fail_if_success (with_reducible show wpAny _ _ (call (Value.builtin "str.split") _) _ _ _)); (fail_if_success (with_reducible show wpAny _ _ (compareOp CmpOp.NotEq (Value.ref _) (Value.ref _)) _ _ _)); (fail_if_success (with_reducible show TextPost _ _ _ _ _ _ _ _ _ _ _ _ _ _ _)); (fail_if_success (with_reducible show wpAny _ _ (exec (Stmt.If _ _ _ _) _) _ _ _)); (fail_if_success (with_reducible show wpAny _ _ (call (Value.builtin "len") _) _ _ _)); (fail_if_success (with_reducible show StarOf _ _ _ _ _ _)); (fail_if_success (with_reducible show wpAny _ _ (call (Value.builtin "list.append") _) _ _ _)); (fail_if_success (with_reducible show LCg.CompSrc _ _ _ _ _ _ _ _ _ _ _ _ _ _)); (fail_if_success (with_reducible show wpAny _ _ (call (Value.ref _) _) _ _ _)); (fail_if_success (with_reducible show wpAny _ _ (call (Value.builtin "str.join") _) _ _ _)); (fail_if_success (with_reducible show wpAny _ _ (subscriptTail _ _ _ _) _ _ _)); (fail_if_success (with_reducible show wpAny _ _ (exec (Stmt.Assign _ (Expr.ListComp _ _ _ _) _) _) _ _ _)); (fail_if_success (with_reducible show wpAny _ _ (pyIter _) _ _ _)); (fail_if_success (with_reducible show wpAny _ _ (exec (Stmt.While _ _ _ _) _) _ _ _)); (fail_if_success (with_reducible show wpAny _ _ (compareOp CmpOp.NotIn (Value.ref _) (Value.ref _)) _ _ _)); (fail_if_success (with_reducible show wpAny _ _ (exec (Stmt.For _ _ _ _ _) _) _ _ _)); (first | (k_unfold; (try dsimp only)) | (k_end; kc_close) | walk1 | (dsimp only; walk1) | (leave1; (try dsimp only)) | fail "no step")))
            walk1
            (repeat' ((fail_if_success (with_reducible show wpAny _ _ (exec (Stmt.Assign _ (Expr.BoolOp _ _ _) _) _) _ _ _)); (fail_if_success (with_reducible show BoolPost _ _ _ _ _ _ _ _ _)); (fail_if_success (with_reducible show SkipPost _ _ _ _ _ _ _)); (fail_if_success (with_reducible show LCt.CompSrcT _ _ _ _ _ _ _ _ _ _ _ _ _ _ _)); (fail_if_success (with_reducible show wpAny _ _ (exec (Stmt.Return _ _) _) _ _ _)); (fail_if_success (with_reducible show wpAny _ _ (eval (Expr.ListComp _ _ _ _) _) _ _ _)); (fail_if_success (with_reducible show wpAny _ _ (compareOp CmpOp.Eq (Value.ref _) (Value.ref _)) _ _ _)); (fail_if_success (with_reducible show wpAny _ _ (call (Value.builtin "str.split") _) _ _ _)); (fail_if_success (with_reducible show wpAny _ _ (compareOp CmpOp.NotEq (Value.ref _) (Value.ref _)) _ _ _)); (fail_if_success (with_reducible show TextPost _ _ _ _ _ _ _ _ _ _ _ _ _ _ _)); (fail_if_success (with_reducible show wpAny _ _ (exec (Stmt.If _ _ _ _) _) _ _ _)); (fail_if_success (with_reducible show wpAny _ _ (call (Value.builtin "len") _) _ _ _)); (fail_if_success (with_reducible show StarOf _ _ _ _ _ _)); (fail_if_success (with_reducible show wpAny _ _ (call (Value.builtin "list.append") _) _ _ _)); (fail_if_success (with_reducible show LCg.CompSrc _ _ _ _ _ _ _ _ _ _ _ _ _ _)); (fail_if_success (with_reducible show wpAny _ _ (call (Value.ref _) _) _ _ _)); (fail_if_success (with_reducible show wpAny _ _ (call (Value.builtin "str.join") _) _ _ _)); (fail_if_success (with_reducible show wpAny _ _ (subscriptTail _ _ _ _) _ _ _)); (fail_if_success (with_reducible show wpAny _ _ (exec (Stmt.Assign _ (Expr.ListComp _ _ _ _) _) _) _ _ _)); (fail_if_success (with_reducible show wpAny _ _ (pyIter _) _ _ _)); (fail_if_success (with_reducible show wpAny _ _ (exec (Stmt.While _ _ _ _) _) _ _ _)); (fail_if_success (with_reducible show wpAny _ _ (compareOp CmpOp.NotIn (Value.ref _) (Value.ref _)) _ _ _)); (fail_if_success (with_reducible show wpAny _ _ (exec (Stmt.For _ _ _ _ _) _) _ _ _)); (first | (k_unfold; (try dsimp only)) | (k_end; kc_close) | walk1 | (dsimp only; walk1) | (leave1; (try dsimp only)) | fail "no step")))
            have hnvl := hnv.len_eq
            have hnv3 : nv.length ≤ 3 := by
              rw [hnvl]
              exact bestT_le _ _ _ _ (fun b hb => names_le (hok b hb)) (Nat.zero_le _)
            k_dflt (refine' star_seq (T := "list") (o := lstO nv kn) (n := kn) (its := nv.toArray) (ws := nv) ?k1 ?k2 ?m rfl rfl (.inl rfl) rfl ?z ?_; (case k1 => k_asm); (case k2 => k_asm); (case m => k_mem); (case z => (rw [List.size_toArray]; exact Nat.le_trans hnv3 (by decide))); k_whole)
            intro hst5 Fst5 Nst5
            try dsimp only
            (repeat' ((fail_if_success (with_reducible show wpAny _ _ (exec (Stmt.Assign _ (Expr.BoolOp _ _ _) _) _) _ _ _)); (fail_if_success (with_reducible show BoolPost _ _ _ _ _ _ _ _ _)); (fail_if_success (with_reducible show SkipPost _ _ _ _ _ _ _)); (fail_if_success (with_reducible show LCt.CompSrcT _ _ _ _ _ _ _ _ _ _ _ _ _ _ _)); (fail_if_success (with_reducible show wpAny _ _ (exec (Stmt.Return _ _) _) _ _ _)); (fail_if_success (with_reducible show wpAny _ _ (eval (Expr.ListComp _ _ _ _) _) _ _ _)); (fail_if_success (with_reducible show wpAny _ _ (compareOp CmpOp.Eq (Value.ref _) (Value.ref _)) _ _ _)); (fail_if_success (with_reducible show wpAny _ _ (call (Value.builtin "str.split") _) _ _ _)); (fail_if_success (with_reducible show wpAny _ _ (compareOp CmpOp.NotEq (Value.ref _) (Value.ref _)) _ _ _)); (fail_if_success (with_reducible show TextPost _ _ _ _ _ _ _ _ _ _ _ _ _ _ _)); (fail_if_success (with_reducible show wpAny _ _ (exec (Stmt.If _ _ _ _) _) _ _ _)); (fail_if_success (with_reducible show wpAny _ _ (call (Value.builtin "len") _) _ _ _)); (fail_if_success (with_reducible show StarOf _ _ _ _ _ _)); (fail_if_success (with_reducible show wpAny _ _ (call (Value.builtin "list.append") _) _ _ _)); (fail_if_success (with_reducible show LCg.CompSrc _ _ _ _ _ _ _ _ _ _ _ _ _ _)); (fail_if_success (with_reducible show wpAny _ _ (call (Value.ref _) _) _ _ _)); (fail_if_success (with_reducible show wpAny _ _ (call (Value.builtin "str.join") _) _ _ _)); (fail_if_success (with_reducible show wpAny _ _ (subscriptTail _ _ _ _) _ _ _)); (fail_if_success (with_reducible show wpAny _ _ (exec (Stmt.Assign _ (Expr.ListComp _ _ _ _) _) _) _ _ _)); (fail_if_success (with_reducible show wpAny _ _ (pyIter _) _ _ _)); (fail_if_success (with_reducible show wpAny _ _ (exec (Stmt.While _ _ _ _) _) _ _ _)); (fail_if_success (with_reducible show wpAny _ _ (compareOp CmpOp.NotIn (Value.ref _) (Value.ref _)) _ _ _)); (fail_if_success (with_reducible show wpAny _ _ (exec (Stmt.For _ _ _ _ _) _) _ _ _)); (first | (k_unfold; (try dsimp only)) | (k_end; kc_close) | walk1 | (dsimp only; walk1) | (leave1; (try dsimp only)) | fail "no step")))
            have hnv' : StrsAre (nv ++ []) (bestT r.cs r.tag rs []) := by rw [List.append_nil]; exact hnv
            k_dflt (refine' CtrV.use (join_c _ _ _ _ _ hnv' (by rw [List.append_nil]; omega) (by decide) (by decide) (good_names' (best_good hrok.tag.2.2))) ?k1 ?k2 ?k3 ?k4 ?k5 ?kK ?kd ?ku ?kp ?_; (case k1 => k_asm); (case k2 => k_asm); (case k3 => k_asm); (case k4 => k_asm); (case k5 => k_asm); (case kK => exact rfl); (case kd => ktr_room); (case ku => ktr_units); (case kp => first | trivial | k_mem | assumption); k_whole)
            intro v7 h7 tk7 F7 N7 hp7
            obtain ⟨tPl7, hv7⟩ := hp7
            replace hv7 : v7 = Value.str (goalT (bestT r.cs r.tag rs [])) tPl7 := hv7
            rw [← hgB] at hv7
            subst hv7
            try dsimp only
            (repeat' ((fail_if_success (with_reducible show wpAny _ _ (exec (Stmt.Assign _ (Expr.BoolOp _ _ _) _) _) _ _ _)); (fail_if_success (with_reducible show BoolPost _ _ _ _ _ _ _ _ _)); (fail_if_success (with_reducible show SkipPost _ _ _ _ _ _ _)); (fail_if_success (with_reducible show LCt.CompSrcT _ _ _ _ _ _ _ _ _ _ _ _ _ _ _)); (fail_if_success (with_reducible show wpAny _ _ (exec (Stmt.Return _ _) _) _ _ _)); (fail_if_success (with_reducible show wpAny _ _ (eval (Expr.ListComp _ _ _ _) _) _ _ _)); (fail_if_success (with_reducible show wpAny _ _ (compareOp CmpOp.Eq (Value.ref _) (Value.ref _)) _ _ _)); (fail_if_success (with_reducible show wpAny _ _ (call (Value.builtin "str.split") _) _ _ _)); (fail_if_success (with_reducible show wpAny _ _ (compareOp CmpOp.NotEq (Value.ref _) (Value.ref _)) _ _ _)); (fail_if_success (with_reducible show TextPost _ _ _ _ _ _ _ _ _ _ _ _ _ _ _)); (fail_if_success (with_reducible show wpAny _ _ (exec (Stmt.If _ _ _ _) _) _ _ _)); (fail_if_success (with_reducible show wpAny _ _ (call (Value.builtin "len") _) _ _ _)); (fail_if_success (with_reducible show StarOf _ _ _ _ _ _)); (fail_if_success (with_reducible show wpAny _ _ (call (Value.builtin "list.append") _) _ _ _)); (fail_if_success (with_reducible show LCg.CompSrc _ _ _ _ _ _ _ _ _ _ _ _ _ _)); (fail_if_success (with_reducible show wpAny _ _ (call (Value.ref _) _) _ _ _)); (fail_if_success (with_reducible show wpAny _ _ (call (Value.builtin "str.join") _) _ _ _)); (fail_if_success (with_reducible show wpAny _ _ (subscriptTail _ _ _ _) _ _ _)); (fail_if_success (with_reducible show wpAny _ _ (exec (Stmt.Assign _ (Expr.ListComp _ _ _ _) _) _) _ _ _)); (fail_if_success (with_reducible show wpAny _ _ (pyIter _) _ _ _)); (fail_if_success (with_reducible show wpAny _ _ (exec (Stmt.While _ _ _ _) _) _ _ _)); (fail_if_success (with_reducible show wpAny _ _ (compareOp CmpOp.NotIn (Value.ref _) (Value.ref _)) _ _ _)); (fail_if_success (with_reducible show wpAny _ _ (exec (Stmt.For _ _ _ _ _) _) _ _ _)); (first | (k_unfold; (try dsimp only)) | (k_end; kc_close) | walk1 | (dsimp only; walk1) | (leave1; (try dsimp only)) | fail "no step")))
            refine unrW_end F7 N7 ((s₁.heap.objs.size + 1 + 1 + 1, oV3) :: tailX) (fun p hp => backY p hp) ?offE (hR₁ _ _ ⟨trivial, IH _ _ ⟨⟨oV3, _, rfl, dV3⟩, ?w0, ?w1⟩⟩)
            case offE =>
              intro p hp q hq
              rw [List.mem_singleton.mp hq]
              rcases List.mem_cons.mp hp with rfl | hp
              · exact Nat.ne_of_lt J3
              · exact of3J p hp
            case w0 => (repeat (first | exact if_pos rfl | assumption | refine (if_neg (by decide)).trans ?_))
            case w1 => (repeat (first | exact if_pos rfl | assumption | refine (if_neg (by decide)).trans ?_))
        -- D3 END
        case turn3 =>
          rintro v9 r9 m₃ news₃ ⟨⟨dn, rest, na, nv, kn, hrs, hr9, hmn, hna, hnv⟩, rfl, q1, q2, q3, q4, q5, q6, q7⟩ IH3
          cases hr9
          rename_i a rest hRA hr9
          obtain ⟨R, tR1, Nm, tR2, P, vNm, p1, p2, nR1, nR2, nR3, rfl, hR, hNm, hvNm, hP, ⟨vp1, kp1, hp1, hpa1⟩, ⟨vp2, kp2, hp2, hpa2⟩⟩ := hRA
          have haok : RowOk a := hok a (by rw [hrs]; exact List.mem_append_right _ (.head _))
          refine ItemsRest.val (fun h₃ tk₃ F₃ => AllObj.cons fun oK hoK => AllObj.nil fun N₃ => ?_)
          refine abs_post (fun R₁ Q₁ hR₁ => ?_)
          replace F₃ := frK F₃ q1
          replace F₃ := frK (x := Str.ofString "ranges") (v := .ref ga) F₃ q2
          replace F₃ := frK (x := Str.ofString "kind") (v := .int r.kind t1) F₃ q3
          replace F₃ := frK (x := Str.ofString "charset") (v := .str r.cs t2) F₃ q4
          replace F₃ := frK (x := Str.ofString "tag") (v := .ref G) F₃ q5
          replace F₃ := frK (x := Str.ofString "parts") (v := .ref rP) F₃ q6
          replace F₃ := frK (x := Str.ofString "place") (v := .str pT tPl) F₃ q7
          replace F₃ := frK (x := Str.ofString "nearest") (v := .ref na) F₃ hmn
          refine fold_map F₃ ?_
          clear F₃
          intro mF F₃
          simp only [List.cons_append, List.nil_append] at N₃
          have hag : ∀ b ∈ a.names, GoodN b := by
            obtain ⟨j, _, e⟩ := haok.names
            rw [e]; exact take_good haok.tag.2.2 j
          have hal : a.names.length ≤ 3 := by
            obtain ⟨j, _, e⟩ := haok.names
            rw [e]; exact take_le3 haok.tag.2.1 j
          have hNl := hvNm.len_eq
          obtain ⟨hg1, hg2, hg3⟩ := pl_goal' hag hal
          obtain ⟨hg4, hg5, hg6⟩ := pl_goal' hrok.tag.2.2 hrok.tag.2.1
          have hcm := pl_common' hag hrok.tag.2.2
          rw [← hpT] at hg4 hg5 hg6 hcm
          obtain ⟨gT, hgT⟩ := str_name (goalT a.names)
          rw [← hgT] at hR hg1 hg2 hg3 hcm
          -- TURN3 BEGIN
          obtain ⟨b, hb⟩ : ∃ b, decide (a.cs = r.cs ∧ r.tag.take a.names.length = a.names) = b := ⟨_, rfl⟩
          obtain ⟨t1, ht1⟩ : ∃ b, decide (a.cs = r.cs ∧ a.names = r.tag) = b := ⟨_, rfl⟩
          obtain ⟨t2, ht2⟩ : ∃ b, decide (a.cs = r.cs ∧ r.tag.take a.names.length = a.names ∧ a.names ≠ r.tag) = b := ⟨_, rfl⟩
          have hones := ones_told ht1 ht2 hb
          have hpat1 : PatAt st news₃ (r.cs ++ Str.ofString "'" ++ Txt.join (Str.ofString "-") r.tag ++ Str.ofString "'" ++ text) (.ref p1) t1 := ⟨p1, vp1, kp1, toks1 a, rfl, hp1, hpa1, (toks1_ok haok).1, (toks1_ok haok).2, (pl_takes1' text haok hrok).trans ht1⟩
          have hpat2 : PatAt st news₃ (r.cs ++ Str.ofString "'" ++ Txt.join (Str.ofString "-") r.tag ++ Str.ofString "'" ++ text) (.ref p2) t2 := ⟨p2, vp2, kp2, toks2 a, rfl, hp2, hpa2, (toks2_ok haok).1, (toks2_ok haok).2, (pl_takes2' text haok hrok).trans ht2⟩
          have hnvl := hnv.len_eq
          have hnv3 : nv.length ≤ 3 := by
            rw [hnvl]
            exact bestT_le _ _ _ _ (fun b hb => names_le (hok b (by rw [hrs]; exact List.mem_append_left _ hb))) (Nat.zero_le _)
          (repeat' ((fail_if_success (with_reducible show wpAny _ _ (exec (Stmt.Assign _ (Expr.BoolOp _ _ _) _) _) _ _ _)); (fail_if_success (with_reducible show BoolPost _ _ _ _ _ _ _ _ _)); (fail_if_success (with_reducible show SkipPost _ _ _ _ _ _ _)); (fail_if_success (with_reducible show LCt.CompSrcT _ _ _ _ _ _ _ _ _ _ _ _ _ _ _)); (fail_if_success (with_reducible show wpAny _ _ (exec (Stmt.Return _ _) _) _ _ _)); (fail_if_success (with_reducible show wpAny _ _ (eval (Expr.ListComp _ _ _ _) _) _ _ _)); (fail_if_success (with_reducible show wpAny _ _ (compareOp CmpOp.Eq (Value.ref _) (Value.ref _)) _ _ _)); (fail_if_success (with_reducible show wpAny _ _ (call (Value.builtin "str.split") _) _ _ _)); (fail_if_success (with_reducible show wpAny _ _ (compareOp CmpOp.NotEq (Value.ref _) (Value.ref _)) _ _ _)); (fail_if_success (with_reducible show TextPost _ _ _ _ _ _ _ _ _ _ _ _ _ _ _)); (fail_if_success (with_reducible show wpAny _ _ (exec (Stmt.If _ _ _ _) _) _ _ _)); (fail_if_success (with_reducible show wpAny _ _ (call (Value.builtin "len") _) _ _ _)); (fail_if_success (with_reducible show StarOf _ _ _ _ _ _)); (fail_if_success (with_reducible show wpAny _ _ (call (Value.builtin "list.append") _) _ _ _)); (fail_if_success (with_reducible show LCg.CompSrc _ _ _ _ _ _ _ _ _ _ _ _ _ _)); (fail_if_success (with_reducible show wpAny _ _ (call (Value.ref _) _) _ _ _)); (fail_if_success (with_reducible show wpAny _ _ (call (Value.builtin "str.join") _) _ _ _)); (fail_if_success (with_reducible show wpAny _ _ (subscriptTail _ _ _ _) _ _ _)); (fail_if_success (with_reducible show wpAny _ _ (exec (Stmt.Assign _ (Expr.ListComp _ _ _ _) _) _) _ _ _)); (fail_if_success (with_reducible show wpAny _ _ (pyIter _) _ _ _)); (fail_if_success (with_reducible show wpAny _ _ (exec (Stmt.While _ _ _ _) _) _ _ _)); (fail_if_success (with_reducible show wpAny _ _ (compareOp CmpOp.NotIn (Value.ref _) (Value.ref _)) _ _ _)); (fail_if_success (with_reducible show wpAny _ _ (exec (Stmt.For _ _ _ _ _) _) _ _ _)); (first | (k_unfold; (try dsimp only)) | (k_end; kc_close) | walk1 | (dsimp only; walk1) | (leave1; (try dsimp only)) | fail "no step")))
          refine join_bool (Str.ofString "told") b (by k_asm) (by k_asm) ?s1 (fun hB4 tkB4 FB4 NB4 => ?_)
          case s1 =>
            walk1
            rcases Decidable.em (a.cs = r.cs) with hcA | hcA
            · have hcs1 : (a.cs == r.cs) = true := by rw [hcA]; exact beq_self_eq_true _
              have hb' : decide (r.tag.take a.names.length = a.names) = b := by rw [← hb]; exact decide_eq_decide.mpr ⟨fun h => ⟨hcA, h⟩, fun h => h.2⟩
              (repeat' ((fail_if_success (with_reducible show wpAny _ _ (exec (Stmt.Assign _ (Expr.BoolOp _ _ _) _) _) _ _ _)); (fail_if_success (with_reducible show BoolPost _ _ _ _ _ _ _ _ _)); (fail_if_success (with_reducible show SkipPost _ _ _ _ _ _ _)); (fail_if_success (with_reducible show LCt.CompSrcT _ _ _ _ _ _ _ _ _ _ _ _ _ _ _)); (fail_if_success (with_reducible show wpAny _ _ (exec (Stmt.Return _ _) _) _ _ _)); (fail_if_success (with_reducible show wpAny _ _ (eval (Expr.ListComp _ _ _ _) _) _ _ _)); (fail_if_success (with_reducible show wpAny _ _ (compareOp CmpOp.Eq (Value.ref _) (Value.ref _)) _ _ _)); (fail_if_success (with_reducible show wpAny _ _ (call (Value.builtin "str.split") _) _ _ _)); (fail_if_success (with_reducible show wpAny _ _ (compareOp CmpOp.NotEq (Value.ref _) (Value.ref _)) _ _ _)); (fail_if_success (with_reducible show TextPost _ _ _ _ _ _ _ _ _ _ _ _ _ _ _)); (fail_if_success (with_reducible show wpAny _ _ (exec (Stmt.If _ _ _ _) _) _ _ _)); (fail_if_success (with_reducible show wpAny _ _ (call (Value.builtin "len") _) _ _ _)); (fail_if_success (with_reducible show StarOf _ _ _ _ _ _)); (fail_if_success (with_reducible show wpAny _ _ (call (Value.builtin "list.append") _) _ _ _)); (fail_if_success (with_reducible show LCg.CompSrc _ _ _ _ _ _ _ _ _ _ _ _ _ _)); (fail_if_success (with_reducible show wpAny _ _ (call (Value.ref _) _) _ _ _)); (fail_if_success (with_reducible show wpAny _ _ (call (Value.builtin "str.join") _) _ _ _)); (fail_if_success (with_reducible show wpAny _ _ (subscriptTail _ _ _ _) _ _ _)); (fail_if_success (with_reducible show wpAny _ _ (exec (Stmt.Assign _ (Expr.ListComp _ _ _ _) _) _) _ _ _)); (fail_if_success (with_reducible show wpAny _ _ (pyIter _) _ _ _)); (fail_if_success (with_reducible show wpAny _ _ (exec (Stmt.While _ _ _ _) _) _ _ _)); (fail_if_success (with_reducible show wpAny _ _ (compareOp CmpOp.NotIn (Value.ref _) (Value.ref _)) _ _ _)); (fail_if_success (with_reducible show wpAny _ _ (exec (Stmt.For _ _ _ _ _) _) _ _ _)); (first | (k_unfold; (try dsimp only)) | (k_end; kc_close) | walk1 | (dsimp only; walk1) | (leave1; (try dsimp only)) | fail "no step")))
              refine len_L (by k_asm) (by k_mem) (by omega) (fun tl3 tkl3 => ?_)
              (repeat' ((fail_if_success (with_reducible show wpAny _ _ (exec (Stmt.Assign _ (Expr.BoolOp _ _ _) _) _) _ _ _)); (fail_if_success (with_reducible show BoolPost _ _ _ _ _ _ _ _ _)); (fail_if_success (with_reducible show SkipPost _ _ _ _ _ _ _)); (fail_if_success (with_reducible show LCt.CompSrcT _ _ _ _ _ _ _ _ _ _ _ _ _ _ _)); (fail_if_success (with_reducible show wpAny _ _ (exec (Stmt.Return _ _) _) _ _ _)); (fail_if_success (with_reducible show wpAny _ _ (eval (Expr.ListComp _ _ _ _) _) _ _ _)); (fail_if_success (with_reducible show wpAny _ _ (compareOp CmpOp.Eq (Value.ref _) (Value.ref _)) _ _ _)); (fail_if_success (with_reducible show wpAny _ _ (call (Value.builtin "str.split") _) _ _ _)); (fail_if_success (with_reducible show wpAny _ _ (compareOp CmpOp.NotEq (Value.ref _) (Value.ref _)) _ _ _)); (fail_if_success (with_reducible show TextPost _ _ _ _ _ _ _ _ _ _ _ _ _ _ _)); (fail_if_success (with_reducible show wpAny _ _ (exec (Stmt.If _ _ _ _) _) _ _ _)); (fail_if_success (with_reducible show wpAny _ _ (call (Value.builtin "len") _) _ _ _)); (fail_if_success (with_reducible show StarOf _ _ _ _ _ _)); (fail_if_success (with_reducible show wpAny _ _ (call (Value.builtin "list.append") _) _ _ _)); (fail_if_success (with_reducible show LCg.CompSrc _ _ _ _ _ _ _ _ _ _ _ _ _ _)); (fail_if_success (with_reducible show wpAny _ _ (call (Value.ref _) _) _ _ _)); (fail_if_success (with_reducible show wpAny _ _ (call (Value.builtin "str.join") _) _ _ _)); (fail_if_success (with_reducible show wpAny _ _ (subscriptTail _ _ _ _) _ _ _)); (fail_if_success (with_reducible show wpAny _ _ (exec (Stmt.Assign _ (Expr.ListComp _ _ _ _) _) _) _ _ _)); (fail_if_success (with_reducible show wpAny _ _ (pyIter _) _ _ _)); (fail_if_success (with_reducible show wpAny _ _ (exec (Stmt.While _ _ _ _) _) _ _ _)); (fail_if_success (with_reducible show wpAny _ _ (compareOp CmpOp.NotIn (Value.ref _) (Value.ref _)) _ _ _)); (fail_if_success (with_reducible show wpAny _ _ (exec (Stmt.For _ _ _ _ _) _) _ _ _)); (first | (k_unfold; (try dsimp only)) | (k_end; kc_close) | walk1 | (dsimp only; walk1) | (leave1; (try dsimp only)) | fail "no step")))
              have hzG := hvG.len_eq
              refine slice_L2 (s := ⟨_, _, _, _, _⟩) (by k_asm) (by k_asm) (by k_mem) (by exact Nat.le_trans (by omega : vG.length ≤ 3) (by decide)) (fun rT hT3 FT3 NT3 lT3 => ?_)
              k_lt lT3
              try dsimp only
              (repeat' ((fail_if_success (with_reducible show wpAny _ _ (exec (Stmt.Assign _ (Expr.BoolOp _ _ _) _) _) _ _ _)); (fail_if_success (with_reducible show BoolPost _ _ _ _ _ _ _ _ _)); (fail_if_success (with_reducible show SkipPost _ _ _ _ _ _ _)); (fail_if_success (with_reducible show LCt.CompSrcT _ _ _ _ _ _ _ _ _ _ _ _ _ _ _)); (fail_if_success (with_reducible show wpAny _ _ (exec (Stmt.Return _ _) _) _ _ _)); (fail_if_success (with_reducible show wpAny _ _ (eval (Expr.ListComp _ _ _ _) _) _ _ _)); (fail_if_success (with_reducible show wpAny _ _ (compareOp CmpOp.Eq (Value.ref _) (Value.ref _)) _ _ _)); (fail_if_success (with_reducible show wpAny _ _ (call (Value.builtin "str.split") _) _ _ _)); (fail_if_success (with_reducible show wpAny _ _ (compareOp CmpOp.NotEq (Value.ref _) (Value.ref _)) _ _ _)); (fail_if_success (with_reducible show TextPost _ _ _ _ _ _ _ _ _ _ _ _ _ _ _)); (fail_if_success (with_reducible show wpAny _ _ (exec (Stmt.If _ _ _ _) _) _ _ _)); (fail_if_success (with_reducible show wpAny _ _ (call (Value.builtin "len") _) _ _ _)); (fail_if_success (with_reducible show StarOf _ _ _ _ _ _)); (fail_if_success (with_reducible show wpAny _ _ (call (Value.builtin "list.append") _) _ _ _)); (fail_if_success (with_reducible show LCg.CompSrc _ _ _ _ _ _ _ _ _ _ _ _ _ _)); (fail_if_success (with_reducible show wpAny _ _ (call (Value.ref _) _) _ _ _)); (fail_if_success (with_reducible show wpAny _ _ (call (Value.builtin "str.join") _) _ _ _)); (fail_if_success (with_reducible show wpAny _ _ (subscriptTail _ _ _ _) _ _ _)); (fail_if_success (with_reducible show wpAny _ _ (exec (Stmt.Assign _ (Expr.ListComp _ _ _ _) _) _) _ _ _)); (fail_if_success (with_reducible show wpAny _ _ (pyIter _) _ _ _)); (fail_if_success (with_reducible show wpAny _ _ (exec (Stmt.While _ _ _ _) _) _ _ _)); (fail_if_success (with_reducible show wpAny _ _ (compareOp CmpOp.NotIn (Value.ref _) (Value.ref _)) _ _ _)); (fail_if_success (with_reducible show wpAny _ _ (exec (Stmt.For _ _ _ _ _) _) _ _ _)); (first | (k_unfold; (try dsimp only)) | (k_end; kc_close) | walk1 | (dsimp only; walk1) | (leave1; (try dsimp only)) | fail "no step")))
              refine eq_to_L hb' (by k_asm) (by k_mem) (by k_mem) (by rw [← hNl]; exact hvG.take' _) hvNm (fun x hx => good_ok (hrok.tag.2.2 x (List.mem_of_mem_take hx))) (fun x hx => good_ok (hag x hx)) (by ke_room) ?_
              (repeat' ((fail_if_success (with_reducible show wpAny _ _ (exec (Stmt.Assign _ (Expr.BoolOp _ _ _) _) _) _ _ _)); (fail_if_success (with_reducible show BoolPost _ _ _ _ _ _ _ _ _)); (fail_if_success (with_reducible show SkipPost _ _ _ _ _ _ _)); (fail_if_success (with_reducible show LCt.CompSrcT _ _ _ _ _ _ _ _ _ _ _ _ _ _ _)); (fail_if_success (with_reducible show wpAny _ _ (exec (Stmt.Return _ _) _) _ _ _)); (fail_if_success (with_reducible show wpAny _ _ (eval (Expr.ListComp _ _ _ _) _) _ _ _)); (fail_if_success (with_reducible show wpAny _ _ (compareOp CmpOp.Eq (Value.ref _) (Value.ref _)) _ _ _)); (fail_if_success (with_reducible show wpAny _ _ (call (Value.builtin "str.split") _) _ _ _)); (fail_if_success (with_reducible show wpAny _ _ (compareOp CmpOp.NotEq (Value.ref _) (Value.ref _)) _ _ _)); (fail_if_success (with_reducible show TextPost _ _ _ _ _ _ _ _ _ _ _ _ _ _ _)); (fail_if_success (with_reducible show wpAny _ _ (exec (Stmt.If _ _ _ _) _) _ _ _)); (fail_if_success (with_reducible show wpAny _ _ (call (Value.builtin "len") _) _ _ _)); (fail_if_success (with_reducible show StarOf _ _ _ _ _ _)); (fail_if_success (with_reducible show wpAny _ _ (call (Value.builtin "list.append") _) _ _ _)); (fail_if_success (with_reducible show LCg.CompSrc _ _ _ _ _ _ _ _ _ _ _ _ _ _)); (fail_if_success (with_reducible show wpAny _ _ (call (Value.ref _) _) _ _ _)); (fail_if_success (with_reducible show wpAny _ _ (call (Value.builtin "str.join") _) _ _ _)); (fail_if_success (with_reducible show wpAny _ _ (subscriptTail _ _ _ _) _ _ _)); (fail_if_success (with_reducible show wpAny _ _ (exec (Stmt.Assign _ (Expr.ListComp _ _ _ _) _) _) _ _ _)); (fail_if_success (with_reducible show wpAny _ _ (pyIter _) _ _ _)); (fail_if_success (with_reducible show wpAny _ _ (exec (Stmt.While _ _ _ _) _) _ _ _)); (fail_if_success (with_reducible show wpAny _ _ (compareOp CmpOp.NotIn (Value.ref _) (Value.ref _)) _ _ _)); (fail_if_success (with_reducible show wpAny _ _ (exec (Stmt.For _ _ _ _ _) _) _ _ _)); (first | (k_unfold; (try dsimp only)) | (k_end; kc_close) | walk1 | (dsimp only; walk1) | (leave1; (try dsimp only)) | fail "no step")))
              exact BoolPost.intro (by k_asm) (by k_asm) (fun p hp => .tail _ hp)
            · have hcs1 : (a.cs == r.cs) = false := beq_eq_false_iff_ne.mpr hcA
              have hbf : b = false := hb.symm.trans (decide_eq_false fun h => hcA h.1)
              subst hbf
              (repeat' ((fail_if_success (with_reducible show wpAny _ _ (exec (Stmt.Assign _ (Expr.BoolOp _ _ _) _) _) _ _ _)); (fail_if_success (with_reducible show BoolPost _ _ _ _ _ _ _ _ _)); (fail_if_success (with_reducible show SkipPost _ _ _ _ _ _ _)); (fail_if_success (with_reducible show LCt.CompSrcT _ _ _ _ _ _ _ _ _ _ _ _ _ _ _)); (fail_if_success (with_reducible show wpAny _ _ (exec (Stmt.Return _ _) _) _ _ _)); (fail_if_success (with_reducible show wpAny _ _ (eval (Expr.ListComp _ _ _ _) _) _ _ _)); (fail_if_success (with_reducible show wpAny _ _ (compareOp CmpOp.Eq (Value.ref _) (Value.ref _)) _ _ _)); (fail_if_success (with_reducible show wpAny _ _ (call (Value.builtin "str.split") _) _ _ _)); (fail_if_success (with_reducible show wpAny _ _ (compareOp CmpOp.NotEq (Value.ref _) (Value.ref _)) _ _ _)); (fail_if_success (with_reducible show TextPost _ _ _ _ _ _ _ _ _ _ _ _ _ _ _)); (fail_if_success (with_reducible show wpAny _ _ (exec (Stmt.If _ _ _ _) _) _ _ _)); (fail_if_success (with_reducible show wpAny _ _ (call (Value.builtin "len") _) _ _ _)); (fail_if_success (with_reducible show StarOf _ _ _ _ _ _)); (fail_if_success (with_reducible show wpAny _ _ (call (Value.builtin "list.append") _) _ _ _)); (fail_if_success (with_reducible show LCg.CompSrc _ _ _ _ _ _ _ _ _ _ _ _ _ _)); (fail_if_success (with_reducible show wpAny _ _ (call (Value.ref _) _) _ _ _)); (fail_if_success (with_reducible show wpAny _ _ (call (Value.builtin "str.join") _) _ _ _)); (fail_if_success (with_reducible show wpAny _ _ (subscriptTail _ _ _ _) _ _ _)); (fail_if_success (with_reducible show wpAny _ _ (exec (Stmt.Assign _ (Expr.ListComp _ _ _ _) _) _) _ _ _)); (fail_if_success (with_reducible show wpAny _ _ (pyIter _) _ _ _)); (fail_if_success (with_reducible show wpAny _ _ (exec (Stmt.While _ _ _ _) _) _ _ _)); (fail_if_success (with_reducible show wpAny _ _ (compareOp CmpOp.NotIn (Value.ref _) (Value.ref _)) _ _ _)); (fail_if_success (with_reducible show wpAny _ _ (exec (Stmt.For _ _ _ _ _) _) _ _ _)); (first | (k_unfold; (try dsimp only)) | (k_end; kc_close) | walk1 | (dsimp only; walk1) | (leave1; (try dsimp only)) | fail "no step")))
              exact BoolPost.intro (by k_asm) (by k_asm) (fun p hp => hp)
          try dsimp only
          (repeat' ((fail_if_success (with_reducible show wpAny _ _ (exec (Stmt.Assign _ (Expr.BoolOp _ _ _) _) _) _ _ _)); (fail_if_success (with_reducible show BoolPost _ _ _ _ _ _ _ _ _)); (fail_if_success (with_reducible show SkipPost _ _ _ _ _ _ _)); (fail_if_success (with_reducible show LCt.CompSrcT _ _ _ _ _ _ _ _ _ _ _ _ _ _ _)); (fail_if_success (with_reducible show wpAny _ _ (exec (Stmt.Return _ _) _) _ _ _)); (fail_if_success (with_reducible show wpAny _ _ (eval (Expr.ListComp _ _ _ _) _) _ _ _)); (fail_if_success (with_reducible show wpAny _ _ (compareOp CmpOp.Eq (Value.ref _) (Value.ref _)) _ _ _)); (fail_if_success (with_reducible show wpAny _ _ (call (Value.builtin "str.split") _) _ _ _)); (fail_if_success (with_reducible show wpAny _ _ (compareOp CmpOp.NotEq (Value.ref _) (Value.ref _)) _ _ _)); (fail_if_success (with_reducible show TextPost _ _ _ _ _ _ _ _ _ _ _ _ _ _ _)); (fail_if_success (with_reducible show wpAny _ _ (exec (Stmt.If _ _ _ _) _) _ _ _)); (fail_if_success (with_reducible show wpAny _ _ (call (Value.builtin "len") _) _ _ _)); (fail_if_success (with_reducible show StarOf _ _ _ _ _ _)); (fail_if_success (with_reducible show wpAny _ _ (call (Value.builtin "list.append") _) _ _ _)); (fail_if_success (with_reducible show LCg.CompSrc _ _ _ _ _ _ _ _ _ _ _ _ _ _)); (fail_if_success (with_reducible show wpAny _ _ (call (Value.ref _) _) _ _ _)); (fail_if_success (with_reducible show wpAny _ _ (call (Value.builtin "str.join") _) _ _ _)); (fail_if_success (with_reducible show wpAny _ _ (subscriptTail _ _ _ _) _ _ _)); (fail_if_success (with_reducible show wpAny _ _ (exec (Stmt.Assign _ (Expr.ListComp _ _ _ _) _) _) _ _ _)); (fail_if_success (with_reducible show wpAny _ _ (pyIter _) _ _ _)); (fail_if_success (with_reducible show wpAny _ _ (exec (Stmt.While _ _ _ _) _) _ _ _)); (fail_if_success (with_reducible show wpAny _ _ (compareOp CmpOp.NotIn (Value.ref _) (Value.ref _)) _ _ _)); (fail_if_success (with_reducible show wpAny _ _ (exec (Stmt.For _ _ _ _ _) _) _ _ _)); (first | (k_unfold; (try dsimp only)) | (k_end; kc_close) | walk1 | (dsimp only; walk1) | (leave1; (try dsimp only)) | fail "no step")))
          refine join_skip (by k_asm) (by k_asm) ?s2 (fun hB5 tkB5 FB5 NB5 => ?_)
          case s2 =>
            walk1
            (repeat' ((fail_if_success (with_reducible show wpAny _ _ (exec (Stmt.Assign _ (Expr.BoolOp _ _ _) _) _) _ _ _)); (fail_if_success (with_reducible show BoolPost _ _ _ _ _ _ _ _ _)); (fail_if_success (with_reducible show SkipPost _ _ _ _ _ _ _)); (fail_if_success (with_reducible show LCt.CompSrcT _ _ _ _ _ _ _ _ _ _ _ _ _ _ _)); (fail_if_success (with_reducible show wpAny _ _ (exec (Stmt.Return _ _) _) _ _ _)); (fail_if_success (with_reducible show wpAny _ _ (eval (Expr.ListComp _ _ _ _) _) _ _ _)); (fail_if_success (with_reducible show wpAny _ _ (compareOp CmpOp.Eq (Value.ref _) (Value.ref _)) _ _ _)); (fail_if_success (with_reducible show wpAny _ _ (call (Value.builtin "str.split") _) _ _ _)); (fail_if_success (with_reducible show wpAny _ _ (compareOp CmpOp.NotEq (Value.ref _) (Value.ref _)) _ _ _)); (fail_if_success (with_reducible show TextPost _ _ _ _ _ _ _ _ _ _ _ _ _ _ _)); (fail_if_success (with_reducible show wpAny _ _ (exec (Stmt.If _ _ _ _) _) _ _ _)); (fail_if_success (with_reducible show wpAny _ _ (call (Value.builtin "len") _) _ _ _)); (fail_if_success (with_reducible show StarOf _ _ _ _ _ _)); (fail_if_success (with_reducible show wpAny _ _ (call (Value.builtin "list.append") _) _ _ _)); (fail_if_success (with_reducible show LCg.CompSrc _ _ _ _ _ _ _ _ _ _ _ _ _ _)); (fail_if_success (with_reducible show wpAny _ _ (call (Value.ref _) _) _ _ _)); (fail_if_success (with_reducible show wpAny _ _ (call (Value.builtin "str.join") _) _ _ _)); (fail_if_success (with_reducible show wpAny _ _ (subscriptTail _ _ _ _) _ _ _)); (fail_if_success (with_reducible show wpAny _ _ (exec (Stmt.Assign _ (Expr.ListComp _ _ _ _) _) _) _ _ _)); (fail_if_success (with_reducible show wpAny _ _ (pyIter _) _ _ _)); (fail_if_success (with_reducible show wpAny _ _ (exec (Stmt.While _ _ _ _) _) _ _ _)); (fail_if_success (with_reducible show wpAny _ _ (compareOp CmpOp.NotIn (Value.ref _) (Value.ref _)) _ _ _)); (fail_if_success (with_reducible show wpAny _ _ (exec (Stmt.For _ _ _ _ _) _) _ _ _)); (first | (k_unfold; (try dsimp only)) | (k_end; kc_close) | walk1 | (dsimp only; walk1) | (leave1; (try dsimp only)) | fail "no step")))
            k_dflt (refine' CtrV.use (comm_c _ gT pT _ _ _ _ hg1 hg4 hg2 hg5) ?k1 ?k2 ?k3 ?k4 ?k5 ?kK ?kd ?ku ?kp ?_; (case k1 => k_asm); (case k2 => k_asm); (case k3 => k_asm); (case k4 => k_asm); (case k5 => k_asm); (case kK => exact rfl); (case kd => ktr_room); (case ku => ktr_units); (case kp => first | trivial | k_mem | assumption); k_whole)
            intro vC hC tkC FC NC pC
            obtain ⟨tC, hvC⟩ := pC
            obtain ⟨cp, hcp⟩ := str_name (Str.ofString "/" ++ Txt.join (Str.ofString "/") (cpL (keepC (Txt.split gT (Str.ofString "/"))) (keepC (Txt.split pT (Str.ofString "/")))))
            rw [← hcp] at hvC hcm
            subst hvC
            clear hcp
            try dsimp only
            rcases Decidable.em (r.tag.take a.names.length = a.names) with hpB | hpB
            · rw [decide_eq_true hpB] at hcm
              (repeat' ((fail_if_success (with_reducible show wpAny _ _ (exec (Stmt.Assign _ (Expr.BoolOp _ _ _) _) _) _ _ _)); (fail_if_success (with_reducible show BoolPost _ _ _ _ _ _ _ _ _)); (fail_if_success (with_reducible show SkipPost _ _ _ _ _ _ _)); (fail_if_success (with_reducible show LCt.CompSrcT _ _ _ _ _ _ _ _ _ _ _ _ _ _ _)); (fail_if_success (with_reducible show wpAny _ _ (exec (Stmt.Return _ _) _) _ _ _)); (fail_if_success (with_reducible show wpAny _ _ (eval (Expr.ListComp _ _ _ _) _) _ _ _)); (fail_if_success (with_reducible show wpAny _ _ (compareOp CmpOp.Eq (Value.ref _) (Value.ref _)) _ _ _)); (fail_if_success (with_reducible show wpAny _ _ (call (Value.builtin "str.split") _) _ _ _)); (fail_if_success (with_reducible show wpAny _ _ (compareOp CmpOp.NotEq (Value.ref _) (Value.ref _)) _ _ _)); (fail_if_success (with_reducible show TextPost _ _ _ _ _ _ _ _ _ _ _ _ _ _ _)); (fail_if_success (with_reducible show wpAny _ _ (exec (Stmt.If _ _ _ _) _) _ _ _)); (fail_if_success (with_reducible show wpAny _ _ (call (Value.builtin "len") _) _ _ _)); (fail_if_success (with_reducible show StarOf _ _ _ _ _ _)); (fail_if_success (with_reducible show wpAny _ _ (call (Value.builtin "list.append") _) _ _ _)); (fail_if_success (with_reducible show LCg.CompSrc _ _ _ _ _ _ _ _ _ _ _ _ _ _)); (fail_if_success (with_reducible show wpAny _ _ (call (Value.ref _) _) _ _ _)); (fail_if_success (with_reducible show wpAny _ _ (call (Value.builtin "str.join") _) _ _ _)); (fail_if_success (with_reducible show wpAny _ _ (subscriptTail _ _ _ _) _ _ _)); (fail_if_success (with_reducible show wpAny _ _ (exec (Stmt.Assign _ (Expr.ListComp _ _ _ _) _) _) _ _ _)); (fail_if_success (with_reducible show wpAny _ _ (pyIter _) _ _ _)); (fail_if_success (with_reducible show wpAny _ _ (exec (Stmt.While _ _ _ _) _) _ _ _)); (fail_if_success (with_reducible show wpAny _ _ (compareOp CmpOp.NotIn (Value.ref _) (Value.ref _)) _ _ _)); (fail_if_success (with_reducible show wpAny _ _ (exec (Stmt.For _ _ _ _ _) _) _ _ _)); (first | (k_unfold; (try dsimp only)) | (k_end; kc_close) | walk1 | (dsimp only; walk1) | (leave1; (try dsimp only)) | fail "no step")))
              refine item_any (i := 0) (X := [Value.str r.cs tP1, Value.str (Txt.join (Str.ofString "-") r.tag) tP2, Value.str text tP3]) (v := .str r.cs tP1) (n := nP) (by k_asm) (by k_mem) rfl (by show 3 ≤ 1000; decide) ?_
              rcases Decidable.em (a.cs = r.cs) with hcA | hcA
              · have hcs2 : (r.cs == a.cs) = true := by rw [hcA]; exact beq_self_eq_true _
                have hbt : b = true := hb.symm.trans (decide_eq_true ⟨hcA, hpB⟩)
                subst hbt
                (repeat' ((fail_if_success (with_reducible show wpAny _ _ (exec (Stmt.Assign _ (Expr.BoolOp _ _ _) _) _) _ _ _)); (fail_if_success (with_reducible show BoolPost _ _ _ _ _ _ _ _ _)); (fail_if_success (with_reducible show SkipPost _ _ _ _ _ _ _)); (fail_if_success (with_reducible show LCt.CompSrcT _ _ _ _ _ _ _ _ _ _ _ _ _ _ _)); (fail_if_success (with_reducible show wpAny _ _ (exec (Stmt.Return _ _) _) _ _ _)); (fail_if_success (with_reducible show wpAny _ _ (eval (Expr.ListComp _ _ _ _) _) _ _ _)); (fail_if_success (with_reducible show wpAny _ _ (compareOp CmpOp.Eq (Value.ref _) (Value.ref _)) _ _ _)); (fail_if_success (with_reducible show wpAny _ _ (call (Value.builtin "str.split") _) _ _ _)); (fail_if_success (with_reducible show wpAny _ _ (compareOp CmpOp.NotEq (Value.ref _) (Value.ref _)) _ _ _)); (fail_if_success (with_reducible show TextPost _ _ _ _ _ _ _ _ _ _ _ _ _ _ _)); (fail_if_success (with_reducible show wpAny _ _ (exec (Stmt.If _ _ _ _) _) _ _ _)); (fail_if_success (with_reducible show wpAny _ _ (call (Value.builtin "len") _) _ _ _)); (fail_if_success (with_reducible show StarOf _ _ _ _ _ _)); (fail_if_success (with_reducible show wpAny _ _ (call (Value.builtin "list.append") _) _ _ _)); (fail_if_success (with_reducible show LCg.CompSrc _ _ _ _ _ _ _ _ _ _ _ _ _ _)); (fail_if_success (with_reducible show wpAny _ _ (call (Value.ref _) _) _ _ _)); (fail_if_success (with_reducible show wpAny _ _ (call (Value.builtin "str.join") _) _ _ _)); (fail_if_success (with_reducible show wpAny _ _ (subscriptTail _ _ _ _) _ _ _)); (fail_if_success (with_reducible show wpAny _ _ (exec (Stmt.Assign _ (Expr.ListComp _ _ _ _) _) _) _ _ _)); (fail_if_success (with_reducible show wpAny _ _ (pyIter _) _ _ _)); (fail_if_success (with_reducible show wpAny _ _ (exec (Stmt.While _ _ _ _) _) _ _ _)); (fail_if_success (with_reducible show wpAny _ _ (compareOp CmpOp.NotIn (Value.ref _) (Value.ref _)) _ _ _)); (fail_if_success (with_reducible show wpAny _ _ (exec (Stmt.For _ _ _ _ _) _) _ _ _)); (first | (k_unfold; (try dsimp only)) | (k_end; kc_close) | walk1 | (dsimp only; walk1) | (leave1; (try dsimp only)) | fail "no step")))
                exact SkipPost.intro (by k_asm) (by k_asm) (fun p hp => .tail _ hp)
              · have hcs2 : (r.cs == a.cs) = false := beq_eq_false_iff_ne.mpr (Ne.symm hcA)
                have hbf : b = false := hb.symm.trans (decide_eq_false fun h => hcA h.1)
                subst hbf
                (repeat' ((fail_if_success (with_reducible show wpAny _ _ (exec (Stmt.Assign _ (Expr.BoolOp _ _ _) _) _) _ _ _)); (fail_if_success (with_reducible show BoolPost _ _ _ _ _ _ _ _ _)); (fail_if_success (with_reducible show SkipPost _ _ _ _ _ _ _)); (fail_if_success (with_reducible show LCt.CompSrcT _ _ _ _ _ _ _ _ _ _ _ _ _ _ _)); (fail_if_success (with_reducible show wpAny _ _ (exec (Stmt.Return _ _) _) _ _ _)); (fail_if_success (with_reducible show wpAny _ _ (eval (Expr.ListComp _ _ _ _) _) _ _ _)); (fail_if_success (with_reducible show wpAny _ _ (compareOp CmpOp.Eq (Value.ref _) (Value.ref _)) _ _ _)); (fail_if_success (with_reducible show wpAny _ _ (call (Value.builtin "str.split") _) _ _ _)); (fail_if_success (with_reducible show wpAny _ _ (compareOp CmpOp.NotEq (Value.ref _) (Value.ref _)) _ _ _)); (fail_if_success (with_reducible show TextPost _ _ _ _ _ _ _ _ _ _ _ _ _ _ _)); (fail_if_success (with_reducible show wpAny _ _ (exec (Stmt.If _ _ _ _) _) _ _ _)); (fail_if_success (with_reducible show wpAny _ _ (call (Value.builtin "len") _) _ _ _)); (fail_if_success (with_reducible show StarOf _ _ _ _ _ _)); (fail_if_success (with_reducible show wpAny _ _ (call (Value.builtin "list.append") _) _ _ _)); (fail_if_success (with_reducible show LCg.CompSrc _ _ _ _ _ _ _ _ _ _ _ _ _ _)); (fail_if_success (with_reducible show wpAny _ _ (call (Value.ref _) _) _ _ _)); (fail_if_success (with_reducible show wpAny _ _ (call (Value.builtin "str.join") _) _ _ _)); (fail_if_success (with_reducible show wpAny _ _ (subscriptTail _ _ _ _) _ _ _)); (fail_if_success (with_reducible show wpAny _ _ (exec (Stmt.Assign _ (Expr.ListComp _ _ _ _) _) _) _ _ _)); (fail_if_success (with_reducible show wpAny _ _ (pyIter _) _ _ _)); (fail_if_success (with_reducible show wpAny _ _ (exec (Stmt.While _ _ _ _) _) _ _ _)); (fail_if_success (with_reducible show wpAny _ _ (compareOp CmpOp.NotIn (Value.ref _) (Value.ref _)) _ _ _)); (fail_if_success (with_reducible show wpAny _ _ (exec (Stmt.For _ _ _ _ _) _) _ _ _)); (first | (k_unfold; (try dsimp only)) | (k_end; kc_close) | walk1 | (dsimp only; walk1) | (leave1; (try dsimp only)) | fail "no step")))
                exact SkipPost.intro (by k_asm) (by k_asm) (fun p hp => .tail _ hp)
            · rw [decide_eq_false hpB] at hcm
              have hbf : b = false := hb.symm.trans (decide_eq_false fun h => hpB h.2)
              subst hbf
              (repeat' ((fail_if_success (with_reducible show wpAny _ _ (exec (Stmt.Assign _ (Expr.BoolOp _ _ _) _) _) _ _ _)); (fail_if_success (with_reducible show BoolPost _ _ _ _ _ _ _ _ _)); (fail_if_success (with_reducible show SkipPost _ _ _ _ _ _ _)); (fail_if_success (with_reducible show LCt.CompSrcT _ _ _ _ _ _ _ _ _ _ _ _ _ _ _)); (fail_if_success (with_reducible show wpAny _ _ (exec (Stmt.Return _ _) _) _ _ _)); (fail_if_success (with_reducible show wpAny _ _ (eval (Expr.ListComp _ _ _ _) _) _ _ _)); (fail_if_success (with_reducible show wpAny _ _ (compareOp CmpOp.Eq (Value.ref _) (Value.ref _)) _ _ _)); (fail_if_success (with_reducible show wpAny _ _ (call (Value.builtin "str.split") _) _ _ _)); (fail_if_success (with_reducible show wpAny _ _ (compareOp CmpOp.NotEq (Value.ref _) (Value.ref _)) _ _ _)); (fail_if_success (with_reducible show TextPost _ _ _ _ _ _ _ _ _ _ _ _ _ _ _)); (fail_if_success (with_reducible show wpAny _ _ (exec (Stmt.If _ _ _ _) _) _ _ _)); (fail_if_success (with_reducible show wpAny _ _ (call (Value.builtin "len") _) _ _ _)); (fail_if_success (with_reducible show StarOf _ _ _ _ _ _)); (fail_if_success (with_reducible show wpAny _ _ (call (Value.builtin "list.append") _) _ _ _)); (fail_if_success (with_reducible show LCg.CompSrc _ _ _ _ _ _ _ _ _ _ _ _ _ _)); (fail_if_success (with_reducible show wpAny _ _ (call (Value.ref _) _) _ _ _)); (fail_if_success (with_reducible show wpAny _ _ (call (Value.builtin "str.join") _) _ _ _)); (fail_if_success (with_reducible show wpAny _ _ (subscriptTail _ _ _ _) _ _ _)); (fail_if_success (with_reducible show wpAny _ _ (exec (Stmt.Assign _ (Expr.ListComp _ _ _ _) _) _) _ _ _)); (fail_if_success (with_reducible show wpAny _ _ (pyIter _) _ _ _)); (fail_if_success (with_reducible show wpAny _ _ (exec (Stmt.While _ _ _ _) _) _ _ _)); (fail_if_success (with_reducible show wpAny _ _ (compareOp CmpOp.NotIn (Value.ref _) (Value.ref _)) _ _ _)); (fail_if_success (with_reducible show wpAny _ _ (exec (Stmt.For _ _ _ _ _) _) _ _ _)); (first | (k_unfold; (try dsimp only)) | (k_end; kc_close) | walk1 | (dsimp only; walk1) | (leave1; (try dsimp only)) | fail "no step")))
              exact SkipPost.intro (by k_asm) (by k_asm) (fun p hp => .tail _ hp)
          try dsimp only
          (repeat' ((fail_if_success (with_reducible show wpAny _ _ (exec (Stmt.Assign _ (Expr.BoolOp _ _ _) _) _) _ _ _)); (fail_if_success (with_reducible show BoolPost _ _ _ _ _ _ _ _ _)); (fail_if_success (with_reducible show SkipPost _ _ _ _ _ _ _)); (fail_if_success (with_reducible show LCt.CompSrcT _ _ _ _ _ _ _ _ _ _ _ _ _ _ _)); (fail_if_success (with_reducible show wpAny _ _ (exec (Stmt.Return _ _) _) _ _ _)); (fail_if_success (with_reducible show wpAny _ _ (eval (Expr.ListComp _ _ _ _) _) _ _ _)); (fail_if_success (with_reducible show wpAny _ _ (compareOp CmpOp.Eq (Value.ref _) (Value.ref _)) _ _ _)); (fail_if_success (with_reducible show wpAny _ _ (call (Value.builtin "str.split") _) _ _ _)); (fail_if_success (with_reducible show wpAny _ _ (compareOp CmpOp.NotEq (Value.ref _) (Value.ref _)) _ _ _)); (fail_if_success (with_reducible show TextPost _ _ _ _ _ _ _ _ _ _ _ _ _ _ _)); (fail_if_success (with_reducible show wpAny _ _ (exec (Stmt.If _ _ _ _) _) _ _ _)); (fail_if_success (with_reducible show wpAny _ _ (call (Value.builtin "len") _) _ _ _)); (fail_if_success (with_reducible show StarOf _ _ _ _ _ _)); (fail_if_success (with_reducible show wpAny _ _ (call (Value.builtin "list.append") _) _ _ _)); (fail_if_success (with_reducible show LCg.CompSrc _ _ _ _ _ _ _ _ _ _ _ _ _ _)); (fail_if_success (with_reducible show wpAny _ _ (call (Value.ref _) _) _ _ _)); (fail_if_success (with_reducible show wpAny _ _ (call (Value.builtin "str.join") _) _ _ _)); (fail_if_success (with_reducible show wpAny _ _ (subscriptTail _ _ _ _) _ _ _)); (fail_if_success (with_reducible show wpAny _ _ (exec (Stmt.Assign _ (Expr.ListComp _ _ _ _) _) _) _ _ _)); (fail_if_success (with_reducible show wpAny _ _ (pyIter _) _ _ _)); (fail_if_success (with_reducible show wpAny _ _ (exec (Stmt.While _ _ _ _) _) _ _ _)); (fail_if_success (with_reducible show wpAny _ _ (compareOp CmpOp.NotIn (Value.ref _) (Value.ref _)) _ _ _)); (fail_if_success (with_reducible show wpAny _ _ (exec (Stmt.For _ _ _ _ _) _) _ _ _)); (first | (k_unfold; (try dsimp only)) | (k_end; kc_close) | walk1 | (dsimp only; walk1) | (leave1; (try dsimp only)) | fail "no step")))
          refine join_skip (by k_asm) (by k_asm) ?s3 (fun hB6 tkB6 FB6 NB6 => ?_)
          case s3 =>
            walk1
            (repeat' ((fail_if_success (with_reducible show wpAny _ _ (exec (Stmt.Assign _ (Expr.BoolOp _ _ _) _) _) _ _ _)); (fail_if_success (with_reducible show BoolPost _ _ _ _ _ _ _ _ _)); (fail_if_success (with_reducible show SkipPost _ _ _ _ _ _ _)); (fail_if_success (with_reducible show LCt.CompSrcT _ _ _ _ _ _ _ _ _ _ _ _ _ _ _)); (fail_if_success (with_reducible show wpAny _ _ (exec (Stmt.Return _ _) _) _ _ _)); (fail_if_success (with_reducible show wpAny _ _ (eval (Expr.ListComp _ _ _ _) _) _ _ _)); (fail_if_success (with_reducible show wpAny _ _ (compareOp CmpOp.Eq (Value.ref _) (Value.ref _)) _ _ _)); (fail_if_success (with_reducible show wpAny _ _ (call (Value.builtin "str.split") _) _ _ _)); (fail_if_success (with_reducible show wpAny _ _ (compareOp CmpOp.NotEq (Value.ref _) (Value.ref _)) _ _ _)); (fail_if_success (with_reducible show TextPost _ _ _ _ _ _ _ _ _ _ _ _ _ _ _)); (fail_if_success (with_reducible show wpAny _ _ (exec (Stmt.If _ _ _ _) _) _ _ _)); (fail_if_success (with_reducible show wpAny _ _ (call (Value.builtin "len") _) _ _ _)); (fail_if_success (with_reducible show StarOf _ _ _ _ _ _)); (fail_if_success (with_reducible show wpAny _ _ (call (Value.builtin "list.append") _) _ _ _)); (fail_if_success (with_reducible show LCg.CompSrc _ _ _ _ _ _ _ _ _ _ _ _ _ _)); (fail_if_success (with_reducible show wpAny _ _ (call (Value.ref _) _) _ _ _)); (fail_if_success (with_reducible show wpAny _ _ (call (Value.builtin "str.join") _) _ _ _)); (fail_if_success (with_reducible show wpAny _ _ (subscriptTail _ _ _ _) _ _ _)); (fail_if_success (with_reducible show wpAny _ _ (exec (Stmt.Assign _ (Expr.ListComp _ _ _ _) _) _) _ _ _)); (fail_if_success (with_reducible show wpAny _ _ (pyIter _) _ _ _)); (fail_if_success (with_reducible show wpAny _ _ (exec (Stmt.While _ _ _ _) _) _ _ _)); (fail_if_success (with_reducible show wpAny _ _ (compareOp CmpOp.NotIn (Value.ref _) (Value.ref _)) _ _ _)); (fail_if_success (with_reducible show wpAny _ _ (exec (Stmt.For _ _ _ _ _) _) _ _ _)); (first | (k_unfold; (try dsimp only)) | (k_end; kc_close) | walk1 | (dsimp only; walk1) | (leave1; (try dsimp only)) | fail "no step")))
            refine LCt.ListComp_T (F₀ := by k_asm) (by with_unfolding_all rfl) (by decide) (by rfl) (by decide) (by rfl) ?_
            (repeat' ((fail_if_success (with_reducible show wpAny _ _ (exec (Stmt.Assign _ (Expr.BoolOp _ _ _) _) _) _ _ _)); (fail_if_success (with_reducible show BoolPost _ _ _ _ _ _ _ _ _)); (fail_if_success (with_reducible show SkipPost _ _ _ _ _ _ _)); (fail_if_success (with_reducible show LCt.CompSrcT _ _ _ _ _ _ _ _ _ _ _ _ _ _ _)); (fail_if_success (with_reducible show wpAny _ _ (exec (Stmt.Return _ _) _) _ _ _)); (fail_if_success (with_reducible show wpAny _ _ (eval (Expr.ListComp _ _ _ _) _) _ _ _)); (fail_if_success (with_reducible show wpAny _ _ (compareOp CmpOp.Eq (Value.ref _) (Value.ref _)) _ _ _)); (fail_if_success (with_reducible show wpAny _ _ (call (Value.builtin "str.split") _) _ _ _)); (fail_if_success (with_reducible show wpAny _ _ (compareOp CmpOp.NotEq (Value.ref _) (Value.ref _)) _ _ _)); (fail_if_success (with_reducible show TextPost _ _ _ _ _ _ _ _ _ _ _ _ _ _ _)); (fail_if_success (with_reducible show wpAny _ _ (exec (Stmt.If _ _ _ _) _) _ _ _)); (fail_if_success (with_reducible show wpAny _ _ (call (Value.builtin "len") _) _ _ _)); (fail_if_success (with_reducible show StarOf _ _ _ _ _ _)); (fail_if_success (with_reducible show wpAny _ _ (call (Value.builtin "list.append") _) _ _ _)); (fail_if_success (with_reducible show LCg.CompSrc _ _ _ _ _ _ _ _ _ _ _ _ _ _)); (fail_if_success (with_reducible show wpAny _ _ (call (Value.ref _) _) _ _ _)); (fail_if_success (with_reducible show wpAny _ _ (call (Value.builtin "str.join") _) _ _ _)); (fail_if_success (with_reducible show wpAny _ _ (subscriptTail _ _ _ _) _ _ _)); (fail_if_success (with_reducible show wpAny _ _ (exec (Stmt.Assign _ (Expr.ListComp _ _ _ _) _) _) _ _ _)); (fail_if_success (with_reducible show wpAny _ _ (pyIter _) _ _ _)); (fail_if_success (with_reducible show wpAny _ _ (exec (Stmt.While _ _ _ _) _) _ _ _)); (fail_if_success (with_reducible show wpAny _ _ (compareOp CmpOp.NotIn (Value.ref _) (Value.ref _)) _ _ _)); (fail_if_success (with_reducible show wpAny _ _ (exec (Stmt.For _ _ _ _ _) _) _ _ _)); (first | (k_unfold; (try dsimp only)) | (k_end; kc_close) | walk1 | (dsimp only; walk1) | (leave1; (try dsimp only)) | fail "no step")))
            refine LCt.CompSrcT.ledger (its := #[.ref p1, .ref p2]) (k := nR3) (by rfl) (by k_asm) (by k_asm) (by k_mem) (by exact (show 2 ≤ sizeLine by decide)) ?_
            intro gT1
            refine compT_ind 2 (fun i ys nw => nw = _ ∧ IntsAre ys (onesT ([t1, t2].take i))) ?cz ?cs _ _ ⟨rfl, .nil⟩
            case cs =>
              rintro k i ys nw hik ⟨rfl, hys⟩ IHc
              refine LCt.CompRestT.succ (fun v IaT oIaT CaT oCaT DaT maT haT tkaT EaT hPaT hoCaT hmaT FaT NaT offaT neaT => ?_)
              obtain ⟨t, ⟨pq, vpq, kpq, toksq, rfl, hpm, hpa, hpk, hpz, htk⟩, hts⟩ := pat_at hpat1 hpat2 hPaT
              (repeat' ((fail_if_success (with_reducible show wpAny _ _ (exec (Stmt.Assign _ (Expr.BoolOp _ _ _) _) _) _ _ _)); (fail_if_success (with_reducible show BoolPost _ _ _ _ _ _ _ _ _)); (fail_if_success (with_reducible show SkipPost _ _ _ _ _ _ _)); (fail_if_success (with_reducible show LCt.CompSrcT _ _ _ _ _ _ _ _ _ _ _ _ _ _ _)); (fail_if_success (with_reducible show wpAny _ _ (exec (Stmt.Return _ _) _) _ _ _)); (fail_if_success (with_reducible show wpAny _ _ (eval (Expr.ListComp _ _ _ _) _) _ _ _)); (fail_if_success (with_reducible show wpAny _ _ (compareOp CmpOp.Eq (Value.ref _) (Value.ref _)) _ _ _)); (fail_if_success (with_reducible show wpAny _ _ (call (Value.builtin "str.split") _) _ _ _)); (fail_if_success (with_reducible show wpAny _ _ (compareOp CmpOp.NotEq (Value.ref _) (Value.ref _)) _ _ _)); (fail_if_success (with_reducible show TextPost _ _ _ _ _ _ _ _ _ _ _ _ _ _ _)); (fail_if_success (with_reducible show wpAny _ _ (exec (Stmt.If _ _ _ _) _) _ _ _)); (fail_if_success (with_reducible show wpAny _ _ (call (Value.builtin "len") _) _ _ _)); (fail_if_success (with_reducible show StarOf _ _ _ _ _ _)); (fail_if_success (with_reducible show wpAny _ _ (call (Value.builtin "list.append") _) _ _ _)); (fail_if_success (with_reducible show LCg.CompSrc _ _ _ _ _ _ _ _ _ _ _ _ _ _)); (fail_if_success (with_reducible show wpAny _ _ (call (Value.ref _) _) _ _ _)); (fail_if_success (with_reducible show wpAny _ _ (call (Value.builtin "str.join") _) _ _ _)); (fail_if_success (with_reducible show wpAny _ _ (subscriptTail _ _ _ _) _ _ _)); (fail_if_success (with_reducible show wpAny _ _ (exec (Stmt.Assign _ (Expr.ListComp _ _ _ _) _) _) _ _ _)); (fail_if_success (with_reducible show wpAny _ _ (pyIter _) _ _ _)); (fail_if_success (with_reducible show wpAny _ _ (exec (Stmt.While _ _ _ _) _) _ _ _)); (fail_if_success (with_reducible show wpAny _ _ (compareOp CmpOp.NotIn (Value.ref _) (Value.ref _)) _ _ _)); (fail_if_success (with_reducible show wpAny _ _ (exec (Stmt.For _ _ _ _ _) _) _ _ _)); (first | (k_unfold; (try dsimp only)) | (k_end; kc_close) | walk1 | (dsimp only; walk1) | (leave1; (try dsimp only)) | fail "no step")))
              k_dflt (refine' CtrV.use (takes_c _ (r.cs ++ Str.ofString "'" ++ Txt.join (Str.ofString "-") r.tag ++ Str.ofString "'" ++ text) _ st pq vpq kpq toksq (val_len hcl hwl htl) hpa hpk hpz) ?k1 ?k2 ?k3 ?k4 ?k5 ?kK ?kd ?ku ?kp ?_; (case k1 => k_asm); (case k2 => k_asm); (case k3 => k_asm); (case k4 => k_asm); (case k5 => k_asm); (case kK => exact rfl); (case kd => ktr_room); (case ku => ktr_units); (case kp => first | trivial | k_mem | assumption); k_whole)
              intro vq1 hq1 tkq1 Fq1 Nq1 pq1
              rw [htk] at pq1
              subst pq1
              try dsimp only
              cases t with
              | true =>
                (repeat' ((fail_if_success (with_reducible show wpAny _ _ (exec (Stmt.Assign _ (Expr.BoolOp _ _ _) _) _) _ _ _)); (fail_if_success (with_reducible show BoolPost _ _ _ _ _ _ _ _ _)); (fail_if_success (with_reducible show SkipPost _ _ _ _ _ _ _)); (fail_if_success (with_reducible show LCt.CompSrcT _ _ _ _ _ _ _ _ _ _ _ _ _ _ _)); (fail_if_success (with_reducible show wpAny _ _ (exec (Stmt.Return _ _) _) _ _ _)); (fail_if_success (with_reducible show wpAny _ _ (eval (Expr.ListComp _ _ _ _) _) _ _ _)); (fail_if_success (with_reducible show wpAny _ _ (compareOp CmpOp.Eq (Value.ref _) (Value.ref _)) _ _ _)); (fail_if_success (with_reducible show wpAny _ _ (call (Value.builtin "str.split") _) _ _ _)); (fail_if_success (with_reducible show wpAny _ _ (compareOp CmpOp.NotEq (Value.ref _) (Value.ref _)) _ _ _)); (fail_if_success (with_reducible show TextPost _ _ _ _ _ _ _ _ _ _ _ _ _ _ _)); (fail_if_success (with_reducible show wpAny _ _ (exec (Stmt.If _ _ _ _) _) _ _ _)); (fail_if_success (with_reducible show wpAny _ _ (call (Value.builtin "len") _) _ _ _)); (fail_if_success (with_reducible show StarOf _ _ _ _ _ _)); (fail_if_success (with_reducible show wpAny _ _ (call (Value.builtin "list.append") _) _ _ _)); (fail_if_success (with_reducible show LCg.CompSrc _ _ _ _ _ _ _ _ _ _ _ _ _ _)); (fail_if_success (with_reducible show wpAny _ _ (call (Value.ref _) _) _ _ _)); (fail_if_success (with_reducible show wpAny _ _ (call (Value.builtin "str.join") _) _ _ _)); (fail_if_success (with_reducible show wpAny _ _ (subscriptTail _ _ _ _) _ _ _)); (fail_if_success (with_reducible show wpAny _ _ (exec (Stmt.Assign _ (Expr.ListComp _ _ _ _) _) _) _ _ _)); (fail_if_success (with_reducible show wpAny _ _ (pyIter _) _ _ _)); (fail_if_success (with_reducible show wpAny _ _ (exec (Stmt.While _ _ _ _) _) _ _ _)); (fail_if_success (with_reducible show wpAny _ _ (compareOp CmpOp.NotIn (Value.ref _) (Value.ref _)) _ _ _)); (fail_if_success (with_reducible show wpAny _ _ (exec (Stmt.For _ _ _ _ _) _) _ _ _)); (first | (k_unfold; (try dsimp only)) | (k_end; kc_close) | walk1 | (dsimp only; walk1) | (leave1; (try dsimp only)) | fail "no step")))
                exact LCg.CompEnd.intro (by k_asm) (by k_asm) _ (fun p hp => hp) offaT (.inr ⟨_, by k_mem, rfl, _, rfl⟩) (IHc _ _ ⟨rfl, ones_yes hys hts⟩)
              | false =>
                (repeat' ((fail_if_success (with_reducible show wpAny _ _ (exec (Stmt.Assign _ (Expr.BoolOp _ _ _) _) _) _ _ _)); (fail_if_success (with_reducible show BoolPost _ _ _ _ _ _ _ _ _)); (fail_if_success (with_reducible show SkipPost _ _ _ _ _ _ _)); (fail_if_success (with_reducible show LCt.CompSrcT _ _ _ _ _ _ _ _ _ _ _ _ _ _ _)); (fail_if_success (with_reducible show wpAny _ _ (exec (Stmt.Return _ _) _) _ _ _)); (fail_if_success (with_reducible show wpAny _ _ (eval (Expr.ListComp _ _ _ _) _) _ _ _)); (fail_if_success (with_reducible show wpAny _ _ (compareOp CmpOp.Eq (Value.ref _) (Value.ref _)) _ _ _)); (fail_if_success (with_reducible show wpAny _ _ (call (Value.builtin "str.split") _) _ _ _)); (fail_if_success (with_reducible show wpAny _ _ (compareOp CmpOp.NotEq (Value.ref _) (Value.ref _)) _ _ _)); (fail_if_success (with_reducible show TextPost _ _ _ _ _ _ _ _ _ _ _ _ _ _ _)); (fail_if_success (with_reducible show wpAny _ _ (exec (Stmt.If _ _ _ _) _) _ _ _)); (fail_if_success (with_reducible show wpAny _ _ (call (Value.builtin "len") _) _ _ _)); (fail_if_success (with_reducible show StarOf _ _ _ _ _ _)); (fail_if_success (with_reducible show wpAny _ _ (call (Value.builtin "list.append") _) _ _ _)); (fail_if_success (with_reducible show LCg.CompSrc _ _ _ _ _ _ _ _ _ _ _ _ _ _)); (fail_if_success (with_reducible show wpAny _ _ (call (Value.ref _) _) _ _ _)); (fail_if_success (with_reducible show wpAny _ _ (call (Value.builtin "str.join") _) _ _ _)); (fail_if_success (with_reducible show wpAny _ _ (subscriptTail _ _ _ _) _ _ _)); (fail_if_success (with_reducible show wpAny _ _ (exec (Stmt.Assign _ (Expr.ListComp _ _ _ _) _) _) _ _ _)); (fail_if_success (with_reducible show wpAny _ _ (pyIter _) _ _ _)); (fail_if_success (with_reducible show wpAny _ _ (exec (Stmt.While _ _ _ _) _) _ _ _)); (fail_if_success (with_reducible show wpAny _ _ (compareOp CmpOp.NotIn (Value.ref _) (Value.ref _)) _ _ _)); (fail_if_success (with_reducible show wpAny _ _ (exec (Stmt.For _ _ _ _ _) _) _ _ _)); (first | (k_unfold; (try dsimp only)) | (k_end; kc_close) | walk1 | (dsimp only; walk1) | (leave1; (try dsimp only)) | fail "no step")))
                exact LCg.CompEnd.intro (by k_asm) (by k_asm) _ (fun p hp => hp) offaT (.inr ⟨_, by k_mem, rfl, _, rfl⟩) (IHc _ _ ⟨rfl, ones_no hys hts⟩)
            case cz =>
              rintro ys nw ⟨rfl, hys⟩ Dt hDt tkt Ft Nt ot
              clear ot
              replace hys : IntsAre ys (onesT [t1, t2]) := hys
              rw [hones] at hys
              dsimp only
              cases b with
              | true =>
                replace hys : IntsAre ys [1] := hys
                (repeat' ((fail_if_success (with_reducible show wpAny _ _ (exec (Stmt.Assign _ (Expr.BoolOp _ _ _) _) _) _ _ _)); (fail_if_success (with_reducible show BoolPost _ _ _ _ _ _ _ _ _)); (fail_if_success (with_reducible show SkipPost _ _ _ _ _ _ _)); (fail_if_success (with_reducible show LCt.CompSrcT _ _ _ _ _ _ _ _ _ _ _ _ _ _ _)); (fail_if_success (with_reducible show wpAny _ _ (exec (Stmt.Return _ _) _) _ _ _)); (fail_if_success (with_reducible show wpAny _ _ (eval (Expr.ListComp _ _ _ _) _) _ _ _)); (fail_if_success (with_reducible show wpAny _ _ (compareOp CmpOp.Eq (Value.ref _) (Value.ref _)) _ _ _)); (fail_if_success (with_reducible show wpAny _ _ (call (Value.builtin "str.split") _) _ _ _)); (fail_if_success (with_reducible show wpAny _ _ (compareOp CmpOp.NotEq (Value.ref _) (Value.ref _)) _ _ _)); (fail_if_success (with_reducible show TextPost _ _ _ _ _ _ _ _ _ _ _ _ _ _ _)); (fail_if_success (with_reducible show wpAny _ _ (exec (Stmt.If _ _ _ _) _) _ _ _)); (fail_if_success (with_reducible show wpAny _ _ (call (Value.builtin "len") _) _ _ _)); (fail_if_success (with_reducible show StarOf _ _ _ _ _ _)); (fail_if_success (with_reducible show wpAny _ _ (call (Value.builtin "list.append") _) _ _ _)); (fail_if_success (with_reducible show LCg.CompSrc _ _ _ _ _ _ _ _ _ _ _ _ _ _)); (fail_if_success (with_reducible show wpAny _ _ (call (Value.ref _) _) _ _ _)); (fail_if_success (with_reducible show wpAny _ _ (call (Value.builtin "str.join") _) _ _ _)); (fail_if_success (with_reducible show wpAny _ _ (subscriptTail _ _ _ _) _ _ _)); (fail_if_success (with_reducible show wpAny _ _ (exec (Stmt.Assign _ (Expr.ListComp _ _ _ _) _) _) _ _ _)); (fail_if_success (with_reducible show wpAny _ _ (pyIter _) _ _ _)); (fail_if_success (with_reducible show wpAny _ _ (exec (Stmt.While _ _ _ _) _) _ _ _)); (fail_if_success (with_reducible show wpAny _ _ (compareOp CmpOp.NotIn (Value.ref _) (Value.ref _)) _ _ _)); (fail_if_success (with_reducible show wpAny _ _ (exec (Stmt.For _ _ _ _ _) _) _ _ _)); (first | (k_unfold; (try dsimp only)) | (k_end; kc_close) | walk1 | (dsimp only; walk1) | (leave1; (try dsimp only)) | fail "no step")))
                refine ne_ints_same (is := [1]) (by k_asm) (by k_mem) (by k_mem) hys (show IntsAre [_] [1] from .cons _ _ .nil) (by ke_room) ?_
                (repeat' ((fail_if_success (with_reducible show wpAny _ _ (exec (Stmt.Assign _ (Expr.BoolOp _ _ _) _) _) _ _ _)); (fail_if_success (with_reducible show BoolPost _ _ _ _ _ _ _ _ _)); (fail_if_success (with_reducible show SkipPost _ _ _ _ _ _ _)); (fail_if_success (with_reducible show LCt.CompSrcT _ _ _ _ _ _ _ _ _ _ _ _ _ _ _)); (fail_if_success (with_reducible show wpAny _ _ (exec (Stmt.Return _ _) _) _ _ _)); (fail_if_success (with_reducible show wpAny _ _ (eval (Expr.ListComp _ _ _ _) _) _ _ _)); (fail_if_success (with_reducible show wpAny _ _ (compareOp CmpOp.Eq (Value.ref _) (Value.ref _)) _ _ _)); (fail_if_success (with_reducible show wpAny _ _ (call (Value.builtin "str.split") _) _ _ _)); (fail_if_success (with_reducible show wpAny _ _ (compareOp CmpOp.NotEq (Value.ref _) (Value.ref _)) _ _ _)); (fail_if_success (with_reducible show TextPost _ _ _ _ _ _ _ _ _ _ _ _ _ _ _)); (fail_if_success (with_reducible show wpAny _ _ (exec (Stmt.If _ _ _ _) _) _ _ _)); (fail_if_success (with_reducible show wpAny _ _ (call (Value.builtin "len") _) _ _ _)); (fail_if_success (with_reducible show StarOf _ _ _ _ _ _)); (fail_if_success (with_reducible show wpAny _ _ (call (Value.builtin "list.append") _) _ _ _)); (fail_if_success (with_reducible show LCg.CompSrc _ _ _ _ _ _ _ _ _ _ _ _ _ _)); (fail_if_success (with_reducible show wpAny _ _ (call (Value.ref _) _) _ _ _)); (fail_if_success (with_reducible show wpAny _ _ (call (Value.builtin "str.join") _) _ _ _)); (fail_if_success (with_reducible show wpAny _ _ (subscriptTail _ _ _ _) _ _ _)); (fail_if_success (with_reducible show wpAny _ _ (exec (Stmt.Assign _ (Expr.ListComp _ _ _ _) _) _) _ _ _)); (fail_if_success (with_reducible show wpAny _ _ (pyIter _) _ _ _)); (fail_if_success (with_reducible show wpAny _ _ (exec (Stmt.While _ _ _ _) _) _ _ _)); (fail_if_success (with_reducible show wpAny _ _ (compareOp CmpOp.NotIn (Value.ref _) (Value.ref _)) _ _ _)); (fail_if_success (with_reducible show wpAny _ _ (exec (Stmt.For _ _ _ _ _) _) _ _ _)); (first | (k_unfold; (try dsimp only)) | (k_end; kc_close) | walk1 | (dsimp only; walk1) | (leave1; (try dsimp only)) | fail "no step")))
                exact SkipPost.intro (by k_asm) (by k_asm) (fun p hp => .tail _ (.tail _ hp))
              | false =>
                replace hys : IntsAre ys [] := hys
                (repeat' ((fail_if_success (with_reducible show wpAny _ _ (exec (Stmt.Assign _ (Expr.BoolOp _ _ _) _) _) _ _ _)); (fail_if_success (with_reducible show BoolPost _ _ _ _ _ _ _ _ _)); (fail_if_success (with_reducible show SkipPost _ _ _ _ _ _ _)); (fail_if_success (with_reducible show LCt.CompSrcT _ _ _ _ _ _ _ _ _ _ _ _ _ _ _)); (fail_if_success (with_reducible show wpAny _ _ (exec (Stmt.Return _ _) _) _ _ _)); (fail_if_success (with_reducible show wpAny _ _ (eval (Expr.ListComp _ _ _ _) _) _ _ _)); (fail_if_success (with_reducible show wpAny _ _ (compareOp CmpOp.Eq (Value.ref _) (Value.ref _)) _ _ _)); (fail_if_success (with_reducible show wpAny _ _ (call (Value.builtin "str.split") _) _ _ _)); (fail_if_success (with_reducible show wpAny _ _ (compareOp CmpOp.NotEq (Value.ref _) (Value.ref _)) _ _ _)); (fail_if_success (with_reducible show TextPost _ _ _ _ _ _ _ _ _ _ _ _ _ _ _)); (fail_if_success (with_reducible show wpAny _ _ (exec (Stmt.If _ _ _ _) _) _ _ _)); (fail_if_success (with_reducible show wpAny _ _ (call (Value.builtin "len") _) _ _ _)); (fail_if_success (with_reducible show StarOf _ _ _ _ _ _)); (fail_if_success (with_reducible show wpAny _ _ (call (Value.builtin "list.append") _) _ _ _)); (fail_if_success (with_reducible show LCg.CompSrc _ _ _ _ _ _ _ _ _ _ _ _ _ _)); (fail_if_success (with_reducible show wpAny _ _ (call (Value.ref _) _) _ _ _)); (fail_if_success (with_reducible show wpAny _ _ (call (Value.builtin "str.join") _) _ _ _)); (fail_if_success (with_reducible show wpAny _ _ (subscriptTail _ _ _ _) _ _ _)); (fail_if_success (with_reducible show wpAny _ _ (exec (Stmt.Assign _ (Expr.ListComp _ _ _ _) _) _) _ _ _)); (fail_if_success (with_reducible show wpAny _ _ (pyIter _) _ _ _)); (fail_if_success (with_reducible show wpAny _ _ (exec (Stmt.While _ _ _ _) _) _ _ _)); (fail_if_success (with_reducible show wpAny _ _ (compareOp CmpOp.NotIn (Value.ref _) (Value.ref _)) _ _ _)); (fail_if_success (with_reducible show wpAny _ _ (exec (Stmt.For _ _ _ _ _) _) _ _ _)); (first | (k_unfold; (try dsimp only)) | (k_end; kc_close) | walk1 | (dsimp only; walk1) | (leave1; (try dsimp only)) | fail "no step")))
                refine ne_ints_same (is := []) (by k_asm) (by k_mem) (by k_mem) hys .nil (by ke_room) ?_
                (repeat' ((fail_if_success (with_reducible show wpAny _ _ (exec (Stmt.Assign _ (Expr.BoolOp _ _ _) _) _) _ _ _)); (fail_if_success (with_reducible show BoolPost _ _ _ _ _ _ _ _ _)); (fail_if_success (with_reducible show SkipPost _ _ _ _ _ _ _)); (fail_if_success (with_reducible show LCt.CompSrcT _ _ _ _ _ _ _ _ _ _ _ _ _ _ _)); (fail_if_success (with_reducible show wpAny _ _ (exec (Stmt.Return _ _) _) _ _ _)); (fail_if_success (with_reducible show wpAny _ _ (eval (Expr.ListComp _ _ _ _) _) _ _ _)); (fail_if_success (with_reducible show wpAny _ _ (compareOp CmpOp.Eq (Value.ref _) (Value.ref _)) _ _ _)); (fail_if_success (with_reducible show wpAny _ _ (call (Value.builtin "str.split") _) _ _ _)); (fail_if_success (with_reducible show wpAny _ _ (compareOp CmpOp.NotEq (Value.ref _) (Value.ref _)) _ _ _)); (fail_if_success (with_reducible show TextPost _ _ _ _ _ _ _ _ _ _ _ _ _ _ _)); (fail_if_success (with_reducible show wpAny _ _ (exec (Stmt.If _ _ _ _) _) _ _ _)); (fail_if_success (with_reducible show wpAny _ _ (call (Value.builtin "len") _) _ _ _)); (fail_if_success (with_reducible show StarOf _ _ _ _ _ _)); (fail_if_success (with_reducible show wpAny _ _ (call (Value.builtin "list.append") _) _ _ _)); (fail_if_success (with_reducible show LCg.CompSrc _ _ _ _ _ _ _ _ _ _ _ _ _ _)); (fail_if_success (with_reducible show wpAny _ _ (call (Value.ref _) _) _ _ _)); (fail_if_success (with_reducible show wpAny _ _ (call (Value.builtin "str.join") _) _ _ _)); (fail_if_success (with_reducible show wpAny _ _ (subscriptTail _ _ _ _) _ _ _)); (fail_if_success (with_reducible show wpAny _ _ (exec (Stmt.Assign _ (Expr.ListComp _ _ _ _) _) _) _ _ _)); (fail_if_success (with_reducible show wpAny _ _ (pyIter _) _ _ _)); (fail_if_success (with_reducible show wpAny _ _ (exec (Stmt.While _ _ _ _) _) _ _ _)); (fail_if_success (with_reducible show wpAny _ _ (compareOp CmpOp.NotIn (Value.ref _) (Value.ref _)) _ _ _)); (fail_if_success (with_reducible show wpAny _ _ (exec (Stmt.For _ _ _ _ _) _) _ _ _)); (first | (k_unfold; (try dsimp only)) | (k_end; kc_close) | walk1 | (dsimp only; walk1) | (leave1; (try dsimp only)) | fail "no step")))
                exact SkipPost.intro (by k_asm) (by k_asm) (fun p hp => .tail _ (.tail _ hp))
          try dsimp only
          (repeat' ((fail_if_success (with_reducible show wpAny _ _ (exec (Stmt.Assign _ (Expr.BoolOp _ _ _) _) _) _ _ _)); (fail_if_success (with_reducible show BoolPost _ _ _ _ _ _ _ _ _)); (fail_if_success (with_reducible show SkipPost _ _ _ _ _ _ _)); (fail_if_success (with_reducible show LCt.CompSrcT _ _ _ _ _ _ _ _ _ _ _ _ _ _ _)); (fail_if_success (with_reducible show wpAny _ _ (exec (Stmt.Return _ _) _) _ _ _)); (fail_if_success (with_reducible show wpAny _ _ (eval (Expr.ListComp _ _ _ _) _) _ _ _)); (fail_if_success (with_reducible show wpAny _ _ (compareOp CmpOp.Eq (Value.ref _) (Value.ref _)) _ _ _)); (fail_if_success (with_reducible show wpAny _ _ (call (Value.builtin "str.split") _) _ _ _)); (fail_if_success (with_reducible show wpAny _ _ (compareOp CmpOp.NotEq (Value.ref _) (Value.ref _)) _ _ _)); (fail_if_success (with_reducible show TextPost _ _ _ _ _ _ _ _ _ _ _ _ _ _ _)); (fail_if_success (with_reducible show wpAny _ _ (exec (Stmt.If _ _ _ _) _) _ _ _)); (fail_if_success (with_reducible show wpAny _ _ (call (Value.builtin "len") _) _ _ _)); (fail_if_success (with_reducible show StarOf _ _ _ _ _ _)); (fail_if_success (with_reducible show wpAny _ _ (call (Value.builtin "list.append") _) _ _ _)); (fail_if_success (with_reducible show LCg.CompSrc _ _ _ _ _ _ _ _ _ _ _ _ _ _)); (fail_if_success (with_reducible show wpAny _ _ (call (Value.ref _) _) _ _ _)); (fail_if_success (with_reducible show wpAny _ _ (call (Value.builtin "str.join") _) _ _ _)); (fail_if_success (with_reducible show wpAny _ _ (subscriptTail _ _ _ _) _ _ _)); (fail_if_success (with_reducible show wpAny _ _ (exec (Stmt.Assign _ (Expr.ListComp _ _ _ _) _) _) _ _ _)); (fail_if_success (with_reducible show wpAny _ _ (pyIter _) _ _ _)); (fail_if_success (with_reducible show wpAny _ _ (exec (Stmt.While _ _ _ _) _) _ _ _)); (fail_if_success (with_reducible show wpAny _ _ (compareOp CmpOp.NotIn (Value.ref _) (Value.ref _)) _ _ _)); (fail_if_success (with_reducible show wpAny _ _ (exec (Stmt.For _ _ _ _ _) _) _ _ _)); (first | (k_unfold; (try dsimp only)) | (k_end; kc_close) | walk1 | (dsimp only; walk1) | (leave1; (try dsimp only)) | fail "no step")))
          walk1
          cases b with
          | false =>
            have hnb : ¬ (a.cs = r.cs ∧ r.tag.take a.names.length = a.names) := of_decide_eq_false hb
            (repeat' ((fail_if_success (with_reducible show wpAny _ _ (exec (Stmt.Assign _ (Expr.BoolOp _ _ _) _) _) _ _ _)); (fail_if_success (with_reducible show BoolPost _ _ _ _ _ _ _ _ _)); (fail_if_success (with_reducible show SkipPost _ _ _ _ _ _ _)); (fail_if_success (with_reducible show LCt.CompSrcT _ _ _ _ _ _ _ _ _ _ _ _ _ _ _)); (fail_if_success (with_reducible show wpAny _ _ (exec (Stmt.Return _ _) _) _ _ _)); (fail_if_success (with_reducible show wpAny _ _ (eval (Expr.ListComp _ _ _ _) _) _ _ _)); (fail_if_success (with_reducible show wpAny _ _ (compareOp CmpOp.Eq (Value.ref _) (Value.ref _)) _ _ _)); (fail_if_success (with_reducible show wpAny _ _ (call (Value.builtin "str.split") _) _ _ _)); (fail_if_success (with_reducible show wpAny _ _ (compareOp CmpOp.NotEq (Value.ref _) (Value.ref _)) _ _ _)); (fail_if_success (with_reducible show TextPost _ _ _ _ _ _ _ _ _ _ _ _ _ _ _)); (fail_if_success (with_reducible show wpAny _ _ (exec (Stmt.If _ _ _ _) _) _ _ _)); (fail_if_success (with_reducible show wpAny _ _ (call (Value.builtin "len") _) _ _ _)); (fail_if_success (with_reducible show StarOf _ _ _ _ _ _)); (fail_if_success (with_reducible show wpAny _ _ (call (Value.builtin "list.append") _) _ _ _)); (fail_if_success (with_reducible show LCg.CompSrc _ _ _ _ _ _ _ _ _ _ _ _ _ _)); (fail_if_success (with_reducible show wpAny _ _ (call (Value.ref _) _) _ _ _)); (fail_if_success (with_reducible show wpAny _ _ (call (Value.builtin "str.join") _) _ _ _)); (fail_if_success (with_reducible show wpAny _ _ (subscriptTail _ _ _ _) _ _ _)); (fail_if_success (with_reducible show wpAny _ _ (exec (Stmt.Assign _ (Expr.ListComp _ _ _ _) _) _) _ _ _)); (fail_if_success (with_reducible show wpAny _ _ (pyIter _) _ _ _)); (fail_if_success (with_reducible show wpAny _ _ (exec (Stmt.While _ _ _ _) _) _ _ _)); (fail_if_success (with_reducible show wpAny _ _ (compareOp CmpOp.NotIn (Value.ref _) (Value.ref _)) _ _ _)); (fail_if_success (with_reducible show wpAny _ _ (exec (Stmt.For _ _ _ _ _) _) _ _ _)); (first | (k_unfold; (try dsimp only)) | (k_end; kc_close) | walk1 | (dsimp only; walk1) | (leave1; (try dsimp only)) | fail "no step")))
            refine unrW_end (by k_asm) (by k_asm) news₃ (fun p hp => hp) (off_K ofK) (hR₁ _ _ ⟨⟨yg, trivial⟩, IH3 _ _ ⟨⟨dn ++ [a], rest, na, nv, _, by rw [hrs, List.append_assoc]; rfl, hr9, ?c0, hna, ?best⟩, rfl, ?c1, ?c2, ?c3, ?c4, ?c5, ?c6, ?c7⟩⟩)
            case best => rw [bestT_snoc, if_neg (fun h => hnb h.1)]; exact hnv
            case c0 => (repeat (first | exact if_pos rfl | assumption | refine (if_neg (by decide)).trans ?_))
            case c1 => (repeat (first | exact if_pos rfl | assumption | refine (if_neg (by decide)).trans ?_))
            case c2 => (repeat (first | exact if_pos rfl | assumption | refine (if_neg (by decide)).trans ?_))
            case c3 => (repeat (first | exact if_pos rfl | assumption | refine (if_neg (by decide)).trans ?_))
            case c4 => (repeat (first | exact if_pos rfl | assumption | refine (if_neg (by decide)).trans ?_))
            case c5 => (repeat (first | exact if_pos rfl | assumption | refine (if_neg (by decide)).trans ?_))
            case c6 => (repeat (first | exact if_pos rfl | assumption | refine (if_neg (by decide)).trans ?_))
            case c7 => (repeat (first | exact if_pos rfl | assumption | refine (if_neg (by decide)).trans ?_))
          | true =>
            have hyb : a.cs = r.cs ∧ r.tag.take a.names.length = a.names := of_decide_eq_true hb
            (repeat' ((fail_if_success (with_reducible show wpAny _ _ (exec (Stmt.Assign _ (Expr.BoolOp _ _ _) _) _) _ _ _)); (fail_if_success (with_reducible show BoolPost _ _ _ _ _ _ _ _ _)); (fail_if_success (with_reducible show SkipPost _ _ _ _ _ _ _)); (fail_if_success (with_reducible show LCt.CompSrcT _ _ _ _ _ _ _ _ _ _ _ _ _ _ _)); (fail_if_success (with_reducible show wpAny _ _ (exec (Stmt.Return _ _) _) _ _ _)); (fail_if_success (with_reducible show wpAny _ _ (eval (Expr.ListComp _ _ _ _) _) _ _ _)); (fail_if_success (with_reducible show wpAny _ _ (compareOp CmpOp.Eq (Value.ref _) (Value.ref _)) _ _ _)); (fail_if_success (with_reducible show wpAny _ _ (call (Value.builtin "str.split") _) _ _ _)); (fail_if_success (with_reducible show wpAny _ _ (compareOp CmpOp.NotEq (Value.ref _) (Value.ref _)) _ _ _)); (fail_if_success (with_reducible show TextPost _ _ _ _ _ _ _ _ _ _ _ _ _ _ _)); (fail_if_success (with_reducible show wpAny _ _ (exec (Stmt.If _ _ _ _) _) _ _ _)); (fail_if_success (with_reducible show wpAny _ _ (call (Value.builtin "len") _) _ _ _)); (fail_if_success (with_reducible show StarOf _ _ _ _ _ _)); (fail_if_success (with_reducible show wpAny _ _ (call (Value.builtin "list.append") _) _ _ _)); (fail_if_success (with_reducible show LCg.CompSrc _ _ _ _ _ _ _ _ _ _ _ _ _ _)); (fail_if_success (with_reducible show wpAny _ _ (call (Value.ref _) _) _ _ _)); (fail_if_success (with_reducible show wpAny _ _ (call (Value.builtin "str.join") _) _ _ _)); (fail_if_success (with_reducible show wpAny _ _ (subscriptTail _ _ _ _) _ _ _)); (fail_if_success (with_reducible show wpAny _ _ (exec (Stmt.Assign _ (Expr.ListComp _ _ _ _) _) _) _ _ _)); (fail_if_success (with_reducible show wpAny _ _ (pyIter _) _ _ _)); (fail_if_success (with_reducible show wpAny _ _ (exec (Stmt.While _ _ _ _) _) _ _ _)); (fail_if_success (with_reducible show wpAny _ _ (compareOp CmpOp.NotIn (Value.ref _) (Value.ref _)) _ _ _)); (fail_if_success (with_reducible show wpAny _ _ (exec (Stmt.For _ _ _ _ _) _) _ _ _)); (first | (k_unfold; (try dsimp only)) | (k_end; kc_close) | walk1 | (dsimp only; walk1) | (leave1; (try dsimp only)) | fail "no step")))
            refine len_L (by k_asm) (by k_mem) (by omega) (fun tl4 tkl4 => ?_)
            (repeat' ((fail_if_success (with_reducible show wpAny _ _ (exec (Stmt.Assign _ (Expr.BoolOp _ _ _) _) _) _ _ _)); (fail_if_success (with_reducible show BoolPost _ _ _ _ _ _ _ _ _)); (fail_if_success (with_reducible show SkipPost _ _ _ _ _ _ _)); (fail_if_success (with_reducible show LCt.CompSrcT _ _ _ _ _ _ _ _ _ _ _ _ _ _ _)); (fail_if_success (with_reducible show wpAny _ _ (exec (Stmt.Return _ _) _) _ _ _)); (fail_if_success (with_reducible show wpAny _ _ (eval (Expr.ListComp _ _ _ _) _) _ _ _)); (fail_if_success (with_reducible show wpAny _ _ (compareOp CmpOp.Eq (Value.ref _) (Value.ref _)) _ _ _)); (fail_if_success (with_reducible show wpAny _ _ (call (Value.builtin "str.split") _) _ _ _)); (fail_if_success (with_reducible show wpAny _ _ (compareOp CmpOp.NotEq (Value.ref _) (Value.ref _)) _ _ _)); (fail_if_success (with_reducible show TextPost _ _ _ _ _ _ _ _ _ _ _ _ _ _ _)); (fail_if_success (with_reducible show wpAny _ _ (exec (Stmt.If _ _ _ _) _) _ _ _)); (fail_if_success (with_reducible show wpAny _ _ (call (Value.builtin "len") _) _ _ _)); (fail_if_success (with_reducible show StarOf _ _ _ _ _ _)); (fail_if_success (with_reducible show wpAny _ _ (call (Value.builtin "list.append") _) _ _ _)); (fail_if_success (with_reducible show LCg.CompSrc _ _ _ _ _ _ _ _ _ _ _ _ _ _)); (fail_if_success (with_reducible show wpAny _ _ (call (Value.ref _) _) _ _ _)); (fail_if_success (with_reducible show wpAny _ _ (call (Value.builtin "str.join") _) _ _ _)); (fail_if_success (with_reducible show wpAny _ _ (subscriptTail _ _ _ _) _ _ _)); (fail_if_success (with_reducible show wpAny _ _ (exec (Stmt.Assign _ (Expr.ListComp _ _ _ _) _) _) _ _ _)); (fail_if_success (with_reducible show wpAny _ _ (pyIter _) _ _ _)); (fail_if_success (with_reducible show wpAny _ _ (exec (Stmt.While _ _ _ _) _) _ _ _)); (fail_if_success (with_reducible show wpAny _ _ (compareOp CmpOp.NotIn (Value.ref _) (Value.ref _)) _ _ _)); (fail_if_success (with_reducible show wpAny _ _ (exec (Stmt.For _ _ _ _ _) _) _ _ _)); (first | (k_unfold; (try dsimp only)) | (k_end; kc_close) | walk1 | (dsimp only; walk1) | (leave1; (try dsimp only)) | fail "no step")))
            refine len_L (by k_asm) (by k_mem) (by omega) (fun tl5 tkl5 => ?_)
            (repeat' ((fail_if_success (with_reducible show wpAny _ _ (exec (Stmt.Assign _ (Expr.BoolOp _ _ _) _) _) _ _ _)); (fail_if_success (with_reducible show BoolPost _ _ _ _ _ _ _ _ _)); (fail_if_success (with_reducible show SkipPost _ _ _ _ _ _ _)); (fail_if_success (with_reducible show LCt.CompSrcT _ _ _ _ _ _ _ _ _ _ _ _ _ _ _)); (fail_if_success (with_reducible show wpAny _ _ (exec (Stmt.Return _ _) _) _ _ _)); (fail_if_success (with_reducible show wpAny _ _ (eval (Expr.ListComp _ _ _ _) _) _ _ _)); (fail_if_success (with_reducible show wpAny _ _ (compareOp CmpOp.Eq (Value.ref _) (Value.ref _)) _ _ _)); (fail_if_success (with_reducible show wpAny _ _ (call (Value.builtin "str.split") _) _ _ _)); (fail_if_success (with_reducible show wpAny _ _ (compareOp CmpOp.NotEq (Value.ref _) (Value.ref _)) _ _ _)); (fail_if_success (with_reducible show TextPost _ _ _ _ _ _ _ _ _ _ _ _ _ _ _)); (fail_if_success (with_reducible show wpAny _ _ (exec (Stmt.If _ _ _ _) _) _ _ _)); (fail_if_success (with_reducible show wpAny _ _ (call (Value.builtin "len") _) _ _ _)); (fail_if_success (with_reducible show StarOf _ _ _ _ _ _)); (fail_if_success (with_reducible show wpAny _ _ (call (Value.builtin "list.append") _) _ _ _)); (fail_if_success (with_reducible show LCg.CompSrc _ _ _ _ _ _ _ _ _ _ _ _ _ _)); (fail_if_success (with_reducible show wpAny _ _ (call (Value.ref _) _) _ _ _)); (fail_if_success (with_reducible show wpAny _ _ (call (Value.builtin "str.join") _) _ _ _)); (fail_if_success (with_reducible show wpAny _ _ (subscriptTail _ _ _ _) _ _ _)); (fail_if_success (with_reducible show wpAny _ _ (exec (Stmt.Assign _ (Expr.ListComp _ _ _ _) _) _) _ _ _)); (fail_if_success (with_reducible show wpAny _ _ (pyIter _) _ _ _)); (fail_if_success (with_reducible show wpAny _ _ (exec (Stmt.While _ _ _ _) _) _ _ _)); (fail_if_success (with_reducible show wpAny _ _ (compareOp CmpOp.NotIn (Value.ref _) (Value.ref _)) _ _ _)); (fail_if_success (with_reducible show wpAny _ _ (exec (Stmt.For _ _ _ _ _) _) _ _ _)); (first | (k_unfold; (try dsimp only)) | (k_end; kc_close) | walk1 | (dsimp only; walk1) | (leave1; (try dsimp only)) | fail "no step")))
            · refine unrW_end (by k_asm) (by k_asm) news₃ (fun p hp => hp) (off_K ofK) (hR₁ _ _ ⟨⟨yg, trivial⟩, IH3 _ _ ⟨⟨dn ++ [a], rest, Nm, vNm, _, by rw [hrs, List.append_assoc]; rfl, hr9, ?c0, hNm, ?best⟩, rfl, ?c1, ?c2, ?c3, ?c4, ?c5, ?c6, ?c7⟩⟩)
              case best => rw [bestT_snoc, if_pos ⟨hyb, by rw [← hnvl, ← hNl]; omega⟩]; exact hvNm
              case c0 => (repeat (first | exact if_pos rfl | assumption | refine (if_neg (by decide)).trans ?_))
              case c1 => (repeat (first | exact if_pos rfl | assumption | refine (if_neg (by decide)).trans ?_))
              case c2 => (repeat (first | exact if_pos rfl | assumption | refine (if_neg (by decide)).trans ?_))
              case c3 => (repeat (first | exact if_pos rfl | assumption | refine (if_neg (by decide)).trans ?_))
              case c4 => (repeat (first | exact if_pos rfl | assumption | refine (if_neg (by decide)).trans ?_))
              case c5 => (repeat (first | exact if_pos rfl | assumption | refine (if_neg (by decide)).trans ?_))
              case c6 => (repeat (first | exact if_pos rfl | assumption | refine (if_neg (by decide)).trans ?_))
              case c7 => (repeat (first | exact if_pos rfl | assumption | refine (if_neg (by decide)).trans ?_))
            · refine unrW_end (by k_asm) (by k_asm) news₃ (fun p hp => hp) (off_K ofK) (hR₁ _ _ ⟨⟨yg, trivial⟩, IH3 _ _ ⟨⟨dn ++ [a], rest, na, nv, _, by rw [hrs, List.append_assoc]; rfl, hr9, ?c0, hna, ?best⟩, rfl, ?c1, ?c2, ?c3, ?c4, ?c5, ?c6, ?c7⟩⟩)
              case best => rw [bestT_snoc, if_neg (fun h => by have := h.2; rw [← hnvl, ← hNl] at this; omega)]; exact hnv
              case c0 => (repeat (first | exact if_pos rfl | assumption | refine (if_neg (by decide)).trans ?_))
              case c1 => (repeat (first | exact if_pos rfl | assumption | refine (if_neg (by decide)).trans ?_))
              case c2 => (repeat (first | exact if_pos rfl | assumption | refine (if_neg (by decide)).trans ?_))
              case c3 => (repeat (first | exact if_pos rfl | assumption | refine (if_neg (by decide)).trans ?_))
              case c4 => (repeat (first | exact if_pos rfl | assumption | refine (if_neg (by decide)).trans ?_))
              case c5 => (repeat (first | exact if_pos rfl | assumption | refine (if_neg (by decide)).trans ?_))
              case c6 => (repeat (first | exact if_pos rfl | assumption | refine (if_neg (by decide)).trans ?_))
              case c7 => (repeat (first | exact if_pos rfl | assumption | refine (if_neg (by decide)).trans ?_))
          -- TURN3 END
          done)
end
end Mine
end
theorem PySem.Challenge.cw_ik0124_01_holds : PySem.Challenge.rw_ik0124_01.Holds := by
  exact Mine.law0
