import PyProof.Rows.All
import Wide.All
import OpenK.AllK
import Wide.FinOn
import Lean
import PySem.Challenge.RW_oh0084_01
open PySem PySem.W PyProof.Rows PySem.Calls
set_option Elab.async false
set_option linter.unusedVariables false
set_option maxRecDepth 100000
set_option maxHeartbeats 8000000
theorem PySem.W.Fast.tw7232422423428716515 : True := ⟨⟩
theorem PySem.W.Fast.tw6004533443673955352 : True := ⟨⟩
theorem PySem.W.Fast.tw219737044198020058 : True := ⟨⟩
theorem PySem.W.Fast.tw43969757491396457 : True := ⟨⟩
theorem PySem.W.Fast.tw1291980286583624508 : True := ⟨⟩
theorem PySem.W.Fast.tw1258717718454355964 : True := ⟨⟩
theorem PySem.W.Fast.tw16145008321745377990 : True := ⟨⟩
theorem PySem.W.Fast.tw282004115355043989 : True := ⟨⟩
theorem PySem.W.Fast.tw7275051467321613617 : True := ⟨⟩
theorem PySem.W.Fast.tw10528696920762540405 : True := ⟨⟩
theorem PySem.W.Fast.tw12233582284571471492 : True := ⟨⟩
theorem PySem.W.Fast.tw9411525586021648077 : True := ⟨⟩
theorem PySem.W.Fast.tw17730448691065144110 : True := ⟨⟩
theorem PySem.W.Fast.tw3619232141914619222 : True := ⟨⟩
theorem PySem.W.Fast.tw1829445100760108279 : True := ⟨⟩
theorem PySem.W.Fast.tw11753959986699041462 : True := ⟨⟩
theorem PySem.W.Fast.tw3766158894648301139 : True := ⟨⟩
theorem PySem.W.Fast.tw1355338860687761863 : True := ⟨⟩
theorem PySem.W.Fast.tw682011567655089306 : True := ⟨⟩
theorem PySem.W.Fast.tw4011157648589011858 : True := ⟨⟩
theorem PySem.W.Fast.tw13180171748994924942 : True := ⟨⟩
theorem PySem.W.Fast.tw704327219915372674 : True := ⟨⟩
theorem PySem.W.Fast.tw10010936943081839664 : True := ⟨⟩
theorem PySem.W.Fast.tw785562751432746474 : True := ⟨⟩
theorem PySem.W.Fast.tw151948405760981731 : True := ⟨⟩
theorem PySem.W.Fast.tw9759809726879904816 : True := ⟨⟩
theorem PySem.W.Fast.tw14311459727803291754 : True := ⟨⟩
theorem PySem.W.Fast.tw13607416678640721797 : True := ⟨⟩
theorem PySem.W.Fast.tw11277716924127702174 : True := ⟨⟩
theorem PySem.W.Fast.tw13215998728584607739 : True := ⟨⟩
theorem PySem.W.Fast.tw16741492637210864865 : True := ⟨⟩
theorem PySem.W.Fast.tw9285146279643344392 : True := ⟨⟩
theorem PySem.W.Fast.tw11130039905162102590 : True := ⟨⟩
theorem PySem.W.Fast.tw18101931140130867144 : True := ⟨⟩
theorem PySem.W.Fast.tw15007238320947547705 : True := ⟨⟩
theorem PySem.W.Fast.tw951843321253372498 : True := ⟨⟩
theorem PySem.W.Fast.tw14386061602966655976 : True := ⟨⟩
theorem PySem.W.Fast.tw3891137856419664920 : True := ⟨⟩
theorem PySem.W.Fast.tw13789449189825218787 : True := ⟨⟩
theorem PySem.W.Fast.tw16643379632663270332 : True := ⟨⟩
theorem PySem.W.Fast.tw4658958612460137192 : True := ⟨⟩
theorem PySem.W.Fast.tw17964007177503468958 : True := ⟨⟩
theorem PySem.W.Fast.tw17888162413812561239 : True := ⟨⟩
theorem PySem.W.Fast.tw14537914154153760125 : True := ⟨⟩
theorem PySem.W.Fast.tw14108194823987119177 : True := ⟨⟩
theorem PySem.W.Fast.tw3577408171920636059 : True := ⟨⟩
theorem PySem.W.Fast.tw5853683300791708862 : True := ⟨⟩
theorem PySem.W.Fast.tw14126943448341045398 : True := ⟨⟩
theorem PySem.W.Fast.tw10948738476641704880 : True := ⟨⟩
theorem PySem.W.Fast.tw17975652961387846372 : True := ⟨⟩
theorem PySem.W.Fast.tw15278061642289888581 : True := ⟨⟩
theorem PySem.W.Fast.tw3698559305507148144 : True := ⟨⟩
theorem PySem.W.Fast.tw4527066259768149269 : True := ⟨⟩
theorem PySem.W.Fast.tw5357591511691535388 : True := ⟨⟩
theorem PySem.W.Fast.tw14333388528381170442 : True := ⟨⟩
theorem PySem.W.Fast.tw11853533878840232495 : True := ⟨⟩
theorem PySem.W.Fast.tw3362959441861295915 : True := ⟨⟩
theorem PySem.W.Fast.tw8579058602437062094 : True := ⟨⟩
theorem PySem.W.Fast.tw4083366629787285363 : True := ⟨⟩
theorem PySem.W.Fast.tw11148448100367291693 : True := ⟨⟩
theorem PySem.W.Fast.tw17111948838632640456 : True := ⟨⟩
theorem PySem.W.Fast.tw16817318245366136608 : True := ⟨⟩
theorem PySem.W.Fast.tw16548257151911338427 : True := ⟨⟩
theorem PySem.W.Fast.tw17552769576498331613 : True := ⟨⟩
theorem PySem.W.Fast.tw4978915544186085027 : True := ⟨⟩
theorem PySem.W.Fast.tw10007627690174824804 : True := ⟨⟩
theorem PySem.W.Fast.tw16531745337717519161 : True := ⟨⟩
theorem PySem.W.Fast.tw14884601019740666482 : True := ⟨⟩
theorem PySem.W.Fast.tw17069979004554194336 : True := ⟨⟩
theorem PySem.W.Fast.tw13016732220969518872 : True := ⟨⟩
theorem PySem.W.Fast.tw15263041282635125899 : True := ⟨⟩
theorem PySem.W.Fast.tw12659028871203227004 : True := ⟨⟩
theorem PySem.W.Fast.tw136631920214876835 : True := ⟨⟩
theorem PySem.W.Fast.tw2905824091091238844 : True := ⟨⟩
theorem PySem.W.Fast.tw14676129246514791375 : True := ⟨⟩
theorem PySem.W.Fast.tw13317431791736044220 : True := ⟨⟩
theorem PySem.W.Fast.tw12290603225136948437 : True := ⟨⟩
theorem PySem.W.Fast.tw6122645084068987007 : True := ⟨⟩
theorem PySem.W.Fast.tw15587867472590373358 : True := ⟨⟩
theorem PySem.W.Fast.tw14714103240675001986 : True := ⟨⟩
theorem PySem.W.Fast.tw8860024209350480642 : True := ⟨⟩
theorem PySem.W.Fast.tw9594665118957945026 : True := ⟨⟩
theorem PySem.W.Fast.tw5118037107132400430 : True := ⟨⟩
theorem PySem.W.Fast.tw3778451253796500701 : True := ⟨⟩
theorem PySem.W.Fast.tw11333186260410459676 : True := ⟨⟩
theorem PySem.W.Fast.tw9501820088010722379 : True := ⟨⟩
theorem PySem.W.Fast.tw3282434896037501709 : True := ⟨⟩
theorem PySem.W.Fast.tw2627984346626558326 : True := ⟨⟩
theorem PySem.W.Fast.tw16752143609539240740 : True := ⟨⟩
theorem PySem.W.Fast.tw4075660801711882420 : True := ⟨⟩
theorem PySem.W.Fast.tw5189142188285759775 : True := ⟨⟩
theorem PySem.W.Fast.tw2460228577881660442 : True := ⟨⟩
theorem PySem.W.Fast.tw2283851925072248500 : True := ⟨⟩
theorem PySem.W.Fast.tw17954471519018878134 : True := ⟨⟩
theorem PySem.W.Fast.tw4302124980754421698 : True := ⟨⟩
theorem PySem.W.Fast.tw11588390666370768167 : True := ⟨⟩
theorem PySem.W.Fast.tw5529568453561195837 : True := ⟨⟩
theorem PySem.W.Fast.tw17000155066101142889 : True := ⟨⟩
theorem PySem.W.Fast.tw16439824349840649037 : True := ⟨⟩
theorem PySem.W.Fast.tw16593013826814733010 : True := ⟨⟩
theorem PySem.W.Fast.tw15490439104401381959 : True := ⟨⟩
theorem PySem.W.Fast.tw16643706677886111943 : True := ⟨⟩
theorem PySem.W.Fast.tw10323183001455561277 : True := ⟨⟩
theorem PySem.W.Fast.tw5349121933718820234 : True := ⟨⟩
theorem PySem.W.Fast.tw9136488742655976645 : True := ⟨⟩
theorem PySem.W.Fast.tw17532440430192770315 : True := ⟨⟩
theorem PySem.W.Fast.tw2670528217467546775 : True := ⟨⟩
theorem PySem.W.Fast.tw2478078296215019888 : True := ⟨⟩
theorem PySem.W.Fast.tw2611137233208623240 : True := ⟨⟩
theorem PySem.W.Fast.tw8206430501311747189 : True := ⟨⟩
theorem PySem.W.Fast.tw3105397867545767578 : True := ⟨⟩
theorem PySem.W.Fast.tw1402947280878808549 : True := ⟨⟩
theorem PySem.W.Fast.tw1258299570235058372 : True := ⟨⟩
theorem PySem.W.Fast.tw17988542015724977305 : True := ⟨⟩
theorem PySem.W.Fast.tw16846860572762119324 : True := ⟨⟩
theorem PySem.W.Fast.tw17672482021469178181 : True := ⟨⟩
theorem PySem.W.Fast.tw3972328310683599613 : True := ⟨⟩
theorem PySem.W.Fast.tw5396446701170858492 : True := ⟨⟩
theorem PySem.W.Fast.tw6679490504615227074 : True := ⟨⟩
theorem PySem.W.Fast.tw9763268239775435451 : True := ⟨⟩
theorem PySem.W.Fast.tw14168537005229113720 : True := ⟨⟩
theorem PySem.W.Fast.tw7392212959928792091 : True := ⟨⟩
theorem PySem.W.Fast.tw8693227569615203950 : True := ⟨⟩
theorem PySem.W.Fast.tw14821650378409806113 : True := ⟨⟩
theorem PySem.W.Fast.tw8753696776887207221 : True := ⟨⟩
theorem PySem.W.Fast.tw932993149863042379 : True := ⟨⟩
theorem PySem.W.Fast.tw6380047634161181297 : True := ⟨⟩
theorem PySem.W.Fast.tw13678640442995254988 : True := ⟨⟩
theorem PySem.W.Fast.tw1702518465993881591 : True := ⟨⟩
theorem PySem.W.Fast.tw4549333791460862111 : True := ⟨⟩
theorem PySem.W.Fast.tw8075568018651887793 : True := ⟨⟩
theorem PySem.W.Fast.tw14433975572909055671 : True := ⟨⟩
theorem PySem.W.Fast.tw5268983451555188008 : True := ⟨⟩
theorem PySem.W.Fast.tw3094477031063562474 : True := ⟨⟩
theorem PySem.W.Fast.tw17100903815162463580 : True := ⟨⟩
theorem PySem.W.Fast.tw15066959818950650227 : True := ⟨⟩
theorem PySem.W.Fast.tw4090926877573551719 : True := ⟨⟩
theorem PySem.W.Fast.tw13335737130258781183 : True := ⟨⟩
theorem PySem.W.Fast.tw1420334683824854120 : True := ⟨⟩
theorem PySem.W.Fast.tw15261043813070345055 : True := ⟨⟩
theorem PySem.W.Fast.tw16018607276475445134 : True := ⟨⟩
theorem PySem.W.Fast.tw10942035263794033107 : True := ⟨⟩
theorem PySem.W.Fast.tw2862820112641550484 : True := ⟨⟩
theorem PySem.W.Fast.tw13254397897704925713 : True := ⟨⟩
theorem PySem.W.Fast.tw11186114360453789277 : True := ⟨⟩
theorem PySem.W.Fast.tw900395245841561262 : True := ⟨⟩
theorem PySem.W.Fast.tw11788150170368784547 : True := ⟨⟩
theorem PySem.W.Fast.tw12945451867199242903 : True := ⟨⟩
theorem PySem.W.Fast.tw7401281599722004195 : True := ⟨⟩
theorem PySem.W.Fast.tw5770868932273138760 : True := ⟨⟩
theorem PySem.W.Fast.tw1962928258387122110 : True := ⟨⟩
theorem PySem.W.Fast.tw16241802466949684156 : True := ⟨⟩
theorem PySem.W.Fast.tw9315938663221665524 : True := ⟨⟩
theorem PySem.W.Fast.tw10996506086634736982 : True := ⟨⟩
theorem PySem.W.Fast.tw1333364371103165705 : True := ⟨⟩
theorem PySem.W.Fast.tw8603108125212654177 : True := ⟨⟩
theorem PySem.W.Fast.tw1218959903707654005 : True := ⟨⟩
theorem PySem.W.Fast.tw7299303143086499733 : True := ⟨⟩
theorem PySem.W.Fast.tw10205541121877940668 : True := ⟨⟩
theorem PySem.W.Fast.tw16916688483869632129 : True := ⟨⟩
theorem PySem.W.Fast.tw17828083071136270317 : True := ⟨⟩
theorem PySem.W.Fast.tw8703263022893421829 : True := ⟨⟩
theorem PySem.W.Fast.tw6434138532213402376 : True := ⟨⟩
theorem PySem.W.Fast.tw14553827428707814869 : True := ⟨⟩
theorem PySem.W.Fast.tw1620339239838986703 : True := ⟨⟩
theorem PySem.W.Fast.tw2660918139993853925 : True := ⟨⟩
theorem PySem.W.Fast.tw10833955939284561965 : True := ⟨⟩
theorem PySem.W.Fast.tw17532718790514356516 : True := ⟨⟩
theorem PySem.W.Fast.tw9948023125614773506 : True := ⟨⟩
theorem PySem.W.Fast.tw4933834842325187142 : True := ⟨⟩
theorem PySem.W.Fast.tw10938465397075749097 : True := ⟨⟩
theorem PySem.W.Fast.tw17730428716208468724 : True := ⟨⟩
theorem PySem.W.Fast.tw1414301608579184545 : True := ⟨⟩
theorem PySem.W.Fast.tw14223099787259518943 : True := ⟨⟩
theorem PySem.W.Fast.tw17018628822417861297 : True := ⟨⟩
theorem PySem.W.Fast.tw3636048126100218174 : True := ⟨⟩
theorem PySem.W.Fast.tw5706481520468235054 : True := ⟨⟩
theorem PySem.W.Fast.tw8595292554425487202 : True := ⟨⟩
theorem PySem.W.Fast.tw11985326045990495214 : True := ⟨⟩
theorem PySem.W.Fast.tw6929956602132211858 : True := ⟨⟩
theorem PySem.W.Fast.tw13236226663087606529 : True := ⟨⟩
theorem PySem.W.Fast.tw17057272898397164401 : True := ⟨⟩
theorem PySem.W.Fast.tw392140993173905013 : True := ⟨⟩
theorem PySem.W.Fast.tw18056578402003937789 : True := ⟨⟩
theorem PySem.W.Fast.tw8119918657739134586 : True := ⟨⟩
theorem PySem.W.Fast.tw18416463498863911781 : True := ⟨⟩
theorem PySem.W.Fast.tw8537084889766193716 : True := ⟨⟩
theorem PySem.W.Fast.tw17497748084772794779 : True := ⟨⟩
theorem PySem.W.Fast.tw4071324889030633612 : True := ⟨⟩
theorem PySem.W.Fast.tw3131671291697673992 : True := ⟨⟩
theorem PySem.W.Fast.tw662354867322794072 : True := ⟨⟩
theorem PySem.W.Fast.tw4901318299020614408 : True := ⟨⟩
theorem PySem.W.Fast.tw15112985482279097393 : True := ⟨⟩
theorem PySem.W.Fast.tw12635297910168745909 : True := ⟨⟩
theorem PySem.W.Fast.tw18340240734955500558 : True := ⟨⟩
theorem PySem.W.Fast.tw13559156169165276386 : True := ⟨⟩
theorem PySem.W.Fast.tw4558998842232669794 : True := ⟨⟩
theorem PySem.W.Fast.tw7892128664451923741 : True := ⟨⟩
theorem PySem.W.Fast.tw2664551874359636763 : True := ⟨⟩
theorem PySem.W.Fast.tw18220123701641295943 : True := ⟨⟩
theorem PySem.W.Fast.tw4552823106982906706 : True := ⟨⟩
theorem PySem.W.Fast.tw2039238271031011813 : True := ⟨⟩
theorem PySem.W.Fast.tw13759679279233594173 : True := ⟨⟩
theorem PySem.W.Fast.tw6448080314894763839 : True := ⟨⟩
theorem PySem.W.Fast.tw15158043598476960053 : True := ⟨⟩
theorem PySem.W.Fast.tw4679858250743294509 : True := ⟨⟩
theorem PySem.W.Fast.tw9908251947323293946 : True := ⟨⟩
theorem PySem.W.Fast.tw5032809538720368765 : True := ⟨⟩
theorem PySem.W.Fast.tw18345786424863182364 : True := ⟨⟩
theorem PySem.W.Fast.tw505943868828395459 : True := ⟨⟩
theorem PySem.W.Fast.tw9407582987413476825 : True := ⟨⟩
theorem PySem.W.Fast.tw6792406925840432001 : True := ⟨⟩
theorem PySem.W.Fast.tw7276740287692124622 : True := ⟨⟩
theorem PySem.W.Fast.tw1092655722715705105 : True := ⟨⟩
theorem PySem.W.Fast.tw11317593695737139937 : True := ⟨⟩
theorem PySem.W.Fast.tw6817277305950994716 : True := ⟨⟩
theorem PySem.W.Fast.tw12866136484021002089 : True := ⟨⟩
theorem PySem.W.Fast.tw11420187438672877268 : True := ⟨⟩
theorem PySem.W.Fast.tw5111356299099525756 : True := ⟨⟩
theorem PySem.W.Fast.tw7745614565497352828 : True := ⟨⟩
theorem PySem.W.Fast.tw4797165386629745026 : True := ⟨⟩
theorem PySem.W.Fast.tw8727135674562949291 : True := ⟨⟩
theorem PySem.W.Fast.tw14979626087600564940 : True := ⟨⟩
theorem PySem.W.Fast.tw470574548607681690 : True := ⟨⟩
theorem PySem.W.Fast.tw2408619945344806742 : True := ⟨⟩
theorem PySem.W.Fast.tw11452132507678324671 : True := ⟨⟩
theorem PySem.W.Fast.tw3560238982266916124 : True := ⟨⟩
theorem PySem.W.Fast.tw8424611434330503625 : True := ⟨⟩
theorem PySem.W.Fast.tw13900631225919944168 : True := ⟨⟩
theorem PySem.W.Fast.tw9862997608875712007 : True := ⟨⟩
theorem PySem.W.Fast.tw8376441433122354887 : True := ⟨⟩
theorem PySem.W.Fast.tw4980102563643897964 : True := ⟨⟩
theorem PySem.W.Fast.tw15894407043143930727 : True := ⟨⟩
theorem PySem.W.Fast.tw11729385059970357855 : True := ⟨⟩
theorem PySem.W.Fast.tw13036272033356848781 : True := ⟨⟩
theorem PySem.W.Fast.tw13981391230805400906 : True := ⟨⟩
theorem PySem.W.Fast.tw10227693086864044499 : True := ⟨⟩
theorem PySem.W.Fast.tw14326252917377295143 : True := ⟨⟩
theorem PySem.W.Fast.tw6654550962395885724 : True := ⟨⟩
theorem PySem.W.Fast.tw6245536207120538393 : True := ⟨⟩
theorem PySem.W.Fast.tw16414604833108395602 : True := ⟨⟩
theorem PySem.W.Fast.tw16349804527192203551 : True := ⟨⟩
theorem PySem.W.Fast.tw1377046205977697930 : True := ⟨⟩
theorem PySem.W.Fast.tw9564595351457756722 : True := ⟨⟩
theorem PySem.W.Fast.tw387338674003428930 : True := ⟨⟩
theorem PySem.W.Fast.tw7323676302269181137 : True := ⟨⟩
theorem PySem.W.Fast.tw17000458434675057986 : True := ⟨⟩
theorem PySem.W.Fast.tw2719445374943340272 : True := ⟨⟩
theorem PySem.W.Fast.tw16049961110935095269 : True := ⟨⟩
theorem PySem.W.Fast.tw9529234661008812162 : True := ⟨⟩
theorem PySem.W.Fast.tw18211773271919218964 : True := ⟨⟩
theorem PySem.W.Fast.tw7092637314695279628 : True := ⟨⟩
theorem PySem.W.Fast.tw9467589175468403638 : True := ⟨⟩
theorem PySem.W.Fast.tw117213463901210413 : True := ⟨⟩
theorem PySem.W.Fast.tw4775785305629353868 : True := ⟨⟩
theorem PySem.W.Fast.tw14530364306720264245 : True := ⟨⟩
theorem PySem.W.Fast.tw5902227825499142635 : True := ⟨⟩
theorem PySem.W.Fast.tw3764465048917985505 : True := ⟨⟩
theorem PySem.W.Fast.tw17279654841073493023 : True := ⟨⟩
theorem PySem.W.Fast.tw11566699232636054958 : True := ⟨⟩
theorem PySem.W.Fast.tw10424941004445345732 : True := ⟨⟩
theorem PySem.W.Fast.tw13512673800721320934 : True := ⟨⟩
namespace Mine
open_top hd for PySem.Challenge.rw_oh0084_01
-- part EX
theorem e0_2  {A1 A2 : Prop} {G : Prop} (h : A1 ∧ A2) (k : A1 → A2 → G) : G :=
  k h.1 h.2
theorem e0_3  {A1 A2 A3 : Prop} {G : Prop} (h : A1 ∧ A2 ∧ A3) (k : A1 → A2 → A3 → G) : G :=
  e0_2 h.2 (k h.1)
theorem e0_4  {A1 A2 A3 A4 : Prop} {G : Prop} (h : A1 ∧ A2 ∧ A3 ∧ A4) (k : A1 → A2 → A3 → A4 → G) : G :=
  e0_3 h.2 (k h.1)
theorem e0_5  {A1 A2 A3 A4 A5 : Prop} {G : Prop} (h : A1 ∧ A2 ∧ A3 ∧ A4 ∧ A5) (k : A1 → A2 → A3 → A4 → A5 → G) : G :=
  e0_4 h.2 (k h.1)
theorem e0_6  {A1 A2 A3 A4 A5 A6 : Prop} {G : Prop} (h : A1 ∧ A2 ∧ A3 ∧ A4 ∧ A5 ∧ A6) (k : A1 → A2 → A3 → A4 → A5 → A6 → G) : G :=
  e0_5 h.2 (k h.1)
theorem e0_7  {A1 A2 A3 A4 A5 A6 A7 : Prop} {G : Prop} (h : A1 ∧ A2 ∧ A3 ∧ A4 ∧ A5 ∧ A6 ∧ A7) (k : A1 → A2 → A3 → A4 → A5 → A6 → A7 → G) : G :=
  e0_6 h.2 (k h.1)
theorem e0_8  {A1 A2 A3 A4 A5 A6 A7 A8 : Prop} {G : Prop} (h : A1 ∧ A2 ∧ A3 ∧ A4 ∧ A5 ∧ A6 ∧ A7 ∧ A8) (k : A1 → A2 → A3 → A4 → A5 → A6 → A7 → A8 → G) : G :=
  e0_7 h.2 (k h.1)
theorem e0_9  {A1 A2 A3 A4 A5 A6 A7 A8 A9 : Prop} {G : Prop} (h : A1 ∧ A2 ∧ A3 ∧ A4 ∧ A5 ∧ A6 ∧ A7 ∧ A8 ∧ A9) (k : A1 → A2 → A3 → A4 → A5 → A6 → A7 → A8 → A9 → G) : G :=
  e0_8 h.2 (k h.1)
theorem e0_10  {A1 A2 A3 A4 A5 A6 A7 A8 A9 A10 : Prop} {G : Prop} (h : A1 ∧ A2 ∧ A3 ∧ A4 ∧ A5 ∧ A6 ∧ A7 ∧ A8 ∧ A9 ∧ A10) (k : A1 → A2 → A3 → A4 → A5 → A6 → A7 → A8 → A9 → A10 → G) : G :=
  e0_9 h.2 (k h.1)
theorem e0_11  {A1 A2 A3 A4 A5 A6 A7 A8 A9 A10 A11 : Prop} {G : Prop} (h : A1 ∧ A2 ∧ A3 ∧ A4 ∧ A5 ∧ A6 ∧ A7 ∧ A8 ∧ A9 ∧ A10 ∧ A11) (k : A1 → A2 → A3 → A4 → A5 → A6 → A7 → A8 → A9 → A10 → A11 → G) : G :=
  e0_10 h.2 (k h.1)
theorem e0_12  {A1 A2 A3 A4 A5 A6 A7 A8 A9 A10 A11 A12 : Prop} {G : Prop} (h : A1 ∧ A2 ∧ A3 ∧ A4 ∧ A5 ∧ A6 ∧ A7 ∧ A8 ∧ A9 ∧ A10 ∧ A11 ∧ A12) (k : A1 → A2 → A3 → A4 → A5 → A6 → A7 → A8 → A9 → A10 → A11 → A12 → G) : G :=
  e0_11 h.2 (k h.1)
theorem e0_13  {A1 A2 A3 A4 A5 A6 A7 A8 A9 A10 A11 A12 A13 : Prop} {G : Prop} (h : A1 ∧ A2 ∧ A3 ∧ A4 ∧ A5 ∧ A6 ∧ A7 ∧ A8 ∧ A9 ∧ A10 ∧ A11 ∧ A12 ∧ A13) (k : A1 → A2 → A3 → A4 → A5 → A6 → A7 → A8 → A9 → A10 → A11 → A12 → A13 → G) : G :=
  e0_12 h.2 (k h.1)
theorem e1_2 {α1 : Sort _} {A1 A2 : α1 → Prop} {G : Prop} (h : ∃ a1, A1 a1 ∧ A2 a1) (k : ∀ a1, A1 a1 → A2 a1 → G) : G :=
  h.elim fun a1 h => e0_2 h (k a1)
theorem e1_3 {α1 : Sort _} {A1 A2 A3 : α1 → Prop} {G : Prop} (h : ∃ a1, A1 a1 ∧ A2 a1 ∧ A3 a1) (k : ∀ a1, A1 a1 → A2 a1 → A3 a1 → G) : G :=
  h.elim fun a1 h => e0_3 h (k a1)
theorem e1_4 {α1 : Sort _} {A1 A2 A3 A4 : α1 → Prop} {G : Prop} (h : ∃ a1, A1 a1 ∧ A2 a1 ∧ A3 a1 ∧ A4 a1) (k : ∀ a1, A1 a1 → A2 a1 → A3 a1 → A4 a1 → G) : G :=
  h.elim fun a1 h => e0_4 h (k a1)
theorem e1_6 {α1 : Sort _} {A1 A2 A3 A4 A5 A6 : α1 → Prop} {G : Prop} (h : ∃ a1, A1 a1 ∧ A2 a1 ∧ A3 a1 ∧ A4 a1 ∧ A5 a1 ∧ A6 a1) (k : ∀ a1, A1 a1 → A2 a1 → A3 a1 → A4 a1 → A5 a1 → A6 a1 → G) : G :=
  h.elim fun a1 h => e0_6 h (k a1)
theorem e2_1 {α1 : Sort _} {α2 : Sort _} {A1 : α1 → α2 → Prop} {G : Prop} (h : ∃ a1 a2, A1 a1 a2) (k : ∀ a1 a2, A1 a1 a2 → G) : G :=
  h.elim fun a1 h => h.elim fun a2 h => k a1 a2 h
theorem e2_2 {α1 : Sort _} {α2 : Sort _} {A1 A2 : α1 → α2 → Prop} {G : Prop} (h : ∃ a1 a2, A1 a1 a2 ∧ A2 a1 a2) (k : ∀ a1 a2, A1 a1 a2 → A2 a1 a2 → G) : G :=
  h.elim fun a1 h => h.elim fun a2 h => e0_2 h (k a1 a2)
theorem e2_3 {α1 : Sort _} {α2 : Sort _} {A1 A2 A3 : α1 → α2 → Prop} {G : Prop} (h : ∃ a1 a2, A1 a1 a2 ∧ A2 a1 a2 ∧ A3 a1 a2) (k : ∀ a1 a2, A1 a1 a2 → A2 a1 a2 → A3 a1 a2 → G) : G :=
  h.elim fun a1 h => h.elim fun a2 h => e0_3 h (k a1 a2)
theorem e2_4 {α1 : Sort _} {α2 : Sort _} {A1 A2 A3 A4 : α1 → α2 → Prop} {G : Prop} (h : ∃ a1 a2, A1 a1 a2 ∧ A2 a1 a2 ∧ A3 a1 a2 ∧ A4 a1 a2) (k : ∀ a1 a2, A1 a1 a2 → A2 a1 a2 → A3 a1 a2 → A4 a1 a2 → G) : G :=
  h.elim fun a1 h => h.elim fun a2 h => e0_4 h (k a1 a2)
theorem e2_5 {α1 : Sort _} {α2 : Sort _} {A1 A2 A3 A4 A5 : α1 → α2 → Prop} {G : Prop} (h : ∃ a1 a2, A1 a1 a2 ∧ A2 a1 a2 ∧ A3 a1 a2 ∧ A4 a1 a2 ∧ A5 a1 a2) (k : ∀ a1 a2, A1 a1 a2 → A2 a1 a2 → A3 a1 a2 → A4 a1 a2 → A5 a1 a2 → G) : G :=
  h.elim fun a1 h => h.elim fun a2 h => e0_5 h (k a1 a2)
theorem e2_6 {α1 : Sort _} {α2 : Sort _} {A1 A2 A3 A4 A5 A6 : α1 → α2 → Prop} {G : Prop} (h : ∃ a1 a2, A1 a1 a2 ∧ A2 a1 a2 ∧ A3 a1 a2 ∧ A4 a1 a2 ∧ A5 a1 a2 ∧ A6 a1 a2) (k : ∀ a1 a2, A1 a1 a2 → A2 a1 a2 → A3 a1 a2 → A4 a1 a2 → A5 a1 a2 → A6 a1 a2 → G) : G :=
  h.elim fun a1 h => h.elim fun a2 h => e0_6 h (k a1 a2)
theorem e2_7 {α1 : Sort _} {α2 : Sort _} {A1 A2 A3 A4 A5 A6 A7 : α1 → α2 → Prop} {G : Prop} (h : ∃ a1 a2, A1 a1 a2 ∧ A2 a1 a2 ∧ A3 a1 a2 ∧ A4 a1 a2 ∧ A5 a1 a2 ∧ A6 a1 a2 ∧ A7 a1 a2) (k : ∀ a1 a2, A1 a1 a2 → A2 a1 a2 → A3 a1 a2 → A4 a1 a2 → A5 a1 a2 → A6 a1 a2 → A7 a1 a2 → G) : G :=
  h.elim fun a1 h => h.elim fun a2 h => e0_7 h (k a1 a2)
theorem e2_8 {α1 : Sort _} {α2 : Sort _} {A1 A2 A3 A4 A5 A6 A7 A8 : α1 → α2 → Prop} {G : Prop} (h : ∃ a1 a2, A1 a1 a2 ∧ A2 a1 a2 ∧ A3 a1 a2 ∧ A4 a1 a2 ∧ A5 a1 a2 ∧ A6 a1 a2 ∧ A7 a1 a2 ∧ A8 a1 a2) (k : ∀ a1 a2, A1 a1 a2 → A2 a1 a2 → A3 a1 a2 → A4 a1 a2 → A5 a1 a2 → A6 a1 a2 → A7 a1 a2 → A8 a1 a2 → G) : G :=
  h.elim fun a1 h => h.elim fun a2 h => e0_8 h (k a1 a2)
theorem e3_2 {α1 : Sort _} {α2 : Sort _} {α3 : Sort _} {A1 A2 : α1 → α2 → α3 → Prop} {G : Prop} (h : ∃ a1 a2 a3, A1 a1 a2 a3 ∧ A2 a1 a2 a3) (k : ∀ a1 a2 a3, A1 a1 a2 a3 → A2 a1 a2 a3 → G) : G :=
  h.elim fun a1 h => h.elim fun a2 h => h.elim fun a3 h => e0_2 h (k a1 a2 a3)
theorem e3_3 {α1 : Sort _} {α2 : Sort _} {α3 : Sort _} {A1 A2 A3 : α1 → α2 → α3 → Prop} {G : Prop} (h : ∃ a1 a2 a3, A1 a1 a2 a3 ∧ A2 a1 a2 a3 ∧ A3 a1 a2 a3) (k : ∀ a1 a2 a3, A1 a1 a2 a3 → A2 a1 a2 a3 → A3 a1 a2 a3 → G) : G :=
  h.elim fun a1 h => h.elim fun a2 h => h.elim fun a3 h => e0_3 h (k a1 a2 a3)
theorem e3_4 {α1 : Sort _} {α2 : Sort _} {α3 : Sort _} {A1 A2 A3 A4 : α1 → α2 → α3 → Prop} {G : Prop} (h : ∃ a1 a2 a3, A1 a1 a2 a3 ∧ A2 a1 a2 a3 ∧ A3 a1 a2 a3 ∧ A4 a1 a2 a3) (k : ∀ a1 a2 a3, A1 a1 a2 a3 → A2 a1 a2 a3 → A3 a1 a2 a3 → A4 a1 a2 a3 → G) : G :=
  h.elim fun a1 h => h.elim fun a2 h => h.elim fun a3 h => e0_4 h (k a1 a2 a3)
theorem e3_5 {α1 : Sort _} {α2 : Sort _} {α3 : Sort _} {A1 A2 A3 A4 A5 : α1 → α2 → α3 → Prop} {G : Prop} (h : ∃ a1 a2 a3, A1 a1 a2 a3 ∧ A2 a1 a2 a3 ∧ A3 a1 a2 a3 ∧ A4 a1 a2 a3 ∧ A5 a1 a2 a3) (k : ∀ a1 a2 a3, A1 a1 a2 a3 → A2 a1 a2 a3 → A3 a1 a2 a3 → A4 a1 a2 a3 → A5 a1 a2 a3 → G) : G :=
  h.elim fun a1 h => h.elim fun a2 h => h.elim fun a3 h => e0_5 h (k a1 a2 a3)
theorem e3_6 {α1 : Sort _} {α2 : Sort _} {α3 : Sort _} {A1 A2 A3 A4 A5 A6 : α1 → α2 → α3 → Prop} {G : Prop} (h : ∃ a1 a2 a3, A1 a1 a2 a3 ∧ A2 a1 a2 a3 ∧ A3 a1 a2 a3 ∧ A4 a1 a2 a3 ∧ A5 a1 a2 a3 ∧ A6 a1 a2 a3) (k : ∀ a1 a2 a3, A1 a1 a2 a3 → A2 a1 a2 a3 → A3 a1 a2 a3 → A4 a1 a2 a3 → A5 a1 a2 a3 → A6 a1 a2 a3 → G) : G :=
  h.elim fun a1 h => h.elim fun a2 h => h.elim fun a3 h => e0_6 h (k a1 a2 a3)
theorem e3_7 {α1 : Sort _} {α2 : Sort _} {α3 : Sort _} {A1 A2 A3 A4 A5 A6 A7 : α1 → α2 → α3 → Prop} {G : Prop} (h : ∃ a1 a2 a3, A1 a1 a2 a3 ∧ A2 a1 a2 a3 ∧ A3 a1 a2 a3 ∧ A4 a1 a2 a3 ∧ A5 a1 a2 a3 ∧ A6 a1 a2 a3 ∧ A7 a1 a2 a3) (k : ∀ a1 a2 a3, A1 a1 a2 a3 → A2 a1 a2 a3 → A3 a1 a2 a3 → A4 a1 a2 a3 → A5 a1 a2 a3 → A6 a1 a2 a3 → A7 a1 a2 a3 → G) : G :=
  h.elim fun a1 h => h.elim fun a2 h => h.elim fun a3 h => e0_7 h (k a1 a2 a3)
theorem e3_9 {α1 : Sort _} {α2 : Sort _} {α3 : Sort _} {A1 A2 A3 A4 A5 A6 A7 A8 A9 : α1 → α2 → α3 → Prop} {G : Prop} (h : ∃ a1 a2 a3, A1 a1 a2 a3 ∧ A2 a1 a2 a3 ∧ A3 a1 a2 a3 ∧ A4 a1 a2 a3 ∧ A5 a1 a2 a3 ∧ A6 a1 a2 a3 ∧ A7 a1 a2 a3 ∧ A8 a1 a2 a3 ∧ A9 a1 a2 a3) (k : ∀ a1 a2 a3, A1 a1 a2 a3 → A2 a1 a2 a3 → A3 a1 a2 a3 → A4 a1 a2 a3 → A5 a1 a2 a3 → A6 a1 a2 a3 → A7 a1 a2 a3 → A8 a1 a2 a3 → A9 a1 a2 a3 → G) : G :=
  h.elim fun a1 h => h.elim fun a2 h => h.elim fun a3 h => e0_9 h (k a1 a2 a3)
theorem e3_10 {α1 : Sort _} {α2 : Sort _} {α3 : Sort _} {A1 A2 A3 A4 A5 A6 A7 A8 A9 A10 : α1 → α2 → α3 → Prop} {G : Prop} (h : ∃ a1 a2 a3, A1 a1 a2 a3 ∧ A2 a1 a2 a3 ∧ A3 a1 a2 a3 ∧ A4 a1 a2 a3 ∧ A5 a1 a2 a3 ∧ A6 a1 a2 a3 ∧ A7 a1 a2 a3 ∧ A8 a1 a2 a3 ∧ A9 a1 a2 a3 ∧ A10 a1 a2 a3) (k : ∀ a1 a2 a3, A1 a1 a2 a3 → A2 a1 a2 a3 → A3 a1 a2 a3 → A4 a1 a2 a3 → A5 a1 a2 a3 → A6 a1 a2 a3 → A7 a1 a2 a3 → A8 a1 a2 a3 → A9 a1 a2 a3 → A10 a1 a2 a3 → G) : G :=
  h.elim fun a1 h => h.elim fun a2 h => h.elim fun a3 h => e0_10 h (k a1 a2 a3)
theorem e4_2 {α1 : Sort _} {α2 : Sort _} {α3 : Sort _} {α4 : Sort _} {A1 A2 : α1 → α2 → α3 → α4 → Prop} {G : Prop} (h : ∃ a1 a2 a3 a4, A1 a1 a2 a3 a4 ∧ A2 a1 a2 a3 a4) (k : ∀ a1 a2 a3 a4, A1 a1 a2 a3 a4 → A2 a1 a2 a3 a4 → G) : G :=
  h.elim fun a1 h => h.elim fun a2 h => h.elim fun a3 h => h.elim fun a4 h => e0_2 h (k a1 a2 a3 a4)
theorem e4_5 {α1 : Sort _} {α2 : Sort _} {α3 : Sort _} {α4 : Sort _} {A1 A2 A3 A4 A5 : α1 → α2 → α3 → α4 → Prop} {G : Prop} (h : ∃ a1 a2 a3 a4, A1 a1 a2 a3 a4 ∧ A2 a1 a2 a3 a4 ∧ A3 a1 a2 a3 a4 ∧ A4 a1 a2 a3 a4 ∧ A5 a1 a2 a3 a4) (k : ∀ a1 a2 a3 a4, A1 a1 a2 a3 a4 → A2 a1 a2 a3 a4 → A3 a1 a2 a3 a4 → A4 a1 a2 a3 a4 → A5 a1 a2 a3 a4 → G) : G :=
  h.elim fun a1 h => h.elim fun a2 h => h.elim fun a3 h => h.elim fun a4 h => e0_5 h (k a1 a2 a3 a4)
theorem e4_6 {α1 : Sort _} {α2 : Sort _} {α3 : Sort _} {α4 : Sort _} {A1 A2 A3 A4 A5 A6 : α1 → α2 → α3 → α4 → Prop} {G : Prop} (h : ∃ a1 a2 a3 a4, A1 a1 a2 a3 a4 ∧ A2 a1 a2 a3 a4 ∧ A3 a1 a2 a3 a4 ∧ A4 a1 a2 a3 a4 ∧ A5 a1 a2 a3 a4 ∧ A6 a1 a2 a3 a4) (k : ∀ a1 a2 a3 a4, A1 a1 a2 a3 a4 → A2 a1 a2 a3 a4 → A3 a1 a2 a3 a4 → A4 a1 a2 a3 a4 → A5 a1 a2 a3 a4 → A6 a1 a2 a3 a4 → G) : G :=
  h.elim fun a1 h => h.elim fun a2 h => h.elim fun a3 h => h.elim fun a4 h => e0_6 h (k a1 a2 a3 a4)
theorem e4_7 {α1 : Sort _} {α2 : Sort _} {α3 : Sort _} {α4 : Sort _} {A1 A2 A3 A4 A5 A6 A7 : α1 → α2 → α3 → α4 → Prop} {G : Prop} (h : ∃ a1 a2 a3 a4, A1 a1 a2 a3 a4 ∧ A2 a1 a2 a3 a4 ∧ A3 a1 a2 a3 a4 ∧ A4 a1 a2 a3 a4 ∧ A5 a1 a2 a3 a4 ∧ A6 a1 a2 a3 a4 ∧ A7 a1 a2 a3 a4) (k : ∀ a1 a2 a3 a4, A1 a1 a2 a3 a4 → A2 a1 a2 a3 a4 → A3 a1 a2 a3 a4 → A4 a1 a2 a3 a4 → A5 a1 a2 a3 a4 → A6 a1 a2 a3 a4 → A7 a1 a2 a3 a4 → G) : G :=
  h.elim fun a1 h => h.elim fun a2 h => h.elim fun a3 h => h.elim fun a4 h => e0_7 h (k a1 a2 a3 a4)
theorem e4_9 {α1 : Sort _} {α2 : Sort _} {α3 : Sort _} {α4 : Sort _} {A1 A2 A3 A4 A5 A6 A7 A8 A9 : α1 → α2 → α3 → α4 → Prop} {G : Prop} (h : ∃ a1 a2 a3 a4, A1 a1 a2 a3 a4 ∧ A2 a1 a2 a3 a4 ∧ A3 a1 a2 a3 a4 ∧ A4 a1 a2 a3 a4 ∧ A5 a1 a2 a3 a4 ∧ A6 a1 a2 a3 a4 ∧ A7 a1 a2 a3 a4 ∧ A8 a1 a2 a3 a4 ∧ A9 a1 a2 a3 a4) (k : ∀ a1 a2 a3 a4, A1 a1 a2 a3 a4 → A2 a1 a2 a3 a4 → A3 a1 a2 a3 a4 → A4 a1 a2 a3 a4 → A5 a1 a2 a3 a4 → A6 a1 a2 a3 a4 → A7 a1 a2 a3 a4 → A8 a1 a2 a3 a4 → A9 a1 a2 a3 a4 → G) : G :=
  h.elim fun a1 h => h.elim fun a2 h => h.elim fun a3 h => h.elim fun a4 h => e0_9 h (k a1 a2 a3 a4)
theorem e4_11 {α1 : Sort _} {α2 : Sort _} {α3 : Sort _} {α4 : Sort _} {A1 A2 A3 A4 A5 A6 A7 A8 A9 A10 A11 : α1 → α2 → α3 → α4 → Prop} {G : Prop} (h : ∃ a1 a2 a3 a4, A1 a1 a2 a3 a4 ∧ A2 a1 a2 a3 a4 ∧ A3 a1 a2 a3 a4 ∧ A4 a1 a2 a3 a4 ∧ A5 a1 a2 a3 a4 ∧ A6 a1 a2 a3 a4 ∧ A7 a1 a2 a3 a4 ∧ A8 a1 a2 a3 a4 ∧ A9 a1 a2 a3 a4 ∧ A10 a1 a2 a3 a4 ∧ A11 a1 a2 a3 a4) (k : ∀ a1 a2 a3 a4, A1 a1 a2 a3 a4 → A2 a1 a2 a3 a4 → A3 a1 a2 a3 a4 → A4 a1 a2 a3 a4 → A5 a1 a2 a3 a4 → A6 a1 a2 a3 a4 → A7 a1 a2 a3 a4 → A8 a1 a2 a3 a4 → A9 a1 a2 a3 a4 → A10 a1 a2 a3 a4 → A11 a1 a2 a3 a4 → G) : G :=
  h.elim fun a1 h => h.elim fun a2 h => h.elim fun a3 h => h.elim fun a4 h => e0_11 h (k a1 a2 a3 a4)
theorem e5_2 {α1 : Sort _} {α2 : Sort _} {α3 : Sort _} {α4 : Sort _} {α5 : Sort _} {A1 A2 : α1 → α2 → α3 → α4 → α5 → Prop} {G : Prop} (h : ∃ a1 a2 a3 a4 a5, A1 a1 a2 a3 a4 a5 ∧ A2 a1 a2 a3 a4 a5) (k : ∀ a1 a2 a3 a4 a5, A1 a1 a2 a3 a4 a5 → A2 a1 a2 a3 a4 a5 → G) : G :=
  h.elim fun a1 h => h.elim fun a2 h => h.elim fun a3 h => h.elim fun a4 h => h.elim fun a5 h => e0_2 h (k a1 a2 a3 a4 a5)
theorem e5_5 {α1 : Sort _} {α2 : Sort _} {α3 : Sort _} {α4 : Sort _} {α5 : Sort _} {A1 A2 A3 A4 A5 : α1 → α2 → α3 → α4 → α5 → Prop} {G : Prop} (h : ∃ a1 a2 a3 a4 a5, A1 a1 a2 a3 a4 a5 ∧ A2 a1 a2 a3 a4 a5 ∧ A3 a1 a2 a3 a4 a5 ∧ A4 a1 a2 a3 a4 a5 ∧ A5 a1 a2 a3 a4 a5) (k : ∀ a1 a2 a3 a4 a5, A1 a1 a2 a3 a4 a5 → A2 a1 a2 a3 a4 a5 → A3 a1 a2 a3 a4 a5 → A4 a1 a2 a3 a4 a5 → A5 a1 a2 a3 a4 a5 → G) : G :=
  h.elim fun a1 h => h.elim fun a2 h => h.elim fun a3 h => h.elim fun a4 h => h.elim fun a5 h => e0_5 h (k a1 a2 a3 a4 a5)
theorem e5_6 {α1 : Sort _} {α2 : Sort _} {α3 : Sort _} {α4 : Sort _} {α5 : Sort _} {A1 A2 A3 A4 A5 A6 : α1 → α2 → α3 → α4 → α5 → Prop} {G : Prop} (h : ∃ a1 a2 a3 a4 a5, A1 a1 a2 a3 a4 a5 ∧ A2 a1 a2 a3 a4 a5 ∧ A3 a1 a2 a3 a4 a5 ∧ A4 a1 a2 a3 a4 a5 ∧ A5 a1 a2 a3 a4 a5 ∧ A6 a1 a2 a3 a4 a5) (k : ∀ a1 a2 a3 a4 a5, A1 a1 a2 a3 a4 a5 → A2 a1 a2 a3 a4 a5 → A3 a1 a2 a3 a4 a5 → A4 a1 a2 a3 a4 a5 → A5 a1 a2 a3 a4 a5 → A6 a1 a2 a3 a4 a5 → G) : G :=
  h.elim fun a1 h => h.elim fun a2 h => h.elim fun a3 h => h.elim fun a4 h => h.elim fun a5 h => e0_6 h (k a1 a2 a3 a4 a5)
theorem e5_7 {α1 : Sort _} {α2 : Sort _} {α3 : Sort _} {α4 : Sort _} {α5 : Sort _} {A1 A2 A3 A4 A5 A6 A7 : α1 → α2 → α3 → α4 → α5 → Prop} {G : Prop} (h : ∃ a1 a2 a3 a4 a5, A1 a1 a2 a3 a4 a5 ∧ A2 a1 a2 a3 a4 a5 ∧ A3 a1 a2 a3 a4 a5 ∧ A4 a1 a2 a3 a4 a5 ∧ A5 a1 a2 a3 a4 a5 ∧ A6 a1 a2 a3 a4 a5 ∧ A7 a1 a2 a3 a4 a5) (k : ∀ a1 a2 a3 a4 a5, A1 a1 a2 a3 a4 a5 → A2 a1 a2 a3 a4 a5 → A3 a1 a2 a3 a4 a5 → A4 a1 a2 a3 a4 a5 → A5 a1 a2 a3 a4 a5 → A6 a1 a2 a3 a4 a5 → A7 a1 a2 a3 a4 a5 → G) : G :=
  h.elim fun a1 h => h.elim fun a2 h => h.elim fun a3 h => h.elim fun a4 h => h.elim fun a5 h => e0_7 h (k a1 a2 a3 a4 a5)
theorem e5_8 {α1 : Sort _} {α2 : Sort _} {α3 : Sort _} {α4 : Sort _} {α5 : Sort _} {A1 A2 A3 A4 A5 A6 A7 A8 : α1 → α2 → α3 → α4 → α5 → Prop} {G : Prop} (h : ∃ a1 a2 a3 a4 a5, A1 a1 a2 a3 a4 a5 ∧ A2 a1 a2 a3 a4 a5 ∧ A3 a1 a2 a3 a4 a5 ∧ A4 a1 a2 a3 a4 a5 ∧ A5 a1 a2 a3 a4 a5 ∧ A6 a1 a2 a3 a4 a5 ∧ A7 a1 a2 a3 a4 a5 ∧ A8 a1 a2 a3 a4 a5) (k : ∀ a1 a2 a3 a4 a5, A1 a1 a2 a3 a4 a5 → A2 a1 a2 a3 a4 a5 → A3 a1 a2 a3 a4 a5 → A4 a1 a2 a3 a4 a5 → A5 a1 a2 a3 a4 a5 → A6 a1 a2 a3 a4 a5 → A7 a1 a2 a3 a4 a5 → A8 a1 a2 a3 a4 a5 → G) : G :=
  h.elim fun a1 h => h.elim fun a2 h => h.elim fun a3 h => h.elim fun a4 h => h.elim fun a5 h => e0_8 h (k a1 a2 a3 a4 a5)
theorem e5_9 {α1 : Sort _} {α2 : Sort _} {α3 : Sort _} {α4 : Sort _} {α5 : Sort _} {A1 A2 A3 A4 A5 A6 A7 A8 A9 : α1 → α2 → α3 → α4 → α5 → Prop} {G : Prop} (h : ∃ a1 a2 a3 a4 a5, A1 a1 a2 a3 a4 a5 ∧ A2 a1 a2 a3 a4 a5 ∧ A3 a1 a2 a3 a4 a5 ∧ A4 a1 a2 a3 a4 a5 ∧ A5 a1 a2 a3 a4 a5 ∧ A6 a1 a2 a3 a4 a5 ∧ A7 a1 a2 a3 a4 a5 ∧ A8 a1 a2 a3 a4 a5 ∧ A9 a1 a2 a3 a4 a5) (k : ∀ a1 a2 a3 a4 a5, A1 a1 a2 a3 a4 a5 → A2 a1 a2 a3 a4 a5 → A3 a1 a2 a3 a4 a5 → A4 a1 a2 a3 a4 a5 → A5 a1 a2 a3 a4 a5 → A6 a1 a2 a3 a4 a5 → A7 a1 a2 a3 a4 a5 → A8 a1 a2 a3 a4 a5 → A9 a1 a2 a3 a4 a5 → G) : G :=
  h.elim fun a1 h => h.elim fun a2 h => h.elim fun a3 h => h.elim fun a4 h => h.elim fun a5 h => e0_9 h (k a1 a2 a3 a4 a5)
theorem e6_4 {α1 : Sort _} {α2 : Sort _} {α3 : Sort _} {α4 : Sort _} {α5 : Sort _} {α6 : Sort _} {A1 A2 A3 A4 : α1 → α2 → α3 → α4 → α5 → α6 → Prop} {G : Prop} (h : ∃ a1 a2 a3 a4 a5 a6, A1 a1 a2 a3 a4 a5 a6 ∧ A2 a1 a2 a3 a4 a5 a6 ∧ A3 a1 a2 a3 a4 a5 a6 ∧ A4 a1 a2 a3 a4 a5 a6) (k : ∀ a1 a2 a3 a4 a5 a6, A1 a1 a2 a3 a4 a5 a6 → A2 a1 a2 a3 a4 a5 a6 → A3 a1 a2 a3 a4 a5 a6 → A4 a1 a2 a3 a4 a5 a6 → G) : G :=
  h.elim fun a1 h => h.elim fun a2 h => h.elim fun a3 h => h.elim fun a4 h => h.elim fun a5 h => h.elim fun a6 h => e0_4 h (k a1 a2 a3 a4 a5 a6)
theorem e6_8 {α1 : Sort _} {α2 : Sort _} {α3 : Sort _} {α4 : Sort _} {α5 : Sort _} {α6 : Sort _} {A1 A2 A3 A4 A5 A6 A7 A8 : α1 → α2 → α3 → α4 → α5 → α6 → Prop} {G : Prop} (h : ∃ a1 a2 a3 a4 a5 a6, A1 a1 a2 a3 a4 a5 a6 ∧ A2 a1 a2 a3 a4 a5 a6 ∧ A3 a1 a2 a3 a4 a5 a6 ∧ A4 a1 a2 a3 a4 a5 a6 ∧ A5 a1 a2 a3 a4 a5 a6 ∧ A6 a1 a2 a3 a4 a5 a6 ∧ A7 a1 a2 a3 a4 a5 a6 ∧ A8 a1 a2 a3 a4 a5 a6) (k : ∀ a1 a2 a3 a4 a5 a6, A1 a1 a2 a3 a4 a5 a6 → A2 a1 a2 a3 a4 a5 a6 → A3 a1 a2 a3 a4 a5 a6 → A4 a1 a2 a3 a4 a5 a6 → A5 a1 a2 a3 a4 a5 a6 → A6 a1 a2 a3 a4 a5 a6 → A7 a1 a2 a3 a4 a5 a6 → A8 a1 a2 a3 a4 a5 a6 → G) : G :=
  h.elim fun a1 h => h.elim fun a2 h => h.elim fun a3 h => h.elim fun a4 h => h.elim fun a5 h => h.elim fun a6 h => e0_8 h (k a1 a2 a3 a4 a5 a6)
theorem e6_12 {α1 : Sort _} {α2 : Sort _} {α3 : Sort _} {α4 : Sort _} {α5 : Sort _} {α6 : Sort _} {A1 A2 A3 A4 A5 A6 A7 A8 A9 A10 A11 A12 : α1 → α2 → α3 → α4 → α5 → α6 → Prop} {G : Prop} (h : ∃ a1 a2 a3 a4 a5 a6, A1 a1 a2 a3 a4 a5 a6 ∧ A2 a1 a2 a3 a4 a5 a6 ∧ A3 a1 a2 a3 a4 a5 a6 ∧ A4 a1 a2 a3 a4 a5 a6 ∧ A5 a1 a2 a3 a4 a5 a6 ∧ A6 a1 a2 a3 a4 a5 a6 ∧ A7 a1 a2 a3 a4 a5 a6 ∧ A8 a1 a2 a3 a4 a5 a6 ∧ A9 a1 a2 a3 a4 a5 a6 ∧ A10 a1 a2 a3 a4 a5 a6 ∧ A11 a1 a2 a3 a4 a5 a6 ∧ A12 a1 a2 a3 a4 a5 a6) (k : ∀ a1 a2 a3 a4 a5 a6, A1 a1 a2 a3 a4 a5 a6 → A2 a1 a2 a3 a4 a5 a6 → A3 a1 a2 a3 a4 a5 a6 → A4 a1 a2 a3 a4 a5 a6 → A5 a1 a2 a3 a4 a5 a6 → A6 a1 a2 a3 a4 a5 a6 → A7 a1 a2 a3 a4 a5 a6 → A8 a1 a2 a3 a4 a5 a6 → A9 a1 a2 a3 a4 a5 a6 → A10 a1 a2 a3 a4 a5 a6 → A11 a1 a2 a3 a4 a5 a6 → A12 a1 a2 a3 a4 a5 a6 → G) : G :=
  h.elim fun a1 h => h.elim fun a2 h => h.elim fun a3 h => h.elim fun a4 h => h.elim fun a5 h => h.elim fun a6 h => e0_12 h (k a1 a2 a3 a4 a5 a6)
theorem e6_13 {α1 : Sort _} {α2 : Sort _} {α3 : Sort _} {α4 : Sort _} {α5 : Sort _} {α6 : Sort _} {A1 A2 A3 A4 A5 A6 A7 A8 A9 A10 A11 A12 A13 : α1 → α2 → α3 → α4 → α5 → α6 → Prop} {G : Prop} (h : ∃ a1 a2 a3 a4 a5 a6, A1 a1 a2 a3 a4 a5 a6 ∧ A2 a1 a2 a3 a4 a5 a6 ∧ A3 a1 a2 a3 a4 a5 a6 ∧ A4 a1 a2 a3 a4 a5 a6 ∧ A5 a1 a2 a3 a4 a5 a6 ∧ A6 a1 a2 a3 a4 a5 a6 ∧ A7 a1 a2 a3 a4 a5 a6 ∧ A8 a1 a2 a3 a4 a5 a6 ∧ A9 a1 a2 a3 a4 a5 a6 ∧ A10 a1 a2 a3 a4 a5 a6 ∧ A11 a1 a2 a3 a4 a5 a6 ∧ A12 a1 a2 a3 a4 a5 a6 ∧ A13 a1 a2 a3 a4 a5 a6) (k : ∀ a1 a2 a3 a4 a5 a6, A1 a1 a2 a3 a4 a5 a6 → A2 a1 a2 a3 a4 a5 a6 → A3 a1 a2 a3 a4 a5 a6 → A4 a1 a2 a3 a4 a5 a6 → A5 a1 a2 a3 a4 a5 a6 → A6 a1 a2 a3 a4 a5 a6 → A7 a1 a2 a3 a4 a5 a6 → A8 a1 a2 a3 a4 a5 a6 → A9 a1 a2 a3 a4 a5 a6 → A10 a1 a2 a3 a4 a5 a6 → A11 a1 a2 a3 a4 a5 a6 → A12 a1 a2 a3 a4 a5 a6 → A13 a1 a2 a3 a4 a5 a6 → G) : G :=
  h.elim fun a1 h => h.elim fun a2 h => h.elim fun a3 h => h.elim fun a4 h => h.elim fun a5 h => h.elim fun a6 h => e0_13 h (k a1 a2 a3 a4 a5 a6)
theorem e7_2 {α1 : Sort _} {α2 : Sort _} {α3 : Sort _} {α4 : Sort _} {α5 : Sort _} {α6 : Sort _} {α7 : Sort _} {A1 A2 : α1 → α2 → α3 → α4 → α5 → α6 → α7 → Prop} {G : Prop} (h : ∃ a1 a2 a3 a4 a5 a6 a7, A1 a1 a2 a3 a4 a5 a6 a7 ∧ A2 a1 a2 a3 a4 a5 a6 a7) (k : ∀ a1 a2 a3 a4 a5 a6 a7, A1 a1 a2 a3 a4 a5 a6 a7 → A2 a1 a2 a3 a4 a5 a6 a7 → G) : G :=
  h.elim fun a1 h => h.elim fun a2 h => h.elim fun a3 h => h.elim fun a4 h => h.elim fun a5 h => h.elim fun a6 h => h.elim fun a7 h => e0_2 h (k a1 a2 a3 a4 a5 a6 a7)
theorem e7_5 {α1 : Sort _} {α2 : Sort _} {α3 : Sort _} {α4 : Sort _} {α5 : Sort _} {α6 : Sort _} {α7 : Sort _} {A1 A2 A3 A4 A5 : α1 → α2 → α3 → α4 → α5 → α6 → α7 → Prop} {G : Prop} (h : ∃ a1 a2 a3 a4 a5 a6 a7, A1 a1 a2 a3 a4 a5 a6 a7 ∧ A2 a1 a2 a3 a4 a5 a6 a7 ∧ A3 a1 a2 a3 a4 a5 a6 a7 ∧ A4 a1 a2 a3 a4 a5 a6 a7 ∧ A5 a1 a2 a3 a4 a5 a6 a7) (k : ∀ a1 a2 a3 a4 a5 a6 a7, A1 a1 a2 a3 a4 a5 a6 a7 → A2 a1 a2 a3 a4 a5 a6 a7 → A3 a1 a2 a3 a4 a5 a6 a7 → A4 a1 a2 a3 a4 a5 a6 a7 → A5 a1 a2 a3 a4 a5 a6 a7 → G) : G :=
  h.elim fun a1 h => h.elim fun a2 h => h.elim fun a3 h => h.elim fun a4 h => h.elim fun a5 h => h.elim fun a6 h => h.elim fun a7 h => e0_5 h (k a1 a2 a3 a4 a5 a6 a7)
theorem e7_6 {α1 : Sort _} {α2 : Sort _} {α3 : Sort _} {α4 : Sort _} {α5 : Sort _} {α6 : Sort _} {α7 : Sort _} {A1 A2 A3 A4 A5 A6 : α1 → α2 → α3 → α4 → α5 → α6 → α7 → Prop} {G : Prop} (h : ∃ a1 a2 a3 a4 a5 a6 a7, A1 a1 a2 a3 a4 a5 a6 a7 ∧ A2 a1 a2 a3 a4 a5 a6 a7 ∧ A3 a1 a2 a3 a4 a5 a6 a7 ∧ A4 a1 a2 a3 a4 a5 a6 a7 ∧ A5 a1 a2 a3 a4 a5 a6 a7 ∧ A6 a1 a2 a3 a4 a5 a6 a7) (k : ∀ a1 a2 a3 a4 a5 a6 a7, A1 a1 a2 a3 a4 a5 a6 a7 → A2 a1 a2 a3 a4 a5 a6 a7 → A3 a1 a2 a3 a4 a5 a6 a7 → A4 a1 a2 a3 a4 a5 a6 a7 → A5 a1 a2 a3 a4 a5 a6 a7 → A6 a1 a2 a3 a4 a5 a6 a7 → G) : G :=
  h.elim fun a1 h => h.elim fun a2 h => h.elim fun a3 h => h.elim fun a4 h => h.elim fun a5 h => h.elim fun a6 h => h.elim fun a7 h => e0_6 h (k a1 a2 a3 a4 a5 a6 a7)
theorem e7_11 {α1 : Sort _} {α2 : Sort _} {α3 : Sort _} {α4 : Sort _} {α5 : Sort _} {α6 : Sort _} {α7 : Sort _} {A1 A2 A3 A4 A5 A6 A7 A8 A9 A10 A11 : α1 → α2 → α3 → α4 → α5 → α6 → α7 → Prop} {G : Prop} (h : ∃ a1 a2 a3 a4 a5 a6 a7, A1 a1 a2 a3 a4 a5 a6 a7 ∧ A2 a1 a2 a3 a4 a5 a6 a7 ∧ A3 a1 a2 a3 a4 a5 a6 a7 ∧ A4 a1 a2 a3 a4 a5 a6 a7 ∧ A5 a1 a2 a3 a4 a5 a6 a7 ∧ A6 a1 a2 a3 a4 a5 a6 a7 ∧ A7 a1 a2 a3 a4 a5 a6 a7 ∧ A8 a1 a2 a3 a4 a5 a6 a7 ∧ A9 a1 a2 a3 a4 a5 a6 a7 ∧ A10 a1 a2 a3 a4 a5 a6 a7 ∧ A11 a1 a2 a3 a4 a5 a6 a7) (k : ∀ a1 a2 a3 a4 a5 a6 a7, A1 a1 a2 a3 a4 a5 a6 a7 → A2 a1 a2 a3 a4 a5 a6 a7 → A3 a1 a2 a3 a4 a5 a6 a7 → A4 a1 a2 a3 a4 a5 a6 a7 → A5 a1 a2 a3 a4 a5 a6 a7 → A6 a1 a2 a3 a4 a5 a6 a7 → A7 a1 a2 a3 a4 a5 a6 a7 → A8 a1 a2 a3 a4 a5 a6 a7 → A9 a1 a2 a3 a4 a5 a6 a7 → A10 a1 a2 a3 a4 a5 a6 a7 → A11 a1 a2 a3 a4 a5 a6 a7 → G) : G :=
  h.elim fun a1 h => h.elim fun a2 h => h.elim fun a3 h => h.elim fun a4 h => h.elim fun a5 h => h.elim fun a6 h => h.elim fun a7 h => e0_11 h (k a1 a2 a3 a4 a5 a6 a7)
theorem e9_8 {α1 : Sort _} {α2 : Sort _} {α3 : Sort _} {α4 : Sort _} {α5 : Sort _} {α6 : Sort _} {α7 : Sort _} {α8 : Sort _} {α9 : Sort _} {A1 A2 A3 A4 A5 A6 A7 A8 : α1 → α2 → α3 → α4 → α5 → α6 → α7 → α8 → α9 → Prop} {G : Prop} (h : ∃ a1 a2 a3 a4 a5 a6 a7 a8 a9, A1 a1 a2 a3 a4 a5 a6 a7 a8 a9 ∧ A2 a1 a2 a3 a4 a5 a6 a7 a8 a9 ∧ A3 a1 a2 a3 a4 a5 a6 a7 a8 a9 ∧ A4 a1 a2 a3 a4 a5 a6 a7 a8 a9 ∧ A5 a1 a2 a3 a4 a5 a6 a7 a8 a9 ∧ A6 a1 a2 a3 a4 a5 a6 a7 a8 a9 ∧ A7 a1 a2 a3 a4 a5 a6 a7 a8 a9 ∧ A8 a1 a2 a3 a4 a5 a6 a7 a8 a9) (k : ∀ a1 a2 a3 a4 a5 a6 a7 a8 a9, A1 a1 a2 a3 a4 a5 a6 a7 a8 a9 → A2 a1 a2 a3 a4 a5 a6 a7 a8 a9 → A3 a1 a2 a3 a4 a5 a6 a7 a8 a9 → A4 a1 a2 a3 a4 a5 a6 a7 a8 a9 → A5 a1 a2 a3 a4 a5 a6 a7 a8 a9 → A6 a1 a2 a3 a4 a5 a6 a7 a8 a9 → A7 a1 a2 a3 a4 a5 a6 a7 a8 a9 → A8 a1 a2 a3 a4 a5 a6 a7 a8 a9 → G) : G :=
  h.elim fun a1 h => h.elim fun a2 h => h.elim fun a3 h => h.elim fun a4 h => h.elim fun a5 h => h.elim fun a6 h => h.elim fun a7 h => h.elim fun a8 h => h.elim fun a9 h => e0_8 h (k a1 a2 a3 a4 a5 a6 a7 a8 a9)
-- part CORE

abbrev PM := Addr → Option Obj
def Keep (h h' : Heap) : Prop := ∀ b o, h.get? b = some o → h'.get? b = some o
theorem Keep.refl (h : Heap) : Keep h h := fun _ _ e => e
theorem Keep.trans {a b c : Heap} (x : Keep a b) (y : Keep b c) : Keep a c := fun _ _ e => y _ _ (x _ _ e)

/-- what stays: the heap behind the top, and all of the state but heap and tokens -/
structure Cx where
  h0 : Heap
  gens : Array GenState
  drawn : Drawn
  os : OsState
def Rest (c : Cx) (s : Shared) : Prop := s.gens = c.gens ∧ s.drawn = c.drawn ∧ s.os = c.os

structure Led (c : Cx) (g : PM) (L : Addr) (h : Heap) (m : Str → Option Value) (news : List (Addr × Obj)) : Prop where
  base : ∀ b o, c.h0.get? b = some o → g b = some o
  ns : h.Ns L m
  keep : ∀ b o, g b = some o → h.get? b = some o
  fresh : g L = none
  own : ∀ p ∈ news, h.get? p.1 = some p.2 ∧ g p.1 = none
  nd : (L :: news.map (·.1)).Nodup

inductive Up (a : Addr) (o o' : Obj) : List (Addr × Obj) → List (Addr × Obj) → Prop
  | head {r} : Up a o o' ((a, o) :: r) ((a, o') :: r)
  | tail {p r r'} : Up a o o' r r' → Up a o o' (p :: r) (p :: r')

theorem Up.addrs {a : Addr} {o o' : Obj} {l l' : List (Addr × Obj)} (u : Up a o o' l l') : l'.map (·.1) = l.map (·.1) := by
  induction u with
  | head => rfl
  | tail _ ih => simp only [List.map_cons, ih]
theorem Up.mem {a : Addr} {o o' : Obj} {l l' : List (Addr × Obj)} (u : Up a o o' l l') : (a, o) ∈ l := by
  induction u with
  | head => exact .head _
  | tail _ ih => exact .tail _ ih
theorem Up.mem' {a : Addr} {o o' : Obj} {l l' : List (Addr × Obj)} (u : Up a o o' l l') : (a, o') ∈ l' := by
  induction u with
  | head => exact .head _
  | tail _ ih => exact .tail _ ih
theorem Up.app {a : Addr} {o o' : Obj} {l l' : List (Addr × Obj)} (u : Up a o o' l l') (r : List (Addr × Obj)) : Up a o o' (l ++ r) (l' ++ r) := by
  induction u with
  | head => exact .head
  | tail _ ih => exact .tail ih
theorem Up.pre {a : Addr} {o o' : Obj} {l l' : List (Addr × Obj)} (u : Up a o o' l l') : ∀ (r : List (Addr × Obj)), Up a o o' (r ++ l) (r ++ l')
  | [] => u
  | _ :: r => .tail (u.pre r)
theorem Up.cases {a : Addr} {o o' : Obj} {l l' : List (Addr × Obj)} (u : Up a o o' l l') (nd : (l.map (·.1)).Nodup) : ∀ p ∈ l', p = (a, o') ∨ (p ∈ l ∧ p.1 ≠ a) := by
  induction u with
  | head =>
    intro p hp
    rcases List.mem_cons.mp hp with rfl | hp
    · exact .inl rfl
    · refine .inr ⟨.tail _ hp, fun e => ?_⟩
      rw [List.map_cons, List.nodup_cons] at nd
      exact nd.1 (List.mem_map.mpr ⟨p, hp, e⟩)
  | tail u ih =>
    intro p hp
    rw [List.map_cons, List.nodup_cons] at nd
    rcases List.mem_cons.mp hp with rfl | hp
    · refine .inr ⟨.head _, fun e => nd.1 ?_⟩
      rw [e]; exact List.mem_map_of_mem u.mem
    · rcases ih nd.2 p hp with h | ⟨h, h'⟩
      · exact .inl h
      · exact .inr ⟨.tail _ h, h'⟩

theorem up_of_mem {a : Addr} {o : Obj} (o' : Obj) : ∀ {l : List (Addr × Obj)}, (a, o) ∈ l → ∃ l', Up a o o' l l'
  | _ :: _, .head _ => ⟨_, .head⟩
  | _ :: _, .tail _ h => let ⟨l', u⟩ := up_of_mem o' h; ⟨_, .tail u⟩

section
variable {c : Cx} {g : PM} {L : Addr} {h h' : Heap} {m m' : Str → Option Value} {news news' : List (Addr × Obj)} {a : Addr} {o o' : Obj}

theorem Led.get (D : Led c g L h m news) (hm : (a, o) ∈ news) : h.get? a = some o := (D.own _ hm).1
theorem Led.ndn (D : Led c g L h m news) : (news.map (·.1)).Nodup := (List.nodup_cons.mp D.nd).2
theorem Led.neL (D : Led c g L h m news) {p : Addr × Obj} (hm : p ∈ news) : p.1 ≠ L := fun e => (List.nodup_cons.mp D.nd).1 (e ▸ List.mem_map_of_mem hm)
theorem Led.lt (D : Led c g L h m news) {p : Addr × Obj} (hm : p ∈ news) : p.1 < h.objs.size := Heap.lt_size (D.own _ hm).1
theorem Led.none_of_size (D : Led c g L h m news) {b : Addr} (hb : h.objs.size ≤ b) : g b = none := by
  cases e : g b with
  | none => rfl
  | some o => exact absurd (Heap.lt_size (D.keep _ _ e)) (Nat.not_lt.mpr hb)

theorem Led.set (D : Led c g L h m news) (hn : h'.Ns L m') (hs : Heap.SameBut L h h') : Led c g L h' m' news where
  base := D.base
  ns := hn
  keep := fun b o e => (hs.2 b fun q => by rw [q, D.fresh] at e; cases e).trans (D.keep b o e)
  fresh := D.fresh
  own := fun p hp => ⟨(hs.2 p.1 (D.neL hp)).trans (D.own p hp).1, (D.own p hp).2⟩
  nd := D.nd

theorem Led.push (D : Led c g L h m news) (o : Obj) (hf : o.isFreed = false := by rfl) : Led c g L (h.push o) m ((h.objs.size, o) :: news) where
  base := D.base
  ns := D.ns.push o
  keep := fun b o' e => Heap.get?_push_of_some _ (D.keep b o' e)
  fresh := D.fresh
  own := fun p hp => by
    rcases List.mem_cons.mp hp with rfl | hp
    · exact ⟨Heap.get?_push_size _ hf, D.none_of_size (Nat.le_refl _)⟩
    · exact ⟨Heap.get?_push_of_some _ (D.own p hp).1, (D.own p hp).2⟩
  nd := by
    have h1 := D.ns.lt
    have h2 := D.nd
    rw [List.nodup_cons] at h2 ⊢
    rw [List.map_cons, List.nodup_cons, List.mem_cons]
    refine ⟨fun q => ?_, fun q => ?_, h2.2⟩
    · rcases q with q | q
      · exact absurd h1 (by rw [q]; exact Nat.lt_irrefl _)
      · exact h2.1 q
    · obtain ⟨p, hp, e⟩ := List.mem_map.mp q
      exact absurd (D.lt hp) (by rw [e]; exact Nat.lt_irrefl _)

theorem Led.upd (D : Led c g L h m news) (U : Up a o o' news news') (hs : Heap.ExtBut a h h') (ho' : h'.get? a = some o') : Led c g L h' m news' where
  base := D.base
  ns := by
    have := D.neL U.mem
    exact D.ns.extBut hs (Ne.symm this)
  keep := fun b ob e => hs b ob (fun q => by rw [q, (D.own _ U.mem).2] at e; cases e) (D.keep b ob e)
  fresh := D.fresh
  own := fun p hp => by
    rcases U.cases D.ndn p hp with rfl | ⟨h1, h2⟩
    · exact ⟨ho', (D.own _ U.mem).2⟩
    · exact ⟨hs _ _ h2 (D.own p h1).1, (D.own p h1).2⟩
  nd := by rw [U.addrs]; exact D.nd

theorem Led.after (D : Led c g L h m news) (hk : Keep h h') : Led c g L h' m news where
  base := D.base
  ns := D.ns.keeps hk
  keep := fun b o e => hk _ _ (D.keep b o e)
  fresh := D.fresh
  own := fun p hp => ⟨hk _ _ (D.own p hp).1, (D.own p hp).2⟩
  nd := D.nd

theorem Led.ofMem (D : Led c g L h m news) (hm : ∀ p ∈ news', p ∈ news) (nd : (news'.map (·.1)).Nodup) : Led c g L h m news' where
  base := D.base
  ns := D.ns
  keep := D.keep
  fresh := D.fresh
  own := fun p hp => D.own p (hm p hp)
  nd := List.nodup_cons.mpr ⟨fun q => by
    obtain ⟨p, hp, e⟩ := List.mem_map.mp q
    exact D.neL (hm p hp) e, nd⟩
theorem Led.tl {p : Addr × Obj} (D : Led c g L h m (p :: news)) : Led c g L h m news := D.ofMem (fun _ hq => .tail _ hq) (List.nodup_cons.mp D.ndn).2
theorem Led.perm (D : Led c g L h m news) (hp : news.Perm news') : Led c g L h m news' := D.ofMem (fun _ hq => hp.mem_iff.mpr hq) ((hp.map _).nodup_iff.mp D.ndn)

/-- a new object that a call has made, onto the ledger -/
theorem Led.add (D : Led c g L h m news) (hk : Keep h h') (ha : h'.get? a = some o) (hz : h.objs.size ≤ a) : Led c g L h' m ((a, o) :: news) where
  base := D.base
  ns := D.ns.keeps hk
  keep := fun b o e => hk _ _ (D.keep b o e)
  fresh := D.fresh
  own := fun p hp => by
    rcases List.mem_cons.mp hp with rfl | hp
    · exact ⟨ha, D.none_of_size hz⟩
    · exact ⟨hk _ _ (D.own p hp).1, (D.own p hp).2⟩
  nd := by
    have h1 := D.ns.lt
    have h2 := D.nd
    rw [List.nodup_cons] at h2 ⊢
    rw [List.map_cons, List.nodup_cons, List.mem_cons]
    refine ⟨fun q => ?_, fun q => ?_, h2.2⟩
    · rcases q with q | q
      · exact absurd h1 (by rw [q]; exact Nat.not_lt.mpr hz)
      · exact h2.1 q
    · obtain ⟨p, hp, e⟩ := List.mem_map.mp q
      exact absurd (D.lt hp) (by rw [e]; exact Nat.not_lt.mpr hz)

/-- what is not among the mutable things becomes base -/
def baseOf (L : Addr) (h : Heap) (mu : List (Addr × Obj)) : PM := fun b => if b = L ∨ b ∈ mu.map (·.1) then none else h.get? b
theorem baseOf_some {mu : List (Addr × Obj)} {b : Addr} (e : h.get? b = some o) (h1 : b ≠ L) (h2 : b ∉ mu.map (·.1)) : baseOf L h mu b = some o := by
  unfold baseOf; rw [if_neg (fun q => q.elim h1 h2)]; exact e
theorem Led.baseKeep (D : Led c g L h m news) {mu : List (Addr × Obj)} (hm : ∀ p ∈ mu, p ∈ news) {b : Addr} (e : g b = some o) : baseOf L h mu b = some o := by
  refine baseOf_some (D.keep b o e) (fun q => ?_) fun q => ?_
  · rw [q, D.fresh] at e; cases e
  · obtain ⟨p, hp, rfl⟩ := List.mem_map.mp q
    rw [(D.own p (hm p hp)).2] at e; cases e
theorem Led.rebase (D : Led c g L h m news) {mu : List (Addr × Obj)} (hm : ∀ p ∈ mu, p ∈ news) (nd : (mu.map (·.1)).Nodup) : Led c (baseOf L h mu) L h m mu where
  base := fun b o e => D.baseKeep hm (D.base b o e)
  ns := D.ns
  keep := fun b o e => by
    unfold baseOf at e
    split at e
    · cases e
    · exact e
  fresh := by unfold baseOf; rw [if_pos (.inl rfl)]
  own := fun p hp => ⟨(D.own p (hm p hp)).1, by unfold baseOf; rw [if_pos (.inr (List.mem_map_of_mem hp))]⟩
  nd := (D.ofMem hm nd).nd

/-- another frame of the ledger becomes the current one -/
theorem Led.swap {C : Addr} {oC : Obj} {mC : Str → Option Value} (D : Led c g L h m ((C, oC) :: news)) (hC : h.Ns C mC) : ∃ oL, h.get? L = some oL ∧ Led c g C h mC ((L, oL) :: news) := by
  obtain ⟨oL, es, ep, hL, hd⟩ := id D.ns
  refine ⟨oL, hL, D.base, hC, D.keep, (D.own _ (.head _)).2, fun p hp => ?_, ?_⟩
  · rcases List.mem_cons.mp hp with rfl | hp
    · exact ⟨hL, D.fresh⟩
    · exact D.own p (.tail _ hp)
  · have := D.nd
    rw [List.map_cons] at this ⊢
    exact (List.Perm.swap L C (news.map (·.1))).nodup_iff.mpr this |> fun x => by simpa using x

/-- a heap less some addresses -/
def hid (h : Heap) (as : List Addr) : PM := fun b => if b ∈ as then none else h.get? b
theorem hid_some {as : List Addr} {b : Addr} (e : h.get? b = some o) (hb : b ∉ as) : hid h as b = some o := by unfold hid; rw [if_neg hb]; exact e
theorem of_hid {as : List Addr} {b : Addr} (e : hid h as b = some o) : h.get? b = some o ∧ b ∉ as := by
  unfold hid at e
  split at e
  · cases e
  · rename_i q; exact ⟨e, q⟩
/-- entry into a call: all of the caller's heap is base but what may change -/
theorem Led.enter {h₁ : Heap} {L' : Addr} {mu : List (Addr × Obj)} (B : Keep c.h0 h) (hmb : ∀ p ∈ mu, c.h0.get? p.1 = none) (hn : h₁.Ns L' m') (hk : Keep h h₁) (hL : h.objs.size ≤ L') (hm : ∀ p ∈ mu, h.get? p.1 = some p.2) (nd : (mu.map (·.1)).Nodup) :
    Led c (hid h (mu.map (·.1))) L' h₁ m' mu where
  base := fun b o e => hid_some (B _ _ e) fun q => by
      obtain ⟨p, hp, rfl⟩ := List.mem_map.mp q
      rw [hmb p hp] at e; cases e
  ns := hn
  keep := fun b o e => hk _ _ (of_hid e).1
  fresh := by
    cases e : hid h (mu.map (·.1)) L' with
    | none => rfl
    | some o => exact absurd (Heap.lt_size (of_hid e).1) (Nat.not_lt.mpr hL)
  own := fun p hp => ⟨hk _ _ (hm p hp), by unfold hid; rw [if_pos (List.mem_map_of_mem hp)]⟩
  nd := List.nodup_cons.mpr ⟨fun q => by
    obtain ⟨p, hp, e⟩ := List.mem_map.mp q
    exact absurd (Heap.lt_size (hm p hp)) (by rw [e]; exact Nat.not_lt.mpr hL), nd⟩
theorem Led.enter0 {h₁ : Heap} {L' : Addr} (B : Keep c.h0 h) (hn : h₁.Ns L' m') (hk : Keep h h₁) (hL : h.objs.size ≤ L') : Led c h.get? L' h₁ m' [] where
  base := B
  ns := hn
  keep := hk
  fresh := by
    cases e : h.get? L' with
    | none => rfl
    | some o => exact absurd (Heap.lt_size e) (Nat.not_lt.mpr hL)
  own := fun p hp => nomatch hp
  nd := by simp
end

structure AOk (A : Around) (n : Nat) : Prop where
  depth : A.depth + n < recursionLimit
  units : A.units + 8 * n < cLine
  handled : A.handled = none
theorem AOk.deeper {A : Around} {n : Nat} (x : AOk A (n + 1)) (env : Env) : AOk (A.deeper env) n where
  depth := by have := x.depth; show A.depth + 1 + n < _; omega
  units := by have := x.units; show A.units + 3 + 8 * n < _; omega
  handled := x.handled
theorem AOk.make {A : Around} {n : Nat} (x : AOk A (n + 1)) (C : Addr) (rest : List Value) (kw : List (Str × Value)) : AOk (A.under (.builtin "type.__call__" ⟨.ref C :: rest, kw⟩)) n where
  depth := by have := x.depth; show A.depth + (Code.builtin "type.__call__" ⟨.ref C :: rest, kw⟩).weight + n < _; rw [show (Code.builtin "type.__call__" ⟨.ref C :: rest, kw⟩).weight = 1 from rfl]; omega
  units := by have := x.units; show A.units + (Code.builtin "type.__call__" ⟨.ref C :: rest, kw⟩).cUnits + 8 * n < _; rw [show (Code.builtin "type.__call__" ⟨.ref C :: rest, kw⟩).cUnits = 1 from rfl]; omega
  handled := x.handled
theorem AOk.mono {A : Around} {n k : Nat} (x : AOk A n) (h : k ≤ n) : AOk A k where
  depth := by have := x.depth; omega
  units := by have := x.units; omega
  handled := x.handled

-- part TLT
section
open PySem.Sem (wp)
def ltK (i : Int) (x : Str) (j : Int) (y : Str) : Bool := if i = j then (if x = y then false else decide (x.cps.toList < y.cps.toList)) else decide (i < j)
theorem eqB_int {prog : Program} {w : World} {A : Around} {E : Value → Shared → Prop} {s : Shared} {a b : Int} {t u : Tok} {Q : Bool → Shared → Prop} (h : Q (decide (a = b)) s) :
    wpAny (model prog w) A (eqBool (.int a t) (.int b u)) Q E s := wpAny_eqBool_int (by rw [show (a == b) = decide (a = b) from rfl]; exact h)
theorem eqB_int_ne {prog : Program} {w : World} {A : Around} {E : Value → Shared → Prop} {s : Shared} {a b : Int} {t u : Tok} {Q : Bool → Shared → Prop} (hne : a ≠ b) (h : Q false s) :
    wpAny (model prog w) A (eqBool (.int a t) (.int b u)) Q E s := eqB_int (by rw [decide_eq_false hne]; exact h)
theorem eqB_int_eq {prog : Program} {w : World} {A : Around} {E : Value → Shared → Prop} {s : Shared} {a b : Int} {t u : Tok} {Q : Bool → Shared → Prop} (hne : a = b) (h : Q true s) :
    wpAny (model prog w) A (eqBool (.int a t) (.int b u)) Q E s := eqB_int (by rw [decide_eq_true hne]; exact h)
theorem eqB_str_ne {prog : Program} {w : World} {A : Around} {E : Value → Shared → Prop} {s : Shared} {a b : Str} {t u : Tok} {Q : Bool → Shared → Prop} (hne : a ≠ b) (h : Q false s) :
    wpAny (model prog w) A (eqBool (.str a t) (.str b u)) Q E s := wpAny_eqBool_str (by rw [decide_eq_false hne]; exact h)
theorem eqB_str_eq {prog : Program} {w : World} {A : Around} {E : Value → Shared → Prop} {s : Shared} {a b : Str} {t u : Tok} {Q : Bool → Shared → Prop} (hne : a = b) (h : Q true s) :
    wpAny (model prog w) A (eqBool (.str a t) (.str b u)) Q E s := wpAny_eqBool_str (by rw [decide_eq_true hne]; exact h)
theorem rc_lt_int {prog : Program} {w : World} {A : Around} {E : Value → Shared → Prop} {s : Shared} {a b : Int} {t u : Tok} {Q : Value → Shared → Prop} (h : Q (.bool (decide (a < b))) s) :
    wpAny (model prog w) A (richCompare .Lt (.int a t) (.int b u)) Q E s := PyProof.Rows.lt_int h
theorem rc_lt_str {prog : Program} {w : World} {A : Around} {E : Value → Shared → Prop} {s : Shared} {x y : Str} {t u : Tok} {Q : Value → Shared → Prop} (h : Q (.bool (x.cps.toList < y.cps.toList)) s) :
    wpAny (model prog w) A (richCompare .Lt (.str x t) (.str y u)) Q E s := PyProof.Rows.lt_str h
set_option maxHeartbeats 4000000 in
theorem tuple_lt2 (l b : Addr) (i j : Int) (ti tj tx ty : Tok) (x y : Str) (n n2 : Nat) (dd dd2 : Option Addr) (sl sl2 : Array (Option Value)) :
    Meets (Builtin.«tuple.__lt__» ⟨[.ref l, .ref b], []⟩)
      (fun A R s => s.heap.get? l = some { cls := .type "tuple", dict := dd, data := .seq #[.int i ti, .str x tx] n, slots := sl } ∧ s.heap.get? b = some { cls := .type "tuple", dict := dd2, data := .seq #[.int j tj, .str y ty] n2, slots := sl2 } ∧
        R (.ok (.ret (.bool (ltK i x j y)))) s) :=
  .of_wp fun prog w A R s h => by
    obtain ⟨hp, g, d, tk, os⟩ := s; obtain ⟨hl, hb, h⟩ := h
    have f2 := AutoSeq1.sub_tuple_tuple
    unfold ltK at h
    by_cases hij : i = j
    · by_cases hxy : x = y
      · rw [if_pos hij, if_pos hxy] at h
        wp_walk using wpAny_loadPart' hl, wpAny_loadPart' hb, eqB_int_eq hij, eqB_str_eq hxy
        exact ⟨_, rfl, h⟩
      · rw [if_pos hij, if_neg hxy] at h
        wp_walk using wpAny_loadPart' hl, wpAny_loadPart' hb, eqB_int_eq hij, eqB_str_ne hxy, rc_lt_str
        exact ⟨_, rfl, h⟩
    · rw [if_neg hij] at h
      wp_walk using wpAny_loadPart' hl, wpAny_loadPart' hb, eqB_int_ne hij, rc_lt_int
      exact ⟨_, rfl, h⟩
theorem lt_tup2 {prog : Program} {w : World} {A : Around} {E : Value → Shared → Prop} {s : Shared} {l b : Addr} {i j : Int} {ti tj tx ty : Tok} {x y : Str} {n n2 : Nat} {dd dd2 : Option Addr} {sl sl2 : Array (Option Value)} {Q : Value → Shared → Prop}
    (hl : s.heap.get? l = some { cls := .type "tuple", dict := dd, data := .seq #[.int i ti, .str x tx] n, slots := sl }) (hb : s.heap.get? b = some { cls := .type "tuple", dict := dd2, data := .seq #[.int j tj, .str y ty] n2, slots := sl2 })
    (hu : A.units < cLine) (h : Q (.bool (ltK i x j y)) s) : wpAny (model prog w) A (compareOp .Lt (.ref l) (.ref b)) Q E s :=
  richCompare_meets_room (op := .Lt) ⟨_, hl, rfl⟩ ⟨_, hb, rfl⟩ F.slot_tuple_lt F.entry_tuple_lt (F.args_tuple_lt_2 _ _) (tuple_lt2 l b i j ti tj tx ty x y n n2 dd dd2 sl sl2)
    ⟨hl, hb, show Value.bool (ltK i x j y) ≠ Value.notImplemented ∧ Q (.bool (ltK i x j y)) s from ⟨(fun x => nomatch x), h⟩⟩ hu

end

-- part RULES

/-- what the base heap says of the globals and built-ins -/
structure Glo (K : Frag) (h : Heap) : Prop where
  k : K.In h
  lim : h.NoLimit
  g : ∃ mg, h.Ns mainGlobals mg
  b : ∃ mb, h.Ns builtinsNs mb ∧ ∀ x : Str, x ≠ "__name__" → mb x = bootBuiltins x
theorem Glo.keeps {K : Frag} {h h' : Heap} (G : Glo K h) (hk : Keep h h') : Glo K h' :=
  ⟨G.k.keeps hk, G.lim.keeps hk, G.g.imp fun _ x => x.keeps hk, G.b.imp fun _ x => ⟨x.1.keeps hk, x.2⟩⟩

section
variable {M : Model} {A : Around} {E : Value → Shared → Prop} {s : Shared} {env : Env} {c : Cx} {g : PM} {L : Addr} {m : Str → Option Value} {news news' : List (Addr × Obj)} {K : Frag}

theorem Led.kb {h : Heap} (D : Led c g L h m news) : Keep c.h0 h := fun b o e => D.keep _ _ (D.base _ _ e)

theorem nm_l {x : Str} {pos : Pos} {v : Value} {Q : Value → Shared → Prop} (D : Led c g env.locals s.heap m news) (hv : m x = some v) (h : Q v s)
    (hk : env.scope.kind = .function := by rfl) (hx : env.kindOf x = some .local := by rfl) (hd : (x == ("__debug__" : Str)) = false := by decide) :
    wpAny M A (eval (.Name x pos) env) Q E s := wpAny_Name (wpAny_loadName_local hk hx D.ns hv h) hd
theorem nm_c {x : Str} {pos : Pos} {v : Value} {c' : Addr} {o : Obj} {Q : Value → Shared → Prop} (D : Led c g env.locals s.heap m news) (hc : env.cells.lookup x = some c') (hm : (c', o) ∈ news) (hv : o.data = .cell (some v)) (h : Q v s)
    (hk : env.scope.kind = .function := by rfl) (hx : env.kindOf x = some .cell := by rfl) (hd : (x == ("__debug__" : Str)) = false := by decide) :
    wpAny M A (eval (.Name x pos) env) Q E s := wpAny_Name (wpAny_loadName_cell hk hx hc ⟨o, D.get hm, hv⟩ h) hd
theorem nm_f {x : Str} {pos : Pos} {v : Value} {c' : Addr} {o : Obj} {Q : Value → Shared → Prop} (hc : env.cells.lookup x = some c') (ho : s.heap.get? c' = some o) (hv : o.data = .cell (some v)) (h : Q v s)
    (hk : env.scope.kind = .function := by rfl) (hx : env.kindOf x = some .free := by rfl) (hd : (x == ("__debug__" : Str)) = false := by decide) (hn : (x == ("__classdict__" : Str)) = false := by decide) :
    wpAny M A (eval (.Name x pos) env) Q E s := wpAny_Name (wpAny_loadName_free hk hx hc ⟨o, ho, hv⟩ h hn) hd
theorem nm_g {x : Str} {pos : Pos} {v : Value} {Q : Value → Shared → Prop} (G : Glo K c.h0) (B : Keep c.h0 s.heap) (e : nsIn K mainGlobals x = some (some v)) (h : Q v s)
    (hg : env.globals = mainGlobals := by rfl) (hk : env.scope.kind = .function := by rfl) (hx : env.kindOf x = some .globalImplicit := by rfl) (hd : (x == ("__debug__" : Str)) = false := by decide) :
    wpAny M A (eval (.Name x pos) env) Q E s := by
  obtain ⟨mg, hmg⟩ := G.g
  exact Name_function_global hk hx (loadGlobal_global (by rw [hg]; exact hmg.keeps B) (mg_of G.k hmg e) h) hd
theorem nm_b {x : Str} {pos : Pos} {v : Value} {Q : Value → Shared → Prop} (G : Glo K c.h0) (B : Keep c.h0 s.heap) (e : nsIn K mainGlobals x = some none) (hv : bootBuiltins x = some v) (hn : x ≠ "__name__") (h : Q v s)
    (hg : env.globals = mainGlobals := by rfl) (hgb : env.builtins = builtinsNs := by rfl) (hk : env.scope.kind = .function := by rfl) (hx : env.kindOf x = some .globalImplicit := by rfl) (hd : (x == ("__debug__" : Str)) = false := by decide) :
    wpAny M A (eval (.Name x pos) env) Q E s := by
  obtain ⟨mg, hmg⟩ := G.g
  refine e1_2 (G.b) ?_
  rintro mb hmb hb
  exact Name_function_global hk hx (loadGlobal_builtin (by rw [hg]; exact hmg.keeps B) (mg_none_of G.k hmg e) (by rw [hgb]; exact hmb.keeps B) ((hb x hn).trans hv) h) hd

theorem st_l {x : Str} {v : Value} {Q : Unit → Shared → Prop} (D : Led c g env.locals s.heap m news)
    (h : ∀ h', Led c g env.locals h' (fun y => if y = x then some v else m y) news → Q () { s with heap := h', toks := s.toks + 1 })
    (hk : env.scope.kind = .function := by rfl) (hx : env.kindOf x = some .local := by rfl) : wpAny M A (storeName env x v) Q E s :=
  wpAny_storeName_local hx D.ns (fun h' hn hs => h h' (D.set hn hs)) (by rw [hk]; rfl)
theorem st_c {x : Str} {v : Value} {c' : Addr} {o : Obj} {v₀ : Option Value} {Q : Unit → Shared → Prop} (D : Led c g env.locals s.heap m news) (hc : env.cells.lookup x = some c') (hm : (c', o) ∈ news) (hd : o.data = .cell v₀)
    (h : ∀ h' o' news', Up c' o o' news news' → o'.data = .cell (some v) → Led c g env.locals h' m news' → Q () { s with heap := h' })
    (hk : env.scope.kind = .function := by rfl) (hx : env.kindOf x = some .cell := by rfl) : wpAny M A (storeName env x v) Q E s := by
  refine wpAny_storeName_cell hk hx hc ⟨o, D.get hm, hd⟩ fun h' hv hs => ?_
  refine e1_2 hv ?_
  clear hv
  rintro o' ho' hd'
  obtain ⟨news', U⟩ := up_of_mem o' hm
  exact h h' o' news' U hd' (D.upd U hs.extBut ho')
end

section
variable {prog : Program} {w : World} {A : Around} {E : Value → Shared → Prop} {s : Shared} {c : Cx} {K : Frag}
theorem code_fn {f : Addr} {oc : Value} {od : Option Addr} {osl : Array (Option Value)} {name qual : Str} {params : Arguments} {body : List Stmt} {scope : Scope} {dV kV doc pm cdv ct : Value} {an : Option Addr} {args : List Value} {binds : List (Str × Value)} {n : Nat} {Q : Value → Shared → Prop}
    (G : Glo K c.h0) (B : Keep c.h0 s.heap) (hA : AOk A (n + 1))
    (ho : K.lookup f = some ⟨oc, od, .func (fnOf name qual params body scope dV kV doc pm an cdv ct), osl⟩) (hcd : codeIn K cdv qual = true)
    (hbind : BindsTo s (fnOf name qual params body scope dV kV doc pm an cdv ct) ⟨args, []⟩ binds) (hloc : ∀ y ∈ binds, scope.names.lookup y.1 = some .local)
    (h : ∀ L h₁ A', A' = A.deeper (envX qual scope L f cdv []) → s.heap.objs.size ≤ L → Keep s.heap h₁ → h₁.Ns L (fun y => binds.reverse.lookup y) → AOk A' n →
      wpAny (model prog w) A' (execs body (envX qual scope L f cdv [])) (fun fl s' => Q (match fl with | .ret v => v | _ => .none) s') (fun _ _ => False) { s with heap := h₁, toks := s.toks + binds.length })
    (hcell : ∀ x ∈ scope.names, x.2 ≠ .cell) (hco : scope.isCoroutine = false) (hgen : scope.isGenerator = false) (hk : scope.kind = .function) :
    codeAny (model prog w) A (.call (.ref f) ⟨args, []⟩) (fun r s' => match r with | .ok (.ret v) => Q v s' | _ => False) s := by
  have G' := G.keeps B
  refine codeAny_call_def (fd := fnOf name qual params body scope dV kV doc pm an cdv ct) (body := body) (binds := binds) (by have := hA.depth; omega) (G'.k _ _ ho) rfl G'.lim (codeRec_of G'.k hcd) rfl hbind hcell hloc (fun h₁ hns hk₁ => ?_) hco hgen hk
  exact wpAny_mono (h s.heap.objs.size h₁ _ rfl (Nat.le_refl _) hk₁ hns (hA.deeper _)) (fun _ _ x => x) fun _ _ x => x.elim
theorem call_fn {f : Addr} {oc : Value} {od : Option Addr} {osl : Array (Option Value)} {name qual : Str} {params : Arguments} {body : List Stmt} {scope : Scope} {dV kV doc pm cdv ct : Value} {an : Option Addr} {args : List Value} {binds : List (Str × Value)} {n : Nat} {Q : Value → Shared → Prop}
    (G : Glo K c.h0) (B : Keep c.h0 s.heap) (hA : AOk A (n + 1))
    (ho : K.lookup f = some ⟨oc, od, .func (fnOf name qual params body scope dV kV doc pm an cdv ct), osl⟩) (hcd : codeIn K cdv qual = true)
    (hbind : BindsTo s (fnOf name qual params body scope dV kV doc pm an cdv ct) ⟨args, []⟩ binds) (hloc : ∀ y ∈ binds, scope.names.lookup y.1 = some .local)
    (h : ∀ L h₁ A', A' = A.deeper (envX qual scope L f cdv []) → s.heap.objs.size ≤ L → Keep s.heap h₁ → h₁.Ns L (fun y => binds.reverse.lookup y) → AOk A' n →
      wpAny (model prog w) A' (execs body (envX qual scope L f cdv [])) (fun fl s' => Q (match fl with | .ret v => v | _ => .none) s') (fun _ _ => False) { s with heap := h₁, toks := s.toks + binds.length })
    (hcell : ∀ x ∈ scope.names, x.2 ≠ .cell) (hco : scope.isCoroutine = false) (hgen : scope.isGenerator = false) (hk : scope.kind = .function) :
    wpAny (model prog w) A (call (.ref f) args) Q E s := by
  refine wpAny_call (codeAny_mono (code_fn G B hA ho hcd hbind hloc h hcell hco hgen hk) fun r s' hr => ?_)
  rcases r with e | (_ | _ | _ | v) <;> first | exact hr.elim | exact hr
end

section
variable {prog : Program} {w : World} {A : Around} {E : Value → Shared → Prop} {s : Shared}
theorem add1N {a : Nat} {t u : Tok} {Q : Value → Shared → Prop} (h : Q (.int ((a + 1 : Nat) : Int) s.toks) { s with toks := s.toks + 1 }) : wpAny (model prog w) A (binaryOp .Add (.int (a : Int) t) (.int 1 u)) Q E s :=
  PyProof.Rows.add_int (by rw [show (a : Int) + 1 = ((a + 1 : Nat) : Int) from by omega]; exact h)
theorem div2N {a : Nat} {t u : Tok} {Q : Value → Shared → Prop} (h : Q (.int ((a / 2 : Nat) : Int) s.toks) { s with toks := s.toks + 1 }) : wpAny (model prog w) A (binaryOp .FloorDiv (.int (a : Int) t) (.int 2 u)) Q E s :=
  PyProof.Rows.floordiv_int (by decide) (by rw [show Int.fdiv (a : Int) 2 = ((a / 2 : Nat) : Int) from by rw [Int.fdiv_eq_ediv_of_nonneg _ (by decide)]; omega]; exact h) (Or.inl (PyProof.noPylong_small (by decide)))
theorem mul2N {a : Nat} {t u : Tok} {Q : Value → Shared → Prop} (h : Q (.int ((2 * a : Nat) : Int) s.toks) { s with toks := s.toks + 1 }) : wpAny (model prog w) A (binaryOp .Mult (.int 2 t) (.int (a : Int) u)) Q E s :=
  PyProof.Rows.mul_int (by rw [show (2 : Int) * (a : Int) = ((2 * a : Nat) : Int) from by omega]; exact h)
end
/-- a list object -/
def lstO (vs : List Value) (n : Nat) : Obj := { cls := .type "list", dict := none, data := .seq vs.toArray n, slots := #[] }
def IsLst (o : Obj) (vs : List Value) : Prop := ∃ n, o = lstO vs n
theorem IsLst.isList {h : Heap} {a : Addr} {o : Obj} {vs : List Value} (ho : h.get? a = some o) (hl : IsLst o vs) : h.IsList a vs.toArray := by
  obtain ⟨n, rfl⟩ := hl
  exact ⟨_, ho, rfl, n, rfl⟩
theorem IsLst.isL {h : Heap} {a : Addr} {o : Obj} {vs : List Value} (ho : h.get? a = some o) (hl : IsLst o vs) : ∃ n, IsL h a vs.toArray n := by
  obtain ⟨n, rfl⟩ := hl
  exact ⟨n, ho⟩
theorem IsLst.plain {h : Heap} {a : Addr} {o : Obj} {vs : List Value} (ho : h.get? a = some o) (hl : IsLst o vs) : h.PlainList a vs.toArray := by
  obtain ⟨n, rfl⟩ := hl
  exact ⟨n, ho⟩
theorem IsLst.of_plain {h : Heap} {a : Addr} {vs : Array Value} (x : h.PlainList a vs) : ∃ o, h.get? a = some o ∧ IsLst o vs.toList := by
  obtain ⟨n, e⟩ := x
  exact ⟨_, e, n, rfl⟩
theorem IsLst.cls {o : Obj} {vs : List Value} (hl : IsLst o vs) : o.cls = .type "list" := by obtain ⟨n, rfl⟩ := hl; rfl
theorem IsLst.upd {h : Heap} {a : Addr} {o : Obj} {vs : List Value} (ho : h.get? a = some o) (hl : IsLst o vs) (f : Array Value → Array Value) : ∃ o', (h.update a (Obj.mapSeq f)).get? a = some o' ∧ IsLst o' (f vs.toArray).toList := by
  obtain ⟨n, rfl⟩ := hl
  refine ⟨_, Heap.get?_update_self _ ho rfl, _, rfl⟩
section
variable {prog : Program} {w : World} {A : Around} {E : Value → Shared → Prop} {s : Shared} {o : Obj} {l : Addr} {vs : List Value}
theorem sub_list {value slice : Expr} {k : Int} {t : Tok} {v : Value} {Q : Value → Shared → Prop} (ho : s.heap.get? l = some o) (hl : IsLst o vs) (h0 : 0 ≤ k) (hhi : k < 2 ^ 63) (hx : vs[k.toNat]? = some v) (h : Q v s)
    (hs : subscripted slice false (.ref l) (.int k t) = operate [.ref l, .int k t] (getItem (.ref l) (.int k t)) := by with_unfolding_all rfl) :
    wpAny (model prog w) A (subscriptTail value slice (.ref l) (.int k t)) Q E s :=
  tail_any (IsLst.isList ho hl).typeIs slot_list_getitem.lookup (wpAny_getItem_list (IsLst.isList ho hl) h0 hhi (by simpa using hx) h) hs
theorem sub_listN {value slice : Expr} {k : Nat} {t : Tok} {v : Value} {Q : Value → Shared → Prop} (ho : s.heap.get? l = some o) (hl : IsLst o vs) (hhi : k < 2 ^ 63) (hx : vs[k]? = some v) (h : Q v s)
    (hs : subscripted slice false (.ref l) (.int (k : Int) t) = operate [.ref l, .int (k : Int) t] (getItem (.ref l) (.int (k : Int) t)) := by with_unfolding_all rfl) :
    wpAny (model prog w) A (subscriptTail value slice (.ref l) (.int (k : Int) t)) Q E s := sub_list ho hl (Int.natCast_nonneg _) (by omega) (by simpa using hx) h hs
theorem set_listN {k : Nat} {t : Tok} {v : Value} {Q : Unit → Shared → Prop} (ho : s.heap.get? l = some o) (hl : IsLst o vs) (hhi : k < 2 ^ 63) (hn : k < vs.length)
    (h : ∀ h' o', h'.get? l = some o' → IsLst o' (vs.set k v) → Heap.ExtBut l s.heap h' → Q () { s with heap := h' }) :
    wpAny (model prog w) A (setItem (.ref l) (.int (k : Int) t) v) Q E s := by
  obtain ⟨n, hL⟩ := IsLst.isL ho hl
  refine e1_2 (IsLst.upd ho hl (·.setIfInBounds (k : Int).toNat v)) ?_
  rintro o' ho' hl'
  refine ki_setAt hL (Int.natCast_nonneg _) (by omega) (by rw [List.size_toArray]; omega) (h _ o' ho' (by simpa using hl') (Heap.SameBut.update ..).extBut)
theorem pop_lst {pos : Pos} {y : Value} {Q : Value → Shared → Prop} (ho : s.heap.get? l = some o) (hl : IsLst o (vs ++ [y])) (hz : (vs ++ [y]).length ≤ sizeLine)
    (h : ∀ h' o', h'.get? l = some o' → IsLst o' vs → Heap.ExtBut l s.heap h' → Q y { s with heap := h' }) : wpAny (model prog w) A (callWith pos (.builtin "list.pop") [.ref l] [] []) Q E s := by
  obtain ⟨n, hL⟩ := IsLst.isL ho hl
  refine e1_2 (IsLst.upd ho hl (fun xs => xs.eraseIdxIfInBounds ((vs ++ [y]).toArray.size - 1))) ?_
  rintro o' ho' hl'
  refine P.pop_list hL (by simp) (h _ o' ho' ?_ (Heap.SameBut.update ..).extBut) (by rw [List.size_toArray]; exact hz)
  have e : (((vs ++ [y]).toArray).eraseIdxIfInBounds ((vs ++ [y]).toArray.size - 1)).toList = vs := by
    simp [Array.eraseIdxIfInBounds]
    rw [List.eraseIdx_append_of_length_le (Nat.le_refl _)]
    simp
  rw [← e]; exact hl'
theorem append_lst {y : Value} {Q : Value → Shared → Prop} (ho : s.heap.get? l = some o) (hl : IsLst o vs) (hz : vs.length ≤ sizeLine)
    (h : ∀ h' o', h'.get? l = some o' → IsLst o' (vs ++ [y]) → Heap.ExtBut l s.heap h' → Q .none { s with heap := h' }) : wpAny (model prog w) A (call (.builtin "list.append") [.ref l, y]) Q E s := by
  refine wpAny_list_append_plain (IsLst.plain ho hl) (fun h' hp hs => ?_) (by rw [List.size_toArray]; exact hz)
  refine e1_2 (IsLst.of_plain hp) ?_
  rintro o' ho' hl'
  exact h h' o' ho' (by simpa using hl') hs.extBut
theorem method_lst {name : Str} {id : String} {pl : Sem Bool} {Q : Value × List Value → Shared → Prop} (ho : s.heap.get? l = some o) (hl : IsLst o vs) (slot : Slot "list" name id) (hty : typeOf (.builtin id) = pure (.type "method_descriptor")) (h : Q (.builtin id, [.ref l]) s) :
    wpAny (model prog w) A (getMethod (.ref l) name pl) Q E s := by
  obtain ⟨n, hL⟩ := IsLst.isL ho hl
  exact getMethod_list_of slot hty hL.isList ⟨_, hL, rfl⟩ h
theorem truthy_lst {Q : Bool → Shared → Prop} (ho : s.heap.get? l = some o) (hl : IsLst o vs) (hz : vs.length < 2 ^ 60) (h : Q (!vs.isEmpty) { s with toks := s.toks + 1 + 1 }) : wpAny (model prog w) A (truthy (.ref l)) Q E s :=
  wpAny_truthy_list (IsLst.isList ho hl) (by rw [List.size_toArray]; omega) (by simpa using h)
end
section
variable {prog : Program} {w : World} {A : Around} {s : Shared} {env : Env} {c : Cx} {g : PM} {m : Str → Option Value} {news : List (Addr × Obj)} {Q : Flow → Shared → Prop}

theorem notedF {M : Model} {t : Sem α} {Q : α → Shared → Prop} {E : Value → Shared → Prop} (h : wpAny M A t Q (fun _ _ => False) s) : wpAny M A t Q E s := wpAny_mono h (fun _ _ x => x) fun _ _ x => x.elim

theorem _root_.Mine.Led.dropBut {L : Addr} {h h' : Heap} {I : Addr} {oI : Obj} (D : Led c g L h m ((I, oI) :: news)) (hk : ∀ b o, b ≠ I → h.get? b = some o → h'.get? b = some o) : Led c g L h' m news where
  base := D.base
  ns := D.ns.at' fun o e => hk _ _ (Ne.symm (D.neL (.head _))) e
  keep := fun b o e => hk b o (fun q => by rw [q, (D.own _ (.head _)).2] at e; cases e) (D.keep b o e)
  fresh := D.fresh
  own := fun p hp => ⟨hk _ _ (fun q => (List.nodup_cons.mp D.ndn).1 (List.mem_map.mpr ⟨p, hp, q⟩)) (D.own p (.tail _ hp)).1, (D.own p (.tail _ hp)).2⟩
  nd := D.tl.nd

/-- a statement with its own end, then the rest -/
theorem seq_cut {M : Model} {E : Value → Shared → Prop} {st : Stmt} {rest : List Stmt} {Q : Flow → Shared → Prop} (Post : Shared → Prop) (h : wpAny M A (exec st env) (fun f s' => f = .next ∧ Post s') E s)
    (h2 : ∀ s', Post s' → wpAny M A (execs rest env) Q E s') : wpAny M A (execs (st :: rest) env) Q E s :=
  wpAny_execs_cons (wpAny_mono h (fun f s' x => by obtain ⟨rfl, y⟩ := x; exact h2 s' y) fun _ _ x => x)

theorem exec_cut {M : Model} {E : Value → Shared → Prop} {st : Stmt} {Q : Flow → Shared → Prop} (Post : Shared → Prop) (h : wpAny M A (exec st env) (fun f s' => f = .next ∧ Post s') E s)
    (h2 : ∀ s', Post s' → Q .next s') : wpAny M A (exec st env) Q E s :=
  wpAny_mono h (fun f s' x => by obtain ⟨rfl, y⟩ := x; exact h2 s' y) fun _ _ x => x

/-- a for over an iterator that walks -/
theorem forLoop_led {target : Expr} {body : List Stmt} {I : Addr} {oI : Obj} {fp : List Addr} {n : Nat} {P : Nat → Value → Prop} {St : Nat → Heap → Prop} {R : Result → Shared → Prop}
    (W : Walks prog w A I fp [I] n P St) (J : Nat → (Str → Option Value) → List (Addr × Obj) → Prop) (hJ0 : J 0 m news) (D : Led c g env.locals s.heap m ((I, oI) :: news)) (hR : Rest c s) (hst : St 0 s.heap) (hlive : ∀ i h, St i h → ∃ o, h.get? I = some o)
    (hcont : ∀ i m' news', J i m' news' → ∀ b ∈ fp, b ≠ I → ∃ o, s.heap.get? b = some o ∧ (g b = some o ∨ (b, o) ∈ news'))
    (turn : ∀ i v m₁ news₁ oI s₁, i < n → P i v → J i m₁ news₁ → Led c g env.locals s₁.heap m₁ ((I, oI) :: news₁) → Rest c s₁ →
      wpAny (model prog w) A (assign target env v) (fun _ s₂ => wpAny (model prog w) A (execs body env) (fun f s₃ => match f with
        | .next | .cont => ∃ m₂ news₂, Led c g env.locals s₃.heap m₂ ((I, oI) :: news₂) ∧ Rest c s₃ ∧ J (i + 1) m₂ news₂
        | .brk => R (.ok .next) s₃
        | .ret v => R (.ok (.ret v)) s₃) (fun _ _ => False) s₂) (fun _ _ => False) s₁)
    (done : ∀ m' news' s', J n m' news' → Led c g env.locals s'.heap m' news' → Rest c s' → R (.ok .next) s')
    (ht : ∀ v, letOwnedTupleGo target (.ref I) v = pure () := by intro _; rfl) :
    codeAny (model prog w) A (.forLoop target (.ref I) body [] env) R s := by
  have key : ∀ (h h' : Heap) (m' : Str → Option Value) (news' : List (Addr × Obj)) (oI' : Obj), Led c g env.locals h m' ((I, oI') :: news') → (∀ b o, b ∉ [I] → h.get? b = some o → h'.get? b = some o) → ∀ oI'', h'.get? I = some oI'' → Led c g env.locals h' m' ((I, oI'') :: news') := by
    intro h h' m' news' oI' D' hk oI'' hI
    exact D'.upd .head (fun b o hb e => hk b o (by simpa using hb) e) hI
  refine codeAny_forLoop (fun k s' => ∃ i m' news' oI', St i s'.heap ∧ J i m' news' ∧ Led c g env.locals s'.heap m' ((I, oI') :: news') ∧ Rest c s' ∧ i ≤ n ∧ k = n + 1 - i) ?_ (n + 1)
    ⟨0, m, news, oI, hst, hJ0, D, hR, Nat.zero_le _, rfl⟩ ht
  rintro k s' hxp
  refine e4_6 hxp ?_
  clear hxp
  rintro i m' news' oI' hst' hJ D' hR' hi rfl
  by_cases hlt : i < n
  · refine W.item i _ _ _ hlt hst' fun v h₁ tk₁ hP hst₁ hk₁ => ?_
    obtain ⟨oI'', hI⟩ := hlive _ _ hst₁
    have D₁ := key _ _ _ _ _ D' hk₁ oI'' hI
    refine notedF (wpAny_mono (turn i v m' news' oI'' { s' with heap := h₁, toks := tk₁ } hlt hP hJ D₁ hR') (fun _ s₂ h₂ => notedF (wpAny_mono h₂ (fun f s₃ h₃ => ?_) fun _ _ x => x)) fun _ _ x => x)
    have fin : (∃ m₂ news₂, Led c g env.locals s₃.heap m₂ ((I, oI'') :: news₂) ∧ Rest c s₃ ∧ J (i + 1) m₂ news₂) → ∃ k, k < n + 1 - i ∧ ∃ i m' news' oI', St i s₃.heap ∧ J i m' news' ∧ Led c g env.locals s₃.heap m' ((I, oI') :: news') ∧ Rest c s₃ ∧ i ≤ n ∧ k = n + 1 - i := by
      rintro hxp
      refine e2_3 hxp ?_
      clear hxp
      rintro m₂ news₂ D₂ hR₂ hJ₂
      refine ⟨n + 1 - (i + 1), by omega, i + 1, m₂, news₂, oI'', ?_, hJ₂, D₂, hR₂, hlt, rfl⟩
      refine W.frame _ _ _ hst₁ fun b hb o e => ?_
      by_cases hbI : b = I
      · subst hbI
        rw [hI] at e; cases e
        exact D₂.get (.head _)
      · refine e1_2 (hcont i m' news' hJ b hb hbI) ?_
        rintro o₁ _ h1
        refine e1_2 (hcont (i + 1) m₂ news₂ hJ₂ b hb hbI) ?_
        rintro o₂ ho₂ h2
        refine e1_2 (hcont i m' news' hJ b hb hbI) ?_
        rintro o₁' ho₁' h1'
        have e1 : h₁.get? b = some o₁' := h1'.elim (fun q => D₁.keep _ _ q) fun q => D₁.get (.tail _ q)
        have e2 : s₃.heap.get? b = some o₂ := h2.elim (fun q => D₂.keep _ _ q) fun q => D₂.get (.tail _ q)
        rw [ho₁'] at ho₂; cases ho₂
        rw [e1] at e; cases e
        exact e2
    cases f with
    | ret v => exact h₃
    | brk => exact h₃
    | next => exact fin h₃
    | cont => exact fin h₃
  · have hin : i = n := by omega
    subst hin
    refine W.done _ _ _ hst' fun h₁ tk₁ hk₁ => wpAny_execs_nil ?_
    exact done m' news' _ hJ (D'.dropBut fun b o hb e => hk₁ b o (by simpa using hb) e) hR'

/-- a while: an invariant and a measure -/
theorem whileLoop_led {test : Expr} {body orelse : List Stmt} {R : Result → Shared → Prop} (J : Nat → (Str → Option Value) → List (Addr × Obj) → Prop) {k : Nat} (hJ0 : J k m news) (D : Led c g env.locals s.heap m news) (hR : Rest c s)
    (turn : ∀ k m₁ news₁ s₁, J k m₁ news₁ → Led c g env.locals s₁.heap m₁ news₁ → Rest c s₁ →
      wpAny (model prog w) A (isTrue test env (eval test env)) (fun b s₂ =>
        if b then wpAny (model prog w) A (execs body env) (fun f s₃ => match f with
          | .next | .cont => ∃ m₂ news₂, Led c g env.locals s₃.heap m₂ news₂ ∧ Rest c s₃ ∧ ∃ k', k' < k ∧ J k' m₂ news₂
          | .brk => R (.ok .next) s₃
          | .ret v => R (.ok (.ret v)) s₃) (fun _ _ => False) s₂
        else wpAny (model prog w) A (execs orelse env) (fun f s₃ => R (.ok f) s₃) (fun _ _ => False) s₂) (fun _ _ => False) s₁) :
    codeAny (model prog w) A (.whileLoop test body orelse env) R s := by
  refine codeAny_whileLoop (fun k s' => ∃ m' news', J k m' news' ∧ Led c g env.locals s'.heap m' news' ∧ Rest c s') ?_ k ⟨m, news, hJ0, D, hR⟩
  rintro k s' hxp
  refine e2_3 hxp ?_
  clear hxp
  rintro m' news' hJ D' hR'
  refine notedF (wpAny_mono (turn k m' news' s' hJ D' hR') (fun b s₂ h₂ => ?_) fun _ _ x => x)
  cases b with
  | false => exact notedF h₂
  | true =>
    refine notedF (wpAny_mono h₂ (fun f s₃ h₃ => ?_) fun _ _ x => x)
    cases f with
    | ret v => exact h₃
    | brk => exact h₃
    | next => obtain ⟨m₂, news₂, D₂, hR₂, k', hk, hJ₂⟩ := h₃; exact ⟨k', hk, m₂, news₂, hJ₂, D₂, hR₂⟩
    | cont => obtain ⟨m₂, news₂, D₂, hR₂, k', hk, hJ₂⟩ := h₃; exact ⟨k', hk, m₂, news₂, hJ₂, D₂, hR₂⟩
end

-- part RNG
section
open PySem.Sem (wp)
def rangeIt (x left step : Int) : Obj := { cls := .type "range_iterator", dict := none, data := .fields #[rawInt x, rawInt left, rawInt step], slots := #[] }
theorem rsize (k : Nat) : Builtin.Range.rangeSize 0 (k : Int) 1 = k := by
  rw [rangeSize_one]; split <;> omega
section
variable {prog : Program} {w : World} {A : Around} {E : Value → Shared → Prop} {s : Shared}
theorem wpAny_rangeFields {r : Addr} {a b c : Int} {t u v : Tok} {Q : Int × Int × Int → Shared → Prop} (hr : IsRange s.heap r a b c t u v) (h : Q (a, b, c) s) : wpAny (model prog w) A (Builtin.Range.rangeFields (.ref r)) Q E s := by
  unfold Builtin.Range.rangeFields
  refine wpAny_bind (wpAny_field hr rfl rfl (wpAny_bind ?_))
  show wpAny _ _ (pure (some a)) _ _ _
  refine wpAny_pure (wpAny_bind (wpAny_field hr rfl rfl (wpAny_bind ?_)))
  show wpAny _ _ (pure (some b)) _ _ _
  refine wpAny_pure (wpAny_bind (wpAny_field hr rfl rfl (wpAny_bind ?_)))
  show wpAny _ _ (pure (some c)) _ _ _
  exact wpAny_pure (wpAny_pure h)
theorem call_range_reversed {r : Addr} {k : Nat} {t u v : Tok} {Q : Value → Shared → Prop} (hk : (k : Int) < 2 ^ 60) (hr : IsRange s.heap r 0 k 1 t u v)
    (h : Q (.ref s.heap.objs.size) { s with heap := s.heap.push (rangeIt ((k : Int) - 1) k (-1)) }) : wpAny (model prog w) A (call (.builtin "range.__reversed__") [.ref r]) Q E s := by
  have hT : s.TypeIs (.ref r) "range" := ⟨_, hr, rfl⟩
  refine wpAny_call_entry F.slot_range_reversed hT F.entry_range_reversed ?_ (F.args_range_reversed_1 _)
  unfold Builtin.«range.__reversed__»
  refine wpAny_bind (wpAny_of_eq (a := Value.ref r) rfl ?_)
  refine wpAny_bind (wpAny_rangeFields hr ?_)
  dsimp only
  have hsm : (Builtin.Range.rangeFitsLong 0 && Builtin.Range.rangeFitsLong k && Builtin.Range.rangeFitsLong 1 && Builtin.Range.rangeFitsLong (-1) && Builtin.Range.rangeFitsLong (0 - 1) && Builtin.Range.rangeFitsLong (k : Int)) = true := by
    simp only [Builtin.Range.rangeFitsLong, Bool.and_eq_true, decide_eq_true_eq]
    omega
  rw [rsize, hsm, if_neg (by simp), if_pos rfl, show (0 : Int) + ((k : Int) - 1) * 1 = (k : Int) - 1 by omega]
  first
  | exact wpAny_bind (wpAny_newObj_type (wpAny_pure ⟨_, rfl, h⟩))
  | exact wpAny_bind (wpAny_pure (wpAny_bind (wpAny_newObj_type (wpAny_pure ⟨_, rfl, h⟩))))
theorem code_reversed_range {r : Addr} {k : Nat} {t u v : Tok} {Q₁ : Value → Shared → Prop} (hk : (k : Int) < 2 ^ 60) (hr : IsRange s.heap r 0 k 1 t u v)
    (h : Q₁ (.ref s.heap.objs.size) { s with heap := s.heap.push (rangeIt ((k : Int) - 1) k (-1)) }) :
    codeAny (model prog w) A (.call (.builtin "reversed.__new__") ⟨[.type "reversed", .ref r], []⟩) (wants Q₁ E) s := by
  have hT : s.TypeIs (.ref r) "range" := ⟨_, hr, rfl⟩
  refine codeAny_of_tree ?_
  show wpAny _ A.in1 (do checkBuiltinCall "reversed.__new__" ⟨[.type "reversed", .ref r], []⟩; again (.builtin "reversed.__new__" ⟨[.type "reversed", .ref r], []⟩)) _ _ s
  refine wpAny_bind (wpAny_of_eq (F.newCall_reversed_1 _) (wpAny_pure ⟨plainId_quiet F.plain_reversed_new _, codeAny_builtin F.entry_reversed_new ?_⟩))
  rw [Around.under_plainId F.plain_reversed_new _]
  unfold Builtin.«reversed.__new__»
  refine wpAny_bind (wpAny_of_eq (newClass_reversed _) ?_)
  try dsimp only
  refine wpAny_bind (wpAny_of_eq (a := ()) (by first | rfl | kernel_rfl) ?_)
  refine wpAny_bind (wpAny_of_eq (a := ()) (by first | rfl | kernel_rfl) ?_)
  try dsimp only
  refine wpAny_bind (wpAny_specialOf hT F.slot_range_reversed.lookup ?_)
  try dsimp only
  refine wpAny_bind (wpAny_of_eq (F.slot_range_reversed.bind _) ?_)
  try dsimp only
  first
  | rw [if_neg (show ¬ ((Value.builtin "range.__reversed__" == Value.none) = true) from Bool.false_ne_true)]
  | (show wpAny _ _ (if (Value.builtin "range.__reversed__" == Value.none) = true then _ else _) _ _ _; rw [if_neg (show ¬ ((Value.builtin "range.__reversed__" == Value.none) = true) from Bool.false_ne_true)])
  refine wpAny_bind (wpAny_rule ?_)
  refine wpAny_bind (m := runValue (.call (.builtin "range.__reversed__") ⟨[.ref r], []⟩)) (show wpAny _ _ (call (.builtin "range.__reversed__") [.ref r]) _ _ _ from call_range_reversed hk hr ?_)
  first
  | exact wpAny_pure h
  | exact wpAny_bind (wpAny_pure (wpAny_pure h))
theorem sub_ri_reversed : isSubtype (.type "range_iterator") (.type "reversed") = pure false := by rw [isSubtype_type]; kernel_rfl
theorem call_reversed_range {r : Addr} {k : Nat} {t u v : Tok} {Q : Value → Shared → Prop} (hk : (k : Int) < 2 ^ 60) (hr : IsRange s.heap r 0 k 1 t u v)
    (h : Q (.ref s.heap.objs.size) { s with heap := s.heap.push (rangeIt ((k : Int) - 1) k (-1)) }) : wpAny (model prog w) A (call (.type "reversed") [.ref r]) Q E s := by
  refine callType_other (U := "range_iterator") (Q₁ := fun obj s₁ => obj = .ref s.heap.objs.size ∧ s₁ = { s with heap := s.heap.push (rangeIt ((k : Int) - 1) k (-1)) }) (by decide +kernel) F.create_reversed ⟨_, _, F.mro_reversed⟩ F.made_reversed sub_ri_reversed (F.typeCall_reversed_1 _) (code_reversed_range hk hr ⟨rfl, rfl⟩) ?_
  rintro obj s₁ ⟨rfl, rfl⟩
  exact ⟨⟨_, Heap.get?_push_size _ rfl, rfl⟩, h⟩
end

end

-- part NEWS
def rangeObj (a b c : Int) (t u v : Tok) : Obj := { cls := .type "range", dict := none, data := .fields #[.int a t, .int b u, .int c v], slots := #[] }
section
variable {prog : Program} {w : World} {A : Around} {E : Value → Shared → Prop} {s : Shared} {c : Cx} {g : PM} {L : Addr} {m : Str → Option Value} {news : List (Addr × Obj)} {Q : Value → Shared → Prop}
theorem Led.ltL {h : Heap} (D : Led c g L h m news) : L < h.objs.size := D.ns.lt
theorem range1 {n : Int} {t : Tok} (D : Led c g L s.heap m news) (h : ∀ r h' t' t'', L < r → Led c g L h' m ((r, rangeObj 0 n 1 t' t t'') :: news) → Q (.ref r) { s with heap := h', toks := s.toks + 1 + 1 }) :
    wpAny (model prog w) A (call (.type "range") [.int n t]) Q E s := call_range_1 (h _ _ _ _ D.ltL (D.push _))
theorem range2 {a n : Int} {t u : Tok} (D : Led c g L s.heap m news) (h : ∀ r h' t', L < r → Led c g L h' m ((r, rangeObj a n 1 t u t') :: news) → Q (.ref r) { s with heap := h', toks := s.toks + 1 }) :
    wpAny (model prog w) A (call (.type "range") [.int a t, .int n u]) Q E s := call_range_2 (h _ _ _ D.ltL (D.push _))
theorem reversed_range {r : Addr} {k : Nat} {t u v : Tok} (D : Led c g L s.heap m news) (hk : (k : Int) < 2 ^ 60) (hr : s.heap.get? r = some (rangeObj 0 k 1 t u v))
    (h : ∀ I h', L < I → Led c g L h' m ((I, rangeIt ((k : Int) - 1) k (-1)) :: news) → Q (.ref I) { s with heap := h' }) : wpAny (model prog w) A (call (.type "reversed") [.ref r]) Q E s :=
  call_reversed_range hk hr (h _ _ D.ltL (D.push _))
theorem iter_range {r : Addr} {a : Int} {k : Nat} {b : Int} {t u v : Tok} (D : Led c g L s.heap m news) (hr : s.heap.get? r = some (rangeObj a b 1 t u v)) (ha : -(2 ^ 62) ≤ a) (ha' : a < 2 ^ 62) (hb : -(2 ^ 62) ≤ b) (hb' : b < 2 ^ 62) (hk : Builtin.Range.rangeSize a b 1 = k)
    (h : ∀ I h', L < I → Led c g L h' m ((I, rangeIt a k 1) :: news) → Q (.ref I) { s with heap := h' }) : wpAny (model prog w) A (pyIter (.ref r)) Q E s :=
  wpAny_pyIter_range hr (small_one ha ha' hb hb') (by rw [hk]; exact h _ _ D.ltL (D.push _))
theorem iter_list {l : Addr} {o : Obj} {vs : List Value} (D : Led c g L s.heap m news) (ho : s.heap.get? l = some o) (hl : IsLst o vs)
    (h : ∀ I h' oI, L < I → Led c g L h' m ((I, oI) :: news) → h'.IsListIter I l 0 → Q (.ref I) { s with heap := h' }) : wpAny (model prog w) A (pyIter (.ref l)) Q E s :=
  wpAny_pyIter_list (IsLst.isList ho hl) (h _ _ _ D.ltL (D.push _) ⟨_, Heap.get?_push_size _ rfl, rfl, rfl⟩)
theorem new_list {vs : List Value} (D : Led c g L s.heap m news) (hz : vs.length ≤ sizeLine) (h : ∀ l h' o, L < l → Led c g L h' m ((l, o) :: news) → o = { cls := .type "list", data := .seq vs.toArray } → Q (.ref l) { s with heap := h' }) :
    wpAny (model prog w) A (newList vs) Q E s := wpAny_newObj_type (h _ _ _ D.ltL (D.push _) rfl) (by show vs.toArray.size ≤ sizeLine; rw [List.size_toArray]; exact hz)
theorem new_tuple {vs : List Value} (D : Led c g L s.heap m news) (hz : vs.length ≤ sizeLine) (h : ∀ l h' o, L < l → Led c g L h' m ((l, o) :: news) → o = { cls := .type "tuple", data := .seq vs.toArray } → Q (.ref l) { s with heap := h' }) :
    wpAny (model prog w) A (newTuple vs) Q E s := wpAny_newObj_type (h _ _ _ D.ltL (D.push _) rfl) (by show vs.toArray.size ≤ sizeLine; rw [List.size_toArray]; exact hz)
end
def IsTpl (o : Obj) (vs : List Value) : Prop := ∃ n, o = { cls := .type "tuple", dict := none, data := .seq vs.toArray n, slots := #[] }
theorem IsTpl.isTuple {h : Heap} {a : Addr} {o : Obj} {vs : List Value} (ho : h.get? a = some o) (hl : IsTpl o vs) : h.IsTuple a vs.toArray := by
  obtain ⟨n, rfl⟩ := hl
  exact ⟨_, ho, rfl, n, rfl⟩
theorem IsTpl.cls {o : Obj} {vs : List Value} (hl : IsTpl o vs) : o.cls = .type "tuple" := by obtain ⟨n, rfl⟩ := hl; rfl
section
variable {prog : Program} {w : World} {A : Around} {E : Value → Shared → Prop} {s : Shared} {c : Cx} {g : PM} {L : Addr} {m : Str → Option Value} {news : List (Addr × Obj)} {Q : Value → Shared → Prop}
theorem iter_tuple {l : Addr} {o : Obj} {vs : List Value} (D : Led c g L s.heap m news) (ho : s.heap.get? l = some o) (hl : IsTpl o vs)
    (h : ∀ I h' oI, L < I → Led c g L h' m ((I, oI) :: news) → h'.IsTupleIter I l 0 → Q (.ref I) { s with heap := h' }) : wpAny (model prog w) A (pyIter (.ref l)) Q E s :=
  wpAny_pyIter_tuple (IsTpl.isTuple ho hl) (h _ _ _ D.ltL (D.push _) ⟨_, Heap.get?_push_size _ rfl, rfl, rfl⟩)
end
section
variable {prog : Program} {w : World} {A : Around} {s : Shared} {env : Env} {c : Cx} {g : PM} {m : Str → Option Value} {news : List (Addr × Obj)} {R : Result → Shared → Prop}
/-- a for over a list -/
theorem for_list {target : Expr} {body : List Stmt} {I l : Addr} {oI o : Obj} {vs : List Value} (hh : A.handled = none) (J : Nat → (Str → Option Value) → List (Addr × Obj) → Prop) (D : Led c g env.locals s.heap m ((I, oI) :: news)) (hJ0 : J 0 m news) (hR : Rest c s)
    (hit : s.heap.IsListIter I l 0) (ho : s.heap.get? l = some o) (hl : IsLst o vs) (hcont : g l = some o ∨ ∀ i m' news', J i m' news' → (l, o) ∈ news')
    (turn : ∀ i v m₁ news₁ oI s₁, vs[i]? = some v → J i m₁ news₁ → Led c g env.locals s₁.heap m₁ ((I, oI) :: news₁) → Rest c s₁ →
      wpAny (model prog w) A (assign target env v) (fun _ s₂ => wpAny (model prog w) A (execs body env) (fun f s₃ => match f with
        | .next | .cont => ∃ m₂ news₂, Led c g env.locals s₃.heap m₂ ((I, oI) :: news₂) ∧ Rest c s₃ ∧ J (i + 1) m₂ news₂
        | .brk => R (.ok .next) s₃
        | .ret v => R (.ok (.ret v)) s₃) (fun _ _ => False) s₂) (fun _ _ => False) s₁)
    (done : ∀ m' news' s', J vs.length m' news' → Led c g env.locals s'.heap m' news' → Rest c s' → R (.ok .next) s')
    (ht : ∀ v, letOwnedTupleGo target (.ref I) v = pure () := by intro _; rfl) :
    codeAny (model prog w) A (.forLoop target (.ref I) body [] env) R s := by
  have hne : l ≠ I := by
    rintro rfl
    obtain ⟨o1, e1, e2, _⟩ := hit
    rw [ho] at e1
    cases e1
    rw [hl.cls] at e2
    simp at e2
  have W := Walks.list (prog := prog) (w := w) (A := A) hh I l hne vs.toArray
  rw [List.size_toArray] at W
  refine forLoop_led W J hJ0 D hR ⟨hit, IsLst.isList ho hl⟩ (fun i h hst => by obtain ⟨⟨o, e, _⟩, _⟩ := hst; exact ⟨o, e⟩) ?_ (fun i v m₁ news₁ oI s₁ _ hP hJ D hR => turn i v m₁ news₁ oI s₁ (by simpa using hP) hJ D hR) done ht
  intro i m' news' hJ b hb hbI
  have : b = l := by simpa [hbI] using hb
  subst this
  exact ⟨o, ho, hcont.imp id fun q => q i m' news' hJ⟩
/-- a for over a tuple -/
theorem for_tuple {target : Expr} {body : List Stmt} {I l : Addr} {oI o : Obj} {vs : List Value} (hh : A.handled = none) (J : Nat → (Str → Option Value) → List (Addr × Obj) → Prop) (D : Led c g env.locals s.heap m ((I, oI) :: news)) (hJ0 : J 0 m news) (hR : Rest c s)
    (hit : s.heap.IsTupleIter I l 0) (ho : s.heap.get? l = some o) (hl : IsTpl o vs) (hcont : g l = some o ∨ ∀ i m' news', J i m' news' → (l, o) ∈ news')
    (turn : ∀ i v m₁ news₁ oI s₁, vs[i]? = some v → J i m₁ news₁ → Led c g env.locals s₁.heap m₁ ((I, oI) :: news₁) → Rest c s₁ →
      wpAny (model prog w) A (assign target env v) (fun _ s₂ => wpAny (model prog w) A (execs body env) (fun f s₃ => match f with
        | .next | .cont => ∃ m₂ news₂, Led c g env.locals s₃.heap m₂ ((I, oI) :: news₂) ∧ Rest c s₃ ∧ J (i + 1) m₂ news₂
        | .brk => R (.ok .next) s₃
        | .ret v => R (.ok (.ret v)) s₃) (fun _ _ => False) s₂) (fun _ _ => False) s₁)
    (done : ∀ m' news' s', J vs.length m' news' → Led c g env.locals s'.heap m' news' → Rest c s' → R (.ok .next) s')
    (ht : ∀ v, letOwnedTupleGo target (.ref I) v = pure () := by intro _; rfl) :
    codeAny (model prog w) A (.forLoop target (.ref I) body [] env) R s := by
  have hne : l ≠ I := by
    rintro rfl
    obtain ⟨o1, e1, e2, _⟩ := hit
    rw [ho] at e1
    cases e1
    rw [hl.cls] at e2
    simp at e2
  have W := Walks.tuple (prog := prog) (w := w) (A := A) hh I l hne vs.toArray
  rw [List.size_toArray] at W
  refine forLoop_led W J hJ0 D hR ⟨hit, IsTpl.isTuple ho hl⟩ (fun i h hst => by obtain ⟨⟨o, e, _⟩, _⟩ := hst; exact ⟨o, e⟩) ?_ (fun i v m₁ news₁ oI s₁ _ hP hJ D hR => turn i v m₁ news₁ oI s₁ (by simpa using hP) hJ D hR) done ht
  intro i m' news' hJ b hb hbI
  have : b = l := by simpa [hbI] using hb
  subst this
  exact ⟨o, ho, hcont.imp id fun q => q i m' news' hJ⟩
end

-- part INST
/-- the empty heap, as a base for the library's rules over frames -/
def emp : Heap := { objs := #[] }
theorem emp_none (b : Addr) : emp.get? b = none := by simp [emp, Heap.get?]
def allBut (h : Heap) (as : List Addr) : List (Addr × Obj) := (List.range h.objs.size).filterMap fun a => if a ∈ as then none else (h.get? a).map fun o => (a, o)
theorem mem_allBut {h : Heap} {as : List Addr} {a : Addr} {o : Obj} : (a, o) ∈ allBut h as ↔ a ∉ as ∧ h.get? a = some o := by
  unfold allBut
  rw [List.mem_filterMap]
  constructor
  · rintro ⟨b, _, hb⟩
    split at hb
    · cases hb
    · rename_i hn
      obtain ⟨o', ho', e⟩ := Option.map_eq_some_iff.mp hb
      cases e
      exact ⟨hn, ho'⟩
  · rintro ⟨hn, ho⟩
    exact ⟨a, List.mem_range.mpr (Heap.lt_size ho), by rw [if_neg hn, ho]; rfl⟩
section
variable {c : Cx} {g : PM} {L : Addr} {h h' : Heap} {m m' : Str → Option Value} {news news' : List (Addr × Obj)} {x dx : Addr} {o o' : Obj}
theorem Led.fr (D : Led c g L h m news) : Fr emp L h m := ⟨D.ns, fun b o e => (by rw [emp_none] at e; cases e), Nat.zero_le _⟩
theorem Led.nw (D : Led c g L h m news) (hm : (dx, o) ∈ news) : News emp L h ((dx, o) :: allBut h [L, dx]) := by
  intro p hp
  rcases List.mem_cons.mp hp with rfl | hp
  · exact ⟨(D.own _ hm).1, D.neL hm, emp_none _⟩
  · obtain ⟨a, ob⟩ := p
    obtain ⟨h1, h2⟩ := mem_allBut.mp hp
    exact ⟨h2, fun q => h1 (by simp [show a = L from q]), emp_none _⟩
theorem Led.nw0 (D : Led c g L h m news) : News emp L h (allBut h [L]) := by
  rintro ⟨a, ob⟩ hp
  obtain ⟨h1, h2⟩ := mem_allBut.mp hp
  exact ⟨h2, fun q => h1 (by simp [show a = L from q]), emp_none _⟩
theorem Led.back (D : Led c g L h m news) (U : Up dx o o' news news') (F : Fr emp L h' m') (N : News emp L h' ((dx, o') :: allBut h [L, dx])) : Led c g L h' m' news' where
  base := D.base
  ns := F.ns
  keep := fun b ob e => (N (b, ob) (.tail _ (mem_allBut.mpr ⟨(fun q => by
    rcases List.mem_cons.mp q with rfl | q
    · rw [D.fresh] at e; cases e
    · rw [List.mem_singleton.mp q, (D.own _ U.mem).2] at e; cases e), D.keep b ob e⟩))).1
  fresh := D.fresh
  own := fun p hp => by
    rcases U.cases D.ndn p hp with rfl | ⟨h1, h2⟩
    · exact ⟨(N _ (.head _)).1, (D.own _ U.mem).2⟩
    · refine ⟨(N p (.tail _ (mem_allBut.mpr ⟨?_, (D.own p h1).1⟩))).1, (D.own p h1).2⟩
      intro q
      rcases List.mem_cons.mp q with q | q
      · exact D.neL h1 q
      · exact h2 (List.mem_singleton.mp q)
  nd := by rw [U.addrs]; exact D.nd
end
section
variable {c : Cx} {g : PM} {L : Addr} {h h' : Heap} {m : Str → Option Value} {news news' add : List (Addr × Obj)}
theorem Led.snoc (D : Led c g L h m news) {a : Addr} {o : Obj} (ha : h.get? a = some o) (hg : g a = none) (hL : a ≠ L) (hn : a ∉ news.map (·.1)) : Led c g L h m (news ++ [(a, o)]) where
  base := D.base
  ns := D.ns
  keep := D.keep
  fresh := D.fresh
  own := fun p hp => by
    rcases List.mem_append.mp hp with h1 | h1
    · exact D.own p h1
    · rw [List.mem_singleton.mp h1]; exact ⟨ha, hg⟩
  nd := by
    rw [List.nodup_cons, List.map_append, List.nodup_append, List.mem_append]
    refine ⟨fun q => ?_, D.ndn, by simp, fun b hb b' hb' e => ?_⟩
    · rcases q with q | q
      · exact (List.nodup_cons.mp D.nd).1 q
      · exact hL (List.mem_singleton.mp (by simpa using q) : L = a).symm
    · have : b' = a := by simpa using hb'
      rw [e, this] at hb
      exact hn hb
/-- behind a call that changed some things of the ledger and made new ones -/
theorem Led.callBut (D : Led c g L h m news) {as : List Addr} (hk : ∀ b o, b ∉ as → h.get? b = some o → h'.get? b = some o) (ha : ∀ b ∈ as, b ≠ L ∧ g b = none) (hn : news'.map (·.1) = news.map (·.1)) (hc : ∀ p ∈ news', h'.get? p.1 = some p.2)
    (hz : ∀ p ∈ add, h.objs.size ≤ p.1) (hg : ∀ p ∈ add, h'.get? p.1 = some p.2) (nd : (add.map (·.1)).Nodup) : Led c g L h' m (add ++ news') where
  base := D.base
  ns := D.ns.at' fun o e => hk _ _ (fun q => (ha _ q).1 rfl) e
  keep := fun b o e => hk b o (fun q => by rw [(ha _ q).2] at e; cases e) (D.keep b o e)
  fresh := D.fresh
  own := fun p hp => by
    rcases List.mem_append.mp hp with h1 | h1
    · exact ⟨hg p h1, D.none_of_size (hz p h1)⟩
    · refine ⟨hc p h1, ?_⟩
      have : p.1 ∈ news.map (·.1) := hn ▸ List.mem_map_of_mem h1
      obtain ⟨q, hq, e⟩ := List.mem_map.mp this
      rw [← e]; exact (D.own q hq).2
  nd := by
    rw [List.nodup_cons, List.map_append, List.nodup_append, List.mem_append, hn]
    refine ⟨fun q => ?_, nd, D.ndn, fun a ha b hb e => ?_⟩
    · rcases q with q | q
      · obtain ⟨p, hp, e⟩ := List.mem_map.mp q
        have := hz p hp
        rw [e] at this
        exact absurd D.ns.lt (Nat.not_lt.mpr this)
      · exact (List.nodup_cons.mp D.nd).1 q
    · obtain ⟨p, hp, rfl⟩ := List.mem_map.mp ha
      obtain ⟨q, hq, rfl⟩ := List.mem_map.mp hb
      have h1 := D.lt hq
      have h2 := hz p hp
      rw [e] at h2
      exact absurd h1 (Nat.not_lt.mpr h2)
end
section
variable {prog : Program} {w : World} {A : Around} {E : Value → Shared → Prop} {s : Shared} {c : Cx} {g : PM} {L : Addr} {m : Str → Option Value} {news news' : List (Addr × Obj)} {K : Frag} {x dx C : Addr} {ox od : Obj} {es es' : List DictEntry} {n n' : Nat} {name : Str} {v : Value}
theorem inst_at {h : Heap} {sl : Array (Option Value)} (h1 : h.get? x = some ⟨.ref C, some dx, .plain, sl⟩) (h2 : h.get? dx = some od) : InstAt h x ⟨.ref C, some dx, .plain, sl⟩ C (some od) := ⟨h1, rfl, rfl, h2⟩
theorem ga_own {expr : Bool} {Q : Value → Shared → Prop} {attr : Option Value} (X : K.In s.heap) (I : InstAt s.heap x ox C (some (dictOf es n))) (hg : plainGet K C name = true) (hh : hasDictIn K C = true)
    (ha : findIn K (.ref C) name = some attr) (hn : noGet K attr = true) (hl : getL name es = some (some v)) (hv : handedIn v = true) (h : Q v { s with toks := s.toks + 1 }) :
    wpAny (model prog w) A (getAttr (.ref x) name expr) Q E s := get_value X I (plainGet_of hg).1 (findObj_own hh ha hn hl) hv h
theorem ga_cls {expr : Bool} {Q : Value → Shared → Prop} {a : Value} (X : K.In s.heap) (I : InstAt s.heap x ox C (some (dictOf es n))) (hg : plainGet K C name = true) (hh : hasDictIn K C = true)
    (ha : findIn K (.ref C) name = some (some a)) (hn : specialIn K a "__get__" = some none) (hv : handedIn a = true) (hc : copiedNames.contains name = false) (hl : getL name es = some none) (h : Q a { s with toks := s.toks + 1 }) :
    wpAny (model prog w) A (getAttr (.ref x) name expr) Q E s := get_value X I (plainGet_of hg).1 (findObj_cls hh ha hn hv hc hl) hv h
theorem gm_inst {pl : Sem Bool} {Q : Value × List Value → Shared → Prop} {f : Addr} (X : K.In s.heap) (I : InstAt s.heap x ox C (some (dictOf es n))) (hg : plainGet K C name = true)
    (hf : findIn K (.ref C) name = some (some (.ref f))) (ht : isFn K (.ref f) = true) (hl : getL name es = some none) (h : Q (.ref f, [.ref x]) s) : wpAny (model prog w) A (getMethod (.ref x) name pl) Q E s :=
  method_fn X I (plainGet_of hg).1 (plainGet_of hg).2 hf (beq_iff_eq.mp ht) (by show (lookIn name (dictOf es n)).map _ = _; rw [lookIn_dict, hl]; rfl) h
theorem sa_dict {Q : Unit → Shared → Prop} (D : Led c g L s.heap m news) (X : K.In s.heap) (I : InstAt s.heap x ox C (some (dictOf es n))) (hd : ox.dict = some dx)
    (hs : findIn K (.ref C) "__setattr__" = some (some (.builtin "object.__setattr__"))) (hp : plainOver K C = true) (ht : takerIn K C name = some none) (hh : hasDictIn K C = true) (hl : (getL name es).isSome = true)
    (e : (putL name (PyData.keyHash w.params name) (.str name (s.toks + 1)) v es, putN name es n) = (es', n')) (U : Up dx (dictOf es n) (dictOf es' n') news news') (hz : es'.length ≤ 1000)
    (h : ∀ h', Led c g L h' m news' → Q () { s with heap := h', toks := s.toks + 2 }) :
    wpAny (model prog w) A (setAttr (.ref x) name v) Q E s := by
  obtain ⟨e1, e2⟩ := Prod.mk.inj e
  refine set_plain X I hs (osa_dict (h₀ := emp) (L := L) (m := m) (pre := []) (post := allBut s.heap [L, dx]) (s := { s with toks := s.toks + 1 }) D.fr (D.nw U.mem) X I hd hp ht hh hl (fun _ hq => nomatch hq) (fun p hp => ?_) (by rw [putName_dict, e1, e2]) rfl hz fun h' F' N' => h h' (D.back U F' N'))
  obtain ⟨a, ob⟩ := p
  intro q
  exact (mem_allBut.mp hp).1 (by simp [show a = dx from q])
theorem new_inst {pos : List Value} {kw : List (Str × Value)} {fI : Addr} {Q : Value → Shared → Prop} (D : Led c g L s.heap m news) (X : K.In s.heap) (hm : makesIn K C = true) (hi : findIn K (.ref C) "__init__" = some (some (.ref fI))) (hf : isFn K (.ref fI) = true)
    (h : ∀ x dx h', L < dx → dx < x → Led c g L h' m ((x, instObj C dx) :: (dx, dictOf [] 0) :: news) →
      codeAny (model prog w) (A.under (.builtin "type.__call__" ⟨.ref C :: pos, kw⟩)) (.call (.ref fI) ⟨.ref x :: pos, kw⟩) (fun r s' => match r with | .ok (.ret v) => v = .none ∧ Q (.ref x) s' | _ => False) { s with heap := h' }) :
    wpAny (model prog w) A (call (.ref C) pos kw) Q E s := by
  obtain ⟨hh, gs, d, t, os⟩ := s
  have D1 := (D.push emptyDict).push (instObj C hh.objs.size)
  rw [Heap.size_push] at D1
  refine wpAny_call (make_core (makes_of X hm) (looks_findIn X hi) (fun self => bind_fn X self (beq_iff_eq.mp hf)) (.inl rfl) (codeAny_mono (h _ _ _ D.ns.lt (Nat.lt_succ_self _) D1) fun r s' hr => ?_))
  rcases r with e | (_ | _ | _ | v) <;> first | exact hr.elim | exact hr
theorem ga_slot {expr : Bool} {Q : Value → Shared → Prop} {p : Addr} {i : Nat} (X : K.In s.heap) (I : InstAt s.heap x ox C (some od)) (hg : plainGet K C name = true) (hc : isClsIn K C = true)
    (ha : findIn K (.ref C) name = some (some (.ref p))) (hn : specialIn K (.ref p) "__get__" = some (some (.builtin "member_descriptor.__get__"))) (ht : takesIn K (.ref p) = some true) (hp : slotIn K p C = some i)
    (hv : (ox.slots[i]?).join = some v) (hh : handedIn v = true) (h : Q v { s with toks := s.toks + 1 }) : wpAny (model prog w) A (getAttr (.ref x) name expr) Q E s :=
  get_bind X I (plainGet_of hg).1 (findObj_data hc ha hn ht) (plainGet_of hg).2 (wpAny_call (slot_get (s := { s with toks := s.toks + 1 }) X I hp hv (handed_on hh h)))
theorem sa_slot {Q : Unit → Shared → Prop} {ox' : Obj} {p : Addr} {i : Nat} (D : Led c g L s.heap m news) (X : K.In s.heap) (I : InstAt s.heap x ox C (some od))
    (hs : findIn K (.ref C) "__setattr__" = some (some (.builtin "object.__setattr__"))) (hp : plainOver K C = true) (ht : takerIn K C name = some (some (.ref p))) (hT : typeIn K (.ref p) = some (.type "member_descriptor")) (hi : slotIn K p C = some i) (hz : i < 1000)
    (e : { ox with slots := (ox.slots ++ Array.replicate (i + 1 - ox.slots.size) none).setIfInBounds i (some v) } = ox') (hf : ox'.isFreed = false) (U : Up x ox ox' news news')
    (h : ∀ h', Led c g L h' m news' → Q () { s with heap := h', toks := s.toks + 1 }) : wpAny (model prog w) A (setAttr (.ref x) name v) Q E s := by
  refine set_plain X I hs (osa_descr (s := { s with toks := s.toks + 1 }) KF.slot_mset X I hp ht hT (slot_set (h₀ := emp) (L := L) (m := m) (pre := []) (post := allBut s.heap [L, x]) (s := { s with toks := s.toks + 1 }) D.fr (D.nw U.mem) X I hi hz (fun _ hq => nomatch hq) (fun p hp => ?_) e hf fun h' F' N' => h h' (D.back U F' N')))
  obtain ⟨a, ob⟩ := p
  intro q
  exact (mem_allBut.mp hp).1 (by simp [show a = x from q])
end

-- part DICTS
/-- keys that are ints or texts -/
def mixIs : Int ⊕ Str → Value → Bool
  | .inl i, v => Value.isInt i v
  | .inr x, v => Value.isStrOf x v
def mixKind (prog : Program) (w : World) : KeyKind prog w (Int ⊕ Str) where
  is := mixIs
  hash := fun k => match k with | .inl i => hashInt i | .inr x => hashStr w x
  inj := fun v a b ha hb => by
    cases a <;> cases b
    · exact congrArg _ (Value.isInt_inj v _ _ ha hb)
    · obtain ⟨t, rfl⟩ := Value.isInt_shape ha
      simp [mixIs, Value.isStrOf] at hb
    · obtain ⟨t, rfl⟩ := Value.isStrOf_shape ha
      simp [mixIs, Value.isInt] at hb
    · exact congrArg _ (Value.isStrOf_inj v _ _ ha hb)
  byValue := fun k v h => by
    cases k
    · obtain ⟨t, rfl⟩ := Value.isInt_shape h; rfl
    · obtain ⟨t, rfl⟩ := Value.isStrOf_shape h; rfl
  pyHash := fun {A E s k v Q} hv h => by
    cases k
    · obtain ⟨t, rfl⟩ := Value.isInt_shape hv; exact wpAny_pyHash_int h
    · obtain ⟨t, rfl⟩ := Value.isStrOf_shape hv; exact wpAny_pyHash_str h
  eqBool := fun {A E s a b u v Q} hu hv h => by
    cases a <;> cases b
    · obtain ⟨t, rfl⟩ := Value.isInt_shape hu
      obtain ⟨t', rfl⟩ := Value.isInt_shape hv
      refine wpAny_eqBool_int ?_
      rename_i i j
      have e : (i == j) = decide ((Sum.inl i : Int ⊕ Str) = .inl j) := by
        rw [show (i == j) = decide (i = j) from rfl]
        by_cases q : i = j <;> simp [q]
      rw [e]; exact h
    · obtain ⟨t, rfl⟩ := Value.isInt_shape hu
      obtain ⟨t', rfl⟩ := Value.isStrOf_shape hv
      exact SeqAt.EqAt.int_str _ _ _ _ prog w E Q (by simpa using h)
    · obtain ⟨t, rfl⟩ := Value.isStrOf_shape hu
      obtain ⟨t', rfl⟩ := Value.isInt_shape hv
      exact SeqAt.EqAt.str_int _ _ _ _ prog w E Q (by simpa using h)
    · obtain ⟨t, rfl⟩ := Value.isStrOf_shape hu
      obtain ⟨t', rfl⟩ := Value.isStrOf_shape hv
      refine wpAny_eqBool_str ?_
      rename_i i j
      have e : decide (i = j) = decide ((Sum.inr i : Int ⊕ Str) = .inr j) := by
        by_cases q : i = j <;> simp [q]
      rw [e]; exact h
  «strs» := fun k x t v h => by
    cases k
    · simp [mixIs, Value.isInt] at h
    · rename_i y
      have h' : Value.isStrOf y (.str x t) = true := h
      obtain ⟨u, hu⟩ := Value.isStrOf_shape h'
      injection hu with hx
      subst hx
      cases v <;> rfl
section
variable {prog : Program} {w : World} {A : Around} {E : Value → Shared → Prop} {s : Shared} {c : Cx} {g : PM} {L : Addr} {m : Str → Option Value} {news news' : List (Addr × Obj)}
variable {K : Type} [DecidableEq K] {knd : KeyKind prog w K} {d : Addr} {o : Obj} {kvs : List (K × Value)} {k : K} {key v : Value}
theorem not_sys (h : 2 < d) : (d == sysModules) = false := by
  have : d ≠ 1 := fun q => by subst q; exact absurd h (by decide)
  exact beq_eq_false_iff_ne.mpr this
theorem new_dict {env : Env} {pos : Pos} {Q : Value → Shared → Prop} (knd : KeyKind prog w K) (D : Led c g L s.heap m news)
    (h : ∀ d h' o, L < d → Led c g L h' m ((d, o) :: news) → o.IsDictOf knd [] → Q (.ref d) { s with heap := h' }) : wpAny (model prog w) A (eval (.Dict [] [] pos) env) Q E s :=
  wpAny_Dict_empty (h _ _ _ D.ltL (D.push _) ⟨#[], 0, ⟨rfl, rfl, rfl⟩, rfl, fun _ he => by simp at he, .nil, List.nodup_nil⟩)
theorem dict_set {Q : Unit → Shared → Prop} (hkey : knd.is k key = true) (ho : s.heap.get? d = some o) (hd : o.IsDictOf knd kvs) (hz : kvs.length ≤ sizeLine)
    (h : ∀ h' o', h'.get? d = some o' → o'.IsDictOf knd (stored kvs k v) → Heap.ExtBut d s.heap h' → Q () { s with heap := h', toks := s.toks + 1 }) :
    wpAny (model prog w) A (setItem (.ref d) key v) Q E s :=
  wpAny_setItem_pairs hkey (Heap.dictOf_iff.mpr ⟨o, ho, hd⟩) (fun h' hm hs => by
    obtain ⟨o', ho', hd'⟩ := Heap.dictOf_iff.mp hm
    exact h h' o' ho' hd' hs.extBut) hz
theorem dict_get {value slice : Expr} {Q : Value → Shared → Prop} (hkey : knd.is k key = true) (ho : s.heap.get? d = some o) (hd : o.IsDictOf knd kvs) (hv : valueAt kvs k = some v) (h : Q v { s with toks := s.toks + 1 })
    (hs : subscripted slice false (.ref d) key = operate [.ref d, key] (getItem (.ref d) key) := by with_unfolding_all rfl) : wpAny (model prog w) A (subscriptTail value slice (.ref d) key) Q E s :=
  tail_any (Heap.dictOf_iff.mpr ⟨o, ho, hd⟩).mapOf.typeIs slot_dict_getitem.lookup (wpAny_getItem_of hkey (Heap.dictOf_iff.mpr ⟨o, ho, hd⟩).mapOf hv h) hs
theorem dict_in {Q : Value → Shared → Prop} (h2 : 2 < d) (hkey : knd.is k key = true) (ho : s.heap.get? d = some o) (hd : o.IsDictOf knd kvs) (h : Q (.bool (valueAt kvs k).isSome) { s with toks := s.toks + 1 }) :
    wpAny (model prog w) A (compareOp .In key (.ref d)) Q E s := wpAny_in_of hkey (not_sys h2) (Heap.dictOf_iff.mpr ⟨o, ho, hd⟩).mapOf h
theorem dict_notin {Q : Value → Shared → Prop} (h2 : 2 < d) (hkey : knd.is k key = true) (ho : s.heap.get? d = some o) (hd : o.IsDictOf knd kvs) (h : Q (.bool (!(valueAt kvs k).isSome)) { s with toks := s.toks + 1 }) :
    wpAny (model prog w) A (compareOp .NotIn key (.ref d)) Q E s := wpAny_notIn_of hkey (not_sys h2) (Heap.dictOf_iff.mpr ⟨o, ho, hd⟩).mapOf h
theorem dict_meth {name : Str} {id : String} {pl : Sem Bool} {Q : Value × List Value → Shared → Prop} (slot : Slot "dict" name id) (hty : typeOf (.builtin id) = pure (.type "method_descriptor")) (ho : s.heap.get? d = some o) (hd : o.IsDictOf knd kvs)
    (h : Q (.builtin id, [.ref d]) s) : wpAny (model prog w) A (getMethod (.ref d) name pl) Q E s :=
  have hm := (Heap.dictOf_iff.mpr ⟨o, ho, hd⟩ : s.heap.DictOf knd d kvs).mapOf
  getMethod_builtin hm.typeIs PySem.F.plainAttrs_dict slot hty hm.noDict h
theorem dict_get1 {Q : Value → Shared → Prop} (h2 : 2 < d) (hkey : knd.is k key = true) (ho : s.heap.get? d = some o) (hd : o.IsDictOf knd kvs) (h : Q ((valueAt kvs k).getD .none) { s with toks := s.toks + 1 }) :
    wpAny (model prog w) A (call (.builtin "dict.get") [.ref d, key]) Q E s :=
  have hm := (Heap.dictOf_iff.mpr ⟨o, ho, hd⟩ : s.heap.DictOf knd d kvs).mapOf
  call_meetsIn PySem.F.slot_dict_get hm.typeIs PySem.F.entry_dict_get (PySem.F.args_dict_get_2 _ _) (meets_dict_get knd d hkey (not_sys h2)) ⟨_, hm, h⟩
theorem dict_get2 {v₀ : Value} {Q : Value → Shared → Prop} (h2 : 2 < d) (hkey : knd.is k key = true) (ho : s.heap.get? d = some o) (hd : o.IsDictOf knd kvs) (h : Q ((valueAt kvs k).getD v₀) { s with toks := s.toks + 1 }) :
    wpAny (model prog w) A (call (.builtin "dict.get") [.ref d, key, v₀]) Q E s :=
  have hm := (Heap.dictOf_iff.mpr ⟨o, ho, hd⟩ : s.heap.DictOf knd d kvs).mapOf
  call_meetsIn PySem.F.slot_dict_get hm.typeIs PySem.F.entry_dict_get (PySem.F.args_dict_get_3 _ _ _) (meets_dict_get_default knd d hkey (not_sys h2) v₀) ⟨_, hm, h⟩
end

-- part COMP
section
variable {prog : Program} {w : World} {A : Around} {s : Shared} {env cenv : Env} {c : Cx} {g : PM} {m : Str → Option Value} {news : List (Addr × Obj)} {R : Result → Shared → Prop}
/-- the loop of a list comprehension with one clause -/
theorem compLoop_led {elt iter : Expr} {x : Str} {px : Pos} {ifs : List Expr} {scope : Scope} {pos : Pos} {I Dl : Addr} {oI oD : Obj} {fp : List Addr} {n : Nat} {P : Nat → Value → Prop} {St : Nat → Heap → Prop}
    (W : Walks prog w A I fp [I] n P St) (J : Nat → List Value → List (Addr × Obj) → Prop) (hJ0 : J 0 [] news) (D : Led c g cenv.locals s.heap m ((I, oI) :: (Dl, oD) :: news)) (hD : IsLst oD []) (hR : Rest c s) (hst : St 0 s.heap) (hlive : ∀ i h, St i h → ∃ o, h.get? I = some o)
    (hz : n ≤ 2 ^ 22) (hk : cenv.scope.kind = .function) (hx : cenv.kindOf x = some .local)
    (hcont : ∀ i ys news', J i ys news' → ∀ b ∈ fp, b ≠ I → ∃ o, s.heap.get? b = some o ∧ (g b = some o ∨ (b, o) ∈ news'))
    (turn : ∀ i v m₁ ys news₁ oD oI s₁, i < n → P i v → J i ys news₁ → m₁ x = some v → Led c g cenv.locals s₁.heap m₁ ((I, oI) :: (Dl, oD) :: news₁) → IsLst oD ys → Rest c s₁ →
      wpAny (model prog w) A (forIn ifs true fun c r => if r = true then do let ok ← isTrue c cenv (eval c cenv); pure (ForInStep.yield ok) else pure (ForInStep.yield r)) (fun ok s₃ =>
        if ok = true then wpAny (model prog w) A (eval elt cenv) (fun y s₄ => ∃ m₂ news₂, Led c g cenv.locals s₄.heap m₂ ((I, oI) :: (Dl, oD) :: news₂) ∧ Rest c s₄ ∧ J (i + 1) (ys ++ [y]) news₂) (fun _ _ => False) s₃
        else ∃ m₂ news₂, Led c g cenv.locals s₃.heap m₂ ((I, oI) :: (Dl, oD) :: news₂) ∧ Rest c s₃ ∧ J (i + 1) ys news₂) (fun _ _ => False) s₁)
    (done : ∀ m' ys news' oD s', J n ys news' → Led c g cenv.locals s'.heap m' ((Dl, oD) :: news') → IsLst oD ys → ys.length ≤ n → Rest c s' → R (.ok .next) s') :
    codeAny (model prog w) A (.compLoop (.ListComp elt [⟨.Name x px, iter, ifs, 0⟩] scope pos) 0 (.ref I) (.ref Dl) cenv) R s := by
  refine codeAny_compLoop_tests (fun k s' => ∃ i m' ys news' oI' oD', St i s'.heap ∧ J i ys news' ∧ Led c g cenv.locals s'.heap m' ((I, oI') :: (Dl, oD') :: news') ∧ IsLst oD' ys ∧ ys.length ≤ i ∧ Rest c s' ∧ i ≤ n ∧ k = n + 1 - i) ?_ (n + 1)
    ⟨0, m, [], news, oI, oD, hst, hJ0, D, hD, Nat.le_refl _, hR, Nat.zero_le _, rfl⟩
  rintro k s' hxp
  refine e6_8 hxp ?_
  clear hxp
  rintro i m' ys news' oI' oD' hst' hJ D' hD' hl' hR' hi rfl
  by_cases hlt : i < n
  · refine W.item i _ _ _ hlt hst' fun v h₁ tk₁ hP hst₁ hk₁ => ?_
    obtain ⟨oI'', hI⟩ := hlive _ _ hst₁
    have D₁ : Led c g cenv.locals h₁ m' ((I, oI'') :: (Dl, oD') :: news') := D'.upd .head (fun b o hb e => hk₁ b o (by simpa using hb) e) hI
    refine wpAny_assign_Name (st_l D₁ (fun h₂ D₂ => ?_) hk hx)
    have sameI : ∀ (h : Heap) m₃ oD₃ ys₃ news₃, Led c g cenv.locals h m₃ ((I, oI'') :: (Dl, oD₃) :: news₃) → J (i + 1) ys₃ news₃ → St (i + 1) h := by
      intro h m₃ oD₃ ys₃ news₃ D₃ hJ₃
      refine W.frame _ _ _ hst₁ fun b hb o e => ?_
      by_cases hbI : b = I
      · subst hbI
        rw [hI] at e; cases e
        exact D₃.get (.head _)
      · refine e1_2 (hcont (i + 1) ys₃ news₃ hJ₃ b hb hbI) ?_
        rintro o₂ ho₂ h2
        refine e1_2 (hcont i ys news' hJ b hb hbI) ?_
        rintro o₁' ho₁' h1'
        have e1 : h₁.get? b = some o₁' := h1'.elim (fun q => D₁.keep _ _ q) fun q => D₁.get (.tail _ (.tail _ q))
        have e2 : h.get? b = some o₂ := h2.elim (fun q => D₃.keep _ _ q) fun q => D₃.get (.tail _ (.tail _ q))
        rw [ho₁'] at ho₂; cases ho₂
        rw [e1] at e; cases e
        exact e2
    refine notedF (wpAny_mono (turn i v _ ys news' oD' oI'' _ hlt hP hJ (by simp) D₂ hD' hR') (fun ok s₃ h₃ => ?_) fun _ _ x => x)
    cases ok with
    | false =>
      rw [if_neg (by simp)] at h₃ ⊢
      refine e2_3 h₃ ?_
      clear h₃
      rintro m₂ news₂ D₃ hR₃ hJ₃
      exact ⟨n + 1 - (i + 1), by omega, i + 1, m₂, ys, news₂, oI'', oD', sameI _ _ _ _ _ D₃ hJ₃, hJ₃, D₃, hD', by omega, hR₃, hlt, rfl⟩
    | true =>
      rw [if_pos rfl] at h₃ ⊢
      refine notedF (wpAny_mono h₃ (fun y s₄ h₄ => ?_) fun _ _ x => x)
      refine e2_3 h₄ ?_
      clear h₄
      rintro m₂ news₂ D₃ hR₃ hJ₃
      refine append_lst (D₃.get (.tail _ (.head _))) hD' (by rw [sizeLine_eq]; omega) ?_
      intro h₅ oD₅ ho₅ hl₅ hx₅
      have D₅ := D₃.upd (.tail .head) hx₅ ho₅
      exact ⟨n + 1 - (i + 1), by omega, i + 1, m₂, ys ++ [y], news₂, oI'', oD₅, sameI _ _ _ _ _ D₅ hJ₃, hJ₃, D₅, hl₅, by simp; omega, hR₃, hlt, rfl⟩
  · have hin : i = n := by omega
    subst hin
    refine W.done _ _ _ hst' fun h₁ tk₁ hk₁ => ?_
    exact done m' ys news' oD' _ hJ (D'.dropBut fun b o hb e => hk₁ b o (by simpa using hb) e) hD' hl' hR'
theorem led_back {L C Dl : Addr} {h : Heap} {mC mL : Str → Option Value} {oL oD : Obj} (D : Led c g C h mC ((Dl, oD) :: (L, oL) :: news)) (hL : h.Ns L mL) : ∃ oC, Led c g L h mL ((C, oC) :: (Dl, oD) :: news) := by
  refine e1_2 ((D.perm (List.Perm.swap _ _ _)).swap hL) ?_
  rintro oC _ D'
  exact ⟨oC, D'⟩
theorem comp_block {elt iter : Expr} {x : Str} {px : Pos} {ifs : List Expr} {scope : Scope} {cl : List (Str × Addr)} {pos : Pos} {I : Addr} {oI : Obj} {fp : List Addr} {n : Nat} {P : Nat → Value → Prop} {St : Nat → Heap → Prop} {E : Value → Shared → Prop} {RR : Value → Addr → Result → Shared → Prop}
    (W : Walks prog w A I fp [I] n P St) (J : Nat → List Value → List (Addr × Obj) → Prop) (hJ0 : J 0 [] news) (D : Led c g env.locals s.heap m ((I, oI) :: news)) (hR : Rest c s) (hst : St 0 s.heap) (hlive : ∀ i h, St i h → ∃ o, h.get? I = some o)
    (hz : n ≤ 2 ^ 22) (hcell : ∀ y ∈ scope.names, y.2 ≠ .cell) (hkind : scope.kind = .function) (hx : scope.names.lookup x = some .local)
    (hcont : ∀ i ys news', J i ys news' → ∀ b ∈ fp, b ≠ I → ∃ o, s.heap.get? b = some o ∧ (g b = some o ∨ (b, o) ∈ news'))
    (turn : ∀ C Dl i v m₁ ys news₁ oD oI oL s₁, i < n → P i v → J i ys news₁ → m₁ x = some v → Led c g C s₁.heap m₁ ((I, oI) :: (Dl, oD) :: (env.locals, oL) :: news₁) → IsLst oD ys → s₁.heap.Ns env.locals m → Rest c s₁ →
      wpAny (model prog w) A (forIn ifs true fun c r => if r = true then do let ok ← isTrue c (compEnvC scope cl C env) (eval c (compEnvC scope cl C env)); pure (ForInStep.yield ok) else pure (ForInStep.yield r)) (fun ok s₃ =>
        if ok = true then wpAny (model prog w) A (eval elt (compEnvC scope cl C env)) (fun y s₄ => ∃ m₂ news₂, Led c g C s₄.heap m₂ ((I, oI) :: (Dl, oD) :: (env.locals, oL) :: news₂) ∧ Rest c s₄ ∧ J (i + 1) (ys ++ [y]) news₂) (fun _ _ => False) s₃
        else ∃ m₂ news₂, Led c g C s₃.heap m₂ ((I, oI) :: (Dl, oD) :: (env.locals, oL) :: news₂) ∧ Rest c s₃ ∧ J (i + 1) ys news₂) (fun _ _ => False) s₁)
    (hRR : ∀ Dl C oC oD ys news' s' mC, J n ys news' → Led c g env.locals s'.heap m ((C, oC) :: (Dl, oD) :: news') → s'.heap.Ns C mC → IsLst oD ys → ys.length ≤ n → env.locals < Dl → Rest c s' → RR (.ref Dl) C (.ok .next) s') :
    wpAny (model prog w) A (newList []) (fun acc s₃ => wpAny (model prog w) A (newFunctionEnv scope env.globals cl [] env.qual none .none (some env)) (fun cenv s₄ =>
      codeAny (model prog w) A (.compStart (.ListComp elt [⟨.Name x px, iter, ifs, 0⟩] scope pos) 0 (.ref I) acc { cenv with scope := relabel scope env }) (RR acc cenv.locals) s₄) E s₃) E s := by
  refine wpAny_newObj_type ?_ (Nat.zero_le _)
  have D₁ := D.push { cls := .type "list", data := .seq ([] : List Value).toArray }
  have hDl := D.ltL
  have k0 : Keep s.heap (s.heap.push { cls := .type "list", data := .seq ([] : List Value).toArray }) := fun b o e => Heap.get?_push_of_some _ e
  generalize hoD : Obj.mk (.type "list") _ _ _ = oD at D₁ k0
  generalize hDe : s.heap.objs.size = Dl at D₁ hDl ⊢
  generalize hh₁ : s.heap.push _ = h₁ at D₁ k0 ⊢
  refine wpAny_newFunctionEnv hcell (by intro y hy; simp at hy) (fun h₂ hns₂ hsb₂ => ?_) hkind
  dsimp only at hns₂ hsb₂ ⊢
  have k1 : Keep h₁ h₂ := fun b o e => hsb₂.extBut b o (Nat.ne_of_lt (Heap.lt_size e)) (Heap.get?_push_of_some _ e)
  refine e3_2 (id hns₂) ?_
  rintro oC es ep hoC _
  have D₂ : Led c g env.locals h₂ m ((h₁.objs.size, oC) :: (Dl, oD) :: (I, oI) :: news) := D₁.add k1 hoC (Nat.le_refl _)
  refine e1_2 (D₂.swap hns₂) ?_
  rintro oL hoL D₃
  have hnL := D₂.ns
  have D₄ := D₃.perm (news' := (I, oI) :: (Dl, oD) :: (env.locals, oL) :: news) (by
    refine (List.Perm.swap _ _ _).trans ?_
    refine (List.Perm.cons _ (List.Perm.swap _ _ _)).trans ?_
    exact List.Perm.swap _ _ _)
  have nsL : ∀ {h : Heap} {mC news}, Led c g h₁.objs.size h mC news → (env.locals, oL) ∈ news → h.Ns env.locals m := fun D hm => hnL.at' fun o e => by rw [hoL] at e; cases e; exact D.get hm
  have kst : Keep s.heap h₂ := k0.trans k1
  have hst₂ : St 0 h₂ := W.frame _ _ _ hst fun b _ o e => kst b o e
  have loop : ∀ s₃ : Shared, s₃ = { s with heap := h₂, toks := s.toks + ([] : List (Str × Value)).length } →
      codeAny (model prog w) A (.compLoop (.ListComp elt [⟨.Name x px, iter, ifs, 0⟩] scope pos) 0 (.ref I) (.ref Dl) (compEnvC scope cl h₁.objs.size env)) (RR (.ref Dl) h₁.objs.size) s₃ := by
    rintro s₃ rfl
    refine compLoop_led (cenv := compEnvC scope cl h₁.objs.size env) W (fun i ys news' => ∃ news'', news' = (env.locals, oL) :: news'' ∧ J i ys news'') ⟨news, rfl, hJ0⟩ D₄ ⟨0, by rw [← hoD]; rfl⟩ hR hst₂ hlive hz hkind (lookup_relabel_local hx) ?_ ?_ ?_
    · rintro i ys news' hxp
      refine e1_2 hxp ?_
      clear hxp
      rintro news'' rfl hJ b hb hbI
      refine e1_2 (hcont i ys news'' hJ b hb hbI) ?_
      rintro o ho h1
      exact ⟨o, kst _ _ ho, h1.imp id fun q => .tail _ q⟩
    · rintro i v m₁ ys news₁ oD oI s₁ hi hP hxp
      refine e1_2 hxp ?_
      clear hxp
      rintro news'' rfl hJ hm D hD hR
      refine wpAny_mono (turn _ Dl i v m₁ ys news'' oD oI oL s₁ hi hP hJ hm D hD (nsL D (.tail _ (.tail _ (.head _)))) hR) (fun ok s₃ h₃ => ?_) fun _ _ x => x
      cases ok with
      | false =>
        rw [if_neg (by simp)] at h₃ ⊢
        refine e2_3 h₃ ?_
        clear h₃
        rintro m₂ news₂ D₃ hR₃ hJ₃
        exact ⟨m₂, _, D₃, hR₃, _, rfl, hJ₃⟩
      | true =>
        rw [if_pos rfl] at h₃ ⊢
        refine wpAny_mono h₃ (fun y s₄ h₄ => ?_) fun _ _ x => x
        refine e2_3 h₄ ?_
        clear h₄
        rintro m₂ news₂ D₃ hR₃ hJ₃
        exact ⟨m₂, _, D₃, hR₃, _, rfl, hJ₃⟩
    · rintro m' ys news' oD s' hxp
      refine e1_2 hxp ?_
      clear hxp
      rintro news'' rfl hJ D hD hl hR
      obtain ⟨oC', D'⟩ := led_back D (nsL D (.tail _ (.head _)))
      exact hRR Dl _ oC' oD ys news'' s' m' hJ D' D.ns hD hl hDl hR
  exact codeAny_compStart_list (loop _ rfl) (W.self 0 _ _ _ hst₂ (loop _ rfl))
theorem comp_fin {M : Model} {E : Value → Shared → Prop} {Q : Value → Shared → Prop} {L C Dl : Addr} {oC oD : Obj} {mC : Str → Option Value} (D : Led c g L s.heap m ((C, oC) :: (Dl, oD) :: news)) (hC : s.heap.Ns C mC)
    (h : ∀ h', Led c g L h' m ((Dl, oD) :: news) → Q (.ref Dl) { s with heap := h' }) : compPost M A E none Q (.ref Dl) C (.ok .next) s :=
  ⟨mC, hC, fun h' hs => h h' (D.dropBut fun b o hb e => hs.extBut b o hb e)⟩
theorem comp_fin_l {M : Model} {E : Value → Shared → Prop} {Q : Value → Shared → Prop} {y : Str} {py : Pos} {C Dl : Addr} {oC oD : Obj} {mC : Str → Option Value} (D : Led c g env.locals s.heap m ((C, oC) :: (Dl, oD) :: news)) (hC : s.heap.Ns C mC)
    (h : ∀ h', Led c g env.locals h' (fun z => if z = y then some (.ref Dl) else m z) ((Dl, oD) :: news) → Q .none { s with heap := h', toks := s.toks + 1 })
    (hk : env.scope.kind = .function := by rfl) (hy : env.kindOf y = some .local := by rfl) : compPost M A E (some (assign (.Name y py) env)) Q (.ref Dl) C (.ok .next) s := by
  show wpAny M A (assign (.Name y py) env (.ref Dl)) _ E s
  refine wpAny_assign_Name (wpAny_storeName_local hy D.ns (fun h₂ hn₂ hs₂ => ?_) (by rw [hk]; rfl))
  have D₂ := D.set hn₂ hs₂
  exact ⟨mC, hC.sameBut hs₂ (D.neL (.head _)), fun h' hs => h h' (D₂.dropBut fun b o hb e => hs.extBut b o hb e)⟩
theorem comp_eval {E : Value → Shared → Prop} {elt iter : Expr} {x : Str} {px : Pos} {ifs : List Expr} {scope : Scope} {cl : List (Str × Addr)} {pos : Pos} {Q : Value → Shared → Prop}
    (hclos : closureFor scope env = pure cl) (hkind : scope.kind = .function) (hnames : ∀ y ∈ scope.names, y.2 = .local → scope.names.lookup y.1 = some .local)
    (h : wpAny (model prog w) A (eval iter env) (fun xv s₁ => wpAny (model prog w) A (pyIter xv) (fun it s₂ => wpAny (model prog w) A (newList []) (fun acc s₃ => wpAny (model prog w) A (newFunctionEnv scope env.globals cl [] env.qual none .none (some env)) (fun cenv s₄ =>
      codeAny (model prog w) A (.compStart (.ListComp elt [⟨.Name x px, iter, ifs, 0⟩] scope pos) 0 it acc { cenv with scope := relabel scope env }) (compPost (model prog w) A E none Q acc cenv.locals) s₄) E s₃) E s₂) E s₁) E s)
    (hs : ∀ x, foldedSetIterable iter env x = pure x := by intro _; rfl) :
    wpAny (model prog w) A (eval (.ListComp elt [⟨.Name x px, iter, ifs, 0⟩] scope pos) env) Q E s := by
  rw [eval_ListComp]
  exact wpAny_comprehension_free (use := none) rfl hs hclos hkind hnames h
theorem comp_assign {E : Value → Shared → Prop} {elt iter : Expr} {x y : Str} {px py : Pos} {ifs : List Expr} {scope : Scope} {cl : List (Str × Addr)} {pos spos : Pos} {Q : Flow → Shared → Prop}
    (hsw : swapsWith (.ListComp elt [⟨.Name x px, iter, ifs, 0⟩] scope pos) (some (.Name y py)) spos.line env = pure true)
    (hclos : closureFor scope env = pure cl) (hkind : scope.kind = .function) (hnames : ∀ y ∈ scope.names, y.2 = .local → scope.names.lookup y.1 = some .local)
    (h : wpAny (model prog w) A (eval iter env) (fun xv s₁ => wpAny (model prog w) A (pyIter xv) (fun it s₂ => wpAny (model prog w) A (newList []) (fun acc s₃ => wpAny (model prog w) A (newFunctionEnv scope env.globals cl [] env.qual none .none (some env)) (fun cenv s₄ =>
      codeAny (model prog w) A (.compStart (.ListComp elt [⟨.Name x px, iter, ifs, 0⟩] scope pos) 0 it acc { cenv with scope := relabel scope env }) (compPost (model prog w) A E (some (assign (.Name y py) env)) (fun _ s' => Q .next s') acc cenv.locals) s₄) E s₃) E s₂) E s₁) E s)
    (hs : ∀ x, foldedSetIterable iter env x = pure x := by intro _; rfl) :
    wpAny (model prog w) A (exec (.Assign [.Name y py] (.ListComp elt [⟨.Name x px, iter, ifs, 0⟩] scope pos) spos) env) Q E s := by
  rw [exec_Assign_Name_used _ _ _ _ hsw]
  refine wpAny_bind (wpAny_standAt (wpAny_bind ?_))
  show wpAny _ A (do let _ ← comprehension (.ListComp elt [⟨.Name x px, iter, ifs, 0⟩] scope pos) scope env _ (newList []) false (eval iter env) (some (assign (.Name y py) env))) _ _ s
  exact wpAny_bind (wpAny_mono (wpAny_comprehension_free (use := some (assign (.Name y py) env)) (Q := fun _ s' => Q .next s') rfl hs hclos hkind hnames h) (fun _ s' hq => wpAny_pure (wpAny_pure hq)) fun _ _ e => e)
end

-- part ITER
/-- an iterator that stands at its start -/
def Itr (prog : Program) (w : World) (I : Addr) (fp : List Addr) (n : Nat) (P : Nat → Value → Prop) (h : Heap) : Prop :=
  ∃ St : Nat → Heap → Prop, (∀ A : Around, A.handled = none → Walks prog w A I fp [I] n P St) ∧ St 0 h ∧ ∀ i h, St i h → ∃ o, h.get? I = some o
section
variable {prog : Program} {w : World} {A : Around} {E : Value → Shared → Prop} {s : Shared} {c : Cx} {g : PM} {L : Addr} {m : Str → Option Value} {news : List (Addr × Obj)} {Q : Value → Shared → Prop}
theorem itr_list {l : Addr} {o : Obj} {vs : List Value} (D : Led c g L s.heap m news) (ho : s.heap.get? l = some o) (hl : IsLst o vs)
    (h : ∀ I h' oI, L < I → Led c g L h' m ((I, oI) :: news) → Itr prog w I [I, l] vs.length (fun i v => vs[i]? = some v) h' → Q (.ref I) { s with heap := h' }) : wpAny (model prog w) A (pyIter (.ref l)) Q E s := by
  have hne : l ≠ s.heap.objs.size := Nat.ne_of_lt (Heap.lt_size ho)
  have W : ∀ A : Around, A.handled = none → Walks prog w A s.heap.objs.size [s.heap.objs.size, l] [s.heap.objs.size] vs.length (fun i v => vs[i]? = some v) _ := fun A hA => by
    have W := Walks.list (prog := prog) (w := w) (A := A) hA s.heap.objs.size l hne vs.toArray
    rw [List.size_toArray] at W
    simpa using W
  exact wpAny_pyIter_list (IsLst.isList ho hl) (h _ _ _ D.ltL (D.push _) ⟨_, W, ⟨⟨_, Heap.get?_push_size _ rfl, rfl, rfl⟩, IsLst.isList (Heap.get?_push_of_some _ ho) hl⟩, fun i h st => let ⟨⟨o, e, _⟩, _⟩ := st; ⟨o, e⟩⟩)
theorem itr_tuple {l : Addr} {o : Obj} {vs : List Value} (D : Led c g L s.heap m news) (ho : s.heap.get? l = some o) (hl : IsTpl o vs)
    (h : ∀ I h' oI, L < I → Led c g L h' m ((I, oI) :: news) → Itr prog w I [I, l] vs.length (fun i v => vs[i]? = some v) h' → Q (.ref I) { s with heap := h' }) : wpAny (model prog w) A (pyIter (.ref l)) Q E s := by
  have hne : l ≠ s.heap.objs.size := Nat.ne_of_lt (Heap.lt_size ho)
  have W : ∀ A : Around, A.handled = none → Walks prog w A s.heap.objs.size [s.heap.objs.size, l] [s.heap.objs.size] vs.length (fun i v => vs[i]? = some v) _ := fun A hA => by
    have W := Walks.tuple (prog := prog) (w := w) (A := A) hA s.heap.objs.size l hne vs.toArray
    rw [List.size_toArray] at W
    simpa using W
  exact wpAny_pyIter_tuple (IsTpl.isTuple ho hl) (h _ _ _ D.ltL (D.push _) ⟨_, W, ⟨⟨_, Heap.get?_push_size _ rfl, rfl, rfl⟩, IsTpl.isTuple (Heap.get?_push_of_some _ ho) hl⟩, fun i h st => let ⟨⟨o, e, _⟩, _⟩ := st; ⟨o, e⟩⟩)
theorem itr_dict {K : Type} [DecidableEq K] {knd : KeyKind prog w K} {kvs : List (K × Value)} {d : Addr} {o : Obj} (D : Led c g L s.heap m news) (h2 : 2 < d) (ho : s.heap.get? d = some o) (hd : o.IsDictOf knd kvs)
    (h : ∀ I h' oI, L < I → Led c g L h' m ((I, oI) :: news) → Itr prog w I [I, d] kvs.length (fun i v => ∃ k x, kvs[i]? = some (k, x) ∧ knd.is k v = true) h' → Q (.ref I) { s with heap := h' }) : wpAny (model prog w) A (pyIter (.ref d)) Q E s := by
  have hne : d ≠ s.heap.objs.size := Nat.ne_of_lt (Heap.lt_size ho)
  obtain ⟨ep, hA⟩ := (Heap.dictOf_iff.mpr ⟨o, ho, hd⟩ : s.heap.DictOf knd d kvs).dictAt
  exact wpAny_pyIter_dict (not_sys h2) hA (h _ _ _ D.ltL (D.push _) ⟨_, fun A hh => Walks.dictKeys hh _ d hne kvs ep, ⟨⟨_, Heap.get?_push_size _ rfl, rfl, rfl⟩, hA.push _⟩, fun i h st => let ⟨⟨o, e, _⟩, _⟩ := st; ⟨o, e⟩⟩)
theorem values_dict {K : Type} [DecidableEq K] {knd : KeyKind prog w K} {kvs : List (K × Value)} {d : Addr} {o : Obj} (D : Led c g L s.heap m news) (h2 : 2 < d) (ho : s.heap.get? d = some o) (hd : o.IsDictOf knd kvs)
    (h : ∀ v h' ov, L < v → Led c g L h' m ((v, ov) :: news) → ov = { cls := .type "dict_values", data := .fields #[.ref d] } → Q (.ref v) { s with heap := h' }) : wpAny (model prog w) A (call (.builtin "dict.values") [.ref d]) Q E s :=
  have hm := (Heap.dictOf_iff.mpr ⟨o, ho, hd⟩ : s.heap.DictOf knd d kvs)
  call_meetsIn PySem.F.slot_dict_values hm.typeIs PySem.F.entry_dict_values (PySem.F.args_dict_values_1 _) (meets_dict_values knd d (not_sys h2)) ⟨⟨_, hm⟩, h _ _ _ D.ltL (D.push _) rfl⟩
theorem itr_values {K : Type} [DecidableEq K] {knd : KeyKind prog w K} {kvs : List (K × Value)} {d v : Addr} {o : Obj} (D : Led c g L s.heap m news) (hv : s.heap.get? v = some { cls := .type "dict_values", data := .fields #[.ref d] }) (ho : s.heap.get? d = some o) (hd : o.IsDictOf knd kvs)
    (h : ∀ I h' oI, L < I → Led c g L h' m ((I, oI) :: news) → Itr prog w I [I, d] kvs.length (fun i v => ∃ k, kvs[i]? = some (k, v)) h' → Q (.ref I) { s with heap := h' }) : wpAny (model prog w) A (pyIter (.ref v)) Q E s := by
  have hne : d ≠ s.heap.objs.size := Nat.ne_of_lt (Heap.lt_size ho)
  obtain ⟨ep, hA⟩ := (Heap.dictOf_iff.mpr ⟨o, ho, hd⟩ : s.heap.DictOf knd d kvs).dictAt
  exact wpAny_pyIter_values ⟨_, hv, rfl, rfl⟩ hA (h _ _ _ D.ltL (D.push _) ⟨_, fun A hh => Walks.dictValues hh _ d hne kvs ep, ⟨⟨_, Heap.get?_push_size _ rfl, rfl, rfl⟩, hA.push _⟩, fun i h st => let ⟨⟨o, e, _⟩, _⟩ := st; ⟨o, e⟩⟩)
theorem itr_range {r : Addr} {a : Int} {k : Nat} {b : Int} {t u v : Tok} (D : Led c g L s.heap m news) (hr : s.heap.get? r = some (rangeObj a b 1 t u v)) (ha : -(2 ^ 62) ≤ a) (ha' : a < 2 ^ 62) (hb : -(2 ^ 62) ≤ b) (hb' : b < 2 ^ 62) (hk : Builtin.Range.rangeSize a b 1 = k)
    (h : ∀ I h' oI, L < I → Led c g L h' m ((I, oI) :: news) → Itr prog w I [I] k (fun i v => ∃ t, v = .int (a + i) t) h' → Q (.ref I) { s with heap := h' }) : wpAny (model prog w) A (pyIter (.ref r)) Q E s := by
  refine iter_range D hr ha ha' hb hb' hk fun I h' hI D' => h I h' _ hI D' ⟨fun i h => IsRangeIter h I (a + (i : Nat) * 1) ((k : Int) - (i : Nat)) 1, fun A hh => ?_, ?_, fun i h st => ⟨_, st⟩⟩
  · have W := Walks.range (prog := prog) (w := w) (A := A) hh I a 1 k
    simpa using W
  · have q := D'.get (.head _)
    show h'.get? I = _
    simpa [rangeIt] using q
theorem itr_str {x : Str} {t : Tok} (D : Led c g L s.heap m news)
    (h : ∀ I h' oI, L < I → Led c g L h' m ((I, oI) :: news) → Itr prog w I [I] x.cps.size (SignAt x) h' → Q (.ref I) { s with heap := h' }) : wpAny (model prog w) A (pyIter (.str x t)) Q E s := by
  cases ha : x.cps.all (· < 128)
  · exact wpAny_pyIter_wide ha (h _ _ _ D.ltL (D.push _) ⟨_, fun A' hA => Walks.strWide hA _ x t, ⟨_, Heap.get?_push_size _ rfl, rfl, rfl⟩, fun i h ⟨o, e, _⟩ => ⟨o, e⟩⟩)
  · exact wpAny_pyIter_ascii ha (h _ _ _ D.ltL (D.push _) ⟨_, fun A' hA => Walks.strAscii hA _ x t, ⟨_, Heap.get?_push_size _ rfl, rfl, rfl⟩, fun i h ⟨o, e, _⟩ => ⟨o, e⟩⟩)
end
section
variable {prog : Program} {w : World} {A : Around} {s : Shared} {env : Env} {c : Cx} {g : PM} {m : Str → Option Value} {news : List (Addr × Obj)} {R : Result → Shared → Prop}
/-- a for over an iterator -/
theorem for_it {target : Expr} {body : List Stmt} {I : Addr} {oI : Obj} {fp : List Addr} {n : Nat} {P : Nat → Value → Prop} (hh : A.handled = none) (It : Itr prog w I fp n P s.heap) (J : Nat → (Str → Option Value) → List (Addr × Obj) → Prop) (D : Led c g env.locals s.heap m ((I, oI) :: news)) (hJ0 : J 0 m news) (hR : Rest c s)
    (hcont : ∀ i m' news', J i m' news' → ∀ b ∈ fp, b ≠ I → ∃ o, s.heap.get? b = some o ∧ (g b = some o ∨ (b, o) ∈ news'))
    (turn : ∀ i v m₁ news₁ oI s₁, i < n → P i v → J i m₁ news₁ → Led c g env.locals s₁.heap m₁ ((I, oI) :: news₁) → Rest c s₁ →
      wpAny (model prog w) A (assign target env v) (fun _ s₂ => wpAny (model prog w) A (execs body env) (fun f s₃ => match f with
        | .next | .cont => ∃ m₂ news₂, Led c g env.locals s₃.heap m₂ ((I, oI) :: news₂) ∧ Rest c s₃ ∧ J (i + 1) m₂ news₂
        | .brk => R (.ok .next) s₃
        | .ret v => R (.ok (.ret v)) s₃) (fun _ _ => False) s₂) (fun _ _ => False) s₁)
    (done : ∀ m' news' s', J n m' news' → Led c g env.locals s'.heap m' news' → Rest c s' → R (.ok .next) s')
    (ht : ∀ v, letOwnedTupleGo target (.ref I) v = pure () := by intro _; rfl) :
    codeAny (model prog w) A (.forLoop target (.ref I) body [] env) R s := by
  obtain ⟨St, W, hst, hlive⟩ := It
  exact forLoop_led (W A hh) J hJ0 D hR hst hlive hcont turn done ht
end
section
variable {prog : Program} {w : World} {A : Around} {s : Shared} {env : Env} {c : Cx} {g : PM} {m : Str → Option Value} {news : List (Addr × Obj)}
/-- a list comprehension over an iterator -/
theorem comp_it {elt iter : Expr} {x : Str} {px : Pos} {ifs : List Expr} {scope : Scope} {cl : List (Str × Addr)} {pos : Pos} {I : Addr} {oI : Obj} {fp : List Addr} {n : Nat} {P : Nat → Value → Prop} {E : Value → Shared → Prop} {RR : Value → Addr → Result → Shared → Prop}
    (hh : A.handled = none) (It : Itr prog w I fp n P s.heap) (J : Nat → List Value → List (Addr × Obj) → Prop) (hJ0 : J 0 [] news) (D : Led c g env.locals s.heap m ((I, oI) :: news)) (hR : Rest c s)
    (hz : n ≤ 2 ^ 22) (hcell : ∀ y ∈ scope.names, y.2 ≠ .cell) (hkind : scope.kind = .function) (hx : scope.names.lookup x = some .local)
    (hcont : ∀ i ys news', J i ys news' → ∀ b ∈ fp, b ≠ I → ∃ o, s.heap.get? b = some o ∧ (g b = some o ∨ (b, o) ∈ news'))
    (turn : ∀ C Dl i v m₁ ys news₁ oD oI oL s₁, i < n → P i v → J i ys news₁ → m₁ x = some v → Led c g C s₁.heap m₁ ((I, oI) :: (Dl, oD) :: (env.locals, oL) :: news₁) → IsLst oD ys → s₁.heap.Ns env.locals m → Rest c s₁ →
      wpAny (model prog w) A (forIn ifs true fun c r => if r = true then do let ok ← isTrue c (compEnvC scope cl C env) (eval c (compEnvC scope cl C env)); pure (ForInStep.yield ok) else pure (ForInStep.yield r)) (fun ok s₃ =>
        if ok = true then wpAny (model prog w) A (eval elt (compEnvC scope cl C env)) (fun y s₄ => ∃ m₂ news₂, Led c g C s₄.heap m₂ ((I, oI) :: (Dl, oD) :: (env.locals, oL) :: news₂) ∧ Rest c s₄ ∧ J (i + 1) (ys ++ [y]) news₂) (fun _ _ => False) s₃
        else ∃ m₂ news₂, Led c g C s₃.heap m₂ ((I, oI) :: (Dl, oD) :: (env.locals, oL) :: news₂) ∧ Rest c s₃ ∧ J (i + 1) ys news₂) (fun _ _ => False) s₁)
    (hRR : ∀ Dl C oC oD ys news' s' mC, J n ys news' → Led c g env.locals s'.heap m ((C, oC) :: (Dl, oD) :: news') → s'.heap.Ns C mC → IsLst oD ys → ys.length ≤ n → env.locals < Dl → Rest c s' → RR (.ref Dl) C (.ok .next) s') :
    wpAny (model prog w) A (newList []) (fun acc s₃ => wpAny (model prog w) A (newFunctionEnv scope env.globals cl [] env.qual none .none (some env)) (fun cenv s₄ =>
      codeAny (model prog w) A (.compStart (.ListComp elt [⟨.Name x px, iter, ifs, 0⟩] scope pos) 0 (.ref I) acc { cenv with scope := relabel scope env }) (RR acc cenv.locals) s₄) E s₃) E s := by
  obtain ⟨St, W, hst, hlive⟩ := It
  exact comp_block (W A hh) J hJ0 D hR hst hlive hz hcell hkind hx hcont turn hRR
end
section
variable {M : Model} {A : Around} {E : Value → Shared → Prop} {s : Shared} {env : Env} {Q : Bool → Shared → Prop}
theorem tests_nil (h : Q true s) : wpAny M A (forIn ([] : List Expr) true fun c r => if r = true then do let ok ← isTrue c env (eval c env); pure (ForInStep.yield ok) else pure (ForInStep.yield r)) Q E s := wpAny_pure h
theorem tests_one {e : Expr} (h : wpAny M A (isTrue e env (eval e env)) Q E s) : wpAny M A (forIn [e] true fun c r => if r = true then do let ok ← isTrue c env (eval c env); pure (ForInStep.yield ok) else pure (ForInStep.yield r)) Q E s := by
  rw [List.forIn_cons, if_pos rfl]
  refine wpAny_bind (wpAny_bind (wpAny_mono h (fun b s' hq => wpAny_pure ?_) fun _ _ x => x))
  exact wpAny_pure hq
end

-- part NXT
theorem li_slot_ga : Slot "list_iterator" "__getattribute__" "object.__getattribute__" :=
  .of (owner := "object") (n := "__getattribute__") (by rw [typeLookup_type, builtinLookup_eq_fast]; kernel_rfl) (by decide +kernel) (by decide +kernel) (by decide +kernel)
    (by first | exact .inl (by decide +kernel) | exact .inr (by decide +kernel)) (by rw [isSubtype_type]; kernel_rfl)
theorem li_hook : typeLookup (.type "list_iterator") "__getattr__" = pure none := by rw [typeLookup_type, builtinLookup_eq_fast]; kernel_rfl
theorem wd_slot_get : Slot "wrapper_descriptor" "__get__" "wrapper_descriptor.__get__" :=
  .of (owner := "wrapper_descriptor") (n := "__get__") (by rw [typeLookup_type, builtinLookup_eq_fast]; kernel_rfl) (by decide +kernel) (by decide +kernel) (by decide +kernel)
    (by first | exact .inl (by decide +kernel) | exact .inr (by decide +kernel)) (by rw [isSubtype_type]; kernel_rfl)
theorem wd_entry_get : entryFor table "wrapper_descriptor.__get__" = some Builtin.«wrapper_descriptor.__get__» := entryFor_of_tree (by kernel_rfl)
theorem wd_args_get (a b c : Value) : argsOk "wrapper_descriptor.__get__" ⟨[a, b, c], []⟩ := by unfold argsOk; kernel_rfl
theorem wd_set : typeLookup (.type "wrapper_descriptor") "__set__" = pure none := by rw [typeLookup_type, builtinLookup_eq_fast]; kernel_rfl
theorem wd_del : typeLookup (.type "wrapper_descriptor") "__delete__" = pure none := by rw [typeLookup_type, builtinLookup_eq_fast]; kernel_rfl
theorem next_type : typeOf (.builtin "list_iterator.__next__") = pure (.type "wrapper_descriptor") := by show builtinType _ = _; rw [builtinType_eq_fast]; kernel_rfl
def nxtO (I : Addr) : Obj := { cls := .type "method-wrapper", data := .fields #[.builtin "list_iterator.__next__", .ref I] }
theorem li_sub : isSubtype (.type "list_iterator") (.type "list_iterator") = pure true := by rw [isSubtype_type]; kernel_rfl
theorem name_next : (kfb_private% "nameAndClass") (.builtin "list_iterator.__next__") = pure (Str.ofString "__next__", .type "list_iterator") := by first | rfl | kernel_rfl
theorem meets_get (I : Addr) (sl : Array (Option Value)) (fs : Array Value) :
    Meets (Builtin.«wrapper_descriptor.__get__» ⟨[.builtin "list_iterator.__next__", .ref I, .type "list_iterator"], []⟩) (fun A R s => s.heap.get? I = some { cls := .type "list_iterator", dict := none, data := .fields fs, slots := sl } ∧ R (.ok (.ret (.ref s.heap.objs.size))) { s with heap := s.heap.push (nxtO I) }) :=
  Meets.of_wp fun prog w A R s hs => by
    obtain ⟨hp, g, d, tk, os⟩ := s
    obtain ⟨hx, hs⟩ := hs
    have hT : (⟨hp, g, d, tk, os⟩ : Shared).TypeIs (.ref I) "list_iterator" := ⟨_, hx, rfl⟩
    unfold Builtin.«wrapper_descriptor.__get__»
    refine wpAny_bind (wpAny_of_eq (a := (.builtin "list_iterator.__next__", some (.ref I), some (.type "list_iterator"))) (by first | rfl | kernel_rfl) ?_)
    show wpAny _ _ ((kfb_private% "checkInstance") (.builtin "list_iterator.__next__") (.ref I) >>= fun _ => newFields "method-wrapper" [.builtin "list_iterator.__next__", .ref I] >>= fun v => ret v) _ _ _
    refine wpAny_bind ?_
    refine wpAny_bind (wpAny_of_eq name_next ?_)
    dsimp only
    refine wpAny_bind (wpAny_isInstance hT li_sub ?_)
    rw [if_neg (by simp)]
    refine wpAny_pure ?_
    exact wpAny_bind (wpAny_newObj_type (wpAny_pure ⟨_, rfl, hs⟩))
theorem meets_next (I : Addr) (sl : Array (Option Value)) (fs : Array Value) (u : Tok) :
    Meets (Builtin.«object.__getattribute__» ⟨[.ref I, .str (Str.ofString "__next__") u], []⟩) (fun A R s => s.heap.get? I = some { cls := .type "list_iterator", dict := none, data := .fields fs, slots := sl } ∧ R (.ok (.ret (.ref s.heap.objs.size))) { s with heap := s.heap.push (nxtO I) }) :=
  Meets.of_wp fun prog w A R s hs => by
    obtain ⟨hp, g, d, tk, os⟩ := s
    obtain ⟨hx, hs⟩ := hs
    have hT : (⟨hp, g, d, tk, os⟩ : Shared).TypeIs (.ref I) "list_iterator" := ⟨_, hx, rfl⟩
    have f1 := slot_listiter_next.lookup
    have f2 := next_type
    have f3 := wd_slot_get.lookup
    have f4 := wd_set
    have f5 := wd_del
    have f6 : (["__module__", "__name__", "__qualname__", "__doc__", "__annotations__"] : List Str).contains (Str.ofString "__next__") = false := by decide +kernel
    unfold Builtin.«object.__getattribute__»
    repeat (any_goals (first | assumption | ((with_reducible show wpAny _ _ (call (Value.builtin "wrapper_descriptor.__get__") _ _) _ _ _); refine call_meets wd_slot_get f2 wd_entry_get (wd_args_get _ _ _) (meets_get I sl fs) ⟨hx, ?_⟩) | wp_step))
    exact wpAny_pure ⟨_, rfl, hs⟩
section
variable {prog : Program} {w : World} {A : Around} {E : Value → Shared → Prop} {s : Shared}
theorem getAttr_next {I : Addr} {sl : Array (Option Value)} {fs : Array Value} {Q : Value → Shared → Prop} (hx : s.heap.get? I = some { cls := .type "list_iterator", dict := none, data := .fields fs, slots := sl })
    (h : ∀ tk, Q (.ref s.heap.objs.size) { s with heap := s.heap.push (nxtO I), toks := tk }) : wpAny (model prog w) A (getAttr (.ref I) "__next__" true) Q E s := by
  obtain ⟨hp, g, d, tk, os⟩ := s
  have hT : ∀ tk', (⟨hp, g, d, tk', os⟩ : Shared).TypeIs (.ref I) "list_iterator" := fun _ => ⟨_, hx, rfl⟩
  have f3 := li_slot_ga.lookup
  have f4 := li_slot_ga.bind (.ref I)
  have f5 := li_hook
  unfold getAttr getAttrBy
  repeat (any_goals (first | assumption | exact hT _ | ((with_reducible show wpAny _ _ (call (Value.builtin "object.__getattribute__") _ _) _ _ _); refine call_meets li_slot_ga (hT _) F.entry_object_getattribute (F.args_object_getattribute_2 _ _) (meets_next I sl fs _) ⟨hx, ?_⟩) | wp_step))
  exact wpAny_pure (h _)
end

-- part NXT2
section
variable {prog : Program} {w : World} {A : Around} {E : Value → Shared → Prop} {s : Shared}
theorem check_next {I : Addr} : checkBoundCall "list_iterator.__next__" ⟨[.ref I], []⟩ = pure () := by first | kernel_rfl | rfl
theorem quiet_next {as : Args} : (Code.builtin "list_iterator.__next__" as).quiet = true := Code.quiet_builtin _ (by decide +kernel)
theorem call_nxt {W I : Addr} {Q : Value → Shared → Prop} (hW : s.heap.get? W = some (nxtO I))
    (tree : ∀ A' : Around, A'.handled = A.handled → wpAny (model prog w) A' (Builtin.«list_iterator.__next__» ⟨[.ref I], []⟩) (fun fin s' => ∃ v, fin = .done (.ret v) ∧ Q v s') E s) : wpAny (model prog w) A (call (.ref W) []) Q E s := by
  refine wpAny_call (codeAny_of_tree ?_)
  show wpAny _ A.in1 (callAny (.ref W) ⟨[], []⟩) _ _ s
  simp only [callAny]
  refine wpAny_bind (wpAny_load hW ?_)
  simp only [nxtO, show (Value.type "method-wrapper" == Value.type "method" || Value.type "method-wrapper" == Value.type "builtin_function_or_method" || Value.type "method-wrapper" == Value.type "method-wrapper") = true by decide, if_true]
  refine KFB.if_so (by decide) ?_
  refine wpAny_bind (wpAny_of_eq (a := ()) check_next ?_)
  refine wpAny_bind (wpAny_pure (wpAny_pure ?_))
  refine ⟨quiet_next, codeAny_builtin entry_listiter_next ?_⟩
  refine wpAny_mono (tree _ rfl) (fun fin s' hq => ?_) fun _ _ x => x
  obtain ⟨v, rfl, hv⟩ := hq
  exact hv
theorem call_nxt_item {W I l : Addr} {i : Nat} {o : Obj} {vs : List Value} {v : Value} {Q : Value → Shared → Prop} (hW : s.heap.get? W = some (nxtO I)) (hit : s.heap.IsListIter I l i) (ho : s.heap.get? l = some o) (hl : IsLst o vs) (hx : vs[i]? = some v)
    (h : ∀ h', h'.IsListIter I l (i + 1) → Heap.SameBut I s.heap h' → Q v { s with heap := h' }) : wpAny (model prog w) A (call (.ref W) []) Q E s := by
  refine call_nxt hW fun A' _ => ?_
  obtain ⟨oI, hoI, hc, hd⟩ := id hit
  obtain ⟨n, rfl⟩ := hl
  show wpAny _ _ (field (.ref I) 0 >>= _) _ _ s
  refine wpAny_bind (wpAny_field hoI hd (x := .ref l) rfl ?_)
  refine KFB.if_not rfl ?_
  show wpAny _ _ (field (.ref I) 1 >>= _) _ _ s
  refine wpAny_bind (wpAny_field hoI hd (x := .int i 0) rfl ?_)
  show wpAny _ _ (seqItems? (.ref l) >>= _) _ _ s
  refine wpAny_bind (wpAny_seqItems ho rfl ?_)
  simp only [Int.toNat_natCast, List.getElem?_toArray, hx]
  refine wpAny_bind (wpAny_setField hoI hd (by simp) (wpAny_pure ⟨v, rfl, h _ ?_ (Heap.SameBut.update ..)⟩))
  exact ⟨_, Heap.get?_update_self _ hoI (Obj.isFreed_of_fields (Obj.data_mapFields hd _)), (Obj.cls_mapFields ..).trans hc, by rw [Obj.data_mapFields hd]; simp [rawInt]⟩
theorem call_nxt_end {W I l : Addr} {i : Nat} {o : Obj} {vs : List Value} {Q : Value → Shared → Prop} (hA : A.handled = none) (hW : s.heap.get? W = some (nxtO I)) (hit : s.heap.IsListIter I l i) (ho : s.heap.get? l = some o) (hl : IsLst o vs) (hx : vs[i]? = none)
    (h : ∀ h₁ h' e, Heap.SameBut I s.heap h₁ → Heap.NewExcOf h₁ h' e "StopIteration" → E (.ref e) { s with heap := h' }) : wpAny (model prog w) A (call (.ref W) []) Q E s := by
  refine call_nxt hW fun A' hA' => ?_
  obtain ⟨oI, hoI, hc, hd⟩ := id hit
  obtain ⟨n, rfl⟩ := hl
  show wpAny _ _ (field (.ref I) 0 >>= _) _ _ s
  refine wpAny_bind (wpAny_field hoI hd (x := .ref l) rfl ?_)
  refine KFB.if_not rfl ?_
  show wpAny _ _ (field (.ref I) 1 >>= _) _ _ s
  refine wpAny_bind (wpAny_field hoI hd (x := .int i 0) rfl ?_)
  show wpAny _ _ (seqItems? (.ref l) >>= _) _ _ s
  refine wpAny_bind (wpAny_seqItems ho rfl ?_)
  simp only [Int.toNat_natCast, List.getElem?_toArray, hx]
  refine wpAny_bind (wpAny_rule (wpAny_bind (wpAny_setField hoI hd (by simp) ?_)))
  show wpAny _ _ (newExc (.type "StopIteration") [] >>= _) _ _ _
  refine wpAny_bind ?_
  simp only [newExc, newTuple]
  refine wpAny_bind (wpAny_newObj_type ?_ (by size_fits))
  refine wpAny_bind (m := firstArgMember _ _) (wpAny_of_eq (a := Value.none) (by first | rfl | (simp only [firstArgMember]; rfl)) ?_)
  refine wpAny_newObj_type ?_ (by size_fits)
  simp only [raiseNew]
  refine wpAny_bind (wpAny_handled ?_)
  rw [hA', hA]
  refine wpAny_bind (wpAny_pure (wpAny_throw ?_))
  refine h (s.heap.update I (Obj.mapFields fun x => x.setIfInBounds 0 Value.none)) _ _ (Heap.SameBut.update ..) ⟨fun b o e => Heap.get?_push_of_some _ (Heap.get?_push_of_some _ e), ?_, _, _, Heap.get?_push_size _ rfl, rfl, rfl, rfl⟩
  cases q : (s.heap.update I (Obj.mapFields fun x => x.setIfInBounds 0 Value.none)).get? _ with
  | none => rfl
  | some o => exact absurd (Heap.lt_size q) (by rw [Heap.size_push]; exact Nat.not_lt.mpr (Nat.le_succ _))
end

-- part TRY
theorem st_exc : isSubtype (.type "StopIteration") (.type "BaseException") = pure true := by rw [isSubtype_type]; kernel_rfl
theorem st_nt : isSubtype (.type ((Manifest.find? "StopIteration").elim "type" fun x => x.metatype)) (.type "tuple") = pure false := by
  rw [show ((Manifest.find? "StopIteration").elim "type" fun x => x.metatype) = "type" from by decide +kernel, isSubtype_type]; kernel_rfl
theorem st_sub : isSubtype (.type "StopIteration") (.type "StopIteration") = pure true := by rw [isSubtype_type]; kernel_rfl
def slotOk (h h' : Heap) : Prop := ∀ b o, h.get? b = some o → (∀ vs, o.data ≠ .fields vs) → ∃ sl, h'.get? b = some { o with slots := sl }
section
variable {c : Cx} {g : PM} {L : Addr} {h h' : Heap} {m : Str → Option Value} {news : List (Addr × Obj)} {S : List Addr}
theorem Led.left (D : Led c g L h m news) (hS : ∀ b ∈ S, g b = none ∧ b ≠ L ∧ b ∉ news.map (·.1)) (k1 : (hideAll h (L :: S)).StaysIn h') (k4 : slotOk h h') : Led c g L h' m news where
  base := D.base
  ns := by
    refine e3_3 (id D.ns) ?_
    rintro o es ep ho hd hr
    obtain ⟨sl, e⟩ := k4 L o ho fun vs q => by rw [hd] at q; cases q
    exact ⟨_, es, ep, e, hd, hr⟩
  keep := fun b o e => k1 b o (hideAll_get _ (D.keep b o e) fun q => by
    rcases List.mem_cons.mp q with rfl | q
    · rw [D.fresh] at e; cases e
    · rw [(hS b q).1] at e; cases e)
  fresh := D.fresh
  own := fun p hp => ⟨k1 _ _ (hideAll_get _ (D.own p hp).1 fun q => by
    rcases List.mem_cons.mp q with q | q
    · exact D.neL hp q
    · exact (hS _ q).2.2 (List.mem_map_of_mem hp)), (D.own p hp).2⟩
  nd := D.nd
/-- an object that is no frame and stands neither in the base nor on the ledger may change -/
theorem Led.other (D : Led c g L h m news) {T : Addr} (hs : Heap.SameBut T h h') (h1 : T ≠ L) (h2 : g T = none) (h3 : T ∉ news.map (·.1)) : Led c g L h' m news where
  base := D.base
  ns := D.ns.at' fun o e => (hs.2 _ (Ne.symm h1)).trans e
  keep := fun b o e => (hs.2 b fun q => by rw [q, h2] at e; cases e).trans (D.keep b o e)
  fresh := D.fresh
  own := fun p hp => ⟨(hs.2 p.1 fun q => h3 (q ▸ List.mem_map_of_mem hp)).trans (D.own p hp).1, (D.own p hp).2⟩
  nd := D.nd
end
section
variable {prog : Program} {w : World} {A : Around} {E : Value → Shared → Prop} {s : Shared} {env : Env} {outer : List Env} {c : Cx} {g : PM} {h : Heap} {m : Str → Option Value} {news : List (Addr × Obj)} {K : Frag} {e : Addr}
theorem caught_stop {b₀ : Stmt} {suite : List Stmt} {pos np : Pos} {rest : List ExceptHandler} {Q : Flow → Shared → Prop} (G : Glo K c.h0) (D : Led c g env.locals h m news)
    (hfr : A.frames = some (env :: outer)) (hf : env.frame = some env.locals) (hF : h.FunFrames emp outer) (hS : ∀ b ∈ outer.filterMap (·.frame), g b = none ∧ b ≠ env.locals ∧ b ∉ news.map (·.1))
    (hx : Heap.NewExcOf h s.heap e "StopIteration") (en : nsIn K mainGlobals (Str.ofString "StopIteration") = some none) (ev : bootBuiltins (Str.ofString "StopIteration") = some (.type "StopIteration"))
    (k : ∀ h', Led c g env.locals h' m news → slotOk h h' → wpAny (model prog w) (A.mark (some (.ref e))) (execs (b₀ :: suite) env) Q (fun _ _ => False) { s with heap := h' })
    (hg : env.globals = mainGlobals := by rfl) (hgb : env.builtins = builtinsNs := by rfl) (hk : env.scope.kind = .function := by rfl) (hxk : env.kindOf (Str.ofString "StopIteration") = some .globalImplicit := by rfl) :
    wpAny (model prog w) A (noteFrame (.ref e) env) (fun _ s₂ => wpAny (model prog w) A (setFlight (.ref e) none) (fun _ s₃ =>
      wpAny (model prog w) A (handleBy (.ref e) env (.ExceptHandler (some (.Name (Str.ofString "StopIteration") np)) none (b₀ :: suite) pos :: rest)) Q E s₃) E s₂) E s := by
  refine e2_4 (hx.there) ?_
  rintro oe vs he hc hd h1
  have hin : ∀ x ∈ (env :: outer), ∀ b, x.frame = some b → b ∈ env.locals :: outer.filterMap (·.frame) := fun x hx b hb => by
    rcases List.mem_cons.mp hx with rfl | hx
    · rw [hf] at hb; cases hb; exact .head _
    · exact .tail _ (List.mem_filterMap.mpr ⟨x, hx, hb⟩)
  have hF' : h.FunFrames emp (env :: outer) := .cons (by rw [hk]; decide) hf D.ns (emp_none _) hF
  have hl : s.heap.FunFrames (hideAll h (env.locals :: outer.filterMap (·.frame))) (env :: outer) := (funFrames_hide hF' hin).of_keeps fun b o hb _ => ⟨o, hx.keeps b o hb, rfl⟩
  have hkb : (hideAll h (env.locals :: outer.filterMap (·.frame))).StaysIn s.heap := fun b o hb => hx.keeps b o (of_hideAll _ hb)
  have hen : (hideAll h (env.locals :: outer.filterMap (·.frame))).get? e = none := by
    cases q : (hideAll h (env.locals :: outer.filterMap (·.frame))).get? e with
    | none => rfl
    | some o => have := of_hideAll _ q; rw [hx.new] at this; cases this
  unfold noteFrame
  simp only [hf]
  refine wpAny_bind (wpAny_field he hd h1 ?_)
  rw [if_neg (by decide)]
  refine wpAny_newEntry hfr hl hf he hkb hen hd (Array.getElem?_eq_some_iff.mp h1).1 fun h₁ hL => ?_
  refine e0_4 hL ?_
  clear hL
  rintro k1 k2 k3 k4
  have k4' : slotOk h h₁ := fun b o ho hv => k4 b o (hx.keeps b o ho) hv
  have D₁ := D.left hS k1 k4'
  refine e5_9 k3 ?_
  clear k3
  rintro oe' vs' T oT ts he' hc' hd' h1' hnT hTe hT hdT h3
  refine wpAny_handleBy_builtin (X := "StopIteration") (T := "StopIteration") (b := true) st_exc st_nt st_sub ?_
  refine nm_b (K := K) G D₁.kb en ev (by decide +kernel) ⟨rfl, ⟨_, he', hc'.trans hc⟩, ?_⟩ hg hgb hk hxk (by decide +kernel)
  rw [if_pos rfl]
  refine wpAny_setFlight_none he' hd' h1' hT hdT (Array.getElem?_eq_some_iff.mp h3).1 ?_
  have nb : ∀ b o, h.get? b = some o → b ≠ env.locals → b ∉ outer.filterMap (·.frame) → b ≠ T := fun b o ho n1 n2 q => by
    have := hideAll_get (env.locals :: outer.filterMap (·.frame)) ho (by
      intro z
      rcases List.mem_cons.mp z with z | z
      · exact n1 z
      · exact n2 z)
    rw [q, hnT] at this; cases this
  have hTL : T ≠ env.locals := fun q => by
    refine e3_3 (id D₁.ns) ?_
    rintro o es ep ho hdd _
    rw [← q, hT] at ho; cases ho
    rw [hdT] at hdd; cases hdd
  have D₂ := D₁.other (h' := h₁.update T (Obj.mapFields (·.setIfInBounds 3 .none))) (Heap.SameBut.update ..) hTL (by
    cases q : g T with
    | none => rfl
    | some o => exact absurd rfl (nb T o (D.keep _ _ q) hTL fun z => by rw [(hS T z).1] at q; cases q)) (by
    intro z
    refine e1_2 (List.mem_map.mp z) ?_
    rintro p hp rfl
    exact absurd rfl (nb p.1 p.2 (D.get hp) hTL fun z => (hS _ z).2.2 (List.mem_map_of_mem hp)))
  refine notedF (k _ D₂ fun b o ho hv => ?_)
  obtain ⟨sl, e1⟩ := k4' b o ho hv
  have hbT : b ≠ T := fun q => by
    rw [q, hT] at e1; cases e1
    exact hv _ hdT
  exact ⟨sl, ((show Heap.SameBut T h₁ (h₁.update T (Obj.mapFields (·.setIfInBounds 3 .none))) from Heap.SameBut.update ..).2 b hbT).trans e1⟩
end

-- part FC0
/-- the frames of the callers, on the ledger -/
structure FrOk (outer : List Env) (FR : List (Addr × Obj)) : Prop where
  ads : FR.map (·.1) = outer.filterMap (·.frame)
  kinds : ∀ x ∈ outer, x.scope.kind ≠ .module ∧ x.frame.isSome = true
  data : ∀ p ∈ FR, ∀ vs, p.2.data ≠ .fields vs
def slotted (f : Addr → Array (Option Value)) (FR : List (Addr × Obj)) : List (Addr × Obj) := FR.map fun p => (p.1, { p.2 with slots := f p.1 })
theorem slotted_ads (f : Addr → Array (Option Value)) (FR : List (Addr × Obj)) : (slotted f FR).map (·.1) = FR.map (·.1) := by simp [slotted, List.map_map, Function.comp_def]
theorem FrOk.slotted {outer : List Env} {FR : List (Addr × Obj)} (x : FrOk outer FR) (f : Addr → Array (Option Value)) : FrOk outer (slotted f FR) where
  ads := (slotted_ads f FR).trans x.ads
  kinds := x.kinds
  data := fun p hp vs => by
    obtain ⟨q, hq, rfl⟩ := List.mem_map.mp hp
    exact x.data q hq vs
theorem funFrames_of {h : Heap} : ∀ {outer : List Env} {FR : List (Addr × Obj)}, (∀ x ∈ outer, x.scope.kind ≠ .module ∧ x.frame.isSome = true) → FR.map (·.1) = outer.filterMap (·.frame) → (∀ p ∈ FR, ∀ vs, p.2.data ≠ .fields vs) → (∀ p ∈ FR, h.get? p.1 = some p.2) → h.FunFrames emp outer
  | [], _, _, _, _, _ => trivial
  | env :: r, FR, hk, ha, hd, hg => by
    obtain ⟨L, hL⟩ := Option.isSome_iff_exists.mp (hk env (.head _)).2
    rw [List.filterMap_cons, hL] at ha
    cases FR with
    | nil => cases ha
    | cons p FR =>
      rw [List.map_cons] at ha
      injection ha with h1 h2
      subst h1
      exact ⟨(hk env (.head _)).1, ⟨p.1, p.2, hL, emp_none _, hg p (.head _), hd p (.head _)⟩, funFrames_of (fun x hx => hk x (.tail _ hx)) h2 (fun q hq => hd q (.tail _ hq)) fun q hq => hg q (.tail _ hq)⟩
section
variable {prog : Program} {w : World} {A : Around} {E : Value → Shared → Prop} {s : Shared} {env : Env} {outer : List Env} {c : Cx} {g : PM} {h : Heap} {m : Str → Option Value} {news FR : List (Addr × Obj)} {K : Frag} {e : Addr}
theorem caught_led {b₀ : Stmt} {suite : List Stmt} {pos np : Pos} {rest : List ExceptHandler} {Q : Flow → Shared → Prop} (G : Glo K c.h0) (D : Led c g env.locals h m (news ++ FR))
    (hfr : A.frames = some (env :: outer)) (hf : env.frame = some env.locals) (hF : FrOk outer FR)
    (hx : Heap.NewExcOf h s.heap e "StopIteration") (en : nsIn K mainGlobals (Str.ofString "StopIteration") = some none) (ev : bootBuiltins (Str.ofString "StopIteration") = some (.type "StopIteration"))
    (k : ∀ h' f, Led c g env.locals h' m (news ++ slotted f FR) → wpAny (model prog w) (A.mark (some (.ref e))) (execs (b₀ :: suite) env) Q (fun _ _ => False) { s with heap := h' })
    (hg : env.globals = mainGlobals := by rfl) (hgb : env.builtins = builtinsNs := by rfl) (hk : env.scope.kind = .function := by rfl) (hxk : env.kindOf (Str.ofString "StopIteration") = some .globalImplicit := by rfl) :
    wpAny (model prog w) A (noteFrame (.ref e) env) (fun _ s₂ => wpAny (model prog w) A (setFlight (.ref e) none) (fun _ s₃ =>
      wpAny (model prog w) A (handleBy (.ref e) env (.ExceptHandler (some (.Name (Str.ofString "StopIteration") np)) none (b₀ :: suite) pos :: rest)) Q E s₃) E s₂) E s := by
  have nd := D.ndn
  rw [List.map_append, List.nodup_append] at nd
  have D₀ : Led c g env.locals h m news := D.ofMem (fun p hp => List.mem_append_left _ hp) nd.1
  refine caught_stop G D₀ hfr hf (funFrames_of hF.kinds hF.ads hF.data fun p hp => D.get (List.mem_append_right _ hp)) (fun b hb => ?_) hx en ev (fun h' D' sl => ?_) hg hgb hk hxk
  · rw [← hF.ads] at hb
    obtain ⟨p, hp, rfl⟩ := List.mem_map.mp hb
    exact ⟨(D.own p (List.mem_append_right _ hp)).2, D.neL (List.mem_append_right _ hp), fun q => nd.2.2 _ q _ (List.mem_map_of_mem hp) rfl⟩
  · refine k h' (fun a => ((h'.get? a).map (·.slots)).getD #[]) ⟨D'.base, D'.ns, D'.keep, D'.fresh, fun p hp => ?_, ?_⟩
    · rcases List.mem_append.mp hp with hp | hp
      · exact D'.own p hp
      · obtain ⟨q, hq, rfl⟩ := List.mem_map.mp hp
        obtain ⟨z, ez⟩ := sl q.1 q.2 (D.get (List.mem_append_right _ hq)) (hF.data q hq)
        refine ⟨?_, (D.own q (List.mem_append_right _ hq)).2⟩
        show h'.get? q.1 = _
        simp only [ez, Option.map_some, Option.getD_some]
    · have := D.nd
      rw [List.map_append] at this ⊢
      rw [slotted_ads]; exact this
end
section
variable {prog : Program} {w : World} {A : Around} {E : Value → Shared → Prop} {s : Shared} {c : Cx} {g : PM} {L : Addr} {m : Str → Option Value} {news news' : List (Addr × Obj)}
variable {K : Type} [DecidableEq K] [BEq K] [LawfulBEq K] {knd : KeyKind prog w K} {d : Addr} {o : Obj} {kvs : List (K × Value)} {k : K} {key v : Value} {S : K → Bool} {n : Nat}
theorem new_set {Q : Value → Shared → Prop} (knd : KeyKind prog w K) (D : Led c g L s.heap m news)
    (h : ∀ d h' o, L < d → Led c g L h' m ((d, o) :: news) → o.SetObjOf knd (fun _ => false) 0 → Q (.ref d) { s with heap := h' }) : wpAny (model prog w) A (call (.type "set") []) Q E s :=
  call_set_0 fun led => h _ _ _ D.ltL (D.push _) (setObjOf_fresh led)
theorem set_in {Q : Value → Shared → Prop} (hkey : knd.is k key = true) (hsc : key.scannable = true) (ho : s.heap.get? d = some o) (hd : o.SetObjOf knd S n) (hn : n < scanBound) (h : Q (.bool (S k)) { s with toks := s.toks + 1 }) :
    wpAny (model prog w) A (compareOp .In key (.ref d)) Q E s := wpAny_inSet_of hkey hsc (hd.setOf ho hn) h
theorem set_meth {pl : Sem Bool} {Q : Value × List Value → Shared → Prop} (ho : s.heap.get? d = some o) (hd : o.SetObjOf knd S n) (hn : n < scanBound) (h : Q (.builtin "set.add", [.ref d]) s) :
    wpAny (model prog w) A (getMethod (.ref d) "add" pl) Q E s := getMethod_set_add (hd.setOf ho hn) h
theorem set_add {Q : Value → Shared → Prop} (hkey : knd.is k key = true) (hsc : key.scannable = true) (ho : s.heap.get? d = some o) (hd : o.SetObjOf knd S n) (hn : n + 1 < scanBound)
    (h : ∀ h' o', h'.get? d = some o' → o'.SetObjOf knd (fun k' => S k' || decide (k' = k)) (if S k then n else n + 1) → Heap.ExtBut d s.heap h' → Q .none { s with heap := h', toks := s.toks + 1 }) :
    wpAny (model prog w) A (call (.builtin "set.add") [.ref d, key]) Q E s :=
  call_set_add hkey hsc (hd.setOf ho (Nat.lt_of_succ_lt hn)) hn fun h' hs hS => by
    obtain ⟨o', ho', hd'⟩ := hS.objOf
    exact h h' o' ho' hd' hs.extBut
end
section
variable {prog : Program} {w : World} {A : Around} {E : Value → Shared → Prop} {s : Shared} {K : Type} [DecidableEq K] {knd : KeyKind prog w K} {d : Addr} {o : Obj} {kvs : List (K × Value)} {k : K} {key v : Value}
theorem dict_del {Q : Unit → Shared → Prop} (hkey : knd.is k key = true) (ho : s.heap.get? d = some o) (hd : o.IsDictOf knd kvs) (hz : kvs.length ≤ sizeLine) (hv : (valueAt kvs k).isSome = true)
    (h : ∀ h' o', h'.get? d = some o' → o'.IsDictOf knd (without kvs k) → Heap.ExtBut d s.heap h' → Q () { s with heap := h', toks := s.toks + 1 }) :
    wpAny (model prog w) A (delItem (.ref d) key) Q E s := by
  have hD : s.heap.DictOf knd d kvs := Heap.dictOf_iff.mpr ⟨o, ho, hd⟩
  unfold delItem
  try with_reducible refine wpAny_holding ?_
  refine wpAny_bind (wpAny_sequenceKey hD.typeIs (by decide) ?_)
  refine wpAny_bind (wpAny_callSpecial?_slot (name := Str.ofString "__delitem__") hD.typeIs PySem.F.slot_dict_delitem
    (call_meetsIn PySem.F.slot_dict_delitem hD.typeIs PySem.F.entry_dict_delitem (PySem.F.args_dict_delitem_2 _ _) (meets_dict_delitem_pairs knd d hkey) ⟨kvs, hD, hz, hv, fun h' hmm hs => ?_⟩))
  obtain ⟨o', ho', hd'⟩ := Heap.dictOf_iff.mp hmm
  exact wpAny_pure (h h' o' ho' hd' hs.extBut)
theorem sub_last {value slice : Expr} {l : Addr} {vs : List Value} {t : Tok} {Q : Value → Shared → Prop} (ho : s.heap.get? l = some o) (hl : IsLst o (vs ++ [v])) (h : Q v s)
    (hs : subscripted slice false (.ref l) (.int (-1) t) = operate [.ref l, .int (-1) t] (getItem (.ref l) (.int (-1) t)) := by with_unfolding_all rfl) :
    wpAny (model prog w) A (subscriptTail value slice (.ref l) (.int (-1) t)) Q E s :=
  tail_any (IsLst.isList ho hl).typeIs slot_list_getitem.lookup (wpAny_getItem_list_neg (IsLst.isList ho hl) (by decide) (by simp; omega) (by decide) (by
    rw [List.size_toArray, List.getElem?_toArray, show (-1 + (((vs ++ [v]).length : Nat) : Int)).toNat = vs.length from by simp; omega]
    simp) h) hs
theorem callWith_nxt {pos : Pos} {W I : Addr} {env : Env} {Q : Value → Shared → Prop} (hW : s.heap.get? W = some (nxtO I)) (h : wpAny (model prog w) A (call (.ref W) []) Q E s) :
    wpAny (model prog w) A (callWith pos (.ref W) [] (backTo pos (starEach [] env)) []) Q E s := by
  unfold callWith
  refine wpAny_bind (wpAny_holding (evalArgs_nil3 (wpAny_bind (wpAny_standAt ?_))))
  refine wpAny_bind (m := keeperOf (.ref W)) ?_
  unfold keeperOf
  refine wpAny_bind (wpAny_load hW ?_)
  simp only [nxtO, show (Value.type "method-wrapper" != Value.type "method") = true by decide, show (Value.type "method-wrapper" == Value.type "builtin_function_or_method" || Value.type "method-wrapper" == Value.type "method-wrapper") = true by decide, if_true]
  refine wpAny_pure ?_
  exact wpAny_bind (wpAny_mono h (fun r s₂ hr => wpAny_bind (wpAny_holding (wpAny_point (wpAny_pure hr)))) fun _ _ x => x)
end
section
variable {prog : Program} {w : World} {A : Around} {s : Shared} {env : Env} {c : Cx} {g : PM} {m : Str → Option Value} {news : List (Addr × Obj)}
theorem while_led {test : Expr} {body orelse : List Stmt} {R : Result → Shared → Prop} {k : Nat} (D : Led c g env.locals s.heap m news) (hR : Rest c s) (J : Nat → (Str → Option Value) → List (Addr × Obj) → Prop) (hJ0 : J k m news)
    (turn : ∀ k m₁ news₁ s₁, J k m₁ news₁ → Led c g env.locals s₁.heap m₁ news₁ → Rest c s₁ →
      wpAny (model prog w) A (isTrue test env (eval test env)) (fun b s₂ =>
        if b then wpAny (model prog w) A (execs body env) (fun f s₃ => match f with
          | .next | .cont => ∃ m₂ news₂, Led c g env.locals s₃.heap m₂ news₂ ∧ Rest c s₃ ∧ ∃ k', k' < k ∧ J k' m₂ news₂
          | .brk => R (.ok .next) s₃
          | .ret v => R (.ok (.ret v)) s₃) (fun _ _ => False) s₂
        else wpAny (model prog w) A (execs orelse env) (fun f s₃ => R (.ok f) s₃) (fun _ _ => False) s₂) (fun _ _ => False) s₁) :
    codeAny (model prog w) A (.whileLoop test body orelse env) R s := whileLoop_led J hJ0 D hR turn
end

-- part CELL
theorem cellsAre_addrs {cm : Str → Option Value} : ∀ {cs : List (Str × Addr)} {cells : List (Addr × Obj)}, CellsAre cm cs cells → cells.map (·.1) = cs.map (·.2)
  | _, _, .nil => rfl
  | _, _, .cons _ r => by rw [List.map_cons, List.map_cons, cellsAre_addrs r]
theorem kinds_ok {names : List (Str × NameKind)} {binds : List (Str × Value)} (h : (binds.all fun x => decide (names.lookup x.1 = some .local) || (decide (names.lookup x.1 = some .cell) && decide (x.1 ∈ (cellsFrom 0 names []).map (·.1)))) = true) (n : Nat) :
    ∀ x ∈ binds, names.lookup x.1 = some .local ∨ (names.lookup x.1 = some .cell ∧ ((cellsFrom n names []).lookup x.1).isSome = true) := fun x hx => by
  have := List.all_eq_true.mp h x hx
  rw [Bool.or_eq_true, Bool.and_eq_true, decide_eq_true_eq, decide_eq_true_eq, decide_eq_true_eq] at this
  refine this.imp id fun q => ⟨q.1, ?_⟩
  have e := cellsFrom_names names 0 n [] [] rfl
  rw [e] at q
  have q2 := q.2
  generalize cellsFrom n names [] = l at q2
  induction l with
  | nil => cases q2
  | cons a l ih =>
    rw [List.lookup_cons]
    split
    · rfl
    · rename_i z
      refine ih ?_
      rw [List.map_cons] at q2
      rcases List.mem_cons.mp q2 with q2 | q2
      · rw [q2] at z; simp at z
      · exact q2
section
variable {c : Cx} {g : PM} {L : Addr} {h : Heap} {m : Str → Option Value} {news : List (Addr × Obj)}
theorem Led.cells (D : Led c g L h m news) : ∀ {cells : List (Addr × Obj)}, (∀ p ∈ cells, h.get? p.1 = some p.2 ∧ g p.1 = none ∧ p.1 ≠ L ∧ p.1 ∉ news.map (·.1)) → (cells.map (·.1)).Nodup → Led c g L h m (cells ++ news)
  | [], _, _ => D
  | q :: cells, hc, nd => by
    rw [List.map_cons, List.nodup_cons] at nd
    have D' := Led.cells D (cells := cells) (fun p hp => hc p (.tail _ hp)) nd.2
    obtain ⟨h1, h2, h3, h4⟩ := hc q (.head _)
    refine (D'.snoc h1 h2 h3 ?_).perm (List.perm_append_singleton _ _)
    rw [List.map_append, List.mem_append]
    rintro (z | z)
    · exact nd.1 z
    · exact h4 z
end
section
variable {prog : Program} {w : World} {A : Around} {E : Value → Shared → Prop} {s : Shared} {c : Cx} {K : Frag}
/-- entry into a def that has cells -/
theorem call_fnC {f : Addr} {oc : Value} {od : Option Addr} {osl : Array (Option Value)} {name qual : Str} {params : Arguments} {body : List Stmt} {scope : Scope} {dV kV doc pm cdv ct : Value} {an : Option Addr} {args : List Value} {binds : List (Str × Value)} {mu : List (Addr × Obj)} {n : Nat} {Q : Value → Shared → Prop}
    (G : Glo K c.h0) (B : Keep c.h0 s.heap) (hA : AOk A (n + 1))
    (ho : K.lookup f = some ⟨oc, od, .func (fnOf name qual params body scope dV kV doc pm an cdv ct), osl⟩) (hcd : codeIn K cdv qual = true)
    (hbind : BindsTo s (fnOf name qual params body scope dV kV doc pm an cdv ct) ⟨args, []⟩ binds)
    (hkind : ∀ n, ∀ x ∈ binds, scope.names.lookup x.1 = some .local ∨ (scope.names.lookup x.1 = some .cell ∧ ((cellsFrom n scope.names []).lookup x.1).isSome = true))
    (hnd : ((cellsFrom 0 scope.names []).map (·.1)).Nodup)
    (hmb : ∀ p ∈ mu, c.h0.get? p.1 = none) (hm : ∀ p ∈ mu, s.heap.get? p.1 = some p.2) (hmn : (mu.map (·.1)).Nodup)
    (h : ∀ L h₁ tk A' cells, A' = A.deeper (envX qual scope L f cdv (cellsFrom (L + 1) scope.names [])) → s.heap.objs.size ≤ L → Keep s.heap h₁ →
      Led c (hid s.heap (mu.map (·.1))) L h₁ (bindL (envX qual scope L f cdv (cellsFrom (L + 1) scope.names [])).kindOf binds fun _ => none) (cells ++ mu) →
      CellsAre (bindC (envX qual scope L f cdv (cellsFrom (L + 1) scope.names [])).kindOf binds fun _ => none) (cellsFrom (L + 1) scope.names []) cells → (∀ p ∈ cells, L < p.1) → AOk A' n →
      wpAny (model prog w) A' (execs body (envX qual scope L f cdv (cellsFrom (L + 1) scope.names []))) (fun fl s' => Q (match fl with | .ret v => v | _ => .none) s') (fun _ _ => False) { s with heap := h₁, toks := tk })
    (hco : scope.isCoroutine = false) (hgen : scope.isGenerator = false) (hk : scope.kind = .function) :
    wpAny (model prog w) A (call (.ref f) args) Q E s := by
  have G' := G.keeps B
  refine wpAny_call (codeAny_call_function (by have := hA.depth; omega) (G'.k _ _ ho) rfl hco hgen rfl (codeRec_of G'.k hcd) (hbind _ _ _ _ ?_))
  refine wpAny_newFunctionEnv_cells hk (hkind _) fun env' he s' x => ?_
  subst he
  refine ⟨G'.lim.keeps x.toInCall.keep, codeAny_func ?_⟩
  obtain ⟨h₁, tk, rfl, _⟩ := x.done
  have hk₁ : Keep s.heap h₁ := x.toInCall.keep
  have hns : h₁.Ns s.heap.objs.size _ := x.toInCall.ns
  obtain ⟨cells, NC, Y⟩ := Cl.news (h₀ := s.heap) (Nat.le_refl _) fun n c hm => ⟨x.cell n c (lookup_of_mem_nodup (cellsFrom_names scope.names 0 (s.heap.objs.size + 1) [] [] rfl ▸ hnd) hm), x.above n c hm⟩
  have hab : ∀ p ∈ cells, s.heap.objs.size < p.1 := fun p hp => by
    have : p.1 ∈ (cellsFrom (s.heap.objs.size + 1) scope.names []).map (·.2) := cellsAre_addrs Y ▸ List.mem_map_of_mem hp
    obtain ⟨q, hq, e⟩ := List.mem_map.mp this
    rw [← e]; exact x.above q.1 q.2 hq
  have D := Led.enter (c := c) (mu := mu) B hmb hns hk₁ (Nat.le_refl _) hm hmn
  have D := D.cells (cells := cells) (fun p hp => ⟨(NC p hp).1, ?_, (NC p hp).2.1, fun q => ?_⟩) (by
    rw [cellsAre_addrs Y, List.nodup_iff_pairwise_ne, List.pairwise_map]
    exact x.apart)
  · exact wpAny_mono (h s.heap.objs.size h₁ tk _ cells rfl (Nat.le_refl _) hk₁ D Y hab (hA.deeper _)) (fun _ _ z => z) fun _ _ z => z.elim
  · cases q : hid s.heap (mu.map (·.1)) p.1 with
    | none => rfl
    | some o => have := (of_hid q).1; rw [(NC p hp).2.2] at this; cases this
  · obtain ⟨r, hr, e⟩ := List.mem_map.mp q
    have := hm r hr
    rw [e, (NC p hp).2.2] at this; cases this
end

-- part UNP
section
variable {prog : Program} {w : World} {A : Around} {E : Value → Shared → Prop} {s : Shared} {env : Env} {c : Cx} {g : PM} {L : Addr} {m : Str → Option Value} {news : List (Addr × Obj)}
theorem unpack_led {t : Addr} {o : Obj} {vs : List Value} {n : Nat} {Q : List Value → Shared → Prop} (D : Led c g L s.heap m news) (hh : A.handled = none) (ht : s.heap.get? t = some o) (hl : IsTpl o vs) (hn : n = vs.length)
    (h : ∀ h', Keep s.heap h' → Led c g L h' m news → Q vs { s with heap := h' }) : wpAny (model prog w) A (unpackItems (.ref t) n none) Q E s := by
  subst hn
  refine wpAny_unpackItems_tuple (items := vs.toArray) hh (IsTpl.isTuple ht hl) fun h' hx => ?_
  have hk : Keep s.heap h' := fun b o e => hx b o (Nat.ne_of_lt (Heap.lt_size e)) e
  exact h h' hk (D.after hk)
theorem assign_tuple_led {elts : List Expr} {x1} {pos : Pos} {t : Addr} {o : Obj} {vs : List Value} {Q : Unit → Shared → Prop} (D : Led c g L s.heap m news) (hh : A.handled = none) (ht : s.heap.get? t = some o) (hl : IsTpl o vs)
    (hn : (assignEach elts env).length = vs.length) (hstar : (assignEach elts env).findIdx? (·.1) = none)
    (h : ∀ h', Keep s.heap h' → Led c g L h' m news → wpAny (model prog w) A (assignInOrder ((assignEach elts env).map (·.2)) vs) Q E { s with heap := h' }) : wpAny (model prog w) A (assign (.Tuple elts x1 pos) env (.ref t)) Q E s := by
  refine wpAny_assign_Tuple (items := vs.toArray) hh (IsTpl.isTuple ht hl) hn hstar fun h' hx => ?_
  have hk : Keep s.heap h' := fun b o e => hx b o (Nat.ne_of_lt (Heap.lt_size e)) e
  exact h h' hk (D.after hk)
theorem exp_cut {M : Model} {α : Type} {t : Sem α} {Q : α → Shared → Prop} (P : α → Shared → Prop) (h : wpAny M A t P (fun _ _ => False) s) (h2 : ∀ v s', P v s' → Q v s') : wpAny M A t Q E s :=
  wpAny_mono h h2 fun _ _ x => x.elim
theorem aio_two {M : Model} {n1 n2 : Str} {v1 v2 : Value} {Q : Unit → Shared → Prop} (h : wpAny M A (storeName env n2 v2) (fun _ s₁ => wpAny M A (storeName env n1 v1) Q E s₁) E s) :
    wpAny M A (assignInOrder ([n1, n2].reverse.map fun n => bindName env n) [v1, v2].reverse) Q E s := by
  show wpAny M A (assignInOrder [bindName env n2, bindName env n1] [v2, v1]) Q E s
  exact assignInOrder_cons (bindName_ (wpAny_mono h (fun _ _ x => assignInOrder_cons (bindName_ (wpAny_mono x (fun _ _ y => assignInOrder_nil y) fun _ _ y => y))) fun _ _ y => y))
end

-- part CELL2
theorem cells_inv {cm : Str → Option Value} {n : Str} {c : Addr} {cs : List (Str × Addr)} {cells : List (Addr × Obj)} (x : CellsAre cm ((n, c) :: cs) cells) : ∃ o r, cells = (c, o) :: r ∧ o.data = .cell (cm n) ∧ CellsAre cm cs r := by
  cases x with | cons h r => exact ⟨_, _, rfl, h, r⟩
theorem cells_inv0 {cm : Str → Option Value} {cells : List (Addr × Obj)} (x : CellsAre cm [] cells) : cells = [] := by cases x; rfl
section
variable {prog : Program} {w : World} {A : Around} {E : Value → Shared → Prop} {s : Shared} {env : Env} {c : Cx} {g : PM} {L : Addr} {m : Str → Option Value} {news : List (Addr × Obj)}
theorem Led.sub {h : Heap} {news' : List (Addr × Obj)} (D : Led c g L h m news) (hs : news'.Sublist news) : Led c g L h m news' :=
  D.ofMem (fun p hp => hs.subset hp) ((hs.map (·.1)).nodup D.ndn)
theorem st_cU {M : Model} {x : Str} {v : Value} {c' : Addr} {o : Obj} {v₀ : Option Value} {news' : Obj → List (Addr × Obj)} {Q : Unit → Shared → Prop} (D : Led c g env.locals s.heap m news) (hc : env.cells.lookup x = some c') (U : ∀ o', Up c' o o' news (news' o')) (hd : o.data = .cell v₀)
    (h : ∀ h' o', o'.data = .cell (some v) → Led c g env.locals h' m (news' o') → Q () { s with heap := h' })
    (hk : env.scope.kind = .function := by rfl) (hx : env.kindOf x = some .cell := by rfl) : wpAny M A (storeName env x v) Q E s := by
  refine wpAny_storeName_cell hk hx hc ⟨o, D.get (U o).mem, hd⟩ fun h' hv hs => ?_
  obtain ⟨o', ho', hd'⟩ := hv
  exact h h' o' hd' (D.upd (U o') hs.extBut ho')
theorem sub_tpl {value slice : Expr} {t : Addr} {o : Obj} {vs : List Value} {k : Int} {j : Nat} {u : Tok} {v : Value} {Q : Value → Shared → Prop} (ho : s.heap.get? t = some o) (hl : IsTpl o vs) (hlo : -(2 ^ 63) ≤ k) (hhi : k < 2 ^ 63) (hj : seqIndex? k vs.length = some j) (hx : vs[j]? = some v) (h : Q v s)
    (hs : subscripted slice false (.ref t) (.int k u) = operate [.ref t, .int k u] (getItem (.ref t) (.int k u)) := by with_unfolding_all rfl) :
    wpAny (model prog w) A (subscriptTail value slice (.ref t) (.int k u)) Q E s :=
  tail_any (IsTpl.isTuple ho hl).typeIs PyProof.Rows.slot_tuple_getitem.lookup (PyProof.Rows.getItem_tuple (IsTpl.isTuple ho hl) hlo hhi (by simpa using hj) (by simpa using hx) h) hs
theorem sub_list_neg {value slice : Expr} {l : Addr} {o : Obj} {vs : List Value} {k : Int} {u : Tok} {v : Value} {Q : Value → Shared → Prop} (ho : s.heap.get? l = some o) (hl : IsLst o vs) (h0 : k < 0) (h1 : -(vs.length : Int) ≤ k) (hz : vs.length < 2 ^ 60) (hx : vs[(k + vs.length).toNat]? = some v) (h : Q v s)
    (hs : subscripted slice false (.ref l) (.int k u) = operate [.ref l, .int k u] (getItem (.ref l) (.int k u)) := by with_unfolding_all rfl) :
    wpAny (model prog w) A (subscriptTail value slice (.ref l) (.int k u)) Q E s :=
  tail_any (IsLst.isList ho hl).typeIs slot_list_getitem.lookup (wpAny_getItem_list_neg (IsLst.isList ho hl) h0 (by simpa using h1) (by omega) (by simpa using hx) h) hs
end

-- part DCOMP
section
variable {prog : Program} {w : World} {A : Around} {s : Shared} {env cenv : Env} {c : Cx} {g : PM} {m : Str → Option Value} {news : List (Addr × Obj)} {R : Result → Shared → Prop} {K : Type} [DecidableEq K] {knd : KeyKind prog w K}
theorem compLoopD_led {kx vx iter : Expr} {x : Str} {px : Pos} {ifs : List Expr} {scope : Scope} {pos : Pos} {I Dl : Addr} {oI oD : Obj} {fp : List Addr} {n : Nat} {P : Nat → Value → Prop} {St : Nat → Heap → Prop}
    (W : Walks prog w A I fp [I] n P St) (J : Nat → List (K × Value) → List (Addr × Obj) → Prop) (hJ0 : J 0 [] news) (D : Led c g cenv.locals s.heap m ((I, oI) :: (Dl, oD) :: news)) (hD : oD.IsDictOf knd []) (hR : Rest c s) (hst : St 0 s.heap) (hlive : ∀ i h, St i h → ∃ o, h.get? I = some o)
    (hz : n ≤ 2 ^ 20) (hk : cenv.scope.kind = .function) (hx : cenv.kindOf x = some .local)
    (hcont : ∀ i ys news', J i ys news' → ∀ b ∈ fp, b ≠ I → ∃ o, s.heap.get? b = some o ∧ (g b = some o ∨ (b, o) ∈ news'))
    (turn : ∀ i v m₁ ys news₁ oD oI s₁, i < n → P i v → J i ys news₁ → m₁ x = some v → Led c g cenv.locals s₁.heap m₁ ((I, oI) :: (Dl, oD) :: news₁) → oD.IsDictOf knd ys → Rest c s₁ →
      wpAny (model prog w) A (forIn ifs true fun c r => if r = true then do let ok ← isTrue c cenv (eval c cenv); pure (ForInStep.yield ok) else pure (ForInStep.yield r)) (fun ok s₃ =>
        if ok = true then wpAny (model prog w) A (eval kx cenv) (fun kv s₄ => wpAny (model prog w) A (eval vx cenv) (fun vv s₅ => ∃ m₂ news₂ k, Led c g cenv.locals s₅.heap m₂ ((I, oI) :: (Dl, oD) :: news₂) ∧ Rest c s₅ ∧ knd.is k kv = true ∧ J (i + 1) (stored ys k vv) news₂) (fun _ _ => False) s₄) (fun _ _ => False) s₃
        else ∃ m₂ news₂, Led c g cenv.locals s₃.heap m₂ ((I, oI) :: (Dl, oD) :: news₂) ∧ Rest c s₃ ∧ J (i + 1) ys news₂) (fun _ _ => False) s₁)
    (done : ∀ m' ys news' oD s', J n ys news' → Led c g cenv.locals s'.heap m' ((Dl, oD) :: news') → oD.IsDictOf knd ys → Rest c s' → R (.ok .next) s') :
    codeAny (model prog w) A (.compLoop (.DictComp kx vx [⟨.Name x px, iter, ifs, 0⟩] scope pos) 0 (.ref I) (.ref Dl) cenv) R s := by
  refine codeAny_compLoop_testsD (fun k s' => ∃ i m' ys news' oI' oD', St i s'.heap ∧ J i ys news' ∧ Led c g cenv.locals s'.heap m' ((I, oI') :: (Dl, oD') :: news') ∧ oD'.IsDictOf knd ys ∧ ys.length ≤ i ∧ Rest c s' ∧ i ≤ n ∧ k = n + 1 - i) ?_ (n + 1)
    ⟨0, m, [], news, oI, oD, hst, hJ0, D, hD, Nat.le_refl _, hR, Nat.zero_le _, rfl⟩
  rintro k s' hxp
  refine e6_8 hxp ?_
  clear hxp
  rintro i m' ys news' oI' oD' hst' hJ D' hD' hl' hR' hi rfl
  by_cases hlt : i < n
  · refine W.item i _ _ _ hlt hst' fun v h₁ tk₁ hP hst₁ hk₁ => ?_
    obtain ⟨oI'', hI⟩ := hlive _ _ hst₁
    have D₁ : Led c g cenv.locals h₁ m' ((I, oI'') :: (Dl, oD') :: news') := D'.upd .head (fun b o hb e => hk₁ b o (by simpa using hb) e) hI
    refine wpAny_assign_Name (st_l D₁ (fun h₂ D₂ => ?_) hk hx)
    have sameI : ∀ (h : Heap) m₃ oD₃ ys₃ news₃, Led c g cenv.locals h m₃ ((I, oI'') :: (Dl, oD₃) :: news₃) → J (i + 1) ys₃ news₃ → St (i + 1) h := by
      intro h m₃ oD₃ ys₃ news₃ D₃ hJ₃
      refine W.frame _ _ _ hst₁ fun b hb o e => ?_
      by_cases hbI : b = I
      · subst hbI
        rw [hI] at e; cases e
        exact D₃.get (.head _)
      · refine e1_2 (hcont (i + 1) ys₃ news₃ hJ₃ b hb hbI) ?_
        rintro o₂ ho₂ h2
        refine e1_2 (hcont i ys news' hJ b hb hbI) ?_
        rintro o₁' ho₁' h1'
        have e1 : h₁.get? b = some o₁' := h1'.elim (fun q => D₁.keep _ _ q) fun q => D₁.get (.tail _ (.tail _ q))
        have e2 : h.get? b = some o₂ := h2.elim (fun q => D₃.keep _ _ q) fun q => D₃.get (.tail _ (.tail _ q))
        rw [ho₁'] at ho₂; cases ho₂
        rw [e1] at e; cases e
        exact e2
    refine notedF (wpAny_mono (turn i v _ ys news' oD' oI'' _ hlt hP hJ (by simp) D₂ hD' hR') (fun ok s₃ h₃ => ?_) fun _ _ x => x)
    cases ok with
    | false =>
      rw [if_neg (by simp)] at h₃ ⊢
      refine e2_3 h₃ ?_
      clear h₃
      rintro m₂ news₂ D₃ hR₃ hJ₃
      exact ⟨n + 1 - (i + 1), by omega, i + 1, m₂, ys, news₂, oI'', oD', sameI _ _ _ _ _ D₃ hJ₃, hJ₃, D₃, hD', by omega, hR₃, hlt, rfl⟩
    | true =>
      rw [if_pos rfl] at h₃ ⊢
      refine notedF (wpAny_mono h₃ (fun kv s₄ h₄ => notedF (wpAny_mono h₄ (fun vv s₅ h₅ => ?_) fun _ _ x => x)) fun _ _ x => x)
      refine e3_4 h₅ ?_
      clear h₅
      rintro m₂ news₂ k D₃ hR₃ hkv hJ₃
      refine wpAny_dictSet_pairs (hsz := by rw [sizeLine_eq]; omega) hkv (Heap.dictOf_iff.mpr ⟨_, D₃.get (.tail _ (.head _)), hD'⟩) fun h₆ hm₆ hs₆ => ?_
      refine e1_2 (Heap.dictOf_iff.mp hm₆) ?_
      rintro oD₆ ho₆ hd₆
      have D₆ := D₃.upd (.tail .head) hs₆.extBut ho₆
      have := stored_length_le ys k vv
      exact ⟨n + 1 - (i + 1), by omega, i + 1, m₂, stored ys k vv, news₂, oI'', oD₆, sameI _ _ _ _ _ D₆ hJ₃, hJ₃, D₆, hd₆, by omega, hR₃, hlt, rfl⟩
  · have hin : i = n := by omega
    subst hin
    refine W.done _ _ _ hst' fun h₁ tk₁ hk₁ => ?_
    exact done m' ys news' oD' _ hJ (D'.dropBut fun b o hb e => hk₁ b o (by simpa using hb) e) hD' hR'
theorem compD_it {kx vx iter : Expr} {x : Str} {px : Pos} {ifs : List Expr} {scope : Scope} {cl : List (Str × Addr)} {pos : Pos} {I : Addr} {oI : Obj} {fp : List Addr} {n : Nat} {P : Nat → Value → Prop} {E : Value → Shared → Prop} {RR : Value → Addr → Result → Shared → Prop}
    (hh : A.handled = none) (It : Itr prog w I fp n P s.heap) (J : Nat → List (K × Value) → List (Addr × Obj) → Prop) (hJ0 : J 0 [] news) (D : Led c g env.locals s.heap m ((I, oI) :: news)) (hR : Rest c s)
    (hz : n ≤ 2 ^ 20) (hcell : ∀ y ∈ scope.names, y.2 ≠ .cell) (hkind : scope.kind = .function) (hx : scope.names.lookup x = some .local)
    (hcont : ∀ i ys news', J i ys news' → ∀ b ∈ fp, b ≠ I → ∃ o, s.heap.get? b = some o ∧ (g b = some o ∨ (b, o) ∈ news'))
    (turn : ∀ C Dl i v m₁ ys news₁ oD oI oL s₁, i < n → P i v → J i ys news₁ → m₁ x = some v → Led c g C s₁.heap m₁ ((I, oI) :: (Dl, oD) :: (env.locals, oL) :: news₁) → oD.IsDictOf knd ys → s₁.heap.Ns env.locals m → Rest c s₁ →
      wpAny (model prog w) A (forIn ifs true fun c r => if r = true then do let ok ← isTrue c (compEnvC scope cl C env) (eval c (compEnvC scope cl C env)); pure (ForInStep.yield ok) else pure (ForInStep.yield r)) (fun ok s₃ =>
        if ok = true then wpAny (model prog w) A (eval kx (compEnvC scope cl C env)) (fun kv s₄ => wpAny (model prog w) A (eval vx (compEnvC scope cl C env)) (fun vv s₅ => ∃ m₂ news₂ k, Led c g C s₅.heap m₂ ((I, oI) :: (Dl, oD) :: (env.locals, oL) :: news₂) ∧ Rest c s₅ ∧ knd.is k kv = true ∧ J (i + 1) (stored ys k vv) news₂) (fun _ _ => False) s₄) (fun _ _ => False) s₃
        else ∃ m₂ news₂, Led c g C s₃.heap m₂ ((I, oI) :: (Dl, oD) :: (env.locals, oL) :: news₂) ∧ Rest c s₃ ∧ J (i + 1) ys news₂) (fun _ _ => False) s₁)
    (hRR : ∀ Dl C oC oD ys news' s' mC, J n ys news' → Led c g env.locals s'.heap m ((C, oC) :: (Dl, oD) :: news') → s'.heap.Ns C mC → oD.IsDictOf knd ys → env.locals < Dl → Rest c s' → RR (.ref Dl) C (.ok .next) s') :
    wpAny (model prog w) A newDict (fun acc s₃ => wpAny (model prog w) A (newFunctionEnv scope env.globals cl [] env.qual none .none (some env)) (fun cenv s₄ =>
      codeAny (model prog w) A (.compStart (.DictComp kx vx [⟨.Name x px, iter, ifs, 0⟩] scope pos) 0 (.ref I) acc { cenv with scope := relabel scope env }) (RR acc cenv.locals) s₄) E s₃) E s := by
  refine e1_3 It ?_
  clear It
  rintro St W' hst hlive
  have W := W' A hh
  refine wpAny_newObj_type ?_
  have D₁ := D.push { cls := .type "dict", dict := none, data := .dict #[] }
  have hDl := D.ltL
  have k0 : Keep s.heap (s.heap.push { cls := .type "dict", dict := none, data := .dict #[] }) := fun b o e => Heap.get?_push_of_some _ e
  have hdd : (({ cls := .type "dict", dict := none, data := .dict #[] } : Obj)).IsDictOf knd [] := ⟨#[], 0, ⟨rfl, rfl, rfl⟩, rfl, fun _ he => by simp at he, .nil, List.nodup_nil⟩
  generalize hoD : Obj.mk (.type "dict") _ _ _ = oD at D₁ k0 hdd
  generalize hDe : s.heap.objs.size = Dl at D₁ hDl ⊢
  generalize hh₁ : s.heap.push _ = h₁ at D₁ k0 ⊢
  refine wpAny_newFunctionEnv hcell (by intro y hy; simp at hy) (fun h₂ hns₂ hsb₂ => ?_) hkind
  dsimp only at hns₂ hsb₂ ⊢
  have k1 : Keep h₁ h₂ := fun b o e => hsb₂.extBut b o (Nat.ne_of_lt (Heap.lt_size e)) (Heap.get?_push_of_some _ e)
  refine e3_2 (id hns₂) ?_
  rintro oC es ep hoC _
  have D₂ : Led c g env.locals h₂ m ((h₁.objs.size, oC) :: (Dl, oD) :: (I, oI) :: news) := D₁.add k1 hoC (Nat.le_refl _)
  refine e1_2 (D₂.swap hns₂) ?_
  rintro oL hoL D₃
  have hnL := D₂.ns
  have D₄ := D₃.perm (news' := (I, oI) :: (Dl, oD) :: (env.locals, oL) :: news) (by
    refine (List.Perm.swap _ _ _).trans ?_
    refine (List.Perm.cons _ (List.Perm.swap _ _ _)).trans ?_
    exact List.Perm.swap _ _ _)
  have nsL : ∀ {h : Heap} {mC news}, Led c g h₁.objs.size h mC news → (env.locals, oL) ∈ news → h.Ns env.locals m := fun D hm => hnL.at' fun o e => by rw [hoL] at e; cases e; exact D.get hm
  have kst : Keep s.heap h₂ := k0.trans k1
  have hst₂ : St 0 h₂ := W.frame _ _ _ hst fun b _ o e => kst b o e
  have loop : ∀ s₃ : Shared, s₃ = { s with heap := h₂, toks := s.toks + ([] : List (Str × Value)).length } →
      codeAny (model prog w) A (.compLoop (.DictComp kx vx [⟨.Name x px, iter, ifs, 0⟩] scope pos) 0 (.ref I) (.ref Dl) (compEnvC scope cl h₁.objs.size env)) (RR (.ref Dl) h₁.objs.size) s₃ := by
    rintro s₃ rfl
    refine compLoopD_led (knd := knd) (cenv := compEnvC scope cl h₁.objs.size env) W (fun i ys news' => ∃ news'', news' = (env.locals, oL) :: news'' ∧ J i ys news'') ⟨news, rfl, hJ0⟩ D₄ hdd hR hst₂ hlive hz hkind (lookup_relabel_local hx) ?_ ?_ ?_
    · rintro i ys news' hxp
      refine e1_2 hxp ?_
      clear hxp
      rintro news'' rfl hJ b hb hbI
      refine e1_2 (hcont i ys news'' hJ b hb hbI) ?_
      rintro o ho h1
      exact ⟨o, kst _ _ ho, h1.imp id fun q => .tail _ q⟩
    · rintro i v m₁ ys news₁ oD oI s₁ hi hP hxp
      refine e1_2 hxp ?_
      clear hxp
      rintro news'' rfl hJ hm D hD hR
      refine wpAny_mono (turn _ Dl i v m₁ ys news'' oD oI oL s₁ hi hP hJ hm D hD (nsL D (.tail _ (.tail _ (.head _)))) hR) (fun ok s₃ h₃ => ?_) fun _ _ x => x
      cases ok with
      | false =>
        rw [if_neg (by simp)] at h₃ ⊢
        refine e2_3 h₃ ?_
        clear h₃
        rintro m₂ news₂ D₃ hR₃ hJ₃
        exact ⟨m₂, _, D₃, hR₃, _, rfl, hJ₃⟩
      | true =>
        rw [if_pos rfl] at h₃ ⊢
        refine wpAny_mono h₃ (fun kv s₄ h₄ => wpAny_mono h₄ (fun vv s₅ h₅ => ?_) fun _ _ x => x) fun _ _ x => x
        refine e3_4 h₅ ?_
        clear h₅
        rintro m₂ news₂ k D₃ hR₃ hkv hJ₃
        exact ⟨m₂, _, k, D₃, hR₃, hkv, _, rfl, hJ₃⟩
    · rintro m' ys news' oD s' hxp
      refine e1_2 hxp ?_
      clear hxp
      rintro news'' rfl hJ D hD hR
      obtain ⟨oC', D'⟩ := led_back D (nsL D (.tail _ (.head _)))
      exact hRR Dl _ oC' oD ys news'' s' m' hJ D' D.ns hD hDl hR
  exact codeAny_compStart_dict (loop _ rfl) (W.self 0 _ _ _ hst₂ (loop _ rfl))
theorem compD_eval {E : Value → Shared → Prop} {kx vx iter : Expr} {x : Str} {px : Pos} {ifs : List Expr} {scope : Scope} {cl : List (Str × Addr)} {pos : Pos} {Q : Value → Shared → Prop}
    (hclos : closureFor scope env = pure cl) (hkind : scope.kind = .function) (hnames : ∀ y ∈ scope.names, y.2 = .local → scope.names.lookup y.1 = some .local)
    (h : wpAny (model prog w) A (eval iter env) (fun xv s₁ => wpAny (model prog w) A (pyIter xv) (fun it s₂ => wpAny (model prog w) A newDict (fun acc s₃ => wpAny (model prog w) A (newFunctionEnv scope env.globals cl [] env.qual none .none (some env)) (fun cenv s₄ =>
      codeAny (model prog w) A (.compStart (.DictComp kx vx [⟨.Name x px, iter, ifs, 0⟩] scope pos) 0 it acc { cenv with scope := relabel scope env }) (compPost (model prog w) A E none Q acc cenv.locals) s₄) E s₃) E s₂) E s₁) E s)
    (hs : ∀ x, foldedSetIterable iter env x = pure x := by intro _; rfl) :
    wpAny (model prog w) A (eval (.DictComp kx vx [⟨.Name x px, iter, ifs, 0⟩] scope pos) env) Q E s := by
  rw [arm_eval_DictComp]
  exact wpAny_comprehension_free (use := none) rfl hs hclos hkind hnames h
end

-- part HQ1
local macro_rules | `(tactic| wtm_at "s") => do
  let f (n : String) (z : Lean.Syntax) : Lean.MacroM Lean.Syntax := return (← `(tactic| first | with_reducible refine $(Lean.mkIdent n.toName) ?_ | $(⟨z⟩):tactic)).raw
  let g (n : String) (z : Lean.Syntax) : Lean.MacroM Lean.Syntax := return (← `(tactic| first | ((with_reducible refine $(Lean.mkIdent n.toName) ?_ ?_); rotate_left; (with_unfolding_all rfl)) | $(⟨z⟩):tactic)).raw
  let y ← `(tactic| ((with_reducible refine wpAny_Expr ?_ ?_ ?_); rotate_left; (with_unfolding_all rfl); (with_unfolding_all rfl)))
  ("wpAny_execs_cons wpAny_execs_nil wpAny_Return_some wpAny_Break wpAny_Continue isTrue_not isTrue_and_nil isTrue_or_nil isTrue_and isTrue_or wpAny_BinOp wpAny_Constant_int Calls.Constant_str Constant_bool Constant_none IfExp_ wpAny_NamedExpr List_ wpAny_assign_Name Subscript_ wpAny_truthy_bool lt_int gt_int eq_int ne_int ge_int le_int add1N mul2N add_int sub_int eq_str ne_str".splitOn " ").foldrM f (← ("wpAny_Assign_Name wpAny_Assign_Subscript plainObj_wpAny_Assign_Attribute Attribute_Name_ Attribute_any_ wpAny_isTrue_Compare1 wpAny_Compare1".splitOn " ").foldrM g y.raw)
local macro_rules | `(tactic| wtm_at "ent") => do
  let f (n : String) (z : Lean.Syntax) : Lean.MacroM Lean.Syntax := return (← `(tactic| ((case $(Lean.mkIdent n.toName):ident => k_is); $(⟨z⟩):tactic))).raw
  ["gho", "ghcd"].foldrM f (← `(tactic| ((case ghb => exact BindsTo.of_eq rfl); (case ghl => exact locs rfl); (case gc1 => decide); (case gc2 => rfl); (case gc3 => rfl); (case gc4 => rfl)))).raw
local macro_rules | `(tactic| wtm_at "nm") => `(tactic| ((with_reducible show wpAny _ _ (eval (Expr.Name _ _) _) _ _ _); refine' nm_l ?hD ?hv ?_; (case hD => assumption); (case hv => first | rfl | assumption)))
local macro_rules | `(tactic| wtm_at "g") => `(tactic| first | wtm_at "s" | wtm_at "nm")
local macro_rules | `(tactic| wtm_at "st") => `(tactic| ((with_reducible show wpAny _ _ (storeName _ _ _) _ _ _); refine' st_l ?hD ?_; (case hD => assumption); (intro _ _); (try dsimp only)))
local macro_rules | `(tactic| wtm_at "glob") => `(tactic| ((with_reducible show wpAny _ _ (eval (Expr.Name _ _) _) _ _ _); first
  | (refine' nm_g ?gG ?gB ?ge ?_; (case gG => assumption); (case gB => exact Led.kb (by assumption)); (case ge => k_is))
  | (refine' nm_b ?gG ?gB ?ge ?gv ?gn ?_; (case gG => assumption); (case gB => exact Led.kb (by assumption)); (case ge => k_is); (case gv => boot_fast); (case gn => decide))))
local macro_rules | `(tactic| wtm_at "call") => `(tactic| first
  | ((with_reducible show wpAny _ _ (eval (Expr.Call (Expr.Attribute _ _ _) _ _ _) _) _ _ _); (refine' MethodCall_ ?_ ?gr); (case gr => with_unfolding_all rfl))
  | ((with_reducible refine Call_ ?_ ?_); rotate_left; (with_unfolding_all rfl))
  | with_reducible refine callWith_method0 ?_
  | ((with_reducible refine callWith_method1 ?_ ?_ ?_); rotate_left; (with_unfolding_all rfl); (with_unfolding_all rfl))
  | ((with_reducible refine PyProof.Rows.callWith_type1 ?_ ?_ ?_); rotate_left; (with_unfolding_all rfl); (with_unfolding_all rfl))
  | ((with_reducible refine PyProof.Rows.callWith_builtin1 ?_ ?_ ?_); rotate_left; (with_unfolding_all rfl); (with_unfolding_all rfl))
  | ((with_reducible show wpAny _ _ (callWith _ (Value.ref _) _ _ _) _ _ _); refine' callWith_K ?gK ?gk ?_ ?ga ?gb; (case gK => exact Glo.k (by assumption)); (case gk => k_is); (case ga => with_unfolding_all rfl); (case gb => with_unfolding_all rfl))
  | ((with_reducible refine args_cons ?_ ?_); rotate_left; (with_unfolding_all rfl))
  | ((with_reducible refine args_nil ?_); (try (refine And.intro (Frag.In.keeps (Glo.k (by assumption)) (Led.kb (by assumption))) ?_)); (try dsimp only [List.nil_append, List.cons_append])))
local macro_rules | `(tactic| wtm_at "go") => `(tactic| (repeat first | wtm_at "s" | wtm_at "nm" | wtm_at "st" | wtm_at "glob" | wtm_at "call"))
local macro_rules | `(tactic| wtm_at "kin") => `(tactic| exact Frag.In.keeps (Glo.k (by assumption)) (Led.kb (by assumption)))
local macro_rules | `(tactic| wtm_at "up") => `(tactic| repeat (first | exact Up.head | refine Up.tail ?_))
local macro_rules | `(tactic| wtm_at "sas") => do
  let f (n : String) (z : Lean.Syntax) : Lean.MacroM Lean.Syntax := return (← `(tactic| ((case $(Lean.mkIdent n.toName):ident => k_is); $(⟨z⟩):tactic))).raw
  ["g1", "g2", "g3", "g4", "g5"].foldrM f (← `(tactic| ((case gX => wtm_at "kin"); (case g6 => decide); (case g7 => first | k_slotset | rfl); (case g8 => exact rfl)))).raw
local macro_rules | `(tactic| wtm_at "gas") => do
  let f (n : String) (z : Lean.Syntax) : Lean.MacroM Lean.Syntax := return (← `(tactic| ((case $(Lean.mkIdent n.toName):ident => k_is); $(⟨z⟩):tactic))).raw
  ["g1", "g2", "g3", "g4", "g5", "g6"].foldrM f (← `(tactic| ((case gX => wtm_at "kin"); (case g7 => first | rfl | k_slotget); (case g8 => k_handed)))).raw
local macro_rules | `(tactic| wtm_at "gao") => do
  let f (n : String) (z : Lean.Syntax) : Lean.MacroM Lean.Syntax := return (← `(tactic| ((case $(Lean.mkIdent n.toName):ident => k_is); $(⟨z⟩):tactic))).raw
  ["g1", "g2", "g3", "g4"].foldrM f (← `(tactic| ((case gX => wtm_at "kin"); (case g5 => k_get); (case g6 => k_handed)))).raw
local macro_rules | `(tactic| wtm_at "sad") => do
  let f (n : String) (z : Lean.Syntax) : Lean.MacroM Lean.Syntax := return (← `(tactic| ((case $(Lean.mkIdent n.toName):ident => k_is); $(⟨z⟩):tactic))).raw
  ["g1", "g2", "g3", "g4"].foldrM f (← `(tactic| ((case gX => wtm_at "kin"); (case g5 => k_get); (case g6 => k_put); (case g8 => exact Nat.le_of_ble_eq_true rfl)))).raw
local macro_rules | `(tactic| wtm_at "gmi") => do
  let f (n : String) (z : Lean.Syntax) : Lean.MacroM Lean.Syntax := return (← `(tactic| ((case $(Lean.mkIdent n.toName):ident => k_is); $(⟨z⟩):tactic))).raw
  ["g1", "g2", "g3"].foldrM f (← `(tactic| ((case gX => wtm_at "kin"); (case g4 => k_get)))).raw
local macro_rules | `(tactic| wtm_at "entC") => do
  let f (n : String) (z : Lean.Syntax) : Lean.MacroM Lean.Syntax := return (← `(tactic| ((case $(Lean.mkIdent n.toName):ident => k_is); $(⟨z⟩):tactic))).raw
  ["gho", "ghcd"].foldrM f (← `(tactic| ((case ghb => exact BindsTo.of_eq rfl); (case ghl => exact kinds_ok rfl); (case gnd => decide); (case gm1 => exact fun _ q => absurd q List.not_mem_nil); (case gm2 => exact fun _ q => absurd q List.not_mem_nil); (case gm3 => exact List.nodup_nil); (case gc2 => rfl); (case gc3 => rfl); (case gc4 => rfl)))).raw
local macro_rules | `(tactic| wtm_at "aio") => `(tactic| first | with_reducible refine assignInOrder_cons ?_ | with_reducible refine assignInOrder_nil ?_ | with_reducible refine bindName_ ?_)
local macro_rules | `(tactic| wtm_at "sl") => `(tactic| first | with_reducible refine wpAny_Slice ?_ | with_reducible refine evalPart_none_step ?_ | with_reducible refine evalPart_some_step ?_)
local macro_rules | `(tactic| wtm_at "gos") => `(tactic| (repeat first | wtm_at "s" | wtm_at "nm" | wtm_at "st" | wtm_at "glob" | wtm_at "call" | wtm_at "sl"))
example : (PySem.Challenge.rw_oh0084_01.foot = 7) ∨ (Mine.hd.heap_39 = Mine.hd.heap_39) := by
  k_fill
  exact .inr rfl
/-- an item of the heap: its value, its two keys -/
abbrev It := Value × Int × Str
def TupV (g : PM) (it : It) : Prop := ∃ t n ti tx, it.1 = .ref t ∧ g t = some { cls := .type "tuple", dict := none, data := .seq #[.int it.2.1 ti, .str it.2.2 tx] n, slots := #[] }
def ltI (a b : It) : Bool := ltK a.2.1 a.2.2 b.2.1 b.2.2
instance : Inhabited It := ⟨(.none, 0, Str.empty)⟩
/-- _siftdown's loop, with the item to be laid -/
def sd {α : Type} [Inhabited α] (lt : α → α → Bool) (x : α) (st : Nat) (l : List α) (pos : Nat) : List α :=
  if pos > st then (if lt x l[(pos - 1) / 2]! then sd lt x st (l.set pos l[(pos - 1) / 2]!) ((pos - 1) / 2) else l.set pos x) else l.set pos x
termination_by pos
decreasing_by omega

theorem map_get {α β : Type} [Inhabited α] (f : α → β) (l : List α) (i : Nat) (h : i < l.length) : (l.map f)[i]? = some (f l[i]!) := by
  simp [h, List.getElem!_eq_getElem?_getD]
theorem mem_get! {α : Type} [Inhabited α] (l : List α) (i : Nat) (h : i < l.length) : l[i]! ∈ l := by
  simp [h, List.getElem!_eq_getElem?_getD]
theorem lt_it {prog : Program} {w : World} {A : Around} {E : Value → Shared → Prop} {s : Shared} {g : PM} {x y : It} {Q : Value → Shared → Prop} (hk : ∀ b o, g b = some o → s.heap.get? b = some o) (h1 : TupV g x) (h2 : TupV g y) (hu : A.units < cLine)
    (h : Q (.bool (ltI x y)) s) : wpAny (model prog w) A (compareOp .Lt x.1 y.1) Q E s := by
  refine e4_2 h1 ?_
  clear h1
  rintro t n ti tx e1 e2
  refine e4_2 h2 ?_
  clear h2
  rintro t' n' ti' tx' e1' e2'
  rw [e1, e1']
  exact lt_tup2 (hk _ _ e2) (hk _ _ e2') hu h
section
variable {prog : Program} {w : World} {A : Around} {E : Value → Shared → Prop} {s : Shared} {c : Cx}
theorem siftdown_spec (G : Glo (Mine.hd.heap_39 w.params) c.h0) (B : Keep c.h0 s.heap) (hR : Rest c s) (hA : AOk A 1) {a : Addr} {o : Obj} {its : List It} {st p : Nat} {t1 t2 : Tok} {Q : Value → Shared → Prop}
    (hp : p < its.length) (hz : its.length < 2 ^ 60) (ho : s.heap.get? a = some o) (hl : IsLst o (its.map (·.1))) (hT : ∀ it ∈ its, TupV s.heap.get? it) (ha0 : c.h0.get? a = none)
    (h : ∀ s' o', Rest c s' → Heap.ExtBut a s.heap s'.heap → s'.heap.get? a = some o' → IsLst o' ((sd ltI its[p]! st its p).map (·.1)) → Q .none s') :
   wpAny (model prog w) A (call (.ref 190) [.ref a, .int st t1, .int p t2]) Q E s := by
  refine' call_fn (binds := [(Str.ofString "heap", .ref a), (Str.ofString "startpos", .int st t1), (Str.ofString "pos", .int p t2)]) G B hA ?gho ?ghcd ?ghb ?ghl ?gh ?gc1 ?gc2 ?gc3 ?gc4
  wtm_at "ent"
  case gh =>
    intro L h₁ A' hA' hL hk hn hA1
    have D := Led.enter (c := c) (mu := [(a, o)]) B (by simpa using ha0) hn hk hL (by simpa using ho) (by simp)
    have hTg : ∀ it ∈ its, TupV (hid s.heap [a]) it := by
      intro it hit
      refine e4_2 (hT it hit) ?_
      rintro t n ti tx e1 e2
      refine ⟨t, n, ti, tx, e1, hid_some e2 fun q => ?_⟩
      have : t = a := by simpa using q
      subst this
      rw [ho] at e2; cases e2
      exact absurd hl.cls (by simp)
    wtm_at "g"; wtm_at "g"; wtm_at "g"; wtm_at "g"; wtm_at "g"
    refine sub_list (D.get (.head _)) hl (by omega) (by omega) (map_get _ _ _ (by simpa using hp)) ?_
    refine st_l D ?_
    clear D hn hk
    intro h' D
    dsimp only
    let Post1 : Shared → Prop := fun s' => ∃ (m : Str → Option Value) (l : List It) (pos : Nat) (t : Tok) (o' : Obj), m (Str.ofString "heap") = some (.ref a) ∧ m (Str.ofString "pos") = some (.int pos t) ∧ m (Str.ofString "newitem") = some its[p]!.1 ∧
      Led c (hid s.heap [a]) L s'.heap m [(a, o')] ∧ Rest c s' ∧ IsLst o' (l.map (·.1)) ∧ pos < l.length ∧ pos < its.length ∧ l.set pos its[p]! = sd ltI its[p]! st its p
    refine seq_cut Post1 ?_ ?_
    · refine wpAny_While ?_
      let Post2 : Nat → (Str → Option Value) → List (Addr × Obj) → Prop := fun k m news => ∃ (l : List It) (pos : Nat) (t : Tok) (o' : Obj), m (Str.ofString "heap") = some (.ref a) ∧ m (Str.ofString "startpos") = some (.int st t1) ∧ m (Str.ofString "pos") = some (.int pos t) ∧ m (Str.ofString "newitem") = some its[p]!.1 ∧
        news = [(a, o')] ∧ IsLst o' (l.map (·.1)) ∧ l.length = its.length ∧ pos < its.length ∧ (∀ it ∈ l, it ∈ its) ∧ sd ltI its[p]! st l pos = sd ltI its[p]! st its p ∧ k = pos
      refine whileLoop_led Post2 ⟨its, p, t2, o, rfl, rfl, rfl, rfl, rfl, hl, rfl, hp, fun _ x => x, rfl, rfl⟩ D hR ?_
      clear D hl ho
      rintro k m₁ news₁ s₁ hxp
      refine e4_11 hxp ?_
      clear hxp
      rintro l pos t o' e1 e2 e3 e4 rfl hl hlen hpos hmem hsd rfl D hR
      wtm_at "go"
      by_cases hlt : st < k
      · rw [if_pos (by simpa using hlt)]
        wtm_at "go"
        have hpp : (Int.fdiv ((k : Int) - 1) (2 ^ Int.toNat 1)) = (((k - 1) / 2 : Nat) : Int) := by
          rw [show (2 : Int) ^ Int.toNat 1 = 2 from rfl, Int.fdiv_eq_ediv_of_nonneg _ (by decide)]
          omega
        refine rshift_int (by decide) ?_
        rw [hpp]
        wtm_at "go"
        have hpl : (k - 1) / 2 < l.length := by omega
        refine sub_listN (‹Led _ _ _ _ _ _›.get (.head _)) hl (by omega) (map_get _ _ _ hpl) ?_
        wtm_at "go"
        rename Led _ _ _ _ _ _ => D
        refine wpAny_If ?_
        wtm_at "go"
        refine lt_it D.keep (hTg _ (mem_get! _ _ hp)) (hTg _ (hmem _ (mem_get! _ _ hpl))) (by have := hA1.units; omega) ?_
        wtm_at "go"
        by_cases hc : ltI its[p]! l[(k - 1) / 2]! = true
        · rw [if_pos hc]
          wtm_at "go"
          refine set_listN (D.get (.head _)) hl (by omega) (by simpa [hlen] using hpos) ?_
          intro h₂ o₂ ho₂ hl₂ hs₂
          have D := D.upd .head hs₂ ho₂
          wtm_at "go"
          rename Led _ _ _ _ _ _ => D
          refine ⟨_, _, D, hR, (k - 1) / 2, by omega, ?_⟩
          refine ⟨l.set k l[(k - 1) / 2]!, (k - 1) / 2, _, o₂, e1, e2, rfl, e4, rfl, by simpa [List.map_set] using hl₂, by simpa using hlen, by omega, ?_, ?_, rfl⟩
          · intro it hit
            rcases List.mem_or_eq_of_mem_set hit with q | q
            · exact hmem _ q
            · rw [q]; exact hmem _ (mem_get! _ _ hpl)
          · rw [← hsd]
            conv => rhs; rw [sd, if_pos hlt, if_pos hc]
        · rw [if_neg hc]
          wtm_at "go"
          refine ⟨rfl, _, l, k, t, o', ?_, ?_, ?_, D, hR, hl, by omega, hpos, ?_⟩
          · exact e1
          · exact e3
          · exact e4
          · rw [← hsd]
            conv => rhs; rw [sd, if_pos hlt, if_neg hc]
      · rw [if_neg (by simpa using hlt)]
        wtm_at "go"
        refine ⟨rfl, m₁, l, k, t, o', e1, e3, e4, D, hR, hl, by omega, hpos, ?_⟩
        rw [← hsd]
        conv => rhs; rw [sd, if_neg hlt]
    · clear D hl ho
      rintro s₂ hxp
      refine e5_9 hxp ?_
      clear hxp
      rintro m l pos t o' e1 e2 e3 D hR hl h1 h2 hsd
      wtm_at "go"
      refine set_listN (D.get (.head _)) hl (by omega) (by simpa using h1) ?_
      intro h₂ o₂ ho₂ hl₂ hs₂
      have D := D.upd .head hs₂ ho₂
      wtm_at "go"
      refine h _ o₂ hR (fun b ob hb e => D.keep _ _ (hid_some e (by simpa using hb))) ho₂ ?_
      rw [← hsd]
      simpa [List.map_set] using hl₂
end


-- part HQ2
/-- _siftup's loop -/
def suGo {α : Type} [Inhabited α] (lt : α → α → Bool) (l : List α) (pos : Nat) : List α × Nat :=
  if 2 * pos + 1 < l.length then
    let ch := if 2 * pos + 2 < l.length ∧ ¬ lt l[2 * pos + 1]! l[2 * pos + 2]! = true then 2 * pos + 2 else 2 * pos + 1
    suGo lt (l.set pos l[ch]!) ch
  else (l, pos)
termination_by l.length - pos
decreasing_by
  simp only [List.length_set]
  split <;> omega
def su {α : Type} [Inhabited α] (lt : α → α → Bool) (l : List α) (pos : Nat) : List α :=
  sd lt l[pos]! pos ((suGo lt l pos).1.set (suGo lt l pos).2 l[pos]!) (suGo lt l pos).2
section
variable {prog : Program} {w : World} {A : Around} {E : Value → Shared → Prop} {s : Shared} {c : Cx}
theorem siftup_spec (G : Glo (Mine.hd.heap_39 w.params) c.h0) (B : Keep c.h0 s.heap) (hR : Rest c s) (hA : AOk A 2) {a : Addr} {o : Obj} {its : List It} {p : Nat} {t2 : Tok} {Q : Value → Shared → Prop}
    (hp : p < its.length) (hz : its.length < 2 ^ 58) (ho : s.heap.get? a = some o) (hl : IsLst o (its.map (·.1))) (hT : ∀ it ∈ its, TupV s.heap.get? it) (ha0 : c.h0.get? a = none)
    (h : ∀ s' o', Rest c s' → Heap.ExtBut a s.heap s'.heap → s'.heap.get? a = some o' → IsLst o' ((su ltI its p).map (·.1)) → Q .none s') :
   wpAny (model prog w) A (call (.ref 197) [.ref a, .int p t2]) Q E s := by
  refine' call_fn (binds := [(Str.ofString "heap", .ref a), (Str.ofString "pos", .int p t2)]) G B hA ?gho ?ghcd ?ghb ?ghl ?gh ?gc1 ?gc2 ?gc3 ?gc4
  wtm_at "ent"
  case gh =>
    intro L h₁ A' hA' hL hk hn hA1
    have D := Led.enter (c := c) (mu := [(a, o)]) B (by simpa using ha0) hn hk hL (by simpa using ho) (by simp)
    have hTg : ∀ it ∈ its, TupV (hid s.heap [a]) it := by
      intro it hit
      refine e4_2 (hT it hit) ?_
      rintro t n ti tx e1 e2
      refine ⟨t, n, ti, tx, e1, hid_some e2 fun q => ?_⟩
      have : t = a := by simpa using q
      subst this
      rw [ho] at e2; cases e2
      exact absurd hl.cls (by simp)
    wtm_at "go"
    refine len_list (IsLst.isList (D.get (.head _)) hl) (by simp; omega) ?_
    rw [List.size_toArray, List.length_map]
    wtm_at "go"
    refine sub_listN (‹Led _ _ _ _ _ _›.get (.head _)) hl (by omega) (map_get _ _ _ hp) ?_
    wtm_at "go"
    rename Led _ _ _ _ _ _ => D'
    refine exec_cut (fun s' => ∃ (m : Str → Option Value) (t : Tok) (o' : Obj), m (Str.ofString "heap") = some (.ref a) ∧ m (Str.ofString "pos") = some (.int ((suGo ltI its p).2 : Nat) t) ∧ m (Str.ofString "newitem") = some its[p]!.1 ∧ m (Str.ofString "startpos") = some (.int p t2) ∧
      Led c (hid s.heap [a]) L s'.heap m [(a, o')] ∧ Rest c s' ∧ IsLst o' ((suGo ltI its p).1.map (·.1)) ∧ (suGo ltI its p).1.length = its.length ∧ (suGo ltI its p).2 < its.length ∧ ∀ it ∈ (suGo ltI its p).1, it ∈ its) ?_ ?_
    · refine wpAny_While ?_
      refine whileLoop_led (fun k m news => ∃ (l : List It) (pos : Nat) (t tc te : Tok) (o' : Obj), m (Str.ofString "heap") = some (.ref a) ∧ m (Str.ofString "startpos") = some (.int p t2) ∧ m (Str.ofString "pos") = some (.int pos t) ∧ m (Str.ofString "newitem") = some its[p]!.1 ∧
        m (Str.ofString "childpos") = some (.int ((2 * pos + 1 : Nat) : Int) tc) ∧ m (Str.ofString "endpos") = some (.int (its.length : Nat) te) ∧
        news = [(a, o')] ∧ IsLst o' (l.map (·.1)) ∧ l.length = its.length ∧ pos < its.length ∧ (∀ it ∈ l, it ∈ its) ∧ suGo ltI l pos = suGo ltI its p ∧ k = its.length - pos) ⟨its, p, t2, _, _, o, rfl, rfl, rfl, rfl, rfl, rfl, rfl, hl, rfl, hp, fun _ x => x, rfl, rfl⟩ D' hR ?_
      clear D D' hl ho
      rintro k m₁ news₁ s₁ hxp
      refine e6_13 hxp ?_
      clear hxp
      rintro l pos t tc te o' e1 e2 e3 e4 e5 e6 rfl hl hlen hpos hmem hsu rfl D hR
      wtm_at "go"
      by_cases hlt : 2 * pos + 1 < its.length
      · rw [if_pos (decide_eq_true (by omega))]
        have hl1 : 2 * pos + 1 < l.length := by omega
        wtm_at "go"
        rename Led _ _ _ _ _ _ => D
        let ch := if 2 * pos + 2 < l.length ∧ ¬ ltI l[2 * pos + 1]! l[2 * pos + 2]! = true then 2 * pos + 2 else 2 * pos + 1
        have hch : ch < l.length := by
          by_cases q : 2 * pos + 2 < l.length ∧ ¬ ltI l[2 * pos + 1]! l[2 * pos + 2]! = true
          · rw [show ch = 2 * pos + 2 from if_pos q]; exact q.1
          · rw [show ch = 2 * pos + 1 from if_neg q]; exact hl1
        have hgt : pos < ch := by
          by_cases q : 2 * pos + 2 < l.length ∧ ¬ ltI l[2 * pos + 1]! l[2 * pos + 2]! = true
          · rw [show ch = 2 * pos + 2 from if_pos q]; omega
          · rw [show ch = 2 * pos + 1 from if_neg q]; omega
        refine exec_cut (fun s' => ∃ (m : Str → Option Value) (tc : Tok), Led c (hid s.heap [a]) L s'.heap m [(a, o')] ∧ Rest c s' ∧ m (Str.ofString "heap") = some (.ref a) ∧ m (Str.ofString "startpos") = some (.int p t2) ∧ m (Str.ofString "pos") = some (.int pos t) ∧ m (Str.ofString "newitem") = some its[p]!.1 ∧
          m (Str.ofString "childpos") = some (.int (ch : Nat) tc) ∧ m (Str.ofString "endpos") = some (.int (its.length : Nat) te)) ?_ ?_
        · refine wpAny_If ?_
          wtm_at "go"
          by_cases hr : 2 * pos + 2 < its.length
          · rw [if_pos (decide_eq_true (by omega))]
            wtm_at "go"
            refine sub_listN (D.get (.head _)) hl (by omega) (map_get _ _ _ hl1) ?_
            wtm_at "go"
            refine sub_listN (D.get (.head _)) hl (by omega) (map_get _ _ _ (by omega : 2 * pos + 2 < l.length)) ?_
            refine lt_it D.keep (hTg _ (hmem _ (mem_get! _ _ hl1))) (hTg _ (hmem _ (mem_get! _ _ (by omega)))) (by have := hA1.units; omega) ?_
            wtm_at "go"
            by_cases hc : ltI l[2 * pos + 1]! l[2 * pos + 2]! = true
            · rw [hc]
              rw [if_neg (by simp), if_neg (by simp)]
              wtm_at "go"
              refine ⟨rfl, _, tc, D, hR, e1, e2, e3, e4, ?_, e6⟩
              rw [show ch = 2 * pos + 1 from if_neg (fun q => q.2 hc)]; exact e5
            · rw [if_pos (by simpa using hc)]
              wtm_at "go"
              rw [if_pos rfl]
              wtm_at "go"
              rename Led _ _ _ _ _ _ => D
              have hcv : ch = 2 * pos + 2 := if_pos ⟨by omega, hc⟩
              rw [hcv]
              exact ⟨rfl, _, _, D, hR, e1, e2, e3, e4, rfl, e6⟩
          · rw [if_neg (fun q => hr (by have := of_decide_eq_true q; omega)), if_neg (by simp)]
            wtm_at "go"
            refine ⟨rfl, _, tc, D, hR, e1, e2, e3, e4, ?_, e6⟩
            rw [show ch = 2 * pos + 1 from if_neg (by omega)]; exact e5
        · clear D e1 e2 e3 e4 e5 e6 hR
          rintro s₂ hxp
          refine e2_8 hxp ?_
          clear hxp
          rintro m₂ tc D hR e1 e2 e3 e4 e5 e6
          dsimp only
          wtm_at "go"
          refine sub_listN (D.get (.head _)) hl (by omega) (map_get _ _ _ hch) ?_
          wtm_at "go"
          refine set_listN (D.get (.head _)) hl (by omega) (by simpa [hlen] using hpos) ?_
          intro h₂ o₂ ho₂ hl₂ hs₂
          have D := D.upd .head hs₂ ho₂
          wtm_at "go"
          rename Led _ _ _ _ _ _ => D
          refine ⟨_, _, D, hR, its.length - ch, by omega, ?_⟩
          refine ⟨l.set pos l[ch]!, ch, _, _, _, o₂, e1, e2, rfl, e4, rfl, e6, rfl, by simpa [List.map_set] using hl₂, by simpa using hlen, by omega, ?_, ?_, rfl⟩
          · intro it hit
            rcases List.mem_or_eq_of_mem_set hit with q | q
            · exact hmem _ q
            · rw [q]; exact hmem _ (mem_get! _ _ hch)
          · rw [← hsu]
            conv => rhs; rw [suGo, if_pos hl1]
      · rw [if_neg (fun q => hlt (by have := of_decide_eq_true q; omega))]
        wtm_at "go"
        have : suGo ltI l pos = (l, pos) := by rw [suGo, if_neg (by omega)]
        rw [← hsu, this]
        exact ⟨rfl, m₁, t, o', e1, e3, e4, e2, D, hR, hl, hlen, hpos, hmem⟩
    · clear D D' hl ho hR
      rintro s₂ hxp
      refine e3_10 hxp ?_
      clear hxp
      rintro m t o' e1 e2 e3 e4 D hR hl h1 h2 hmem
      dsimp only
      wtm_at "go"
      refine set_listN (D.get (.head _)) hl (by omega) (by simpa [h1] using h2) ?_
      intro h₂ o₂ ho₂ hl₂ hs₂
      have D := D.upd .head hs₂ ho₂
      wtm_at "go"
      have hl₃ : IsLst o₂ (((suGo ltI its p).1.set (suGo ltI its p).2 its[p]!).map (·.1)) := by simpa [List.map_set] using hl₂
      have hlen : ((suGo ltI its p).1.set (suGo ltI its p).2 its[p]!).length = its.length := by simpa using h1
      refine siftdown_spec (c := c) (its := (suGo ltI its p).1.set (suGo ltI its p).2 its[p]!) G (by exact D.kb) (by exact hR) hA1 (by rw [hlen]; exact h2) (by omega) (by exact D.get (.head _)) hl₃ ?_ ha0 ?_
      · intro it hit
        have : it ∈ its := by
          rcases List.mem_or_eq_of_mem_set hit with q | q
          · exact hmem _ q
          · rw [q]; exact mem_get! _ _ hp
        refine e4_2 (hTg it this) ?_
        rintro t n ti tx q1 q2
        exact ⟨t, n, ti, tx, q1, D.keep _ _ q2⟩
      intro s₃ o₃ hR₃ hs₃ ho₃ hl₄
      have D := D.upd .head hs₃ ho₃
      dsimp only
      wtm_at "go"
      refine h _ o₃ hR₃ (fun b ob hb e => D.keep _ _ (hid_some e (by simpa using hb))) ho₃ ?_
      have e : ((suGo ltI its p).1.set (suGo ltI its p).2 its[p]!)[(suGo ltI its p).2]! = its[p]! := by simp [h1, h2]
      rw [e] at hl₄
      exact hl₄
end


-- part HQ3
/-- heapify -/
def hpf {α : Type} [Inhabited α] (lt : α → α → Bool) (l : List α) : List α := (List.range (l.length / 2)).reverse.foldl (su lt) l
section
variable {prog : Program} {w : World} {A : Around} {E : Value → Shared → Prop} {s : Shared} {c : Cx}
theorem heapify_spec (G : Glo (Mine.hd.heap_39 w.params) c.h0) (B : Keep c.h0 s.heap) (hR : Rest c s) (hA : AOk A 3) {a : Addr} {o : Obj} {its : List It} {Q : Value → Shared → Prop}
    (hz : its.length < 2 ^ 58) (ho : s.heap.get? a = some o) (hl : IsLst o (its.map (·.1))) (hT : ∀ it ∈ its, TupV s.heap.get? it) (ha0 : c.h0.get? a = none)
    (hperm : ∀ (l : List It) p, p < l.length → (su ltI l p).length = l.length ∧ ∀ it ∈ su ltI l p, it ∈ l)
    (h : ∀ s' o', Rest c s' → Heap.ExtBut a s.heap s'.heap → s'.heap.get? a = some o' → IsLst o' ((hpf ltI its).map (·.1)) → Q .none s') :
   wpAny (model prog w) A (call (.ref 183) [.ref a]) Q E s := by
  refine' call_fn (binds := [(Str.ofString "x", .ref a)]) G B hA ?gho ?ghcd ?ghb ?ghl ?gh ?gc1 ?gc2 ?gc3 ?gc4
  wtm_at "ent"
  case gh =>
    intro L h₁ A' hA' hL hk hn hA1
    have D := Led.enter (c := c) (mu := [(a, o)]) B (by simpa using ha0) hn hk hL (by simpa using ho) (by simp)
    have hTg : ∀ it ∈ its, TupV (hid s.heap [a]) it := by
      intro it hit
      refine e4_2 (hT it hit) ?_
      rintro t n ti tx e1 e2
      refine ⟨t, n, ti, tx, e1, hid_some e2 fun q => ?_⟩
      have : t = a := by simpa using q
      subst this
      rw [ho] at e2; cases e2
      exact absurd hl.cls (by simp)
    wtm_at "go"
    refine len_list (IsLst.isList (D.get (.head _)) hl) (by simp; omega) ?_
    rw [List.size_toArray, List.length_map]
    wtm_at "go"
    refine wpAny_For ?_ ?_
    rotate_left
    · intro _; rfl
    wtm_at "go"
    refine div2N ?_
    wtm_at "go"
    refine range1 (by assumption) ?_
    intro r h₂ t' t'' hr D
    try dsimp only
    wtm_at "go"
    refine reversed_range (k := its.length / 2) D (by omega) (D.get (.head _)) ?_
    intro I h₃ hI D
    try dsimp only
    have D := D.ofMem (news' := [(I, rangeIt (((its.length / 2 : Nat) : Int) - 1) ((its.length / 2 : Nat) : Int) (-1)), (a, o)]) (by simp) (by
      have := D.ndn
      simp at this ⊢
      exact this.1.2)
    refine wpAny_pyIter_rangeiter (D.get (.head _)) ?_
    have W := Walks.range (prog := prog) (w := w) (A := A') hA1.handled I (((its.length / 2 : Nat) : Int) - 1) (-1) (its.length / 2)
    refine forLoop_led W (fun j m news => ∃ (l : List It) (o' : Obj), m (Str.ofString "x") = some (.ref a) ∧ news = [(a, o')] ∧ IsLst o' (l.map (·.1)) ∧ l.length = its.length ∧ (∀ it ∈ l, it ∈ its) ∧
      l = ((List.range (its.length / 2)).reverse.take j).foldl (su ltI) its) ⟨its, o, rfl, rfl, hl, rfl, fun _ x => x, rfl⟩ D hR ?_ ?_ ?_ ?_ ?_
    · have := D.get (.head _)
      simpa [rangeIt, IsRangeIter] using this
    · intro i h hst; exact ⟨_, hst⟩
    · intro i m' news' _ b hb hbI
      exact absurd (by simpa using hb) hbI
    · clear D hR
      rintro i v m₁ news₁ oI s₁ hi ⟨t, rfl⟩ hxp
      refine e2_6 hxp ?_
      clear hxp
      rintro l o' e1 rfl hl hlen hmem hfold D hR
      have ei : ((its.length / 2 : Nat) : Int) - 1 + (i : Int) * (-1) = ((its.length / 2 - 1 - i : Nat) : Int) := by omega
      rw [ei]
      refine wpAny_assign_Name ?_
      wtm_at "go"
      rename Led _ _ _ _ _ _ => D
      refine siftup_spec (c := c) (its := l) G (by exact D.kb) (by exact hR) hA1 (by omega) (by omega) (by exact D.get (.tail _ (.head _))) hl ?_ ha0 ?_
      · intro it hit
        refine e4_2 (hTg it (hmem it hit)) ?_
        rintro t n ti tx q1 q2
        exact ⟨t, n, ti, tx, q1, D.keep _ _ q2⟩
      intro s₃ o₃ hR₃ hs₃ ho₃ hl₄
      have D := D.upd (.tail .head) hs₃ ho₃
      dsimp only
      wtm_at "go"
      obtain ⟨p1, p2⟩ := hperm l (its.length / 2 - 1 - i) (by omega)
      refine ⟨_, _, D, hR₃, su ltI l (its.length / 2 - 1 - i), o₃, e1, rfl, hl₄, by omega, fun it x => hmem _ (p2 _ x), ?_⟩
      rw [List.take_add_one, List.foldl_append, ← hfold]
      have : ((List.range (its.length / 2)).reverse)[i]? = some (its.length / 2 - 1 - i) := by
        rw [List.getElem?_reverse (by simpa using hi), List.length_range, List.getElem?_range (by omega)]
      rw [this]; rfl
    · clear D hR
      rintro m' news' s' hxp
      refine e2_6 hxp ?_
      clear hxp
      rintro l o' e1 rfl hl hlen hmem hfold D hR
      dsimp only
      wtm_at "go"
      refine h _ o' hR (fun b ob hb e => D.keep _ _ (hid_some e (by simpa using hb))) (D.get (.head _)) ?_
      rw [List.take_of_length_le (by simp)] at hfold
      rw [hfold] at hl
      exact hl
end


-- part HQ4
section
variable {prog : Program} {w : World} {A : Around} {E : Value → Shared → Prop} {s : Shared} {c : Cx}
theorem heappop_spec (G : Glo (Mine.hd.heap_39 w.params) c.h0) (B : Keep c.h0 s.heap) (hR : Rest c s) (hA : AOk A 3) {a : Addr} {o : Obj} {its : List It} {y : It} {Q : Value → Shared → Prop}
    (hz : its.length < 2 ^ 20) (ho : s.heap.get? a = some o) (hl : IsLst o ((its ++ [y]).map (·.1))) (hT : ∀ it ∈ its ++ [y], TupV s.heap.get? it) (ha0 : c.h0.get? a = none)
    (h : ∀ s' o', Rest c s' → Heap.ExtBut a s.heap s'.heap → s'.heap.get? a = some o' → IsLst o' ((if its = [] then [] else su ltI (its.set 0 y) 0).map (·.1)) → Q (if its = [] then y else its[0]!).1 s') :
   wpAny (model prog w) A (call (.ref 176) [.ref a]) Q E s := by
  refine' call_fn (binds := [(Str.ofString "heap", .ref a)]) G B hA ?gho ?ghcd ?ghb ?ghl ?gh ?gc1 ?gc2 ?gc3 ?gc4
  wtm_at "ent"
  case gh =>
    intro L h₁ A' hA' hL hk hn hA1
    have D := Led.enter (c := c) (mu := [(a, o)]) B (by simpa using ha0) hn hk hL (by simpa using ho) (by simp)
    have hTg : ∀ it ∈ its ++ [y], TupV (hid s.heap [a]) it := by
      intro it hit
      refine e4_2 (hT it hit) ?_
      rintro t n ti tx e1 e2
      refine ⟨t, n, ti, tx, e1, hid_some e2 fun q => ?_⟩
      have : t = a := by simpa using q
      subst this
      rw [ho] at e2; cases e2
      exact absurd hl.cls (by simp)
    wtm_at "go"
    refine method_lst (D.get (.head _)) hl PySem.F.slot_list_pop PySem.F.type_list_pop ?_
    try dsimp only
    refine pop_lst (vs := its.map (·.1)) (y := y.1) (D.get (.head _)) (by simpa using hl) (by simp [sizeLine]; omega) ?_
    intro h₂ o₂ ho₂ hl₂ hs₂
    have D := D.upd .head hs₂ ho₂
    try dsimp only
    wtm_at "go"
    rename Led _ _ _ _ _ _ => D
    refine wpAny_If ?_
    refine isTrue_plain ?_
    wtm_at "go"
    refine truthy_lst (D.get (.head _)) hl₂ (by simp; omega) ?_
    cases its with
    | nil =>
      rw [if_neg (by simp)]
      wtm_at "go"
      refine h _ o₂ hR (fun b ob hb e => D.keep _ _ (hid_some e (by simpa using hb))) (D.get (.head _)) ?_
      simpa using hl₂
    | cons x r =>
      rw [if_pos (by simp)]
      wtm_at "go"
      refine sub_listN (k := 0) (D.get (.head _)) hl₂ (by omega) (by simp; rfl) ?_
      wtm_at "go"
      rename Led _ _ _ _ _ _ => D
      refine set_listN (k := 0) (D.get (.head _)) hl₂ (by omega) (by simp) ?_
      intro h₃ o₃ ho₃ hl₃ hs₃
      have D := D.upd .head hs₃ ho₃
      try dsimp only
      wtm_at "go"
      refine siftup_spec (c := c) (its := (x :: r).set 0 y) (p := 0) G (by exact D.kb) (by exact hR) hA1 (by simp) (by simp at hz ⊢; omega) (by exact D.get (.head _)) (by simpa using hl₃) ?_ ha0 ?_
      · intro it hit
        have : it ∈ (x :: r) ++ [y] := by
          rcases List.mem_or_eq_of_mem_set hit with q | q
          · exact List.mem_append_left _ q
          · rw [q]; simp
        refine e4_2 (hTg it this) ?_
        rintro t n ti tx q1 q2
        exact ⟨t, n, ti, tx, q1, D.keep _ _ q2⟩
      intro s₄ o₄ hR₄ hs₄ ho₄ hl₄
      have D := D.upd .head hs₄ ho₄
      dsimp only
      wtm_at "go"
      refine h _ o₄ hR₄ (fun b ob hb e => D.keep _ _ (hid_some e (by simpa using hb))) ho₄ ?_
      simpa using hl₄
end


-- part SEL
section
variable {prog : Program} {w : World} {A : Around} {E : Value → Shared → Prop} {s : Shared} {c : Cx} {g : PM} {L : Addr} {m : Str → Option Value} {news : List (Addr × Obj)}
def selD (w : World) (v : Value) (tk : Tok) : Obj := dictOf [⟨PyData.keyHash w.params (Str.ofString "root"), .str (Str.ofString "root") tk, v⟩] 1
theorem new_sel (G : Glo (Mine.hd.heap_39 w.params) c.h0) (D : Led c g L s.heap m news) (hR : Rest c s) (hA : AOk A 3) {v : Value} {Q : Value → Shared → Prop}
    (h : ∀ x dx tk s', Rest c s' → L < dx → dx < x → Led c g L s'.heap m ((x, instObj 45 dx) :: (dx, selD w v tk) :: news) → Q (.ref x) s') :
    wpAny (model prog w) A (call (.ref 45) [v]) Q E s := by
  refine new_inst (K := Mine.hd.heap_39 w.params) (fI := 42) D (G.k.keeps D.kb) (by k_is) (by k_is) (by k_is) ?_
  intro x dx h' l1 l2 D1
  refine' code_fn (binds := [(Str.ofString "self", .ref x), (Str.ofString "root", v)]) (n := 1) G D1.kb (AOk.make (n := 2) hA 45 [v] []) ?gho ?ghcd ?ghb ?ghl ?gh ?gc1 ?gc2 ?gc3 ?gc4
  wtm_at "ent"
  case gh =>
    intro L2 h₁ A' hA' hL hk hn hA1
    have D2 := Led.enter (c := c) (mu := [(dx, dictOf [] 0)]) D1.kb (by
      intro p hp
      cases e : c.h0.get? p.1 with
      | none => rfl
      | some o =>
        have q := D1.base _ _ e
        rw [List.mem_singleton.mp hp, (D1.own _ (.tail _ (.head _))).2] at q; cases q) hn hk hL (by
      intro p hp
      rw [List.mem_singleton.mp hp]; exact D1.get (.tail _ (.head _))) (by simp)
    wtm_at "go"
    have I2 : InstAt h₁ x (instObj 45 dx) 45 (some (dictOf [] 0)) := inst_at (hk _ _ (D1.get (.head _))) (D2.get (.head _))
    refine' sa_dict (K := Mine.hd.heap_39 w.params) D2 ?gX I2 rfl ?g1 ?g2 ?g3 ?g4 ?g5 ?g6 ?g7 ?g8 ?_
    case gX => exact G.k.keeps D2.kb
    case g1 => k_is
    case g2 => k_is
    case g3 => k_is
    case g4 => k_is
    case g5 => k_get
    case g6 => k_put
    case g7 => exact Up.head
    case g8 => exact Nat.le_of_ble_eq_true rfl
    intro h₂ D3
    try dsimp only
    wtm_at "go"
    refine ⟨rfl, h x dx _ _ hR l1 l2 (D1.upd (.tail .head) (fun b ob hb e => D3.keep _ _ (hid_some e (by simpa using hb))) (D3.get (.head _)))⟩
end


-- part GPM
abbrev MK := Int ⊕ Str
/-- the dict that get_parent_map fills -/
def pmFold (fams : List (Addr × List (MK × Value))) : List (MK × Value) := fams.foldl (fun kvs f => f.2.foldl (fun kvs kv => stored kvs kv.1 (.ref f.1)) kvs) []
theorem foldS_len (v : Value) : ∀ (l : List (MK × Value)) (kvs : List (MK × Value)), (l.foldl (fun kvs kv => stored kvs kv.1 v) kvs).length ≤ kvs.length + l.length
  | [], _ => Nat.le_refl _
  | x :: r, kvs => by
    have h1 := foldS_len v r (stored kvs x.1 v)
    have h2 := stored_length_le kvs x.1 v
    simp only [List.foldl_cons, List.length_cons]
    omega
theorem pmFold_len' : ∀ (fams : List (Addr × List (MK × Value))) (kvs : List (MK × Value)), (fams.foldl (fun kvs f => f.2.foldl (fun kvs kv => stored kvs kv.1 (.ref f.1)) kvs) kvs).length ≤ kvs.length + (fams.map fun f => f.2.length).sum
  | [], _ => Nat.le_refl _
  | x :: r, kvs => by
    have h1 := pmFold_len' r (x.2.foldl (fun kvs kv => stored kvs kv.1 (.ref x.1)) kvs)
    have h2 := foldS_len (.ref x.1) x.2 kvs
    simp only [List.foldl_cons, List.map_cons, List.sum_cons]
    omega
theorem pmFold_len (fams : List (Addr × List (MK × Value))) : (pmFold fams).length ≤ (fams.map fun f => f.2.length).sum := by
  have := pmFold_len' fams []
  simpa [pmFold] using this
theorem sum_take_le : ∀ (l : List Nat) (i : Nat), (l.take i).sum ≤ l.sum
  | [], _ => by simp
  | x :: r, 0 => by simp
  | x :: r, i + 1 => by
    have := sum_take_le r i
    simp only [List.take_succ_cons, List.sum_cons]
    omega
theorem pmFold_take (fams : List (Addr × List (MK × Value))) (i : Nat) (f : Addr × List (MK × Value)) (hf : fams[i]? = some f) : pmFold (fams.take (i + 1)) = f.2.foldl (fun kvs kv => stored kvs kv.1 (.ref f.1)) (pmFold (fams.take i)) := by
  unfold pmFold
  rw [List.take_add_one, hf, List.foldl_append]; rfl
/-- a call without arguments that gives v and keeps all -/
def Yields (prog : Program) (w : World) (c : Cx) (g : PM) (fl : Addr) (v : Value) : Prop := ∀ (A : Around) (E : Value → Shared → Prop) (s : Shared) (Q : Value → Shared → Prop), AOk A 1 → (∀ b o, g b = some o → s.heap.get? b = some o) → Rest c s →
  (∀ s', Rest c s' → Keep s.heap s'.heap → Q v s') → wpAny (model prog w) A (call (.ref fl) []) Q E s
theorem assign_attr {M : Model} {A : Around} {E : Value → Shared → Prop} {s : Shared} {env : Env} {o : Expr} {attr : Str} {pos : Pos} {v : Value} {Q : Unit → Shared → Prop}
    (h : wpAny M A (eval o env) (fun ov s₂ => wpAny M A (setAttr ov attr v) Q E s₂) E s) : wpAny M A (assign (.Attribute o attr pos) env v) Q E s := fun Γ p hΓ => by
  simp only [assign_Attribute, Sem.wp_bind', Sem.wp_holding, Sem.wp_cmd_standAt, Sem.wp_release, Sem.wp_pure']
  exact Sem.wp_mono M Γ _ (fun ov _ s₂ h₂ => h₂ Γ _ hΓ) (fun _ _ _ h' => h') _ _ (h Γ _ hΓ)
def rootD (w : World) (fl : Addr) (t t' : Tok) : Obj := dictOf [⟨PyData.keyHash w.params (Str.ofString "root"), .str (Str.ofString "root") t, .none⟩, ⟨PyData.keyHash w.params (Str.ofString "iter"), .str (Str.ofString "iter") t', .ref fl⟩] 2
section
variable {prog : Program} {w : World} {A : Around} {E : Value → Shared → Prop} {s : Shared} {c : Cx}
theorem gpm_spec (G : Glo (Mine.hd.heap_39 w.params) c.h0) (B : Keep c.h0 s.heap) (hR : Rest c s) (hA : AOk A 3) {x dx rx rdx fl fa : Addr} {tk t t' : Tok} {ofa : Obj} {fams : List (Addr × List (MK × Value))} {Q : Value → Shared → Prop}
    (hx : s.heap.get? x = some (instObj 45 dx)) (hdx : s.heap.get? dx = some (selD w (.ref rx) tk)) (hrx : s.heap.get? rx = some (instObj 45 rdx)) (hrd : s.heap.get? rdx = some (rootD w fl t t')) (hne : dx ≠ rdx) (h0 : c.h0.get? dx = none)
    (hfn : ∀ h, Heap.ExtBut dx s.heap h → FnAt fl h) (hy : Yields prog w c (hid s.heap [dx]) fl (.ref fa)) (hfa : s.heap.get? fa = some ofa) (hfl : IsLst ofa (fams.map fun f => .ref f.1))
    (hfs : ∀ f ∈ fams, ∃ o, s.heap.get? f.1 = some o ∧ IsLst o (f.2.map (·.2)) ∧ ∀ kv ∈ f.2, mixIs kv.1 kv.2 = true) (hz : (fams.map fun f => f.2.length).sum ≤ 2 ^ 20) (hz' : fams.length ≤ 2 ^ 20)
    (h : ∀ s' d o, Rest c s' → Heap.ExtBut dx s.heap s'.heap → s.heap.objs.size ≤ d → s'.heap.get? d = some o → o.IsDictOf (mixKind prog w) (pmFold fams) → Q (.ref d) s') :
    wpAny (model prog w) A (call (.ref 28) [.ref x]) Q E s := by
  refine' call_fn (binds := [(Str.ofString "context", .ref x)]) G B hA ?gho ?ghcd ?ghb ?ghl ?gh ?gc1 ?gc2 ?gc3 ?gc4
  wtm_at "ent"
  case gh =>
    intro L h₁ A' hA' hL hk hn hA1
    have D := Led.enter (c := c) (mu := [(dx, selD w (.ref rx) tk)]) B (by simpa using h0) hn hk hL (by simpa using hdx) (by simp)
    have dl : ∀ {a o}, s.heap.get? a = some o → a ≠ dx → hid s.heap [dx] a = some o := fun e hn => hid_some e (by simpa using hn)
    have nx : x ≠ dx := fun q => by subst q; rw [hx] at hdx; cases hdx
    have nrx : rx ≠ dx := fun q => by subst q; rw [hrx] at hdx; cases hdx
    wtm_at "go"
    have I : InstAt h₁ x (instObj 45 dx) 45 (some (selD w (.ref rx) tk)) := inst_at (D.keep _ _ (dl hx nx)) (D.get (.head _))
    refine' ga_cls (K := Mine.hd.heap_39 w.params) ?gX I ?g1 ?g2 ?g3 ?g4 ?g5 ?g6 ?g7 ?_
    case gX => exact G.k.keeps D.kb
    case g1 => k_is
    case g2 => k_is
    case g3 => k_is
    case g4 => k_is
    case g5 => k_handed
    case g6 => decide +kernel
    case g7 => k_get
    wtm_at "go"
    refine wpAny_If ?_
    wtm_at "go"
    refine is_none_none ?_
    wtm_at "go"
    rw [if_pos rfl]
    wtm_at "go"
    rename Led _ _ _ _ _ _ => D
    refine wpAny_Assign_two ?_ ?_ ?_
    rotate_left
    · with_unfolding_all rfl
    · with_unfolding_all rfl
    refine new_dict (mixKind prog w) D ?_
    intro d h₂ od hLd D hd
    try dsimp only
    refine assign_attr ?_
    wtm_at "go"
    have I : InstAt h₂ x (instObj 45 dx) 45 (some (selD w (.ref rx) tk)) := inst_at (D.keep _ _ (dl hx nx)) (D.get (.tail _ (.head _)))
    refine' sa_dict (K := Mine.hd.heap_39 w.params) D ?gX I rfl ?g1 ?g2 ?g3 ?g4 ?g5 ?g6 ?g7 ?g8 ?_
    case gX => exact G.k.keeps D.kb
    case g1 => k_is
    case g2 => k_is
    case g3 => k_is
    case g4 => k_is
    case g5 => k_get
    case g6 => k_put
    case g7 => exact Up.tail Up.head
    case g8 => exact Nat.le_of_ble_eq_true rfl
    intro h₃ D
    try dsimp only
    refine wpAny_assign_Name ?_
    wtm_at "st"
    rename Led _ _ _ _ _ _ => D
    let Post1 : Shared → Prop := fun s' => ∃ (m : Str → Option Value) (o odx : Obj), Led c (hid s.heap [dx]) L s'.heap m [(d, o), (dx, odx)] ∧ Rest c s' ∧ m (Str.ofString "parent_map") = some (.ref d) ∧ o.IsDictOf (mixKind prog w) (pmFold fams)
    refine seq_cut Post1 ?_ ?_
    · refine wpAny_For ?_ ?_
      rotate_left
      · intro _; rfl
      wtm_at "go"
      have I : InstAt _ x (instObj 45 dx) 45 (some _) := inst_at (D.keep _ _ (dl hx nx)) (D.get (.tail _ (.head _)))
      refine' ga_own (K := Mine.hd.heap_39 w.params) ?gX I ?g1 ?g2 ?g3 ?g4 ?g5 ?g6 ?_
      case gX => exact G.k.keeps D.kb
      case g1 => k_is
      case g2 => k_is
      case g3 => k_is
      case g4 => k_is
      case g5 => k_get
      case g6 => k_handed
      have I2 : InstAt _ rx (instObj 45 rdx) 45 (some (rootD w fl t t')) := inst_at (D.keep _ _ (dl hrx nrx)) (D.keep _ _ (dl hrd (Ne.symm hne)))
      refine' method_usual (K := Mine.hd.heap_39 w.params) (r := none) ?gX I2 ?g1 ?g2 ?g3 ?g4 ?_
      case gX => exact G.k.keeps D.kb
      case g1 => k_is
      case g2 => k_is
      case g3 => k_is
      case g4 => rfl
      refine' ga_own (K := Mine.hd.heap_39 w.params) ?gX I2 ?g1 ?g2 ?g3 ?g4 ?g5 ?g6 ?_
      case gX => exact G.k.keeps D.kb
      case g1 => k_is
      case g2 => k_is
      case g3 => k_is
      case g4 => k_is
      case g5 => k_get
      case g6 => k_handed
      try dsimp only
      refine callWith_F0 (hfn _ fun b o hb e => D.keep _ _ (dl e hb)) ?_
      try dsimp only [List.nil_append]
      refine hy A' _ _ _ (hA1.mono (by decide)) D.keep hR ?_
      intro s₄ hR hk4
      have D := D.after hk4
      have nfa : fa ≠ dx := fun q => by subst q; rw [hfa] at hdx; cases hdx; exact absurd hfl.cls (by simp [selD])
      refine iter_list D (D.keep _ _ (dl hfa nfa)) hfl ?_
      intro I h₅ oI hLI D hit
      try dsimp only
      generalize hodx : dictOf _ _ = odx at D
      let Post2 : Nat → (Str → Option Value) → List (Addr × Obj) → Prop := fun i m news => ∃ o, news = [(d, o), (dx, odx)] ∧ m (Str.ofString "parent_map") = some (.ref d) ∧ o.IsDictOf (mixKind prog w) (pmFold (fams.take i))
      refine for_list (c := c) hA1.handled Post2 D ⟨od, rfl, rfl, hd⟩ (by exact hR) hit (D.keep _ _ (dl hfa nfa)) hfl (.inl (dl hfa nfa)) ?_ ?_
      · clear D hR hk4 hit
        rintro i v m₁ news₁ oI s₅ hv hxp
        refine e1_3 hxp ?_
        clear hxp
        rintro o rfl e1 hdo D hR
        obtain ⟨f, hf, rfl⟩ : ∃ f, fams[i]? = some f ∧ v = .ref f.1 := by
          rw [List.getElem?_map] at hv
          refine e1_2 (Option.map_eq_some_iff.mp hv) ?_
          rintro f hf e
          exact ⟨f, hf, e.symm⟩
        refine e1_3 (hfs f (List.mem_of_getElem? hf)) ?_
        rintro of hof hlf hmix
        have nf : f.1 ≠ dx := fun q => by rw [q, hdx] at hof; cases hof; exact absurd hlf.cls (by simp [selD])
        refine wpAny_assign_Name ?_
        wtm_at "go"
        rename Led _ _ _ _ _ _ => D
        refine wpAny_For ?_ ?_
        rotate_left
        · intro _; rfl
        wtm_at "go"
        refine iter_list D (D.keep _ _ (dl hof nf)) hlf ?_
        intro I2 h₆ oI2 hLI2 D hit2
        try dsimp only
        let Post3 : Nat → (Str → Option Value) → List (Addr × Obj) → Prop := fun j m news => ∃ o, news = [(I, oI), (d, o), (dx, odx)] ∧ m (Str.ofString "parent_map") = some (.ref d) ∧ m (Str.ofString "p") = some (.ref f.1) ∧ o.IsDictOf (mixKind prog w) ((f.2.take j).foldl (fun kvs kv => stored kvs kv.1 (.ref f.1)) (pmFold (fams.take i)))
        refine for_list (c := c) hA1.handled Post3 D ⟨o, rfl, e1, rfl, hdo⟩ (by exact hR) hit2 (D.keep _ _ (dl hof nf)) hlf (.inl (dl hof nf)) ?_ ?_
        · clear D hR hit2
          rintro j v m₂ news₂ oI2 s₆ hv hxp
          refine e1_4 hxp ?_
          clear hxp
          rintro o₂ rfl e1 e2 hdo D hR
          obtain ⟨kv, hkv, rfl⟩ : ∃ kv, f.2[j]? = some kv ∧ v = kv.2 := by
            rw [List.getElem?_map] at hv
            refine e1_2 (Option.map_eq_some_iff.mp hv) ?_
            rintro kv hkv e
            exact ⟨kv, hkv, e.symm⟩
          refine wpAny_assign_Name ?_
          wtm_at "go"
          rename Led _ _ _ _ _ _ => D
          have hj : j < f.2.length := by
            rcases Nat.lt_or_ge j f.2.length with q | q
            · exact q
            · rw [List.getElem?_eq_none q] at hkv; cases hkv
          refine dict_set (knd := mixKind prog w) (k := kv.1) (hmix kv (List.mem_of_getElem? hkv)) (D.get (.tail _ (.tail _ (.head _)))) hdo ?_ ?_
          · have q1 := foldS_len (.ref f.1) (f.2.take j) (pmFold (fams.take i))
            have q2 := pmFold_len (fams.take i)
            have q3 := sum_take_le (fams.map fun f => f.2.length) (i + 1)
            rw [← List.map_take, List.take_add_one, hf] at q3
            simp only [List.map_append, List.sum_append] at q3
            simp only [Option.toList_some, List.map_cons, List.map_nil, List.sum_cons, List.sum_nil] at q3
            rw [List.length_take] at q1
            rw [sizeLine_eq]
            refine Nat.le_trans q1 ?_
            omega
          intro h₇ o₃ ho₃ hd₃ hs₃
          have D := D.upd (.tail (.tail .head)) hs₃ ho₃
          try dsimp only
          wtm_at "go"
          refine ⟨_, _, D, hR, o₃, rfl, e1, e2, ?_⟩
          rw [List.take_add_one, hkv, List.foldl_append]
          exact hd₃
        · clear D hR hit2
          rintro m₂ news₂ s₆ hxp
          refine e1_4 hxp ?_
          clear hxp
          rintro o₂ rfl e1 e2 hdo D hR
          try dsimp only
          wtm_at "go"
          refine ⟨_, _, D, hR, o₂, rfl, e1, ?_⟩
          rw [pmFold_take fams i f hf]
          rw [List.length_map, List.take_length] at hdo
          exact hdo
      · clear D hR hit
        rintro m₂ news₂ s₆ hxp
        refine e1_3 hxp ?_
        clear hxp
        rintro o₂ rfl e1 hdo D hR
        refine ⟨rfl, _, _, _, D, hR, e1, ?_⟩
        rw [List.length_map, List.take_length] at hdo
        exact hdo
    · clear D hR
      rintro s₂ hxp
      refine e3_4 hxp ?_
      clear hxp
      rintro m o odx D hR e1 hdo
      wtm_at "go"
      refine h _ d o hR (fun b ob hb e => D.keep _ _ (dl e hb)) (Nat.le_trans hL (Nat.le_of_lt hLd)) (D.get (.head _)) hdo
end


-- part NI
structure Nd where
  name : Str
  tn : Tok
  np : Int
  tp : Tok
  a : Addr
  d : Addr
  sa : Addr
  succ : List (Str × Tok)
  ep : Nat
def niO (d : Addr) (sl : Array (Option Value)) : Obj := ⟨.ref 68, some d, .plain, sl⟩
def ndObj (nd : Nd) : Obj := niO nd.d #[some (.str nd.name nd.tn), some (.int nd.np nd.tp), some (.ref nd.sa)]
def sucObj (nd : Nd) : Obj := lstO (nd.succ.map fun p => .str p.1 p.2) nd.ep
def nd3 (nd : Nd) : List (Addr × Obj) := [(nd.a, ndObj nd), (nd.d, dictOf [] 0), (nd.sa, sucObj nd)]
theorem led_ne {c : Cx} {g : PM} {L : Addr} {h : Heap} {m : Str → Option Value} {news : List (Addr × Obj)} (D : Led c g L h m news) {p : Addr × Obj} (hp : p ∈ news) : c.h0.get? p.1 = none := by
  cases e : c.h0.get? p.1 with
  | none => rfl
  | some o =>
    have q := D.base _ _ e
    rw [(D.own _ hp).2] at q; cases q
section
variable {prog : Program} {w : World} {A : Around} {E : Value → Shared → Prop} {s : Shared} {c : Cx} {g : PM} {L : Addr} {m : Str → Option Value} {news : List (Addr × Obj)}
theorem new_ni (G : Glo (Mine.hd.heap_39 w.params) c.h0) (D : Led c g L s.heap m news) (hR : Rest c s) (hA : AOk A 3) {k : Str} {tn : Tok} {Q : Value → Shared → Prop}
    (h : ∀ nd : Nd, nd.name = k → nd.tn = tn → nd.np = 0 → nd.succ = [] → L < nd.a → L < nd.d → L < nd.sa → ∀ s', Rest c s' → Led c g L s'.heap m (nd3 nd ++ news) → Q (.ref nd.a) s') :
    wpAny (model prog w) A (call (.ref 68) [.str k tn]) Q E s := by
  refine new_inst (K := Mine.hd.heap_39 w.params) (fI := 64) D (G.k.keeps D.kb) (by k_is) (by k_is) (by k_is) ?_
  intro x dx h' l1 l2 D1
  refine' code_fn (binds := [(Str.ofString "self", .ref x), (Str.ofString "node", .str k tn)]) (n := 1) G D1.kb (AOk.make (n := 2) hA 68 [.str k tn] []) ?gho ?ghcd ?ghb ?ghl ?gh ?gc1 ?gc2 ?gc3 ?gc4
  wtm_at "ent"
  case gh =>
    intro L2 h₁ A' hA' hL hk hn hA1
    have D2 := Led.enter (c := c) (mu := [(x, niO dx #[])]) D1.kb (by intro p hp; rw [List.mem_singleton.mp hp]; exact led_ne D1 (.head _)) hn hk hL (by
      intro p hp
      rw [List.mem_singleton.mp hp]; exact D1.get (.head _)) (by simp)
    have hdx : hid h' [x] dx = some (dictOf [] 0) := hid_some (D1.get (.tail _ (.head _))) (by simp; exact Nat.ne_of_lt l2)
    wtm_at "go"
    refine' sa_slot (K := Mine.hd.heap_39 w.params) D2 ?gX (inst_at (D2.get (.head _)) (D2.keep _ _ hdx)) ?g1 ?g2 ?g3 ?g4 ?g5 ?g6 ?g7 ?g8 Up.head ?_
    wtm_at "sas"
    intro h₂ D3
    try dsimp only
    wtm_at "go"
    refine' sa_slot (K := Mine.hd.heap_39 w.params) D3 ?gX (inst_at (D3.get (.head _)) (D3.keep _ _ hdx)) ?g1 ?g2 ?g3 ?g4 ?g5 ?g6 ?g7 ?g8 Up.head ?_
    wtm_at "sas"
    intro h₃ D4
    try dsimp only
    wtm_at "go"
    refine new_list D4 (by simp) ?_
    intro sa h₄ osa hsa D5 e5
    try dsimp only
    wtm_at "go"
    refine' sa_slot (K := Mine.hd.heap_39 w.params) D5 ?gX (inst_at (D5.get (.tail _ (.head _))) (D5.keep _ _ hdx)) ?g1 ?g2 ?g3 ?g4 ?g5 ?g6 ?g7 ?g8 (Up.tail Up.head) ?_
    wtm_at "sas"
    intro h₅ D6
    try dsimp only
    wtm_at "go"
    refine ⟨rfl, ?_⟩
    obtain ⟨tp, hx6⟩ : ∃ tp, h₅.get? x = some (ndObj ⟨k, tn, 0, tp, x, dx, sa, [], 0⟩) := ⟨_, D6.get (.tail _ (.head _))⟩
    have hsz : h'.objs.size ≤ sa := Nat.le_trans hL (Nat.le_of_lt hsa)
    have hLs : L < h'.objs.size := D1.ns.lt
    have D7 := D1.callBut (h' := h₅) (as := [x]) (news' := (x, ndObj ⟨k, tn, 0, tp, x, dx, sa, [], 0⟩) :: (dx, dictOf [] 0) :: news) (add := [(sa, osa)]) (fun b o hb e => D6.keep _ _ (hid_some e hb)) (by
      intro b hb
      rw [List.mem_singleton.mp hb]
      exact ⟨D1.neL (p := (x, _)) (.head _), (D1.own (x, _) (.head _)).2⟩) rfl (by
      intro p hp
      rcases List.mem_cons.mp hp with rfl | hp
      · exact hx6
      · exact D6.keep _ _ (hid_some (D1.get (.tail _ hp)) (by
          intro q
          have := (List.nodup_cons.mp D1.ndn).1
          exact this (List.mem_map.mpr ⟨p, hp, List.mem_singleton.mp q⟩)))) (by
      intro p hp
      rw [List.mem_singleton.mp hp]; exact hsz) (by
      intro p hp
      rw [List.mem_singleton.mp hp]; exact D6.get (.head _)) (by simp)
    refine h ⟨k, tn, 0, tp, x, dx, sa, [], 0⟩ rfl rfl rfl rfl (Nat.lt_trans l1 l2) l1 (Nat.lt_of_lt_of_le hLs hsz) _ hR ?_
    refine D7.perm ?_
    rw [e5]
    exact (List.perm_append_comm (l₁ := [(sa, _)]) (l₂ := [(x, _), (dx, _)])).append_right news
end


-- part SR1
theorem assign_sub {M : Model} {A : Around} {E : Value → Shared → Prop} {s : Shared} {env : Env} {o i : Expr} {pos : Pos} {v : Value} {Q : Unit → Shared → Prop}
    (h : wpAny M A (eval o env) (fun ov s₂ => wpAny M A (eval i env) (fun iv s₃ => wpAny M A (setItem ov iv v) Q E s₃) E s₂) E s) : wpAny M A (assign (.Subscript o i pos) env v) Q E s := fun Γ p hΓ => by
  simp only [assign_Subscript, Sem.wp_bind', Sem.wp_holding, Sem.wp_cmd_standAt, Sem.wp_release, Sem.wp_pure']
  exact Sem.wp_mono M Γ _ (fun ov _ s₂ h₂ => Sem.wp_mono M Γ _ (fun iv _ s₃ h₃ => h₃ Γ _ hΓ) (fun _ _ _ h' => h') _ _ (h₂ Γ _ hΓ)) (fun _ _ _ h' => h') _ _ (h Γ _ hΓ)
abbrev kvsOf (ns : List Nd) : List (Str × Value) := ns.map fun nd => (nd.name, .ref nd.a)
/-- the sorter's own dict -/
def srtD (w : World) (ts : Tok × Tok × Tok × Tok) (nd : Addr) (rv po nf : Value) : Obj := dictOf [⟨PyData.keyHash w.params (Str.ofString "_node2info"), .str (Str.ofString "_node2info") ts.1, .ref nd⟩, ⟨PyData.keyHash w.params (Str.ofString "_ready_nodes"), .str (Str.ofString "_ready_nodes") ts.2.1, rv⟩,
  ⟨PyData.keyHash w.params (Str.ofString "_npassedout"), .str (Str.ofString "_npassedout") ts.2.2.1, po⟩, ⟨PyData.keyHash w.params (Str.ofString "_nfinished"), .str (Str.ofString "_nfinished") ts.2.2.2, nf⟩] 4
theorem valueAt_none {ns : List Nd} {k : Str} (h : ∀ nd ∈ ns, nd.name ≠ k) : valueAt (kvsOf ns) k = none := by
  unfold valueAt
  rw [List.find?_eq_none.mpr]
  · rfl
  · intro p hp
    refine e1_2 (List.mem_map.mp hp) ?_
    rintro nd hnd rfl
    simpa using h nd hnd
theorem valueAt_mem {ns : List Nd} (hn : (ns.map (·.name)).Nodup) {nd : Nd} (h : nd ∈ ns) : valueAt (kvsOf ns) nd.name = some (.ref nd.a) := by
  obtain ⟨i, hi⟩ := List.mem_iff_getElem?.mp h
  refine valueAt_of_get (i := i) (by simpa [kvsOf, List.map_map, Function.comp_def] using hn) ?_
  rw [List.getElem?_map, hi]; rfl
section
variable {prog : Program} {w : World} {A : Around} {E : Value → Shared → Prop} {s : Shared} {c : Cx}
theorem gni_old (G : Glo (Mine.hd.heap_39 w.params) c.h0) (B : Keep c.h0 s.heap) (hR : Rest c s) (hA : AOk A 5) {x dx nd a : Addr} {ts : Tok × Tok × Tok × Tok} {rv po nf : Value} {od : Obj} {kvs : List (Str × Value)} {k : Str} {t : Tok} {Q : Value → Shared → Prop}
    (hx : s.heap.get? x = some (instObj 165 dx)) (hdx : s.heap.get? dx = some (srtD w ts nd rv po nf)) (hnd : s.heap.get? nd = some od) (hd : od.IsDictOf (strKind prog w) kvs) (h2 : 2 < nd) (hv : valueAt kvs k = some (.ref a))
    (h : ∀ s', Rest c s' → Keep s.heap s'.heap → Q (.ref a) s') :
    wpAny (model prog w) A (call (.ref 108) [.ref x, .str k t]) Q E s := by
  refine' call_fn (binds := [(Str.ofString "self", .ref x), (Str.ofString "node", .str k t)]) (n := 4) G B hA ?gho ?ghcd ?ghb ?ghl ?gh ?gc1 ?gc2 ?gc3 ?gc4
  wtm_at "ent"
  case gh =>
    intro L h₁ A' hA' hL hk hn hA1
    have D := Led.enter0 (c := c) B hn hk hL
    wtm_at "go"
    refine wpAny_If ?_
    wtm_at "go"
    refine' ga_own (K := Mine.hd.heap_39 w.params) ?gX (inst_at (D.keep _ _ hx) (D.keep _ _ hdx)) ?g1 ?g2 ?g3 ?g4 ?g5 ?g6 ?_
    wtm_at "gao"
    refine dict_meth PySem.F.slot_dict_get PySem.F.type_dict_get (D.keep _ _ hnd) hd ?_
    try dsimp only
    wtm_at "go"
    refine dict_get1 (knd := strKind prog w) h2 (strKind_is _ _ _ _) (D.keep _ _ hnd) hd ?_
    rw [hv]
    try dsimp only [Option.getD]
    wtm_at "go"
    rename Led _ _ _ _ _ _ => D
    refine is_ref_none ?_
    wtm_at "go"
    rw [if_neg (by simp)]
    wtm_at "go"
    exact h _ hR D.keep
theorem gni_new (G : Glo (Mine.hd.heap_39 w.params) c.h0) (B : Keep c.h0 s.heap) (hR : Rest c s) (hA : AOk A 5) {x dx nd : Addr} {ts : Tok × Tok × Tok × Tok} {rv po nf : Value} {od : Obj} {kvs : List (Str × Value)} {k : Str} {t : Tok} {Q : Value → Shared → Prop}
    (hx : s.heap.get? x = some (instObj 165 dx)) (hdx : s.heap.get? dx = some (srtD w ts nd rv po nf)) (hnd : s.heap.get? nd = some od) (hd : od.IsDictOf (strKind prog w) kvs) (h2 : 2 < nd) (h0 : c.h0.get? nd = none) (hne : dx ≠ nd) (hv : valueAt kvs k = none) (hz : kvs.length ≤ 2 ^ 20)
    (h : ∀ (e : Nd) s' od', e.name = k → e.np = 0 → e.succ = [] → (∀ p ∈ nd3 e, s.heap.objs.size ≤ p.1 ∧ s'.heap.get? p.1 = some p.2) → ((nd3 e).map (·.1)).Nodup → Rest c s' → Heap.ExtBut nd s.heap s'.heap → s'.heap.get? nd = some od' → od'.IsDictOf (strKind prog w) (kvs ++ [(k, .ref e.a)]) → Q (.ref e.a) s') :
    wpAny (model prog w) A (call (.ref 108) [.ref x, .str k t]) Q E s := by
  refine' call_fn (binds := [(Str.ofString "self", .ref x), (Str.ofString "node", .str k t)]) (n := 4) G B hA ?gho ?ghcd ?ghb ?ghl ?gh ?gc1 ?gc2 ?gc3 ?gc4
  wtm_at "ent"
  case gh =>
    intro L h₁ A' hA' hL hk hn hA1
    have D := Led.enter (c := c) (mu := [(nd, od)]) B (by simpa using h0) hn hk hL (by simpa using hnd) (by simp)
    have nx : x ≠ nd := fun q => by subst q; rw [hx] at hnd; cases hnd; obtain ⟨es, ep, e1, e2, _⟩ := hd; cases e2
    have dl : ∀ {a o}, s.heap.get? a = some o → a ≠ nd → hid s.heap [nd] a = some o := fun e hn => hid_some e (by simpa using hn)
    wtm_at "go"
    refine wpAny_If ?_
    wtm_at "go"
    refine' ga_own (K := Mine.hd.heap_39 w.params) ?gX (inst_at (D.keep _ _ (dl hx nx)) (D.keep _ _ (dl hdx hne))) ?g1 ?g2 ?g3 ?g4 ?g5 ?g6 ?_
    wtm_at "gao"
    refine dict_meth PySem.F.slot_dict_get PySem.F.type_dict_get (D.get (.head _)) hd ?_
    try dsimp only
    wtm_at "go"
    refine dict_get1 (knd := strKind prog w) h2 (strKind_is _ _ _ _) (D.get (.head _)) hd ?_
    rw [hv]
    try dsimp only [Option.getD]
    wtm_at "go"
    rename Led _ _ _ _ _ _ => D
    refine is_none_none ?_
    wtm_at "go"
    rw [if_pos rfl]
    wtm_at "go"
    refine wpAny_Assign_two ?_ ?_ ?_
    rotate_left
    · with_unfolding_all rfl
    · with_unfolding_all rfl
    wtm_at "go"
    refine new_ni (g := hid s.heap [nd]) (L := L) (news := [(nd, od)]) G (by exact D) (by exact hR) (hA1.mono (by decide)) ?_
    intro e q1 q2 q3 q4 q5 q6 q7 s₂ hR D
    try dsimp only
    refine assign_sub ?_
    wtm_at "go"
    refine' ga_own (K := Mine.hd.heap_39 w.params) ?gX (inst_at (D.keep _ _ (dl hx nx)) (D.keep _ _ (dl hdx hne))) ?g1 ?g2 ?g3 ?g4 ?g5 ?g6 ?_
    wtm_at "gao"
    wtm_at "go"
    refine dict_set (knd := strKind prog w) (k := k) (strKind_is _ _ _ _) (D.get (List.mem_append_right _ (.head _))) hd (by rw [sizeLine_eq]; omega) ?_
    intro h₃ o₃ ho₃ hd₃ hs₃
    have D := D.upd (Up.head.pre (nd3 e)) hs₃ ho₃
    try dsimp only
    wtm_at "go"
    rename Led _ _ _ _ _ _ => D
    have e9 : stored kvs k (.ref e.a) = kvs ++ [(k, .ref e.a)] := by
      unfold stored
      rw [if_neg]
      intro q
      refine e1_2 (List.any_eq_true.mp q) ?_
      rintro kv m1 m2
      unfold valueAt at hv
      rw [Option.map_eq_none_iff, List.find?_eq_none] at hv
      exact hv kv m1 m2
    rw [e9] at hd₃
    have hnd3 := (List.nodup_append.mp (by have := D.ndn; rwa [List.map_append] at this)).1
    refine h e _ o₃ q1 q3 q4 (fun p hp => ⟨?_, D.get (List.mem_append_left _ hp)⟩) hnd3 hR (fun b ob hb e => D.keep _ _ (dl e hb)) (D.get (List.mem_append_right _ (.head _))) hd₃
    have : L < p.1 := by
      unfold nd3 at hp
      simp only [List.mem_cons, List.not_mem_nil, or_false] at hp
      rcases hp with rfl | rfl | rfl
      · exact q5
      · exact q6
      · exact q7
    exact Nat.le_trans hL (Nat.le_of_lt this)
end


-- part SR2
def segs (ns : List Nd) : List (Addr × Obj) := ns.flatMap nd3
theorem segs_append (a b : List Nd) : segs (a ++ b) = segs a ++ segs b := List.flatMap_append
theorem segs_one (e : Nd) : segs [e] = nd3 e := by simp [segs]
theorem mem_segs {ns : List Nd} {nd : Nd} (h : nd ∈ ns) {p : Addr × Obj} (hp : p ∈ nd3 nd) : p ∈ segs ns := List.mem_flatMap.mpr ⟨nd, h, hp⟩
section
variable {prog : Program} {w : World} {A : Around} {E : Value → Shared → Prop} {s : Shared} {c : Cx} {g : PM} {L : Addr} {m : Str → Option Value} {rest : List (Addr × Obj)}
/-- _get_nodeinfo, on the caller's ledger -/
theorem gni_led (G : Glo (Mine.hd.heap_39 w.params) c.h0) {x dx nd : Addr} {ts : Tok × Tok × Tok × Tok} {rv po nf : Value} {od : Obj} {ns : List Nd} {k : Str} {t : Tok} {Q : Value → Shared → Prop}
    (D : Led c g L s.heap m ((nd, od) :: (segs ns ++ rest))) (hR : Rest c s) (hA : AOk A 5) (hx : s.heap.get? x = some (instObj 165 dx)) (hdx : s.heap.get? dx = some (srtD w ts nd rv po nf)) (hd : od.IsDictOf (strKind prog w) (kvsOf ns)) (h2 : 2 < nd) (hne : dx ≠ nd) (hz : ns.length ≤ 2 ^ 20)
    (h : ∀ (ns' : List Nd) (e : Nd) od' s', ((ns' = ns ∧ ∃ e' ∈ ns, e'.name = k) ∨ (ns' = ns ++ [e] ∧ e.np = 0 ∧ e.succ = [] ∧ (∀ e' ∈ ns, e'.name ≠ k) ∧ ∀ p ∈ nd3 e, L < p.1)) → e ∈ ns' → e.name = k → od'.IsDictOf (strKind prog w) (kvsOf ns') → Rest c s' → Led c g L s'.heap m ((nd, od') :: (segs ns' ++ rest)) → s'.heap.get? dx = some (srtD w ts nd rv po nf) → Q (.ref e.a) s') :
    wpAny (model prog w) A (call (.ref 108) [.ref x, .str k t]) Q E s := by
  by_cases hk : ∃ e ∈ ns, e.name = k
  · skip
    refine e1_2 hk ?_
    clear hk
    rintro e he rfl
    have hnn : (ns.map (·.name)).Nodup := by
      refine e2_5 hd ?_
      clear hd
      rintro _ _ _ _ _ _ q
      simpa [kvsOf, List.map_map, Function.comp_def] using q
    refine gni_old G D.kb hR hA hx hdx (D.get (.head _)) hd h2 (valueAt_mem hnn he) ?_
    intro s' hR' hk'
    exact h ns e od s' (.inl ⟨rfl, e, he, rfl⟩) he rfl hd hR' (D.after hk') (hk' _ _ hdx)
  · have hk' : ∀ e ∈ ns, e.name ≠ k := fun e he q => hk ⟨e, he, q⟩
    refine gni_new G D.kb hR hA hx hdx (D.get (.head _)) hd h2 (led_ne D (.head _)) hne (valueAt_none hk') (by simpa [kvsOf] using hz) ?_
    intro e s' od' q1 q2 q3 q4 q5 hR' hs' hnd' hd'
    have hndn := D.ndn
    rw [List.map_cons, List.nodup_cons] at hndn
    have D' := D.callBut (h' := s'.heap) (as := [nd]) (news' := (nd, od') :: (segs ns ++ rest)) (add := nd3 e) (fun b o hb e => hs' b o (by simpa using hb) e) (by
      intro b hb
      rw [List.mem_singleton.mp hb]
      exact ⟨D.neL (p := (nd, od)) (.head _), (D.own (nd, od) (.head _)).2⟩) rfl (by
      intro p hp
      rcases List.mem_cons.mp hp with rfl | hp
      · exact hnd'
      · exact hs' _ _ (fun q => hndn.1 (List.mem_map.mpr ⟨p, hp, q⟩)) (D.get (.tail _ hp))) (fun p hp => (q4 p hp).1) (fun p hp => (q4 p hp).2) q5
    refine h (ns ++ [e]) e od' s' (.inr ⟨rfl, q2, q3, hk', fun p hp => Nat.lt_of_lt_of_le D.ns.lt (q4 p hp).1⟩) (by simp) q1 (by simpa [kvsOf, q1] using hd') hR' ?_ (hs' _ _ hne hdx)
    refine D'.perm ?_
    rw [segs_append, segs_one]
    refine List.Perm.trans (List.perm_middle (l₁ := nd3 e)) ?_
    refine List.Perm.cons _ ?_
    rw [List.append_assoc, ← List.append_assoc (nd3 e)]
    refine List.Perm.trans (List.Perm.append_right rest List.perm_append_comm) ?_
    rw [List.append_assoc]
end
section
variable {prog : Program} {w : World} {A : Around} {E : Value → Shared → Prop} {s : Shared} {c : Cx} {K : Frag}
/-- entry into a def with a starred parameter -/
theorem call_fnV {f : Addr} {oc : Value} {od : Option Addr} {osl : Array (Option Value)} {name qual : Str} {params : Arguments} {body : List Stmt} {scope : Scope} {dV kV doc pm cdv ct : Value} {an : Option Addr} {args rest : List Value} {binds : List (Str × Value)} {va : Str} {n : Nat} {Q : Value → Shared → Prop}
    (G : Glo K c.h0) (B : Keep c.h0 s.heap) (hA : AOk A (n + 1))
    (ho : K.lookup f = some ⟨oc, od, .func (fnOf name qual params body scope dV kV doc pm an cdv ct), osl⟩) (hcd : codeIn K cdv qual = true) (hz : rest.length ≤ sizeLine)
    (hbind : bindArgs (fnOf name qual params body scope dV kV doc pm an cdv ct) ⟨args, []⟩ = (newTuple rest >>= fun v => pure (binds ++ [(va, v)]))) (hloc : ∀ v, ∀ y ∈ binds ++ [(va, v)], scope.names.lookup y.1 = some .local)
    (h : ∀ ta L h₁ A', A' = A.deeper (envX qual scope L f cdv []) → s.heap.objs.size ≤ ta → ta < L → Keep s.heap h₁ → h₁.get? ta = some { cls := .type "tuple", data := .seq rest.toArray } → h₁.Ns L (fun y => (binds ++ [(va, Value.ref ta)]).reverse.lookup y) → AOk A' n →
      wpAny (model prog w) A' (execs body (envX qual scope L f cdv [])) (fun fl s' => Q (match fl with | .ret v => v | _ => .none) s') (fun _ _ => False) { s with heap := h₁, toks := s.toks + (binds ++ [(va, Value.ref ta)]).length })
    (hcell : ∀ x ∈ scope.names, x.2 ≠ .cell) (hco : scope.isCoroutine = false) (hgen : scope.isGenerator = false) (hk : scope.kind = .function) :
    wpAny (model prog w) A (call (.ref f) args) Q E s := by
  have G' := G.keeps B
  refine wpAny_call (codeAny_call_function (by have := hA.depth; omega) (G'.k _ _ ho) rfl hco hgen rfl (codeRec_of G'.k hcd) ?_)
  rw [hbind]
  refine wpAny_bind (wpAny_newObj_type (wpAny_pure (wpAny_newFunctionEnv hcell (hloc _) (fun h₁ hns hsb => ⟨(G'.lim.push _).fresh _ hsb, codeAny_func ?_⟩) hk)) (by show rest.toArray.size ≤ sizeLine; rw [List.size_toArray]; exact hz))
  have k1 : Keep (s.heap.push { cls := .type "tuple", data := .seq rest.toArray }) h₁ := fun b o e => hsb.extBut b o (Nat.ne_of_lt (Heap.lt_size e)) (Heap.get?_push_of_some _ e)
  have e1 := h s.heap.objs.size (s.heap.push { cls := .type "tuple", data := .seq rest.toArray }).objs.size h₁ _ rfl (Nat.le_refl _) (by rw [Heap.size_push]; exact Nat.lt_succ_self _) (fun b o e => k1 _ _ (Heap.get?_push_of_some _ e)) (k1 _ _ (Heap.get?_push_size _ rfl)) hns (hA.deeper _)
  exact wpAny_mono e1 (fun _ _ x => x) fun _ _ x => x.elim
end


-- part SR3
theorem segs_cons (e : Nd) (ns : List Nd) : segs (e :: ns) = nd3 e ++ segs ns := by simp [segs]
def Nd.ads (e : Nd) : Addr × Addr × Addr := (e.a, e.d, e.sa)
theorem nd3_ads {e e' : Nd} (h : e.ads = e'.ads) : (nd3 e).map (·.1) = (nd3 e').map (·.1) := by
  unfold Nd.ads at h
  simp only [Prod.mk.injEq] at h
  simp [nd3, h.1, h.2.1, h.2.2]
theorem segs_ads : ∀ {ns ns' : List Nd}, ns.map Nd.ads = ns'.map Nd.ads → (segs ns).map (·.1) = (segs ns').map (·.1)
  | [], [], _ => rfl
  | [], _ :: _, h => by cases h
  | _ :: _, [], h => by cases h
  | e :: r, e' :: r', h => by
    rw [List.map_cons, List.map_cons] at h
    injection h with h1 h2
    rw [segs_cons, segs_cons, List.map_append, List.map_append, nd3_ads h1, segs_ads h2]
/-- the nodes stay where they are, new ones come behind -/
def Evo (L : Addr) (ns ns' : List Nd) : Prop := ∃ nu nw, ns' = nu ++ nw ∧ nu.map Nd.ads = ns.map Nd.ads ∧ ∀ e ∈ nw, ∀ p ∈ nd3 e, L < p.1
theorem Evo.refl {L : Addr} {ns ns' : List Nd} (h : ns'.map Nd.ads = ns.map Nd.ads) : Evo L ns ns' := ⟨ns', [], by simp, h, fun _ q => nomatch q⟩
theorem Evo.trans {L : Addr} {a b c : List Nd} (x : Evo L a b) (y : Evo L b c) : Evo L a c := by
  refine e2_3 x ?_
  clear x
  rintro u n rfl h1 h2
  refine e2_3 y ?_
  clear y
  rintro u' n' rfl h3 h4
  have hlen : u'.length = u.length + n.length := by
    have := congrArg List.length h3
    simpa using this
  refine ⟨u'.take u.length, u'.drop u.length ++ n', ?_, ?_, ?_⟩
  · rw [← List.append_assoc, List.take_append_drop]
  · rw [List.map_take, h3, List.map_append, List.take_append_of_le_length (by simp)]
    rw [List.take_of_length_le (by simp)]
    exact h1
  · intro e he p hp
    rcases List.mem_append.mp he with q | q
    · have : e.ads ∈ n.map Nd.ads := by
        have h5 : (u'.drop u.length).map Nd.ads = n.map Nd.ads := by
          rw [List.map_drop, h3, List.map_append]
          simp
        rw [← h5]
        exact List.mem_map_of_mem q
      refine e1_2 (List.mem_map.mp this) ?_
      rintro e2 he2 e3
      have hm : p.1 ∈ (nd3 e2).map (·.1) := by rw [nd3_ads e3]; exact List.mem_map_of_mem hp
      refine e1_2 (List.mem_map.mp hm) ?_
      rintro p2 hp2 e4
      rw [← e4]; exact h2 e2 he2 p2 hp2
    · exact h4 e q p hp
section
variable {c : Cx} {g : PM} {L : Addr} {h h' : Heap} {m : Str → Option Value} {p0 : Addr × Obj} {pre post : List Nd} {rest : List (Addr × Obj)} {e e' : Nd}
theorem led_node (D : Led c g L h m (p0 :: (segs (pre ++ e :: post) ++ rest))) (hs : Heap.ExtBut e.a h h') (ho : h'.get? e.a = some (ndObj e')) (ha : e'.ads = e.ads) (hss : sucObj e' = sucObj e) :
    Led c g L h' m (p0 :: (segs (pre ++ e' :: post) ++ rest)) := by
  have ha' : e'.a = e.a ∧ e'.d = e.d ∧ e'.sa = e.sa := by unfold Nd.ads at ha; simpa using ha
  have U : Up e.a (ndObj e) (ndObj e') (p0 :: (segs (pre ++ e :: post) ++ rest)) (p0 :: (segs (pre ++ e' :: post) ++ rest)) := by
    refine .tail (Up.app ?_ rest)
    rw [segs_append, segs_append, segs_cons, segs_cons]
    refine Up.pre ?_ (segs pre)
    refine Up.app ?_ _
    unfold nd3
    rw [ha'.1, ha'.2.1, ha'.2.2, hss]
    exact .head
  exact D.upd U hs ho
theorem led_succ (D : Led c g L h m (p0 :: (segs (pre ++ e :: post) ++ rest))) (hs : Heap.ExtBut e.sa h h') (ho : h'.get? e.sa = some (sucObj e')) (ha : e'.ads = e.ads) (hss : ndObj e' = ndObj e) :
    Led c g L h' m (p0 :: (segs (pre ++ e' :: post) ++ rest)) := by
  have ha' : e'.a = e.a ∧ e'.d = e.d ∧ e'.sa = e.sa := by unfold Nd.ads at ha; simpa using ha
  have U : Up e.sa (sucObj e) (sucObj e') (p0 :: (segs (pre ++ e :: post) ++ rest)) (p0 :: (segs (pre ++ e' :: post) ++ rest)) := by
    refine .tail (Up.app ?_ rest)
    rw [segs_append, segs_append, segs_cons, segs_cons]
    refine Up.pre ?_ (segs pre)
    refine Up.app ?_ _
    unfold nd3
    rw [ha'.1, ha'.2.1, ha'.2.2, hss]
    exact .tail (.tail .head)
  exact D.upd U hs ho
theorem led_nd3 (D : Led c g L h m (p0 :: (segs (pre ++ e :: post) ++ rest))) {p : Addr × Obj} (hp : p ∈ nd3 e) : h.get? p.1 = some p.2 :=
  D.get (.tail _ (List.mem_append_left _ (mem_segs (by simp) hp)))
end


-- part SR4
abbrev Ab := Str × Int × List Str
def Nd.ab (e : Nd) : Ab := (e.name, e.np, e.succ.map (·.1))
def ensA (l : List Ab) (k : Str) : List Ab := if l.any (fun e => decide (e.1 = k)) then l else l ++ [(k, 0, [])]
def bumpA (l : List Ab) (k : Str) (n : Int) : List Ab := l.map fun e => if e.1 = k then (e.1, e.2.1 + n, e.2.2) else e
def hangA (l : List Ab) (y k : Str) : List Ab := l.map fun e => if e.1 = y then (e.1, e.2.1, e.2.2 ++ [k]) else e
def addA (l : List Ab) (k y : Str) : List Ab := hangA (ensA (bumpA (ensA l k) k 1) y) y k
theorem perm_last {α : Type} (a b : α) (l : List α) : (a :: b :: l).Perm (b :: (l ++ [a])) := by
  refine (List.Perm.swap b a l).trans (List.Perm.cons _ ?_)
  exact (List.perm_append_singleton a l).symm
theorem names_nodup {prog : Program} {w : World} {od : Obj} {ns : List Nd} (hd : od.IsDictOf (strKind prog w) (kvsOf ns)) : (ns.map (·.name)).Nodup := by
  refine e2_5 hd ?_
  clear hd
  rintro _ _ _ _ _ _ q
  simpa [kvsOf, List.map_map, Function.comp_def] using q
theorem ensA_of {ns ns' : List Nd} {e : Nd} {k : Str} {P : Prop} (h : (ns' = ns ∧ ∃ e' ∈ ns, e'.name = k) ∨ (ns' = ns ++ [e] ∧ e.np = 0 ∧ e.succ = [] ∧ (∀ e' ∈ ns, e'.name ≠ k) ∧ P)) (he : e.name = k) : ns'.map Nd.ab = ensA (ns.map Nd.ab) k := by
  unfold ensA
  rcases h with ⟨rfl, e', he', hk⟩ | ⟨rfl, h1, h2, h3, _⟩
  · rw [if_pos]
    exact List.any_eq_true.mpr ⟨e'.ab, List.mem_map_of_mem he', decide_eq_true hk⟩
  · rw [if_neg]
    · simp [Nd.ab, he, h1, h2]
    · intro q
      refine e1_2 (List.any_eq_true.mp q) ?_
      rintro x hx hq
      refine e1_2 (List.mem_map.mp hx) ?_
      rintro e' he' rfl
      exact h3 e' he' (of_decide_eq_true hq)
theorem map_one {f : Ab → Ab} {pre post : List Nd} {e e' : Nd} (hn : ((pre ++ e :: post).map (·.name)).Nodup) (hf : ∀ a : Ab, a.1 ≠ e.name → f a = a) (he : e'.ab = f e.ab) : (pre ++ e' :: post).map Nd.ab = ((pre ++ e :: post).map Nd.ab).map f := by
  simp only [List.map_append, List.map_cons, List.map_map] at hn ⊢
  rw [List.nodup_append, List.nodup_cons] at hn
  refine e0_3 hn ?_
  clear hn
  rintro _ ⟨h2, _⟩ h3
  rw [he]
  congr 1
  · refine List.map_congr_left fun a ha => (hf a.ab fun q => ?_).symm
    exact h3 a.name (List.mem_map_of_mem ha) e.name (.head _) q
  · congr 1
    refine List.map_congr_left fun a ha => (hf a.ab fun q => ?_).symm
    exact h2 (List.mem_map.mpr ⟨a, ha, q⟩)
theorem Evo.of_gni {L : Addr} {ns ns' : List Nd} {e : Nd} {k : Str} {P : Prop} (h : (ns' = ns ∧ P) ∨ (ns' = ns ++ [e] ∧ e.np = 0 ∧ e.succ = [] ∧ (∀ e' ∈ ns, e'.name ≠ k) ∧ ∀ p ∈ nd3 e, L < p.1)) : Evo L ns ns' := by
  rcases h with ⟨rfl, _⟩ | ⟨rfl, _, _, _, h4⟩
  · exact .refl rfl
  · exact ⟨ns, [e], rfl, rfl, fun e' he' => by rw [List.mem_singleton.mp he']; exact h4⟩
def SB (l : List Ab) : Prop := ∀ a ∈ l, a.2.2.length ≤ 2 ^ 20
theorem SB.ens {l : List Ab} (h : SB l) (k : Str) : SB (ensA l k) := by
  unfold ensA
  split
  · exact h
  · intro a ha
    rcases List.mem_append.mp ha with q | q
    · exact h a q
    · rw [List.mem_singleton.mp q]; simp
theorem SB.bump {l : List Ab} (h : SB l) (k : Str) (n : Int) : SB (bumpA l k n) := by
  intro a ha
  refine e1_2 (List.mem_map.mp ha) ?_
  rintro b hb rfl
  split
  · exact h b hb
  · exact h b hb
section
variable {prog : Program} {w : World} {A : Around} {E : Value → Shared → Prop} {s : Shared} {c : Cx}
theorem add_body (G : Glo (Mine.hd.heap_39 w.params) c.h0) (B : Keep c.h0 s.heap) (hR : Rest c s) (hA : AOk A 8) {x dx nd : Addr} {ts : Tok × Tok × Tok × Tok} {po nf : Value} {od : Obj} {ns : List Nd} {k y : Str} {t t' : Tok} {Q : Value → Shared → Prop}
    (hm : ∀ p ∈ (nd, od) :: segs ns, s.heap.get? p.1 = some p.2) (hnd : (((nd, od) :: segs ns).map (·.1)).Nodup) (hm0 : ∀ p ∈ (nd, od) :: segs ns, c.h0.get? p.1 = none)
    (hx : s.heap.get? x = some (instObj 165 dx)) (hdx : s.heap.get? dx = some (srtD w ts nd .none po nf)) (hxn : x ∉ ((nd, od) :: segs ns).map (·.1)) (hdn : dx ∉ ((nd, od) :: segs ns).map (·.1))
    (hd : od.IsDictOf (strKind prog w) (kvsOf ns)) (h2 : 2 < nd) (hz : ns.length ≤ 2 ^ 18) (hsb : SB (ns.map Nd.ab))
    (h : ∀ (ns' : List Nd) od' s' L', s.heap.objs.size ≤ L' → Evo L' ns ns' → ns'.map Nd.ab = addA (ns.map Nd.ab) k y → od'.IsDictOf (strKind prog w) (kvsOf ns') → Rest c s' → (∀ b o, b ∉ ((nd, od) :: segs ns).map (·.1) → s.heap.get? b = some o → s'.heap.get? b = some o) → (∀ p ∈ (nd, od') :: segs ns', s'.heap.get? p.1 = some p.2) → (((nd, od') :: segs ns').map (·.1)).Nodup → Q .none s') :
    wpAny (model prog w) A (call (.ref 115) [.ref x, .str k t, .str y t']) Q E s := by
  refine' call_fnV (binds := [(Str.ofString "self", .ref x), (Str.ofString "node", .str k t)]) (va := Str.ofString "predecessors") (rest := [.str y t']) (n := 7) G B hA ?gho ?ghcd (by simp [sizeLine]) ?ghb ?ghl ?gh ?gc1 ?gc2 ?gc3 ?gc4
  case gho => k_is
  case ghcd => k_is
  case ghb => rfl
  case ghl => intro v; exact locs rfl
  case gc1 => decide
  case gc2 => rfl
  case gc3 => rfl
  case gc4 => rfl
  case gh =>
    intro ta L h₁ A' hA' hta htL hk hT hn hA1
    have D := Led.enter (c := c) (mu := (nd, od) :: segs ns) B hm0 hn hk (Nat.le_trans hta (Nat.le_of_lt htL)) hm hnd
    have D := D.snoc hT (by
      cases q : hid s.heap (((nd, od) :: segs ns).map (·.1)) ta with
      | none => rfl
      | some o => exact absurd (Heap.lt_size (of_hid q).1) (Nat.not_lt.mpr hta)) (Nat.ne_of_lt htL) (by
      intro q
      refine e1_2 (List.mem_map.mp q) ?_
      rintro p hp e
      exact absurd (Heap.lt_size (hm p hp)) (by rw [e]; exact Nat.not_lt.mpr hta))
    rw [List.cons_append] at D
    have dl : ∀ {a o}, s.heap.get? a = some o → a ∉ ((nd, od) :: segs ns).map (·.1) → hid s.heap (((nd, od) :: segs ns).map (·.1)) a = some o := fun e hn => hid_some e hn
    have bx := dl hx hxn
    have bdx := dl hdx hdn
    generalize hid s.heap (((nd, od) :: segs ns).map (·.1)) = g at D dl bx bdx
    have hne : dx ≠ nd := fun q => hdn (by rw [q]; simp)
    wtm_at "go"
    refine wpAny_If ?_
    wtm_at "go"
    refine' ga_own (K := Mine.hd.heap_39 w.params) ?gX (inst_at (D.keep _ _ bx) (D.keep _ _ bdx)) ?g1 ?g2 ?g3 ?g4 ?g5 ?g6 ?_
    wtm_at "gao"
    wtm_at "go"
    refine isnot_none_none ?_
    wtm_at "go"
    rw [if_neg (by simp)]
    wtm_at "go"
    refine' gm_inst (K := Mine.hd.heap_39 w.params) ?gX (inst_at (D.keep _ _ bx) (D.keep _ _ bdx)) ?g1 ?g2 ?g3 ?g4 ?_
    wtm_at "gmi"
    try dsimp only
    wtm_at "go"
    refine gni_led (rest := [(ta, _)]) G (by exact D) (by exact hR) (hA1.mono (by decide)) (D.keep _ _ bx) (D.keep _ _ bdx) hd h2 hne (by omega) ?_
    intro ns1 e1 od1 s2 hev he1 hn1 hd1 hR D hdx1
    try dsimp only
    wtm_at "go"
    rename Led _ _ _ _ _ _ => D
    refine e2_1 (List.append_of_mem he1) ?_
    rintro pre post rfl
    refine wpAny_AugAssign_AttributeAny ?_
    wtm_at "go"
    refine' ga_slot (K := Mine.hd.heap_39 w.params) ?gX (inst_at (led_nd3 D (.head _)) (led_nd3 D (.tail _ (.head _)))) ?g1 ?g2 ?g3 ?g4 ?g5 ?g6 ?g7 ?g8 ?_
    wtm_at "gas"
    wtm_at "go"
    have hTp : IsTpl { cls := .type "tuple", data := .seq [Value.str y t'].toArray } [Value.str y t'] := ⟨0, rfl⟩
    refine P.len_tuple (n := 0) (D.get (.tail _ (List.mem_append_right _ (.head _)))) (by simp) ?_
    refine iadd_int ?_
    have eN : (e1.np + (([Value.str y t'].toArray.size : Nat) : Int)) = e1.np + 1 := by simp
    rw [eN]
    generalize htp : Shared.toks _ = tp
    obtain ⟨e2, he2⟩ : ∃ e2 : Nd, e2 = { e1 with np := e1.np + 1, tp := tp } := ⟨_, rfl⟩
    have U2 : Up e1.a (ndObj e1) (ndObj e2) ((nd, od1) :: (segs (pre ++ e1 :: post) ++ [(ta, { cls := .type "tuple", data := .seq [Value.str y t'].toArray })])) ((nd, od1) :: (segs (pre ++ e2 :: post) ++ [(ta, { cls := .type "tuple", data := .seq [Value.str y t'].toArray })])) := by
      refine .tail (Up.app ?_ _)
      rw [segs_append, segs_append, segs_cons, segs_cons]
      refine Up.pre ?_ (segs pre)
      refine Up.app ?_ _
      subst he2
      exact .head
    refine' sa_slot (K := Mine.hd.heap_39 w.params) D ?gX (inst_at (led_nd3 D (.head _)) (led_nd3 D (.tail _ (.head _)))) ?g1 ?g2 ?g3 ?g4 ?g5 ?g6 ?g7 ?g8 U2 ?_
    case gX => wtm_at "kin"
    case g1 => k_is
    case g2 => k_is
    case g3 => k_is
    case g4 => k_is
    case g5 => k_is
    case g6 => decide
    case g7 => subst he2; rfl
    case g8 => subst he2; rfl
    clear D U2
    intro h₄ D
    try dsimp only
    have hz1 : (pre ++ e1 :: post).length ≤ ns.length + 1 := by
      rcases hev with ⟨q, _⟩ | ⟨q, _⟩ <;> rw [q] <;> simp
    have hev1 : Evo L ns (pre ++ e2 :: post) := Evo.trans (Evo.of_gni hev) (.refl (by subst he2; simp [Nd.ads]))
    have hab1 : (pre ++ e2 :: post).map Nd.ab = bumpA (ensA (ns.map Nd.ab) k) k 1 := by
      rw [← ensA_of hev hn1]
      refine map_one (names_nodup hd1) (fun a ha => if_neg (by rw [← hn1]; exact ha)) ?_
      subst he2
      simp [Nd.ab, hn1]
    have hd2 : od1.IsDictOf (strKind prog w) (kvsOf (pre ++ e2 :: post)) := by
      have : kvsOf (pre ++ e2 :: post) = kvsOf (pre ++ e1 :: post) := by subst he2; simp [kvsOf]
      rw [this]; exact hd1
    have hz2 : (pre ++ e2 :: post).length ≤ ns.length + 1 := by simpa using hz1
    clear hd1 hz1 hev he2 hn1 he1 hdx1
    generalize pre ++ e2 :: post = ns2 at D hev1 hab1 hd2 hz2
    let Post1 : Shared → Prop := fun s' => ∃ (m : Str → Option Value) (ns' : List Nd) (od' : Obj), Led c g L s'.heap m ((nd, od') :: (segs ns' ++ [(ta, { cls := .type "tuple", data := .seq [Value.str y t'].toArray })])) ∧ Rest c s' ∧ od'.IsDictOf (strKind prog w) (kvsOf ns') ∧ Evo L ns ns' ∧ ns'.map Nd.ab = addA (ns.map Nd.ab) k y
    refine seq_cut Post1 ?_ ?_
    · refine wpAny_For ?_ ?_
      rotate_left
      · intro _; rfl
      wtm_at "go"
      refine iter_tuple D (D.get (.tail _ (List.mem_append_right _ (.head _)))) hTp ?_
      intro I h₅ oI hLI D hit
      try dsimp only
      let Post2 : Nat → (Str → Option Value) → List (Addr × Obj) → Prop := fun i m news => ∃ ns' od', news = (nd, od') :: (segs ns' ++ [(ta, { cls := .type "tuple", data := .seq [Value.str y t'].toArray })]) ∧ m (Str.ofString "self") = some (.ref x) ∧ m (Str.ofString "node") = some (.str k t) ∧ od'.IsDictOf (strKind prog w) (kvsOf ns') ∧ Evo L ns ns' ∧ ns'.length ≤ ns.length + 1 + i ∧
        ns'.map Nd.ab = (if i = 0 then bumpA (ensA (ns.map Nd.ab) k) k 1 else addA (ns.map Nd.ab) k y)
      refine for_tuple (c := c) hA1.handled Post2 D ⟨ns2, od1, rfl, rfl, rfl, hd2, hev1, hz2, hab1⟩ (by exact hR) hit (D.get (.tail _ (.tail _ (List.mem_append_right _ (.head _))))) hTp (.inr ?_) ?_ ?_
      · rintro i m' news' hxp
        refine e2_2 hxp ?_
        clear hxp
        rintro ns' od' rfl _
        exact .tail _ (List.mem_append_right _ (.head _))
      · clear D hR hit
        rintro i v m₁ news₁ oI s₅ hv hxp
        refine e2_7 hxp ?_
        clear hxp
        rintro ns' od' rfl e1 e2 hd' hev' hz' hab' D hR
        have hi : i = 0 ∧ v = .str y t' := by
          cases i with
          | zero => simpa using hv.symm
          | succ i => simp at hv
        obtain ⟨rfl, rfl⟩ := hi
        rw [if_pos rfl] at hab'
        have D := D.perm (perm_last (I, oI) (nd, od') (segs ns' ++ [(ta, _)]))
        rw [List.append_assoc] at D
        wtm_at "go"
        rename Led _ _ _ _ _ _ => D
        refine' gm_inst (K := Mine.hd.heap_39 w.params) ?gX (inst_at (D.keep _ _ bx) (D.keep _ _ bdx)) ?g1 ?g2 ?g3 ?g4 ?_
        wtm_at "gmi"
        try dsimp only
        wtm_at "go"
        refine gni_led (rest := [(ta, _)] ++ [(I, oI)]) G (by exact D) (by exact hR) (hA1.mono (by decide)) (D.keep _ _ bx) (D.keep _ _ bdx) hd' h2 hne (by omega) ?_
        intro ns3 e3 od3 s6 hev3 he3 hn3 hd3 hR D hdx3
        try dsimp only
        wtm_at "go"
        rename Led _ _ _ _ _ _ => D
        refine e2_1 (List.append_of_mem he3) ?_
        rintro pre post rfl
        refine' ga_slot (K := Mine.hd.heap_39 w.params) ?gX (inst_at (led_nd3 D (.head _)) (led_nd3 D (.tail _ (.head _)))) ?g1 ?g2 ?g3 ?g4 ?g5 ?g6 ?g7 ?g8 ?_
        wtm_at "gas"
        have hsu : IsLst (sucObj e3) (e3.succ.map fun p => .str p.1 p.2) := ⟨e3.ep, rfl⟩
        refine method_lst (led_nd3 D (.tail _ (.tail _ (.head _)))) hsu PySem.F.slot_list_append PySem.F.type_list_append ?_
        try dsimp only
        wtm_at "go"
        have hab3 := ensA_of hev3 hn3
        have hlen3 : e3.succ.length ≤ 2 ^ 20 := by
          have q : SB ((pre ++ e3 :: post).map Nd.ab) := by
            rw [hab3, hab']
            exact ((hsb.ens k).bump k 1).ens y
          have := q e3.ab (List.mem_map_of_mem (by simp))
          simpa [Nd.ab] using this
        refine append_lst (led_nd3 D (.tail _ (.tail _ (.head _)))) hsu (by rw [sizeLine_eq, List.length_map]; omega) ?_
        intro h₇ o₇ ho₇ hl₇ hs₇
        obtain ⟨n7, rfl⟩ := hl₇
        obtain ⟨e4, he4⟩ : ∃ e4 : Nd, e4 = { e3 with succ := e3.succ ++ [(k, t)], ep := n7 } := ⟨_, rfl⟩
        have D := led_succ (e' := e4) D hs₇ (by rw [ho₇, he4]; simp [sucObj]) (by rw [he4]; rfl) (by rw [he4]; rfl)
        try dsimp only
        wtm_at "go"
        have hev4 : Evo L ns (pre ++ e4 :: post) := Evo.trans (Evo.trans hev' (Evo.of_gni hev3)) (.refl (by subst he4; simp [Nd.ads]))
        have hab4 : (pre ++ e4 :: post).map Nd.ab = addA (ns.map Nd.ab) k y := by
          unfold addA
          rw [← hab', ← hab3]
          refine map_one (names_nodup hd3) (fun a ha => if_neg (by rw [← hn3]; exact ha)) ?_
          subst he4
          simp [Nd.ab, hn3]
        have hd4 : od3.IsDictOf (strKind prog w) (kvsOf (pre ++ e4 :: post)) := by
          have : kvsOf (pre ++ e4 :: post) = kvsOf (pre ++ e3 :: post) := by subst he4; simp [kvsOf]
          rw [this]; exact hd3
        have hz4 : (pre ++ e4 :: post).length ≤ ns.length + 1 + (0 + 1) := by
          have q : (pre ++ e3 :: post).length ≤ ns'.length + 1 := by
            rcases hev3 with ⟨q, _⟩ | ⟨q, _⟩ <;> rw [q] <;> simp
          simp at q hz' ⊢
          omega
        rw [← List.append_assoc] at D
        have D := D.perm (perm_last (I, oI) (nd, od3) (segs (pre ++ e4 :: post) ++ [(ta, _)])).symm
        exact ⟨_, _, D, hR, _, _, rfl, e1, e2, hd4, hev4, hz4, by rw [if_neg (by decide)]; exact hab4⟩
      · clear D hR hit
        rintro m' news' s₅ hxp
        refine e2_7 hxp ?_
        clear hxp
        rintro ns' od' rfl e1 e2 hd' hev' hz' hab' D hR
        exact ⟨rfl, _, _, _, D, hR, hd', hev', by rw [if_neg (by simp)] at hab'; exact hab'⟩
    · clear D hR
      rintro s₂ hxp
      refine e3_5 hxp ?_
      clear hxp
      rintro m ns' od' D hR hd' hev' hab'
      wtm_at "go"
      have DN := D.ofMem (news' := (nd, od') :: segs ns') (by
        intro p hp
        rcases List.mem_cons.mp hp with rfl | hp
        · exact .head _
        · exact .tail _ (List.mem_append_left _ hp)) (by
        have := D.ndn
        rw [List.map_cons, List.nodup_cons, List.map_append, List.nodup_append, List.mem_append] at this
        rw [List.map_cons, List.nodup_cons]
        exact ⟨fun q => this.1 (.inl q), this.2.1⟩)
      refine h ns' od' _ L (Nat.le_trans hta (Nat.le_of_lt htL)) hev' hab' hd' hR (fun b o hb e => D.keep _ _ (dl e hb)) (fun p hp => DN.get hp) DN.ndn
end


-- part SR5
section
variable {prog : Program} {w : World} {A : Around} {E : Value → Shared → Prop} {s : Shared} {c : Cx} {g : PM} {L : Addr} {m : Str → Option Value} {news : List (Addr × Obj)}
theorem new_srt (G : Glo (Mine.hd.heap_39 w.params) c.h0) (D : Led c g L s.heap m news) (hR : Rest c s) (hA : AOk A 3) {Q : Value → Shared → Prop}
    (h : ∀ x dx nd ts t1 t2 od s', Rest c s' → L < dx → L < x → L < nd → od.IsDictOf (strKind prog w) [] → Led c g L s'.heap m ((x, instObj 165 dx) :: (dx, srtD w ts nd .none (.int 0 t1) (.int 0 t2)) :: (nd, od) :: news) → Q (.ref x) s') :
    wpAny (model prog w) A (call (.ref 165) []) Q E s := by
  refine new_inst (K := Mine.hd.heap_39 w.params) (fI := 101) D (G.k.keeps D.kb) (by k_is) (by k_is) (by k_is) ?_
  intro x dx h' l1 l2 D1
  refine' code_fn (binds := [(Str.ofString "self", .ref x), (Str.ofString "graph", .none)]) (n := 1) G D1.kb (AOk.make (n := 2) hA 165 [] []) ?gho ?ghcd ?ghb ?ghl ?gh ?gc1 ?gc2 ?gc3 ?gc4
  case gho => k_is
  case ghcd => k_is
  case ghb => exact binds_K (K := Mine.hd.heap_39 w.params) (by exact G.k.keeps D1.kb) rfl (by k_is) rfl rfl rfl
  case ghl => exact locs rfl
  case gc1 => decide
  case gc2 => rfl
  case gc3 => rfl
  case gc4 => rfl
  case gh =>
    intro L2 h₁ A' hA' hL hk hn hA1
    have D2 := Led.enter (c := c) (mu := [(dx, dictOf [] 0)]) D1.kb (by intro p hp; rw [List.mem_singleton.mp hp]; exact led_ne D1 (.tail _ (.head _))) hn hk hL (by
      intro p hp
      rw [List.mem_singleton.mp hp]; exact D1.get (.tail _ (.head _))) (by simp)
    have bx : hid h' [dx] x = some (instObj 165 dx) := hid_some (D1.get (.head _)) (by simp; exact Nat.ne_of_gt l2)
    wtm_at "go"
    refine new_dict (strKind prog w) D2 ?_
    intro nd h₂ od hnd D3 hd
    try dsimp only
    wtm_at "go"
    refine' sa_dict (K := Mine.hd.heap_39 w.params) D3 ?gX (inst_at (D3.keep _ _ bx) (D3.get (.tail _ (.head _)))) rfl ?g1 ?g2 ?g3 ?g4 ?g5 ?g6 (Up.tail Up.head) ?g8 ?_
    wtm_at "sad"
    intro h₃ D4
    try dsimp only
    wtm_at "go"
    refine' sa_dict (K := Mine.hd.heap_39 w.params) D4 ?gX (inst_at (D4.keep _ _ bx) (D4.get (.tail _ (.head _)))) rfl ?g1 ?g2 ?g3 ?g4 ?g5 ?g6 (Up.tail Up.head) ?g8 ?_
    wtm_at "sad"
    intro h₄ D5
    try dsimp only
    wtm_at "go"
    refine' sa_dict (K := Mine.hd.heap_39 w.params) D5 ?gX (inst_at (D5.keep _ _ bx) (D5.get (.tail _ (.head _)))) rfl ?g1 ?g2 ?g3 ?g4 ?g5 ?g6 (Up.tail Up.head) ?g8 ?_
    wtm_at "sad"
    intro h₅ D6
    try dsimp only
    wtm_at "go"
    refine' sa_dict (K := Mine.hd.heap_39 w.params) D6 ?gX (inst_at (D6.keep _ _ bx) (D6.get (.tail _ (.head _)))) rfl ?g1 ?g2 ?g3 ?g4 ?g5 ?g6 (Up.tail Up.head) ?g8 ?_
    wtm_at "sad"
    intro h₆ D7
    try dsimp only
    wtm_at "go"
    refine wpAny_If ?_
    wtm_at "go"
    refine isnot_none_none ?_
    wtm_at "go"
    rw [if_neg (by simp)]
    wtm_at "go"
    refine ⟨rfl, ?_⟩
    obtain ⟨ts, t1, t2, hx7⟩ : ∃ ts t1 t2, h₆.get? dx = some (srtD w ts nd .none (.int 0 t1) (.int 0 t2)) := ⟨(_, _, _, _), _, _, D7.get (.tail _ (.head _))⟩
    have hsz : h'.objs.size ≤ nd := Nat.le_trans hL (Nat.le_of_lt hnd)
    have hLs : L < h'.objs.size := D1.ns.lt
    have D8 := D1.callBut (h' := h₆) (as := [dx]) (news' := (x, instObj 165 dx) :: (dx, srtD w ts nd .none (.int 0 t1) (.int 0 t2)) :: news) (add := [(nd, od)]) (fun b o hb e => D7.keep _ _ (hid_some e hb)) (by
      intro b hb
      rw [List.mem_singleton.mp hb]
      exact ⟨D1.neL (p := (dx, _)) (.tail _ (.head _)), (D1.own (dx, _) (.tail _ (.head _))).2⟩) rfl (by
      intro p hp
      rcases List.mem_cons.mp hp with rfl | hp
      · exact D7.keep _ _ bx
      · rcases List.mem_cons.mp hp with rfl | hp
        · exact hx7
        · exact D7.keep _ _ (hid_some (D1.get (.tail _ (.tail _ hp))) (by
            intro q
            have := (List.nodup_cons.mp (List.nodup_cons.mp D1.ndn).2).1
            exact this (List.mem_map.mpr ⟨p, hp, List.mem_singleton.mp q⟩)))) (by
      intro p hp
      rw [List.mem_singleton.mp hp]; exact hsz) (by
      intro p hp
      rw [List.mem_singleton.mp hp]; exact D7.get (.head _)) (by simp)
    refine h x dx nd ts t1 t2 od _ hR l1 (Nat.lt_trans l1 l2) (Nat.lt_of_lt_of_le hLs hsz) hd ?_
    refine D8.perm ?_
    exact (List.perm_append_comm (l₁ := [(nd, od)]) (l₂ := [(x, _), (dx, _)])).append_right news
end


-- part SR6
theorem meets_bool_list (l : Addr) (items : Array Value) (hfit : (items.size : Int) < 2 ^ 63) :
    Meets (Builtin.«bool.__new__» ⟨[.type "bool", .ref l], []⟩) (fun A R s => s.heap.IsList l items ∧ R (.ok (.ret (.bool (!items.isEmpty)))) { s with toks := s.toks + 1 + 1 }) :=
  Meets.of_wp fun prog w A R s hs => by
    obtain ⟨hp, g, d, tk, os⟩ := s
    obtain ⟨hl, hs⟩ := hs
    have f1 := F.conv_sub_bool
    repeat (any_goals (first | assumption | (with_reducible refine wpAny_truthy_list hl hfit ?_) | wp_step))
    all_goals first | exact ⟨_, rfl, hs⟩ | exact hs | skip
section
variable {prog : Program} {w : World} {A : Around} {E : Value → Shared → Prop} {s : Shared} {c : Cx}
theorem call_bool_lst {l : Addr} {o : Obj} {vs : List Value} {Q : Value → Shared → Prop} (ho : s.heap.get? l = some o) (hl : IsLst o vs) (hz : vs.length < 2 ^ 60) (h : Q (.bool (!vs.isEmpty)) { s with toks := s.toks + 1 + 1 }) :
    wpAny (model prog w) A (call (.type "bool") [.ref l]) Q E s :=
  call_bool_1 (meets_bool_list l vs.toArray (by rw [List.size_toArray]; omega)) ⟨IsLst.isList ho hl, rfl, by simpa using h⟩
theorem is_active_spec (G : Glo (Mine.hd.heap_39 w.params) c.h0) (B : Keep c.h0 s.heap) (hR : Rest c s) (hA : AOk A 2) {x dx nd rl : Addr} {ts : Tok × Tok × Tok × Tok} {po nf : Int} {tp tf : Tok} {orl : Obj} {rs : List Value} {Q : Value → Shared → Prop}
    (hx : s.heap.get? x = some (instObj 165 dx)) (hdx : s.heap.get? dx = some (srtD w ts nd (.ref rl) (.int po tp) (.int nf tf))) (hrl : s.heap.get? rl = some orl) (hr : IsLst orl rs) (hz : rs.length < 2 ^ 60)
    (h : ∀ s', Rest c s' → Keep s.heap s'.heap → Q (.bool (decide (nf < po) || !rs.isEmpty)) s') :
    wpAny (model prog w) A (call (.ref 134) [.ref x]) Q E s := by
  refine' call_fn (binds := [(Str.ofString "self", .ref x)]) (n := 1) G B hA ?gho ?ghcd ?ghb ?ghl ?gh ?gc1 ?gc2 ?gc3 ?gc4
  wtm_at "ent"
  case gh =>
    intro L h₁ A' hA' hL hk hn hA1
    have D := Led.enter0 (c := c) B hn hk hL
    wtm_at "go"
    refine wpAny_If ?_
    wtm_at "go"
    refine' ga_own (K := Mine.hd.heap_39 w.params) ?gX (inst_at (D.keep _ _ hx) (D.keep _ _ hdx)) ?g1 ?g2 ?g3 ?g4 ?g5 ?g6 ?_
    wtm_at "gao"
    wtm_at "go"
    refine is_ref_none ?_
    wtm_at "go"
    rw [if_neg (by simp)]
    wtm_at "go"
    refine BoolOp_or ?_
    wtm_at "go"
    refine' ga_own (K := Mine.hd.heap_39 w.params) ?gX (inst_at (D.keep _ _ hx) (D.keep _ _ hdx)) ?g1 ?g2 ?g3 ?g4 ?g5 ?g6 ?_
    wtm_at "gao"
    wtm_at "go"
    refine' ga_own (K := Mine.hd.heap_39 w.params) ?gX (inst_at (D.keep _ _ hx) (D.keep _ _ hdx)) ?g1 ?g2 ?g3 ?g4 ?g5 ?g6 ?_
    wtm_at "gao"
    wtm_at "go"
    by_cases hlt : nf < po
    · rw [if_pos (decide_eq_true hlt)]
      have h' : ∀ s', Rest c s' → Keep s.heap s'.heap → Q (.bool true) s' := by simpa [hlt] using h
      rw [decide_eq_true hlt]
      exact h' _ hR D.keep
    · rw [if_neg (fun q => hlt (of_decide_eq_true q))]
      refine BoolOp_one ?_
      wtm_at "go"
      refine' ga_own (K := Mine.hd.heap_39 w.params) ?gX (inst_at (D.keep _ _ hx) (D.keep _ _ hdx)) ?g1 ?g2 ?g3 ?g4 ?g5 ?g6 ?_
      wtm_at "gao"
      wtm_at "go"
      refine call_bool_lst (D.keep _ _ hrl) hr hz ?_
      have h' : ∀ s', Rest c s' → Keep s.heap s'.heap → Q (.bool (!rs.isEmpty)) s' := by simpa [hlt] using h
      exact h' _ hR D.keep
end


-- part SR7
def outA (l : List Ab) (ks : List Str) : List Ab := l.map fun e => if e.1 ∈ ks then (e.1, -1, e.2.2) else e
theorem kvs_same : ∀ {ns ns' : List Nd}, ns'.map Nd.ads = ns.map Nd.ads → ns'.map Nd.name = ns.map Nd.name → kvsOf ns' = kvsOf ns
  | [], [], _, _ => rfl
  | [], _ :: _, h, _ => by cases h
  | _ :: _, [], h, _ => by cases h
  | e :: r, e' :: r', h, q => by
    rw [List.map_cons, List.map_cons] at h q
    injection h with h1 h2
    injection q with q1 q2
    have h3 : e'.a = e.a := by unfold Nd.ads at h1; simp at h1; exact h1.1
    have := kvs_same h2 q2
    unfold kvsOf at this ⊢
    rw [List.map_cons, List.map_cons, this, q1, h3]
theorem ab_names (ns : List Nd) : (ns.map Nd.ab).map (·.1) = ns.map Nd.name := by simp [Nd.ab, List.map_map, Function.comp_def]
theorem outA_names (l : List Ab) (ks : List Str) : (outA l ks).map (·.1) = l.map (·.1) := by
  unfold outA
  rw [List.map_map]
  refine List.map_congr_left fun a _ => ?_
  simp only [Function.comp]
  split <;> rfl
theorem outA_snoc (l : List Ab) (ks : List Str) (k : Str) : outA l (ks ++ [k]) = (outA l ks).map fun e => if e.1 = k then (e.1, -1, e.2.2) else e := by
  unfold outA
  rw [List.map_map]
  refine List.map_congr_left fun a _ => ?_
  simp only [Function.comp, List.mem_append, List.mem_singleton]
  by_cases h1 : a.1 ∈ ks
  · rw [if_pos (.inl h1), if_pos h1]
    split <;> rfl
  · by_cases h2 : a.1 = k
    · rw [if_pos (.inr h2), if_neg h1, if_pos h2]
    · rw [if_neg (by rintro (q | q); exact h1 q; exact h2 q), if_neg h1, if_neg h2]
theorem names_of {ns ns' : List Nd} {ks : List Str} (h : ns'.map Nd.ab = outA (ns.map Nd.ab) ks) : ns'.map Nd.name = ns.map Nd.name := by
  rw [← ab_names, h, outA_names, ab_names]
def strVs (rs : List (Str × Tok)) : List Value := rs.map fun p => .str p.1 p.2
section
variable {c : Cx} {g : PM} {L : Addr} {h h' : Heap} {m : Str → Option Value} {fr : List (Addr × Obj)} {pre post : List Nd} {rest : List (Addr × Obj)} {e e' : Nd}
theorem up_node (ha : e'.ads = e.ads) (hss : sucObj e' = sucObj e) (fr rest : List (Addr × Obj)) (pre post : List Nd) : Up e.a (ndObj e) (ndObj e') (fr ++ (segs (pre ++ e :: post) ++ rest)) (fr ++ (segs (pre ++ e' :: post) ++ rest)) := by
  have ha' : e'.a = e.a ∧ e'.d = e.d ∧ e'.sa = e.sa := by unfold Nd.ads at ha; simpa using ha
  refine Up.pre (Up.app ?_ rest) fr
  rw [segs_append, segs_append, segs_cons, segs_cons]
  refine Up.pre ?_ (segs pre)
  refine Up.app ?_ _
  unfold nd3
  rw [ha'.1, ha'.2.1, ha'.2.2, hss]
  exact .head
theorem ledF_nd3 (D : Led c g L h m (fr ++ (segs (pre ++ e :: post) ++ rest))) {p : Addr × Obj} (hp : p ∈ nd3 e) : h.get? p.1 = some p.2 :=
  D.get (List.mem_append_right _ (List.mem_append_left _ (mem_segs (by simp) hp)))
end
theorem clear_lst {prog : Program} {w : World} {A : Around} {E : Value → Shared → Prop} {s : Shared} {l : Addr} {o : Obj} {vs : List Value} {Q : Value → Shared → Prop} (ho : s.heap.get? l = some o) (hl : IsLst o vs) (hz : vs.length ≤ sizeLine)
    (h : ∀ h' o', h'.get? l = some o' → IsLst o' [] → Heap.ExtBut l s.heap h' → Q .none { s with heap := h' }) : wpAny (model prog w) A (call (.builtin "list.clear") [.ref l]) Q E s := by
  obtain ⟨n, hL⟩ := IsLst.isL ho hl
  refine e1_2 (IsLst.upd ho hl (fun _ => #[])) ?_
  rintro o' ho' hl'
  exact call_meets PySem.F.slot_list_clear ⟨_, hL, rfl⟩ PySem.F.entry_list_clear (PySem.F.args_list_clear_1 _) (PySem.AutoSeq1.list_clear_list_0 l _ n (by rw [List.size_toArray]; exact hz)) ⟨hL, h _ o' ho' (by simpa using hl') (Heap.SameBut.update ..).extBut⟩
section
variable {prog : Program} {w : World} {A : Around} {E : Value → Shared → Prop} {s : Shared} {c : Cx} {g : PM} {L : Addr} {m : Str → Option Value} {news : List (Addr × Obj)}
theorem tuple_list {l : Addr} {o : Obj} {vs : List Value} {Q : Value → Shared → Prop} (D : Led c g L s.heap m news) (ho : s.heap.get? l = some o) (hl : IsLst o vs) (hz : vs.length ≤ sizeLine)
    (h : ∀ ta h' o' tk, L < ta → Led c g L h' m ((ta, o') :: news) → IsTpl o' vs → Q (.ref ta) { s with heap := h', toks := tk }) : wpAny (model prog w) A (call (.type "tuple") [.ref l]) Q E s := by
  refine call_tuple_list (IsLst.isList ho hl) (fun h' hk => ?_) (by rw [List.size_toArray]; exact hz)
  have D1 := (D.after hk).push { cls := .type "tuple", data := .seq vs.toArray }
  exact h _ _ _ s.toks (D.after hk).ltL D1 ⟨0, rfl⟩
theorem get_ready_spec (G : Glo (Mine.hd.heap_39 w.params) c.h0) (B : Keep c.h0 s.heap) (hR : Rest c s) (hA : AOk A 3) {x dx nd rl : Addr} {ts : Tok × Tok × Tok × Tok} {po nf : Int} {tp tf : Tok} {od orl : Obj} {ns : List Nd} {rs : List (Str × Tok)} {Q : Value → Shared → Prop}
    (hm : ∀ p ∈ (dx, srtD w ts nd (.ref rl) (.int po tp) (.int nf tf)) :: (segs ns ++ [(rl, orl)]), s.heap.get? p.1 = some p.2) (hnd : (((dx, srtD w ts nd (.ref rl) (.int po tp) (.int nf tf)) :: (segs ns ++ [(rl, orl)])).map (·.1)).Nodup)
    (hm0 : ∀ p ∈ (dx, srtD w ts nd (.ref rl) (.int po tp) (.int nf tf)) :: (segs ns ++ [(rl, orl)]), c.h0.get? p.1 = none)
    (hx : s.heap.get? x = some (instObj 165 dx)) (hxn : x ∉ ((dx, srtD w ts nd (.ref rl) (.int po tp) (.int nf tf)) :: (segs ns ++ [(rl, orl)])).map (·.1))
    (hdd : s.heap.get? nd = some od) (hddn : nd ∉ ((dx, srtD w ts nd (.ref rl) (.int po tp) (.int nf tf)) :: (segs ns ++ [(rl, orl)])).map (·.1)) (hd : od.IsDictOf (strKind prog w) (kvsOf ns))
    (hr : IsLst orl (strVs rs)) (hrs : ∀ p ∈ rs, ∃ e ∈ ns, e.name = p.1) (hz : rs.length ≤ 2 ^ 20)
    (h : ∀ (ns' : List Nd) ta ota orl' ts' tp' s', s.heap.objs.size ≤ ta → s'.heap.get? ta = some ota → IsTpl ota (strVs rs) → IsLst orl' [] → ns'.map Nd.ads = ns.map Nd.ads → ns'.map Nd.ab = outA (ns.map Nd.ab) (rs.map (·.1)) → Rest c s' →
      (∀ b o, b ∉ ((dx, srtD w ts nd (.ref rl) (.int po tp) (.int nf tf)) :: (segs ns ++ [(rl, orl)])).map (·.1) → s.heap.get? b = some o → s'.heap.get? b = some o) →
      (∀ p ∈ (dx, srtD w ts' nd (.ref rl) (.int (po + (rs.length : Int)) tp') (.int nf tf)) :: (segs ns' ++ [(rl, orl')]), s'.heap.get? p.1 = some p.2) → Q (.ref ta) s') :
    wpAny (model prog w) A (call (.ref 127) [.ref x]) Q E s := by
  refine' call_fn (binds := [(Str.ofString "self", .ref x)]) (n := 2) G B hA ?gho ?ghcd ?ghb ?ghl ?gh ?gc1 ?gc2 ?gc3 ?gc4
  wtm_at "ent"
  case gh =>
    intro L h₁ A' hA' hL hk hn hA1
    have D := Led.enter (c := c) (mu := (dx, srtD w ts nd (.ref rl) (.int po tp) (.int nf tf)) :: (segs ns ++ [(rl, orl)])) B hm0 hn hk hL hm hnd
    have dl : ∀ {a o}, s.heap.get? a = some o → a ∉ ((dx, srtD w ts nd (.ref rl) (.int po tp) (.int nf tf)) :: (segs ns ++ [(rl, orl)])).map (·.1) → hid s.heap (((dx, srtD w ts nd (.ref rl) (.int po tp) (.int nf tf)) :: (segs ns ++ [(rl, orl)])).map (·.1)) a = some o := fun e hn => hid_some e hn
    have bx := dl hx hxn
    have bnd := dl hdd hddn
    generalize hid s.heap _ = g at D dl bx bnd
    wtm_at "go"
    refine wpAny_If ?_
    wtm_at "go"
    refine' ga_own (K := Mine.hd.heap_39 w.params) ?gX (inst_at (D.keep _ _ bx) (D.get (.head _))) ?g1 ?g2 ?g3 ?g4 ?g5 ?g6 ?_
    wtm_at "gao"
    wtm_at "go"
    refine is_ref_none ?_
    wtm_at "go"
    rw [if_neg (by simp)]
    wtm_at "go"
    refine' ga_own (K := Mine.hd.heap_39 w.params) ?gX (inst_at (D.keep _ _ bx) (D.get (.head _))) ?g1 ?g2 ?g3 ?g4 ?g5 ?g6 ?_
    wtm_at "gao"
    wtm_at "go"
    refine tuple_list D (D.get (.tail _ (List.mem_append_right _ (.head _)))) hr (by rw [sizeLine_eq]; simp [strVs]; omega) ?_
    intro ta h₂ ota tk2 hta D hTp
    try dsimp only
    wtm_at "go"
    rename Led _ _ _ _ _ _ => D
    refine' ga_own (K := Mine.hd.heap_39 w.params) ?gX (inst_at (D.keep _ _ bx) (D.get (.tail _ (.head _)))) ?g1 ?g2 ?g3 ?g4 ?g5 ?g6 ?_
    wtm_at "gao"
    wtm_at "go"
    rename Led _ _ _ _ _ _ => D
    have D := D.perm (news' := (ta, ota) :: (segs ns ++ [(rl, orl), (dx, srtD w ts nd (.ref rl) (.int po tp) (.int nf tf))])) (by
      refine List.Perm.cons _ ?_
      have q := (List.perm_append_singleton (dx, srtD w ts nd (.ref rl) (.int po tp) (.int nf tf)) (segs ns ++ [(rl, orl)])).symm
      simpa using q)
    refine exec_cut (fun s' => ∃ (m : Str → Option Value) (ns' : List Nd), Led c g L s'.heap m ((ta, ota) :: (segs ns' ++ [(rl, orl), (dx, srtD w ts nd (.ref rl) (.int po tp) (.int nf tf))])) ∧ Rest c s' ∧ m (Str.ofString "self") = some (.ref x) ∧ m (Str.ofString "result") = some (.ref ta) ∧ ns'.map Nd.ads = ns.map Nd.ads ∧ ns'.map Nd.ab = outA (ns.map Nd.ab) (rs.map (·.1))) ?_ ?_
    · refine wpAny_For ?_ ?_
      rotate_left
      · intro _; rfl
      wtm_at "go"
      refine iter_tuple D (D.get (.head _)) hTp ?_
      intro I h₅ oI hLI D hit
      try dsimp only
      refine for_tuple (c := c) hA1.handled (fun i m news => ∃ ns', news = (ta, ota) :: (segs ns' ++ [(rl, orl), (dx, srtD w ts nd (.ref rl) (.int po tp) (.int nf tf))]) ∧ m (Str.ofString "self") = some (.ref x) ∧ m (Str.ofString "result") = some (.ref ta) ∧ m (Str.ofString "n2i") = some (.ref nd) ∧ ns'.map Nd.ads = ns.map Nd.ads ∧
        ns'.map Nd.ab = outA (ns.map Nd.ab) ((rs.map (·.1)).take i)) D ⟨ns, rfl, rfl, rfl, rfl, rfl, ?_⟩ (by exact hR) hit (D.get (.tail _ (.head _))) hTp (.inr ?_) ?_ ?_
      · simp [outA]
      · rintro i m' news' hxp
        refine e1_2 hxp ?_
        clear hxp
        rintro ns' rfl _
        exact .head _
      · clear D hR hit
        rintro i v m₁ news₁ oI s₅ hv hxp
        refine e1_6 hxp ?_
        clear hxp
        rintro ns' rfl e1 e2 e3 had hab D hR
        obtain ⟨⟨k, t⟩, hk, rfl⟩ : ∃ p : Str × Tok, rs[i]? = some p ∧ v = .str p.1 p.2 := by
          unfold strVs at hv
          rw [List.getElem?_map] at hv
          cases q : rs[i]? with
          | none => rw [q] at hv; cases hv
          | some p => rw [q] at hv; exact ⟨p, rfl, by simpa using hv.symm⟩
        have hnm := names_of hab
        have hd' : od.IsDictOf (strKind prog w) (kvsOf ns') := by rw [kvs_same had hnm]; exact hd
        obtain ⟨e, he, hek⟩ : ∃ e ∈ ns', e.name = k := by
          refine e1_2 (hrs _ (List.mem_of_getElem? hk)) ?_
          rintro e0 h0 q0
          have : k ∈ ns'.map Nd.name := by rw [hnm]; exact List.mem_map.mpr ⟨e0, h0, q0⟩
          refine e1_2 (List.mem_map.mp this) ?_
          rintro e he q
          exact ⟨e, he, q⟩
        have hnd' := names_nodup hd'
        have hval := valueAt_mem hnd' he
        rw [hek] at hval
        wtm_at "go"
        rename Led _ _ _ _ _ _ => D
        refine dict_get (strKind_is prog w k t) (D.keep _ _ bnd) hd' hval ?_
        try dsimp only
        wtm_at "go"
        refine e2_1 (List.append_of_mem he) ?_
        rintro pre post rfl
        obtain ⟨e', he'⟩ : ∃ e' : Nd, e' = { e with np := -1, tp := 239 } := ⟨_, rfl⟩
        have U := up_node (e := e) (e' := e') (by rw [he']; rfl) (by rw [he']; rfl) [(I, oI), (ta, ota)] [(rl, orl), (dx, srtD w ts nd (.ref rl) (.int po tp) (.int nf tf))] pre post
        have D' : Led _ _ _ _ _ ([(I, oI), (ta, ota)] ++ (segs (pre ++ e :: post) ++ [(rl, orl), (dx, srtD w ts nd (.ref rl) (.int po tp) (.int nf tf))])) := D
        refine' sa_slot (K := Mine.hd.heap_39 w.params) D' ?gX (inst_at (ledF_nd3 D' (.head _)) (ledF_nd3 D' (.tail _ (.head _)))) ?g1 ?g2 ?g3 ?g4 ?g5 ?g6 ?g7 ?g8 U ?_
        case gX => wtm_at "kin"
        case g1 => k_is
        case g2 => k_is
        case g3 => k_is
        case g4 => k_is
        case g5 => k_is
        case g6 => decide
        case g7 => subst he'; rfl
        case g8 => subst he'; rfl
        clear D D' U
        intro h₆ D
        try dsimp only
        wtm_at "go"
        refine ⟨_, _, D, hR, pre ++ e' :: post, rfl, e1, e2, e3, ?_, ?_⟩
        · rw [← had]; subst he'; simp [Nd.ads]
        · have hks : (rs.map (·.1)).take (i + 1) = (rs.map (·.1)).take i ++ [k] := by
            rw [List.take_add_one, List.getElem?_map, hk]; rfl
          rw [hks, outA_snoc, ← hab]
          refine map_one hnd' (fun a ha => if_neg (by rw [← hek]; exact ha)) ?_
          subst he'
          simp [Nd.ab, hek]
      · clear D hR hit
        rintro m' news' s₅ hxp
        refine e1_6 hxp ?_
        clear hxp
        rintro ns' rfl e1 e2 e3 had hab D hR
        refine ⟨rfl, _, _, D, hR, e1, e2, had, ?_⟩
        rw [hab, List.take_of_length_le (by simp [strVs])]
    · clear D hR
      rintro s₂ hxp
      refine e2_6 hxp ?_
      clear hxp
      rintro m ns' D hR e1 e2 had hab
      wtm_at "go"
      refine' ga_own (K := Mine.hd.heap_39 w.params) ?gX (inst_at (D.keep _ _ bx) (D.get (.tail _ (List.mem_append_right _ (.tail _ (.head _)))))) ?g1 ?g2 ?g3 ?g4 ?g5 ?g6 ?_
      wtm_at "gao"
      refine method_lst (D.get (.tail _ (List.mem_append_right _ (.head _)))) hr PySem.F.slot_list_clear PySem.F.type_list_clear ?_
      try dsimp only
      wtm_at "go"
      refine clear_lst (D.get (.tail _ (List.mem_append_right _ (.head _)))) hr (by rw [sizeLine_eq]; simp [strVs]; omega) ?_
      intro h₆ orl' ho6 hr6 hx6
      have U : Up rl orl orl' ((ta, ota) :: (segs ns' ++ [(rl, orl), (dx, srtD w ts nd (.ref rl) (.int po tp) (.int nf tf))])) ((ta, ota) :: (segs ns' ++ [(rl, orl'), (dx, srtD w ts nd (.ref rl) (.int po tp) (.int nf tf))])) := .tail (Up.pre .head _)
      have D := D.upd U hx6 ho6
      try dsimp only
      wtm_at "go"
      rename Led _ _ _ _ _ _ => D
      refine wpAny_AugAssign_AttributeAny ?_
      wtm_at "go"
      refine' ga_own (K := Mine.hd.heap_39 w.params) ?gX (inst_at (D.keep _ _ bx) (D.get (.tail _ (List.mem_append_right _ (.tail _ (.head _)))))) ?g1 ?g2 ?g3 ?g4 ?g5 ?g6 ?_
      wtm_at "gao"
      wtm_at "go"
      obtain ⟨nT, rfl⟩ := hTp
      refine P.len_tuple (n := nT) (D.get (.head _)) (by rw [List.size_toArray]; simp [strVs]; omega) ?_
      refine iadd_int ?_
      have eN : (po + ((((strVs rs).toArray.size : Nat)) : Int)) = po + (rs.length : Int) := by simp [strVs]
      rw [eN]
      generalize htp : Shared.toks _ = tp'
      have U2 : ∀ oo : Obj, Up dx (srtD w ts nd (.ref rl) (.int po tp) (.int nf tf)) (srtD w ts nd (.ref rl) (.int (po + (rs.length : Int)) tp') (.int nf tf)) ((ta, oo) :: (segs ns' ++ [(rl, orl'), (dx, srtD w ts nd (.ref rl) (.int po tp) (.int nf tf))])) ((ta, oo) :: (segs ns' ++ [(rl, orl'), (dx, srtD w ts nd (.ref rl) (.int (po + (rs.length : Int)) tp') (.int nf tf))])) := fun _ => .tail (Up.pre (.tail .head) _)
      refine' sa_dict (K := Mine.hd.heap_39 w.params) D ?gX (inst_at (D.keep _ _ bx) (D.get (.tail _ (List.mem_append_right _ (.tail _ (.head _)))))) rfl ?g1 ?g2 ?g3 ?g4 ?g5 ?g6 (U2 _) ?g8 ?_
      wtm_at "sad"
      clear D U2
      intro h₈ D
      try dsimp only
      wtm_at "go"
      refine h ns' ta _ orl' ts tp' _ (Nat.le_trans hL (Nat.le_of_lt hta)) (D.get (.head _)) ⟨nT, rfl⟩ hr6 had hab hR (fun b o hb e => D.keep _ _ (dl e hb)) (fun p hp => ?_)
      rcases List.mem_cons.mp hp with rfl | hp
      · exact D.get (.tail _ (List.mem_append_right _ (.tail _ (.head _))))
      · rcases List.mem_append.mp hp with hp | hp
        · exact D.get (.tail _ (List.mem_append_left _ hp))
        · rw [List.mem_singleton.mp hp]
          exact D.get (.tail _ (List.mem_append_right _ (.head _)))
end


-- part SR8
def npOf (l : List Ab) (k : Str) : Int := match l.find? (fun e => decide (e.1 = k)) with | some e => e.2.1 | none => 0
def suOf (l : List Ab) (k : Str) : List Str := match l.find? (fun e => decide (e.1 = k)) with | some e => e.2.2 | none => []
def setA (l : List Ab) (k : Str) (n : Int) : List Ab := l.map fun e => if e.1 = k then (e.1, n, e.2.2) else e
def decA (st : List Ab × List Str) (y : Str) : List Ab × List Str := (bumpA st.1 y (-1), if npOf (bumpA st.1 y (-1)) y = 0 then st.2 ++ [y] else st.2)
def don1 (st : List Ab × List Str) (k : Str) : List Ab × List Str := (suOf st.1 k).foldl decA (setA st.1 k (-2), st.2)
def doneA (st : List Ab × List Str) (ks : List Str) : List Ab × List Str := ks.foldl don1 st
theorem len_decs (ys : List Str) (st : List Ab × List Str) : st.2.length ≤ (ys.foldl decA st).2.length := by
  induction ys generalizing st with
  | nil => exact Nat.le_refl _
  | cons y r ih =>
    refine Nat.le_trans ?_ (ih _)
    unfold decA
    dsimp only
    split <;> simp
theorem len_done (ks : List Str) (st : List Ab × List Str) : st.2.length ≤ (doneA st ks).2.length := by
  induction ks generalizing st with
  | nil => exact Nat.le_refl _
  | cons k r ih => exact Nat.le_trans (len_decs (suOf st.1 k) (setA st.1 k (-2), st.2)) (ih (don1 st k))
theorem fold_take {α β : Type} (f : β → α → β) (l : List α) (b : β) (i : Nat) : l.foldl f b = (l.drop i).foldl f ((l.take i).foldl f b) := by
  rw [← List.foldl_append, List.take_append_drop]
theorem fold_snoc {α β : Type} (f : β → α → β) (l : List α) (b : β) {i : Nat} {a : α} (h : l[i]? = some a) : (l.take (i + 1)).foldl f b = f ((l.take i).foldl f b) a := by
  rw [List.take_add_one, h]
  simp [List.foldl_append]
def Nd.fix (e : Nd) : Str × Tok × Addr × Addr × Addr × List (Str × Tok) × Nat := (e.name, e.tn, e.a, e.d, e.sa, e.succ, e.ep)
theorem fix_ads {ns ns' : List Nd} (h : ns'.map Nd.fix = ns.map Nd.fix) : ns'.map Nd.ads = ns.map Nd.ads := by
  have := congrArg (List.map fun x : Str × Tok × Addr × Addr × Addr × List (Str × Tok) × Nat => (x.2.2.1, x.2.2.2.1, x.2.2.2.2.1)) h
  rw [List.map_map, List.map_map] at this
  exact this
theorem fix_names {ns ns' : List Nd} (h : ns'.map Nd.fix = ns.map Nd.fix) : ns'.map Nd.name = ns.map Nd.name := by
  have := congrArg (List.map fun x : Str × Tok × Addr × Addr × Addr × List (Str × Tok) × Nat => x.1) h
  simpa [List.map_map, Function.comp_def, Nd.fix] using this
theorem fix_kvs {ns ns' : List Nd} (h : ns'.map Nd.fix = ns.map Nd.fix) : kvsOf ns' = kvsOf ns := kvs_same (fix_ads h) (fix_names h)
theorem fix_mem {ns ns' : List Nd} (h : ns'.map Nd.fix = ns.map Nd.fix) {e : Nd} (he : e ∈ ns) : ∃ e' ∈ ns', e'.fix = e.fix := by
  have : e.fix ∈ ns'.map Nd.fix := by rw [h]; exact List.mem_map_of_mem he
  refine e1_2 (List.mem_map.mp this) ?_
  rintro e' h1 h2
  exact ⟨e', h1, h2⟩
theorem fix_eq {e e' : Nd} (h : e'.fix = e.fix) : e'.name = e.name ∧ e'.a = e.a ∧ e'.sa = e.sa ∧ e'.succ = e.succ ∧ e'.ads = e.ads ∧ sucObj e' = sucObj e := by
  unfold Nd.fix at h
  simp only [Prod.mk.injEq] at h
  refine e0_7 h ?_
  clear h
  rintro h1 h2 h3 h4 h5 h6 h7
  exact ⟨h1, h3, h5, h6, by simp [Nd.ads, h3, h4, h5], by simp [sucObj, h6, h7]⟩
theorem find_ab {ns : List Nd} (hn : (ns.map Nd.name).Nodup) {e : Nd} (he : e ∈ ns) : (ns.map Nd.ab).find? (fun x => decide (x.1 = e.name)) = some e.ab := by
  induction ns with
  | nil => cases he
  | cons a r ih =>
    rw [List.map_cons, List.nodup_cons] at hn
    rw [List.map_cons, List.find?_cons]
    rcases List.mem_cons.mp he with rfl | he
    · simp [Nd.ab]
    · have : a.name ≠ e.name := fun q => hn.1 (by rw [q]; exact List.mem_map_of_mem he)
      simp only [Nd.ab, this, decide_false]
      exact ih hn.2 he
theorem npOf_ab {ns : List Nd} (hn : (ns.map Nd.name).Nodup) {e : Nd} (he : e ∈ ns) : npOf (ns.map Nd.ab) e.name = e.np := by
  unfold npOf; rw [find_ab hn he]; rfl
theorem suOf_ab {ns : List Nd} (hn : (ns.map Nd.name).Nodup) {e : Nd} (he : e ∈ ns) : suOf (ns.map Nd.ab) e.name = e.succ.map (·.1) := by
  unfold suOf; rw [find_ab hn he]; rfl
section
variable {prog : Program} {w : World} {A : Around} {E : Value → Shared → Prop} {s : Shared} {c : Cx} {g : PM} {L : Addr} {m : Str → Option Value} {news : List (Addr × Obj)}
abbrev srtL (w : World) (ts : Tok × Tok × Tok × Tok) (nd rl dx : Addr) (po nf : Int) (tp tf : Tok) (orl : Obj) (ns : List Nd) : List (Addr × Obj) := (dx, srtD w ts nd (.ref rl) (.int po tp) (.int nf tf)) :: (segs ns ++ [(rl, orl)])
end

-- part FC1
theorem frames_eq {A A' : Around} {env : Env} {outer : List Env} (h : A' = A.deeper env) (hfr : A.frames = some outer) : A'.frames = some (env :: outer) := by rw [h]; exact Around.frames_deeper hfr
theorem nodup_sub_len {α : Type} [DecidableEq α] : ∀ {l l' : List α}, l.Nodup → (∀ x ∈ l, x ∈ l') → l.length ≤ l'.length
  | [], _, _, _ => Nat.zero_le _
  | a :: l, l', h, hs => by
    have hn := List.nodup_cons.mp h
    have := nodup_sub_len (l := l) (l' := l'.erase a) hn.2 (fun x hx => (List.mem_erase_of_ne (fun (q : x = a) => hn.1 (q ▸ hx))).mpr (hs x (.tail _ hx)))
    rw [List.length_erase_of_mem (hs a (.head _))] at this
    have : 0 < l'.length := List.length_pos_of_mem (hs a (.head _))
    rw [List.length_cons]
    omega
theorem iter_call {prog : Program} {w : World} {A : Around} {E : Value → Shared → Prop} {s : Shared} {l : Addr} {Q : Value → Shared → Prop} (h : wpAny (model prog w) (A.under (.builtin "iter" ⟨[.ref l], []⟩)) (pyIter (.ref l)) Q E s) : wpAny (model prog w) A (call (.builtin "iter") [.ref l]) Q E s := by
  refine call_function_entry (by decide +kernel) (by decide +kernel) kdk_entry_iter (kdk_args_iter _) ?_
  unfold Builtin.«iter»
  refine wpAny_bind (m := someArgs "iter" 1 2 _) (wpAny_of_eq (a := [Value.ref l]) (by first | rfl | kernel_rfl!) ?_)
  show wpAny _ _ (pyIter (.ref l) >>= _) _ _ _
  refine wpAny_bind (wpAny_mono h (fun v s' hq => ?_) fun _ _ x => x)
  exact wpAny_pure ⟨_, rfl, hq⟩
def liO (l : Addr) : Obj := { cls := .type "list_iterator", data := .fields #[.ref l, .int 0 0] }
section
variable {prog : Program} {w : World} {A : Around} {E : Value → Shared → Prop} {s : Shared} {c : Cx} {g : PM} {L : Addr} {m : Str → Option Value} {news : List (Addr × Obj)} {Q : Value → Shared → Prop}
theorem iter_li {l : Addr} {o : Obj} {vs : List Value} (D : Led c g L s.heap m news) (ho : s.heap.get? l = some o) (hl : IsLst o vs)
    (h : ∀ I h', L < I → Led c g L h' m ((I, liO l) :: news) → Q (.ref I) { s with heap := h' }) : wpAny (model prog w) A (pyIter (.ref l)) Q E s :=
  wpAny_pyIter_list (IsLst.isList ho hl) (h _ _ D.ltL (D.push _))
theorem next_li {I l : Addr} (D : Led c g L s.heap m news) (ho : s.heap.get? I = some (liO l))
    (h : ∀ W h' tk, L < W → Led c g L h' m ((W, nxtO I) :: news) → Q (.ref W) { s with heap := h', toks := tk }) : wpAny (model prog w) A (getAttr (.ref I) (Str.ofString "__next__") true) Q E s :=
  getAttr_next ho fun tk => h _ _ _ D.ltL (D.push _)
end
theorem stored_new {K : Type} [DecidableEq K] {kvs : List (K × Value)} {k : K} {v : Value} (hv : valueAt kvs k = none) : stored kvs k v = kvs ++ [(k, v)] := by
  unfold stored
  rw [if_neg]
  intro q
  refine e1_2 (List.any_eq_true.mp q) ?_
  rintro kv m1 m2
  unfold valueAt at hv
  rw [Option.map_eq_none_iff, List.find?_eq_none] at hv
  exact hv kv m1 m2
theorem without_keys {kvs : List (Str × Value)} {ks : List Str} {k : Str} (h : kvs.map (·.1) = ks ++ [k]) (hk : k ∉ ks) : (without kvs k).map (·.1) = ks := by
  have h1 : (without kvs k).map (·.1) = (kvs.map (·.1)).filter fun x => decide (x ≠ k) := by
    unfold without
    rw [List.filter_map]
    rfl
  rw [h1, h, List.filter_append, List.filter_eq_self.mpr (fun a ha => by
    have : a ≠ k := fun q => hk (q ▸ ha)
    simpa using this)]
  simp
theorem perm3 {α : Type} (a b c : α) (l : List α) : (a :: b :: c :: l).Perm (c :: b :: a :: l) := by
  refine (List.Perm.swap b a _).trans ?_
  refine (List.Perm.cons _ (List.Perm.swap c a _)).trans ?_
  exact List.Perm.swap c b _
structure Ent where
  name : Str
  tn : Tok
  W : Addr
  I : Addr
  oI : Obj
  pos : Nat
def segE (e : Ent) : List (Addr × Obj) := [(e.I, e.oI), (e.W, nxtO e.I)]
def segEs (es : List Ent) : List (Addr × Obj) := es.flatMap segE
theorem segEs_cons (e : Ent) (es : List Ent) : segEs (e :: es) = (e.I, e.oI) :: (e.W, nxtO e.I) :: segEs es := rfl
structure EntOk (ns : List Nd) (e : Ent) : Prop where
  isIt : e.oI.cls = .type "list_iterator"
  nd : ∃ n ∈ ns, n.name = e.name ∧ e.oI.data = .fields #[.ref n.sa, .int e.pos 0] ∧ e.pos ≤ n.succ.length
def meas (ns : List Nd) (B : Nat) (seen : List Str) (es : List Ent) : Nat := (ns.filter fun e => decide (e.name ∉ seen)).length * (B + 2) + (es.map fun e => B + 1 - e.pos).sum
theorem meas_push {ns : List Nd} {B : Nat} {seen : List Str} {es : List Ent} {e : Ent} (h1 : e.name ∉ seen) (h2 : ∃ n ∈ ns, n.name = e.name) (h3 : e.pos = 0) : meas ns B (e.name :: seen) (e :: es) < meas ns B seen es := by
  have hf : (ns.filter fun n => decide (n.name ∉ e.name :: seen)) = ((ns.filter fun n => decide (n.name ∉ seen)).filter fun n => decide (n.name ≠ e.name)) := by
    rw [List.filter_filter]
    refine List.filter_congr fun n _ => ?_
    by_cases q1 : n.name = e.name <;> by_cases q2 : n.name ∈ seen <;> simp [q1, q2]
  have hl : (ns.filter fun n => decide (n.name ∉ e.name :: seen)).length < (ns.filter fun n => decide (n.name ∉ seen)).length := by
    rw [hf, List.length_filter_lt_length_iff_exists]
    refine e1_2 h2 ?_
    clear h2
    rintro n hn hk
    exact ⟨n, List.mem_filter.mpr ⟨hn, by rw [hk]; simpa using h1⟩, by simp [hk]⟩
  unfold meas
  rw [List.map_cons, List.sum_cons, h3]
  generalize (ns.filter fun n => decide (n.name ∉ e.name :: seen)).length = a at hl
  generalize (ns.filter fun n => decide (n.name ∉ seen)).length = b at hl
  have h4 : (a + 1) * (B + 2) ≤ b * (B + 2) := Nat.mul_le_mul_right _ hl
  rw [Nat.add_mul] at h4
  omega
theorem meas_yield {ns : List Nd} {B : Nat} {seen : List Str} {es : List Ent} {e e' : Ent} (h : e'.pos = e.pos + 1) (h2 : e.pos ≤ B) : meas ns B seen (e' :: es) < meas ns B seen (e :: es) := by
  unfold meas
  rw [List.map_cons, List.sum_cons, List.map_cons, List.sum_cons, h]
  omega
theorem meas_pop {ns : List Nd} {B : Nat} {seen : List Str} {es : List Ent} {e : Ent} (h2 : e.pos ≤ B) : meas ns B seen es < meas ns B seen (e :: es) := by
  unfold meas
  rw [List.map_cons, List.sum_cons]
  omega
structure FcS (ns : List Nd) (rank : Str → Nat) (seen : List Str) (es : List Ent) : Prop where
  ok : ∀ e ∈ es, EntOk ns e
  asc : es.Pairwise fun a b => rank b.name < rank a.name
  sub : ∀ x ∈ seen, x ∈ ns.map Nd.name
  nds : seen.Nodup
structure FcO (prog : Program) (w : World) (seen : List Str) (es : List Ent) (oSt oIt oSe oD : Obj) : Prop where
  st : IsLst oSt (es.reverse.map fun e => .str e.name e.tn)
  it : IsLst oIt (es.reverse.map fun e => .ref e.W)
  se : oSe.SetObjOf (strKind prog w) (fun k => decide (k ∈ seen)) seen.length
  d : ∃ kvs, oD.IsDictOf (strKind prog w) kvs ∧ kvs.map (·.1) = es.reverse.map (·.name)
theorem FcS.nil {ns : List Nd} {rank : Str → Nat} : FcS ns rank [] [] := ⟨fun _ q => (nomatch q), .nil, fun _ q => (nomatch q), .nil⟩
theorem FcS.len {ns : List Nd} {rank : Str → Nat} {seen : List Str} {es : List Ent} (x : FcS ns rank seen es) : seen.length ≤ ns.length := by
  have := nodup_sub_len x.nds x.sub
  simpa using this
theorem FcS.elen {ns : List Nd} {rank : Str → Nat} {seen : List Str} {es : List Ent} (x : FcS ns rank seen es) : es.length ≤ ns.length := by
  have h1 : (es.map (·.name)).Nodup := by
    rw [List.nodup_iff_pairwise_ne, List.pairwise_map]
    exact x.asc.imp fun h q => by rw [q] at h; exact absurd h (Nat.lt_irrefl _)
  have h2 := nodup_sub_len h1 (l' := ns.map Nd.name) (fun y hy => by
    refine e1_2 (List.mem_map.mp hy) ?_
    rintro e he rfl
    refine e1_3 ((x.ok e he).nd) ?_
    rintro n hn q _
    rw [← q]; exact List.mem_map_of_mem hn)
  simpa using h2
abbrev fcL (st it se d : Addr) (oSt oIt oSe oD : Obj) (es : List Ent) (FR : List (Addr × Obj)) : List (Addr × Obj) := segEs es ++ ((d, oD) :: (se, oSe) :: (it, oIt) :: (st, oSt) :: FR)
structure FcM (m : Str → Option Value) (nd st it se d : Addr) : Prop where
  n2i : m (Str.ofString "n2i") = some (.ref nd)
  stk : m (Str.ofString "stack") = some (.ref st)
  its : m (Str.ofString "itstack") = some (.ref it)
  seen : m (Str.ofString "seen") = some (.ref se)
  n2s : m (Str.ofString "node2stacki") = some (.ref d)
section
variable {prog : Program} {w : World} {A : Around} {E : Value → Shared → Prop} {s : Shared} {c : Cx} {g : PM} {L : Addr} {m : Str → Option Value} {news : List (Addr × Obj)}
theorem find_cycle_spec (G : Glo (Mine.hd.heap_39 w.params) c.h0) (B : Keep c.h0 s.heap) (hR : Rest c s) (hA : AOk A 3) {x dx nd : Addr} {ts : Tok × Tok × Tok × Tok} {rv po nf : Value} {od : Obj} {ns : List Nd} {outer : List Env} {FR : List (Addr × Obj)} {rank : Str → Nat} {Q : Value → Shared → Prop}
    (hfr : A.frames = some outer) (hFO : FrOk outer FR) (hmF : ∀ p ∈ FR, s.heap.get? p.1 = some p.2) (hF0 : ∀ p ∈ FR, c.h0.get? p.1 = none) (hFn : (FR.map (·.1)).Nodup)
    (hx : s.heap.get? x = some (instObj 165 dx)) (hxF : x ∉ FR.map (·.1)) (hdx : s.heap.get? dx = some (srtD w ts nd rv po nf)) (hdF : dx ∉ FR.map (·.1))
    (hdd : s.heap.get? nd = some od) (hnF : nd ∉ FR.map (·.1)) (hd : od.IsDictOf (strKind prog w) (kvsOf ns)) (h2 : 2 < nd)
    (hsg : ∀ p ∈ segs ns, s.heap.get? p.1 = some p.2) (hsF : ∀ p ∈ segs ns, p.1 ∉ FR.map (·.1)) (hz : ns.length ≤ 4000) (hss : ∀ e ∈ ns, e.succ.length ≤ 4000)
    (hcl : ∀ e ∈ ns, ∀ p ∈ e.succ, ∃ e' ∈ ns, e'.name = p.1) (hrk : ∀ e ∈ ns, ∀ p ∈ e.succ, rank e.name < rank p.1)
    (h : ∀ f s', Rest c s' → (∀ b o, b ∉ FR.map (·.1) → s.heap.get? b = some o → s'.heap.get? b = some o) → (∀ p ∈ slotted f FR, s'.heap.get? p.1 = some p.2) → Q .none s') :
    wpAny (model prog w) A (call (.ref 155) [.ref x]) Q E s := by
  refine' call_fn (binds := [(Str.ofString "self", .ref x)]) (n := 2) G B hA ?gho ?ghcd ?ghb ?ghl ?gh ?gc1 ?gc2 ?gc3 ?gc4
  wtm_at "ent"
  case gh =>
    intro L h₁ A' hA' hL hk hn hA1
    have hfr' := frames_eq hA' hfr
    have D := Led.enter (c := c) (mu := FR) B hF0 hn hk hL hmF hFn
    have dl : ∀ {a o}, s.heap.get? a = some o → a ∉ FR.map (·.1) → hid s.heap (FR.map (·.1)) a = some o := fun e hn => hid_some e hn
    have bx := dl hx hxF
    have bdx := dl hdx hdF
    have bnd := dl hdd hnF
    have bsg : ∀ p ∈ segs ns, hid s.heap (FR.map (·.1)) p.1 = some p.2 := fun p hp => dl (hsg p hp) (hsF p hp)
    obtain ⟨f0, hf0⟩ : ∃ f, slotted f FR = FR := ⟨fun a => ((s.heap.get? a).map (·.slots)).getD #[], by
      unfold slotted
      refine (List.map_congr_left fun p hp => ?_).trans (List.map_id _)
      simp only [hmF p hp, Option.map_some, Option.getD_some, id]⟩
    generalize hid s.heap _ = g at D dl bx bdx bnd bsg
    rw [← hf0] at D
    wtm_at "go"
    refine' ga_own (K := Mine.hd.heap_39 w.params) ?gX (inst_at (D.keep _ _ bx) (D.keep _ _ bdx)) ?g1 ?g2 ?g3 ?g4 ?g5 ?g6 ?_
    wtm_at "gao"
    wtm_at "go"
    rename Led _ _ _ _ _ _ => D
    refine new_list D (Nat.zero_le _) ?_
    intro st h₂ oSt hst D hoSt
    try dsimp only
    wtm_at "go"
    rename Led _ _ _ _ _ _ => D
    refine new_list D (Nat.zero_le _) ?_
    intro it h₃ oIt hit D hoIt
    try dsimp only
    wtm_at "go"
    rename Led _ _ _ _ _ _ => D
    refine PyProof.Rows.callWith_type0 ?_
    refine new_set (strKind prog w) D ?_
    intro se h₄ oSe hse D hoSe
    try dsimp only
    wtm_at "go"
    rename Led _ _ _ _ _ _ => D
    refine new_dict (strKind prog w) D ?_
    intro d h₅ oD hdl D hoD
    try dsimp only
    wtm_at "go"
    rename Led _ _ _ _ _ _ => D
    have hd2 : 2 < d := Nat.lt_trans h2 (Nat.lt_trans (Nat.lt_of_lt_of_le (Heap.lt_size hdd) hL) hdl)
    have hO : FcO prog w [] [] oSt oIt oSe oD := ⟨⟨0, hoSt⟩, ⟨0, hoIt⟩, by simpa using hoSe, [], hoD, rfl⟩
    clear hoSt hoIt hoSe hoD
    let Post1 : Shared → Prop := fun s' => ∃ (m : Str → Option Value) (f : Addr → Array (Option Value)) (seen : List Str) (oSt oIt oSe oD : Obj), Led c g L s'.heap m (fcL st it se d oSt oIt oSe oD [] (slotted f FR)) ∧ Rest c s'
    refine exec_cut Post1 ?_ ?_
    · refine wpAny_For ?_ ?_
      rotate_left
      · intro _; rfl
      wtm_at "go"
      refine itr_dict D h2 (D.keep _ _ bnd) hd ?_
      intro I h₆ oI hLI D hitr
      try dsimp only
      let Post2 : Nat → (Str → Option Value) → List (Addr × Obj) → Prop := fun i m news => ∃ f seen oSt oIt oSe oD, news = fcL st it se d oSt oIt oSe oD [] (slotted f FR) ∧ FcM m nd st it se d ∧ FcS ns rank seen [] ∧ FcO prog w seen [] oSt oIt oSe oD
      refine for_it (c := c) hA1.handled hitr Post2 D
        ⟨f0, [], oSt, oIt, oSe, oD, rfl, ⟨rfl, rfl, rfl, rfl, rfl⟩, FcS.nil, hO⟩ (by exact hR) ?_ ?_ ?_
      · intro i m' news' _ b hb hbI
        have : b = nd := by simpa [hbI] using hb
        subst this
        exact ⟨od, D.keep _ _ bnd, .inl bnd⟩
      · clear D hR hO
        rintro i v m₁ news₁ oI s₁ hi hxp
        refine e2_2 hxp ?_
        clear hxp
        rintro k xv hkx hkv ⟨f, seen, oSt, oIt, oSe, oD, rfl, hM, hS, hO⟩ D hR
        obtain ⟨t, rfl⟩ := Value.isStrOf_shape hkv
        have hkn : ∃ n ∈ ns, n.name = k := by
          unfold kvsOf at hkx
          rw [List.getElem?_map] at hkx
          cases q : ns[i]? with
          | none => rw [q] at hkx; cases hkx
          | some n => rw [q] at hkx; simp at hkx; exact ⟨n, List.mem_of_getElem? q, hkx.1⟩
        obtain ⟨e1, e2, e3, e4, e5⟩ := hM
        wtm_at "go"
        rename Led _ _ _ _ _ _ => D
        refine wpAny_If ?_
        wtm_at "go"
        have hsl := hS.len
        refine set_in (strKind_is prog w k t) rfl (D.get (.tail _ (.tail _ (.head _)))) hO.se (by unfold scanBound; omega) ?_
        try dsimp only
        wtm_at "go"
        by_cases hin : k ∈ seen
        · rw [if_pos (decide_eq_true hin)]
          wtm_at "go"
          exact ⟨_, _, D, hR, f, seen, oSt, oIt, oSe, oD, rfl, ⟨e1, e2, e3, e4, e5⟩, hS, hO⟩
        · rw [if_neg (fun q => hin (of_decide_eq_true q))]
          wtm_at "go"
          let Post3 : Shared → Prop := fun s' => ∃ (m : Str → Option Value) (f : Addr → Array (Option Value)) (seen : List Str) (oSt oIt oSe oD : Obj), Led c g L s'.heap m ((I, oI) :: fcL st it se d oSt oIt oSe oD [] (slotted f FR)) ∧ Rest c s' ∧ FcM m nd st it se d ∧ FcS ns rank seen [] ∧ FcO prog w seen [] oSt oIt oSe oD
          refine exec_cut Post3 ?_ ?_
          · refine wpAny_While ?_
            refine while_led D hR (fun kk m news => ∃ (f : Addr → Array (Option Value)) (seen : List Str) (es : List Ent) (oSt oIt oSe oD : Obj) (k : Str) (t : Tok), news = (I, oI) :: fcL st it se d oSt oIt oSe oD es (slotted f FR) ∧ FcM m nd st it se d ∧ m (Str.ofString "node") = some (.str k t) ∧ FcS ns rank seen es ∧ FcO prog w seen es oSt oIt oSe oD ∧
              (∃ n ∈ ns, n.name = k) ∧ (∀ e ∈ es, rank e.name < rank k) ∧ kk = meas ns 4000 seen es) ⟨f, seen, [], oSt, oIt, oSe, oD, k, t, rfl, ⟨e1, e2, e3, e4, e5⟩, rfl, hS, hO, hkn, (fun _ q => nomatch q), rfl⟩ ?_
            clear D hR hO hS hkn e1 e2 e3 e4 e5 hin hsl
            rintro kk m₂ news₂ s₂ hxp
            refine e9_8 hxp ?_
            clear hxp
            rintro f seen es oSt oIt oSe oD k t rfl ⟨e1, e2, e3, e4, e5⟩ e6 hS hO hkn hrk2 rfl D hR
            refine isTrue_plain ?_
            wtm_at "go"
            rw [if_pos rfl]
            wtm_at "go"
            let Post4 : Shared → Prop := fun s' => ∃ (m : Str → Option Value) (seen' : List Str) (es' : List Ent) (oSt oIt oSe oD : Obj), Led c g L s'.heap m ((I, oI) :: fcL st it se d oSt oIt oSe oD es' (slotted f FR)) ∧ Rest c s' ∧ FcM m nd st it se d ∧ FcS ns rank seen' es' ∧ FcO prog w seen' es' oSt oIt oSe oD ∧ meas ns 4000 seen' es' ≤ meas ns 4000 seen es
            refine exec_cut Post4 ?_ ?_
            · refine wpAny_If ?_
              wtm_at "go"
              have hsl := hS.len
              refine set_in (strKind_is prog w k t) rfl (D.get (.tail _ (List.mem_append_right _ (.tail _ (.head _))))) hO.se (by unfold scanBound; omega) ?_
              try dsimp only
              wtm_at "go"
              have hesl : es.length ≤ 4000 := Nat.le_trans hS.elen hz
              have hkes : ∀ e ∈ es, e.name ≠ k := fun e he q => absurd (hrk2 e he) (by rw [q]; exact Nat.lt_irrefl _)
              refine e1_2 (hO.d) ?_
              rintro kvs hdk hke
              have hvn : valueAt kvs k = none := by
                unfold valueAt
                rw [Option.map_eq_none_iff, List.find?_eq_none]
                intro p hp
                have : p.1 ∈ es.reverse.map (·.name) := hke ▸ List.mem_map_of_mem hp
                refine e1_2 (List.mem_map.mp this) ?_
                rintro e he q
                have := hkes e (List.mem_reverse.mp he)
                rw [q] at this
                simpa using this
              by_cases hin : k ∈ seen
              · rw [if_pos (decide_eq_true hin)]
                wtm_at "go"
                refine wpAny_If ?_
                wtm_at "go"
                refine dict_in hd2 (strKind_is prog w k t) (D.get (.tail _ (List.mem_append_right _ (.head _)))) hdk ?_
                rw [hvn]
                try dsimp only
                wtm_at "go"
                rw [if_neg (by simp)]
                wtm_at "go"
                exact ⟨rfl, _, seen, es, oSt, oIt, oSe, oD, D, hR, ⟨e1, e2, e3, e4, e5⟩, hS, hO, Nat.le_refl _⟩
              · rw [if_neg (fun q => hin (of_decide_eq_true q))]
                wtm_at "go"
                refine set_meth (D.get (.tail _ (List.mem_append_right _ (.tail _ (.head _))))) hO.se (by unfold scanBound; omega) ?_
                try dsimp only
                wtm_at "go"
                refine set_add (strKind_is prog w k t) rfl (D.get (.tail _ (List.mem_append_right _ (.tail _ (.head _))))) hO.se (by unfold scanBound; omega) ?_
                intro h₇ oSe' ho7 hSe' hx7
                have D := D.upd (.tail (Up.pre (.tail .head) _)) hx7 ho7
                rw [if_neg (by simpa using hin)] at hSe'
                try dsimp only
                wtm_at "go"
                refine method_lst (D.get (.tail _ (List.mem_append_right _ (.tail _ (.tail _ (.head _)))))) hO.it PySem.F.slot_list_append PySem.F.type_list_append ?_
                try dsimp only
                wtm_at "go"
                refine e1_2 hkn ?_
                clear hkn
                rintro n hn1 hn2
                have hval := valueAt_mem (names_nodup hd) hn1
                rw [hn2] at hval
                refine dict_get (strKind_is prog w k t) (D.keep _ _ bnd) hd hval ?_
                try dsimp only
                refine' ga_slot (K := Mine.hd.heap_39 w.params) ?gX (inst_at (D.keep _ _ (bsg _ (mem_segs hn1 (.head _)))) (D.keep _ _ (bsg _ (mem_segs hn1 (.tail _ (.head _)))))) ?g1 ?g2 ?g3 ?g4 ?g5 ?g6 ?g7 ?g8 ?_
                wtm_at "gas"
                wtm_at "go"
                have hsl2 : IsLst (sucObj n) (n.succ.map fun p => .str p.1 p.2) := ⟨n.ep, rfl⟩
                refine iter_call (iter_li D (D.keep _ _ (bsg _ (mem_segs hn1 (.tail _ (.tail _ (.head _)))))) hsl2 ?_)
                intro I2 h₈ hI2 D
                try dsimp only
                refine next_li D (D.get (.head _)) ?_
                intro W h₉ tk9 hW D
                try dsimp only
                wtm_at "go"
                refine append_lst (D.get (.tail _ (.tail _ (.tail _ (List.mem_append_right _ (.tail _ (.tail _ (.head _)))))))) hO.it (by rw [sizeLine_eq]; simp; have := hesl; omega) ?_
                intro h₁₀ oIt' ho10 hIt' hx10
                have D := D.upd (.tail (.tail (.tail (Up.pre (.tail (.tail .head)) _)))) hx10 ho10
                try dsimp only
                wtm_at "go"
                have mS : (st, oSt) ∈ (W, nxtO I2) :: (I2, liO n.sa) :: (I, oI) :: (segEs es ++ (d, oD) :: (se, oSe') :: (it, oIt') :: (st, oSt) :: slotted f FR) := .tail _ (.tail _ (.tail _ (List.mem_append_right _ (.tail _ (.tail _ (.tail _ (.head _)))))))
                refine len_list (IsLst.isList (D.get mS) hO.st) (by simp; omega) ?_
                try dsimp only
                wtm_at "go"
                have hkl : kvs.length ≤ 4000 := by
                  have := congrArg List.length hke
                  simp at this; omega
                refine dict_set (strKind_is prog w k t) (D.get (.tail _ (.tail _ (.tail _ (List.mem_append_right _ (.head _)))))) hdk (by rw [sizeLine_eq]; omega) ?_
                intro h₁₁ oD' ho11 hD' hx11
                have D := D.upd (.tail (.tail (.tail (Up.pre .head _)))) hx11 ho11
                try dsimp only
                wtm_at "go"
                have mS : (st, oSt) ∈ (W, nxtO I2) :: (I2, liO n.sa) :: (I, oI) :: (segEs es ++ (d, oD') :: (se, oSe') :: (it, oIt') :: (st, oSt) :: slotted f FR) := .tail _ (.tail _ (.tail _ (List.mem_append_right _ (.tail _ (.tail _ (.tail _ (.head _)))))))
                refine method_lst (D.get mS) hO.st PySem.F.slot_list_append PySem.F.type_list_append ?_
                try dsimp only
                wtm_at "go"
                refine append_lst (D.get mS) hO.st (by rw [sizeLine_eq]; simp; omega) ?_
                intro h₁₂ oSt' ho12 hSt' hx12
                have D := D.upd (.tail (.tail (.tail (Up.pre (.tail (.tail (.tail .head))) _)))) hx12 ho12
                try dsimp only
                wtm_at "go"
                have D := D.perm (news' := (I, oI) :: fcL st it se d oSt' oIt' oSe' oD' (⟨k, t, W, I2, liO n.sa, 0⟩ :: es) (slotted f FR)) (perm3 _ _ _ _)
                refine ⟨rfl, _, k :: seen, ⟨k, t, W, I2, liO n.sa, 0⟩ :: es, oSt', oIt', oSe', oD', D, hR, ⟨e1, e2, e3, e4, e5⟩, ⟨?_, ?_, ?_, ?_⟩, ⟨by simpa using hSt', by simpa using hIt', ?_, _, hD', ?_⟩, Nat.le_of_lt (meas_push (e := ⟨k, t, W, I2, liO n.sa, 0⟩) hin ⟨n, hn1, hn2⟩ rfl)⟩
                · intro e he
                  rcases List.mem_cons.mp he with rfl | he
                  · exact ⟨rfl, n, hn1, hn2, rfl, Nat.zero_le _⟩
                  · exact hS.ok e he
                · exact List.pairwise_cons.mpr ⟨fun e he => hrk2 e he, hS.asc⟩
                · intro y hy
                  rcases List.mem_cons.mp hy with rfl | hy
                  · exact List.mem_map.mpr ⟨n, hn1, hn2⟩
                  · exact hS.sub y hy
                · exact List.nodup_cons.mpr ⟨hin, hS.nds⟩
                · have : (fun k' => decide (k' ∈ seen) || decide (k' = k)) = fun k' => decide (k' ∈ k :: seen) := by
                    funext k'
                    rw [← Bool.decide_or]
                    refine decide_eq_decide.mpr ?_
                    rw [List.mem_cons, or_comm]
                  rw [this] at hSe'
                  exact hSe'
                · rw [stored_new hvn, List.map_append, hke]
                  simp
            · clear D hR hO hS hkn hrk2 e1 e2 e3 e4 e5 e6
              rintro s₃ hxp
              refine e7_6 hxp ?_
              clear hxp
              rintro m₃ seen' es' oSt oIt oSe oD D hR hM hS hO hle
              generalize meas ns 4000 seen es = M0 at hle ⊢
              wtm_at "go"
              refine wpAny_While ?_
              refine while_led D hR (fun kk m news => ∃ (f : Addr → Array (Option Value)) (seen : List Str) (es : List Ent) (oSt oIt oSe oD : Obj), news = (I, oI) :: fcL st it se d oSt oIt oSe oD es (slotted f FR) ∧ FcM m nd st it se d ∧ FcS ns rank seen es ∧ FcO prog w seen es oSt oIt oSe oD ∧ meas ns 4000 seen es ≤ M0 ∧ kk = meas ns 4000 seen es) ⟨f, seen', es', oSt, oIt, oSe, oD, rfl, hM, hS, hO, hle, rfl⟩ ?_
              clear D hR hO hS hM hle
              rintro kk m₄ news₄ s₄ hxp
              refine e7_6 hxp ?_
              clear hxp
              rintro f seen es oSt oIt oSe oD rfl ⟨e1, e2, e3, e4, e5⟩ hS hO hle rfl D hR
              refine isTrue_plain ?_
              wtm_at "go"
              have mS : (st, oSt) ∈ (I, oI) :: fcL st it se d oSt oIt oSe oD es (slotted f FR) := .tail _ (List.mem_append_right _ (.tail _ (.tail _ (.tail _ (.head _)))))
              have hesl : es.length ≤ 4000 := Nat.le_trans hS.elen hz
              refine truthy_lst (D.get mS) hO.st (by simp; omega) ?_
              cases es with
              | nil =>
                rw [if_neg (by simp)]
                wtm_at "go"
                exact ⟨rfl, m₄, f, seen, oSt, oIt, oSe, oD, D, hR, ⟨e1, e2, e3, e4, e5⟩, hS, hO⟩
              | cons e r =>
                rw [if_pos (by simp)]
                wtm_at "go"
                refine wpAny_Try_except ?_
                wtm_at "go"
                refine UnaryOp_ ?_
                wtm_at "go"
                refine neg_int ?_
                obtain ⟨hIc, n, hn1, hn2, hdat, hpos⟩ := hS.ok e (.head _)
                have mI : (it, oIt) ∈ (I, oI) :: fcL st it se d oSt oIt oSe oD (e :: r) (slotted f FR) := .tail _ (List.mem_append_right _ (.tail _ (.tail _ (.head _))))
                have mW : (e.W, nxtO e.I) ∈ (I, oI) :: fcL st it se d oSt oIt oSe oD (e :: r) (slotted f FR) := .tail _ (.tail _ (.head _))
                have hIt : IsLst oIt (r.reverse.map (fun e => .ref e.W) ++ [.ref e.W]) := by have := hO.it; rw [List.reverse_cons, List.map_append] at this; exact this
                have hSt : IsLst oSt (r.reverse.map (fun e => .str e.name e.tn) ++ [.str e.name e.tn]) := by have := hO.st; rw [List.reverse_cons, List.map_append] at this; exact this
                have hlit : s₄.heap.IsListIter e.I n.sa e.pos := ⟨e.oI, D.get (.tail _ (.head _)), hIc, hdat⟩
                have hsl2 : IsLst (sucObj n) (n.succ.map fun p => .str p.1 p.2) := ⟨n.ep, rfl⟩
                have hB : e.pos ≤ 4000 := Nat.le_trans hpos (hss n hn1)
                refine sub_last (D.get mI) hIt ?_
                refine callWith_nxt (D.get mW) ?_
                by_cases hp : e.pos < n.succ.length
                · have hy : n.succ[e.pos]? = some n.succ[e.pos] := List.getElem?_eq_getElem hp
                  generalize n.succ[e.pos] = y at hy
                  have hym := List.mem_of_getElem? hy
                  refine call_nxt_item (D.get mW) hlit (D.keep _ _ (bsg _ (mem_segs hn1 (.tail _ (.tail _ (.head _)))))) hsl2 (by rw [List.getElem?_map, hy]; rfl) ?_
                  rintro h₇ hxp
                  refine e1_3 hxp ?_
                  clear hxp
                  rintro oI' hoI' hc' hd' hs7
                  have D := D.upd (.tail .head) hs7.extBut hoI'
                  try dsimp only
                  wtm_at "go"
                  rename Led _ _ _ _ _ _ => D
                  have hym2 := meas_yield (ns := ns) (B := 4000) (seen := seen) (es := r) (e := e) (e' := { e with oI := oI', pos := e.pos + 1 }) rfl hB
                  refine ⟨_, _, D, hR, _, Nat.lt_of_lt_of_le hym2 hle, f, seen, { e with oI := oI', pos := e.pos + 1 } :: r, oSt, oIt, oSe, oD, y.1, y.2, rfl, ⟨e1, e2, e3, e4, e5⟩, rfl, ⟨?_, ?_, hS.sub, hS.nds⟩, ⟨?_, ?_, hO.se, ?_⟩, hcl n hn1 y hym, ?_, rfl⟩
                  · intro e' he'
                    rcases List.mem_cons.mp he' with rfl | he'
                    · exact ⟨hc', n, hn1, hn2, by simpa using hd', hp⟩
                    · exact hS.ok e' (.tail _ he')
                  · have := List.pairwise_cons.mp hS.asc
                    exact List.pairwise_cons.mpr ⟨fun a ha => this.1 a ha, this.2⟩
                  · have := hO.st
                    rw [List.reverse_cons, List.map_append] at this ⊢
                    exact this
                  · have := hO.it
                    rw [List.reverse_cons, List.map_append] at this ⊢
                    exact this
                  · refine e1_2 (hO.d) ?_
                    rintro kvs a1 a2
                    refine ⟨kvs, a1, a2.trans ?_⟩
                    rw [List.reverse_cons, List.map_append, List.reverse_cons, List.map_append]
                    rfl
                  · have hk := hrk n hn1 y hym
                    rw [hn2] at hk
                    intro e' he'
                    rcases List.mem_cons.mp he' with rfl | he'
                    · exact hk
                    · exact Nat.lt_trans ((List.pairwise_cons.mp hS.asc).1 e' he') hk
                · have hx : (n.succ.map fun p => Value.str p.1 p.2)[e.pos]? = none := by rw [List.getElem?_map, List.getElem?_eq_none (Nat.not_lt.mp hp)]; rfl
                  refine call_nxt_end hA1.handled (D.get mW) hlit (D.keep _ _ (bsg _ (mem_segs hn1 (.tail _ (.tail _ (.head _)))))) hsl2 hx ?_
                  intro h₇ h₈ ex hs7 hx8
                  have D := (D.perm (List.Perm.swap _ _ _)).dropBut (h' := h₇) fun b o hb eb => (hs7.2 b hb).trans eb
                  have D : Led c g L h₇ m₄ (((I, oI) :: (e.W, nxtO e.I) :: (segEs r ++ [(d, oD), (se, oSe), (it, oIt), (st, oSt)])) ++ slotted f FR) := by
                    have z : ((I, oI) :: (e.W, nxtO e.I) :: (segEs r ++ [(d, oD), (se, oSe), (it, oIt), (st, oSt)])) ++ slotted f FR = (I, oI) :: (e.W, nxtO e.I) :: (segEs r ++ ((d, oD) :: (se, oSe) :: (it, oIt) :: (st, oSt) :: slotted f FR)) := by simp
                    rw [z]; exact D
                  refine caught_led (K := Mine.hd.heap_39 w.params) G D hfr' rfl (hFO.slotted f) hx8 (by k_is) (by kernel_rfl) ?_
                  clear D
                  intro h₉ f' D
                  have D : Led c g L h₉ m₄ ((I, oI) :: (e.W, nxtO e.I) :: (segEs r ++ ((d, oD) :: (se, oSe) :: (it, oIt) :: (st, oSt) :: slotted f' FR))) := by
                    have z : ((I, oI) :: (e.W, nxtO e.I) :: (segEs r ++ [(d, oD), (se, oSe), (it, oIt), (st, oSt)])) ++ slotted f' (slotted f FR) = (I, oI) :: (e.W, nxtO e.I) :: (segEs r ++ ((d, oD) :: (se, oSe) :: (it, oIt) :: (st, oSt) :: slotted f' FR)) := by simp [slotted, Function.comp_def]
                    rw [← z]; exact D
                  have D := D.ofMem (news' := (I, oI) :: (segEs r ++ ((d, oD) :: (se, oSe) :: (it, oIt) :: (st, oSt) :: slotted f' FR))) (fun p hp => by
                    rcases List.mem_cons.mp hp with rfl | hp
                    · exact .head _
                    · exact .tail _ (.tail _ hp)) (by
                    have := D.ndn
                    rw [List.map_cons, List.map_cons, List.nodup_cons, List.nodup_cons] at this
                    rw [List.map_cons, List.nodup_cons]
                    exact ⟨fun q => this.1 (.tail _ q), this.2.2⟩)
                  wtm_at "go"
                  refine wpAny_Delete (wpAny_deleteEach_cons (PyProof.Rows.delete_Subscript ?_))
                  wtm_at "go"
                  have mS : (st, oSt) ∈ (I, oI) :: (segEs r ++ ((d, oD) :: (se, oSe) :: (it, oIt) :: (st, oSt) :: slotted f' FR)) := .tail _ (List.mem_append_right _ (.tail _ (.tail _ (.tail _ (.head _)))))
                  refine method_lst (D.get mS) hSt PySem.F.slot_list_pop PySem.F.type_list_pop ?_
                  try dsimp only
                  refine pop_lst (D.get mS) hSt (by rw [sizeLine_eq]; simp; simp at hesl; omega) ?_
                  intro h₁₀ oSt' ho10 hSt' hx10
                  have D := D.upd (.tail (Up.pre (.tail (.tail (.tail .head))) _)) hx10 ho10
                  try dsimp only
                  refine e1_2 (hO.d) ?_
                  rintro kvs hdk hke
                  have hkl : kvs.length ≤ 4000 := by
                    have := congrArg List.length hke
                    simp at this
                    simp at hesl
                    omega
                  have hvs : (valueAt kvs e.name).isSome = true := by
                    have : e.name ∈ kvs.map (·.1) := by rw [hke]; simp
                    refine e1_2 (List.mem_map.mp this) ?_
                    rintro p hp q
                    unfold valueAt
                    rw [Option.isSome_map, List.find?_isSome]
                    exact ⟨p, hp, by simpa using q⟩
                  refine dict_del (strKind_is prog w e.name e.tn) (D.get (.tail _ (List.mem_append_right _ (.head _)))) hdk (by rw [sizeLine_eq]; omega) hvs ?_
                  intro h₁₁ oD' ho11 hD' hx11
                  have D := D.upd (.tail (Up.pre .head _)) hx11 ho11
                  try dsimp only
                  refine wpAny_deleteEach_nil ?_
                  refine wpAny_execs_cons ?_
                  refine wpAny_Expr_any ?_
                  wtm_at "go"
                  have mI : (it, oIt) ∈ (I, oI) :: (segEs r ++ ((d, oD') :: (se, oSe) :: (it, oIt) :: (st, oSt') :: slotted f' FR)) := .tail _ (List.mem_append_right _ (.tail _ (.tail _ (.head _))))
                  refine method_lst (D.get mI) hIt PySem.F.slot_list_pop PySem.F.type_list_pop ?_
                  try dsimp only
                  refine pop_lst (D.get mI) hIt (by rw [sizeLine_eq]; simp; simp at hesl; omega) ?_
                  intro h₁₂ oIt' ho12 hIt' hx12
                  have D := D.upd (.tail (Up.pre (.tail (.tail .head)) _)) hx12 ho12
                  try dsimp only
                  wtm_at "go"
                  have hasc := List.pairwise_cons.mp hS.asc
                  have hnn : ∀ a ∈ r, a.name ≠ e.name := fun a ha q => absurd (hasc.1 a ha) (by rw [q]; exact Nat.lt_irrefl _)
                  refine ⟨_, _, D, hR, _, meas_pop hB, f', seen, r, oSt', oIt', oSe, oD', rfl, ⟨e1, e2, e3, e4, e5⟩, ⟨fun a ha => hS.ok a (.tail _ ha), hasc.2, hS.sub, hS.nds⟩, ⟨hSt', hIt', hO.se, _, hD', ?_⟩, Nat.le_trans (Nat.le_of_lt (meas_pop hB)) hle, rfl⟩
                  rw [List.reverse_cons, List.map_append] at hke
                  exact without_keys hke fun q => by
                    refine e1_2 (List.mem_map.mp q) ?_
                    rintro a ha z
                    exact hnn a (List.mem_reverse.mp ha) z
          · clear D hR hO hS
            rintro s₃ hxp
            refine e7_5 hxp ?_
            clear hxp
            rintro m f seen oSt oIt oSe oD D hR hM hS hO
            wtm_at "go"
            exact ⟨_, _, D, hR, f, seen, oSt, oIt, oSe, oD, rfl, hM, hS, hO⟩
      · clear D hR hO
        rintro m' news' s₁ hxp
        refine e6_4 hxp ?_
        clear hxp
        rintro f seen oSt oIt oSe oD rfl hM hS hO D hR
        exact ⟨rfl, _, f, seen, oSt, oIt, oSe, oD, D, hR⟩
    · clear D hR
      rintro s₂ hxp
      refine e7_2 hxp ?_
      clear hxp
      rintro m f seen oSt oIt oSe oD D hR
      wtm_at "go"
      exact h f _ hR (fun b o hb e => D.keep _ _ (dl e hb)) (fun p hp => D.get (.tail _ (.tail _ (.tail _ (.tail _ hp)))))
end


-- part SR9
def rdyOf (ns : List Nd) : List (Str × Tok) := (ns.filter fun e => e.np == 0).map fun e => (e.name, e.tn)
theorem Led.afterFrames {c : Cx} {g : PM} {L : Addr} {h h' : Heap} {m : Str → Option Value} {news FR : List (Addr × Obj)} {oL : Obj} {f : Addr → Array (Option Value)} (D : Led c g L h m (news ++ FR)) (hoL : h.get? L = some oL)
    (hk : ∀ b o, b ∉ ((L, oL) :: FR).map (·.1) → h.get? b = some o → h'.get? b = some o) (hs : ∀ p ∈ slotted f ((L, oL) :: FR), h'.get? p.1 = some p.2) : Led c g L h' m (news ++ slotted f FR) := by
  have nd := D.ndn
  rw [List.map_append, List.nodup_append] at nd
  refine ⟨D.base, ?_, fun b o e => hk b o (fun q => ?_) (D.keep b o e), D.fresh, fun p hp => ?_, ?_⟩
  · refine e3_3 (id D.ns) ?_
    rintro o es ep ho hd hr
    rw [hoL] at ho; cases ho
    exact ⟨_, es, ep, hs _ (.head _), hd, hr⟩
  · rcases List.mem_cons.mp q with rfl | q
    · rw [D.fresh] at e; cases e
    · refine e1_2 (List.mem_map.mp q) ?_
      rintro p hp rfl
      rw [(D.own p (List.mem_append_right _ hp)).2] at e; cases e
  · rcases List.mem_append.mp hp with hp | hp
    · refine ⟨hk _ _ (fun q => ?_) (D.get (List.mem_append_left _ hp)), (D.own p (List.mem_append_left _ hp)).2⟩
      rcases List.mem_cons.mp q with q | q
      · exact D.neL (List.mem_append_left _ hp) q
      · exact nd.2.2 _ (List.mem_map_of_mem hp) _ q rfl
    · refine ⟨hs p (.tail _ hp), ?_⟩
      refine e1_2 (List.mem_map.mp hp) ?_
      rintro q hq rfl
      exact (D.own q (List.mem_append_right _ hq)).2
  · have := D.nd
    rw [List.map_append] at this ⊢
    rw [slotted_ads]; exact this
section
variable {prog : Program} {w : World} {A : Around} {E : Value → Shared → Prop} {s : Shared} {c : Cx} {g : PM} {L : Addr} {m : Str → Option Value} {news : List (Addr × Obj)}
theorem prepare_spec (G : Glo (Mine.hd.heap_39 w.params) c.h0) (B : Keep c.h0 s.heap) (hR : Rest c s) (hA : AOk A 5) {x dx nd : Addr} {outer : List Env} {FR : List (Addr × Obj)} {rank : Str → Nat} {ts : Tok × Tok × Tok × Tok} {po nf : Value} {od : Obj} {ns : List Nd} {Q : Value → Shared → Prop}
    (hfr : A.frames = some outer) (hFO : FrOk outer FR) (hmF : ∀ p ∈ FR, s.heap.get? p.1 = some p.2) (hF0 : ∀ p ∈ FR, c.h0.get? p.1 = none) (hFn : (FR.map (·.1)).Nodup) (hxF : x ∉ FR.map (·.1)) (hdF : dx ∉ FR.map (·.1)) (hnF : nd ∉ FR.map (·.1)) (hsF : ∀ p ∈ segs ns, p.1 ∉ FR.map (·.1))
    (hss : ∀ e ∈ ns, e.succ.length ≤ 4000) (hcl : ∀ e ∈ ns, ∀ p ∈ e.succ, ∃ e' ∈ ns, e'.name = p.1) (hrk : ∀ e ∈ ns, ∀ p ∈ e.succ, rank e.name < rank p.1)
    (hdx : s.heap.get? dx = some (srtD w ts nd .none po nf)) (hdx0 : c.h0.get? dx = none) (hx : s.heap.get? x = some (instObj 165 dx)) (hxn : x ≠ dx)
    (hsg : ∀ p ∈ segs ns, s.heap.get? p.1 = some p.2) (hsn : dx ∉ (segs ns).map (·.1)) (hdd : s.heap.get? nd = some od) (hddn : nd ≠ dx) (hd : od.IsDictOf (strKind prog w) (kvsOf ns)) (h2 : 2 < nd) (hz : ns.length ≤ 4000)
    (h : ∀ rl orl ts' f s', s.heap.objs.size ≤ rl → s'.heap.get? rl = some orl → IsLst orl (strVs (rdyOf ns)) → s'.heap.get? dx = some (srtD w ts' nd (.ref rl) po nf) → Rest c s' →
      (∀ b o, b ≠ dx → b ∉ FR.map (·.1) → s.heap.get? b = some o → s'.heap.get? b = some o) → (∀ p ∈ slotted f FR, s'.heap.get? p.1 = some p.2) → Q .none s') :
    wpAny (model prog w) A (call (.ref 120) [.ref x]) Q E s := by
  refine' call_fn (binds := [(Str.ofString "self", .ref x)]) (n := 4) G B hA ?gho ?ghcd ?ghb ?ghl ?gh ?gc1 ?gc2 ?gc3 ?gc4
  wtm_at "ent"
  case gh =>
    intro L h₁ A' hA' hL hk hn hA1
    have hfr' := frames_eq hA' hfr
    have D := Led.enter (c := c) (mu := (dx, srtD w ts nd .none po nf) :: FR) B (by
      intro p hp
      rcases List.mem_cons.mp hp with rfl | hp
      · exact hdx0
      · exact hF0 p hp) hn hk hL (by
      intro p hp
      rcases List.mem_cons.mp hp with rfl | hp
      · exact hdx
      · exact hmF p hp) (by rw [List.map_cons, List.nodup_cons]; exact ⟨hdF, hFn⟩)
    have dl : ∀ {a o}, s.heap.get? a = some o → a ≠ dx → a ∉ FR.map (·.1) → hid s.heap (((dx, srtD w ts nd .none po nf) :: FR).map (·.1)) a = some o := fun e hn hf => hid_some e (by
      rw [List.map_cons, List.mem_cons]
      rintro (q | q)
      · exact hn q
      · exact hf q)
    have bx := dl hx hxn hxF
    have bnd := dl hdd hddn hnF
    have bsg : ∀ p ∈ segs ns, hid s.heap (((dx, srtD w ts nd .none po nf) :: FR).map (·.1)) p.1 = some p.2 := fun p hp => dl (hsg p hp) (fun q => hsn (by rw [← q]; exact List.mem_map_of_mem hp)) (hsF p hp)
    generalize hid s.heap _ = g at D dl bx bnd bsg
    wtm_at "go"
    refine wpAny_If ?_
    wtm_at "go"
    refine' ga_own (K := Mine.hd.heap_39 w.params) ?gX (inst_at (D.keep _ _ bx) (D.get (.head _))) ?g1 ?g2 ?g3 ?g4 ?g5 ?g6 ?_
    wtm_at "gao"
    wtm_at "go"
    refine isnot_none_none ?_
    wtm_at "go"
    rw [if_neg (by simp)]
    wtm_at "go"
    refine comp_eval (cl := []) rfl rfl (by decide) ?_
    wtm_at "go"
    refine' ga_own (K := Mine.hd.heap_39 w.params) ?gX (inst_at (D.keep _ _ bx) (D.get (.head _))) ?g1 ?g2 ?g3 ?g4 ?g5 ?g6 ?_
    wtm_at "gao"
    refine dict_meth PySem.F.slot_dict_values PySem.F.type_dict_values (D.keep _ _ bnd) hd ?_
    try dsimp only
    wtm_at "go"
    refine values_dict D h2 (D.keep _ _ bnd) hd ?_
    intro vv h₂ ov hvv D hov
    try dsimp only
    subst hov
    refine itr_values D (D.get (.head _)) (D.keep _ _ bnd) hd ?_
    intro I h₃ oI hLI D hit
    try dsimp only
    refine comp_it hA1.handled hit (fun i ys news => ys = strVs (rdyOf (ns.take i)) ∧ news = (vv, _) :: (dx, srtD w ts nd .none po nf) :: FR) ⟨rfl, rfl⟩ D (by exact hR) (by simp; omega) (by decide) rfl rfl ?_ ?_ ?_
    · rintro i ys news' ⟨rfl, rfl⟩ b hb hbI
      have : b = nd := by simpa [hbI] using hb
      subst this
      exact ⟨od, D.keep _ _ bnd, .inl bnd⟩
    · clear D hR
      rintro C Dl i v m₁ ys news₁ oD oI oL s₁ hi ⟨k, hv⟩ ⟨rfl, rfl⟩ hm D hD hNs hR
      obtain ⟨e, he, hv⟩ : ∃ e, ns[i]? = some e ∧ v = .ref e.a := by
        unfold kvsOf at hv
        rw [List.getElem?_map] at hv
        cases q : ns[i]? with
        | none => rw [q] at hv; cases hv
        | some e => rw [q] at hv; exact ⟨e, rfl, by simp at hv; exact hv.2.symm⟩
      subst hv
      have heM := List.mem_of_getElem? he
      have i1 := bsg _ (mem_segs heM (.head _))
      have i2 := bsg _ (mem_segs heM (.tail _ (.head _)))
      have hst : rdyOf (ns.take (i + 1)) = rdyOf (ns.take i) ++ (if e.np = 0 then [(e.name, e.tn)] else []) := by
        unfold rdyOf
        rw [List.take_add_one, he]
        by_cases q : e.np = 0 <;> simp [q]
      refine tests_one ?_
      wtm_at "go"
      refine' ga_slot (K := Mine.hd.heap_39 w.params) ?gX (inst_at (D.keep _ _ i1) (D.keep _ _ i2)) ?g1 ?g2 ?g3 ?g4 ?g5 ?g6 ?g7 ?g8 ?_
      wtm_at "gas"
      wtm_at "go"
      by_cases hz0 : e.np = 0
      · rw [if_pos (by rw [hz0]; rfl)]
        wtm_at "go"
        refine' ga_slot (K := Mine.hd.heap_39 w.params) ?gX (inst_at (D.keep _ _ i1) (D.keep _ _ i2)) ?g1 ?g2 ?g3 ?g4 ?g5 ?g6 ?g7 ?g8 ?_
        wtm_at "gas"
        refine ⟨_, _, D, hR, ?_, rfl⟩
        rw [hst, if_pos hz0]
        simp [strVs]
      · rw [if_neg (fun q => hz0 (by simpa using q))]
        refine ⟨_, _, D, hR, ?_, rfl⟩
        rw [hst, if_neg hz0, List.append_nil]
    · clear D hR
      rintro Dl C oC oD ys news' s₂ mC ⟨rfl, rfl⟩ D hC hD hl hLD hR
      refine comp_fin D hC ?_
      intro h₄ D
      try dsimp only
      wtm_at "go"
      refine' sa_dict (K := Mine.hd.heap_39 w.params) D ?gX (inst_at (D.keep _ _ bx) (D.get (.tail _ (.tail _ (.head _))))) rfl ?g1 ?g2 ?g3 ?g4 ?g5 ?g6 (Up.tail (Up.tail Up.head)) ?g8 ?_
      wtm_at "sad"
      clear D
      intro h₅ D
      try dsimp only
      wtm_at "go"
      refine' gm_inst (K := Mine.hd.heap_39 w.params) (f := 155) ?gX (inst_at (D.keep _ _ bx) (D.get (.tail _ (.tail _ (.head _))))) ?g1 ?g2 ?g3 ?g4 ?_
      wtm_at "gmi"
      try dsimp only
      refine callWith_K0 (K := Mine.hd.heap_39 w.params) (Frag.In.keeps G.k D.kb) (by k_is) ?_
      obtain ⟨ts', hts⟩ : ∃ ts', h₅.get? dx = some (srtD w ts' nd (.ref Dl) po nf) := ⟨(_, _, _, _), D.get (.tail _ (.tail _ (.head _)))⟩
      refine e3_3 (id D.ns) ?_
      rintro oL es ep hoL hdL _
      have D5 : Led c g L h₅ _ ([(Dl, oD), (vv, _), (dx, _)] ++ FR) := D
      have ndn := D5.nd
      have nL : ∀ {a o}, g a = some o → a ≠ L ∧ a ∉ FR.map (·.1) := fun {a o} e => ⟨fun q => (by rw [q, D5.fresh] at e; cases e), fun q => (by
        refine e1_2 (List.mem_map.mp q) ?_
        rintro p hp rfl
        rw [(D5.own p (List.mem_append_right _ hp)).2] at e; cases e)⟩
      have nF : ∀ {a o}, g a = some o → a ∉ ((L, oL) :: FR).map (·.1) := fun e q => by
        rcases List.mem_cons.mp q with q | q
        · exact (nL e).1 q
        · exact (nL e).2 q
      have hndF : (((L, oL) :: FR).map (·.1)).Nodup := by
        rw [List.map_cons, List.nodup_cons]
        exact ⟨fun q => (by
          refine e1_2 (List.mem_map.mp q) ?_
          rintro p hp e
          exact D5.neL (List.mem_append_right _ hp) e), hFn⟩
      refine find_cycle_spec (rank := rank) (FR := (L, oL) :: FR) (ns := ns) (dx := dx) (nd := nd) G D.kb (by exact hR) (hA1.mono (by decide)) hfr' ⟨by rw [List.map_cons, hFO.ads]; rfl, ?_, ?_⟩ ?_ ?_ hndF (D.keep _ _ bx) (nF bx) hts ?_ (D.keep _ _ bnd) (nF bnd) hd h2 (fun p hp => D.keep _ _ (bsg p hp)) (fun p hp => nF (bsg p hp)) hz hss hcl hrk ?_
      · intro y hy
        rcases List.mem_cons.mp hy with rfl | hy
        · exact ⟨fun q => ScopeKind.noConfusion (show ScopeKind.function = ScopeKind.module from q), rfl⟩
        · exact hFO.kinds y hy
      · intro p hp
        rcases List.mem_cons.mp hp with rfl | hp
        · intro vs q; rw [hdL] at q; cases q
        · exact hFO.data p hp
      · intro p hp
        rcases List.mem_cons.mp hp with rfl | hp
        · exact hoL
        · exact D5.get (List.mem_append_right _ hp)
      · intro p hp
        rcases List.mem_cons.mp hp with rfl | hp
        · cases q : c.h0.get? L with
          | none => rfl
          | some o => have := D5.base _ _ q; rw [D5.fresh] at this; cases this
        · exact hF0 p hp
      · intro q
        rcases List.mem_cons.mp q with q | q
        · exact D5.neL (p := (dx, _)) (.tail _ (.tail _ (.head _))) q
        · exact hdF q
      · intro f s₃ hR hkp hsl
        have D := D5.afterFrames hoL hkp hsl
        try dsimp only
        wtm_at "go"
        rename Led _ _ _ _ _ _ => D
        refine wpAny_If ?_
        refine isTrue_plain ?_
        wtm_at "go"
        refine truthy_none ?_
        rw [if_neg (by simp)]
        wtm_at "go"
        refine h Dl oD (_, _, _, _) f _ (Nat.le_trans hL (Nat.le_of_lt hLD)) (D.get (.head _)) (by
          have := hD
          rw [List.take_of_length_le (by simp)] at this
          exact this) (D.get (.tail _ (.tail _ (.head _)))) hR (fun b o hb hf e => D.keep _ _ (dl e hb hf)) (fun p hp => D.get (List.mem_append_right _ hp))

end


-- part LP
def menuS : List Str := [Str.ofString "&", Str.ofString "<", Str.ofString ">", Str.ofString "\"", Str.ofString "\r", Str.ofString "\t", Str.ofString ";", Str.ofString "t;", Str.ofString "amp;", Str.ofString ";<", Str.ofString ";&", Str.ofString "a"]
def chI (code : Int) : Int := if code < 55296 then code else code + 2048
def pieceI (x : Int) : Str := if Int.fmod x 2 = 0 then menuS.getD (Int.fmod (Int.fdiv x 2) 12).toNat Str.empty else ⟨#[(chI (Int.fmod (Int.fdiv x 2) 1112064)).toNat]⟩
theorem menu_get (a b c d e f g h i j k l : Tok) {n : Nat} (hn : n < 12) : ∃ t, [Value.str (Str.ofString "&") a, .str (Str.ofString "<") b, .str (Str.ofString ">") c, .str (Str.ofString "\"") d, .str (Str.ofString "\r") e, .str (Str.ofString "\t") f, .str (Str.ofString ";") g, .str (Str.ofString "t;") h, .str (Str.ofString "amp;") i, .str (Str.ofString ";<") j, .str (Str.ofString ";&") k, .str (Str.ofString "a") l][n]? = some (.str (menuS.getD n Str.empty) t) := by
  have : n = 0 ∨ n = 1 ∨ n = 2 ∨ n = 3 ∨ n = 4 ∨ n = 5 ∨ n = 6 ∨ n = 7 ∨ n = 8 ∨ n = 9 ∨ n = 10 ∨ n = 11 := by omega
  rcases this with rfl | rfl | rfl | rfl | rfl | rfl | rfl | rfl | rfl | rfl | rfl | rfl <;> exact ⟨_, rfl⟩
section
variable {prog : Program} {w : World} {A : Around} {E : Value → Shared → Prop} {s : Shared} {c : Cx}
theorem piece_spec (G : Glo (Mine.hd.heap_39 w.params) c.h0) (B : Keep c.h0 s.heap) (hR : Rest c s) (hA : AOk A 2) {x : Int} {tx : Tok} {Q : Value → Shared → Prop}
    (h : ∀ t s', Rest c s' → Keep s.heap s'.heap → Q (.str (pieceI x) t) s') :
    wpAny (model prog w) A (call (.ref 253) [.int x tx]) Q E s := by
  refine' call_fn (binds := [(Str.ofString "x", .int x tx)]) (n := 1) G B hA ?gho ?ghcd ?ghb ?ghl ?gh ?gc1 ?gc2 ?gc3 ?gc4
  wtm_at "ent"
  case gh =>
    intro L h₁ A' hA' hL hk hn hA1
    have D := Led.enter0 (c := c) B hn hk hL
    wtm_at "go"
    refine PyProof.Rows.floordiv_int (by decide) ?_ (Or.inl (PyProof.noPylong_small (by decide)))
    wtm_at "go"
    refine wpAny_If ?_
    wtm_at "go"
    rename Led _ _ _ _ _ _ => D
    refine mod_int' (by decide) ?_
    wtm_at "go"
    by_cases hx : Int.fmod x 2 = 0
    · rw [if_pos (by rw [hx]; rfl)]
      wtm_at "go"
      refine new_list D (by simp [sizeLine]) ?_
      intro l h₂ o hl D ho
      try dsimp only
      wtm_at "go"
      refine mod_int' (by decide) ?_
      have k0 : 0 ≤ Int.fmod (Int.fdiv x 2) 12 := Int.fmod_nonneg_of_pos _ (by decide)
      have k1 : Int.fmod (Int.fdiv x 2) 12 < 12 := Int.fmod_lt_of_pos _ (by decide)
      have hp : pieceI x = menuS.getD (Int.fmod (Int.fdiv x 2) 12).toNat Str.empty := by unfold pieceI; rw [if_pos hx]
      obtain ⟨k, hk2⟩ := Int.eq_ofNat_of_zero_le k0
      rw [hk2] at hp k1 ⊢
      rw [Int.toNat_natCast] at hp
      have k12 : k < 12 := by omega
      obtain ⟨t, ht⟩ := menu_get _ _ _ _ _ _ _ _ _ _ _ _ k12
      rw [← hp] at ht
      refine sub_listN (D.get (.head _)) ⟨0, ho⟩ (by omega) ht ?_
      exact h t _ hR D.keep
    · rw [if_neg (fun q => hx (by simpa using q))]
      wtm_at "go"
      refine mod_int' (by decide) ?_
      wtm_at "go"
      rename Led _ _ _ _ _ _ => D
      have hp : pieceI x = ⟨#[(chI (Int.fmod (Int.fdiv x 2) 1112064)).toNat]⟩ := by unfold pieceI; rw [if_neg hx]
      have k0 : 0 ≤ Int.fmod (Int.fdiv x 2) 1112064 := Int.fmod_nonneg_of_pos _ (by decide)
      have k1 : Int.fmod (Int.fdiv x 2) 1112064 < 1112064 := Int.fmod_lt_of_pos _ (by decide)
      generalize Int.fmod (Int.fdiv x 2) 1112064 = code at hp k0 k1 D ⊢
      unfold chI at hp
      by_cases hc : code < 55296
      · rw [if_pos (decide_eq_true hc)]
        rw [if_pos hc] at hp
        wtm_at "go"
        refine chr_of_range k0 (by omega) ?_
        rw [← hp]
        exact h _ _ hR D.keep
      · rw [if_neg (fun q => hc (of_decide_eq_true q))]
        rw [if_neg hc] at hp
        wtm_at "go"
        refine chr_of_range (by omega) (by omega) ?_
        rw [← hp]
        exact h _ _ hR D.keep
end


-- part ESC
def repL (r : Nat × List Nat) (l : List Nat) : List Nat := l.flatMap fun a => if a = r.1 then r.2 else [a]
def escL (rs : List (Nat × List Nat)) (l : List Nat) : List Nat := rs.foldl (fun l r => repL r l) l
def strOf (l : List Nat) : Str := ⟨l.toArray⟩
theorem repL_free {c : Nat} {z : List Nat} : ∀ {l : List Nat}, c ∉ l → repL (c, z) l = l
  | [], _ => rfl
  | a :: l, h => by
    have h1 : a ≠ c := fun q => h (q ▸ .head _)
    have h2 := repL_free (c := c) (z := z) (l := l) fun q => h (.tail _ q)
    unfold repL at h2 ⊢
    rw [List.flatMap_cons, h2]
    simp [h1]
theorem repL_append (r : Nat × List Nat) (a b : List Nat) : repL r (a ++ b) = repL r a ++ repL r b := List.flatMap_append
theorem repL_one (c : Nat) (z : List Nat) : repL (c, z) [c] = z := by simp [repL]
theorem repL_join (c : Nat) (z : Str) : ∀ parts : List Str, (∀ p ∈ parts, c ∉ p.cps.toList) → repL (c, z.cps.toList) (Str.join ⟨#[c]⟩ parts).cps.toList = (Str.join z parts).cps.toList
  | [], _ => rfl
  | [p], h => by
    show repL _ p.cps.toList = p.cps.toList
    exact repL_free (h p (.head _))
  | p :: q :: r, h => by
    have ih := repL_join c z (q :: r) fun y hy => h y (.tail _ hy)
    have e1 : (Str.join ⟨#[c]⟩ (p :: q :: r)).cps.toList = p.cps.toList ++ [c] ++ (Str.join ⟨#[c]⟩ (q :: r)).cps.toList := by
      show (p ++ ⟨#[c]⟩ ++ Str.join ⟨#[c]⟩ (q :: r) : Str).cps.toList = _
      simp [Str.cps_append]
    have e2 : (Str.join z (p :: q :: r)).cps.toList = p.cps.toList ++ z.cps.toList ++ (Str.join z (q :: r)).cps.toList := by
      show (p ++ z ++ Str.join z (q :: r) : Str).cps.toList = _
      simp [Str.cps_append]
    rw [e1, e2, repL_append, repL_append, ih, repL_one, repL_free (h p (.head _))]
theorem replace_rep (x z : Str) (c : Nat) : Txt.replace x ⟨#[c]⟩ z = strOf (repL (c, z.cps.toList) x.cps.toList) := by
  have e1 := StrLaws.replace_one x z c
  have e2 := repL_join c z (Txt.split x ⟨#[c]⟩) (StrLaws.split_free x c)
  rw [StrLaws.join_split] at e2
  rw [e1, e2]
  unfold strOf
  simp
theorem contains_one (x : Str) (ch : Nat) : Txt.contains x ⟨#[ch]⟩ = decide (ch ∈ x.cps.toList) := StrLaws.found_one x ch
section
variable {prog : Program} {w : World} {A : Around} {E : Value → Shared → Prop} {s : Shared} {c : Cx} {g : PM} {m : Str → Option Value} {news : List (Addr × Obj)}
theorem str_meth {x : Str} {t : Tok} {name : Str} {id : String} {pl : Sem Bool} {Q : Value × List Value → Shared → Prop} (slot : Slot "str" name id) (hty : typeOf (.builtin id) = pure (.type "method_descriptor"))
    (h : Q (.builtin id, [.str x t]) s) : wpAny (model prog w) A (getMethod (.str x t) name pl) Q E s :=
  getMethod_builtin (typeIs_str _ _ _) PySem.F.plainAttrs_str slot hty (fun b e => nomatch e) h
theorem esc_if {env : Env} {p1 p2 p3 p4 p5 p6 p7 p8 p9 p10 p11 : Pos} {y z x : Str} {l zs : List Nat} {ch : Nat} {t : Tok} {pl : Sem Bool} {Q : Flow → Shared → Prop} (D : Led c g env.locals s.heap m news) (hm : m (Str.ofString "text") = some (.str x t)) (hy : y = ⟨#[ch]⟩) (hyz : (y == z) = false) (hl : x.cps.toList = l) (hzs : z.cps.toList = zs) (hxl : l.length ≤ 1000000) (hzl : z.length ≤ 14) (hpos : 0 < s.toks)
    (hk : env.scope.kind = .function) (hkd : env.kindOf (Str.ofString "text") = some .local)
    (hgr : eval (.Call (.Attribute (.Name (Str.ofString "text") p5) (Str.ofString "replace") p6) [.Constant (.str y) 0 p7, .Constant (.str z) 0 p8] [] p9) env = (do
      let ov ← eval (.Name (Str.ofString "text") p5) env
      standAt p6.atName
      let (f, first) ← holding [ov] (getMethod ov (Str.ofString "replace") pl)
      callWith p9 f first (backTo p9 (starEach [.Constant (.str y) 0 p7, .Constant (.str z) 0 p8] env)) []))
    (h : ∀ m' h' t' tk, Led c g env.locals h' m' news → m' (Str.ofString "text") = some (.str (strOf (repL (ch, zs) l)) t') → 0 < tk → Q .next { s with heap := h', toks := tk }) :
    wpAny (model prog w) A (exec (.If (.Compare (.Constant (.str y) 0 p1) [.In] [.Name (Str.ofString "text") p2] p3) [.Assign [.Name (Str.ofString "text") p4] (.Call (.Attribute (.Name (Str.ofString "text") p5) (Str.ofString "replace") p6) [.Constant (.str y) 0 p7, .Constant (.str z) 0 p8] [] p9) p10] [] p11) env) Q E s := by
  refine wpAny_If ?_
  refine wpAny_isTrue_Compare1 ?_ ?_
  rotate_left
  · with_unfolding_all rfl
  wtm_at "s"
  refine nm_l (by exact D) hm ?_ hk hkd
  refine SB.contains ?_
  refine wpAny_truthy_bool ?_
  rw [hy, contains_one]
  by_cases hin : ch ∈ x.cps.toList
  · rw [if_pos (decide_eq_true hin)]
    refine wpAny_execs_cons ?_
    wtm_at "s"
    rw [← hy]
    refine MethodCall_ (pl := pl) ?_ hgr
    refine nm_l (by exact D) hm ?_ hk hkd
    refine str_meth PySem.F.slot_str_replace PySem.F.type_str_replace ?_
    try dsimp only
    wtm_at "call"
    wtm_at "call"
    wtm_at "s"
    wtm_at "call"
    wtm_at "s"
    refine args_nil ?_
    dsimp only [List.nil_append, List.cons_append]
    refine SC.replaceW ?_ ?_ ?_ hyz (by rw [show x.length = x.cps.toList.length from by simp [Str.length], hl]; omega) hzl ?_
    · show s.toks + 1 ≠ 0
      omega
    · show s.toks + 1 + 1 ≠ 0
      omega
    · show s.toks + 1 ≠ s.toks + 1 + 1
      omega
    intro t' k
    rw [hy, replace_rep, hl, hzs]
    refine st_l (by exact D) ?_ hk hkd
    intro h' D'
    refine wpAny_execs_nil ?_
    exact h _ h' t' _ D' (by simp) (Nat.succ_pos _)
  · rw [if_neg (fun q => hin (of_decide_eq_true q))]
    refine wpAny_execs_nil ?_
    have := h m s.heap t (s.toks + 1) D (by
      rw [hm, ← hl, repL_free hin]
      unfold strOf
      simp) (Nat.succ_pos _)
    exact this
end
def rCdata : List (Nat × List Nat) := [(38, [38, 97, 109, 112, 59]), (60, [38, 108, 116, 59]), (62, [38, 103, 116, 59])]
def rAttrib : List (Nat × List Nat) := [(38, [38, 97, 109, 112, 59]), (60, [38, 108, 116, 59]), (62, [38, 103, 116, 59]), (34, [38, 113, 117, 111, 116, 59]), (13, [38, 35, 49, 51, 59]), (10, [38, 35, 49, 48, 59]), (9, [38, 35, 48, 57, 59])]
def rHtml : List (Nat × List Nat) := [(38, [38, 97, 109, 112, 59]), (62, [38, 103, 116, 59]), (34, [38, 113, 117, 111, 116, 59])]
def rCdataC : List (Nat × List Nat) := [(38, [38, 97, 109, 112, 59]), (60, [38, 108, 116, 59]), (62, [38, 103, 116, 59]), (13, [38, 35, 120, 68, 59])]
def rAttribC : List (Nat × List Nat) := [(38, [38, 97, 109, 112, 59]), (60, [38, 108, 116, 59]), (34, [38, 113, 117, 111, 116, 59]), (9, [38, 35, 120, 57, 59]), (10, [38, 35, 120, 65, 59]), (13, [38, 35, 120, 68, 59])]
section
variable {prog : Program} {w : World} {A : Around} {E : Value → Shared → Prop} {s : Shared} {c : Cx}
theorem esc211_spec (G : Glo (Mine.hd.heap_39 w.params) c.h0) (B : Keep c.h0 s.heap) (hR : Rest c s) (hA : AOk A 2) {x : Str} {tx : Tok} {Q : Value → Shared → Prop}
    (hz : ∀ i, (escL (rCdata.take i) x.cps.toList).length ≤ 1000000)
    (h : ∀ t s', Rest c s' → Keep s.heap s'.heap → Q (.str (strOf (escL rCdata x.cps.toList)) t) s') :
    wpAny (model prog w) A (call (.ref 211) [.str x tx]) Q E s := by
  refine' call_fn (binds := [(Str.ofString "text", .str x tx)]) (n := 1) G B hA ?gho ?ghcd ?ghb ?ghl ?gh ?gc1 ?gc2 ?gc3 ?gc4
  wtm_at "ent"
  case gh =>
    intro L h₁ A' hA' hL hk hn hA1
    have D := Led.enter0 (c := c) B hn hk hL
    wtm_at "go"
    refine wpAny_Try_except ?_
    refine wpAny_execs_cons ?_
    have hm0 : (fun y => List.lookup y [(Str.ofString "text", Value.str x tx)].reverse) (Str.ofString "text") = some (.str x tx) := rfl
    have hp0 : 0 < s.toks + [(Str.ofString "text", Value.str x tx)].length := by simp
    have z0 := hz 0
    refine' esc_if (ch := 38) (pl := ?pl0) (by exact D) hm0 rfl (by decide +kernel) rfl rfl (hz 0) (by decide +kernel) hp0 rfl rfl ?gr0 ?_
    case gr0 => with_unfolding_all rfl
    intro m0 h0 t0 tk0 D0 e0 q0
    try dsimp only
    refine wpAny_execs_cons ?_
    refine' esc_if (ch := 60) (pl := ?pl1) (by exact D0) e0 rfl (by decide +kernel) rfl rfl (hz 1) (by decide +kernel) q0 rfl rfl ?gr1 ?_
    case gr1 => with_unfolding_all rfl
    intro m1 h1 t1 tk1 D1 e1 q1
    try dsimp only
    refine wpAny_execs_cons ?_
    refine' esc_if (ch := 62) (pl := ?pl2) (by exact D1) e1 rfl (by decide +kernel) rfl rfl (hz 2) (by decide +kernel) q1 rfl rfl ?gr2 ?_
    case gr2 => with_unfolding_all rfl
    intro m2 h2 t2 tk2 D2 e2 q2
    try dsimp only
    wtm_at "go"
    refine h t2 _ hR D2.keep
theorem esc218_spec (G : Glo (Mine.hd.heap_39 w.params) c.h0) (B : Keep c.h0 s.heap) (hR : Rest c s) (hA : AOk A 2) {x : Str} {tx : Tok} {Q : Value → Shared → Prop}
    (hz : ∀ i, (escL (rAttrib.take i) x.cps.toList).length ≤ 1000000)
    (h : ∀ t s', Rest c s' → Keep s.heap s'.heap → Q (.str (strOf (escL rAttrib x.cps.toList)) t) s') :
    wpAny (model prog w) A (call (.ref 218) [.str x tx]) Q E s := by
  refine' call_fn (binds := [(Str.ofString "text", .str x tx)]) (n := 1) G B hA ?gho ?ghcd ?ghb ?ghl ?gh ?gc1 ?gc2 ?gc3 ?gc4
  wtm_at "ent"
  case gh =>
    intro L h₁ A' hA' hL hk hn hA1
    have D := Led.enter0 (c := c) B hn hk hL
    wtm_at "go"
    refine wpAny_Try_except ?_
    refine wpAny_execs_cons ?_
    have hm0 : (fun y => List.lookup y [(Str.ofString "text", Value.str x tx)].reverse) (Str.ofString "text") = some (.str x tx) := rfl
    have hp0 : 0 < s.toks + [(Str.ofString "text", Value.str x tx)].length := by simp
    have z0 := hz 0
    refine' esc_if (ch := 38) (pl := ?pl0) (by exact D) hm0 rfl (by decide +kernel) rfl rfl (hz 0) (by decide +kernel) hp0 rfl rfl ?gr0 ?_
    case gr0 => with_unfolding_all rfl
    intro m0 h0 t0 tk0 D0 e0 q0
    try dsimp only
    refine wpAny_execs_cons ?_
    refine' esc_if (ch := 60) (pl := ?pl1) (by exact D0) e0 rfl (by decide +kernel) rfl rfl (hz 1) (by decide +kernel) q0 rfl rfl ?gr1 ?_
    case gr1 => with_unfolding_all rfl
    intro m1 h1 t1 tk1 D1 e1 q1
    try dsimp only
    refine wpAny_execs_cons ?_
    refine' esc_if (ch := 62) (pl := ?pl2) (by exact D1) e1 rfl (by decide +kernel) rfl rfl (hz 2) (by decide +kernel) q1 rfl rfl ?gr2 ?_
    case gr2 => with_unfolding_all rfl
    intro m2 h2 t2 tk2 D2 e2 q2
    try dsimp only
    refine wpAny_execs_cons ?_
    refine' esc_if (ch := 34) (pl := ?pl3) (by exact D2) e2 rfl (by decide +kernel) rfl rfl (hz 3) (by decide +kernel) q2 rfl rfl ?gr3 ?_
    case gr3 => with_unfolding_all rfl
    intro m3 h3 t3 tk3 D3 e3 q3
    try dsimp only
    refine wpAny_execs_cons ?_
    refine' esc_if (ch := 13) (pl := ?pl4) (by exact D3) e3 rfl (by decide +kernel) rfl rfl (hz 4) (by decide +kernel) q3 rfl rfl ?gr4 ?_
    case gr4 => with_unfolding_all rfl
    intro m4 h4 t4 tk4 D4 e4 q4
    try dsimp only
    refine wpAny_execs_cons ?_
    refine' esc_if (ch := 10) (pl := ?pl5) (by exact D4) e4 rfl (by decide +kernel) rfl rfl (hz 5) (by decide +kernel) q4 rfl rfl ?gr5 ?_
    case gr5 => with_unfolding_all rfl
    intro m5 h5 t5 tk5 D5 e5 q5
    try dsimp only
    refine wpAny_execs_cons ?_
    refine' esc_if (ch := 9) (pl := ?pl6) (by exact D5) e5 rfl (by decide +kernel) rfl rfl (hz 6) (by decide +kernel) q5 rfl rfl ?gr6 ?_
    case gr6 => with_unfolding_all rfl
    intro m6 h6 t6 tk6 D6 e6 q6
    try dsimp only
    wtm_at "go"
    refine h t6 _ hR D6.keep
theorem esc225_spec (G : Glo (Mine.hd.heap_39 w.params) c.h0) (B : Keep c.h0 s.heap) (hR : Rest c s) (hA : AOk A 2) {x : Str} {tx : Tok} {Q : Value → Shared → Prop}
    (hz : ∀ i, (escL (rHtml.take i) x.cps.toList).length ≤ 1000000)
    (h : ∀ t s', Rest c s' → Keep s.heap s'.heap → Q (.str (strOf (escL rHtml x.cps.toList)) t) s') :
    wpAny (model prog w) A (call (.ref 225) [.str x tx]) Q E s := by
  refine' call_fn (binds := [(Str.ofString "text", .str x tx)]) (n := 1) G B hA ?gho ?ghcd ?ghb ?ghl ?gh ?gc1 ?gc2 ?gc3 ?gc4
  wtm_at "ent"
  case gh =>
    intro L h₁ A' hA' hL hk hn hA1
    have D := Led.enter0 (c := c) B hn hk hL
    wtm_at "go"
    refine wpAny_Try_except ?_
    refine wpAny_execs_cons ?_
    have hm0 : (fun y => List.lookup y [(Str.ofString "text", Value.str x tx)].reverse) (Str.ofString "text") = some (.str x tx) := rfl
    have hp0 : 0 < s.toks + [(Str.ofString "text", Value.str x tx)].length := by simp
    have z0 := hz 0
    refine' esc_if (ch := 38) (pl := ?pl0) (by exact D) hm0 rfl (by decide +kernel) rfl rfl (hz 0) (by decide +kernel) hp0 rfl rfl ?gr0 ?_
    case gr0 => with_unfolding_all rfl
    intro m0 h0 t0 tk0 D0 e0 q0
    try dsimp only
    refine wpAny_execs_cons ?_
    refine' esc_if (ch := 62) (pl := ?pl1) (by exact D0) e0 rfl (by decide +kernel) rfl rfl (hz 1) (by decide +kernel) q0 rfl rfl ?gr1 ?_
    case gr1 => with_unfolding_all rfl
    intro m1 h1 t1 tk1 D1 e1 q1
    try dsimp only
    refine wpAny_execs_cons ?_
    refine' esc_if (ch := 34) (pl := ?pl2) (by exact D1) e1 rfl (by decide +kernel) rfl rfl (hz 2) (by decide +kernel) q1 rfl rfl ?gr2 ?_
    case gr2 => with_unfolding_all rfl
    intro m2 h2 t2 tk2 D2 e2 q2
    try dsimp only
    wtm_at "go"
    refine h t2 _ hR D2.keep
theorem esc232_spec (G : Glo (Mine.hd.heap_39 w.params) c.h0) (B : Keep c.h0 s.heap) (hR : Rest c s) (hA : AOk A 2) {x : Str} {tx : Tok} {Q : Value → Shared → Prop}
    (hz : ∀ i, (escL (rCdataC.take i) x.cps.toList).length ≤ 1000000)
    (h : ∀ t s', Rest c s' → Keep s.heap s'.heap → Q (.str (strOf (escL rCdataC x.cps.toList)) t) s') :
    wpAny (model prog w) A (call (.ref 232) [.str x tx]) Q E s := by
  refine' call_fn (binds := [(Str.ofString "text", .str x tx)]) (n := 1) G B hA ?gho ?ghcd ?ghb ?ghl ?gh ?gc1 ?gc2 ?gc3 ?gc4
  wtm_at "ent"
  case gh =>
    intro L h₁ A' hA' hL hk hn hA1
    have D := Led.enter0 (c := c) B hn hk hL
    wtm_at "go"
    refine wpAny_Try_except ?_
    refine wpAny_execs_cons ?_
    have hm0 : (fun y => List.lookup y [(Str.ofString "text", Value.str x tx)].reverse) (Str.ofString "text") = some (.str x tx) := rfl
    have hp0 : 0 < s.toks + [(Str.ofString "text", Value.str x tx)].length := by simp
    have z0 := hz 0
    refine' esc_if (ch := 38) (pl := ?pl0) (by exact D) hm0 rfl (by decide +kernel) rfl rfl (hz 0) (by decide +kernel) hp0 rfl rfl ?gr0 ?_
    case gr0 => with_unfolding_all rfl
    intro m0 h0 t0 tk0 D0 e0 q0
    try dsimp only
    refine wpAny_execs_cons ?_
    refine' esc_if (ch := 60) (pl := ?pl1) (by exact D0) e0 rfl (by decide +kernel) rfl rfl (hz 1) (by decide +kernel) q0 rfl rfl ?gr1 ?_
    case gr1 => with_unfolding_all rfl
    intro m1 h1 t1 tk1 D1 e1 q1
    try dsimp only
    refine wpAny_execs_cons ?_
    refine' esc_if (ch := 62) (pl := ?pl2) (by exact D1) e1 rfl (by decide +kernel) rfl rfl (hz 2) (by decide +kernel) q1 rfl rfl ?gr2 ?_
    case gr2 => with_unfolding_all rfl
    intro m2 h2 t2 tk2 D2 e2 q2
    try dsimp only
    refine wpAny_execs_cons ?_
    refine' esc_if (ch := 13) (pl := ?pl3) (by exact D2) e2 rfl (by decide +kernel) rfl rfl (hz 3) (by decide +kernel) q2 rfl rfl ?gr3 ?_
    case gr3 => with_unfolding_all rfl
    intro m3 h3 t3 tk3 D3 e3 q3
    try dsimp only
    wtm_at "go"
    refine h t3 _ hR D3.keep
theorem esc239_spec (G : Glo (Mine.hd.heap_39 w.params) c.h0) (B : Keep c.h0 s.heap) (hR : Rest c s) (hA : AOk A 2) {x : Str} {tx : Tok} {Q : Value → Shared → Prop}
    (hz : ∀ i, (escL (rAttribC.take i) x.cps.toList).length ≤ 1000000)
    (h : ∀ t s', Rest c s' → Keep s.heap s'.heap → Q (.str (strOf (escL rAttribC x.cps.toList)) t) s') :
    wpAny (model prog w) A (call (.ref 239) [.str x tx]) Q E s := by
  refine' call_fn (binds := [(Str.ofString "text", .str x tx)]) (n := 1) G B hA ?gho ?ghcd ?ghb ?ghl ?gh ?gc1 ?gc2 ?gc3 ?gc4
  wtm_at "ent"
  case gh =>
    intro L h₁ A' hA' hL hk hn hA1
    have D := Led.enter0 (c := c) B hn hk hL
    wtm_at "go"
    refine wpAny_Try_except ?_
    refine wpAny_execs_cons ?_
    have hm0 : (fun y => List.lookup y [(Str.ofString "text", Value.str x tx)].reverse) (Str.ofString "text") = some (.str x tx) := rfl
    have hp0 : 0 < s.toks + [(Str.ofString "text", Value.str x tx)].length := by simp
    have z0 := hz 0
    refine' esc_if (ch := 38) (pl := ?pl0) (by exact D) hm0 rfl (by decide +kernel) rfl rfl (hz 0) (by decide +kernel) hp0 rfl rfl ?gr0 ?_
    case gr0 => with_unfolding_all rfl
    intro m0 h0 t0 tk0 D0 e0 q0
    try dsimp only
    refine wpAny_execs_cons ?_
    refine' esc_if (ch := 60) (pl := ?pl1) (by exact D0) e0 rfl (by decide +kernel) rfl rfl (hz 1) (by decide +kernel) q0 rfl rfl ?gr1 ?_
    case gr1 => with_unfolding_all rfl
    intro m1 h1 t1 tk1 D1 e1 q1
    try dsimp only
    refine wpAny_execs_cons ?_
    refine' esc_if (ch := 34) (pl := ?pl2) (by exact D1) e1 rfl (by decide +kernel) rfl rfl (hz 2) (by decide +kernel) q1 rfl rfl ?gr2 ?_
    case gr2 => with_unfolding_all rfl
    intro m2 h2 t2 tk2 D2 e2 q2
    try dsimp only
    refine wpAny_execs_cons ?_
    refine' esc_if (ch := 9) (pl := ?pl3) (by exact D2) e2 rfl (by decide +kernel) rfl rfl (hz 3) (by decide +kernel) q2 rfl rfl ?gr3 ?_
    case gr3 => with_unfolding_all rfl
    intro m3 h3 t3 tk3 D3 e3 q3
    try dsimp only
    refine wpAny_execs_cons ?_
    refine' esc_if (ch := 10) (pl := ?pl4) (by exact D3) e3 rfl (by decide +kernel) rfl rfl (hz 4) (by decide +kernel) q3 rfl rfl ?gr4 ?_
    case gr4 => with_unfolding_all rfl
    intro m4 h4 t4 tk4 D4 e4 q4
    try dsimp only
    refine wpAny_execs_cons ?_
    refine' esc_if (ch := 13) (pl := ?pl5) (by exact D4) e4 rfl (by decide +kernel) rfl rfl (hz 5) (by decide +kernel) q4 rfl rfl ?gr5 ?_
    case gr5 => with_unfolding_all rfl
    intro m5 h5 t5 tk5 D5 e5 q5
    try dsimp only
    wtm_at "go"
    refine h t5 _ hR D5.keep
end


-- part LS
theorem strsAre_vs : ∀ ps : List (Str × Tok), StrsAre (strVs ps) (ps.map (·.1))
  | [] => .nil
  | p :: r => .cons p.1 p.2 (strsAre_vs r)
theorem join_cps (ys : List Str) : (Str.join (Str.ofString "") ys).cps.toList = ys.flatMap (·.cps.toList) := by
  induction ys with
  | nil => rfl
  | cons a r ih =>
    cases r with
    | nil => show a.cps.toList = _; simp
    | cons b r =>
      show (a ++ Str.ofString "" ++ Str.join (Str.ofString "") (b :: r) : Str).cps.toList = _
      rw [List.flatMap_cons, ← ih]
      simp only [Str.cps_append, Array.toList_append]
      have : (Str.ofString "").cps.toList = [] := rfl
      rw [this, List.append_nil]
theorem join_nil {f : Nat → List Nat} (l : List Nat) : Txt.join (Str.ofString "") (l.map fun ch => strOf (f ch)) = strOf (l.flatMap f) := by
  have h : (Txt.join (Str.ofString "") (l.map fun ch => strOf (f ch))).cps.toList = l.flatMap f := by
    unfold Txt.join
    rw [StrLaws.glued_eq_join, join_cps, List.flatMap_map]
    rfl
  rw [← h]
  unfold strOf
  simp
theorem sum_sp {rf : Nat → Option (List Nat)} (h : ∀ ch z, rf ch = some z → z.length ≤ 100) : ∀ l : List Nat, ((l.map fun ch => strOf ((rf ch).getD [ch])).map (·.length)).sum ≤ 100 * l.length
  | [] => by simp
  | a :: l => by
    have ih := sum_sp h l
    rw [List.map_cons, List.map_cons, List.sum_cons, List.length_cons]
    have : (strOf ((rf a).getD [a])).length ≤ 100 := by
      unfold strOf Str.length
      rw [List.size_toArray]
      cases q : rf a with
      | none => simp
      | some z => exact h a z q
    omega
section
variable {prog : Program} {w : World} {A : Around} {E : Value → Shared → Prop} {s : Shared} {c : Cx}
theorem spelled_spec (G : Glo (Mine.hd.heap_39 w.params) c.h0) (B : Keep c.h0 s.heap) (hR : Rest c s) (hA : AOk A 2) {x : Str} {tx : Tok} {d : Addr} {od : Obj} {kvs : List (Str × Value)} {Q : Value → Shared → Prop}
    (hd : s.heap.get? d = some od) (hdd : od.IsDictOf (strKind prog w) kvs) (h2 : 2 < d)
    {rf : Nat → Option (List Nat)} (hkv : ∀ ch : Nat, ∃ t, valueAt kvs ⟨#[ch]⟩ = (rf ch).map fun z => .str (strOf z) t) (hx : x.cps.size ≤ 10000) (hrf : ∀ ch z, rf ch = some z → z.length ≤ 100)
    (h : ∀ t s', Rest c s' → Keep s.heap s'.heap → Q (.str (strOf (x.cps.toList.flatMap fun ch => (rf ch).getD [ch])) t) s') :
    wpAny (model prog w) A (call (.ref 258) [.str x tx, .ref d]) Q E s := by
  refine' call_fnC (mu := []) (binds := [(Str.ofString "text", .str x tx), (Str.ofString "references", .ref d)]) (n := 1) G B hA ?gho ?ghcd ?ghb ?ghl ?gnd ?gm1 ?gm2 ?gm3 ?gh ?gc2 ?gc3 ?gc4
  wtm_at "entC"
  case gh =>
    intro L h₁ tk A' cells hA' hL hk D hC hab hA1
    refine e1_2 (hC.one) ?_
    rintro oR rfl hoR
    try dsimp only at D
    wtm_at "go"
    refine str_meth PySem.F.slot_str_join PySem.F.type_str_join ?_
    try dsimp only
    wtm_at "go"
    refine comp_eval (cl := [(Str.ofString "references", L + 1)]) rfl rfl (by decide) ?_
    wtm_at "go"
    refine itr_str (by exact D) ?_
    intro I h₂ oI hLI D hit
    try dsimp only
    have hoR' : oR.data = .cell (some (.ref d)) := hoR
    clear hC hab
    refine comp_it hA1.handled hit (fun i ys news => ∃ ps : List (Str × Tok), ys = strVs ps ∧ ps.map (·.1) = (x.cps.toList.take i).map (fun ch => strOf ((rf ch).getD [ch])) ∧ news = [(L + 1, oR)]) ⟨[], rfl, rfl, rfl⟩ D (by exact hR) (by omega) (by decide) rfl rfl ?_ ?_ ?_
    · intro i ys news' _ b hb hbI
      exact absurd (List.mem_singleton.mp hb) hbI
    · clear D hR
      rintro C Dl i v m₁ ys news₁ oD oI oL s₁ hi hxp
      refine e2_2 hxp ?_
      clear hxp
      rintro ch u hch rfl ⟨ps, rfl, hps, rfl⟩ hm D hD hNs hR
      refine tests_nil ?_
      rw [if_pos rfl]
      wtm_at "go"
      have bd : hid s.heap (([] : List (Addr × Obj)).map (·.1)) d = some od := hid_some hd List.not_mem_nil
      refine nm_c (by exact D) rfl (.tail _ (.tail _ (.tail _ (.head _)))) hoR' ?_
      refine dict_meth PySem.F.slot_dict_get PySem.F.type_dict_get (D.keep _ _ bd) hdd ?_
      try dsimp only
      wtm_at "go"
      refine dict_get2 (knd := strKind prog w) h2 (strKind_is _ _ ⟨#[ch]⟩ u) (D.keep _ _ bd) hdd ?_
      obtain ⟨tv, hv⟩ := hkv ch
      obtain ⟨ty, hy⟩ : ∃ ty, (valueAt kvs ⟨#[ch]⟩).getD (.str ⟨#[ch]⟩ u) = .str (strOf ((rf ch).getD [ch])) ty := by
        rw [hv]
        cases rf ch with
        | none => exact ⟨u, rfl⟩
        | some z => exact ⟨tv, rfl⟩
      rw [hy]
      refine ⟨_, _, D, hR, ps ++ [(strOf ((rf ch).getD [ch]), ty)], by simp [strVs], ?_, rfl⟩
      have hch' : x.cps.toList[i]? = some ch := by rw [Array.getElem?_toList]; exact hch
      rw [List.map_append, hps, List.take_add_one, hch']
      simp
    · clear D hR
      rintro Dl C oC oD ys news' s₂ mC hxp
      refine e1_3 hxp ?_
      clear hxp
      rintro ps rfl hps rfl D hC hD hl hLD hR
      refine comp_fin D hC ?_
      intro h₄ D
      try dsimp only
      wtm_at "go"
      rw [List.take_of_length_le (by simp)] at hps
      have hys : StrsAre (strVs ps).toArray.toList (ps.map (·.1)) := by
        rw [List.toList_toArray]
        exact strsAre_vs ps
      refine join_listW (IsLst.isList (D.get (.head _)) hD) hys (by decide) ?_ ?_
      · rw [hps]
        have := sum_sp (rf := rf) hrf x.cps.toList
        simp at this hx ⊢
        omega
      · intro t' k
        rw [hps, show Txt.join (Str.ofString "") _ = _ from join_nil _]
        exact h t' _ hR (fun b o e => D.keep _ _ (hid_some e List.not_mem_nil))
end


-- part PH
section
variable {α : Type} [Inhabited α]
structure TotLt (lt : α → α → Bool) : Prop where
  trans : ∀ a b c, lt b a = false → lt c b = false → lt c a = false
  asymm : ∀ a b, lt a b = true → lt b a = false
  irr : ∀ a, lt a a = false
variable {lt : α → α → Bool}
theorem get!_set (l : List α) (i j : Nat) (x : α) (hi : i < l.length) : (l.set i x)[j]! = if i = j then x else l[j]! := by
  simp only [List.getElem!_eq_getElem?_getD, List.getElem?_set]
  split
  · rename_i e; subst e; simp
  · rfl
def HeapFrom (lt : α → α → Bool) (l : List α) (p : Nat) : Prop := ∀ i, 0 < i → p ≤ (i - 1) / 2 → i < l.length → lt l[i]! l[(i - 1) / 2]! = false
inductive Desc (p : Nat) : Nat → Prop
  | refl : Desc p p
  | step {j : Nat} : 0 < j → Desc p ((j - 1) / 2) → Desc p j
theorem Desc.le {p j : Nat} (h : Desc p j) : p ≤ j := by
  induction h with
  | refl => exact Nat.le_refl _
  | step h0 _ ih => omega
theorem Desc.par {p j : Nat} (h : Desc p j) (hp : p < j) : Desc p ((j - 1) / 2) := by
  cases h with
  | refl => exact absurd hp (Nat.lt_irrefl _)
  | step _ h => exact h
/-- the hole at pos -/
structure Hole (lt : α → α → Bool) (p : Nat) (l : List α) (pos : Nat) : Prop where
  inl : pos < l.length
  d : Desc p pos
  g1 : ∀ i, 0 < i → p ≤ (i - 1) / 2 → i < l.length → i ≠ pos → (i - 1) / 2 ≠ pos → lt l[i]! l[(i - 1) / 2]! = false
  g3 : p < pos → ∀ j, 0 < j → j < l.length → (j - 1) / 2 = pos → lt l[j]! l[(pos - 1) / 2]! = false
theorem set_perm {l : List α} {i j : Nat} {x : α} (hi : i < l.length) (hj : j < l.length) (hij : i ≠ j) : ((l.set i l[j]!).set j x).Perm (l.set i x) := by
  have := List.set_set_perm (as := l.set i x) (i := i) (j := j) (by simpa using hi) (by simpa using hj)
  simp only [List.getElem_set_self, List.set_set] at this
  rw [List.getElem_set_ne hij] at this
  rw [getElem!_pos l j hj]
  exact this
theorem sd_perm (x : α) (st : Nat) : ∀ (pos : Nat) (l : List α), pos < l.length → (sd lt x st l pos).Perm (l.set pos x) := by
  intro pos
  induction pos using Nat.strongRecOn with
  | _ pos ih =>
    intro l hp
    rw [sd]
    split
    · rename_i h1
      split
      · rename_i h2
        refine (ih ((pos - 1) / 2) (by omega) _ (by simp; omega)).trans ?_
        exact set_perm hp (by omega) (by omega)
      · exact .refl _
    · exact .refl _
theorem sd_heap (T : TotLt lt) (x : α) (p : Nat) : ∀ (pos : Nat) (l : List α), Hole lt p l pos → (∀ j, 0 < j → j < l.length → (j - 1) / 2 = pos → lt l[j]! x = false) → HeapFrom lt (sd lt x p l pos) p := by
  intro pos
  induction pos using Nat.strongRecOn with
  | _ pos ih =>
    intro l H g4
    have hp := H.inl
    rw [sd]
    split
    · rename_i h1
      have hd := H.d.par h1
      have hpar := hd.le
      have hpl : (pos - 1) / 2 < pos := by omega
      split
      · rename_i h2
        refine ih ((pos - 1) / 2) (by omega) _ ⟨by simp; omega, hd, ?_, ?_⟩ ?_
        · intro i h0 hi hil hne hpne
          rw [List.length_set] at hil
          rw [get!_set _ _ _ _ hp, get!_set _ _ _ _ hp]
          rw [if_neg (by rintro rfl; exact hpne rfl)]
          split
          · rename_i e
            exact H.g3 h1 i h0 hil e.symm
          · rename_i e
            exact H.g1 i h0 hi hil (by rintro rfl; exact hpne rfl) (fun q => e q.symm)
        · intro h3 j h0 hjl hj
          rw [List.length_set] at hjl
          rw [get!_set _ _ ((((pos - 1) / 2) - 1) / 2) _ hp, if_neg (by omega), get!_set _ _ _ _ hp]
          have e1 := H.g1 ((pos - 1) / 2) (by omega) (hd.par h3).le (by omega) (by omega) (by omega)
          split
          · exact e1
          · rename_i e
            have e2 := H.g1 j h0 (by omega) hjl (fun q => e q.symm) (by omega)
            rw [hj] at e2
            exact T.trans _ _ _ e1 e2
        · intro j h0 hjl hj
          rw [List.length_set] at hjl
          rw [get!_set _ _ _ _ hp]
          split
          · exact T.asymm _ _ h2
          · rename_i e
            have e2 := H.g1 j h0 (by omega) hjl (fun q => e q.symm) (by omega)
            rw [hj] at e2
            exact T.trans _ _ _ (T.asymm _ _ h2) e2
      · rename_i h2
        intro i h0 hi hil
        rw [List.length_set] at hil
        rw [get!_set _ _ _ _ hp, get!_set _ _ _ _ hp]
        by_cases e : pos = i
        · subst e
          rw [if_pos rfl, if_neg (by omega)]
          simpa using h2
        · rw [if_neg e]
          split
          · rename_i e2; exact g4 i h0 hil e2.symm
          · rename_i e2; exact H.g1 i h0 hi hil (Ne.symm e) (Ne.symm e2)
    · rename_i h1
      have hpp : pos = p := by have := H.d.le; omega
      subst hpp
      intro i h0 hi hil
      rw [List.length_set] at hil
      rw [get!_set _ _ _ _ hp, get!_set _ _ _ _ hp]
      rw [if_neg (by omega)]
      split
      · rename_i e2; exact g4 i h0 hil e2.symm
      · rename_i e2; exact H.g1 i h0 hi hil (by omega) (Ne.symm e2)
theorem suGo_hole (T : TotLt lt) (p : Nat) (x : α) : ∀ (n : Nat) (l : List α) (pos : Nat), l.length - pos = n → Hole lt p l pos →
    Hole lt p (suGo lt l pos).1 (suGo lt l pos).2 ∧ ((suGo lt l pos).1.set (suGo lt l pos).2 x).Perm (l.set pos x) ∧ (suGo lt l pos).1.length ≤ 2 * (suGo lt l pos).2 + 1 := by
  intro n
  induction n using Nat.strongRecOn with
  | _ n ih =>
    intro l pos hn H
    have hp := H.inl
    rw [suGo]
    split
    · rename_i h1
      have hch : ∃ ch, (if 2 * pos + 2 < l.length ∧ ¬ lt l[2 * pos + 1]! l[2 * pos + 2]! = true then 2 * pos + 2 else 2 * pos + 1) = ch ∧ (ch - 1) / 2 = pos ∧ pos < ch ∧ ch < l.length ∧ ∀ j, 0 < j → j < l.length → (j - 1) / 2 = pos → j ≠ ch → lt l[j]! l[ch]! = false := by
        split
        · rename_i h2
          refine ⟨_, rfl, by omega, by omega, h2.1, fun j h0 hj e hne => ?_⟩
          have : j = 2 * pos + 1 := by omega
          subst this
          simpa using h2.2
        · rename_i h2
          refine ⟨_, rfl, by omega, by omega, h1, fun j h0 hj e hne => ?_⟩
          have : j = 2 * pos + 2 := by omega
          subst this
          have h3 : lt l[2 * pos + 1]! l[2 * pos + 2]! = true := by
            cases q : lt l[2 * pos + 1]! l[2 * pos + 2]! with
            | true => rfl
            | false => exact absurd ⟨hj, by rw [q]; exact Bool.false_ne_true⟩ h2
          exact T.asymm _ _ h3
      obtain ⟨ch, e, c1, c2, c3, c4⟩ := hch
      dsimp only
      rw [e]
      have H' : Hole lt p (l.set pos l[ch]!) ch := by
        refine ⟨by simpa using c3, .step (by omega) (by rw [c1]; exact H.d), ?_, ?_⟩
        · intro i h0 hi hil hne hpne
          rw [List.length_set] at hil
          rw [get!_set _ _ _ _ hp, get!_set _ _ _ _ hp]
          by_cases e1 : pos = i
          · subst e1
            rw [if_pos rfl, if_neg (by omega)]
            have := H.d.le
            exact H.g3 (by omega) ch (by omega) c3 c1
          · rw [if_neg e1]
            split
            · rename_i e2; exact c4 i h0 hil e2.symm hne
            · rename_i e2; exact H.g1 i h0 hi hil (Ne.symm e1) (Ne.symm e2)
        · intro h3 j h0 hjl hj
          rw [List.length_set] at hjl
          rw [get!_set _ _ _ _ hp, get!_set _ _ _ _ hp]
          rw [if_neg (by omega), if_pos c1.symm]
          have := H.d.le
          have e2 := H.g1 j h0 (by omega) hjl (by omega) (by omega)
          rw [hj] at e2
          exact e2
      obtain ⟨r1, r2, r3⟩ := ih _ (by rw [List.length_set, ← hn]; omega) (l.set pos l[ch]!) ch rfl H'
      exact ⟨r1, r2.trans (set_perm hp c3 (by omega)), r3⟩
    · exact ⟨H, .refl _, by dsimp only; omega⟩
theorem su_heap (T : TotLt lt) {l : List α} {p : Nat} (hp : p < l.length) (h : HeapFrom lt l (p + 1)) : HeapFrom lt (su lt l p) p ∧ (su lt l p).Perm l := by
  have H : Hole lt p l p := ⟨hp, .refl, fun i h0 hi hil hne hpne => h i h0 (by omega) hil, fun q => absurd q (Nat.lt_irrefl _)⟩
  obtain ⟨H1, hP, hlen⟩ := suGo_hole T p l[p]! _ l p rfl H
  unfold su
  generalize (suGo lt l p).1 = l1 at *
  generalize (suGo lt l p).2 = pos at *
  have hx := H1.inl
  have e0 : l.set p l[p]! = l := by rw [getElem!_pos l p hp]; simp
  rw [e0] at hP
  have H2 : Hole lt p (l1.set pos l[p]!) pos := by
    refine ⟨by simpa using hx, H1.d, fun i h0 hi hil hne hpne => ?_, fun q j h0 hj e => ?_⟩
    · rw [List.length_set] at hil
      rw [get!_set _ _ _ _ hx, get!_set _ _ _ _ hx, if_neg (Ne.symm hne), if_neg (Ne.symm hpne)]
      exact H1.g1 i h0 hi hil hne hpne
    · rw [List.length_set] at hj
      omega
  refine ⟨sd_heap T _ _ _ _ H2 fun j h0 hj e => ?_, ?_⟩
  · rw [List.length_set] at hj
    omega
  · refine (sd_perm _ _ _ _ (by simpa using hx)).trans ?_
    rw [List.set_set]
    exact hP
theorem su_perm' (T : TotLt lt) : ∀ (l : List α) (p : Nat), p < l.length → (su lt l p).Perm l := by
  intro l p hp
  -- the perm needs no order: the hole's orders are not used for it
  have go : ∀ (n : Nat) (l : List α) (pos : Nat) (x : α), l.length - pos = n → pos < l.length → (suGo lt l pos).2 < (suGo lt l pos).1.length ∧ ((suGo lt l pos).1.set (suGo lt l pos).2 x).Perm (l.set pos x) := by
    intro n
    induction n using Nat.strongRecOn with
    | _ n ih =>
      intro l pos x hn hp
      rw [suGo]
      split
      · rename_i h1
        dsimp only
        generalize hc : (if 2 * pos + 2 < l.length ∧ ¬ lt l[2 * pos + 1]! l[2 * pos + 2]! = true then 2 * pos + 2 else 2 * pos + 1) = ch
        have c3 : ch < l.length ∧ pos < ch := by
          rw [← hc]; split <;> omega
        obtain ⟨r1, r2⟩ := ih _ (by rw [List.length_set, ← hn]; omega) (l.set pos l[ch]!) ch x rfl (by simpa using c3.1)
        exact ⟨r1, r2.trans (set_perm hp c3.1 (by omega))⟩
      · exact ⟨hp, .refl _⟩
  obtain ⟨h1, h2⟩ := go _ l p l[p]! rfl hp
  unfold su
  refine (sd_perm _ _ _ _ (by simpa using h1)).trans ?_
  rw [List.set_set]
  refine h2.trans ?_
  rw [getElem!_pos l p hp]
  simp
theorem hpf_heap (T : TotLt lt) (l : List α) : HeapFrom lt (hpf lt l) 0 ∧ (hpf lt l).Perm l := by
  unfold hpf
  have go : ∀ (n : Nat) (l₁ : List α), n ≤ l.length → l₁.Perm l → HeapFrom lt l₁ n → HeapFrom lt ((List.range n).reverse.foldl (su lt) l₁) 0 ∧ ((List.range n).reverse.foldl (su lt) l₁).Perm l := by
    intro n
    induction n with
    | zero => intro l₁ _ hp h; exact ⟨h, hp⟩
    | succ n ih =>
      intro l₁ hn hp h
      rw [List.range_succ, List.reverse_append]
      obtain ⟨h1, h2⟩ := su_heap T (l := l₁) (p := n) (by rw [hp.length_eq]; omega) h
      exact ih _ (by omega) (h2.trans hp) h1
  refine go _ l (by omega) (.refl _) fun i h0 hi hil => ?_
  omega
theorem heap_min (T : TotLt lt) {l : List α} (h : HeapFrom lt l 0) : ∀ i, i < l.length → lt l[i]! l[0]! = false := by
  intro i
  induction i using Nat.strongRecOn with
  | _ i ih =>
    intro hi
    by_cases h0 : i = 0
    · subst h0
      exact T.irr _
    · exact T.trans _ _ _ (ih ((i - 1) / 2) (by omega) (by omega)) (h i (by omega) (Nat.zero_le _) hi)
/-- the heap behind i pops -/
structure Popped (lt : α → α → Bool) (its ds hs : List α) : Prop where
  perm : (ds ++ hs).Perm its
  heap : HeapFrom lt hs 0
  sorted : ds.Pairwise fun a b => lt b a = false
  le : ∀ d ∈ ds, ∀ h ∈ hs, lt h d = false
def popL (lt : α → α → Bool) (its : List α) (y : α) : List α := if its = [] then [] else su lt (its.set 0 y) 0
def popV (its : List α) (y : α) : α := if its = [] then y else its[0]!
theorem Popped.pop (T : TotLt lt) {its ds hs : List α} {y : α} (P : Popped lt its ds (hs ++ [y])) (popH : hs = [] ∨ hs ≠ []) : Popped lt its (ds ++ [popV hs y]) (if hs = [] then [] else su lt (hs.set 0 y) 0) := by
  unfold popV
  rcases popH with rfl | hne
  · rw [if_pos rfl, if_pos rfl]
    refine ⟨by simpa using P.perm, fun i _ _ q => absurd q (by simp), ?_, fun d _ h q => nomatch q⟩
    rw [List.pairwise_append]
    refine ⟨P.sorted, List.pairwise_singleton _ _, fun a ha b hb => P.le a ha b (by simpa using hb)⟩
  · rw [if_neg hne, if_neg hne]
    obtain ⟨x, r, rfl⟩ := List.exists_cons_of_ne_nil hne
    have hh : HeapFrom lt ((x :: r).set 0 y) (0 + 1) := by
      intro i h0 hi hil
      have := P.heap i h0 (Nat.zero_le _) (by simp at hil ⊢; omega)
      simp only [List.getElem!_eq_getElem?_getD] at this ⊢
      have e1 : ((x :: r).set 0 y)[i]? = ((x :: r) ++ [y])[i]? := by
        rw [List.getElem?_set, if_neg (by omega), List.getElem?_append_left (by simpa using hil)]
      have e2 : ((x :: r).set 0 y)[(i - 1) / 2]? = ((x :: r) ++ [y])[(i - 1) / 2]? := by
        rw [List.getElem?_set, if_neg (by omega), List.getElem?_append_left (by simp at hil ⊢; omega)]
      rw [e1, e2]
      exact this
    obtain ⟨h1, h2⟩ := su_heap T (l := (x :: r).set 0 y) (p := 0) (by simp) hh
    have hpm : (x :: (su lt ((x :: r).set 0 y) 0)).Perm ((x :: r) ++ [y]) := by
      refine (List.Perm.cons _ h2).trans ?_
      show (x :: y :: r).Perm (x :: (r ++ [y]))
      exact List.Perm.cons _ (List.perm_append_singleton y r).symm
    have hmin : ∀ h ∈ (x :: r) ++ [y], lt h x = false := by
      intro h hm
      obtain ⟨i, hi, e⟩ := List.mem_iff_getElem.mp hm
      have := heap_min T P.heap i hi
      rw [getElem!_pos _ i hi, e] at this
      exact this
    have hx : (x :: r)[0]! = x := rfl
    rw [hx]
    refine ⟨?_, h1, ?_, ?_⟩
    · refine List.Perm.trans ?_ P.perm
      rw [List.append_assoc]
      exact List.Perm.append_left ds hpm
    · rw [List.pairwise_append]
      exact ⟨P.sorted, List.pairwise_singleton _ _, fun a ha b hb => by
        rw [List.mem_singleton.mp hb]
        exact P.le a ha x (by simp)⟩
    · intro d hd h hm
      have hm' : h ∈ (x :: r) ++ [y] := hpm.mem_iff.mp (.tail _ hm)
      rcases List.mem_append.mp hd with hd | hd
      · exact P.le d hd h hm'
      · rw [List.mem_singleton.mp hd]
        exact hmin h hm'
end
theorem lexlt_trans' {a b c : List Nat} (h1 : ¬ b < a) (h2 : ¬ c < b) : ¬ c < a := by
  have h1' : a ≤ b := h1
  have h2' : b ≤ c := h2
  exact fun q => List.not_lt.mpr (List.le_trans h1' h2') q
theorem ltI_tot : TotLt ltI where
  trans := by
    intro a b c h1 h2
    unfold ltI ltK at *
    generalize a.2.1 = i at *
    generalize b.2.1 = j at *
    generalize c.2.1 = k at *
    by_cases e1 : j = i
    · subst e1
      by_cases e2 : k = j
      · subst e2
        rw [if_pos rfl] at h1 h2 ⊢
        by_cases f : c.2.2 = a.2.2
        · rw [if_pos f]
        · rw [if_neg f]
          refine decide_eq_false ?_
          by_cases f1 : b.2.2 = a.2.2
          · rw [← f1]
            rw [if_neg (fun q => f (q.trans f1))] at h2
            exact of_decide_eq_false h2
          · rw [if_neg f1] at h1
            by_cases f2 : c.2.2 = b.2.2
            · rw [f2]; exact of_decide_eq_false h1
            · rw [if_neg f2] at h2
              exact lexlt_trans' (of_decide_eq_false h1) (of_decide_eq_false h2)
      · rw [if_neg e2] at h2 ⊢
        exact h2
    · rw [if_neg e1] at h1
      have h1' := of_decide_eq_false h1
      by_cases e2 : k = j
      · subst e2
        rw [if_neg e1]
        exact h1
      · rw [if_neg e2] at h2
        have h2' := of_decide_eq_false h2
        rw [if_neg (by omega)]
        exact decide_eq_false (by omega)
  asymm := by
    intro a b h
    unfold ltI ltK at *
    by_cases e1 : a.2.1 = b.2.1
    · rw [if_pos e1] at h
      rw [if_pos e1.symm]
      by_cases f : a.2.2 = b.2.2
      · rw [if_pos f] at h; cases h
      · rw [if_neg f] at h
        rw [if_neg (Ne.symm f)]
        have := of_decide_eq_true h
        exact decide_eq_false (List.not_lt.mpr (List.le_of_lt this))
    · rw [if_neg e1] at h
      rw [if_neg (Ne.symm e1)]
      have := of_decide_eq_true h
      exact decide_eq_false (by omega)
  irr := by
    intro a
    unfold ltI ltK
    rw [if_pos rfl, if_pos rfl]
theorem ltI_len {a b : It} (h : ltI b a = false) : a.2.1 ≤ b.2.1 := by
  unfold ltI ltK at h
  by_cases e : b.2.1 = a.2.1
  · omega
  · rw [if_neg e] at h
    have := of_decide_eq_false h
    omega

-- part PE
theorem escL_append (rs : List (Nat × List Nat)) : ∀ a b : List Nat, escL rs (a ++ b) = escL rs a ++ escL rs b := by
  induction rs with
  | nil => intro a b; rfl
  | cons r rs ih => intro a b; show escL rs (repL r (a ++ b)) = _; rw [repL_append, ih]; rfl
theorem escL_nil (rs : List (Nat × List Nat)) : escL rs [] = [] := by
  induction rs with
  | nil => rfl
  | cons r rs ih => exact ih
theorem escL_flat (rs : List (Nat × List Nat)) (l : List Nat) : escL rs l = l.flatMap fun ch => escL rs [ch] := by
  induction l with
  | nil => exact escL_nil rs
  | cons a l ih => rw [List.flatMap_cons, ← ih, ← escL_append]; rfl
def okR (rs : List (Nat × List Nat)) : Prop := rs.Pairwise fun a b => b.1 ∉ a.2
theorem escL_free {rs : List (Nat × List Nat)} : ∀ {l : List Nat}, (∀ r ∈ rs, r.1 ∉ l) → escL rs l = l := by
  induction rs with
  | nil => intro l _; rfl
  | cons r rs ih =>
    intro l h
    show escL rs (repL (r.1, r.2) l) = l
    rw [repL_free (h r (.head _))]
    exact ih fun q hq => h q (.tail _ hq)
theorem escL_one {rs : List (Nat × List Nat)} (h : okR rs) (ch : Nat) : escL rs [ch] = (rs.lookup ch).getD [ch] := by
  induction rs with
  | nil => rfl
  | cons r rs ih =>
    obtain ⟨k, z⟩ := r
    unfold okR at h
    rw [List.pairwise_cons] at h
    show escL rs (repL (k, z) [ch]) = _
    rw [List.lookup_cons]
    by_cases e : ch = k
    · subst e
      rw [repL_one, escL_free fun q hq => h.1 q hq]
      simp
    · rw [repL_free (by simpa using fun q => e q.symm), show (ch == k) = false from by simpa using e]
      exact ih h.2
theorem escL_eq {rs : List (Nat × List Nat)} (h : okR rs) (l : List Nat) : escL rs l = l.flatMap fun ch => (rs.lookup ch).getD [ch] := by
  rw [escL_flat]
  exact congrArg (fun f => List.flatMap f l) (funext fun ch => escL_one h ch)
def lenR (rs : List (Nat × List Nat)) : Prop := ∀ r ∈ rs, r.2 ≠ [] ∧ r.2.length ≤ 6
theorem look_len {rs : List (Nat × List Nat)} (h : lenR rs) {ch : Nat} {z : List Nat} (e : rs.lookup ch = some z) : z ≠ [] ∧ z.length ≤ 6 := by
  induction rs with
  | nil => cases e
  | cons r rs ih =>
    obtain ⟨k, y⟩ := r
    rw [List.lookup_cons] at e
    split at e
    · cases e; exact h _ (.head _)
    · exact ih (fun q hq => h q (.tail _ hq)) e
theorem one_len {rs : List (Nat × List Nat)} (h : lenR rs) (ch : Nat) : (rs.lookup ch).getD [ch] ≠ [] ∧ ((rs.lookup ch).getD [ch]).length ≤ 6 := by
  cases e : rs.lookup ch with
  | none => simp
  | some z => simpa using look_len h e
theorem flat_len {f : Nat → List Nat} {n : Nat} (h : ∀ ch, (f ch).length ≤ n) (l : List Nat) : (l.flatMap f).length ≤ n * l.length := by
  induction l with
  | nil => simp
  | cons a l ih =>
    rw [List.flatMap_cons, List.length_append, List.length_cons, Nat.mul_succ]
    have := h a
    omega
theorem escL_len {rs : List (Nat × List Nat)} (h : okR rs) (hl : lenR rs) (l : List Nat) : (escL rs l).length ≤ 6 * l.length := by
  rw [escL_eq h]; exact flat_len (fun ch => (one_len hl ch).2) l
theorem escL_take_len {rs : List (Nat × List Nat)} (h : okR rs) (hl : lenR rs) (l : List Nat) (i : Nat) : (escL (rs.take i) l).length ≤ 6 * l.length :=
  escL_len (h.sublist (List.take_sublist i rs)) (fun r hr => hl r (List.mem_of_mem_take hr)) l
theorem escL_ne {rs : List (Nat × List Nat)} (h : okR rs) (hl : lenR rs) {l : List Nat} (hn : l ≠ []) : escL rs l ≠ [] := by
  rw [escL_eq h]
  cases l with
  | nil => exact absurd rfl hn
  | cons a l =>
    rw [List.flatMap_cons]
    intro q
    exact (one_len hl a).1 (List.append_eq_nil_iff.mp q).1
def escK : Nat → List (Nat × List Nat)
  | 0 => rCdata
  | 1 => rAttrib
  | 2 => rHtml
  | 3 => rCdataC
  | _ => rAttribC
def fnK : Nat → Addr
  | 0 => 211
  | 1 => 218
  | 2 => 225
  | 3 => 232
  | _ => 239
theorem escK_ok (k : Nat) : okR (escK k) := by
  unfold escK okR
  split <;> decide
theorem escK_len (k : Nat) : lenR (escK k) := by
  unfold escK lenR
  split <;> decide
section
variable {prog : Program} {w : World} {A : Around} {E : Value → Shared → Prop} {s : Shared} {c : Cx}
theorem write_spec (k : Nat) (hk : k < 5) (G : Glo (Mine.hd.heap_39 w.params) c.h0) (B : Keep c.h0 s.heap) (hR : Rest c s) (hA : AOk A 2) {x : Str} {tx : Tok} {Q : Value → Shared → Prop} (hx : x.cps.toList.length ≤ 100000)
    (h : ∀ t s', Rest c s' → Keep s.heap s'.heap → Q (.str (strOf (escL (escK k) x.cps.toList)) t) s') :
    wpAny (model prog w) A (call (.ref (fnK k)) [.str x tx]) Q E s := by
  have hz : ∀ i, (escL ((escK k).take i) x.cps.toList).length ≤ 1000000 := fun i => Nat.le_trans (escL_take_len (escK_ok k) (escK_len k) _ i) (by omega)
  match k, hk with
  | 0, _ => exact esc211_spec G B hR hA hz h
  | 1, _ => exact esc218_spec G B hR hA hz h
  | 2, _ => exact esc225_spec G B hR hA hz h
  | 3, _ => exact esc232_spec G B hR hA hz h
  | 4, _ => exact esc239_spec G B hR hA hz h
end

-- part PA
def sufs : List Nat → List (List Nat)
  | [] => []
  | c :: t => (c :: t) :: sufs t
structure IsLS (S : List (List Nat)) (t q : List Nat) : Prop where
  mem : q ∈ S
  suf : q <:+ t
  max : ∀ u ∈ S, u <:+ t → u.length ≤ q.length
structure IsF (S : List (List Nat)) (s f : List Nat) : Prop where
  mem : f ∈ S
  suf : f <:+ s
  ne : f ≠ s
  max : ∀ u ∈ S, u <:+ s → u ≠ s → u.length ≤ f.length
structure IsW (S : List (List Nat)) (t : List Nat) (a : Nat) (q : List Nat) : Prop where
  mem : q ∈ S
  suf : q <:+ t
  max : ∀ u ∈ S, u <:+ t → u ++ [a] ∈ S → u.length ≤ q.length
theorem IsLS.nil {S : List (List Nat)} (h : [] ∈ S) : IsLS S [] [] := ⟨h, List.suffix_refl _, fun u _ hu => by rw [List.suffix_nil.mp hu]; exact Nat.le_refl _⟩
theorem IsLS.w {S : List (List Nat)} {t q : List Nat} (h : IsLS S t q) (a : Nat) : IsW S t a q := ⟨h.mem, h.suf, fun u hu hs _ => h.max u hu hs⟩
theorem suf_of_le {a b t : List Nat} (ha : a <:+ t) (hb : b <:+ t) (h : a.length ≤ b.length) : a <:+ b := List.suffix_of_suffix_length_le ha hb h
theorem IsF.lt {S : List (List Nat)} {s f : List Nat} (h : IsF S s f) : f.length < s.length := by
  rcases Nat.lt_or_ge f.length s.length with q | q
  · exact q
  · exact absurd (h.suf.eq_of_length (Nat.le_antisymm h.suf.length_le q)) h.ne
theorem IsW.fail {S : List (List Nat)} {t q f : List Nat} {a : Nat} (h : IsW S t a q) (hq : q ++ [a] ∉ S) (hf : IsF S q f) : IsW S t a f := by
  refine ⟨hf.mem, hf.suf.trans h.suf, fun u hu hs hua => ?_⟩
  have h1 := h.max u hu hs hua
  refine hf.max u hu (suf_of_le hs h.suf h1) ?_
  rintro rfl
  exact hq hua
theorem suf_snoc {v t : List Nat} {a : Nat} (h : v <:+ t ++ [a]) : v = [] ∨ ∃ u, v = u ++ [a] ∧ u <:+ t := by
  rcases List.eq_nil_or_concat v with rfl | ⟨u, b, rfl⟩
  · exact .inl rfl
  · right
    obtain ⟨p, hp⟩ := h
    rw [List.concat_eq_append, ← List.append_assoc] at hp
    obtain ⟨h1, h2⟩ := List.append_inj' hp rfl
    cases h2
    exact ⟨u, by simp, p, h1⟩
theorem IsW.go {S : List (List Nat)} {t q : List Nat} {a : Nat} (PC : ∀ u a, u ++ [a] ∈ S → u ∈ S) (h : IsW S t a q) (hq : q ++ [a] ∈ S) : IsLS S (t ++ [a]) (q ++ [a]) := by
  refine ⟨hq, ?_, fun v hv hs => ?_⟩
  · obtain ⟨p, rfl⟩ := h.suf
    exact ⟨p, by simp⟩
  · rcases suf_snoc hs with rfl | ⟨u, rfl, hu⟩
    · exact Nat.zero_le _
    · have := h.max u (PC u a hv) hu hv
      simpa using this
theorem IsW.stop {S : List (List Nat)} {t : List Nat} {a : Nat} (PC : ∀ u a, u ++ [a] ∈ S → u ∈ S) (h : IsW S t a []) (hq : [a] ∉ S) : IsLS S (t ++ [a]) [] := by
  refine ⟨h.mem, List.nil_suffix, fun v hv hs => ?_⟩
  rcases suf_snoc hs with rfl | ⟨u, rfl, hu⟩
  · exact Nat.le_refl _
  · have := h.max u (PC u a hv) hu hv
    have : u = [] := List.eq_nil_of_length_eq_zero (Nat.le_zero.mp this)
    subst this
    exact absurd hv hq
theorem sufs_filter {S words : List (List Nat)} {t q : List Nat} (h : IsLS S t q) (hw : ∀ x ∈ words, x ∈ S) : (sufs t).filter (· ∈ words) = (sufs q).filter (· ∈ words) := by
  obtain ⟨p, rfl⟩ := h.suf
  induction p with
  | nil => rfl
  | cons c p ih =>
    have h1 : IsLS S (p ++ q) q := ⟨h.mem, ⟨p, rfl⟩, fun u hu hs => h.max u hu (hs.trans ⟨[c], rfl⟩)⟩
    show List.filter _ ((c :: (p ++ q)) :: sufs (p ++ q)) = _
    rw [List.filter_cons_of_neg, ih h1]
    rw [decide_eq_true_eq]
    intro hm
    have := h.max _ (hw _ hm) (List.suffix_refl _)
    simp at this
    omega
theorem IsF.tail {S : List (List Nat)} {c : Nat} {t f : List Nat} (h : IsF S (c :: t) f) : IsLS S t f := by
  refine ⟨h.mem, ?_, fun u hu hs => h.max u hu (hs.trans ⟨[c], rfl⟩) ?_⟩
  · rcases List.suffix_cons_iff.mp h.suf with q | q
    · exact absurd q h.ne
    · exact q
  · rintro rfl
    have := hs.length_le
    simp at this
    omega
theorem tl_step {S words : List (List Nat)} {s f : List Nat} (h : IsF S s f) (hw : ∀ x ∈ words, x ∈ S) : (sufs s).filter (· ∈ words) = (if s ∈ words then [s] else []) ++ (sufs f).filter (· ∈ words) := by
  cases s with
  | nil => exact absurd (List.suffix_nil.mp h.suf) h.ne
  | cons c t =>
    show List.filter _ ((c :: t) :: sufs t) = _
    rw [List.filter_cons, sufs_filter h.tail hw]
    split <;> simp_all
theorem sufs_eq (t : List Nat) : sufs t = (List.range t.length).map fun i => t.drop i := by
  induction t with
  | nil => rfl
  | cons c t ih =>
    show (c :: t) :: sufs t = _
    rw [List.length_cons, List.range_succ_eq_map, List.map_cons, List.map_map, ih]
    rfl
theorem IsF.uniq {S : List (List Nat)} {s f f' : List Nat} (h : IsF S s f) (h' : IsF S s f') : f = f' :=
  (suf_of_le h.suf h'.suf (h'.max f h.mem h.suf h.ne)).eq_of_length (Nat.le_antisymm (h'.max f h.mem h.suf h.ne) (h.max f' h'.mem h'.suf h'.ne))

-- part PT
def mkA (N : List Str) (np : Str → Int) (su : Str → List Str) : List Ab := N.map fun n => (n, np n, su n)
theorem mkA_congr {N : List Str} {np np' : Str → Int} {su su' : Str → List Str} (h : ∀ n ∈ N, np n = np' n) (h' : ∀ n ∈ N, su n = su' n) : mkA N np su = mkA N np' su' :=
  List.map_congr_left fun n hn => by rw [h n hn, h' n hn]
def ens (N : List Str) (k : Str) : List Str := if k ∈ N then N else N ++ [k]
theorem ensA_mk {N : List Str} {np : Str → Int} {su : Str → List Str} {k : Str} (h : k ∉ N → np k = 0 ∧ su k = []) : ensA (mkA N np su) k = mkA (ens N k) np su := by
  unfold ensA ens
  have e : ((mkA N np su).any fun e => decide (e.1 = k)) = decide (k ∈ N) := by
    unfold mkA
    rw [List.any_map, Bool.eq_iff_iff, List.any_eq_true, decide_eq_true_eq]
    constructor
    · rintro ⟨x, hx, q⟩
      have : x = k := by simpa using q
      exact this ▸ hx
    · intro hk
      exact ⟨k, hk, by simp⟩
  rw [e]
  by_cases hk : k ∈ N
  · rw [if_pos hk, if_pos (decide_eq_true hk)]
  · rw [if_neg hk, if_neg (by simpa using hk)]
    unfold mkA
    rw [List.map_append, List.map_cons, List.map_nil, (h hk).1, (h hk).2]
theorem bumpA_mk (N : List Str) (np : Str → Int) (su : Str → List Str) (k : Str) (n : Int) : bumpA (mkA N np su) k n = mkA N (fun x => if x = k then np x + n else np x) su := by
  unfold bumpA mkA
  rw [List.map_map]
  refine List.map_congr_left fun a _ => ?_
  simp only [Function.comp]
  split <;> rfl
theorem hangA_mk (N : List Str) (np : Str → Int) (su : Str → List Str) (y k : Str) : hangA (mkA N np su) y k = mkA N np fun x => if x = y then su x ++ [k] else su x := by
  unfold hangA mkA
  rw [List.map_map]
  refine List.map_congr_left fun a _ => ?_
  simp only [Function.comp]
  split <;> rfl
theorem setA_mk (N : List Str) (np : Str → Int) (su : Str → List Str) (k : Str) (n : Int) : setA (mkA N np su) k n = mkA N (fun x => if x = k then n else np x) su := by
  unfold setA mkA
  rw [List.map_map]
  refine List.map_congr_left fun a _ => ?_
  simp only [Function.comp]
  split <;> rfl
theorem outA_mk (N : List Str) (np : Str → Int) (su : Str → List Str) (R : List Str) : outA (mkA N np su) R = mkA N (fun x => if x ∈ R then -1 else np x) su := by
  unfold outA mkA
  rw [List.map_map]
  refine List.map_congr_left fun a _ => ?_
  simp only [Function.comp]
  split <;> rfl
theorem find_mk {N : List Str} {np : Str → Int} {su : Str → List Str} {k : Str} (hk : k ∈ N) : (mkA N np su).find? (fun e => decide (e.1 = k)) = some (k, np k, su k) := by
  unfold mkA
  rw [List.find?_map]
  induction N with
  | nil => cases hk
  | cons a N ih =>
    rw [List.find?_cons]
    by_cases e : a = k
    · subst e; simp
    · have : k ∈ N := by
        rcases List.mem_cons.mp hk with q | q
        · exact absurd q.symm e
        · exact q
      simp only [Function.comp, e, decide_false]
      exact ih this
theorem npOf_mk {N : List Str} {np : Str → Int} {su : Str → List Str} {k : Str} (hk : k ∈ N) : npOf (mkA N np su) k = np k := by unfold npOf; rw [find_mk hk]
theorem suOf_mk {N : List Str} {np : Str → Int} {su : Str → List Str} {k : Str} (hk : k ∈ N) : suOf (mkA N np su) k = su k := by unfold suOf; rw [find_mk hk]
theorem ens_mem {N : List Str} {k x : Str} : x ∈ ens N k ↔ x ∈ N ∨ x = k := by
  unfold ens
  split
  · rename_i h
    exact ⟨.inl, fun q => q.elim id fun q => q ▸ h⟩
  · simp
theorem ens_nodup {N : List Str} {k : Str} (h : N.Nodup) : (ens N k).Nodup := by
  unfold ens
  split
  · exact h
  · rename_i hk
    rw [List.nodup_append]
    refine ⟨h, by simp, fun a ha b hb => ?_⟩
    rw [List.mem_singleton.mp hb]
    rintro rfl
    exact hk ha
def namesA (fl : Str → Str) (ks : List Str) : List Str := ks.foldl (fun N k => ens (ens N k) (fl k)) []
def npA (ks : List Str) (x : Str) : Int := if x ∈ ks then 1 else 0
def suA (fl : Str → Str) (ks : List Str) (x : Str) : List Str := ks.filter fun k => decide (fl k = x)
theorem namesA_snoc (fl : Str → Str) (ks : List Str) (k : Str) : namesA fl (ks ++ [k]) = ens (ens (namesA fl ks) k) (fl k) := by
  unfold namesA; rw [List.foldl_append]; rfl
theorem namesA_mem' (fl : Str → Str) (x : Str) : ∀ (ks : List Str) (N : List Str), x ∈ ks.foldl (fun N k => ens (ens N k) (fl k)) N ↔ x ∈ N ∨ x ∈ ks ∨ ∃ k ∈ ks, fl k = x
  | [], N => by simp
  | k :: r, N => by
    rw [List.foldl_cons, namesA_mem' fl x r, ens_mem, ens_mem]
    constructor
    · rintro (((h | h) | h) | h | ⟨y, h1, h2⟩)
      · exact .inl h
      · exact .inr (.inl (h ▸ .head _))
      · exact .inr (.inr ⟨k, .head _, h.symm⟩)
      · exact .inr (.inl (.tail _ h))
      · exact .inr (.inr ⟨y, .tail _ h1, h2⟩)
    · rintro (h | h | ⟨y, h1, h2⟩)
      · exact .inl (.inl (.inl h))
      · rcases List.mem_cons.mp h with rfl | h
        · exact .inl (.inl (.inr rfl))
        · exact .inr (.inl h)
      · rcases List.mem_cons.mp h1 with rfl | h1
        · exact .inl (.inr h2.symm)
        · exact .inr (.inr ⟨y, h1, h2⟩)
theorem namesA_mem {fl : Str → Str} {ks : List Str} {x : Str} : x ∈ namesA fl ks ↔ x ∈ ks ∨ ∃ k ∈ ks, fl k = x := by
  unfold namesA; rw [namesA_mem']; simp
theorem namesA_nodup (fl : Str → Str) (ks : List Str) : (namesA fl ks).Nodup := by
  unfold namesA
  have : ∀ (ks N : List Str), N.Nodup → (ks.foldl (fun N k => ens (ens N k) (fl k)) N).Nodup := by
    intro ks
    induction ks with
    | nil => intro N h; exact h
    | cons k r ih => intro N h; exact ih _ (ens_nodup (ens_nodup h))
  exact this ks [] .nil
theorem add_mk {fl : Str → Str} {ks : List Str} {k : Str} (hk : k ∉ ks) : addA (mkA (namesA fl ks) (npA ks) (suA fl ks)) k (fl k) = mkA (namesA fl (ks ++ [k])) (npA (ks ++ [k])) (suA fl (ks ++ [k])) := by
  have h0 : ∀ x, x ∉ namesA fl ks → npA ks x = 0 ∧ suA fl ks x = [] := by
    intro x hx
    rw [namesA_mem] at hx
    refine ⟨if_neg fun q => hx (.inl q), List.filter_eq_nil_iff.mpr fun y hy q => hx (.inr ⟨y, hy, of_decide_eq_true q⟩)⟩
  unfold addA
  rw [ensA_mk (h0 k), bumpA_mk, ensA_mk (k := fl k), hangA_mk, namesA_snoc]
  · refine mkA_congr (fun n _ => ?_) fun n _ => ?_
    · unfold npA
      by_cases e : n = k
      · subst e; rw [if_pos rfl, if_neg hk, if_pos (by simp)]; rfl
      · rw [if_neg e]
        simp [e]
    · unfold suA
      rw [List.filter_append]
      by_cases e : n = fl k
      · subst e; rw [if_pos rfl]; simp
      · rw [if_neg e]; simp [Ne.symm e]
  · intro hx
    rw [ens_mem] at hx
    have h1 : fl k ∉ namesA fl ks := fun q => hx (.inl q)
    have h2 : fl k ≠ k := fun q => hx (.inr q)
    obtain ⟨a, b⟩ := h0 _ h1
    exact ⟨by rw [if_neg h2]; exact a, b⟩
theorem decs_mk {N : List Str} {su : Str → List Str} : ∀ (ys : List Str) (np : Str → Int) (r : List Str), ys.Nodup → (∀ y ∈ ys, y ∈ N ∧ np y = 1) →
    ys.foldl decA (mkA N np su, r) = (mkA N (fun n => if n ∈ ys then 0 else np n) su, r ++ ys)
  | [], np, r, _, _ => by simp
  | y :: ys, np, r, hn, h => by
    rw [List.nodup_cons] at hn
    obtain ⟨h1, h2⟩ := h y (.head _)
    rw [List.foldl_cons]
    have e : decA (mkA N np su, r) y = (mkA N (fun n => if n = y then np n + -1 else np n) su, r ++ [y]) := by
      unfold decA
      dsimp only
      rw [bumpA_mk, npOf_mk h1, if_pos]
      rw [if_pos rfl, h2]; rfl
    rw [e, decs_mk ys _ _ hn.2 fun z hz => ?_]
    · congr 1
      · refine mkA_congr (fun n _ => ?_) fun _ _ => rfl
        by_cases q : n = y
        · subst q
          rw [if_neg hn.1, if_pos rfl, if_pos (.head _), h2]; rfl
        · by_cases q2 : n ∈ ys
          · rw [if_pos q2, if_pos (.tail _ q2)]
          · rw [if_neg q2, if_neg q, if_neg (by simp [q, q2])]
      · simp
    · have : z ≠ y := fun q => hn.1 (q ▸ hz)
      rw [if_neg this]
      exact h z (.tail _ hz)
/-- between the rounds -/
structure Rnd (fl : Str → Str) (ks Dn R : List Str) : Prop where
  nks : ks.Nodup
  rn : R.Nodup
  dn : Dn.Nodup
  rN : ∀ x ∈ R, x ∈ namesA fl ks
  dN : ∀ x ∈ Dn, x ∈ namesA fl ks
  dis : ∀ x ∈ R, x ∉ Dn
  fr : ∀ x ∈ ks, (x ∈ Dn ∨ x ∈ R) ↔ fl x ∈ Dn
  root : ∀ x ∈ namesA fl ks, x ∉ ks → x ∈ Dn ∨ x ∈ R
def npR (Dn R : List Str) (x : Str) : Int := if x ∈ Dn then -2 else if x ∈ R then 0 else 1
def npM (Dn R R' : List Str) (su : Str → List Str) (x : Str) : Int := if x ∈ Dn then -2 else if x ∈ R' then -2 else if x ∈ R then -1 else if x ∈ R'.flatMap su then 0 else 1
theorem suA_mem {fl : Str → Str} {ks : List Str} {x y : Str} : y ∈ suA fl ks x ↔ y ∈ ks ∧ fl y = x := by
  unfold suA; rw [List.mem_filter, decide_eq_true_eq]
theorem suA_flat {fl : Str → Str} {ks R : List Str} {y : Str} : y ∈ R.flatMap (suA fl ks) ↔ y ∈ ks ∧ fl y ∈ R := by
  rw [List.mem_flatMap]
  constructor
  · rintro ⟨a, h1, h2⟩
    rw [suA_mem] at h2
    exact ⟨h2.1, h2.2 ▸ h1⟩
  · rintro ⟨h1, h2⟩
    exact ⟨_, h2, suA_mem.mpr ⟨h1, rfl⟩⟩
theorem Rnd.part {fl : Str → Str} {ks Dn R : List Str} (H : Rnd fl ks Dn R) : ∀ (i : Nat), i ≤ R.length →
    doneA (mkA (namesA fl ks) (fun x => if x ∈ R then -1 else npR Dn R x) (suA fl ks), []) (R.take i) = (mkA (namesA fl ks) (npM Dn R (R.take i) (suA fl ks)) (suA fl ks), (R.take i).flatMap (suA fl ks)) := by
  intro i
  induction i with
  | zero =>
    intro _
    show (_, _) = _
    congr 1
    refine mkA_congr (fun n _ => ?_) fun _ _ => rfl
    unfold npR npM
    by_cases h1 : n ∈ R
    · rw [if_pos h1, if_neg (H.dis n h1)]
      simp [h1]
    · simp [h1]
  | succ i ih =>
    intro hi
    obtain ⟨k, hk⟩ : ∃ k, R[i]? = some k := ⟨_, List.getElem?_eq_getElem (by omega)⟩
    have hkR := List.mem_of_getElem? hk
    have hki : k ∉ R.take i := by
      have := H.rn
      intro q
      obtain ⟨j, hj, e⟩ := List.mem_take_iff_getElem.mp q
      have e2 := List.getElem?_eq_some_iff.mp hk
      obtain ⟨h3, h4⟩ := e2
      have := (List.nodup_iff_pairwise_ne.mp this)
      have h5 := (List.pairwise_iff_getElem.mp this) j i (by omega) h3 (by omega)
      exact h5 (e.trans h4.symm)
    have e1 : R.take (i + 1) = R.take i ++ [k] := by rw [List.take_add_one, hk]; rfl
    rw [e1]
    unfold doneA at ih ⊢
    rw [List.foldl_append, ih (by omega), List.foldl_cons, List.foldl_nil]
    unfold don1
    dsimp only
    rw [suOf_mk (H.rN k hkR), setA_mk, decs_mk]
    · congr 1
      · refine mkA_congr (fun n _ => ?_) fun _ _ => rfl
        unfold npM
        rw [List.flatMap_append, List.flatMap_cons, List.flatMap_nil, List.append_nil]
        simp only [List.mem_append, List.mem_singleton]
        by_cases q1 : n ∈ suA fl ks k
        · have q2 := suA_mem.mp q1
          have hnD : ¬ (n ∈ Dn ∨ n ∈ R) := fun q => H.dis k hkR (q2.2 ▸ (H.fr n q2.1).mp q)
          have hnR : n ∉ R := fun q => hnD (.inr q)
          have : n ∉ R.take i := fun q => hnR (List.mem_of_mem_take q)
          have hnk : n ≠ k := fun q => hnR (q ▸ hkR)
          rw [if_pos q1, if_neg (fun q => hnD (.inl q)), if_neg (by rintro (q | q); exact this q; exact hnk q), if_neg hnR, if_pos (.inr q1)]
        · rw [if_neg q1]
          by_cases q2 : n = k
          · subst q2
            rw [if_pos rfl, if_neg (H.dis _ hkR), if_pos (.inr rfl)]
          · rw [if_neg q2]
            simp [q2, q1]
      · rw [List.flatMap_append]; simp
    · exact H.nks.filter _
    · intro y hy
      have q2 := suA_mem.mp hy
      have hyD : ¬ (y ∈ Dn ∨ y ∈ R) := fun q => H.dis k hkR (q2.2 ▸ (H.fr y q2.1).mp q)
      have hyR : y ∉ R := fun q => hyD (.inr q)
      refine ⟨namesA_mem.mpr (.inl q2.1), ?_⟩
      have hyk : y ≠ k := fun q => hyR (q ▸ hkR)
      unfold npM
      rw [if_neg hyk, if_neg (fun q => hyD (.inl q)), if_neg (fun q => hyR (List.mem_of_mem_take q)), if_neg hyR, if_neg]
      rw [suA_flat]
      rintro ⟨_, q⟩
      rw [q2.2] at q
      exact hki q
theorem Rnd.out {fl : Str → Str} {ks Dn R : List Str} (H : Rnd fl ks Dn R) {i : Nat} {k : Str} (hk : R[i]? = some k) :
    npOf (doneA (outA (mkA (namesA fl ks) (npR Dn R) (suA fl ks)) R, []) (R.take i)).1 k = -1 := by
  have hkR := List.mem_of_getElem? hk
  have hi : i < R.length := by
    rcases Nat.lt_or_ge i R.length with q | q
    · exact q
    · rw [List.getElem?_eq_none q] at hk; cases hk
  have hki : k ∉ R.take i := by
    intro q
    obtain ⟨j, hj, e⟩ := List.mem_take_iff_getElem.mp q
    obtain ⟨h3, h4⟩ := List.getElem?_eq_some_iff.mp hk
    have h5 := (List.pairwise_iff_getElem.mp (List.nodup_iff_pairwise_ne.mp H.rn)) j i (by omega) h3 (by omega)
    exact h5 (e.trans h4.symm)
  rw [outA_mk, H.part i (by omega), npOf_mk (H.rN k hkR)]
  unfold npM
  rw [if_neg (H.dis _ hkR), if_neg hki, if_pos hkR]
theorem Rnd.step {fl : Str → Str} {ks Dn R : List Str} (H : Rnd fl ks Dn R) :
    doneA (outA (mkA (namesA fl ks) (npR Dn R) (suA fl ks)) R, []) R = (mkA (namesA fl ks) (npR (Dn ++ R) (R.flatMap (suA fl ks))) (suA fl ks), R.flatMap (suA fl ks)) ∧ Rnd fl ks (Dn ++ R) (R.flatMap (suA fl ks)) := by
  constructor
  · have := H.part R.length (Nat.le_refl _)
    rw [List.take_length] at this
    rw [outA_mk, this]
    congr 1
    refine mkA_congr (fun n _ => ?_) fun _ _ => rfl
    unfold npM npR
    simp only [List.mem_append]
    by_cases q1 : n ∈ Dn
    · simp [q1]
    · by_cases q2 : n ∈ R
      · simp [q1, q2]
      · simp only [q1, q2, if_false, or_self]
  · refine ⟨H.nks, ?_, ?_, ?_, ?_, ?_, ?_, ?_⟩
    · have := H.rn
      unfold List.Nodup at this ⊢
      rw [List.pairwise_flatMap]
      refine ⟨fun a _ => H.nks.filter _, ?_⟩
      refine this.imp fun {a b} hab x hx y hy e => ?_
      subst e
      rw [suA_mem] at hx hy
      exact hab (hx.2.symm.trans hy.2)
    · rw [List.nodup_append]
      exact ⟨H.dn, H.rn, fun a ha b hb e => H.dis b hb (e ▸ ha)⟩
    · intro x hx
      exact namesA_mem.mpr (.inl (suA_flat.mp hx).1)
    · intro x hx
      rcases List.mem_append.mp hx with q | q
      · exact H.dN x q
      · exact H.rN x q
    · intro x hx q
      obtain ⟨h1, h2⟩ := suA_flat.mp hx
      exact H.dis _ h2 ((H.fr x h1).mp (List.mem_append.mp q))
    · intro x hx
      rw [List.mem_append, List.mem_append, suA_flat, H.fr x hx]
      exact ⟨fun q => q.imp id fun q => q.2, fun q => q.imp id fun q => ⟨hx, q⟩⟩
    · intro x hx hk
      exact .inl (List.mem_append.mpr (H.root x hx hk))
theorem Rnd.start {fl : Str → Str} {ks : List Str} (nks : ks.Nodup) : Rnd fl ks [] ((namesA fl ks).filter fun x => decide (x ∉ ks)) ∧
    mkA (namesA fl ks) (npA ks) (suA fl ks) = mkA (namesA fl ks) (npR [] ((namesA fl ks).filter fun x => decide (x ∉ ks))) (suA fl ks) := by
  refine ⟨⟨nks, (namesA_nodup fl ks).filter _, .nil, fun x hx => (List.mem_filter.mp hx).1, fun x hx => (nomatch hx), fun x _ q => (nomatch q), fun x hx => ?_, fun x hx hk => .inr (List.mem_filter.mpr ⟨hx, decide_eq_true hk⟩)⟩, mkA_congr (fun n hn => ?_) fun _ _ => rfl⟩
  · constructor
    · rintro (q | q)
      · cases q
      · exact absurd hx (of_decide_eq_true (List.mem_filter.mp q).2)
    · intro q; cases q
  · unfold npA npR
    by_cases q : n ∈ ks
    · rw [if_pos q, if_neg List.not_mem_nil, if_neg fun z => (of_decide_eq_true (List.mem_filter.mp z).2) q]
    · rw [if_neg q, if_neg List.not_mem_nil, if_pos (List.mem_filter.mpr ⟨hn, decide_eq_true q⟩)]
theorem Rnd.all {fl : Str → Str} {ks Dn : List Str} (H : Rnd fl ks Dn []) (rank : Str → Nat) (hr : ∀ k ∈ ks, rank (fl k) < rank k) : ∀ x ∈ namesA fl ks, x ∈ Dn := by
  have : ∀ (n : Nat) x, rank x = n → x ∈ namesA fl ks → x ∈ Dn := by
    intro n
    induction n using Nat.strongRecOn with
    | _ n ih =>
      intro x hx hm
      by_cases hk : x ∈ ks
      · have h1 := ih (rank (fl x)) (by rw [← hx]; exact hr x hk) (fl x) rfl (namesA_mem.mpr (.inr ⟨x, hk, rfl⟩))
        have := (H.fr x hk).mpr h1
        simpa using this
      · simpa using H.root x hm hk
  exact fun x hx => this _ x rfl hx
theorem Rnd.measure {fl : Str → Str} {ks Dn R : List Str} (H : Rnd fl ks Dn R) : Dn.length + R.length ≤ (namesA fl ks).length := by
  rw [← List.length_append]
  have hn : (Dn ++ R).Nodup := by
    rw [List.nodup_append]
    exact ⟨H.dn, H.rn, fun a ha b hb e => H.dis b hb (e ▸ ha)⟩
  have go : ∀ (l l' : List Str), l.Nodup → (∀ x ∈ l, x ∈ l') → l.length ≤ l'.length := by
    intro l
    induction l with
    | nil => intro _ _ _; exact Nat.zero_le _
    | cons a r ih =>
      intro l' h1 h2
      rw [List.nodup_cons] at h1
      have := ih (l'.erase a) h1.2 fun x hx => (List.mem_erase_of_ne (fun e : x = a => h1.1 (e ▸ hx))).mpr (h2 x (.tail _ hx))
      have h3 := h2 a (.head _)
      rw [List.length_erase_of_mem h3] at this
      have := List.length_pos_of_mem h3
      simp only [List.length_cons]
      omega
  refine go _ _ hn fun x hx => ?_
  rcases List.mem_append.mp hx with q | q
  · exact H.dN x q
  · exact H.rN x q
theorem addA_fold {fl : Str → Str} (ks : List Str) (h : ks.Nodup) : ks.foldl (fun l k => addA l k (fl k)) [] = mkA (namesA fl ks) (npA ks) (suA fl ks) := by
  have : ∀ (n : Nat), n ≤ ks.length → (ks.take n).foldl (fun l k => addA l k (fl k)) [] = mkA (namesA fl (ks.take n)) (npA (ks.take n)) (suA fl (ks.take n)) := by
    intro n
    induction n with
    | zero => intro _; rfl
    | succ n ih =>
      intro hn
      obtain ⟨k, hk⟩ : ∃ k, ks[n]? = some k := ⟨_, List.getElem?_eq_getElem (by omega)⟩
      have e1 : ks.take (n + 1) = ks.take n ++ [k] := by rw [List.take_add_one, hk]; rfl
      rw [e1, List.foldl_append, ih (by omega), List.foldl_cons, List.foldl_nil]
      refine add_mk fun q => ?_
      obtain ⟨j, hj, e⟩ := List.mem_take_iff_getElem.mp q
      obtain ⟨h3, h4⟩ := List.getElem?_eq_some_iff.mp hk
      have h5 := (List.pairwise_iff_getElem.mp (List.nodup_iff_pairwise_ne.mp h)) j n (by omega) h3 (by omega)
      exact h5 (e.trans h4.symm)
  have := this ks.length (Nat.le_refl _)
  rwa [List.take_length] at this

-- part LISTS
section
variable {prog : Program} {w : World} {A : Around} {E : Value → Shared → Prop} {s : Shared} {env : Env} {c : Cx} {g : PM} {L : Addr} {m : Str → Option Value} {news : List (Addr × Obj)}
def isTxt (x : Str) (v : Value) : Bool := match v with | .str y _ => decide (y = x) | _ => false
theorem any_txt (x : Str) : ∀ ws : List (Str × Tok), (strVs ws).any (isTxt x) = decide (x ∈ ws.map (·.1))
  | [] => by simp [strVs]
  | p :: r => by
    have := any_txt x r
    unfold strVs at this ⊢
    rw [List.map_cons, List.any_cons, this, List.map_cons]
    simp only [isTxt, List.mem_cons, Bool.decide_or]
    congr 1
    by_cases e : p.1 = x
    · simp [e]
    · simp [e, Ne.symm e]
theorem eqAt_txt {x : Str} {t : Tok} {ws : List (Str × Tok)} : ∀ y, y ∈ (strVs ws).toArray → SeqAt.EqAt A s y (.str x t) (isTxt x y) := by
  intro y hy
  rw [List.mem_toArray] at hy
  obtain ⟨p, _, rfl⟩ := List.mem_map.mp hy
  exact fun prog w E Q h => wpAny_eqBool_str h
theorem in_strs {x : Str} {t : Tok} {l : Addr} {o : Obj} {ws : List (Str × Tok)} {Q : Value → Shared → Prop} (ho : s.heap.get? l = some o) (hl : IsLst o (strVs ws)) (h : Q (.bool (decide (x ∈ ws.map (·.1)))) s) : wpAny (model prog w) A (compareOp .In (.str x t) (.ref l)) Q E s :=
  SeqAt.in_listAt (isTxt x) (IsLst.isList ho hl) eqAt_txt (by rw [List.any_toArray, any_txt]; exact h)
theorem notin_strs {x : Str} {t : Tok} {l : Addr} {o : Obj} {ws : List (Str × Tok)} {Q : Value → Shared → Prop} (ho : s.heap.get? l = some o) (hl : IsLst o (strVs ws)) (h : Q (.bool (!decide (x ∈ ws.map (·.1)))) s) : wpAny (model prog w) A (compareOp .NotIn (.str x t) (.ref l)) Q E s :=
  SeqAt.notIn_listAt (isTxt x) (IsLst.isList ho hl) eqAt_txt (by rw [List.any_toArray, any_txt]; exact h)
theorem add_lst {l b : Addr} {o o' : Obj} {vs ws : List Value} {Q : Value → Shared → Prop} (D : Led c g L s.heap m news) (ho : s.heap.get? l = some o) (hl : IsLst o vs) (ho' : s.heap.get? b = some o') (hl' : IsLst o' ws) (hz : vs.length + ws.length ≤ sizeLine)
    (h : ∀ r h' o, L < r → Led c g L h' m ((r, o) :: news) → IsLst o (vs ++ ws) → Q (.ref r) { s with heap := h' }) : wpAny (model prog w) A (binaryOp .Add (.ref l) (.ref b)) Q E s := by
  obtain ⟨n, hL⟩ := IsLst.isL ho hl
  obtain ⟨n', hL'⟩ := IsLst.isL ho' hl'
  exact P.add_list hL hL' (h _ _ _ D.ltL (D.push _) ⟨0, by simp [lstO]⟩) (by simpa using hz)
theorem star_led {t : Addr} {o : Obj} {vs : List Value} {Q : List Value → Shared → Prop} (D : Led c g L s.heap m news) (ht : s.heap.get? t = some o) (hl : IsTpl o vs) (hz : vs.length ≤ sizeLine)
    (h : ∀ h', Keep s.heap h' → Led c g L h' m news → Q vs { s with heap := h' }) : StarOf (model prog w) A E (.ref t) Q s := by
  obtain ⟨n, rfl⟩ := hl
  have hT' : s.TypeIs (.ref t) "tuple" := ⟨_, ht, rfl⟩
  have z : wpAny (model prog w) A (collect (.ref t)) Q E s :=
    wpAny_collect_seq t (.inr rfl) ht rfl rfl (fun h' hk => by simpa using h h' hk (D.after hk)) (by rw [List.size_toArray]; exact hz)
  unfold StarOf notIterableAtAll
  exact wpAny_bind (wpAny_specialOf hT' PySem.F.slot_tuple_iter.lookup (wpAny_pure ⟨rfl, z⟩))
end

-- part TOLD0
section
variable {c : Cx} {g : PM} {L : Addr} {h h' : Heap} {m : Str → Option Value} {pre M M' post news news' FR rest : List (Addr × Obj)}
/-- behind a call that changed a part of the ledger -/
theorem Led.mid (D : Led c g L h m (pre ++ (M ++ post))) (hn : M'.map (·.1) = M.map (·.1)) (hk : ∀ b o, b ∉ M.map (·.1) → h.get? b = some o → h'.get? b = some o) (hc : ∀ p ∈ M', h'.get? p.1 = some p.2) : Led c g L h' m (pre ++ (M' ++ post)) := by
  have nd := D.ndn
  rw [List.map_append, List.map_append, List.nodup_append, List.nodup_append] at nd
  have R := D.callBut (add := []) (news' := pre ++ (M' ++ post)) (as := M.map (·.1)) hk (fun b hb => ?_) (by simp [hn]) (fun p hp => ?_) (fun _ q => nomatch q) (fun _ q => nomatch q) .nil
  · exact R
  · obtain ⟨p, hp, rfl⟩ := List.mem_map.mp hb
    have hp' : p ∈ pre ++ (M ++ post) := List.mem_append_right _ (List.mem_append_left _ hp)
    exact ⟨D.neL hp', (D.own p hp').2⟩
  · rcases List.mem_append.mp hp with hp | hp
    · refine hk _ _ (fun q => ?_) (D.get (List.mem_append_left _ hp))
      exact nd.2.2 _ (List.mem_map_of_mem hp) _ (List.mem_append_left _ q) rfl
    · rcases List.mem_append.mp hp with hp | hp
      · exact hc p hp
      · refine hk _ _ (fun q => ?_) (D.get (List.mem_append_right _ (List.mem_append_right _ hp)))
        exact nd.2.1.2.2 _ q _ (List.mem_map_of_mem hp) rfl
theorem Led.evo {nd : Addr} {od od' : Obj} {ns ns' : List Nd} {L' : Addr} (D : Led c g L h m ((nd, od) :: segs ns ++ rest)) (E : Evo L' ns ns') (hL : h.objs.size ≤ L') (hk : ∀ b o, b ∉ ((nd, od) :: segs ns).map (·.1) → h.get? b = some o → h'.get? b = some o)
    (hc : ∀ p ∈ (nd, od') :: segs ns', h'.get? p.1 = some p.2) (hnd : (((nd, od') :: segs ns').map (·.1)).Nodup) : Led c g L h' m ((nd, od') :: segs ns' ++ rest) := by
  obtain ⟨nu, nw, rfl, e1, e2⟩ := E
  have ndn := D.ndn
  rw [List.map_append, List.nodup_append] at ndn
  rw [segs_append] at hc hnd ⊢
  have R := D.callBut (add := segs nw) (news' := (nd, od') :: segs nu ++ rest) (as := ((nd, od) :: segs ns).map (·.1)) hk (fun b hb => ?_) ?_ (fun p hp => ?_) (fun p hp => ?_) (fun p hp => ?_) ?_
  · refine R.perm ?_
    show (segs nw ++ ((nd, od') :: segs nu ++ rest)).Perm ((nd, od') :: (segs nu ++ segs nw) ++ rest)
    refine List.perm_append_comm.trans ?_
    simp only [List.cons_append, List.append_assoc]
    refine List.Perm.cons _ (List.Perm.append_left _ ?_)
    exact List.perm_append_comm
  · obtain ⟨p, hp, rfl⟩ := List.mem_map.mp hb
    have hp' : p ∈ (nd, od) :: segs ns ++ rest := List.mem_append_left _ hp
    exact ⟨D.neL hp', (D.own p hp').2⟩
  · rw [List.map_append, List.map_append, List.map_cons, List.map_cons, segs_ads e1]
  · rcases List.mem_append.mp hp with hp | hp
    · exact hc p (by
        rcases List.mem_cons.mp hp with rfl | hp
        · exact .head _
        · exact .tail _ (List.mem_append_left _ hp))
    · refine hk _ _ (fun q => ?_) (D.get (List.mem_append_right _ hp))
      exact ndn.2.2 _ q _ (List.mem_map_of_mem hp) rfl
  · obtain ⟨e, he, hp⟩ := List.mem_flatMap.mp hp
    exact Nat.le_trans hL (Nat.le_of_lt (e2 e he p hp))
  · exact hc p (.tail _ (List.mem_append_right _ hp))
  · rw [List.map_cons, List.map_append, List.nodup_cons, List.nodup_append] at hnd
    exact hnd.2.2.1
theorem Led.afterPrep {oL o o' : Obj} {dx : Addr} {f : Addr → Array (Option Value)} (D : Led c g L h m (news ++ FR)) (hoL : h.get? L = some oL) (U : Up dx o o' news news')
    (hk : ∀ b ob, b ≠ dx → b ∉ ((L, oL) :: FR).map (·.1) → h.get? b = some ob → h'.get? b = some ob) (ho' : h'.get? dx = some o') (hs : ∀ p ∈ slotted f ((L, oL) :: FR), h'.get? p.1 = some p.2) : Led c g L h' m (news' ++ slotted f FR) := by
  have nd := D.ndn
  rw [List.map_append, List.nodup_append] at nd
  refine ⟨D.base, ?_, fun b o e => hk b o (fun q => ?_) (fun q => ?_) (D.keep b o e), D.fresh, fun p hp => ?_, ?_⟩
  · obtain ⟨o, es, ep, ho, hd, hr⟩ := id D.ns
    rw [hoL] at ho; cases ho
    exact ⟨_, es, ep, hs _ (.head _), hd, hr⟩
  · have := (D.own _ (List.mem_append_left FR U.mem)).2
    rw [q, this] at e; cases e
  · rcases List.mem_cons.mp q with rfl | q
    · rw [D.fresh] at e; cases e
    · obtain ⟨p, hp, rfl⟩ := List.mem_map.mp q
      rw [(D.own p (List.mem_append_right _ hp)).2] at e; cases e
  · rcases List.mem_append.mp hp with hp | hp
    · rcases U.cases nd.1 p hp with rfl | ⟨h1, h2⟩
      · exact ⟨ho', (D.own _ (List.mem_append_left FR U.mem)).2⟩
      · refine ⟨hk _ _ h2 (fun q => ?_) (D.get (List.mem_append_left _ h1)), (D.own p (List.mem_append_left _ h1)).2⟩
        rcases List.mem_cons.mp q with q | q
        · exact D.neL (List.mem_append_left _ h1) q
        · exact nd.2.2 _ (List.mem_map_of_mem h1) _ q rfl
    · refine ⟨hs p (.tail _ hp), ?_⟩
      obtain ⟨q, hq, rfl⟩ := List.mem_map.mp hp
      exact (D.own q (List.mem_append_right _ hq)).2
  · have := D.nd
    rw [List.map_append] at this ⊢
    rw [slotted_ads, U.addrs]; exact this
theorem Led.unsnoc {p : Addr × Obj} (D : Led c g L h m (news ++ [p])) : Led c g L h m news := by
  have nd := D.ndn
  rw [List.map_append, List.nodup_append] at nd
  exact D.ofMem (fun q hq => List.mem_append_left _ hq) nd.1
/-- a new object that a call has made, at the end of the ledger -/
theorem Led.snocNew {h₀ : Heap} {m₀ : Str → Option Value} {n₀ : List (Addr × Obj)} {a : Addr} {o : Obj} (D₀ : Led c g L h₀ m₀ n₀) (D : Led c g L h m news) (hn : news.map (·.1) = n₀.map (·.1)) (hz : h₀.objs.size ≤ a) (ha : h.get? a = some o) : Led c g L h m (news ++ [(a, o)]) := by
  refine D.snoc ha (D₀.none_of_size hz) (fun q => ?_) (fun q => ?_)
  · have := D₀.ns.lt
    rw [q] at hz
    exact absurd this (Nat.not_lt.mpr hz)
  · rw [hn] at q
    obtain ⟨p, hp, e⟩ := List.mem_map.mp q
    have := D₀.lt hp
    rw [e] at this
    exact absurd this (Nat.not_lt.mpr hz)
end
section
variable {prog : Program} {w : World} {A : Around} {E : Value → Shared → Prop} {s : Shared} {c : Cx} {g : PM} {L : Addr} {m : Str → Option Value} {news : List (Addr × Obj)} {K : Frag} {x C f : Addr} {ox : Obj} {es : List DictEntry} {n : Nat} {name : Str} {expr : Bool}
theorem ga_bound {Q : Value → Shared → Prop} (D : Led c g L s.heap m news) (X : K.In s.heap) (I : InstAt s.heap x ox C (some (dictOf es n))) (hg : plainGet K C name = true) (hh : hasDictIn K C = true) (ha : findIn K (.ref C) name = some (some (.ref f))) (hf : isFn K (.ref f) = true)
    (hgf : specialIn K (.ref f) "__get__" = some (some (.builtin "function.__get__"))) (ht : takesIn K (.ref f) = some false) (hc : copiedNames.contains name = false) (hl : getL name es = some none)
    (h : ∀ q h', L < q → Led c g L h' m ((q, methodObj (.ref f) (.ref x)) :: news) → Q (.ref q) { s with heap := h', toks := s.toks + 1 }) : wpAny (model prog w) A (getAttr (.ref x) name expr) Q E s :=
  get_bind X I (plainGet_of hg).1 (findObj_fn hh ha hgf ht hc (by show lookIn name (dictOf es n) = _; rw [lookIn_dict, hl])) (plainGet_of hg).2
    (wpAny_call (fn_get (s := { s with toks := s.toks + 1 }) X (beq_iff_eq.mp hf) (handed_on rfl (h s.heap.objs.size _ D.ltL (D.push _)))))
theorem MethodCallEx_ {M : Model} {env : Env} {o : Expr} {name : Str} {apos pos : Pos} {args : List Expr} {Q : Value → Shared → Prop}
    (h : wpAny M A (eval o env) (fun ov s₁ => wpAny M A (getAttr ov name true) (fun f s₂ => wpAny M A (callWith pos f [] (backTo pos (starEach args env)) []) Q E s₂) E s₁) E s)
    (he : eval (.Call (.Attribute o name apos) args [] pos) env = (do
      let ov ← eval o env
      standAt apos.atName
      let (f, first) ← holding [ov] (do pure (← getAttr ov name true, []))
      callWith pos f first (backTo pos (starEach args env)) [])) :
    wpAny M A (eval (.Call (.Attribute o name apos) args [] pos) env) Q E s := by
  rw [he]
  refine wpAny_bind (wpAny_mono h (fun ov s₁ h₁ => wpAny_bind (wpAny_standAt (wpAny_bind (wpAny_holding (wpAny_bind (wpAny_mono h₁ (fun fx s₂ h₂ => wpAny_pure ?_) fun _ _ x => x)))))) fun _ _ x => x)
  exact h₂
theorem callWith_SM {M : Model} {env : Env} {pos p : Pos} {first : List Value} {q g : Addr} {self : Value} {e : Expr} {Q : Value → Shared → Prop} (hf : fnIn K g = true) (h : wpAny M A (eval e env) (fun v s₁ => StarOf M A E v (fun vs s₂ => MethP K q g self s₂.heap ∧ wpAny M A (call (.ref q) (first ++ vs)) Q E s₂) s₁) E s)
    (he : starEach [.Starred e p] env = [(true, eval e env)] := by rfl) :
    wpAny M A (callWith pos (.ref q) first (backTo pos (starEach [.Starred e p] env)) []) Q E s := by
  rw [he]
  exact ks_call rfl (keeps_M hf) (ks_lone h)
end
theorem perm_p {α : Type} (a b c d : α) (S F : List α) : (((a :: S) ++ [b, c]) ++ F ++ [d]).Perm ((c :: (S ++ [d])) ++ (b :: a :: F)) := by
  classical
  rw [List.perm_iff_count]
  intro z
  simp only [List.count_append, List.count_cons, List.count_nil]
  omega
theorem perm_4 {α : Type} (r a i d : α) (S : List α) : (r :: a :: i :: d :: S).Perm (i :: d :: r :: a :: S) := by
  classical
  rw [List.perm_iff_count]
  intro z
  simp only [List.count_cons]
  omega
theorem perm_1to4 {α : Type} (a b c d : α) (S : List α) : (a :: b :: c :: d :: S).Perm (b :: c :: d :: a :: S) := by
  classical
  rw [List.perm_iff_count]
  intro z
  simp only [List.count_cons]
  omega
theorem perm_f {α : Type} (a b c d : α) (S : List α) : (a :: b :: c :: d :: S).Perm (d :: a :: b :: c :: S) := by
  classical
  rw [List.perm_iff_count]
  intro z
  simp only [List.count_cons]
  omega
theorem perm_3 {α : Type} (a i d : α) (S : List α) : (a :: i :: d :: S).Perm (i :: d :: a :: S) := by
  classical
  rw [List.perm_iff_count]
  intro z
  simp only [List.count_cons]
  omega
theorem valueAt_stored_self {K : Type} [DecidableEq K] (kvs : List (K × Value)) (k : K) (v : Value) : valueAt (stored kvs k v) k = some v := by
  unfold stored
  induction kvs with
  | nil => simp [valueAt]
  | cons a r ih =>
    by_cases e : a.1 = k
    · simp [valueAt, e]
    · simp only [List.any_cons, e, decide_false, Bool.false_or, List.map_cons, if_false] at ih ⊢
      split at ih
      · rename_i q
        rw [if_pos q]
        unfold valueAt at ih ⊢
        rw [List.find?_cons]
        simpa [e] using ih
      · rename_i q
        rw [if_neg q]
        unfold valueAt at ih ⊢
        rw [List.cons_append, List.find?_cons]
        simpa [e] using ih
theorem valueAt_stored_ne {K : Type} [DecidableEq K] (kvs : List (K × Value)) (k : K) (v : Value) (q : K) (h : q ≠ k) : valueAt (stored kvs k v) q = valueAt kvs q := by
  unfold stored
  induction kvs with
  | nil => simp [valueAt, Ne.symm h]
  | cons a r ih =>
    by_cases e : a.1 = k
    · have hq : ¬ k = q := fun z => h z.symm
      have ih' : valueAt (r.map fun kv => if kv.1 = k then (kv.1, v) else kv) q = valueAt r q := by
        clear ih
        induction r with
        | nil => rfl
        | cons b r ih =>
          unfold valueAt at ih ⊢
          rw [List.map_cons, List.find?_cons, List.find?_cons]
          by_cases e2 : b.1 = k
          · simp only [e2, if_true, hq, decide_false]
            exact ih
          · simp only [e2, if_false]
            by_cases e3 : b.1 = q
            · simp [e3]
            · simp only [e3, decide_false]
              exact ih
      simp only [List.any_cons, e, decide_true, Bool.true_or, List.map_cons, if_true]
      unfold valueAt at ih' ⊢
      rw [List.find?_cons, List.find?_cons]
      simp only [e, hq, decide_false]
      exact ih'
    · simp only [List.any_cons, e, decide_false, Bool.false_or, List.map_cons, if_false] at ih ⊢
      split at ih
      · rename_i z
        rw [if_pos z]
        unfold valueAt at ih ⊢
        rw [List.find?_cons, List.find?_cons]
        by_cases e3 : a.1 = q
        · simp [e3]
        · simp only [e3, decide_false]
          exact ih
      · rename_i z
        rw [if_neg z]
        unfold valueAt at ih ⊢
        rw [List.cons_append, List.find?_cons, List.find?_cons]
        by_cases e3 : a.1 = q
        · simp [e3]
        · simp only [e3, decide_false]
          exact ih
theorem mk_nodes {N : List Str} {np : Str → Int} {su : Str → List Str} {ns : List Nd} (h : ns.map Nd.ab = mkA N np su) : ns.map Nd.name = N ∧ (∀ e ∈ ns, e.np = np e.name ∧ e.succ.map (·.1) = su e.name) := by
  constructor
  · have := congrArg (List.map fun x : Ab => x.1) h
    rw [ab_names] at this
    rw [this]
    simp [mkA, List.map_map, Function.comp_def]
  · intro e he
    have : e.ab ∈ mkA N np su := by rw [← h]; exact List.mem_map_of_mem he
    obtain ⟨n, hn, q⟩ := List.mem_map.mp this
    unfold Nd.ab at q
    simp only [Prod.mk.injEq] at q
    obtain ⟨rfl, q2, q3⟩ := q
    exact ⟨q2.symm, q3.symm⟩
theorem rdy_names {N : List Str} {ks : List Str} {su : Str → List Str} {ns : List Nd} (h : ns.map Nd.ab = mkA N (npA ks) su) : (rdyOf ns).map (·.1) = N.filter fun x => decide (x ∉ ks) := by
  obtain ⟨h1, h2⟩ := mk_nodes h
  rw [← h1, List.filter_map]
  unfold rdyOf
  rw [List.map_map]
  have : (ns.filter fun e => e.np == 0) = ns.filter ((fun x => decide (x ∉ ks)) ∘ Nd.name) := by
    refine List.filter_congr fun e he => ?_
    rw [(h2 e he).1]
    unfold npA
    simp only [Function.comp]
    by_cases q : e.name ∈ ks <;> simp [q]
  rw [this]
  rfl
/-- the told lists of the states that are done -/
def ToldOk (kt : List (Str × Value)) (lists : List (Addr × Obj)) (tl : Str → List Str) (Dn : List Str) : Prop :=
  ∀ q ∈ Dn, ∃ a ol ts, valueAt kt q = some (.ref a) ∧ (a, ol) ∈ lists ∧ IsLst ol (strVs ts) ∧ ts.map (·.1) = tl q
theorem ToldOk.add {kt kt' : List (Str × Value)} {lists lists' : List (Addr × Obj)} {tl : Str → List Str} {Dn : List Str} {k : Str} {a : Addr} {ol : Obj} {ts : List (Str × Tok)} (h : ToldOk kt lists tl Dn) (hs : ∀ p ∈ lists, p ∈ lists') (hk : k ∉ Dn) (hq : ∀ q, q ≠ k → valueAt kt' q = valueAt kt q)
    (hv : valueAt kt' k = some (.ref a)) (ha : (a, ol) ∈ lists') (hl : IsLst ol (strVs ts)) (ht : ts.map (·.1) = tl k) : ToldOk kt' lists' tl (Dn ++ [k]) := by
  intro q hq'
  rcases List.mem_append.mp hq' with h1 | h1
  · obtain ⟨a, ol, ts, e1, e2, e3, e4⟩ := h q h1
    exact ⟨a, ol, ts, (hq q (fun e => hk (e ▸ h1))).trans e1, hs _ e2, e3, e4⟩
  · rw [List.mem_singleton.mp h1]
    exact ⟨a, ol, ts, hv, ha, hl, ht⟩
theorem not_mem_take {α : Type} {l : List α} (hn : l.Nodup) {i : Nat} {k : α} (hk : l[i]? = some k) : k ∉ l.take i := by
  intro q
  obtain ⟨j, hj, e⟩ := List.mem_take_iff_getElem.mp q
  obtain ⟨h3, h4⟩ := List.getElem?_eq_some_iff.mp hk
  have h5 := (List.pairwise_iff_getElem.mp (List.nodup_iff_pairwise_ne.mp hn)) j i (by omega) h3 (by omega)
  exact h5 (e.trans h4.symm)
theorem suA_len (fl : Str → Str) (ks : List Str) (x : Str) : (suA fl ks x).length ≤ ks.length := List.length_filter_le ..
theorem namesA_len (fl : Str → Str) (ks : List Str) : (namesA fl ks).length ≤ 2 * ks.length := by
  have : ∀ (ks N : List Str), (ks.foldl (fun N k => ens (ens N k) (fl k)) N).length ≤ N.length + 2 * ks.length := by
    intro ks
    induction ks with
    | nil => intro N; simp
    | cons k r ih =>
      intro N
      have h1 := ih (ens (ens N k) (fl k))
      have h2 : ∀ N k, (ens N k).length ≤ N.length + 1 := by
        intro N k; unfold ens; split <;> simp
      have h3 := h2 (ens N k) (fl k)
      have h4 := h2 N k
      simp only [List.foldl_cons, List.length_cons]
      omega
  have := this ks []
  simpa [namesA] using this

-- part LAM
structure LamOk (h : Heap) (cA P : Addr) : Prop where
  main : ∃ mg, h.Ns mainGlobals mg ∧ ∃ bm o, mg "__builtins__" = some (.ref bm) ∧ bm ≠ builtinsNs ∧ bm ≠ mainGlobals ∧ h.get? bm = some o ∧ o.cls = .type "module" ∧ o.dict = some builtinsNs ∧ o.data = .plain
  code : CodeHd h cA P
section
variable {prog : Program} {w : World} {A : Around} {E : Value → Shared → Prop} {s : Shared} {env : Env} {c : Cx} {g : PM} {L : Addr} {m : Str → Option Value} {news : List (Addr × Obj)}
theorem Led.snocNew2 {h₀ h : Heap} {m₀ : Str → Option Value} {n₀ : List (Addr × Obj)} {a : Addr} {o : Obj} (D₀ : Led c g L h₀ m₀ n₀) (D : Led c g L h m news) (hn : ∀ p ∈ news, p ∈ n₀ ∨ p.1 ∈ n₀.map (·.1)) (hz : h₀.objs.size ≤ a) (ha : h.get? a = some o) : Led c g L h m (news ++ [(a, o)]) := by
  refine D.snoc ha (D₀.none_of_size hz) (fun q => ?_) (fun q => ?_)
  · have := D₀.ns.lt
    rw [q] at hz
    exact absurd this (Nat.not_lt.mpr hz)
  · obtain ⟨p, hp, e⟩ := List.mem_map.mp q
    have hp' : p.1 ∈ n₀.map (·.1) := (hn p hp).elim (fun z => List.mem_map_of_mem z) id
    obtain ⟨p', hp', e'⟩ := List.mem_map.mp hp'
    have := D₀.lt hp'
    rw [e', e] at this
    exact absurd this (Nat.not_lt.mpr hz)
theorem lam_led {cA P : Addr} {params : Arguments} {body : Expr} {scope : Scope} {pos : Pos} {ps : Array Value} {clos : List (Str × Addr)} {news' : Obj → List (Addr × Obj)} {Q : Value → Shared → Prop} (H : LamOk c.h0 cA P) (D : Led c g L s.heap m news) (U : ∀ o', Up P (tabObj ps) o' news (news' o')) (hP0 : c.h0.get? P = none)
    (hdef : defaultsOf params env = ([], [])) (hcl : closureFor scope env = pure clos) (hge : env.globals = mainGlobals) (hcode : env.code = .ref cA) (ht : TriplesOk ps.toList) (hnf : codeAmong pos ps.toList = none)
    (h : ∀ f c' oc vs t ctv pm h' tk (ps' : Array Value), L < f → Led c g L h' m ((f, kla_obj "<lambda>" (env.qual ++ "<lambda>") params body scope clos pm c' ctv) :: (news' (tabObj ps') ++ [(c', oc)])) → oc.data = .fields vs → vs[1]? = some (.str (env.qual ++ "<lambda>") t) → Q (.ref f) { s with heap := h', toks := tk }) :
    wpAny (model prog w) A (eval (.Lambda params body scope pos) env) Q E s := by
  obtain ⟨mg, hmg, bm, ob, b1, b2, b3, b4, b5, b6, b7⟩ := H.main
  have B := D.kb
  have hgP : mainGlobals ≠ P := fun q => by
    obtain ⟨o, es, ep, e, _⟩ := hmg
    rw [q, hP0] at e; cases e
  have hbP : bm ≠ P := fun q => by rw [q, hP0] at b4; cases b4
  refine kla_eval hdef ?_
  refine kla_makeFunction (mg := mg) hcl hge (hmg.keeps B) hcode (H.code.keeps B) (D.get (U (tabObj ps)).mem) ht hnf hgP ⟨bm, ob, b1, b2, b3, hbP, B _ _ b4, b5, b6, b7⟩ fun c' ctv h' tk hx hge2 hlt hrec htb => ?_
  obtain ⟨c₂, oc, vs, t, e2, hoc, hd, hv⟩ := hrec
  cases e2
  have D1 := D.upd (U _) hx htb
  have D2 := Led.snocNew D D1 (U _).addrs hge2 hoc
  have hl := D2.ltL
  exact h _ c' oc vs t ctv _ _ tk _ hl (D2.push _) hd hv
theorem lam_yields {x : Str} {px : Pos} {name qual : Str} {params : Arguments} {scope : Scope} {pm ctv v : Value} {f c' cc : Addr} {oc o : Obj} {vs : Array Value} {t : Tok} (G : c.h0.NoLimit) (B : ∀ b o, c.h0.get? b = some o → g b = some o)
    (hf : g f = some (kla_obj name qual params (.Name x px) scope [(x, cc)] pm c' ctv)) (hc : g c' = some oc) (hd : oc.data = .fields vs) (hv : vs[1]? = some (.str qual t)) (hcc : g cc = some o) (ho : o.data = .cell (some v))
    (hbind : bindArgs (kla_fn name qual params (.Name x px) scope [(x, cc)] pm (.ref c') ctv) ⟨[], []⟩ = pure []) (hco : scope.isCoroutine = false) (hgen : scope.isGenerator = false) (hk : scope.kind = .function) (hcell : ∀ x ∈ scope.names, x.2 ≠ .cell)
    (hxk : scope.names.lookup x = some .free) (hxd : (x == ("__debug__" : Str)) = false) (hxn : (x == ("__classdict__" : Str)) = false) : Yields prog w c g f v := by
  intro A E s Q hA hg hR h
  refine wpAny_call (kla_callFunE (by have := hA.depth; omega) (hg _ _ hf) rfl hco hgen rfl ⟨c', oc, vs, t, rfl, hg _ _ hc, hd, hv⟩ ?_)
  rw [hbind]
  refine wpAny_pure (wpAny_newFunctionEnv hcell (fun y hy => nomatch hy) (fun h₁ hns hsb => ⟨(G.keeps fun b o e => hg _ _ (B _ _ e)).fresh _ hsb, ?_⟩) hk)
  have hk₁ : Keep s.heap h₁ := fun b o e => hsb.extBut b o (Nat.ne_of_lt (Heap.lt_size e)) (Heap.get?_push_of_some _ e)
  refine kla_codeExpr ?_
  refine nm_f (c' := cc) (by show List.lookup x [(x, cc)] = some cc; simp) (hk₁ _ _ (hg _ _ hcc)) ho ?_ hk (by show scope.names.lookup x = _; exact hxk) hxd hxn
  exact h _ hR hk₁
end

-- part PF
theorem valueAt_not_mem {kvs : List (Str × Value)} {k : Str} (h : k ∉ kvs.map (·.1)) : valueAt kvs k = none := by
  unfold valueAt
  rw [Option.map_eq_none_iff, List.find?_eq_none]
  intro p hp e
  exact h (List.mem_map.mpr ⟨p, hp, of_decide_eq_true e⟩)
section
variable {prog : Program} {w : World} {A : Around} {E : Value → Shared → Prop} {s : Shared} {env : Env}
theorem neg_one_const {p1 p2 : Pos} {k : Nat} {Q : Value → Shared → Prop} (h : ∀ t tk, Q (.int (-1) t) { s with toks := tk }) : wpAny (model prog w) A (eval (.UnaryOp .USub (.Constant (.int 1) k p1) p2) env) Q E s := by
  refine UnaryOp_ ?_
  refine wpAny_Constant_int ?_
  refine neg_int ?_
  exact h _ _
end
def endS (x q : Str) : Bool := decide (q ≠ x) && Txt.endswith q x
def endP (x : Str) (p : Str × Tok) : Bool := endS x p.1
/-- the families that are made -/
def FamOk (ps : List (Str × Tok)) (FM : List (Addr × List (MK × Value))) : Prop := ∀ (j : Nat) f, FM[j]? = some f → ∃ x tx tj, ps[j]? = some (x, tx) ∧ f.2 = ((ps.filter (endP x)).map fun p => ((.inr p.1 : MK), Value.str p.1 p.2)) ++ [((.inl (j : Int) : MK), Value.int (j : Int) tj)]
def FamOn (fobs : List (Addr × Obj)) (FM : List (Addr × List (MK × Value))) : Prop := ∀ f ∈ FM, ∃ o, (f.1, o) ∈ fobs ∧ IsLst o (f.2.map (·.2))
theorem ends_iff (q x : Str) : Txt.endswith q x = true ↔ x.cps.toList <:+ q.cps.toList := by
  have lq : q.cps.toList.length = q.length := Array.length_toList
  have lx : x.cps.toList.length = x.length := Array.length_toList
  unfold Txt.endswith
  rw [Bool.and_eq_true, decide_eq_true_eq, StrLaws.subAt_eq, beq_iff_eq]
  constructor
  · rintro ⟨h1, h2⟩
    rw [List.take_of_length_le (by rw [List.length_drop]; omega)] at h2
    rw [← h2]
    exact List.drop_suffix _ _
  · rintro ⟨p, hp⟩
    have := congrArg List.length hp
    rw [List.length_append] at this
    refine ⟨by omega, ?_⟩
    have e : q.length - x.length = p.length := by omega
    rw [e, ← hp, List.drop_left, ← lx, List.take_length]
theorem str_ext {a b : Str} (h : a.cps.toList = b.cps.toList) : a = b := by
  cases a; cases b
  congr 1
  exact Array.toList_inj.mp h
theorem endS_iff (x q : Str) : endS x q = true ↔ x.cps.toList <:+ q.cps.toList ∧ x.cps.toList ≠ q.cps.toList := by
  unfold endS
  rw [Bool.and_eq_true, decide_eq_true_eq, ends_iff]
  exact ⟨fun h => ⟨h.2, fun e => h.1 (str_ext e.symm)⟩, fun h => ⟨fun e => h.2 (by rw [e]), h.1⟩⟩
def lastF (xs : List Str) (q : Str) : Nat → Option Nat
  | 0 => none
  | i + 1 => if endS (xs.getD i Str.empty) q = true then some i else lastF xs q i
def flS (xs : List Str) (q : Str) : Str := ((lastF xs q xs.length).map fun j => xs.getD j Str.empty).getD Str.empty
theorem lastF_some {xs : List Str} {q : Str} : ∀ {n j : Nat}, lastF xs q n = some j → j < n ∧ endS (xs.getD j Str.empty) q = true ∧ ∀ k, j < k → k < n → endS (xs.getD k Str.empty) q = false
  | 0, _, h => by cases h
  | n + 1, j, h => by
    unfold lastF at h
    split at h
    · rename_i q1
      cases h
      exact ⟨Nat.lt_succ_self _, q1, fun k h1 h2 => absurd h1 (by omega)⟩
    · rename_i q1
      obtain ⟨h1, h2, h3⟩ := lastF_some h
      refine ⟨by omega, h2, fun k h4 h5 => ?_⟩
      rcases Nat.lt_or_ge k n with z | z
      · exact h3 k h4 z
      · have : k = n := by omega
        subst this
        simpa using q1
theorem lastF_none {xs : List Str} {q : Str} : ∀ {n : Nat}, lastF xs q n = none → ∀ k, k < n → endS (xs.getD k Str.empty) q = false
  | 0, _, k, h => absurd h (by omega)
  | n + 1, h, k, hk => by
    unfold lastF at h
    split at h
    · cases h
    · rename_i q1
      rcases Nat.lt_or_ge k n with z | z
      · exact lastF_none h k z
      · have : k = n := by omega
        subst this
        simpa using q1
theorem fold_in {v : Value} {k : MK} : ∀ (l : List (MK × Value)) (kvs : List (MK × Value)), k ∈ l.map (·.1) → valueAt (l.foldl (fun kvs kv => stored kvs kv.1 v) kvs) k = some v
  | a :: l, kvs, h => by
    rw [List.foldl_cons]
    rcases Classical.em (k ∈ l.map (·.1)) with q | q
    · exact fold_in l _ q
    · rw [List.map_cons] at h
      have e : k = a.1 := (List.mem_cons.mp h).resolve_right q
      subst e
      have : ∀ (l kvs : List (MK × Value)), a.1 ∉ l.map (·.1) → valueAt (l.foldl (fun kvs kv => stored kvs kv.1 v) kvs) a.1 = valueAt kvs a.1 := by
        intro l
        induction l with
        | nil => intro kvs _; rfl
        | cons b l ih =>
          intro kvs hn
          rw [List.map_cons, List.mem_cons] at hn
          rw [List.foldl_cons, ih _ fun z => hn (.inr z), valueAt_stored_ne _ _ _ _ fun z => hn (.inl z)]
      rw [this l _ q, valueAt_stored_self]
theorem fold_out {v : Value} {k : MK} : ∀ (l : List (MK × Value)) (kvs : List (MK × Value)), k ∉ l.map (·.1) → valueAt (l.foldl (fun kvs kv => stored kvs kv.1 v) kvs) k = valueAt kvs k
  | [], _, _ => rfl
  | a :: l, kvs, h => by
    rw [List.map_cons, List.mem_cons] at h
    rw [List.foldl_cons, fold_out l _ fun z => h (.inr z), valueAt_stored_ne _ _ _ _ fun z => h (.inl z)]
theorem pm_at {ps : List (Str × Tok)} {FM : List (Addr × List (MK × Value))} (hF : FamOk ps FM) (hl : FM.length = ps.length) {q : Str} (hq : q ∈ ps.map (·.1)) :
    ∀ i, i ≤ FM.length → valueAt (pmFold (FM.take i)) (.inr q) = (lastF (ps.map (·.1)) q i).bind fun j => FM[j]?.map fun f => .ref f.1
  | 0, _ => rfl
  | i + 1, hi => by
    obtain ⟨f, hf⟩ : ∃ f, FM[i]? = some f := ⟨_, List.getElem?_eq_getElem (by omega)⟩
    obtain ⟨x, tx, tj, hx, hf2⟩ := hF i f hf
    have hxd : (ps.map (·.1)).getD i Str.empty = x := by
      rw [List.getD_eq_getElem?_getD, List.getElem?_map, hx]; rfl
    rw [pmFold_take FM i f hf]
    have hm : (.inr q : MK) ∈ f.2.map (·.1) ↔ endS x q = true := by
      rw [hf2, List.map_append, List.map_map, List.mem_append, List.mem_map]
      constructor
      · rintro (⟨p, hp, e⟩ | h)
        · have e' : p.1 = q := by simpa using e
          have := (List.mem_filter.mp hp).2
          unfold endP at this
          rw [e'] at this
          exact this
        · simp at h
      · intro h
        obtain ⟨p, hp, e⟩ := List.mem_map.mp hq
        exact .inl ⟨p, List.mem_filter.mpr ⟨hp, by unfold endP; rw [e]; exact h⟩, by simp [e]⟩
    show _ = (if endS ((ps.map (·.1)).getD i Str.empty) q = true then some i else lastF (ps.map (·.1)) q i).bind _
    rw [hxd]
    by_cases h : endS x q = true
    · rw [if_pos h, fold_in _ _ (hm.mpr h)]
      show _ = FM[i]?.map _
      rw [hf]; rfl
    · rw [if_neg h, fold_out _ _ fun z => h (hm.mp z)]
      exact pm_at hF hl hq i (by omega)
theorem pm_last {ps : List (Str × Tok)} {FM : List (Addr × List (MK × Value))} (hF : FamOk ps FM) (hl : FM.length = ps.length) {q : Str} (hq : q ∈ ps.map (·.1)) (hne : q ≠ Str.ofString "") (h0 : Str.ofString "" ∈ ps.map (·.1)) :
    ∃ j f x tx, FM[j]? = some f ∧ ps[j]? = some (x, tx) ∧ x = flS (ps.map (·.1)) q ∧ valueAt (pmFold FM) (.inr q) = some (.ref f.1) ∧ lastF (ps.map (·.1)) q (ps.map (·.1)).length = some j := by
  have h1 := pm_at hF hl hq FM.length (Nat.le_refl _)
  rw [List.take_length, hl] at h1
  cases e : lastF (ps.map (·.1)) q ps.length with
  | none =>
    obtain ⟨k, hk, e2⟩ := List.mem_iff_getElem.mp h0
    have h3 := lastF_none e k (by simpa using hk)
    rw [List.getD_eq_getElem?_getD, List.getElem?_eq_getElem hk, e2] at h3
    have h4 : endS (Str.ofString "") q = true := (endS_iff _ _).mpr ⟨List.nil_suffix, fun z => hne (str_ext z.symm)⟩
    exact absurd h4 (by rw [Option.getD_some] at h3; rw [h3]; exact Bool.false_ne_true)
  | some j =>
    obtain ⟨hj, h2, h3⟩ := lastF_some e
    obtain ⟨f, hf⟩ : ∃ f, FM[j]? = some f := ⟨_, List.getElem?_eq_getElem (by omega)⟩
    obtain ⟨x, tx, tj, hx, _⟩ := hF j f hf
    refine ⟨j, f, x, tx, hf, hx, ?_, ?_, by rw [List.length_map]; exact e⟩
    · unfold flS
      rw [List.length_map, e]
      show x = (ps.map (·.1)).getD j Str.empty
      rw [List.getD_eq_getElem?_getD, List.getElem?_map, hx]; rfl
    · rw [h1, e]
      show FM[j]?.map _ = _
      rw [hf]; rfl
theorem flS_isF {xs : List Str} (hs : xs.Pairwise fun a b => a.length ≤ b.length) {q : Str} {j : Nat} (e : lastF xs q xs.length = some j) : IsF (xs.map (·.cps.toList)) q.cps.toList (flS xs q).cps.toList := by
  obtain ⟨hj, h2, h3⟩ := lastF_some e
  have hfl : flS xs q = xs.getD j Str.empty := by unfold flS; rw [e]; rfl
  have hget : xs.getD j Str.empty = xs[j] := by rw [List.getD_eq_getElem?_getD, List.getElem?_eq_getElem hj]; rfl
  have h4 := (endS_iff _ _).mp h2
  refine ⟨?_, ?_, ?_, ?_⟩
  · rw [hfl, hget]
    exact List.mem_map_of_mem (List.getElem_mem hj)
  · rw [hfl]; exact h4.1
  · rw [hfl]; exact h4.2
  · intro u hu hus hne
    obtain ⟨y, hy, rfl⟩ := List.mem_map.mp hu
    obtain ⟨k, hk, rfl⟩ := List.mem_iff_getElem.mp hy
    have hkS : endS (xs.getD k Str.empty) q = true := by
      rw [List.getD_eq_getElem?_getD, List.getElem?_eq_getElem hk]
      exact (endS_iff _ _).mpr ⟨hus, hne⟩
    have hkj : k ≤ j := by
      rcases Nat.lt_or_ge j k with z | z
      · rw [h3 k z hk] at hkS; cases hkS
      · exact z
    rw [hfl, hget]
    show xs[k].cps.toList.length ≤ xs[j].cps.toList.length
    rw [Array.length_toList, Array.length_toList]
    rcases Nat.lt_or_ge k j with z | z
    · exact (List.pairwise_iff_getElem.mp hs) k j hk hj z
    · have : k = j := by omega
      subst this
      exact Nat.le_refl _
theorem fams_sum {ps : List (Str × Tok)} {FM : List (Addr × List (MK × Value))} (hF : FamOk ps FM) (hz : ps.length ≤ 1000) (hl : FM.length = ps.length) : (FM.map fun f => f.2.length).sum ≤ 2 ^ 20 := by
  have h1 : ∀ f ∈ FM, f.2.length ≤ 1001 := by
    intro f hf
    obtain ⟨j, hj, e⟩ := List.mem_iff_getElem.mp hf
    obtain ⟨x, tx, tj, hx, hf2⟩ := hF j f (by rw [List.getElem?_eq_getElem hj, e])
    rw [hf2, List.length_append, List.length_map]
    have := List.length_filter_le (endP x) ps
    simp only [List.length_cons, List.length_nil]
    omega
  have h2 : ∀ (l : List (Addr × List (MK × Value))), (∀ f ∈ l, f.2.length ≤ 1001) → (l.map fun f => f.2.length).sum ≤ 1001 * l.length := by
    intro l
    induction l with
    | nil => intro _; simp
    | cons a l ih =>
      intro h
      have := ih fun f hf => h f (.tail _ hf)
      have := h a (.head _)
      simp only [List.map_cons, List.sum_cons, List.length_cons]
      omega
  have := h2 FM h1
  omega
theorem fams_mix {ps : List (Str × Tok)} {FM : List (Addr × List (MK × Value))} (hF : FamOk ps FM) {f : Addr × List (MK × Value)} (hf : f ∈ FM) : ∀ kv ∈ f.2, mixIs kv.1 kv.2 = true := by
  obtain ⟨j, hj, e⟩ := List.mem_iff_getElem.mp hf
  obtain ⟨x, tx, tj, hx, hf2⟩ := hF j f (by rw [List.getElem?_eq_getElem hj, e])
  rw [hf2]
  intro kv hkv
  rcases List.mem_append.mp hkv with q | q
  · obtain ⟨p, _, rfl⟩ := List.mem_map.mp q
    simp [mixIs, Value.isStrOf]
  · rw [List.mem_singleton.mp q]
    simp [mixIs, Value.isInt]

-- part LH
def tab0 : List (PyData × PyData) := [(.str (Str.ofString "&"), .str (Str.ofString "&amp;")), (.str (Str.ofString "<"), .str (Str.ofString "&lt;")), (.str (Str.ofString ">"), .str (Str.ofString "&gt;"))]
theorem tab0_k : strKeyed tab0 = true := rfl
theorem tab0_n : (strKeysOf tab0).Nodup := by decide +kernel
def tab1 : List (PyData × PyData) := [(.str (Str.ofString "&"), .str (Str.ofString "&amp;")), (.str (Str.ofString "<"), .str (Str.ofString "&lt;")), (.str (Str.ofString ">"), .str (Str.ofString "&gt;")), (.str (Str.ofString "\""), .str (Str.ofString "&quot;")), (.str (Str.ofString "\r"), .str (Str.ofString "&#13;")), (.str (Str.ofString "\n"), .str (Str.ofString "&#10;")), (.str (Str.ofString "\t"), .str (Str.ofString "&#09;"))]
theorem tab1_k : strKeyed tab1 = true := rfl
theorem tab1_n : (strKeysOf tab1).Nodup := by decide +kernel
def tab2 : List (PyData × PyData) := [(.str (Str.ofString "&"), .str (Str.ofString "&amp;")), (.str (Str.ofString ">"), .str (Str.ofString "&gt;")), (.str (Str.ofString "\""), .str (Str.ofString "&quot;"))]
theorem tab2_k : strKeyed tab2 = true := rfl
theorem tab2_n : (strKeysOf tab2).Nodup := by decide +kernel
def tab3 : List (PyData × PyData) := [(.str (Str.ofString "&"), .str (Str.ofString "&amp;")), (.str (Str.ofString "<"), .str (Str.ofString "&lt;")), (.str (Str.ofString ">"), .str (Str.ofString "&gt;")), (.str (Str.ofString "\r"), .str (Str.ofString "&#xD;"))]
theorem tab3_k : strKeyed tab3 = true := rfl
theorem tab3_n : (strKeysOf tab3).Nodup := by decide +kernel
def tab4 : List (PyData × PyData) := [(.str (Str.ofString "&"), .str (Str.ofString "&amp;")), (.str (Str.ofString "<"), .str (Str.ofString "&lt;")), (.str (Str.ofString "\""), .str (Str.ofString "&quot;")), (.str (Str.ofString "\t"), .str (Str.ofString "&#x9;")), (.str (Str.ofString "\n"), .str (Str.ofString "&#xA;")), (.str (Str.ofString "\r"), .str (Str.ofString "&#xD;"))]
theorem tab4_k : strKeyed tab4 = true := rfl
theorem tab4_n : (strKeysOf tab4).Nodup := by decide +kernel
theorem valueAt_cons (k k' : Str) (v : Value) (kvs : List (Str × Value)) : valueAt ((k', v) :: kvs) k = if k' = k then some v else valueAt kvs k := by
  unfold valueAt
  rw [List.find?_cons]
  by_cases e : k' = k <;> simp [e]
def encR (p : Nat × List Nat) : PyData × PyData := (.str ⟨#[p.1]⟩, .str (strOf p.2))
theorem flat_val {kvs : List (Str × Value)} {D : List (PyData × PyData)} (h : PyProof.V.FlatPairs PyData.str kvs D) : ∀ (r : List (Nat × List Nat)), D = r.map encR →
    ∀ ch : Nat, ∃ t, valueAt kvs ⟨#[ch]⟩ = (r.lookup ch).map fun z => .str (strOf z) t := by
  induction h with
  | nil =>
    intro r hr ch
    cases r with
    | nil => exact ⟨0, rfl⟩
    | cons p r => cases hr
  | @cons k v d kvs D f _ ih =>
    intro r hr ch
    cases r with
    | nil => cases hr
    | cons p r =>
      obtain ⟨a, z⟩ := p
      rw [List.map_cons] at hr
      injection hr with h1 h2
      unfold encR at h1
      injection h1 with h3 h4
      injection h3 with h3
      subst h3 h4
      obtain ⟨t, rfl⟩ := f.str_inv
      rw [valueAt_cons, List.lookup_cons]
      by_cases e : ch = a
      · subst e
        exact ⟨t, by simp⟩
      · rw [if_neg (by simpa using Ne.symm e), show (ch == a) = false by simpa using e]
        exact ih r h2 ch
theorem tab0_e : tab0 = (escK 0).map encR := by kernel_rfl
theorem tab1_e : tab1 = (escK 1).map encR := by kernel_rfl
theorem tab2_e : tab2 = (escK 2).map encR := by kernel_rfl
theorem tab3_e : tab3 = (escK 3).map encR := by kernel_rfl
theorem tab4_e : tab4 = (escK 4).map encR := by kernel_rfl
def HandAt (prog : Program) (w : World) (n0 : Nat) (h : Heap) (k : Nat) (v : Value) : Prop := ∃ t d ot od kvs, v = .ref t ∧ h.get? t = some ot ∧ IsTpl ot [.ref (fnK k), .ref d] ∧ h.get? d = some od ∧ od.IsDictOf (PySem.strKind prog w) kvs ∧ 2 < d ∧ (n0 ≤ d ∧ n0 ≤ t) ∧
  ∀ ch : Nat, ∃ t, valueAt kvs ⟨#[ch]⟩ = ((escK k).lookup ch).map fun z => .str (strOf z) t
def Hands (prog : Program) (w : World) (n0 : Nat) (h : Heap) (vs : List Value) : Prop := ∀ k, k < 5 → ∃ v, vs[k]? = some v ∧ HandAt prog w n0 h k v
theorem handAt {prog : Program} {w : World} {n0 : Nat} {h : Heap} {k : Nat} {t d : Addr} {ot od : Obj} {D : List (PyData × PyData)} (ht : h.get? t = some ot) (hot : ot = { cls := .type "tuple", data := .seq #[.ref (fnK k), .ref d] })
    (hd : h.get? d = some od) (hD : TabObj (PySem.strKind prog w) PyData.str D od) (h2 : 2 < d) (hn : n0 ≤ d ∧ n0 ≤ t) (e : D = (escK k).map encR) : HandAt prog w n0 h k (.ref t) := by
  obtain ⟨kvs, h1, h3⟩ := hD
  exact ⟨t, d, ot, od, kvs, rfl, ht, ⟨0, hot⟩, hd, h1, h2, hn, flat_val h3 _ e⟩
section
variable {prog : Program} {w : World} {A : Around} {E : Value → Shared → Prop} {s : Shared} {c : Cx} {g : PM} {L : Addr} {m : Str → Option Value} {news : List (Addr × Obj)}
theorem dict_lits {env : Env} {keys : List (Option Expr)} {values : List Expr} {pos : Pos} {D : List (PyData × PyData)} {Q : Value → Shared → Prop} (DD : Led c g L s.heap m news) (hD : litPairs keys values = some D) (hs : strKeyed D = true) (hn : (strKeysOf D).Nodup)
    (hall : keys.all (·.isSome) = true) (hl : keys.length = values.length) (h0 : keys ≠ []) (hlen : keys.length ≤ 15)
    (h : ∀ a h₁ tk o, L < a → Led c g L h₁ m ((a, o) :: news) → TabObj (strKind prog w) PyData.str D o → Q (.ref a) { s with heap := h₁, toks := tk }) :
    wpAny (model prog w) A (eval (.Dict keys values pos) env) Q E s :=
  Dict_lits_str hD hs hn hall hl h0 hlen fun a o h₁ tk hz ho ht hk => h a h₁ tk o (Nat.lt_of_lt_of_le DD.ltL hz) (DD.add hk ho hz) ht
theorem look_lt {K : Frag} {f : Addr} {oc : Value} {od : Option Addr} {osl : Array (Option Value)} {name qual : Str} {params : Arguments} {body : List Stmt} {scope : Scope} {dV kV doc pm cdv ct : Value} {an : Option Addr} (G : Glo K c.h0) (B : Keep c.h0 s.heap)
    (ho : K.lookup f = some ⟨oc, od, .func (fnOf name qual params body scope dV kV doc pm an cdv ct), osl⟩) : f < s.heap.objs.size := Heap.lt_size ((G.keeps B).k _ _ ho)
theorem two_lt (G : Glo (Mine.hd.heap_39 w.params) c.h0) (B : Keep c.h0 s.heap) : 2 < s.heap.objs.size := by
  refine' Nat.lt_trans (show 2 < 246 by decide) (look_lt G B ?gho)
  case gho => k_is
theorem hands_spec (G : Glo (Mine.hd.heap_39 w.params) c.h0) (B : Keep c.h0 s.heap) (hR : Rest c s) (hA : AOk A 2) {Q : Value → Shared → Prop}
    (h : ∀ l ol vs s', Rest c s' → Keep s.heap s'.heap → s.heap.objs.size ≤ l → s'.heap.get? l = some ol → IsLst ol vs → Hands prog w s.heap.objs.size s'.heap vs → Q (.ref l) s') :
    wpAny (model prog w) A (call (.ref 246) []) Q E s := by
  refine' call_fn (binds := []) (n := 1) G B hA ?gho ?ghcd ?ghb ?ghl ?gh ?gc1 ?gc2 ?gc3 ?gc4
  wtm_at "ent"
  case gh =>
    intro L h₁ A' hA' hL hk hn hA1
    have D := Led.enter0 (c := c) B hn hk hL
    wtm_at "go"
    with_reducible refine Tuple_ ?_
    wtm_at "go"
    with_reducible refine dict_lits (D := tab0) D ?y1 tab0_k tab0_n ?y2 ?y3 ?y4 ?y5 ?_
    case y1 => kernel_rfl
    case y2 => rfl
    case y3 => rfl
    case y4 => exact List.cons_ne_nil _ _
    case y5 => decide
    clear D
    intro d0 h0 tk0 od0 hd0 D ht0
    try dsimp only
    wtm_at "go"
    with_reducible refine new_tuple D ?y6 ?_
    case y6 => simp [sizeLine]
    clear D
    intro t0 k0 ot0 hl0 D hot0
    try dsimp only
    wtm_at "go"
    with_reducible refine Tuple_ ?_
    wtm_at "go"
    with_reducible refine dict_lits (D := tab1) D ?y1 tab1_k tab1_n ?y2 ?y3 ?y4 ?y5 ?_
    case y1 => kernel_rfl
    case y2 => rfl
    case y3 => rfl
    case y4 => exact List.cons_ne_nil _ _
    case y5 => decide
    clear D
    intro d1 h1 tk1 od1 hd1 D ht1
    try dsimp only
    wtm_at "go"
    with_reducible refine new_tuple D ?y6 ?_
    case y6 => simp [sizeLine]
    clear D
    intro t1 k1 ot1 hl1 D hot1
    try dsimp only
    wtm_at "go"
    with_reducible refine Tuple_ ?_
    wtm_at "go"
    with_reducible refine dict_lits (D := tab2) D ?y1 tab2_k tab2_n ?y2 ?y3 ?y4 ?y5 ?_
    case y1 => kernel_rfl
    case y2 => rfl
    case y3 => rfl
    case y4 => exact List.cons_ne_nil _ _
    case y5 => decide
    clear D
    intro d2 h2 tk2 od2 hd2 D ht2
    try dsimp only
    wtm_at "go"
    with_reducible refine new_tuple D ?y6 ?_
    case y6 => simp [sizeLine]
    clear D
    intro t2 k2 ot2 hl2 D hot2
    try dsimp only
    wtm_at "go"
    with_reducible refine Tuple_ ?_
    wtm_at "go"
    with_reducible refine dict_lits (D := tab3) D ?y1 tab3_k tab3_n ?y2 ?y3 ?y4 ?y5 ?_
    case y1 => kernel_rfl
    case y2 => rfl
    case y3 => rfl
    case y4 => exact List.cons_ne_nil _ _
    case y5 => decide
    clear D
    intro d3 h3 tk3 od3 hd3 D ht3
    try dsimp only
    wtm_at "go"
    with_reducible refine new_tuple D ?y6 ?_
    case y6 => simp [sizeLine]
    clear D
    intro t3 k3 ot3 hl3 D hot3
    try dsimp only
    wtm_at "go"
    with_reducible refine Tuple_ ?_
    wtm_at "go"
    with_reducible refine dict_lits (D := tab4) D ?y1 tab4_k tab4_n ?y2 ?y3 ?y4 ?y5 ?_
    case y1 => kernel_rfl
    case y2 => rfl
    case y3 => rfl
    case y4 => exact List.cons_ne_nil _ _
    case y5 => decide
    clear D
    intro d4 h4 tk4 od4 hd4 D ht4
    try dsimp only
    wtm_at "go"
    with_reducible refine new_tuple D ?y6 ?_
    case y6 => simp [sizeLine]
    clear D
    intro t4 k4 ot4 hl4 D hot4
    try dsimp only
    wtm_at "go"
    with_reducible refine new_list D ?y6 ?_
    case y6 => simp [sizeLine]
    clear D
    intro l hh ol hll D hol
    try dsimp only
    wtm_at "go"
    have z := two_lt (s := s) G B
    refine h l ol _ _ hR D.keep (Nat.le_trans hL (Nat.le_of_lt hll)) (D.get (.head _)) ⟨0, hol⟩ fun k hk5 => ?_
    match k, hk5 with
    | 0, _ => exact ⟨_, rfl, handAt (D.get (.tail _ (.tail _ (.tail _ (.tail _ (.tail _ (.tail _ (.tail _ (.tail _ (.tail _ (.head _))))))))))) hot0 (D.get (.tail _ (.tail _ (.tail _ (.tail _ (.tail _ (.tail _ (.tail _ (.tail _ (.tail _ (.tail _ (.head _)))))))))))) ht0 (Nat.lt_trans z (Nat.lt_of_le_of_lt hL hd0)) ⟨Nat.le_trans hL (Nat.le_of_lt hd0), Nat.le_trans hL (Nat.le_of_lt hl0)⟩ tab0_e⟩
    | 1, _ => exact ⟨_, rfl, handAt (D.get (.tail _ (.tail _ (.tail _ (.tail _ (.tail _ (.tail _ (.tail _ (.head _))))))))) hot1 (D.get (.tail _ (.tail _ (.tail _ (.tail _ (.tail _ (.tail _ (.tail _ (.tail _ (.head _)))))))))) ht1 (Nat.lt_trans z (Nat.lt_of_le_of_lt hL hd1)) ⟨Nat.le_trans hL (Nat.le_of_lt hd1), Nat.le_trans hL (Nat.le_of_lt hl1)⟩ tab1_e⟩
    | 2, _ => exact ⟨_, rfl, handAt (D.get (.tail _ (.tail _ (.tail _ (.tail _ (.tail _ (.head _))))))) hot2 (D.get (.tail _ (.tail _ (.tail _ (.tail _ (.tail _ (.tail _ (.head _)))))))) ht2 (Nat.lt_trans z (Nat.lt_of_le_of_lt hL hd2)) ⟨Nat.le_trans hL (Nat.le_of_lt hd2), Nat.le_trans hL (Nat.le_of_lt hl2)⟩ tab2_e⟩
    | 3, _ => exact ⟨_, rfl, handAt (D.get (.tail _ (.tail _ (.tail _ (.head _))))) hot3 (D.get (.tail _ (.tail _ (.tail _ (.tail _ (.head _)))))) ht3 (Nat.lt_trans z (Nat.lt_of_le_of_lt hL hd3)) ⟨Nat.le_trans hL (Nat.le_of_lt hd3), Nat.le_trans hL (Nat.le_of_lt hl3)⟩ tab3_e⟩
    | 4, _ => exact ⟨_, rfl, handAt (D.get (.tail _ (.head _))) hot4 (D.get (.tail _ (.tail _ (.head _)))) ht4 (Nat.lt_trans z (Nat.lt_of_le_of_lt hL hd4)) ⟨Nat.le_trans hL (Nat.le_of_lt hd4), Nat.le_trans hL (Nat.le_of_lt hl4)⟩ tab4_e⟩
end


-- part DN
section
variable {prog : Program} {w : World} {A : Around} {E : Value → Shared → Prop} {s : Shared} {c : Cx} {K : Frag}
theorem code_fnV {f : Addr} {oc : Value} {od : Option Addr} {osl : Array (Option Value)} {name qual : Str} {params : Arguments} {body : List Stmt} {scope : Scope} {dV kV doc pm cdv ct : Value} {an : Option Addr} {args rest : List Value} {binds : List (Str × Value)} {va : Str} {n : Nat} {Q : Value → Shared → Prop}
    (G : Glo K c.h0) (B : Keep c.h0 s.heap) (hA : AOk A (n + 1))
    (ho : K.lookup f = some ⟨oc, od, .func (fnOf name qual params body scope dV kV doc pm an cdv ct), osl⟩) (hcd : codeIn K cdv qual = true) (hz : rest.length ≤ sizeLine)
    (hbind : bindArgs (fnOf name qual params body scope dV kV doc pm an cdv ct) ⟨args, []⟩ = (newTuple rest >>= fun v => pure (binds ++ [(va, v)]))) (hloc : ∀ v, ∀ y ∈ binds ++ [(va, v)], scope.names.lookup y.1 = some .local)
    (h : ∀ ta L h₁ A', A' = A.deeper (envX qual scope L f cdv []) → s.heap.objs.size ≤ ta → ta < L → Keep s.heap h₁ → h₁.get? ta = some { cls := .type "tuple", data := .seq rest.toArray } → h₁.Ns L (fun y => (binds ++ [(va, Value.ref ta)]).reverse.lookup y) → AOk A' n →
      wpAny (model prog w) A' (execs body (envX qual scope L f cdv [])) (fun fl s' => Q (match fl with | .ret v => v | _ => .none) s') (fun _ _ => False) { s with heap := h₁, toks := s.toks + (binds ++ [(va, Value.ref ta)]).length })
    (hcell : ∀ x ∈ scope.names, x.2 ≠ .cell) (hco : scope.isCoroutine = false) (hgen : scope.isGenerator = false) (hk : scope.kind = .function) :
    codeAny (model prog w) A (.call (.ref f) ⟨args, []⟩) (fun r s' => match r with | .ok (.ret v) => Q v s' | .ok _ => False | .error e => E e s') s := by
  have G' := G.keeps B
  refine codeAny_call_function (by have := hA.depth; omega) (G'.k _ _ ho) rfl hco hgen rfl (codeRec_of G'.k hcd) ?_
  rw [hbind]
  refine wpAny_bind (wpAny_newObj_type (wpAny_pure (wpAny_newFunctionEnv hcell (hloc _) (fun h₁ hns hsb => ⟨(G'.lim.push _).fresh _ hsb, codeAny_func ?_⟩) hk)) (by show rest.toArray.size ≤ sizeLine; rw [List.size_toArray]; exact hz))
  have k1 : Keep (s.heap.push { cls := .type "tuple", data := .seq rest.toArray }) h₁ := fun b o e => hsb.extBut b o (Nat.ne_of_lt (Heap.lt_size e)) (Heap.get?_push_of_some _ e)
  have e1 := h s.heap.objs.size (s.heap.push { cls := .type "tuple", data := .seq rest.toArray }).objs.size h₁ _ rfl (Nat.le_refl _) (by rw [Heap.size_push]; exact Nat.lt_succ_self _) (fun b o e => k1 _ _ (Heap.get?_push_of_some _ e)) (k1 _ _ (Heap.get?_push_size _ rfl)) hns (hA.deeper _)
  exact wpAny_mono e1 (fun _ _ x => x) fun _ _ x => x.elim
end
section
variable {prog : Program} {w : World} {A : Around} {E : Value → Shared → Prop} {s : Shared} {c : Cx} {g : PM} {L : Addr} {m : Str → Option Value} {news : List (Addr × Obj)}
theorem done_code (G : Glo (Mine.hd.heap_39 w.params) c.h0) (B : Keep c.h0 s.heap) (hR : Rest c s) (hA : AOk A 3) {x dx nd rl : Addr} {ts : Tok × Tok × Tok × Tok} {po nf : Int} {tp tf : Tok} {od orl : Obj} {ns : List Nd} {rs ks : List (Str × Tok)} {Q : Value → Shared → Prop}
    (hm : ∀ p ∈ srtL w ts nd rl dx po nf tp tf orl ns, s.heap.get? p.1 = some p.2) (hnd : ((srtL w ts nd rl dx po nf tp tf orl ns).map (·.1)).Nodup)
    (hm0 : ∀ p ∈ srtL w ts nd rl dx po nf tp tf orl ns, c.h0.get? p.1 = none)
    (hx : s.heap.get? x = some (instObj 165 dx)) (hxn : x ∉ (srtL w ts nd rl dx po nf tp tf orl ns).map (·.1))
    (hdd : s.heap.get? nd = some od) (hddn : nd ∉ (srtL w ts nd rl dx po nf tp tf orl ns).map (·.1)) (hd : od.IsDictOf (strKind prog w) (kvsOf ns)) (h2 : 2 < nd)
    (hr : IsLst orl (strVs rs)) (hks : ∀ p ∈ ks, ∃ e ∈ ns, e.name = p.1) (hcl : ∀ e ∈ ns, ∀ p ∈ e.succ, ∃ e' ∈ ns, e'.name = p.1) (hkz : ks.length ≤ 2 ^ 20) (hss : ∀ e ∈ ns, e.succ.length ≤ 2 ^ 20)
    (hz : (doneA (ns.map Nd.ab, rs.map (·.1)) (ks.map (·.1))).2.length ≤ 2 ^ 20)
    (hout : ∀ (i : Nat) k, (ks.map (·.1))[i]? = some k → npOf (doneA (ns.map Nd.ab, rs.map (·.1)) ((ks.map (·.1)).take i)).1 k = -1)
    (h : ∀ (ns' : List Nd) rs' orl' ts' tf' s', ns'.map Nd.fix = ns.map Nd.fix → IsLst orl' (strVs rs') → (ns'.map Nd.ab, rs'.map (·.1)) = doneA (ns.map Nd.ab, rs.map (·.1)) (ks.map (·.1)) → Rest c s' →
      (∀ b o, b ∉ (srtL w ts nd rl dx po nf tp tf orl ns).map (·.1) → s.heap.get? b = some o → s'.heap.get? b = some o) →
      (∀ p ∈ srtL w ts' nd rl dx po (nf + (ks.length : Int)) tp tf' orl' ns', s'.heap.get? p.1 = some p.2) → Q .none s') :
    codeAny (model prog w) A (.call (.ref 148) ⟨.ref x :: strVs ks, []⟩) (fun r s' => match r with | .ok (.ret v) => Q v s' | .ok _ => False | .error e => E e s') s := by
  refine' code_fnV (binds := [(Str.ofString "self", .ref x)]) (va := Str.ofString "nodes") (rest := strVs ks) (n := 2) G B hA ?gho ?ghcd (by rw [sizeLine_eq]; simp [strVs]; omega) ?ghb ?ghl ?gh ?gc1 ?gc2 ?gc3 ?gc4
  case gho => k_is
  case ghcd => k_is
  case ghb => generalize strVs ks = zs; cases zs <;> rfl
  case ghl => intro v; exact locs rfl
  case gc1 => decide
  case gc2 => rfl
  case gc3 => rfl
  case gc4 => rfl
  case gh =>
    intro ta L h₁ A' hA' hta htL hk hT hn hA1
    have D := Led.enter (c := c) (mu := srtL w ts nd rl dx po nf tp tf orl ns) B hm0 hn hk (Nat.le_trans hta (Nat.le_of_lt htL)) hm hnd
    have D := D.snoc hT (by
      cases q : hid s.heap ((srtL w ts nd rl dx po nf tp tf orl ns).map (·.1)) ta with
      | none => rfl
      | some o => exact absurd (Heap.lt_size (of_hid q).1) (Nat.not_lt.mpr hta)) (Nat.ne_of_lt htL) (by
      intro q
      refine e1_2 (List.mem_map.mp q) ?_
      rintro p hp e
      exact absurd (Heap.lt_size (hm p hp)) (by rw [e]; exact Nat.not_lt.mpr hta))
    have dl : ∀ {a o}, s.heap.get? a = some o → a ∉ (srtL w ts nd rl dx po nf tp tf orl ns).map (·.1) → hid s.heap ((srtL w ts nd rl dx po nf tp tf orl ns).map (·.1)) a = some o := fun e hn => hid_some e hn
    have bx := dl hx hxn
    have bnd := dl hdd hddn
    generalize hid s.heap _ = g at D dl bx bnd
    have D := D.perm (news' := (ta, { cls := .type "tuple", data := .seq (strVs ks).toArray }) :: (segs ns ++ [(rl, orl), (dx, srtD w ts nd (.ref rl) (.int po tp) (.int nf tf))])) (by
      refine (List.perm_append_singleton _ _).trans (List.Perm.cons _ ?_)
      have q := (List.perm_append_singleton (dx, srtD w ts nd (.ref rl) (.int po tp) (.int nf tf)) (segs ns ++ [(rl, orl)])).symm
      simpa using q)
    have hTp : IsTpl { cls := .type "tuple", data := .seq (strVs ks).toArray } (strVs ks) := ⟨0, rfl⟩
    generalize hota : Obj.mk (.type "tuple") _ _ _ = ota at D hTp
    wtm_at "go"
    refine wpAny_If ?_
    wtm_at "go"
    refine' ga_own (K := Mine.hd.heap_39 w.params) ?gX (inst_at (D.keep _ _ bx) (D.get (.tail _ (List.mem_append_right _ (.tail _ (.head _)))))) ?g1 ?g2 ?g3 ?g4 ?g5 ?g6 ?_
    wtm_at "gao"
    wtm_at "go"
    refine is_ref_none ?_
    wtm_at "go"
    rw [if_neg (by simp)]
    wtm_at "go"
    refine' ga_own (K := Mine.hd.heap_39 w.params) ?gX (inst_at (D.keep _ _ bx) (D.get (.tail _ (List.mem_append_right _ (.tail _ (.head _)))))) ?g1 ?g2 ?g3 ?g4 ?g5 ?g6 ?_
    wtm_at "gao"
    wtm_at "go"
    rename Led _ _ _ _ _ _ => D
    let Post1 : Shared → Prop := fun s' => ∃ (m : Str → Option Value) (ns' : List Nd) (rs' : List (Str × Tok)) (orl' : Obj) (tf' : Tok), Led c g L s'.heap m ((ta, ota) :: (segs ns' ++ [(rl, orl'), (dx, srtD w ts nd (.ref rl) (.int po tp) (.int (nf + (ks.length : Int)) tf'))])) ∧ Rest c s' ∧ ns'.map Nd.fix = ns.map Nd.fix ∧ IsLst orl' (strVs rs') ∧ (ns'.map Nd.ab, rs'.map (·.1)) = doneA (ns.map Nd.ab, rs.map (·.1)) (ks.map (·.1))
    refine exec_cut Post1 ?_ ?_
    · refine wpAny_For ?_ ?_
      rotate_left
      · intro _; rfl
      wtm_at "go"
      refine iter_tuple D (D.get (.head _)) hTp ?_
      intro I h₅ oI hLI D hit
      try dsimp only
      let Post2 : Nat → (Str → Option Value) → List (Addr × Obj) → Prop := fun i m news => ∃ (ns' : List Nd) (rs' : List (Str × Tok)) (orl' : Obj) (tf' : Tok), news = (ta, ota) :: (segs ns' ++ [(rl, orl'), (dx, srtD w ts nd (.ref rl) (.int po tp) (.int (nf + (i : Int)) tf'))]) ∧ m (Str.ofString "self") = some (.ref x) ∧ m (Str.ofString "n2i") = some (.ref nd) ∧ ns'.map Nd.fix = ns.map Nd.fix ∧ IsLst orl' (strVs rs') ∧
        (ns'.map Nd.ab, rs'.map (·.1)) = doneA (ns.map Nd.ab, rs.map (·.1)) ((ks.map (·.1)).take i)
      refine for_tuple (c := c) hA1.handled Post2 D ⟨ns, rs, orl, tf, by simp, rfl, rfl, rfl, hr, by simp [doneA]⟩ (by exact hR) hit (D.get (.tail _ (.head _))) hTp (.inr ?_) ?_ ?_
      · rintro i m' news' hxp
        refine e4_2 hxp ?_
        clear hxp
        rintro ns' rs' orl' tf' rfl _
        exact .head _
      · clear D hR hit
        rintro i v m₁ news₁ oI s₅ hv hxp
        refine e4_6 hxp ?_
        clear hxp
        rintro ns1 rs1 orl1 tf1 rfl e1 e2 hfx hr1 hab D hR
        obtain ⟨⟨k, t⟩, hk, rfl⟩ : ∃ p : Str × Tok, ks[i]? = some p ∧ v = .str p.1 p.2 := by
          unfold strVs at hv
          rw [List.getElem?_map] at hv
          cases q : ks[i]? with
          | none => rw [q] at hv; cases hv
          | some p => rw [q] at hv; exact ⟨p, rfl, by simpa using hv.symm⟩
        have hki : (ks.map (·.1))[i]? = some k := by rw [List.getElem?_map, hk]; rfl
        have hd' : od.IsDictOf (strKind prog w) (kvsOf ns1) := by rw [fix_kvs hfx]; exact hd
        have hnd' := names_nodup hd'
        obtain ⟨e, he, hek⟩ : ∃ e ∈ ns1, e.name = k := by
          refine e1_2 (hks _ (List.mem_of_getElem? hk)) ?_
          rintro e0 h0 q0
          refine e1_2 (fix_mem hfx h0) ?_
          rintro e he q
          exact ⟨e, he, by rw [(fix_eq q).1, q0]⟩
        have hval := valueAt_mem hnd' he
        rw [hek] at hval
        have hnp : e.np = -1 := by
          have q := hout i k hki
          rw [← hab, ← hek, npOf_ab hnd' he] at q
          exact q
        wtm_at "go"
        rename Led _ _ _ _ _ _ => D
        refine wpAny_If ?_
        wtm_at "go"
        refine dict_meth PySem.F.slot_dict_get PySem.F.type_dict_get (D.keep _ _ bnd) hd' ?_
        try dsimp only
        wtm_at "go"
        refine dict_get1 h2 (strKind_is prog w k t) (D.keep _ _ bnd) hd' ?_
        rw [hval]
        try dsimp only [Option.getD]
        wtm_at "go"
        rename Led _ _ _ _ _ _ => D
        refine is_ref_none ?_
        wtm_at "go"
        rw [if_neg (by simp)]
        wtm_at "go"
        rename Led _ _ _ _ _ _ => D
        refine e2_1 (List.append_of_mem he) ?_
        rintro pre post rfl
        have D' : Led _ _ _ _ _ ([(I, oI), (ta, ota)] ++ (segs (pre ++ e :: post) ++ [(rl, orl1), (dx, srtD w ts nd (.ref rl) (.int po tp) (.int (nf + (i : Int)) tf1))])) := D
        refine' ga_slot (K := Mine.hd.heap_39 w.params) ?gX (inst_at (ledF_nd3 D' (.head _)) (ledF_nd3 D' (.tail _ (.head _)))) ?g1 ?g2 ?g3 ?g4 ?g5 ?g6 ?g7 ?g8 ?_
        wtm_at "gas"
        wtm_at "go"
        refine wpAny_If ?_
        wtm_at "go"
        rename Led _ _ _ _ _ _ => D
        rw [if_neg (by simp [hnp])]
        wtm_at "go"
        rename Led _ _ _ _ _ _ => D
        have hsz : e.succ.length ≤ 2 ^ 20 := by
          refine e1_2 (fix_mem hfx.symm he) ?_
          rintro e0 h0 q0
          rw [← (fix_eq q0).2.2.2.1]; exact hss _ h0
        obtain ⟨e', he'⟩ : ∃ e' : Nd, e' = { e with np := -2, tp := 242 } := ⟨_, rfl⟩
        have U := up_node (e := e) (e' := e') (by rw [he']; rfl) (by rw [he']; rfl) [(I, oI), (ta, ota)] [(rl, orl1), (dx, srtD w ts nd (.ref rl) (.int po tp) (.int (nf + (i : Int)) tf1))] pre post
        have D' : Led _ _ _ _ _ ([(I, oI), (ta, ota)] ++ (segs (pre ++ e :: post) ++ [(rl, orl1), (dx, srtD w ts nd (.ref rl) (.int po tp) (.int (nf + (i : Int)) tf1))])) := D
        refine' sa_slot (K := Mine.hd.heap_39 w.params) D' ?gX (inst_at (ledF_nd3 D' (.head _)) (ledF_nd3 D' (.tail _ (.head _)))) ?g1 ?g2 ?g3 ?g4 ?g5 ?g6 ?g7 ?g8 U ?_
        case gX => wtm_at "kin"
        case g1 => k_is
        case g2 => k_is
        case g3 => k_is
        case g4 => k_is
        case g5 => k_is
        case g6 => decide
        case g7 => subst he'; rfl
        case g8 => subst he'; rfl
        clear D D' U
        intro h₆ D
        try dsimp only
        wtm_at "go"
        rename Led _ _ _ _ _ _ => D
        have hfx2 : (pre ++ e' :: post).map Nd.fix = ns.map Nd.fix := by rw [← hfx]; subst he'; simp [Nd.fix]
        have hab2 : (pre ++ e' :: post).map Nd.ab = setA ((pre ++ e :: post).map Nd.ab) k (-2) := by
          refine map_one hnd' (fun a ha => if_neg (by rw [← hek]; exact ha)) ?_
          subst he'
          simp [Nd.ab, hek]
        have hsu := suOf_ab hnd' he
        rw [hek] at hsu
        have hsA : e'.sa = e.sa ∧ e'.succ = e.succ ∧ e'.a = e.a := by subst he'; exact ⟨rfl, rfl, rfl⟩
        have heM : e' ∈ pre ++ e' :: post := by simp
        generalize pre ++ e' :: post = ns2 at D hfx2 hab2 heM
        let Post3 : Shared → Prop := fun s' => ∃ (m : Str → Option Value) (ns3 : List Nd) (rs3 : List (Str × Tok)) (orl3 : Obj), Led c g L s'.heap m ((I, oI) :: (ta, ota) :: (segs ns3 ++ [(rl, orl3), (dx, srtD w ts nd (.ref rl) (.int po tp) (.int (nf + (i : Int)) tf1))])) ∧ Rest c s' ∧ m (Str.ofString "self") = some (.ref x) ∧ m (Str.ofString "n2i") = some (.ref nd) ∧ ns3.map Nd.fix = ns.map Nd.fix ∧ IsLst orl3 (strVs rs3) ∧
          (ns3.map Nd.ab, rs3.map (·.1)) = (e'.succ.map (·.1)).foldl decA (ns2.map Nd.ab, rs1.map (·.1))
        refine exec_cut Post3 ?_ ?_
        · refine wpAny_For ?_ ?_
          rotate_left
          · intro _; rfl
          wtm_at "go"
          rw [← hsA.2.2]
          have hmm : ∀ {p : Addr × Obj} {ns3 : List Nd} {orl3 : Obj}, (∃ e3 ∈ ns3, p ∈ nd3 e3) → p ∈ (I, oI) :: (ta, ota) :: (segs ns3 ++ [(rl, orl3), (dx, srtD w ts nd (.ref rl) (.int po tp) (.int (nf + (i : Int)) tf1))]) := by
            rintro p ns3 orl3 hxp
            refine e1_2 hxp ?_
            clear hxp
            rintro e3 h3 hp
            exact .tail _ (.tail _ (List.mem_append_left _ (mem_segs h3 hp)))
          refine' ga_slot (K := Mine.hd.heap_39 w.params) ?gX (inst_at (D.get (hmm ⟨e', heM, .head _⟩)) (D.get (hmm ⟨e', heM, .tail _ (.head _)⟩))) ?g1 ?g2 ?g3 ?g4 ?g5 ?g6 ?g7 ?g8 ?_
          wtm_at "gas"
          have hsl : IsLst (sucObj e') (e'.succ.map fun p => .str p.1 p.2) := ⟨e'.ep, rfl⟩
          refine iter_list D (D.get (hmm ⟨e', heM, .tail _ (.tail _ (.head _))⟩)) hsl ?_
          intro I2 h₇ oI2 hLI2 D hit2
          try dsimp only
          let Post4 : Nat → (Str → Option Value) → List (Addr × Obj) → Prop := fun j m news => ∃ (ns3 : List Nd) (rs3 : List (Str × Tok)) (orl3 : Obj), news = (I, oI) :: (ta, ota) :: (segs ns3 ++ [(rl, orl3), (dx, srtD w ts nd (.ref rl) (.int po tp) (.int (nf + (i : Int)) tf1))]) ∧ m (Str.ofString "self") = some (.ref x) ∧ m (Str.ofString "n2i") = some (.ref nd) ∧ ns3.map Nd.fix = ns.map Nd.fix ∧ IsLst orl3 (strVs rs3) ∧
            (ns3.map Nd.ab, rs3.map (·.1)) = ((e'.succ.map (·.1)).take j).foldl decA (ns2.map Nd.ab, rs1.map (·.1))
          refine for_list (c := c) hA1.handled Post4 D ⟨ns2, rs1, orl1, rfl, e1, e2, hfx2, hr1, rfl⟩ (by exact hR) hit2 (D.get (.tail _ (hmm ⟨e', heM, .tail _ (.tail _ (.head _))⟩))) hsl (.inr ?_) ?_ ?_
          · rintro j m' news' hxp
            refine e3_5 hxp ?_
            clear hxp
            rintro ns3 rs3 orl3 rfl _ _ hfx3 _
            refine e1_2 (fix_mem (hfx3.trans hfx2.symm) heM) ?_
            rintro e3 h3 q3
            have q := fix_eq q3
            exact hmm ⟨e3, h3, by unfold nd3; rw [q.2.2.1, q.2.2.2.2.2]; exact .tail _ (.tail _ (.head _))⟩
          · clear D hR hit2
            rintro j v m₃ news₃ oI2 s₇ hv3 hxp
            refine e3_6 hxp ?_
            clear hxp
            rintro ns3 rs3 orl3 rfl e3 e4 hfx3 hr3 hab3 D hR
            obtain ⟨⟨y, ty⟩, hy, rfl⟩ : ∃ p : Str × Tok, e'.succ[j]? = some p ∧ v = .str p.1 p.2 := by
              rw [List.getElem?_map] at hv3
              cases q : e'.succ[j]? with
              | none => rw [q] at hv3; cases hv3
              | some p => rw [q] at hv3; exact ⟨p, rfl, by simpa using hv3.symm⟩
            have hyj : (e'.succ.map (·.1))[j]? = some y := by rw [List.getElem?_map, hy]; rfl
            have hd3 : od.IsDictOf (strKind prog w) (kvsOf ns3) := by rw [fix_kvs hfx3]; exact hd
            have hnd3 := names_nodup hd3
            obtain ⟨f, hf, hfy⟩ : ∃ f ∈ ns3, f.name = y := by
              refine e1_2 (fix_mem hfx2.symm heM) ?_
              rintro e0 h0 q0
              obtain ⟨e5, h5, q5⟩ := hcl e0 h0 (y, ty) (by rw [(fix_eq q0).2.2.2.1]; exact List.mem_of_getElem? hy)
              refine e1_2 (fix_mem hfx3 h5) ?_
              rintro f hf q
              exact ⟨f, hf, by rw [(fix_eq q).1, q5]⟩
            have hval3 := valueAt_mem hnd3 hf
            rw [hfy] at hval3
            wtm_at "go"
            rename Led _ _ _ _ _ _ => D
            refine dict_get (strKind_is prog w y ty) (D.keep _ _ bnd) hd3 hval3 ?_
            try dsimp only
            wtm_at "go"
            rename Led _ _ _ _ _ _ => D
            refine e2_1 (List.append_of_mem hf) ?_
            rintro pre3 post3 rfl
            have D' : Led _ _ _ _ _ ([(I2, oI2), (I, oI), (ta, ota)] ++ (segs (pre3 ++ f :: post3) ++ [(rl, orl3), (dx, srtD w ts nd (.ref rl) (.int po tp) (.int (nf + (i : Int)) tf1))])) := D
            refine wpAny_AugAssign_AttributeAny ?_
            wtm_at "go"
            refine' ga_slot (K := Mine.hd.heap_39 w.params) ?gX (inst_at (ledF_nd3 D' (.head _)) (ledF_nd3 D' (.tail _ (.head _)))) ?g1 ?g2 ?g3 ?g4 ?g5 ?g6 ?g7 ?g8 ?_
            wtm_at "gas"
            wtm_at "go"
            refine isub_int ?_
            have eS : f.np - 1 = f.np + (-1) := by omega
            rw [eS]
            generalize htq : Shared.toks _ = tq
            obtain ⟨f', hf'⟩ : ∃ f' : Nd, f' = { f with np := f.np + (-1), tp := tq } := ⟨_, rfl⟩
            have U := up_node (e := f) (e' := f') (by rw [hf']; rfl) (by rw [hf']; rfl) [(I2, oI2), (I, oI), (ta, ota)] [(rl, orl3), (dx, srtD w ts nd (.ref rl) (.int po tp) (.int (nf + (i : Int)) tf1))] pre3 post3
            refine' sa_slot (K := Mine.hd.heap_39 w.params) D' ?gX (inst_at (ledF_nd3 D' (.head _)) (ledF_nd3 D' (.tail _ (.head _)))) ?g1 ?g2 ?g3 ?g4 ?g5 ?g6 ?g7 ?g8 U ?_
            case gX => wtm_at "kin"
            case g1 => k_is
            case g2 => k_is
            case g3 => k_is
            case g4 => k_is
            case g5 => k_is
            case g6 => decide
            case g7 => subst hf'; rfl
            case g8 => subst hf'; rfl
            clear D D' U
            intro h₈ D
            try dsimp only
            wtm_at "go"
            rename Led _ _ _ _ _ _ => D
            have hfx4 : (pre3 ++ f' :: post3).map Nd.fix = ns.map Nd.fix := by rw [← hfx3]; subst hf'; simp [Nd.fix]
            have hab4 : (pre3 ++ f' :: post3).map Nd.ab = bumpA ((pre3 ++ f :: post3).map Nd.ab) y (-1) := by
              refine map_one hnd3 (fun a ha => if_neg (by rw [← hfy]; exact ha)) ?_
              subst hf'
              simp [Nd.ab, hfy]
            have hfn : f'.name = y ∧ f'.a = f.a := by subst hf'; exact ⟨hfy, rfl⟩
            have hnd4 : ((pre3 ++ f' :: post3).map Nd.name).Nodup := by rw [fix_names (hfx4.trans hfx3.symm)]; exact hnd3
            have hnp4 : npOf (bumpA ((pre3 ++ f :: post3).map Nd.ab) y (-1)) y = f'.np := by
              have q := npOf_ab hnd4 (e := f') (by simp)
              rw [hfn.1, hab4] at q; exact q
            have hst : ((e'.succ.map (·.1)).take (j + 1)).foldl decA (ns2.map Nd.ab, rs1.map (·.1)) = decA ((pre3 ++ f :: post3).map Nd.ab, rs3.map (·.1)) y := by
              rw [fold_snoc decA _ _ hyj, ← hab3]
            have hst2 : decA ((pre3 ++ f :: post3).map Nd.ab, rs3.map (·.1)) y = ((pre3 ++ f' :: post3).map Nd.ab, if f'.np = 0 then rs3.map (·.1) ++ [y] else rs3.map (·.1)) := by
              unfold decA
              dsimp only
              rw [hnp4, hab4]
            have D' : Led _ _ _ _ _ ([(I2, oI2), (I, oI), (ta, ota)] ++ (segs (pre3 ++ f' :: post3) ++ [(rl, orl3), (dx, srtD w ts nd (.ref rl) (.int po tp) (.int (nf + (i : Int)) tf1))])) := D
            refine wpAny_If ?_
            wtm_at "go"
            rw [← hfn.2]
            refine' ga_slot (K := Mine.hd.heap_39 w.params) ?gX (inst_at (ledF_nd3 D' (.head _)) (ledF_nd3 D' (.tail _ (.head _)))) ?g1 ?g2 ?g3 ?g4 ?g5 ?g6 ?g7 ?g8 ?_
            wtm_at "gas"
            wtm_at "go"
            have hlz : rs3.length ≤ 2 ^ 20 := by
              have q1 := len_decs ((e'.succ.map (·.1)).drop j) (((e'.succ.map (·.1)).take j).foldl decA (ns2.map Nd.ab, rs1.map (·.1)))
              rw [← fold_take] at q1
              have q2 : (e'.succ.map (·.1)).foldl decA (ns2.map Nd.ab, rs1.map (·.1)) = doneA (ns.map Nd.ab, rs.map (·.1)) ((ks.map (·.1)).take (i + 1)) := by
                unfold doneA
                rw [fold_snoc don1 _ _ hki]
                have hab' : ((pre ++ e :: post).map Nd.ab, rs1.map (·.1)) = ((ks.map (·.1)).take i).foldl don1 (ns.map Nd.ab, rs.map (·.1)) := hab
                rw [← hab']
                unfold don1
                rw [hsu, hab2, hsA.2.1]
              have q3 := len_done ((ks.map (·.1)).drop (i + 1)) (doneA (ns.map Nd.ab, rs.map (·.1)) ((ks.map (·.1)).take (i + 1)))
              have q4 : doneA (doneA (ns.map Nd.ab, rs.map (·.1)) ((ks.map (·.1)).take (i + 1))) ((ks.map (·.1)).drop (i + 1)) = doneA (ns.map Nd.ab, rs.map (·.1)) (ks.map (·.1)) := (fold_take don1 _ _ _).symm
              rw [q4] at q3
              rw [← hab3, q2] at q1
              have q5 : (rs3.map (·.1)).length = rs3.length := by simp
              simp only at q1
              omega
            by_cases hz0 : f'.np = 0
            · rw [if_pos (by rw [hz0]; rfl)]
              rw [if_pos hz0] at hst2
              wtm_at "go"
              have D : Led _ _ _ _ _ ((I2, oI2) :: (I, oI) :: (ta, ota) :: (segs (pre3 ++ f' :: post3) ++ [(rl, orl3), (dx, srtD w ts nd (.ref rl) (.int po tp) (.int (nf + (i : Int)) tf1))])) := D
              refine' ga_own (K := Mine.hd.heap_39 w.params) ?gX (inst_at (D.keep _ _ bx) (D.get (.tail _ (.tail _ (.tail _ (List.mem_append_right _ (.tail _ (.head _)))))))) ?g1 ?g2 ?g3 ?g4 ?g5 ?g6 ?_
              wtm_at "gao"
              have mR : (rl, orl3) ∈ (I2, oI2) :: (I, oI) :: (ta, ota) :: (segs (pre3 ++ f' :: post3) ++ [(rl, orl3), (dx, srtD w ts nd (.ref rl) (.int po tp) (.int (nf + (i : Int)) tf1))]) := .tail _ (.tail _ (.tail _ (List.mem_append_right _ (.head _))))
              refine method_lst (D.get mR) hr3 PySem.F.slot_list_append PySem.F.type_list_append ?_
              try dsimp only
              wtm_at "go"
              refine append_lst (D.get mR) hr3 (by rw [sizeLine_eq]; simp [strVs]; omega) ?_
              intro h₉ orl9 ho9 hl9 hx9
              have U : Up rl orl3 orl9 ((I2, oI2) :: (I, oI) :: (ta, ota) :: (segs (pre3 ++ f' :: post3) ++ [(rl, orl3), (dx, srtD w ts nd (.ref rl) (.int po tp) (.int (nf + (i : Int)) tf1))])) ((I2, oI2) :: (I, oI) :: (ta, ota) :: (segs (pre3 ++ f' :: post3) ++ [(rl, orl9), (dx, srtD w ts nd (.ref rl) (.int po tp) (.int (nf + (i : Int)) tf1))])) := .tail (.tail (.tail (Up.pre .head _)))
              have D := D.upd U hx9 ho9
              try dsimp only
              wtm_at "go"
              refine ⟨_, _, D, hR, pre3 ++ f' :: post3, rs3 ++ [(y, ty)], orl9, rfl, e3, e4, hfx4, ?_, ?_⟩
              · have q : strVs (rs3 ++ [(y, ty)]) = strVs rs3 ++ [.str y ty] := by simp [strVs]
                rw [q]; exact hl9
              · rw [hst, hst2]; simp
            · rw [if_neg (fun q => hz0 (by simpa using q))]
              rw [if_neg hz0] at hst2
              wtm_at "go"
              refine ⟨_, _, D, hR, pre3 ++ f' :: post3, rs3, orl3, rfl, e3, e4, hfx4, hr3, ?_⟩
              rw [hst, hst2]
          · clear D hR hit2
            rintro m' news' s₇ hxp
            refine e3_6 hxp ?_
            clear hxp
            rintro ns3 rs3 orl3 rfl e3 e4 hfx3 hr3 hab3 D hR
            refine ⟨rfl, _, ns3, rs3, orl3, D, hR, e3, e4, hfx3, hr3, ?_⟩
            rw [hab3, List.take_of_length_le (by simp)]
        · clear D hR
          rintro s₆ hxp
          refine e4_7 hxp ?_
          clear hxp
          rintro m2 ns3 rs3 orl3 D hR e3 e4 hfx3 hr3 hab3
          wtm_at "go"
          rename Led _ _ _ _ _ _ => D
          refine wpAny_AugAssign_AttributeAny ?_
          wtm_at "go"
          refine' ga_own (K := Mine.hd.heap_39 w.params) ?gX (inst_at (D.keep _ _ bx) (D.get (.tail _ (.tail _ (List.mem_append_right _ (.tail _ (.head _))))))) ?g1 ?g2 ?g3 ?g4 ?g5 ?g6 ?_
          wtm_at "gao"
          wtm_at "go"
          refine iadd_int ?_
          generalize htp : Shared.toks _ = tf2
          have U2 : Up dx (srtD w ts nd (.ref rl) (.int po tp) (.int (nf + (i : Int)) tf1)) (srtD w ts nd (.ref rl) (.int po tp) (.int (nf + (i : Int) + 1) tf2)) ((I, oI) :: (ta, ota) :: (segs ns3 ++ [(rl, orl3), (dx, srtD w ts nd (.ref rl) (.int po tp) (.int (nf + (i : Int)) tf1))])) ((I, oI) :: (ta, ota) :: (segs ns3 ++ [(rl, orl3), (dx, srtD w ts nd (.ref rl) (.int po tp) (.int (nf + (i : Int) + 1) tf2))])) := .tail (.tail (Up.pre (.tail .head) _))
          refine' sa_dict (K := Mine.hd.heap_39 w.params) D ?gX (inst_at (D.keep _ _ bx) (D.get (.tail _ (.tail _ (List.mem_append_right _ (.tail _ (.head _))))))) rfl ?g1 ?g2 ?g3 ?g4 ?g5 ?g6 U2 ?g8 ?_
          wtm_at "sad"
          clear D U2
          intro h₈ D
          try dsimp only
          wtm_at "go"
          have eI : nf + (i : Int) + 1 = nf + ((i + 1 : Nat) : Int) := by omega
          rw [eI] at D
          refine ⟨_, _, D, hR, ns3, rs3, orl3, tf2, rfl, e3, e4, hfx3, hr3, ?_⟩
          rw [hab3]
          unfold doneA
          rw [fold_snoc don1 _ _ hki]
          have hab' : ((pre ++ e :: post).map Nd.ab, rs1.map (·.1)) = ((ks.map (·.1)).take i).foldl don1 (ns.map Nd.ab, rs.map (·.1)) := hab
          rw [← hab']
          unfold don1
          rw [hsu, hab2, hsA.2.1]
      · clear D hR hit
        rintro m' news' s₅ hxp
        refine e4_6 hxp ?_
        clear hxp
        rintro ns1 rs1 orl1 tf1 rfl e1 e2 hfx hr1 hab D hR
        refine ⟨rfl, _, ns1, rs1, orl1, tf1, by simpa [strVs] using D, hR, hfx, hr1, ?_⟩
        rw [hab, List.take_of_length_le (by simp [strVs])]
    · clear D hR
      rintro s₂ hxp
      refine e5_5 hxp ?_
      clear hxp
      rintro m ns' rs' orl' tf' D hR hfx hr' hab
      wtm_at "go"
      refine h ns' rs' orl' ts tf' _ hfx hr' hab hR (fun b o hb e => D.keep _ _ (dl e hb)) (fun p hp => ?_)
      rcases List.mem_cons.mp hp with rfl | hp
      · exact D.get (.tail _ (List.mem_append_right _ (.tail _ (.head _))))
      · rcases List.mem_append.mp hp with hp | hp
        · exact D.get (.tail _ (List.mem_append_left _ hp))
        · rw [List.mem_singleton.mp hp]
          exact D.get (.tail _ (List.mem_append_right _ (.head _)))
end


-- part LR
theorem str_beq {x y : Str} : (x != y) = true ↔ x ≠ y := by simp
section
variable {prog : Program} {w : World} {A : Around} {E : Value → Shared → Prop} {s : Shared} {c : Cx}
theorem read_spec (G : Glo (Mine.hd.heap_39 w.params) c.h0) (B : Keep c.h0 s.heap) (hR : Rest c s) (hA : AOk A 2) {x : Str} {tx : Tok} {dh dt : Addr} {oh ot : Obj} {kh kt : List (Str × Value)} {ks : List Str} {fl : Str → Str} {ad : Str → Addr} {I Wp : Nat → Str → Prop} {Q : Value → Shared → Prop}
    (hh : s.heap.get? dh = some oh) (hhd : oh.IsDictOf (strKind prog w) kh) (hh2 : 2 < dh) (ht : s.heap.get? dt = some ot) (htd : ot.IsDictOf (strKind prog w) kt) (ht2 : 2 < dt)
    (hk1 : ∀ q ∈ ks, ∃ t, valueAt kh q = some (.str (fl q) t)) (hk0 : ∀ q, q ∉ ks → valueAt kh q = none) (hkt : ∀ q, q = Str.ofString "" ∨ q ∈ ks → valueAt kt q = some (.ref (ad q)))
    (hI0 : I 0 (Str.ofString "")) (hIW : ∀ i q, I i q → Wp i q) (hWm : ∀ i q, Wp i q → q = Str.ofString "" ∨ q ∈ ks)
    (hWf : ∀ i ch q, x.cps[i]? = some ch → Wp i q → q ≠ Str.ofString "" → q ++ (⟨#[ch]⟩ : Str) ∉ ks → Wp i (fl q))
    (hWg : ∀ i ch q, x.cps[i]? = some ch → Wp i q → q ++ (⟨#[ch]⟩ : Str) ∈ ks → I (i + 1) (q ++ (⟨#[ch]⟩ : Str)))
    (hW0 : ∀ i ch, x.cps[i]? = some ch → Wp i (Str.ofString "") → Str.ofString "" ++ (⟨#[ch]⟩ : Str) ∉ ks → I (i + 1) (Str.ofString ""))
    (hfl : ∀ q ∈ ks, (fl q).length < q.length) (hz : ∀ q ∈ ks, q.length ≤ 10000) (hx : x.cps.size ≤ 10000)
    (h : ∀ (lf : Addr) (ofd : Obj) (qs : List Str) (s' : Shared), Rest c s' → Keep s.heap s'.heap → s.heap.objs.size ≤ lf → s'.heap.get? lf = some ofd → IsLst ofd (qs.map fun q => .ref (ad q)) → qs.length = x.cps.size → (∀ i q, qs[i]? = some q → I (i + 1) q) → Q (.ref lf) s') :
    wpAny (model prog w) A (call (.ref 277) [.str x tx, .ref dh, .ref dt]) Q E s := by
  refine' call_fn (binds := [(Str.ofString "text", .str x tx), (Str.ofString "hung", .ref dh), (Str.ofString "told", .ref dt)]) (n := 1) G B hA ?gho ?ghcd ?ghb ?ghl ?gh ?gc1 ?gc2 ?gc3 ?gc4
  wtm_at "ent"
  case gh =>
    intro L h₁ A' hA' hL hk hn hA1
    have D := Led.enter0 (c := c) B hn hk hL
    have hzW : ∀ i q, Wp i q → q.length ≤ 10000 := fun i q hq => (hWm i q hq).elim (fun e => by rw [e]; decide) fun e => hz q e
    wtm_at "go"
    refine Assign_Tuple_swapped (names := [Str.ofString "state", Str.ofString "found"]) ?_ rfl rfl
    with_reducible refine Tuple_ ?_
    wtm_at "go"
    with_reducible refine new_list D ?y6 ?_
    case y6 => simp [sizeLine]
    clear D
    intro lf h2 ofd hlf D hofd
    try dsimp only
    wtm_at "go"
    with_reducible refine new_tuple D ?y6 ?_
    case y6 => simp [sizeLine]
    clear D
    intro tp h3 otp htp D hotp
    try dsimp only
    refine unpack_led D hA1.handled (D.get (.head _)) ⟨0, hotp⟩ rfl ?_
    clear D
    intro h4 _ D
    refine aio_two ?_
    wtm_at "go"
    rename Led _ _ _ _ _ _ => D
    refine wpAny_For ?_ ?_
    rotate_left
    · intro _; rfl
    wtm_at "go"
    refine itr_str (by exact D) ?_
    clear D
    intro It h5 oI hLI D hit
    try dsimp only
    have hof0 : IsLst ofd (([] : List Str).map fun q => Value.ref (ad q)) := ⟨0, hofd⟩
    let Post1 : Nat → (Str → Option Value) → List (Addr × Obj) → Prop := fun i m news => ∃ (qs : List Str) (q : Str) (t : Tok) (ofd : Obj), news = [(tp, otp), (lf, ofd)] ∧ m (Str.ofString "hung") = some (.ref dh) ∧ m (Str.ofString "told") = some (.ref dt) ∧ m (Str.ofString "found") = some (.ref lf) ∧ m (Str.ofString "state") = some (.str q t) ∧
      I i q ∧ IsLst ofd (qs.map fun q => .ref (ad q)) ∧ qs.length = i ∧ ∀ j q, qs[j]? = some q → I (j + 1) q
    refine for_it hA1.handled hit Post1 D ⟨[], _, _, ofd, rfl, rfl, rfl, rfl, rfl, hI0, hof0, rfl, fun _ _ q => by cases q⟩ (by exact hR) ?_ ?_ ?_
    · intro i m' news' _ b hb hbI
      exact absurd (List.mem_singleton.mp hb) hbI
    · clear D hR hofd hit hof0
      rintro i v m₁ news₁ oI s₁ hi hxp
      refine e2_2 hxp ?_
      clear hxp
      rintro ch u hch rfl ⟨qs, q, t, ofd, rfl, e1, e2, e3, e4, hI, hof, hql, hqs⟩ D hR
      refine wpAny_assign_Name ?_
      wtm_at "go"
      rename Led _ _ _ _ _ _ => D
      let Post2 : Shared → Prop := fun s' => ∃ (m : Str → Option Value) (q : Str) (t : Tok), Led c s.heap.get? L s'.heap m [(It, oI), (tp, otp), (lf, ofd)] ∧ Rest c s' ∧ m (Str.ofString "hung") = some (.ref dh) ∧ m (Str.ofString "told") = some (.ref dt) ∧ m (Str.ofString "found") = some (.ref lf) ∧ m (Str.ofString "state") = some (.str q t) ∧ (∃ u, m (Str.ofString "sign") = some (.str ⟨#[ch]⟩ u)) ∧
        Wp i q ∧ (q = Str.ofString "" ∨ q ++ (⟨#[ch]⟩ : Str) ∈ ks)
      refine exec_cut Post2 ?_ ?_
      · refine wpAny_While ?_
        let Post3 : Nat → (Str → Option Value) → List (Addr × Obj) → Prop := fun k m news => ∃ q t, news = [(It, oI), (tp, otp), (lf, ofd)] ∧ m (Str.ofString "hung") = some (.ref dh) ∧ m (Str.ofString "told") = some (.ref dt) ∧ m (Str.ofString "found") = some (.ref lf) ∧ m (Str.ofString "state") = some (.str q t) ∧ (∃ u, m (Str.ofString "sign") = some (.str ⟨#[ch]⟩ u)) ∧
          Wp i q ∧ k = q.length
        refine whileLoop_led Post3 (by exact ⟨q, t, rfl, e1, e2, e3, e4, ⟨u, rfl⟩, hIW i q hI, rfl⟩) D hR ?_
        clear D hR hI e1 e2 e3 e4 hof hql hqs
        rintro k m₁ news₁ s₁ hxp
        refine e2_8 hxp ?_
        clear hxp
        rintro q t rfl e1 e2 e3 e4 ⟨u, e5⟩ hW rfl D hR
        have hqz := hzW i q hW
        have hch1 : (⟨#[ch]⟩ : Str).length = 1 := rfl
        wtm_at "go"
        have hsz : q.length + (⟨#[ch]⟩ : Str).length ≤ sizeLine := by rw [hch1, sizeLine_eq]; omega
        by_cases hq : q = Str.ofString ""
        · rw [if_neg (by simp [hq]), if_neg Bool.false_ne_true]
          wtm_at "go"
          exact ⟨rfl, _, q, t, D, hR, e1, e2, e3, e4, ⟨u, e5⟩, hW, .inl hq⟩
        · rw [if_pos (by simpa using hq)]
          wtm_at "go"
          with_reducible refine PyProof.Rows.add_str ?_ hsz
          intro t' tk'
          try dsimp only
          wtm_at "go"
          with_reducible refine dict_notin (knd := strKind prog w) hh2 (strKind_is _ _ _ _) (D.keep _ _ hh) hhd ?_
          have hqk : q ∈ ks := (hWm i q hW).resolve_left hq
          by_cases hm : q ++ (⟨#[ch]⟩ : Str) ∈ ks
          · obtain ⟨tv, hv⟩ := hk1 _ hm
            rw [hv]
            wtm_at "go"
            rw [if_neg (by simp)]
            wtm_at "go"
            rw [if_neg (by simp)]
            wtm_at "go"
            exact ⟨rfl, _, q, t, D, hR, e1, e2, e3, e4, ⟨u, e5⟩, hW, .inr hm⟩
          · rw [hk0 _ hm]
            wtm_at "go"
            rw [if_pos (by simp)]
            wtm_at "go"
            rw [if_pos (by simp)]
            wtm_at "go"
            obtain ⟨tv, hv⟩ := hk1 q hqk
            with_reducible refine dict_get (strKind_is _ _ _ _) (D.keep _ _ hh) hhd hv ?_ (by with_unfolding_all rfl)
            wtm_at "go"
            rename Led _ _ _ _ _ _ => D
            have hf := hWf i ch q hch hW hq hm
            exact ⟨_, _, D, hR, _, hfl q hqk, fl q, tv, rfl, e1, e2, e3, rfl, ⟨u, e5⟩, hf, rfl⟩
      · clear D hR hI e1 e2 e3 e4
        rintro s₂ hxp
        refine e3_9 hxp ?_
        clear hxp
        rintro m q t D hR e1 e2 e3 e4 ⟨u, e5⟩ hW hend
        have hqz := hzW i q hW
        have hch1 : (⟨#[ch]⟩ : Str).length = 1 := rfl
        have hsz : q.length + (⟨#[ch]⟩ : Str).length ≤ sizeLine := by rw [hch1, sizeLine_eq]; omega
        wtm_at "go"
        refine wpAny_If ?_
        wtm_at "go"
        with_reducible refine PyProof.Rows.add_str ?_ hsz
        intro t' tk'
        try dsimp only
        wtm_at "go"
        with_reducible refine dict_in (knd := strKind prog w) hh2 (strKind_is _ _ _ _) (D.keep _ _ hh) hhd ?_
        by_cases hm : q ++ (⟨#[ch]⟩ : Str) ∈ ks
        · obtain ⟨tv, hv⟩ := hk1 _ hm
          rw [hv]
          wtm_at "go"
          rw [if_pos (by simp)]
          wtm_at "go"
          with_reducible refine PyProof.Rows.add_str ?_ hsz
          intro t'' tk''
          try dsimp only
          wtm_at "go"
          rename Led _ _ _ _ _ _ => D
          have hI' := hWg i ch q hch hW hm
          have hIm := hWm _ _ (hIW _ _ hI')
          have hgf := D.get (.tail _ (.tail _ (.head _)))
          with_reducible refine method_lst hgf hof PySem.F.slot_list_append PySem.F.type_list_append ?_
          try dsimp only
          wtm_at "go"
          with_reducible refine dict_get (strKind_is _ _ _ _) (D.keep _ _ ht) htd (hkt _ hIm) ?_ (by with_unfolding_all rfl)
          wtm_at "go"
          have hgf := D.get (.tail _ (.tail _ (.head _)))
          with_reducible refine append_lst hgf hof ?hz9 ?_
          case hz9 => rw [List.length_map, hql, sizeLine_eq]; omega
          intro h9 ofd9 ho9 hl9 hx9
          have D := D.upd (.tail (.tail .head)) hx9 ho9
          try dsimp only
          wtm_at "go"
          refine ⟨_, _, D, hR, qs ++ [q ++ (⟨#[ch]⟩ : Str)], q ++ (⟨#[ch]⟩ : Str), _, ofd9, rfl, e1, e2, e3, rfl, hI', by rw [List.map_append]; exact hl9, by rw [List.length_append, hql]; rfl, ?_⟩
          intro j q' hj
          rcases Nat.lt_or_ge j qs.length with hj2 | hj2
          · rw [List.getElem?_append_left hj2] at hj; exact hqs j q' hj
          · rw [List.getElem?_append_right hj2] at hj
            have : j = i := by
              rcases Nat.lt_or_ge (j - qs.length) 1 with z | z
              · omega
              · rw [List.getElem?_eq_none (by simpa using z)] at hj; cases hj
            subst this
            rw [hql, Nat.sub_self] at hj
            cases hj
            exact hI'
        · rw [hk0 _ hm]
          wtm_at "go"
          rw [if_neg (by simp)]
          wtm_at "go"
          have hq0 : q = Str.ofString "" := hend.resolve_right hm
          subst hq0
          rename Led _ _ _ _ _ _ => D
          have hI' := hW0 i ch hch hW hm
          have hIm := hWm _ _ (hIW _ _ hI')
          have hgf := D.get (.tail _ (.tail _ (.head _)))
          with_reducible refine method_lst hgf hof PySem.F.slot_list_append PySem.F.type_list_append ?_
          try dsimp only
          wtm_at "go"
          with_reducible refine dict_get (strKind_is _ _ _ _) (D.keep _ _ ht) htd (hkt _ hIm) ?_ (by with_unfolding_all rfl)
          wtm_at "go"
          have hgf := D.get (.tail _ (.tail _ (.head _)))
          with_reducible refine append_lst hgf hof ?hz9 ?_
          case hz9 => rw [List.length_map, hql, sizeLine_eq]; omega
          intro h9 ofd9 ho9 hl9 hx9
          have D := D.upd (.tail (.tail .head)) hx9 ho9
          try dsimp only
          wtm_at "go"
          refine ⟨_, _, D, hR, qs ++ [Str.ofString ""], Str.ofString "", _, ofd9, rfl, e1, e2, e3, e4, hI', by rw [List.map_append]; exact hl9, by rw [List.length_append, hql]; rfl, ?_⟩
          intro j q' hj
          rcases Nat.lt_or_ge j qs.length with hj2 | hj2
          · rw [List.getElem?_append_left hj2] at hj; exact hqs j q' hj
          · rw [List.getElem?_append_right hj2] at hj
            have : j = i := by
              rcases Nat.lt_or_ge (j - qs.length) 1 with z | z
              · omega
              · rw [List.getElem?_eq_none (by simpa using z)] at hj; cases hj
            subst this
            rw [hql, Nat.sub_self] at hj
            cases hj
            exact hI'
    · clear D hR hofd hit hof0
      rintro m' news' s₁ hxp
      refine e4_9 hxp ?_
      clear hxp
      rintro qs q t ofd rfl e1 e2 e3 e4 hI hof hql hqs D hR
      try dsimp only
      wtm_at "go"
      exact h lf ofd qs _ hR D.keep (Nat.le_trans hL (Nat.le_of_lt hlf)) (D.get (.tail _ (.head _))) hof hql hqs
end


-- part LT
section
variable {prog : Program} {w : World} {A : Around} {E : Value → Shared → Prop} {s : Shared} {c : Cx}
theorem told_spec (G : Glo (Mine.hd.heap_39 w.params) c.h0) (B : Keep c.h0 s.heap) (hR : Rest c s) (hA : AOk A 10) {outer : List Env} {FR : List (Addr × Obj)} {dh lw : Addr} {oh ow : Obj} {kh : List (Str × Value)} {ws : List (Str × Tok)} {ks : List Str} {fl : Str → Str} {tl : Str → List Str} {Q : Value → Shared → Prop}
    (hfr : A.frames = some outer) (hFO : FrOk outer FR) (hmF : ∀ p ∈ FR, s.heap.get? p.1 = some p.2) (hF0 : ∀ p ∈ FR, c.h0.get? p.1 = none) (hFn : (FR.map (·.1)).Nodup)
    (hh : s.heap.get? dh = some oh) (hhF : dh ∉ FR.map (·.1)) (hhd : oh.IsDictOf (strKind prog w) kh) (hh2 : 2 < dh) (hw : s.heap.get? lw = some ow) (hwF : lw ∉ FR.map (·.1)) (hwl : IsLst ow (strVs ws))
    (hks : kh.map (·.1) = ks) (hkn : ks.Nodup) (hk1 : ∀ q ∈ ks, ∃ t, valueAt kh q = some (.str (fl q) t)) (hk0 : ∀ q, q ∉ ks → valueAt kh q = none)
    (hfl : ∀ q ∈ ks, (fl q).length < q.length) (hkz : ks.length ≤ 1000)
    (htl : ∀ q ∈ ks, tl q = (if q ∈ ws.map (·.1) then [q] else []) ++ tl (fl q)) (htl0 : ∀ q, q ∉ ks → tl q = if q ∈ ws.map (·.1) then [q] else []) (htz : ∀ q, (tl q).length ≤ 1000)
    (h : ∀ (dt : Addr) (ot : Obj) (kt : List (Str × Value)) (lists : List (Addr × Obj)) (f : Addr → Array (Option Value)) (s' : Shared), Rest c s' → s.heap.objs.size ≤ dt → s'.heap.get? dt = some ot → ot.IsDictOf (strKind prog w) kt →
      (∀ p ∈ lists, s'.heap.get? p.1 = some p.2 ∧ s.heap.objs.size ≤ p.1) → (((dt, ot) :: lists).map (·.1)).Nodup → ToldOk kt lists tl (namesA fl ks) →
      (∀ b o, b ∉ FR.map (·.1) → s.heap.get? b = some o → s'.heap.get? b = some o) → (∀ p ∈ slotted f FR, s'.heap.get? p.1 = some p.2) → Q (.ref dt) s') :
    wpAny (model prog w) A (call (.ref 270) [.ref dh, .ref lw]) Q E s := by
  refine' call_fn (binds := [(Str.ofString "hung", .ref dh), (Str.ofString "words", .ref lw)]) (n := 9) G B hA ?gho ?ghcd ?ghb ?ghl ?gh ?gc1 ?gc2 ?gc3 ?gc4
  wtm_at "ent"
  case gh =>
    intro L h₁ A' hA' hL hk hn hA1
    have hfr' := frames_eq hA' hfr
    have D := Led.enter (c := c) (mu := FR) B hF0 hn hk hL hmF hFn
    have dl : ∀ {a o}, s.heap.get? a = some o → a ∉ FR.map (·.1) → hid s.heap (FR.map (·.1)) a = some o := fun e hf => hid_some e hf
    have bh := dl hh hhF
    have bw := dl hw hwF
    have hgs : ∀ b o, b ∉ FR.map (·.1) → s.heap.get? b = some o → hid s.heap (FR.map (·.1)) b = some o := fun b o hb e => dl e hb
    generalize hid s.heap _ = g at D bh bw hgs
    wtm_at "go"
    refine callWith_K0 (K := Mine.hd.heap_39 w.params) (Frag.In.keeps G.k D.kb) (by k_is) ?_
    refine new_srt G D (by exact hR) ?hA3 ?_
    case hA3 => exact hA1.mono (by decide)
    clear D
    intro x dx nd ts t1 t2 od s₂ hR hldx hlx hlnd hod D
    try dsimp only
    wtm_at "go"
    rename Led _ _ _ _ _ _ => D
    have D0 : Led c g L _ _ ((nd, od) :: segs [] ++ ((x, instObj 165 dx) :: (dx, srtD w ts nd .none (.int 0 t1) (.int 0 t2)) :: FR)) := D.perm ((List.Perm.cons _ (List.Perm.swap _ _ _)).trans (List.Perm.swap _ _ _))
    clear D
    let Post1 : Shared → Prop := fun s' => ∃ (m : Str → Option Value) (ns : List Nd) (od : Obj), Led c g L s'.heap m ((nd, od) :: segs ns ++ ((x, instObj 165 dx) :: (dx, srtD w ts nd .none (.int 0 t1) (.int 0 t2)) :: FR)) ∧ Rest c s' ∧ m (Str.ofString "hung") = some (.ref dh) ∧ m (Str.ofString "words") = some (.ref lw) ∧ m (Str.ofString "sorter") = some (.ref x) ∧
      od.IsDictOf (strKind prog w) (kvsOf ns) ∧ ns.map Nd.ab = mkA (namesA fl ks) (npA ks) (suA fl ks)
    refine exec_cut Post1 ?_ ?_
    · refine wpAny_For ?_ ?_
      rotate_left
      · intro _; rfl
      wtm_at "go"
      refine itr_dict (by exact D0) hh2 (D0.keep _ _ bh) hhd ?_
      clear D0
      intro I h₂ oI hLI D hit
      try dsimp only
      let Post2 : Nat → (Str → Option Value) → List (Addr × Obj) → Prop := fun i m news => ∃ (ns : List Nd) (od : Obj), news = (nd, od) :: segs ns ++ ((x, instObj 165 dx) :: (dx, srtD w ts nd .none (.int 0 t1) (.int 0 t2)) :: FR) ∧ m (Str.ofString "hung") = some (.ref dh) ∧ m (Str.ofString "words") = some (.ref lw) ∧ m (Str.ofString "sorter") = some (.ref x) ∧
        od.IsDictOf (strKind prog w) (kvsOf ns) ∧ ns.map Nd.ab = mkA (namesA fl (ks.take i)) (npA (ks.take i)) (suA fl (ks.take i))
      refine for_it hA1.handled hit Post2 D (by exact ⟨[], od, rfl, rfl, rfl, rfl, hod, rfl⟩) (by exact hR) ?_ ?_ ?_
      · rintro i m news hxp
        refine e2_2 hxp ?_
        clear hxp
        rintro ns od rfl _ b hb hbI
        have : b = dh := by simpa [hbI] using hb
        subst this
        exact ⟨oh, D.keep _ _ bh, .inl bh⟩
      · clear D hR hit hod
        rintro i v m₁ news₁ oI s₁ hi hxp
        refine e2_2 hxp ?_
        clear hxp
        rintro k kv hk hv ⟨ns, od, rfl, e1, e2, e3, hod, hab⟩ D hR
        obtain ⟨t, rfl⟩ := Value.isStrOf_shape (show Value.isStrOf k v = true from hv)
        have hki : ks[i]? = some k := by rw [← hks, List.getElem?_map, hk]; rfl
        have hkk := List.mem_of_getElem? hki
        refine wpAny_assign_Name ?_
        wtm_at "go"
        rename Led _ _ _ _ _ _ => D
        have mX : (x, instObj 165 dx) ∈ (I, oI) :: ((nd, od) :: segs ns ++ ((x, instObj 165 dx) :: (dx, srtD w ts nd .none (.int 0 t1) (.int 0 t2)) :: FR)) := .tail _ (List.mem_append_right _ (.head _))
        have mDX : (dx, srtD w ts nd .none (.int 0 t1) (.int 0 t2)) ∈ (I, oI) :: ((nd, od) :: segs ns ++ ((x, instObj 165 dx) :: (dx, srtD w ts nd .none (.int 0 t1) (.int 0 t2)) :: FR)) := .tail _ (List.mem_append_right _ (.tail _ (.head _)))
        refine' gm_inst (K := Mine.hd.heap_39 w.params) (f := 115) ?gX (inst_at (D.get mX) (D.get mDX)) ?g1 ?g2 ?g3 ?g4 ?_
        wtm_at "gmi"
        try dsimp only
        wtm_at "go"
        obtain ⟨tv, hv⟩ := hk1 k hkk
        with_reducible refine dict_get (strKind_is _ _ _ _) (D.keep _ _ bh) hhd hv ?_ (by with_unfolding_all rfl)
        wtm_at "go"
        have hN := mk_nodes hab
        have nd1 := D.ndn
        rw [List.map_cons, List.nodup_cons] at nd1
        have nd2 := nd1.2
        rw [List.map_append, List.nodup_append] at nd2
        have D' := D.perm (news' := (nd, od) :: segs ns ++ ((I, oI) :: (x, instObj 165 dx) :: (dx, srtD w ts nd .none (.int 0 t1) (.int 0 t2)) :: FR)) List.perm_middle.symm
        refine add_body (c := c) (ns := ns) (nd := nd) (od := od) (dx := dx) (ts := ts) (po := .int 0 t1) (nf := .int 0 t2) G (by exact D.kb) (by exact hR) (by exact hA1.mono (by decide)) (fun p hp => D.get (.tail _ (List.mem_append_left _ hp))) nd2.1 (fun p hp => led_ne D (.tail _ (List.mem_append_left _ hp))) (D.get mX) (D.get mDX) ?_ ?_ hod ?_ ?_ ?_ ?_
        · intro q
          exact nd2.2.2 _ q _ (List.mem_map_of_mem (.head _)) rfl
        · intro q
          exact nd2.2.2 _ q _ (List.mem_map_of_mem (.tail _ (.head _))) rfl
        · exact Nat.lt_trans (two_lt G B) (Nat.lt_of_le_of_lt hL hlnd)
        · have e4 : ns.length = (namesA fl (ks.take i)).length := by rw [← hN.1, List.length_map]
          have e5 := namesA_len fl (ks.take i)
          have e6 : (ks.take i).length ≤ ks.length := List.length_take_le' ..
          omega
        · intro a ha
          rw [hab] at ha
          refine e1_2 (List.mem_map.mp ha) ?_
          rintro n _ rfl
          have e5 := suA_len fl (ks.take i) n
          have e6 : (ks.take i).length ≤ ks.length := List.length_take_le' ..
          show (suA fl (ks.take i) n).length ≤ _
          omega
        · intro ns' od' s₃ L' hL' hev hab' hod' hR hk3 hc3 hn3
          have D := (D'.evo hev hL' hk3 hc3 hn3).perm (news' := (I, oI) :: ((nd, od') :: segs ns' ++ ((x, instObj 165 dx) :: (dx, srtD w ts nd .none (.int 0 t1) (.int 0 t2)) :: FR))) List.perm_middle
          clear D'
          try dsimp only
          wtm_at "go"
          refine ⟨_, _, D, hR, ns', od', rfl, e1, e2, e3, hod', ?_⟩
          have hki' : k ∉ ks.take i := by
            intro q
            obtain ⟨j, hj, e⟩ := List.mem_take_iff_getElem.mp q
            obtain ⟨h3, h4⟩ := List.getElem?_eq_some_iff.mp hki
            have h5 := (List.pairwise_iff_getElem.mp (List.nodup_iff_pairwise_ne.mp hkn)) j i (by omega) h3 (by omega)
            exact h5 (e.trans h4.symm)
          rw [hab', hab, add_mk hki', List.take_add_one, hki]
          rfl
      · clear D hR hit hod
        rintro m' news' s₁ hxp
        refine e2_6 hxp ?_
        clear hxp
        rintro ns od rfl e1 e2 e3 hod hab D hR
        have : kh.length = ks.length := by rw [← hks, List.length_map]
        rw [this, List.take_length] at hab
        exact ⟨rfl, _, ns, od, D, hR, e1, e2, e3, hod, hab⟩
    · clear hod hR D0
      rintro s₁ hxp
      refine e3_7 hxp ?_
      clear hxp
      rintro m ns od D hR e1 e2 e3 hod hab
      wtm_at "go"
      have mX : (x, instObj 165 dx) ∈ (nd, od) :: segs ns ++ ((x, instObj 165 dx) :: (dx, srtD w ts nd .none (.int 0 t1) (.int 0 t2)) :: FR) := List.mem_append_right _ (.head _)
      have mDX : (dx, srtD w ts nd .none (.int 0 t1) (.int 0 t2)) ∈ (nd, od) :: segs ns ++ ((x, instObj 165 dx) :: (dx, srtD w ts nd .none (.int 0 t1) (.int 0 t2)) :: FR) := List.mem_append_right _ (.tail _ (.head _))
      refine' gm_inst (K := Mine.hd.heap_39 w.params) (f := 120) ?gX (inst_at (D.get mX) (D.get mDX)) ?g1 ?g2 ?g3 ?g4 ?_
      wtm_at "gmi"
      try dsimp only
      refine callWith_K0 (K := Mine.hd.heap_39 w.params) (Frag.In.keeps G.k D.kb) (by k_is) ?_
      refine e3_3 (id D.ns) ?_
      rintro oL es ep hoL hdL _
      have hN := mk_nodes hab
      have nd1 := D.ndn
      rw [List.map_append, List.nodup_append] at nd1
      refine e0_3 nd1 ?_
      clear nd1
      rintro nda ndb ndc
      rw [List.map_cons, List.map_cons, List.nodup_cons, List.nodup_cons] at ndb
      have ndNd := nda
      rw [List.map_cons, List.nodup_cons] at ndNd
      have hnm : ∀ {z}, z ∈ namesA fl ks → ∃ e ∈ ns, e.name = z := fun {z} hz => by
        rw [← hN.1] at hz
        exact List.mem_map.mp hz
      have hsucc : ∀ e ∈ ns, ∀ p ∈ e.succ, p.1 ∈ ks ∧ fl p.1 = e.name := fun e he p hp => by
        have : p.1 ∈ e.succ.map (·.1) := List.mem_map_of_mem hp
        rw [(hN.2 e he).2] at this
        exact suA_mem.mp this
      have hslen : ∀ e ∈ ns, e.succ.length ≤ 1000 := fun e he => by
        have := suA_len fl ks e.name
        rw [← (hN.2 e he).2, List.length_map] at this
        omega
      have hnslen : ns.length ≤ 2000 := by
        have e4 : ns.length = (namesA fl ks).length := by rw [← hN.1, List.length_map]
        have := namesA_len fl ks
        omega
      have h2nd : 2 < nd := Nat.lt_trans (two_lt G B) (Nat.lt_of_le_of_lt hL hlnd)
      have neL : ∀ {p}, p ∈ (nd, od) :: segs ns ++ ((x, instObj 165 dx) :: (dx, srtD w ts nd .none (.int 0 t1) (.int 0 t2)) :: FR) → p.1 ≠ L := fun hp => D.neL hp
      have hFads : ∀ {a}, a ≠ L → a ∉ FR.map (·.1) → a ∉ ((L, oL) :: FR).map (·.1) := fun h1 h2 q => by
        rcases List.mem_cons.mp q with q | q
        · exact h1 q
        · exact h2 q
      refine prepare_spec (c := c) (rank := fun z => z.length) (FR := (L, oL) :: FR) (ns := ns) (nd := nd) (od := od) (dx := dx) (ts := ts) (po := .int 0 t1) (nf := .int 0 t2) G (by exact D.kb) (by exact hR) (by exact hA1.mono (by decide)) hfr' ⟨by rw [List.map_cons, hFO.ads]; rfl, ?_, ?_⟩ ?_ ?_ ?_ ?_ ?_ ?_ ?_ ?_ ?_ ?_ (D.get mDX) (led_ne D mDX) (D.get mX) ?_ ?_ ?_ (D.get (List.mem_append_left _ (.head _))) ?_ hod h2nd (by omega) ?_
      · intro y hy
        rcases List.mem_cons.mp hy with rfl | hy
        · exact ⟨fun q => ScopeKind.noConfusion (show ScopeKind.function = ScopeKind.module from q), rfl⟩
        · exact hFO.kinds y hy
      · intro p hp
        rcases List.mem_cons.mp hp with rfl | hp
        · intro vs q; rw [hdL] at q; cases q
        · exact hFO.data p hp
      · intro p hp
        rcases List.mem_cons.mp hp with rfl | hp
        · exact hoL
        · exact D.get (List.mem_append_right _ (.tail _ (.tail _ hp)))
      · intro p hp
        rcases List.mem_cons.mp hp with rfl | hp
        · cases q : c.h0.get? L with
          | none => rfl
          | some o => have := D.base _ _ q; rw [D.fresh] at this; cases this
        · exact hF0 p hp
      · rw [List.map_cons, List.nodup_cons]
        exact ⟨fun q => (by
          refine e1_2 (List.mem_map.mp q) ?_
          rintro p hp e
          exact D.neL (List.mem_append_right _ (.tail _ (.tail _ hp))) e), hFn⟩
      · exact hFads (neL mX) (fun q => ndb.1 (.tail _ q))
      · exact hFads (neL mDX) (fun q => ndb.2.1 q)
      · exact hFads (neL (p := (nd, od)) (List.mem_append_left _ (.head _))) (fun q => ndc _ (.head _) _ (.tail _ (.tail _ q)) rfl)
      · intro p hp
        exact hFads (neL (List.mem_append_left _ (.tail _ hp))) (fun q => ndc _ (.tail _ (List.mem_map_of_mem hp)) _ (.tail _ (.tail _ q)) rfl)
      · intro e he; have := hslen e he; omega
      · intro e he p hp
        exact hnm (namesA_mem.mpr (.inl (hsucc e he p hp).1))
      · intro e he p hp
        have := hsucc e he p hp
        show e.name.length < p.1.length
        rw [← this.2]
        exact hfl _ this.1
      · exact fun q => ndb.1 (by rw [q]; exact .head _)
      · intro p hp
        exact D.get (List.mem_append_left _ (.tail _ hp))
      · intro q
        exact ndc _ (.tail _ q) _ (.tail _ (.head _)) rfl
      · exact fun q => ndc nd (.head _) dx (.tail _ (.head _)) q
      · intro rl orl ts' f s₃ hrl horl hrlst hdx3 hR hk3 hsl
        have D3 := Led.afterPrep (news := ((nd, od) :: segs ns) ++ [(x, instObj 165 dx), (dx, srtD w ts nd .none (.int 0 t1) (.int 0 t2))]) (news' := ((nd, od) :: segs ns) ++ [(x, instObj 165 dx), (dx, srtD w ts' nd (.ref rl) (.int 0 t1) (.int 0 t2))]) (FR := FR) (by
          rw [List.append_assoc]; exact D) hoL (Up.pre (.tail .head) _) hk3 hdx3 hsl
        have D4 := (Led.snocNew D D3 (by simp [slotted_ads]) hrl horl).perm (perm_p _ _ _ _ _ _)
        try dsimp only
        clear D D3 hk3 hsl hdx3 horl hrl ndNd ndc ndb nda neL hFads
        wtm_at "go"
        with_reducible refine new_dict (strKind prog w) D4 ?_
        clear D4
        intro td h4 otd hltd D hotd
        try dsimp only
        wtm_at "go"
        rename Led _ _ _ _ _ _ => D
        obtain ⟨hRn, hst⟩ := Rnd.start (fl := fl) hkn
        rw [← rdy_names hab] at hRn hst
        rw [hst] at hab
        generalize hY : (x, instObj 165 dx) :: (nd, od) :: slotted f FR = Y at D
        have mYx : (x, instObj 165 dx) ∈ Y := by rw [← hY]; exact .head _
        have mYn : (nd, od) ∈ Y := by rw [← hY]; exact .tail _ (.head _)
        let Post3 : Shared → Prop := fun s' => ∃ (m : Str → Option Value) (otd : Obj) (kt : List (Str × Value)) (lists Z : List (Addr × Obj)), Led c g L s'.heap m ((td, otd) :: (lists ++ (Z ++ Y))) ∧ Rest c s' ∧ m (Str.ofString "told") = some (.ref td) ∧ otd.IsDictOf (strKind prog w) kt ∧ ToldOk kt lists tl (namesA fl ks) ∧ ∀ p ∈ lists, L < p.1
        refine exec_cut Post3 ?_ ?_
        · refine wpAny_While ?_
          let Post4 : Nat → (Str → Option Value) → List (Addr × Obj) → Prop := fun n m news => ∃ (Dn : List Str) (rs : List (Str × Tok)) (ns : List Nd) (po : Int) (tp tf : Tok) (ts : Tok × Tok × Tok × Tok) (orl otd : Obj) (kt : List (Str × Value)) (lists : List (Addr × Obj)), news = (td, otd) :: (lists ++ (srtL w ts nd rl dx po po tp tf orl ns ++ Y)) ∧
            m (Str.ofString "hung") = some (.ref dh) ∧ m (Str.ofString "words") = some (.ref lw) ∧ m (Str.ofString "sorter") = some (.ref x) ∧ m (Str.ofString "told") = some (.ref td) ∧
            Rnd fl ks Dn (rs.map (·.1)) ∧ ns.map Nd.ab = mkA (namesA fl ks) (npR Dn (rs.map (·.1))) (suA fl ks) ∧ od.IsDictOf (strKind prog w) (kvsOf ns) ∧ IsLst orl (strVs rs) ∧ otd.IsDictOf (strKind prog w) kt ∧ kt.length ≤ 2 * Dn.length ∧ ToldOk kt lists tl Dn ∧ (∀ p ∈ lists, L < p.1) ∧ n = (namesA fl ks).length - Dn.length
          refine whileLoop_led Post4
            (by exact ⟨[], rdyOf ns, ns, 0, t1, t2, ts', orl, otd, [], [], rfl, e1, e2, e3, rfl, hRn, hab, hod, hrlst, hotd, Nat.zero_le _, (fun _ q => nomatch q), (fun _ q => nomatch q), rfl⟩) D (by exact hR) ?_
          clear D hR hRn hst hab hod hrlst hotd hN e1 e2 e3 hsucc hslen hnslen hnm
          rintro n m₁ news₁ s₁ ⟨Dn, rs, ns, po, tp, tf, ts, orl, otd, kt, lists, rfl, e1, e2, e3, e4, hRn, hab, hod, hrl, hotd, hktl, htold, hlists, rfl⟩ D hR
          wtm_at "go"
          refine isTrue_plain ?_
          wtm_at "go"
          have mDX : ∀ {po : Int} {tp tf : Tok} {ts : Tok × Tok × Tok × Tok} {orl otd : Obj} {ns : List Nd} {lists : List (Addr × Obj)}, (dx, srtD w ts nd (.ref rl) (.int po tp) (.int po tf)) ∈ (td, otd) :: (lists ++ (srtL w ts nd rl dx po po tp tf orl ns ++ Y)) := .tail _ (List.mem_append_right _ (.head _))
          have mX : ∀ {Z : List (Addr × Obj)} {otd : Obj} {lists : List (Addr × Obj)}, (x, instObj 165 dx) ∈ (td, otd) :: (lists ++ (Z ++ Y)) := .tail _ (List.mem_append_right _ (List.mem_append_right _ mYx))
          have mN : ∀ {Z : List (Addr × Obj)} {otd : Obj} {lists : List (Addr × Obj)}, (nd, od) ∈ (td, otd) :: (lists ++ (Z ++ Y)) := .tail _ (List.mem_append_right _ (List.mem_append_right _ mYn))
          have mRL : (rl, orl) ∈ (td, otd) :: (lists ++ (srtL w ts nd rl dx po po tp tf orl ns ++ Y)) := .tail _ (List.mem_append_right _ (List.mem_append_left _ (.tail _ (List.mem_append_right _ (.head _)))))
          refine' gm_inst (K := Mine.hd.heap_39 w.params) (f := 134) ?gX (inst_at (D.get mX) (D.get mDX)) ?g1 ?g2 ?g3 ?g4 ?_
          wtm_at "gmi"
          try dsimp only
          refine callWith_K0 (K := Mine.hd.heap_39 w.params) (Frag.In.keeps G.k D.kb) (by k_is) ?_
          have hN := mk_nodes hab
          have hM := hRn.measure
          have hNz := namesA_len fl ks
          have hrsz : (rs.map (·.1)).length = rs.length := List.length_map ..
          refine is_active_spec (c := c) (dx := dx) (nd := nd) (rl := rl) (ts := ts) (po := po) (nf := po) (tp := tp) (tf := tf) (orl := orl) (rs := strVs rs) G (by exact D.kb) (by exact hR) (hA1.mono (by decide)) (D.get mX) (D.get mDX) (D.get mRL) hrl (by simp [strVs]; omega) ?_
          intro s₂ hR hk2
          have D := D.after hk2
          try dsimp only
          wtm_at "go"
          rename Led _ _ _ _ _ _ => D
          rw [show decide (po < po) = false from decide_eq_false (Int.lt_irrefl _), Bool.false_or]
          by_cases hrs0 : rs = []
          · subst hrs0
            rw [if_neg (by simp [strVs])]
            wtm_at "go"
            refine ⟨rfl, _, otd, kt, lists, _, D, hR, e4, hotd, ?_, hlists⟩
            intro q hq
            exact htold q (hRn.all (fun z => z.length) hfl q hq)
          · rw [if_pos (by
              cases rs with
              | nil => exact absurd rfl hrs0
              | cons _ _ => rfl)]
            wtm_at "go"
            refine' gm_inst (K := Mine.hd.heap_39 w.params) (f := 127) ?gX (inst_at (D.get mX) (D.get mDX)) ?g1 ?g2 ?g3 ?g4 ?_
            wtm_at "gmi"
            try dsimp only
            refine callWith_K0 (K := Mine.hd.heap_39 w.params) (Frag.In.keeps G.k D.kb) (by k_is) ?_
            have nodupM : ∀ {h : Heap} {m : Str → Option Value} {M : List (Addr × Obj)} {otd : Obj} {lists : List (Addr × Obj)}, Led c g L h m ((td, otd) :: (lists ++ (M ++ Y))) → (M.map (·.1)).Nodup ∧ x ∉ M.map (·.1) ∧ nd ∉ M.map (·.1) := by
              intro h m M otd lists D
              have n1 := D.ndn
              rw [List.map_cons, List.nodup_cons, List.map_append, List.nodup_append] at n1
              have n2 := n1.2.2.1
              rw [List.map_append, List.nodup_append] at n2
              exact ⟨n2.1, fun q => n2.2.2 _ q _ (List.mem_map_of_mem mYx) rfl, fun q => n2.2.2 _ q _ (List.mem_map_of_mem mYn) rfl⟩
            have hRN : ∀ p ∈ rs, ∃ e ∈ ns, e.name = p.1 := fun p hp => by
              have := hRn.rN p.1 (List.mem_map_of_mem hp)
              rw [← hN.1] at this
              exact List.mem_map.mp this
            refine get_ready_spec (c := c) (x := x) (dx := dx) (nd := nd) (rl := rl) (ts := ts) (po := po) (nf := po) (tp := tp) (tf := tf) (od := od) (orl := orl) (ns := ns) (rs := rs) G (by exact D.kb) (by exact hR) (hA1.mono (by decide)) (fun p hp => D.get (.tail _ (List.mem_append_right _ (List.mem_append_left _ hp)))) (nodupM D).1
              (fun p hp => led_ne D (.tail _ (List.mem_append_right _ (List.mem_append_left _ hp)))) (D.get mX) (nodupM D).2.1 (D.get mN) (nodupM D).2.2 hod hrl hRN (by omega) ?_
            intro ns' ta ota orl' ts' tp' s₃ hta hota hotal horl' hads hab' hR hk3 hc3
            have Dm := Led.mid (pre := (td, otd) :: lists) (M := srtL w ts nd rl dx po po tp tf orl ns) (M' := srtL w ts' nd rl dx (po + (rs.length : Int)) po tp' tf orl' ns') (post := Y) D (by
              show dx :: _ = dx :: _
              rw [List.map_append, List.map_append, segs_ads hads]; rfl) hk3 hc3
            have D' := Led.snocNew D Dm (by
              simp only [List.map_append, List.map_cons, segs_ads hads, List.cons_append]) hta hota
            have D' : Led c g L s₃.heap m₁ ((td, otd) :: (lists ++ ((srtL w ts' nd rl dx (po + (rs.length : Int)) po tp' tf orl' ns' ++ Y) ++ [(ta, ota)]))) := by
              have e : (td, otd) :: lists ++ (srtL w ts' nd rl dx (po + (rs.length : Int)) po tp' tf orl' ns' ++ Y) ++ [(ta, ota)] = (td, otd) :: (lists ++ ((srtL w ts' nd rl dx (po + (rs.length : Int)) po tp' tf orl' ns' ++ Y) ++ [(ta, ota)])) := by simp
              rw [← e]; exact D'
            clear D Dm hk3 hc3 hota hta hk2 mRL
            have D := D'
            clear D'
            rw [hab] at hab'
            have hnm' : ns'.map Nd.name = ns.map Nd.name := by rw [← ab_names, hab', outA_names, ← hab, ab_names]
            have hod' : od.IsDictOf (strKind prog w) (kvsOf ns') := by rw [kvs_same hads hnm']; exact hod
            have hN' : ns'.map Nd.name = namesA fl ks := hnm'.trans hN.1
            have hsu' : ∀ e ∈ ns', e.succ.map (·.1) = suA fl ks e.name := fun e he => by
              rw [outA_mk] at hab'
              exact ((mk_nodes hab').2 e he).2
            clear hab hnm' hN hads hRN hod
            try dsimp only
            wtm_at "go"
            rename Led _ _ _ _ _ _ => D
            let Post5 : Shared → Prop := fun s' => ∃ (m : Str → Option Value) (otd : Obj) (kt : List (Str × Value)) (lists : List (Addr × Obj)), Led c g L s'.heap m ((td, otd) :: (lists ++ ((srtL w ts' nd rl dx (po + (rs.length : Int)) po tp' tf orl' ns' ++ Y) ++ [(ta, ota)]))) ∧ Rest c s' ∧
              m (Str.ofString "hung") = some (.ref dh) ∧ m (Str.ofString "words") = some (.ref lw) ∧ m (Str.ofString "sorter") = some (.ref x) ∧ m (Str.ofString "told") = some (.ref td) ∧ m (Str.ofString "group") = some (.ref ta) ∧ otd.IsDictOf (strKind prog w) kt ∧ kt.length ≤ 2 * (Dn.length + rs.length) ∧ ToldOk kt lists tl (Dn ++ rs.map (·.1)) ∧ (∀ p ∈ lists, L < p.1)
            refine exec_cut Post5 ?_ ?_
            · refine wpAny_For ?_ ?_
              rotate_left
              · intro _; rfl
              wtm_at "go"
              have mTA : ∀ {Z : List (Addr × Obj)} {otd : Obj} {lists : List (Addr × Obj)}, (ta, ota) ∈ (td, otd) :: (lists ++ (Z ++ [(ta, ota)])) := .tail _ (List.mem_append_right _ (List.mem_append_right _ (.head _)))
              refine itr_tuple (by exact D) (D.get mTA) hotal ?_
              clear D
              intro It h₅ oI hLI D hit
              try dsimp only
              let Post6 : Nat → (Str → Option Value) → List (Addr × Obj) → Prop := fun i m news => ∃ (otd : Obj) (kt : List (Str × Value)) (lists : List (Addr × Obj)), news = (td, otd) :: (lists ++ ((srtL w ts' nd rl dx (po + (rs.length : Int)) po tp' tf orl' ns' ++ Y) ++ [(ta, ota)])) ∧
                m (Str.ofString "hung") = some (.ref dh) ∧ m (Str.ofString "words") = some (.ref lw) ∧ m (Str.ofString "sorter") = some (.ref x) ∧ m (Str.ofString "told") = some (.ref td) ∧ m (Str.ofString "group") = some (.ref ta) ∧ otd.IsDictOf (strKind prog w) kt ∧ kt.length ≤ 2 * (Dn.length + i) ∧ ToldOk kt lists tl (Dn ++ (rs.map (·.1)).take i) ∧ (∀ p ∈ lists, L < p.1)
              refine for_it hA1.handled hit Post6
                D (by exact ⟨otd, kt, lists, rfl, e1, e2, e3, e4, rfl, hotd, by omega, by simpa using htold, hlists⟩) (by exact hR) ?_ ?_ ?_
              · rintro i m news hxp
                refine e3_2 hxp ?_
                clear hxp
                rintro otd kt lists rfl _ b hb hbI
                have : b = ta := by simpa [hbI] using hb
                subst this
                exact ⟨ota, D.get (.tail _ mTA), .inr mTA⟩
              · clear D hR hit hotd htold hktl hlists e1 e2 e3 e4
                rintro i v m₁ news₁ oI s₁ hi hv hxp
                refine e3_10 hxp ?_
                clear hxp
                rintro otd kt lists rfl e1 e2 e3 e4 e5 hotd hktl htold hlists D hR
                obtain ⟨⟨k, t⟩, hk, rfl⟩ : ∃ p : Str × Tok, rs[i]? = some p ∧ v = .str p.1 p.2 := by
                  unfold strVs at hv
                  rw [List.getElem?_map] at hv
                  cases q : rs[i]? with
                  | none => rw [q] at hv; cases hv
                  | some p => rw [q] at hv; exact ⟨p, rfl, by simpa using hv.symm⟩
                have hkR : (rs.map (·.1))[i]? = some k := by rw [List.getElem?_map, hk]; rfl
                have hkD : k ∉ Dn ++ (rs.map (·.1)).take i := by
                  rw [List.mem_append]
                  rintro (q | q)
                  · exact hRn.dis k (List.mem_of_getElem? hkR) q
                  · exact not_mem_take hRn.rn hkR q
                refine wpAny_assign_Name ?_
                wtm_at "st"
                rename Led _ _ _ _ _ _ => D
                refine wpAny_execs_cons ?_
                refine wpAny_Assign_Subscript ?_ ?_
                rotate_left
                · with_unfolding_all rfl
                generalize hm₂ : (fun y => if y = Str.ofString "state" then some (Value.str k t) else m₁ y) = m₂ at D
                have f1 : m₂ (Str.ofString "hung") = some (.ref dh) := by rw [← hm₂]; exact e1
                have f2 : m₂ (Str.ofString "words") = some (.ref lw) := by rw [← hm₂]; exact e2
                have f3 : m₂ (Str.ofString "sorter") = some (.ref x) := by rw [← hm₂]; exact e3
                have f4 : m₂ (Str.ofString "told") = some (.ref td) := by rw [← hm₂]; exact e4
                have f5 : m₂ (Str.ofString "group") = some (.ref ta) := by rw [← hm₂]; exact e5
                have f6 : m₂ (Str.ofString "state") = some (.str k t) := by rw [← hm₂]; rfl
                clear hm₂ e1 e2 e3 e4 e5
                refine exp_cut (fun v s' => ∃ (a : Addr) (ol : Obj) (ts : List (Str × Tok)), v = .ref a ∧ Led c g L s'.heap m₂ ((a, ol) :: (It, oI) :: ((td, otd) :: (lists ++ ((srtL w ts' nd rl dx (po + (rs.length : Int)) po tp' tf orl' ns' ++ Y) ++ [(ta, ota)])))) ∧ Rest c s' ∧ L < a ∧ IsLst ol (strVs ts) ∧ ts.map (·.1) = if k ∈ ws.map (·.1) then [k] else []) ?_ ?_
                · wtm_at "go"
                  with_reducible refine in_strs (D.keep _ _ bw) hwl ?_
                  wtm_at "go"
                  by_cases hkw : k ∈ ws.map (·.1)
                  · rw [if_pos (by simpa using hkw)]
                    wtm_at "go"
                    with_reducible refine new_list D ?y6 ?_
                    case y6 => simp [sizeLine]
                    intro a h₃ ol hla D hol
                    exact ⟨a, ol, [(k, t)], rfl, D, hR, hla, ⟨0, hol⟩, by rw [if_pos hkw]; rfl⟩
                  · rw [if_neg (by simpa using hkw)]
                    wtm_at "go"
                    with_reducible refine new_list D ?y6 ?_
                    case y6 => simp [sizeLine]
                    intro a h₃ ol hla D hol
                    exact ⟨a, ol, [], rfl, D, hR, hla, ⟨0, hol⟩, by rw [if_neg hkw]; rfl⟩
                · clear D hR
                  rintro v s₂ hxp
                  refine e3_6 hxp ?_
                  clear hxp
                  rintro a ol tsk rfl D hR hLa hol htsk
                  wtm_at "go"
                  have hkz2 : Dn.length + i ≤ 2000 := by
                    have : rs.length = (rs.map (·.1)).length := (List.length_map ..).symm
                    have hi' : i < rs.length := by simpa [strVs] using hi
                    omega
                  have h2td : 2 < td := Nat.lt_trans (two_lt G B) (Nat.lt_of_le_of_lt hL hltd)
                  have mT1 : (td, otd) ∈ (a, ol) :: (It, oI) :: ((td, otd) :: (lists ++ ((srtL w ts' nd rl dx (po + (rs.length : Int)) po tp' tf orl' ns' ++ Y) ++ [(ta, ota)]))) := .tail _ (.tail _ (.head _))
                  have hg1 := D.get mT1
                  with_reducible refine dict_set (strKind_is _ _ _ _) hg1 hotd ?hz1 ?_
                  case hz1 => rw [sizeLine_eq]; omega
                  intro h₄ otd₂ ho₂ hotd₂ hx₂
                  have D := D.upd (.tail (.tail .head)) hx₂ ho₂
                  try dsimp only
                  wtm_at "go"
                  refine wpAny_If ?_
                  wtm_at "go"
                  have hg2 := D.keep _ _ bh
                  with_reducible refine dict_in (knd := strKind prog w) hh2 (strKind_is _ _ _ _) hg2 hhd ?_
                  have hv2 : valueAt (stored kt k (Value.ref a)) k = some (.ref a) := valueAt_stored_self ..
                  have hvne : ∀ (kt : List (Str × Value)) (v : Value) q, q ≠ k → valueAt (stored kt k v) q = valueAt kt q := fun kt v q hq => valueAt_stored_ne _ _ _ _ hq
                  have htake : (rs.map (·.1)).take (i + 1) = (rs.map (·.1)).take i ++ [k] := by rw [List.take_add_one, hkR]; rfl
                  have hlen2 := stored_length_le kt k (Value.ref a)
                  by_cases hkk : k ∈ ks
                  · obtain ⟨tv, hv⟩ := hk1 k hkk
                    rw [hv]
                    wtm_at "go"
                    rw [if_pos (by simp)]
                    wtm_at "go"
                    have hg3 := D.get (.tail _ (.tail _ (.head _)))
                    with_reducible refine dict_get (strKind_is _ _ _ _) hg3 hotd₂ hv2 ?_ (by with_unfolding_all rfl)
                    wtm_at "go"
                    with_reducible refine dict_get (strKind_is _ _ _ _) hg2 hhd hv ?_ (by with_unfolding_all rfl)
                    wtm_at "go"
                    have hfD : fl k ∈ Dn := (hRn.fr k hkk).mp (.inr (List.mem_of_getElem? hkR))
                    refine e3_4 (htold (fl k) (List.mem_append_left _ hfD)) ?_
                    rintro b olb tsb q1 q2 q3 q4
                    have hfk : fl k ≠ k := fun q => by have := hfl k hkk; rw [q] at this; exact absurd this (Nat.lt_irrefl _)
                    have hvb : valueAt (stored kt k (Value.ref a)) (fl k) = some (.ref b) := (hvne _ _ _ hfk).trans q1
                    with_reducible refine dict_get (strKind_is _ _ _ _) hg3 hotd₂ hvb ?_ (by with_unfolding_all rfl)
                    wtm_at "go"
                    have hga := D.get (.head _)
                    have hgb := D.get (.tail _ (.tail _ (.tail _ (List.mem_append_left _ q2))))
                    have htl' := htl k hkk
                    have hz3 : (strVs tsk).length + (strVs tsb).length ≤ sizeLine := by
                      have z1 := htz k
                      rw [htl', ← htsk, ← q4] at z1
                      simp only [List.length_append, List.length_map] at z1
                      simp only [strVs, List.length_map]
                      rw [sizeLine_eq]; omega
                    refine add_lst D hga hol hgb q3 hz3 ?_
                    intro r h₅ olr hLr D holr
                    try dsimp only
                    wtm_at "go"
                    have hg4 := D.get (.tail _ (.tail _ (.tail _ (.head _))))
                    with_reducible refine dict_set (strKind_is _ _ _ _) hg4 hotd₂ ?hz4 ?_
                    case hz4 => rw [sizeLine_eq]; omega
                    intro h₆ otd₃ ho₃ hotd₃ hx₃
                    have D := D.upd (.tail (.tail (.tail .head))) hx₃ ho₃
                    try dsimp only
                    wtm_at "go"
                    have hlen3 := stored_length_le (stored kt k (Value.ref a)) k (Value.ref r)
                    refine ⟨_, _, D.perm (news' := (It, oI) :: ((td, otd₃) :: (((r, olr) :: (a, ol) :: lists) ++ ((srtL w ts' nd rl dx (po + (rs.length : Int)) po tp' tf orl' ns' ++ Y) ++ [(ta, ota)])))) (perm_4 _ _ _ _ _), hR, otd₃, _, _, rfl, f1, f2, f3, f4, f5, hotd₃, by omega, ?_, ?_⟩
                    · rw [htake, ← List.append_assoc]
                      refine htold.add (a := r) (ol := olr) (ts := tsk ++ tsb) (fun p hp => .tail _ (.tail _ hp)) hkD (fun q hq => (hvne _ _ _ hq).trans (hvne _ _ _ hq)) (valueAt_stored_self ..) (.head _) (by unfold strVs at holr ⊢; rw [List.map_append]; exact holr) ?_
                      rw [List.map_append, htsk, q4, htl']
                    · intro p hp
                      rcases List.mem_cons.mp hp with rfl | hp
                      · exact hLr
                      · rcases List.mem_cons.mp hp with rfl | hp
                        · exact hLa
                        · exact hlists p hp
                  · rw [hk0 _ hkk]
                    wtm_at "go"
                    rw [if_neg (by simp)]
                    wtm_at "go"
                    refine ⟨_, _, D.perm (news' := (It, oI) :: ((td, otd₂) :: (((a, ol) :: lists) ++ ((srtL w ts' nd rl dx (po + (rs.length : Int)) po tp' tf orl' ns' ++ Y) ++ [(ta, ota)])))) (perm_3 _ _ _ _), hR, otd₂, _, _, rfl, f1, f2, f3, f4, f5, hotd₂, by omega, ?_, ?_⟩
                    · rw [htake, ← List.append_assoc]
                      refine htold.add (a := a) (ol := ol) (ts := tsk) (fun p hp => .tail _ hp) hkD (fun q hq => hvne _ _ _ hq) hv2 (.head _) hol ?_
                      rw [htsk, htl0 k hkk]
                    · intro p hp
                      rcases List.mem_cons.mp hp with rfl | hp
                      · exact hLa
                      · exact hlists p hp
              · clear D hR hit hotd htold hktl hlists e1 e2 e3 e4
                rintro m' news' s₄ hxp
                refine e3_10 hxp ?_
                clear hxp
                rintro otd kt lists rfl e1 e2 e3 e4 e5 hotd hktl htold hlists D hR
                have q : (strVs rs).length = rs.length := by simp [strVs]
                rw [q] at hktl htold
                rw [List.take_of_length_le (by simp)] at htold
                exact ⟨rfl, _, otd, kt, lists, D, hR, e1, e2, e3, e4, e5, hotd, hktl, htold, hlists⟩
            · clear D hR hotd htold hktl hlists e1 e2 e3 e4
              rintro s₄ hxp
              refine e4_11 hxp ?_
              clear hxp
              rintro m otd kt lists D hR e1 e2 e3 e4 e5 hotd hktl htold hlists
              wtm_at "go"
              have mTA : ∀ {Z : List (Addr × Obj)} {otd : Obj} {lists : List (Addr × Obj)}, (ta, ota) ∈ (td, otd) :: (lists ++ (Z ++ [(ta, ota)])) := .tail _ (List.mem_append_right _ (List.mem_append_right _ (.head _)))
              have Dm : ∃ MM, MM = srtL w ts' nd rl dx (po + (rs.length : Int)) po tp' tf orl' ns' := ⟨_, rfl⟩
              have mDX2 : ∀ {otd : Obj} {lists : List (Addr × Obj)}, (dx, srtD w ts' nd (.ref rl) (.int (po + (rs.length : Int)) tp') (.int po tf)) ∈ (td, otd) :: (lists ++ ((srtL w ts' nd rl dx (po + (rs.length : Int)) po tp' tf orl' ns' ++ Y) ++ [(ta, ota)])) := .tail _ (List.mem_append_right _ (List.mem_append_left _ (.head _)))
              have mX2 : ∀ {Z : List (Addr × Obj)} {otd : Obj} {lists : List (Addr × Obj)}, (x, instObj 165 dx) ∈ (td, otd) :: (lists ++ ((Z ++ Y) ++ [(ta, ota)])) := .tail _ (List.mem_append_right _ (List.mem_append_left _ (List.mem_append_right _ mYx)))
              with_reducible refine MethodCallEx_ ?_ ?_
              rotate_left
              · with_unfolding_all rfl
              wtm_at "go"
              refine' ga_bound (K := Mine.hd.heap_39 w.params) (f := 148) (by exact D) ?gX (inst_at (D.get mX2) (D.get mDX2)) ?g1 ?g2 ?g3 ?g4 ?g5 ?g6 ?g7 ?g8 ?_
              case gX => exact Frag.In.keeps G.k D.kb
              case g1 => k_is
              case g2 => k_is
              case g3 => k_is
              case g4 => k_is
              case g5 => k_is
              case g6 => k_is
              case g7 => decide +kernel
              case g8 => k_get
              clear D
              intro q h₅ hLq D
              try dsimp only
              refine callWith_SM (K := Mine.hd.heap_39 w.params) (g := 148) (self := .ref x) (by k_is) ?_ (by with_unfolding_all rfl)
              wtm_at "go"
              have hg5 := D.get (.tail _ mTA)
              refine star_led (by exact D) hg5 hotal (by rw [sizeLine_eq]; simp [strVs]; omega) ?_
              clear D
              intro h₆ hk6 D
              refine ⟨⟨D.get (.head _), Frag.In.keeps G.k D.kb⟩, ?_⟩
              refine wpAny_call (method_call (D.get (.head _)) ?_)
              rw [List.nil_append]
              have D2 : Led c g L h₆ m (((q, methodObj (.ref 148) (.ref x)) :: (td, otd) :: lists) ++ (srtL w ts' nd rl dx (po + (rs.length : Int)) po tp' tf orl' ns' ++ (Y ++ [(ta, ota)]))) := by
                have e : ((q, methodObj (.ref 148) (.ref x)) :: (td, otd) :: lists) ++ (srtL w ts' nd rl dx (po + (rs.length : Int)) po tp' tf orl' ns' ++ (Y ++ [(ta, ota)])) = (q, methodObj (.ref 148) (.ref x)) :: (td, otd) :: (lists ++ ((srtL w ts' nd rl dx (po + (rs.length : Int)) po tp' tf orl' ns' ++ Y) ++ [(ta, ota)])) := by simp
                rw [e]; exact D
              have D3 : Led c g L h₆ m ((td, otd) :: (lists ++ (srtL w ts' nd rl dx (po + (rs.length : Int)) po tp' tf orl' ns' ++ Y))) := by
                have e : (td, otd) :: (lists ++ ((srtL w ts' nd rl dx (po + (rs.length : Int)) po tp' tf orl' ns' ++ Y) ++ [(ta, ota)])) = ((td, otd) :: (lists ++ (srtL w ts' nd rl dx (po + (rs.length : Int)) po tp' tf orl' ns' ++ Y))) ++ [(ta, ota)] := by simp
                have D4 := D.tl
                rw [e] at D4
                exact D4.unsnoc
              have hst := hRn.step
              have hM2 := hst.2.measure
              have hM3 : Dn.length + rs.length + ((rs.map (·.1)).flatMap (suA fl ks)).length ≤ (namesA fl ks).length := by
                have := hM2
                rw [List.length_append, List.length_map] at this
                exact this
              have hmem2 : ∀ z ∈ namesA fl ks, ∃ e ∈ ns', e.name = z := fun z hz => by
                rw [← hN'] at hz
                exact List.mem_map.mp hz
              have hsl : ∀ e ∈ ns', e.succ.length ≤ 1000 := fun e he => by
                have := suA_len fl ks e.name
                rw [← hsu' e he, List.length_map] at this
                omega
              have hrl0 : IsLst orl' (strVs []) := horl'
              refine done_code (c := c) (E := fun _ _ => False) (x := x) (dx := dx) (nd := nd) (rl := rl) (ts := ts') (po := po + (rs.length : Int)) (nf := po) (tp := tp') (tf := tf) (od := od) (orl := orl') (ns := ns') (rs := []) (ks := rs) G (by exact D.kb) (by exact hR) (hA1.mono (by decide)) (fun p hp => D2.get (List.mem_append_right _ (List.mem_append_left _ hp))) (nodupM D3).1
                (fun p hp => led_ne D2 (List.mem_append_right _ (List.mem_append_left _ hp))) (D.get (.tail _ mX2)) (nodupM D3).2.1 (D2.get (List.mem_append_right _ (List.mem_append_right _ (List.mem_append_left _ mYn)))) (nodupM D3).2.2 hod' (Nat.lt_trans (two_lt G B) (Nat.lt_of_le_of_lt hL hlnd)) hrl0 ?_ ?_ (by omega) ?_ ?_ ?_ ?_
              · intro p hp
                exact hmem2 _ (hRn.rN p.1 (List.mem_map_of_mem hp))
              · intro e he p hp
                have : p.1 ∈ suA fl ks e.name := by rw [← hsu' e he]; exact List.mem_map_of_mem hp
                exact hmem2 _ (namesA_mem.mpr (.inl (suA_mem.mp this).1))
              · intro e he
                have := hsl e he
                omega
              · rw [hab', List.map_nil, hst.1]
                show ((rs.map (·.1)).flatMap (suA fl ks)).length ≤ _
                omega
              · intro i k hik
                rw [hab', List.map_nil]
                exact hRn.out hik
              · intro ns₂ rs₂ orl₂ ts₂ tf₂ s₇ hfix horl₂ habr hR hk7 hc7
                rw [hab', List.map_nil, hst.1] at habr
                have hab₂ := congrArg Prod.fst habr
                have hrs₂ := congrArg Prod.snd habr
                dsimp only at hab₂ hrs₂
                have D5 := Led.mid (M' := srtL w ts₂ nd rl dx (po + (rs.length : Int)) (po + (rs.length : Int)) tp' tf₂ orl₂ ns₂) D2 (by
                  show dx :: _ = dx :: _
                  rw [List.map_append, List.map_append, segs_ads (fix_ads hfix)]; rfl) hk7 hc7
                have D6 : Led c g L s₇.heap m ((td, otd) :: (lists ++ (srtL w ts₂ nd rl dx (po + (rs.length : Int)) (po + (rs.length : Int)) tp' tf₂ orl₂ ns₂ ++ Y))) := by
                  have e : ((q, methodObj (.ref 148) (.ref x)) :: (td, otd) :: lists) ++ (srtL w ts₂ nd rl dx (po + (rs.length : Int)) (po + (rs.length : Int)) tp' tf₂ orl₂ ns₂ ++ (Y ++ [(ta, ota)])) = (q, methodObj (.ref 148) (.ref x)) :: (((td, otd) :: (lists ++ (srtL w ts₂ nd rl dx (po + (rs.length : Int)) (po + (rs.length : Int)) tp' tf₂ orl₂ ns₂ ++ Y))) ++ [(ta, ota)]) := by simp
                  rw [e] at D5
                  exact D5.tl.unsnoc
                clear D D2 D3 D5
                try dsimp only
                wtm_at "go"
                refine ⟨_, _, D6, hR, (namesA fl ks).length - (Dn ++ rs.map (·.1)).length, ?_, Dn ++ rs.map (·.1), rs₂, ns₂, po + (rs.length : Int), tp', tf₂, ts₂, orl₂, otd, kt, lists, rfl, e1, e2, e3, e4, ?_, ?_, ?_, horl₂, hotd, ?_, htold, hlists, rfl⟩
                · have hpos : 0 < rs.length := List.length_pos_iff.mpr hrs0
                  rw [List.length_append, List.length_map]
                  omega
                · rw [hrs₂]; exact hst.2
                · rw [hrs₂]; exact hab₂
                · rw [fix_kvs hfix]; exact hod'
                · rw [List.length_append, List.length_map]; exact hktl
        · clear D hR
          rintro s₅ hxp
          refine e5_6 hxp ?_
          clear hxp
          rintro m otd kt lists Z D hR e1 hotd htold hlists
          wtm_at "go"
          try dsimp only
          have hYs : ∀ p ∈ slotted f FR, p ∈ Y := fun p hp => by rw [← hY]; exact .tail _ (.tail _ hp)
          refine h td otd kt lists f s₅ hR (Nat.le_trans hL (Nat.le_of_lt hltd)) (D.get (.head _)) hotd (fun p hp => ⟨D.get (.tail _ (List.mem_append_left _ hp)), Nat.le_trans hL (Nat.le_of_lt (hlists p hp))⟩) ?_ htold (fun b o hb e => D.keep _ _ (hgs b o hb e)) (fun p hp => D.get (.tail _ (List.mem_append_right _ (List.mem_append_right _ (hYs p hp)))))
          have n1 := D.ndn
          rw [List.map_cons, List.nodup_cons, List.map_append, List.nodup_append] at n1
          rw [List.map_cons, List.nodup_cons]
          exact ⟨fun q => n1.1 (List.mem_append_left _ q), n1.2.1⟩
end


-- part LG
def TupsOn (tobs : List (Addr × Obj)) (its : List It) : Prop := ∀ it ∈ its, ∃ t n ti tx, it.1 = .ref t ∧ (t, ({ cls := .type "tuple", dict := none, data := .seq #[.int it.2.1 ti, .str it.2.2 tx] n, slots := #[] } : Obj)) ∈ tobs
def keyOf (x : Str) : Int × Str := ((x.length : Int), x)
theorem order_facts {sts ps : List (Str × Tok)} {its ds : List It} (hkeys : its.map (·.2) = (sts.map (·.1)).map keyOf) (hps : ps.map (·.1) = ds.map (·.2.2)) (P : Popped ltI its ds []) :
    (ps.map (·.1)).Perm (sts.map (·.1)) ∧ (ps.map (·.1)).Pairwise fun a b => a.length ≤ b.length := by
  have hperm : ds.Perm its := by simpa using P.perm
  have hk : ∀ it ∈ its, it.2.1 = (it.2.2.length : Int) := by
    intro it hit
    have : it.2 ∈ (sts.map (·.1)).map keyOf := by rw [← hkeys]; exact List.mem_map_of_mem hit
    refine e1_2 (List.mem_map.mp this) ?_
    rintro x _ e
    rw [← e]; rfl
  constructor
  · rw [hps]
    have e : its.map (·.2.2) = sts.map (·.1) := by
      have := congrArg (List.map fun z : Int × Str => z.2) hkeys
      rw [List.map_map, List.map_map] at this
      have h2 : ((fun z : Int × Str => z.2) ∘ keyOf) = id := rfl
      rw [h2, List.map_id] at this
      exact this
    rw [← e]
    exact hperm.map _
  · rw [hps, List.pairwise_map]
    refine List.Pairwise.imp_of_mem ?_ P.sorted
    intro a b ha hb h
    have := ltI_len h
    rw [hk a (hperm.mem_iff.mp ha), hk b (hperm.mem_iff.mp hb)] at this
    omega
section
variable {prog : Program} {w : World} {A : Around} {E : Value → Shared → Prop} {s : Shared} {c : Cx}
theorem hung_spec (G : Glo (Mine.hd.heap_39 w.params) c.h0) (B : Keep c.h0 s.heap) (hR : Rest c s) (hA : AOk A 5) {ls : Addr} {os : Obj} {sts : List (Str × Tok)} {Q : Value → Shared → Prop}
    (HL : LamOk c.h0 262 260) (hP : s.heap.get? 260 = some (tabObj #[])) (hP0 : c.h0.get? 260 = none)
    (hs : s.heap.get? ls = some os) (hsl : IsLst os (strVs sts)) (hz : sts.length ≤ 1000) (hzl : ∀ p ∈ sts, p.1.length ≤ 10000) (hnd : (sts.map (·.1)).Nodup) (h0 : Str.ofString "" ∈ sts.map (·.1))
    (h : ∀ (dt : Addr) (od : Obj) (kvs : List (Str × Value)) (xs : List Str) (ps2 : Array Value) (s' : Shared), Rest c s' → (∀ b o, b ≠ 260 → s.heap.get? b = some o → s'.heap.get? b = some o) → s'.heap.get? 260 = some (tabObj ps2) → s.heap.objs.size ≤ dt → s'.heap.get? dt = some od → od.IsDictOf (strKind prog w) kvs →
      xs.Perm (sts.map (·.1)) → (xs.Pairwise fun a b => a.length ≤ b.length) → kvs.map (·.1) = xs.filter (fun q => decide (q ≠ Str.ofString "")) → (∀ q ∈ kvs.map (·.1), (∃ t, valueAt kvs q = some (.str (flS xs q) t)) ∧ ∃ j, lastF xs q xs.length = some j) → Q (.ref dt) s') :
    wpAny (model prog w) A (call (.ref 263) [.ref ls]) Q E s := by
  refine' call_fnC (mu := [(260, tabObj #[])]) (binds := [(Str.ofString "states", .ref ls)]) (n := 4) G B hA ?gho ?ghcd ?ghb ?ghl ?gnd ?gm1 ?gm2 ?gm3 ?gh ?gc2 ?gc3 ?gc4
  case gho => k_is
  case ghcd => k_is
  case ghb => exact BindsTo.of_eq rfl
  case ghl => exact kinds_ok rfl
  case gnd => decide
  case gm1 => intro p hp; rw [List.mem_singleton.mp hp]; exact hP0
  case gm2 => intro p hp; rw [List.mem_singleton.mp hp]; exact hP
  case gm3 => simp
  case gc2 => rfl
  case gc3 => rfl
  case gc4 => rfl
  case gh =>
    intro L h₁ tk A' cells hA' hL hk D hC hab hA1
    refine e2_3 (cells_inv hC) ?_
    rintro oF _ rfl hoF hC
    refine e2_3 (cells_inv hC) ?_
    rintro oT _ rfl hoT hC
    refine e2_3 (cells_inv hC) ?_
    rintro oP _ rfl hoP hC
    refine e2_3 (cells_inv hC) ?_
    rintro oO _ rfl hoO hC
    refine e2_3 (cells_inv hC) ?_
    rintro oH _ rfl hoH hC
    obtain rfl := cells_inv0 hC
    clear hab hC
    have hne : ls ≠ 260 := fun q => by rw [q, hP] at hs; cases hs; exact absurd hsl.cls (by simp)
    have dl : ∀ {a o}, s.heap.get? a = some o → a ≠ 260 → hid s.heap ([((260 : Addr), tabObj #[])].map (·.1)) a = some o := fun e hn => hid_some e (by simpa using hn)
    have bs := dl hs hne
    try dsimp only [List.cons_append, List.nil_append] at D
    generalize hgd : hid s.heap _ = g at D bs dl
    wtm_at "go"
    refine comp_eval (cl := []) rfl rfl (by decide) ?_
    wtm_at "go"
    refine itr_list (by exact D) (D.keep _ _ bs) hsl ?_
    clear D
    intro I h₂ oI hLI D hit
    try dsimp only
    let Post1 : Nat → List Value → List (Addr × Obj) → Prop := fun i ys news => ∃ (its : List It) (tobs : List (Addr × Obj)), ys = its.map (·.1) ∧ its.map (·.2) = ((sts.map (·.1)).take i).map keyOf ∧ TupsOn tobs its ∧ news = tobs ++ [(L + 1 + 1 + 1 + 1 + 1, oF), (L + 1 + 1 + 1 + 1, oT), (L + 1 + 1 + 1, oP), (L + 1 + 1, oO), (L + 1, oH), (260, tabObj #[])]
    refine comp_it hA1.handled hit Post1
      ⟨[], [], rfl, rfl, (fun _ q => nomatch q), rfl⟩ D (by exact hR) (by simp [strVs]; omega) (by decide) rfl rfl ?_ ?_ ?_
    · rintro i ys news hxp
      refine e2_4 hxp ?_
      clear hxp
      rintro its tobs _ _ _ rfl b hb hbI
      have : b = ls := by simpa [hbI] using hb
      subst this
      exact ⟨os, D.keep _ _ bs, .inl bs⟩
    · clear D hR hit
      rintro C Dl i v m₁ ys news₁ oD oI oL s₁ hi hv hxp
      refine e2_4 hxp ?_
      clear hxp
      rintro its tobs rfl hkeys htup rfl hm D hD hNs hR
      obtain ⟨⟨x, t⟩, hk, rfl⟩ : ∃ p : Str × Tok, sts[i]? = some p ∧ v = .str p.1 p.2 := by
        unfold strVs at hv
        rw [List.getElem?_map] at hv
        cases q : sts[i]? with
        | none => rw [q] at hv; cases hv
        | some p => rw [q] at hv; exact ⟨p, rfl, by simpa using hv.symm⟩
      have hxl := hzl _ (List.mem_of_getElem? hk)
      try dsimp only at hm hxl
      refine tests_nil ?_
      rw [if_pos rfl]
      with_reducible refine Tuple_ ?_
      wtm_at "go"
      with_reducible refine PyProof.Rows.len_str ?hfit ?_
      case hfit => omega
      wtm_at "go"
      with_reducible refine new_tuple D ?y6 ?_
      case y6 => simp [sizeLine]
      intro tp h₃ otp htp D hotp
      refine ⟨_, _, D.perm (perm_1to4 _ _ _ _ _), hR, its ++ [(.ref tp, keyOf x)], (tp, otp) :: tobs, by simp, ?_, ?_, rfl⟩
      · have hx : (sts.map (·.1))[i]? = some x := by rw [List.getElem?_map, hk]; rfl
        rw [List.map_append, hkeys, List.take_add_one, hx, List.map_append]
        rfl
      · intro it hit
        rcases List.mem_append.mp hit with q | q
        · refine e4_2 (htup it q) ?_
          rintro t' n ti tx q1 q2
          exact ⟨t', n, ti, tx, q1, .tail _ q2⟩
        · rw [List.mem_singleton.mp q]
          exact ⟨tp, 0, _, t, rfl, by rw [hotp]; exact .head _⟩
    · clear D hR hit
      rintro Dl C oC oD ys news' s₂ mC hxp
      refine e2_4 hxp ?_
      clear hxp
      rintro its tobs rfl hkeys htup rfl D hC hD hl hLD hR
      rw [List.take_of_length_le (by simp [strVs])] at hkeys
      refine comp_fin D hC ?_
      clear D hC oI
      intro h₄ D
      try dsimp only
      refine st_cU D rfl (fun o' => .tail (Up.pre (.tail (.tail (.tail (.tail .head)))) tobs)) hoH ?_
      clear D
      intro h₅ oH hoH D
      try dsimp only at D ⊢
      have hitl : its.length = sts.length := by
        have := congrArg List.length hkeys
        simpa using this
      wtm_at "go"
      have mH : (L + 1, oH) ∈ (Dl, oD) :: (tobs ++ [(L + 1 + 1 + 1 + 1 + 1, oF), (L + 1 + 1 + 1 + 1, oT), (L + 1 + 1 + 1, oP), (L + 1 + 1, oO), (L + 1, oH), (260, tabObj #[])]) := .tail _ (List.mem_append_right _ (.tail _ (.tail _ (.tail _ (.tail _ (.head _))))))
      refine nm_c (by exact D) rfl mH hoH ?_
      wtm_at "go"
      have mHb : (Dl, oD) ∈ (Dl, oD) :: (tobs ++ [(L + 1 + 1 + 1 + 1 + 1, oF), (L + 1 + 1 + 1 + 1, oT), (L + 1 + 1 + 1, oP), (L + 1 + 1, oO), (L + 1, oH), (260, tabObj #[])]) := .head _
      refine heapify_spec (c := c) (its := its) G (by exact D.kb) (by exact hR) (hA1.mono (by decide)) (by omega) (D.get mHb) hD ?_ (led_ne D mHb) (fun l p hp => ⟨(su_perm' ltI_tot l p hp).length_eq, fun it hit => (su_perm' ltI_tot l p hp).mem_iff.mp hit⟩) ?_
      · intro it hit
        refine e4_2 (htup it hit) ?_
        rintro t' n ti tx q1 q2
        exact ⟨t', n, ti, tx, q1, D.get (.tail _ (List.mem_append_left _ q2))⟩
      clear mHb mH
      intro s₆ oh hR hx6 ho6 hoh
      have D := D.upd .head hx6 ho6
      clear hx6 ho6
      obtain ⟨hheap, hperm⟩ := hpf_heap ltI_tot its
      have hpop : Popped ltI its [] (hpf ltI its) := ⟨by simpa using hperm, hheap, .nil, fun _ q => nomatch q⟩
      try dsimp only
      wtm_at "go"
      refine comp_eval (cl := [(Str.ofString "heap", L + 1)]) rfl rfl (by decide) ?_
      wtm_at "go"
      refine itr_list (by exact D) (D.keep _ _ bs) hsl ?_
      clear D
      intro I h₇ oI hLI D hit
      try dsimp only
      let Post2 : Nat → List Value → List (Addr × Obj) → Prop := fun i ys news => ∃ (ps : List (Str × Tok)) (ds hs : List It) (oh : Obj), ys = strVs ps ∧ ps.map (·.1) = ds.map (·.2.2) ∧ ds.length = i ∧ Popped ltI its ds hs ∧ IsLst oh (hs.map (·.1)) ∧ news = (Dl, oh) :: (tobs ++ [(L + 1 + 1 + 1 + 1 + 1, oF), (L + 1 + 1 + 1 + 1, oT), (L + 1 + 1 + 1, oP), (L + 1 + 1, oO), (L + 1, oH), (260, tabObj #[])])
      refine comp_it hA1.handled hit Post2
        ⟨[], [], _, oh, rfl, rfl, rfl, hpop, hoh, rfl⟩ D (by exact hR) (by simp [strVs]; omega) (by decide) rfl rfl ?_ ?_ ?_
      · rintro i ys news hxp
        refine e4_6 hxp ?_
        clear hxp
        rintro ps ds hs oh _ _ _ _ _ rfl b hb hbI
        have : b = ls := by simpa [hbI] using hb
        subst this
        exact ⟨os, D.keep _ _ bs, .inl bs⟩
      · clear D hR hit hoh hpop hheap hperm hD
        rintro C Dl2 i v m₁ ys news₁ oD2 oI oL s₁ hi hv hxp
        refine e4_6 hxp ?_
        clear hxp
        rintro ps ds hs oh rfl hps hdl hpop hoh rfl hm D hD2 hNs hR
        have hil : i < its.length := by rw [hitl]; simpa [strVs] using hi
        have hlen := hpop.perm.length_eq
        rw [List.length_append] at hlen
        obtain ⟨hs', y, rfl⟩ : ∃ hs' y, hs = hs' ++ [y] := by
          rcases List.eq_nil_or_concat hs with rfl | ⟨a, b, rfl⟩
          · simp at hlen; omega
          · exact ⟨a, b, by simp⟩
        have hyt : ∀ it ∈ hs' ++ [y], it ∈ its := fun it hit => hpop.perm.mem_iff.mp (List.mem_append_right _ hit)
        refine tests_nil ?_
        rw [if_pos rfl]
        wtm_at "go"
        have mH : (L + 1, oH) ∈ (I, oI) :: (Dl2, oD2) :: (L, oL) :: (Dl, oh) :: (tobs ++ [(L + 1 + 1 + 1 + 1 + 1, oF), (L + 1 + 1 + 1 + 1, oT), (L + 1 + 1 + 1, oP), (L + 1 + 1, oO), (L + 1, oH), (260, tabObj #[])]) := .tail _ (.tail _ (.tail _ (.tail _ (List.mem_append_right _ (.tail _ (.tail _ (.tail _ (.tail _ (.head _)))))))))
        refine nm_c (by exact D) rfl mH hoH ?_
        wtm_at "go"
        have mHb : (Dl, oh) ∈ (I, oI) :: (Dl2, oD2) :: (L, oL) :: (Dl, oh) :: (tobs ++ [(L + 1 + 1 + 1 + 1 + 1, oF), (L + 1 + 1 + 1 + 1, oT), (L + 1 + 1 + 1, oP), (L + 1 + 1, oO), (L + 1, oH), (260, tabObj #[])]) := .tail _ (.tail _ (.tail _ (.head _)))
        refine heappop_spec (c := c) (its := hs') (y := y) G (by exact D.kb) (by exact hR) (hA1.mono (by decide)) (by simp at hlen; omega) (D.get mHb) hoh ?_ (led_ne D mHb) ?_
        · intro it hit
          refine e4_2 (htup it (hyt it hit)) ?_
          rintro t' n ti tx q1 q2
          exact ⟨t', n, ti, tx, q1, D.get (.tail _ (.tail _ (.tail _ (.tail _ (List.mem_append_left _ q2)))))⟩
        intro s₃ oh' hR hx3 ho3 hoh'
        have D := D.upd (.tail (.tail (.tail .head))) hx3 ho3
        obtain ⟨t', n, ti, tx, q1, q2⟩ : ∃ t n ti tx, (if hs' = [] then y else hs'[0]!).1 = .ref t ∧ (t, ({ cls := .type "tuple", dict := none, data := .seq #[.int (popV hs' y).2.1 ti, .str (popV hs' y).2.2 tx] n, slots := #[] } : Obj)) ∈ tobs := by
          refine htup (popV hs' y) (hyt _ ?_)
          unfold popV
          split
          · simp
          · rename_i q
            refine e2_1 (List.exists_cons_of_ne_nil q) ?_
            rintro a r rfl
            exact .head _
        rw [q1]
        wtm_at "go"
        have hgt := D.get (.tail _ (.tail _ (.tail _ (.tail _ (List.mem_append_left _ q2)))))
        refine sub_tpl (vs := [.int (popV hs' y).2.1 ti, .str (popV hs' y).2.2 tx]) hgt ⟨n, rfl⟩ (by decide) (by decide) (j := 1) rfl rfl ?_
        refine ⟨_, _, D, hR, ps ++ [((popV hs' y).2.2, tx)], ds ++ [popV hs' y], _, oh', by simp [strVs], ?_, by simp [hdl], hpop.pop ltI_tot (Decidable.em _), hoh', rfl⟩
        simp [hps]
      · clear D hR hit hoh hpop hheap hperm
        rintro ol C oC oOl ys news' s₃ mC hxp
        refine e4_6 hxp ?_
        clear hxp
        rintro ps ds hs oh rfl hps hdl hpop hoh rfl D hC hOl hl hLo hR
        have hs0 : hs = [] := by
          have hlen := hpop.perm.length_eq
          rw [List.length_append, hdl, hitl] at hlen
          have : (strVs sts).length = sts.length := by simp [strVs]
          exact List.eq_nil_of_length_eq_zero (by omega)
        subst hs0
        obtain ⟨hperm, hsort⟩ := order_facts hkeys hps hpop
        refine comp_fin D hC ?_
        clear D hC oI hpop hkeys htup hoh hps hdl hl
        intro h₈ D
        have D := D.sub (news' := (ol, oOl) :: [(L + 1 + 1 + 1 + 1 + 1, oF), (L + 1 + 1 + 1 + 1, oT), (L + 1 + 1 + 1, oP), (L + 1 + 1, oO), (L + 1, oH), (260, tabObj #[])]) (.cons₂ _ (.cons _ (List.sublist_append_right _ _)))
        try dsimp only
        refine st_cU (by exact D) rfl (fun o' => .tail (.tail (.tail (.tail .head)))) hoO ?_
        clear D
        intro h₉ oO hoO D
        try dsimp only at D ⊢
        wtm_at "go"
        with_reducible refine new_list D ?y6 ?_
        case y6 => simp [sizeLine]
        clear D
        intro fa h₁₀ ofa hLfa D hofa
        try dsimp only
        refine st_cU (by exact D) rfl (fun o' => .tail (.tail .head)) hoF ?_
        clear D
        intro h₁₁ oF hoF D
        try dsimp only at D ⊢
        wtm_at "go"
        have hpsl : ps.length = sts.length := by simpa using hperm.length_eq
        have hofa0 : IsLst ofa (([] : List (Addr × List (MK × Value))).map fun f => Value.ref f.1) := ⟨0, hofa⟩
        have hoP' : ∃ v₀, oP.data = .cell v₀ := ⟨_, hoP⟩
        let Post3 : Shared → Prop := fun s' => ∃ (m : Str → Option Value) (FM : List (Addr × List (MK × Value))) (fobs : List (Addr × Obj)) (ofa oP : Obj), Led c g L s'.heap m (fobs ++ ((fa, ofa) :: (ol, oOl) :: [(L + 1 + 1 + 1 + 1 + 1, oF), (L + 1 + 1 + 1 + 1, oT), (L + 1 + 1 + 1, oP), (L + 1 + 1, oO), (L + 1, oH), (260, tabObj #[])])) ∧ Rest c s' ∧ FamOk ps FM ∧ FamOn fobs FM ∧ FM.length = ps.length ∧ IsLst ofa (FM.map fun f => Value.ref f.1)
        refine exec_cut Post3 ?_ ?_
        · refine wpAny_For ?_ ?_
          rotate_left
          · intro _; rfl
          wtm_at "go"
          have mO : (L + 1 + 1, oO) ∈ (fa, ofa) :: (ol, oOl) :: [(L + 1 + 1 + 1 + 1 + 1, oF), (L + 1 + 1 + 1 + 1, oT), (L + 1 + 1 + 1, oP), (L + 1 + 1, oO), (L + 1, oH), (260, tabObj #[])] := .tail _ (.tail _ (.tail _ (.tail _ (.tail _ (.head _)))))
          refine nm_c (by exact D) rfl mO hoO ?_
          wtm_at "go"
          refine len_list (IsLst.isList (D.get (.tail _ (.head _))) hOl) (by simp [strVs]; omega) ?_
          rw [show (strVs ps).toArray.size = ps.length by simp [strVs]]
          wtm_at "go"
          refine range1 D ?_
          clear D
          intro rg h₁₂ t' t'' hLr D
          try dsimp only
          refine itr_range (by exact D) (D.get (.head _)) (by decide) (by decide) (by omega) (by omega) (rsize _) ?_
          clear D
          intro I h₁₃ oI hLI D hit
          have D := D.sub (news' := (I, oI) :: ([] ++ ((fa, ofa) :: (ol, oOl) :: [(L + 1 + 1 + 1 + 1 + 1, oF), (L + 1 + 1 + 1 + 1, oT), (L + 1 + 1 + 1, oP), (L + 1 + 1, oO), (L + 1, oH), (260, tabObj #[])]))) (.cons₂ _ (.cons _ (List.Sublist.refl _)))
          let Post4 : Nat → (Str → Option Value) → List (Addr × Obj) → Prop := fun i m news => ∃ (FM : List (Addr × List (MK × Value))) (fobs : List (Addr × Obj)) (ofa oP : Obj), news = fobs ++ ((fa, ofa) :: (ol, oOl) :: [(L + 1 + 1 + 1 + 1 + 1, oF), (L + 1 + 1 + 1 + 1, oT), (L + 1 + 1 + 1, oP), (L + 1 + 1, oO), (L + 1, oH), (260, tabObj #[])]) ∧ FamOk ps FM ∧ FamOn fobs FM ∧ FM.length = i ∧ IsLst ofa (FM.map fun f => Value.ref f.1) ∧ ∃ v₀, oP.data = .cell v₀
          refine for_it hA1.handled hit Post4 D
            (by exact ⟨[], [], ofa, oP, rfl, (fun j f q => by cases q), (fun _ q => nomatch q), rfl, hofa0, hoP'⟩) (by exact hR) ?_ ?_ ?_
          · intro i m' news' _ b hb hbI
            exact absurd (List.mem_singleton.mp hb) hbI
          · clear D hR hit hofa hofa0 hoP'
            rintro i v m₁ news₁ oI s₁ hi ⟨ti, rfl⟩ ⟨FM, fobs, ofa, oP, rfl, hFM, hfobs, hFl, hofa, v₀, hoP⟩ D hR
            rw [Int.zero_add]
            refine wpAny_assign_Name ?_
            refine st_cU (by exact D) rfl (fun o' => .tail (Up.pre (.tail (.tail (.tail (.tail .head)))) fobs)) hoP ?_
            clear D
            intro h₁₄ oP hoP D
            try dsimp only at D ⊢
            wtm_at "go"
            refine comp_assign (cl := [(Str.ofString "place", L + 1 + 1 + 1), (Str.ofString "order", L + 1 + 1)]) rfl rfl rfl (by decide) ?_
            have mO : ∀ {p : Addr × Obj}, (L + 1 + 1, oO) ∈ p :: (fobs ++ ((fa, ofa) :: (ol, oOl) :: [(L + 1 + 1 + 1 + 1 + 1, oF), (L + 1 + 1 + 1 + 1, oT), (L + 1 + 1 + 1, oP), (L + 1 + 1, oO), (L + 1, oH), (260, tabObj #[])])) := .tail _ (List.mem_append_right _ (.tail _ (.tail _ (.tail _ (.tail _ (.tail _ (.head _)))))))
            have mP : ∀ {p : Addr × Obj}, (L + 1 + 1 + 1, oP) ∈ p :: (fobs ++ ((fa, ofa) :: (ol, oOl) :: [(L + 1 + 1 + 1 + 1 + 1, oF), (L + 1 + 1 + 1 + 1, oT), (L + 1 + 1 + 1, oP), (L + 1 + 1, oO), (L + 1, oH), (260, tabObj #[])])) := .tail _ (List.mem_append_right _ (.tail _ (.tail _ (.tail _ (.tail _ (.head _))))))
            have mOl : ∀ {p : Addr × Obj}, (ol, oOl) ∈ p :: (fobs ++ ((fa, ofa) :: (ol, oOl) :: [(L + 1 + 1 + 1 + 1 + 1, oF), (L + 1 + 1 + 1 + 1, oT), (L + 1 + 1 + 1, oP), (L + 1 + 1, oO), (L + 1, oH), (260, tabObj #[])])) := .tail _ (List.mem_append_right _ (.tail _ (.head _)))
            have mF : ∀ {p : Addr × Obj}, (L + 1 + 1 + 1 + 1 + 1, oF) ∈ p :: (fobs ++ ((fa, ofa) :: (ol, oOl) :: [(L + 1 + 1 + 1 + 1 + 1, oF), (L + 1 + 1 + 1 + 1, oT), (L + 1 + 1 + 1, oP), (L + 1 + 1, oO), (L + 1, oH), (260, tabObj #[])])) := .tail _ (List.mem_append_right _ (.tail _ (.tail _ (.head _))))
            obtain ⟨⟨xi, txi⟩, hxi⟩ : ∃ p, ps[i]? = some p := ⟨_, List.getElem?_eq_getElem hi⟩
            have hxv : (strVs ps)[i]? = some (.str xi txi) := by unfold strVs; rw [List.getElem?_map, hxi]; rfl
            refine nm_c (by exact D) rfl mO hoO ?_
            refine itr_list (by exact D) (D.get mOl) hOl ?_
            clear D
            intro I2 h₁₅ oI2 hLI2 D hit
            try dsimp only
            let Post5 : Nat → List Value → List (Addr × Obj) → Prop := fun k ys news => ys = strVs ((ps.take k).filter (endP xi)) ∧ news = (I, oI) :: (fobs ++ ((fa, ofa) :: (ol, oOl) :: [(L + 1 + 1 + 1 + 1 + 1, oF), (L + 1 + 1 + 1 + 1, oT), (L + 1 + 1 + 1, oP), (L + 1 + 1, oO), (L + 1, oH), (260, tabObj #[])]))
            refine comp_it hA1.handled hit Post5 ⟨rfl, rfl⟩ D (by exact hR) (by simp [strVs]; omega) (by decide) rfl rfl ?_ ?_ ?_
            · rintro k ys news ⟨_, rfl⟩ b hb hbI
              have : b = ol := by simpa [hbI] using hb
              subst this
              exact ⟨oOl, D.get (.tail _ mOl), .inr mOl⟩
            · clear D hR hit
              rintro C Dl2 k v m₂ ys news₁ oD2 oI2 oL s₁ hk hv ⟨rfl, rfl⟩ hm D hD2 hNs hR
              obtain ⟨⟨x, t⟩, hkx, rfl⟩ : ∃ p : Str × Tok, ps[k]? = some p ∧ v = .str p.1 p.2 := by
                unfold strVs at hv
                rw [List.getElem?_map] at hv
                cases q : ps[k]? with
                | none => rw [q] at hv; cases hv
                | some p => rw [q] at hv; exact ⟨p, rfl, by simpa using hv.symm⟩
              have hstep : (ps.take (k + 1)).filter (endP xi) = (ps.take k).filter (endP xi) ++ (if endP xi (x, t) = true then [(x, t)] else []) := by
                rw [List.take_add_one, hkx]
                by_cases q : endP xi (x, t) = true <;> simp [q]
              refine tests_one ?_
              wtm_at "go"
              refine nm_c (by exact D) rfl (.tail _ (.tail _ (.tail _ mO))) hoO ?_
              refine nm_c (by exact D) rfl (.tail _ (.tail _ (.tail _ mP))) hoP ?_
              have hgO := D.get (.tail _ (.tail _ (.tail _ mOl)))
              refine sub_listN (k := i) hgO hOl (by omega) hxv ?_
              wtm_at "go"
              try dsimp only
              by_cases hxx : x = xi
              · rw [if_neg (by simp [hxx]), if_neg Bool.false_ne_true]
                refine ⟨_, _, D, hR, ?_, rfl⟩
                rw [hstep, if_neg (by simp [endP, endS, hxx]), List.append_nil]
              · rw [if_pos (by simpa using hxx)]
                with_reducible refine isTrue_and ?_
                refine isTrue_plain ?_
                wtm_at "go"
                refine str_meth PySem.F.slot_str_endswith PySem.F.type_str_endswith ?_
                try dsimp only
                wtm_at "go"
                refine nm_c (by exact D) rfl (.tail _ (.tail _ (.tail _ mO))) hoO ?_
                refine nm_c (by exact D) rfl (.tail _ (.tail _ (.tail _ mP))) hoP ?_
                refine sub_listN (k := i) hgO hOl (by omega) hxv ?_
                wtm_at "go"
                refine SC.endswith ?_
                wtm_at "go"
                by_cases hend : Txt.endswith x xi = true
                · rw [if_pos hend]
                  wtm_at "go"
                  rw [if_pos rfl]
                  wtm_at "go"
                  refine ⟨_, _, D, hR, ?_, rfl⟩
                  rw [hstep, if_pos (by simp [endP, endS, hxx, hend])]
                  simp [strVs]
                · rw [if_neg hend]
                  rw [if_neg Bool.false_ne_true]
                  refine ⟨_, _, D, hR, ?_, rfl⟩
                  rw [hstep, if_neg (by simp [endP, endS, hend]), List.append_nil]
            · clear D hR hit
              rintro el C oC oel ys news' s₅ mC ⟨rfl, rfl⟩ D hC hel hl hLe hR
              rw [List.take_of_length_le (by simp [strVs])] at hel
              refine comp_fin_l D hC ?_
              clear D hC
              intro h₁₆ D
              try dsimp only
              wtm_at "go"
              refine nm_c (by exact D) rfl (.tail _ mF) hoF ?_
              have hgfa := D.get (.tail _ (.tail _ (List.mem_append_right _ (.head _))))
              refine method_lst hgfa hofa PySem.F.slot_list_append PySem.F.type_list_append ?_
              try dsimp only
              wtm_at "go"
              refine nm_c (by exact D) rfl (.tail _ mP) hoP ?_
              wtm_at "go"
              with_reducible refine new_list D ?y6 ?_
              case y6 => simp [sizeLine]
              clear D hgfa
              intro pl h₁₇ opl hLpl D hopl
              try dsimp only
              have hgel := D.get (.tail _ (.head _))
              have hopl' : IsLst opl [.int (i : Int) ti] := ⟨0, hopl⟩
              have hell : (strVs (ps.filter (endP xi))).length ≤ 1000 := by
                have := List.length_filter_le (endP xi) ps
                simp only [strVs, List.length_map]
                omega
              refine add_lst D hgel hel (D.get (.head _)) hopl' (by rw [sizeLine_eq]; show _ + 1 ≤ _; omega) ?_
              clear D hgel
              intro fi h₁₈ ofi hLfi D hofi
              try dsimp only
              wtm_at "go"
              have hgfa := D.get (.tail _ (.tail _ (.tail _ (.tail _ (List.mem_append_right _ (.head _))))))
              refine append_lst hgfa hofa (by rw [List.length_map, sizeLine_eq]; omega) ?_
              intro h₁₉ ofa2 ho19 hofa2 hx19
              have D := D.upd (.tail (.tail (.tail (.tail (Up.pre .head fobs))))) hx19 ho19
              try dsimp only
              wtm_at "go"
              have D := (D.perm (perm_f _ _ _ _ _)).sub (news' := (I, oI) :: (((fi, ofi) :: fobs) ++ ((fa, ofa2) :: (ol, oOl) :: [(L + 1 + 1 + 1 + 1 + 1, oF), (L + 1 + 1 + 1 + 1, oT), (L + 1 + 1 + 1, oP), (L + 1 + 1, oO), (L + 1, oH), (260, tabObj #[])]))) (.cons₂ _ (.cons₂ _ (.cons _ (.cons _ (List.Sublist.refl _)))))
              refine ⟨_, _, D, hR, FM ++ [(fi, ((ps.filter (endP xi)).map fun p => ((.inr p.1 : MK), Value.str p.1 p.2)) ++ [((.inl (i : Int) : MK), Value.int (i : Int) ti)])], (fi, ofi) :: fobs, ofa2, oP, rfl, ?_, ?_, by simp [hFl], by simpa using hofa2, _, hoP⟩
              · intro j f hj
                rcases Nat.lt_or_ge j FM.length with q | q
                · rw [List.getElem?_append_left q] at hj; exact hFM j f hj
                · rw [List.getElem?_append_right q] at hj
                  have : j = FM.length := by
                    rcases Nat.lt_or_ge (j - FM.length) 1 with z | z
                    · omega
                    · rw [List.getElem?_eq_none (by simpa using z)] at hj; cases hj
                  subst this
                  rw [Nat.sub_self] at hj
                  cases hj
                  rw [hFl]
                  exact ⟨xi, txi, ti, hxi, rfl⟩
              · intro f hf
                rcases List.mem_append.mp hf with q | q
                · refine e1_2 (hfobs f q) ?_
                  rintro o h1 h2
                  exact ⟨o, .tail _ h1, h2⟩
                · rw [List.mem_singleton.mp q]
                  refine ⟨ofi, .head _, ?_⟩
                  have e : strVs (ps.filter (endP xi)) ++ [Value.int (i : Int) ti] = ((((ps.filter (endP xi)).map fun p => ((.inr p.1 : MK), Value.str p.1 p.2)) ++ [((.inl (i : Int) : MK), Value.int (i : Int) ti)]).map (·.2)) := by
                    simp [strVs, List.map_map, Function.comp_def]
                  rw [← e]; exact hofi
          · clear D hR hit hofa hofa0 hoP'
            rintro m' news' s₅ hxp
            refine e4_6 hxp ?_
            clear hxp
            rintro FM fobs ofa oP rfl hFM hfobs hFl hofa _ D hR
            exact ⟨rfl, _, FM, fobs, ofa, oP, D, hR, hFM, hfobs, hFl, hofa⟩
        · clear D hR hofa hofa0 hoP'
          rintro s₅ hxp
          refine e5_6 hxp ?_
          clear hxp
          rintro m FM fobs ofa oP D hR hFM hfobs hFl hofa
          wtm_at "go"
          refine new_sel G (by exact D) (by exact hR) (hA1.mono (by decide)) ?_
          clear D
          intro rx rdx tk1 s₆ hR hLr1 hLr2 D
          try dsimp only
          wtm_at "go"
          rename Led _ _ _ _ _ _ => D
          refine lam_led HL (by exact D) (fun o' => .tail (.tail (Up.pre (.tail (.tail (.tail (.tail (.tail (.tail (.tail .head))))))) fobs))) hP0 rfl rfl rfl rfl (by exact True.intro) (by rfl) ?_
          clear D
          clear D
          intro lf c' oc vs tq ctv pm h₂₀ tk2 ps2 hLlf D hocd hocv
          try dsimp only at D ⊢
          wtm_at "go"
          refine' sa_dict (K := Mine.hd.heap_39 w.params) (by exact D) ?gX (inst_at (D.get (.tail _ (.head _))) (D.get (.tail _ (.tail _ (.head _))))) rfl ?g1 ?g2 ?g3 ?g4 ?g5 ?g6 (.tail (.tail .head)) ?g8 ?_
          wtm_at "sad"
          clear D
          intro h₂₁ D
          try dsimp only
          wtm_at "go"
          refine new_sel G (by exact D) (by exact hR) (hA1.mono (by decide)) ?_
          clear D
          intro cx cdx tk3 s₇ hR hLc1 hLc2 D
          try dsimp only at D ⊢
          wtm_at "go"
          generalize hRD : dictOf _ _ = rdo at D
          have h27 := two_lt (s := s₇) G (by exact D.kb)
          have n1 := D.ndn
          rw [List.map_cons, List.nodup_cons, List.map_cons, List.nodup_cons] at n1
          have hidM : ∀ {p : Addr × Obj}, p ∈ (lf, _) :: (rx, instObj 45 rdx) :: (rdx, rdo) :: ((fobs ++ _).append [(c', oc)]) → hid s₇.heap [cdx] p.1 = some p.2 := fun {p} hp => hid_some (D.get (.tail _ (.tail _ hp))) (by
            rw [List.mem_singleton]
            intro q
            have hq := List.mem_map_of_mem (f := fun z : Addr × Obj => z.1) hp
            rw [q] at hq
            exact n1.2.1 hq)
          have h0c := led_ne D (.tail _ (.head _))
          refine gpm_spec (c := c) (x := cx) (dx := cdx) (rx := rx) (rdx := rdx) (fl := lf) (fa := fa) (tk := tk3) (ofa := ofa) (fams := FM) G (by exact D.kb) (by exact hR) (hA1.mono (by decide)) (D.get (.head _)) (D.get (.tail _ (.head _))) (D.get (.tail _ (.tail _ (.tail _ (.head _))))) (by rw [D.get (.tail _ (.tail _ (.tail _ (.tail _ (.head _))))), ← hRD]; rfl) ?_ h0c ?_ ?_ (D.get ?_) hofa ?_ (fams_sum hFM (by omega) hFl) (by omega) ?_
          · exact fun q => n1.2.1 (by rw [q]; exact .tail _ (.tail _ (.head _)))
          · exact fun h' hx => ⟨_, _, _, _, hx lf _ (fun q => n1.2.1 (by rw [← q]; exact .head _)) (D.get (.tail _ (.tail _ (.head _))))⟩
          · exact lam_yields G.lim (fun b o e => hid_some (D.kb _ _ e) (by rw [List.mem_singleton]; rintro rfl; rw [h0c] at e; cases e)) (hidM (.head _)) (hidM (.tail _ (.tail _ (.tail _ (List.mem_append_right _ (.head _)))))) hocd hocv
              (hidM (.tail _ (.tail _ (.tail _ (List.mem_append_left _ (List.mem_append_right _ (.tail _ (.tail _ (.head _))))))))) hoF rfl rfl rfl rfl (by decide) rfl (by decide) (by decide)
          · exact .tail _ (.tail _ (.tail _ (.tail _ (.tail _ (List.mem_append_left _ (List.mem_append_right _ (.head _)))))))
          · intro f hf
            refine e1_2 (hfobs f hf) ?_
            rintro o h1 h2
            exact ⟨o, D.get (.tail _ (.tail _ (.tail _ (.tail _ (.tail _ (List.mem_append_left _ (List.mem_append_left _ h1))))))), h2, fams_mix hFM hf⟩
          · intro s₈ td otd hR hx8 hsz8 htd hotd
            have D1 := (D.perm (List.Perm.swap _ _ _)).dropBut hx8
            have D2 := Led.snocNew2 D D1 (fun p hp => .inl (by
              rcases List.mem_cons.mp hp with rfl | hp
              · exact .head _
              · exact .tail _ (.tail _ hp))) hsz8 htd
            have D3 := D2.sub (news' := (fobs ++ [(fa, ofa), (ol, oOl), (L + 1 + 1 + 1 + 1 + 1, oF), (L + 1 + 1 + 1 + 1, oT), (L + 1 + 1 + 1, oP), (L + 1 + 1, oO), (L + 1, oH), (260, tabObj ps2)]) ++ [(td, otd)]) (by
              refine .cons _ (.cons _ (.cons _ (.cons _ ?_)))
              show ((fobs ++ [(fa, ofa), (ol, oOl), (L + 1 + 1 + 1 + 1 + 1, oF), (L + 1 + 1 + 1 + 1, oT), (L + 1 + 1 + 1, oP), (L + 1 + 1, oO), (L + 1, oH), (260, tabObj ps2)]) ++ [(td, otd)]).Sublist (((fobs ++ [(fa, ofa), (ol, oOl), (L + 1 + 1 + 1 + 1 + 1, oF), (L + 1 + 1 + 1 + 1, oT), (L + 1 + 1 + 1, oP), (L + 1 + 1, oO), (L + 1, oH), (260, tabObj ps2)]) ++ [(c', oc)]) ++ [(td, otd)])
              exact List.Sublist.append (List.sublist_append_left _ _) (List.Sublist.refl _))
            clear D D1 D2 hidM hx8
            try dsimp only
            refine st_cU (by exact D3) rfl (fun o' => Up.app (Up.pre (.tail (.tail (.tail .head))) fobs) [(td, otd)]) hoT ?_
            clear D3
            intro h₂₂ oT hoT D
            try dsimp only at D ⊢
            wtm_at "go"
            refine compD_eval (cl := [(Str.ofString "table", L + 1 + 1 + 1 + 1), (Str.ofString "order", L + 1 + 1)]) rfl rfl (by decide) ?_
            have mO : (L + 1 + 1, oO) ∈ (fobs ++ [(fa, ofa), (ol, oOl), (L + 1 + 1 + 1 + 1 + 1, oF), (L + 1 + 1 + 1 + 1, oT), (L + 1 + 1 + 1, oP), (L + 1 + 1, oO), (L + 1, oH), (260, tabObj ps2)]) ++ [(td, otd)] := List.mem_append_left _ (List.mem_append_right _ (.tail _ (.tail _ (.tail _ (.tail _ (.tail _ (.head _)))))))
            have mT : (L + 1 + 1 + 1 + 1, oT) ∈ (fobs ++ [(fa, ofa), (ol, oOl), (L + 1 + 1 + 1 + 1 + 1, oF), (L + 1 + 1 + 1 + 1, oT), (L + 1 + 1 + 1, oP), (L + 1 + 1, oO), (L + 1, oH), (260, tabObj ps2)]) ++ [(td, otd)] := List.mem_append_left _ (List.mem_append_right _ (.tail _ (.tail _ (.tail _ (.head _)))))
            have mOl : (ol, oOl) ∈ (fobs ++ [(fa, ofa), (ol, oOl), (L + 1 + 1 + 1 + 1 + 1, oF), (L + 1 + 1 + 1 + 1, oT), (L + 1 + 1 + 1, oP), (L + 1 + 1, oO), (L + 1, oH), (260, tabObj ps2)]) ++ [(td, otd)] := List.mem_append_left _ (List.mem_append_right _ (.tail _ (.head _)))
            have mtd : (td, otd) ∈ (fobs ++ [(fa, ofa), (ol, oOl), (L + 1 + 1 + 1 + 1 + 1, oF), (L + 1 + 1 + 1 + 1, oT), (L + 1 + 1 + 1, oP), (L + 1 + 1, oO), (L + 1, oH), (260, tabObj ps2)]) ++ [(td, otd)] := List.mem_append_right _ (.head _)
            have m2 : ((260 : Addr), tabObj ps2) ∈ (fobs ++ [(fa, ofa), (ol, oOl), (L + 1 + 1 + 1 + 1 + 1, oF), (L + 1 + 1 + 1 + 1, oT), (L + 1 + 1 + 1, oP), (L + 1 + 1, oO), (L + 1, oH), (260, tabObj ps2)]) ++ [(td, otd)] := List.mem_append_left _ (List.mem_append_right _ (.tail _ (.tail _ (.tail _ (.tail _ (.tail _ (.tail _ (.tail _ (.head _)))))))))
            have mfob : ∀ {p}, p ∈ fobs → p ∈ (fobs ++ [(fa, ofa), (ol, oOl), (L + 1 + 1 + 1 + 1 + 1, oF), (L + 1 + 1 + 1 + 1, oT), (L + 1 + 1 + 1, oP), (L + 1 + 1, oO), (L + 1, oH), (260, tabObj ps2)]) ++ [(td, otd)] := fun hp => List.mem_append_left _ (List.mem_append_left _ hp)
            refine nm_c (by exact D) rfl mO hoO ?_
            refine itr_list (by exact D) (D.get mOl) hOl ?_
            clear D
            intro I2 h₂₃ oI2 hLI2 D hit
            try dsimp only
            have h2td : 2 < td := Nat.lt_of_lt_of_le h27 hsz8
            generalize hbase : (fobs ++ [(fa, ofa), (ol, oOl), (L + 1 + 1 + 1 + 1 + 1, oF), (L + 1 + 1 + 1 + 1, oT), (L + 1 + 1 + 1, oP), (L + 1 + 1, oO), (L + 1, oH), (260, tabObj ps2)]) ++ [(td, otd)] = base at D mO mT mOl mtd m2 mfob
            let Post6 : Nat → List (Str × Value) → List (Addr × Obj) → Prop := fun k kvs news => kvs.map (·.1) = ((ps.map (·.1)).take k).filter (fun q => decide (q ≠ Str.ofString "")) ∧ (∀ q ∈ kvs.map (·.1), (∃ t, valueAt kvs q = some (.str (flS (ps.map (·.1)) q) t)) ∧ ∃ j, lastF (ps.map (·.1)) q (ps.map (·.1)).length = some j) ∧ news = base
            refine compD_it (knd := strKind prog w) hA1.handled hit Post6 (by exact ⟨rfl, (fun _ q => nomatch q), rfl⟩) D (by exact hR) (by simp [strVs]; omega) (by decide) rfl rfl ?_ ?_ ?_
            · rintro k kvs news hxp
              refine e0_3 hxp ?_
              clear hxp
              rintro _ _ hnb b hb hbI
              rw [hnb]
              have hbo : b = ol := by simpa [hbI] using hb
              rw [hbo]
              exact ⟨oOl, D.get (.tail _ mOl), .inr mOl⟩
            · clear D hR hit
              rintro C Dl2 k v m₂ kvs news₁ oD2 oI2 oL s₁ hk hv hxp
              refine e0_3 hxp ?_
              clear hxp
              rintro hkeys hvals hnb hm D hD2 hNs hR
              rw [hnb] at D
              clear hnb news₁
              obtain ⟨⟨x, t⟩, hkx, rfl⟩ : ∃ p : Str × Tok, ps[k]? = some p ∧ v = .str p.1 p.2 := by
                unfold strVs at hv
                rw [List.getElem?_map] at hv
                cases q : ps[k]? with
                | none => rw [q] at hv; cases hv
                | some p => rw [q] at hv; exact ⟨p, rfl, by simpa using hv.symm⟩
              have hxk : (ps.map (·.1))[k]? = some x := by rw [List.getElem?_map, hkx]; rfl
              have hxm := List.mem_of_getElem? hxk
              have hstep : ((ps.map (·.1)).take (k + 1)).filter (fun q => decide (q ≠ Str.ofString "")) = ((ps.map (·.1)).take k).filter (fun q => decide (q ≠ Str.ofString "")) ++ (if x ≠ Str.ofString "" then [x] else []) := by
                rw [List.take_add_one, hxk, List.filter_append]
                by_cases q : x = Str.ofString "" <;> simp [q]
              refine tests_one ?_
              wtm_at "go"
              by_cases hx0 : x = Str.ofString ""
              · rw [if_neg (by simp [hx0])]
                refine ⟨_, _, D, hR, ?_, hvals, rfl⟩
                rw [hstep, if_neg (by simp [hx0]), List.append_nil, hkeys]
              · rw [if_pos (by simpa using hx0)]
                wtm_at "go"
                refine nm_c (by exact D) rfl (.tail _ (.tail _ (.tail _ mO))) hoO ?_
                wtm_at "go"
                refine nm_c (by exact D) rfl (.tail _ (.tail _ (.tail _ mT))) hoT ?_
                refine e4_5 (pm_last hFM hFl hxm hx0 (hperm.mem_iff.mpr h0)) ?_
                rintro j f xj tj hfj hxj hxfl hval hlast
                refine e1_2 (hfobs f (List.mem_of_getElem? hfj)) ?_
                rintro of hfo1 hfo2
                refine e3_2 (hFM j f hfj) ?_
                rintro xx ttx tjj hxx hf2
                have hgtd := D.get (.tail _ (.tail _ (.tail _ mtd)))
                wtm_at "go"
                refine dict_get (knd := mixKind prog w) (k := .inr x) (by show Value.isStrOf x (.str x t) = true; simp [Value.isStrOf]) hgtd hotd hval ?_
                wtm_at "go"
                refine neg_one_const ?_
                intro tn tkn
                try dsimp only
                have hkv2 := hfo2
                rw [hf2, List.map_append] at hkv2
                have hgf := D.get (.tail _ (.tail _ (.tail _ (mfob hfo1))))
                refine sub_list_neg hgf hkv2 (by decide) (by simp; omega) ?_ (v := .int (j : Int) tjj) ?_ ?_
                · have := List.length_filter_le (endP xx) ps
                  simp
                  omega
                · simp only [List.length_append, List.length_map, List.map_cons, List.map_nil, List.length_cons, List.length_nil]
                  rw [List.getElem?_append_right (by simp; omega)]
                  have e : ((-1 + (((ps.filter (endP xx)).length + (0 + 1) : Nat) : Int)).toNat - (List.map (fun z : MK × Value => z.2) ((ps.filter (endP xx)).map fun p => ((.inr p.1 : MK), Value.str p.1 p.2))).length) = 0 := by
                    simp only [List.length_map]
                    omega
                  rw [e]
                  rfl
                have hjl : j < ps.length := by
                  rcases Nat.lt_or_ge j ps.length with z | z
                  · exact z
                  · rw [List.getElem?_eq_none z] at hxj; cases hxj
                wtm_at "go"
                have hgo := D.get (.tail _ (.tail _ (.tail _ mOl)))
                refine sub_listN (k := j) hgo hOl (by omega) (v := .str xj tj) (by unfold strVs; rw [List.getElem?_map, hxj]; rfl) ?_
                have hxn : x ∉ kvs.map (·.1) := by
                  rw [hkeys]
                  intro q
                  have hndo : (ps.map (·.1)).Nodup := hperm.nodup_iff.mpr hnd
                  exact not_mem_take hndo hxk (List.mem_filter.mp q).1
                have hvn : valueAt kvs x = none := valueAt_not_mem hxn
                have hst : stored kvs x (Value.str xj tj) = kvs ++ [(x, .str xj tj)] := stored_new hvn
                refine ⟨_, _, x, D, hR, strKind_is _ _ _ _, ?_, ?_, rfl⟩
                · rw [hst, List.map_append, hkeys, hstep, if_pos hx0]
                  rfl
                · intro q hq
                  rw [hst, List.map_append] at hq
                  rcases List.mem_append.mp hq with z | z
                  · obtain ⟨⟨tq2, h1⟩, h2⟩ := hvals q z
                    exact ⟨⟨tq2, by rw [valueAt_stored_ne _ _ _ _ (fun e => hxn (by rw [← e]; exact z))]; exact h1⟩, h2⟩
                  · have hqx : q = x := by simpa using z
                    rw [hqx]
                    exact ⟨⟨tj, by rw [valueAt_stored_self, ← hxfl]⟩, j, hlast⟩
            · clear D hR hit
              rintro dt C oC od kvs news' s₉ mC hxp
              refine e0_3 hxp ?_
              clear hxp
              rintro hkeys hvals hnb D hC hod hLd hR
              rw [hnb] at D
              refine comp_fin D hC ?_
              clear D hC
              intro h₂₄ D
              try dsimp only
              wtm_at "go"
              have hlen : (strVs ps).length = (ps.map (·.1)).length := by simp [strVs]
              rw [hlen, List.take_length] at hkeys
              refine h dt od kvs (ps.map (·.1)) ps2 _ hR (fun b o hb e => D.keep _ _ (dl e hb)) (D.get (.tail _ m2)) (Nat.le_trans hL (Nat.le_of_lt hLd)) (D.get (.head _)) hod hperm hsort hkeys hvals
end


-- part ENTRY
theorem caller_ok : AOk callerA 20 := ⟨by decide +kernel, by decide +kernel, rfl⟩
theorem led_start {h₀ h₁ : Heap} {L : Addr} {m : Str → Option Value} {news : List (Addr × Obj)} {gens : Array GenState} {drawn : Drawn} {os : OsState} (F : Fr h₀ L h₁ m) (N : News h₀ L h₁ news) (nd : (news.map (·.1)).Nodup) : Led ⟨h₀, gens, drawn, os⟩ h₀.get? L h₁ m news where
  base := fun _ _ e => e
  ns := F.ns
  keep := F.keep
  fresh := Heap.get?_none_of_le F.above
  own := fun p hp => ⟨(N p hp).1, (N p hp).2.2⟩
  nd := List.nodup_cons.mpr ⟨fun q => by
    obtain ⟨p, hp, e⟩ := List.mem_map.mp q
    exact (N p hp).2.1 e, nd⟩
theorem glo_start {K : Frag} {p : Program} {loose : List Str} {mean : ExcName → Option Value} {mg mb : Str → Option Value} {h : Heap} (X : K.In h) (T : Top p loose mean mg mb h) : Glo K h := ⟨X, T.nolimit, ⟨_, T.g⟩, _, T.b, T.builtins⟩
theorem lam_start {p : Program} {loose : List Str} {mean : ExcName → Option Value} {mg mb : Str → Option Value} {h : Heap} {cA P : Addr} (T : Top p loose mean mg mb h) (C : CodeHd h cA P) : LamOk h cA P where
  main := by
    obtain ⟨bm, ob, b1, b2, b3, b4, b5, b6⟩ := T.bmain
    have hbG : bm ≠ mainGlobals := fun q => by
      obtain ⟨o, es, ep, e, hd, _⟩ := T.g
      rw [q, e] at b3; cases b3; rw [hd] at b6; cases b6
    exact ⟨mg, T.g, bm, ob, b1, b2, hbG, b3, b4, b5, b6⟩
  code := C
theorem frames_start {env : Env} : (callerA.deeper env).frames = some [env] := Around.frames_deeper rfl
theorem law_enter {M : Model} {env : Env} {body : List Stmt} {P Q : Flow → Shared → Prop} {E : Value → Shared → Prop} {s : Shared} (h : ∀ A : Around, A.frames = some [env] → AOk A 19 → wpAny M A (execs body env) P (fun _ _ => False) s) (h2 : ∀ fl s', P fl s' → Q fl s') : wpAny M (callerA.deeper env) (execs body env) Q E s :=
  wpAny_mono (h _ frames_start (caller_ok.deeper _)) h2 fun _ _ x => x.elim

-- part SLI
section
variable {prog : Program} {w : World} {A : Around} {E : Value → Shared → Prop} {s : Shared} {env : Env} {c : Cx} {g : PM} {L : Addr} {m : Str → Option Value} {news : List (Addr × Obj)}
theorem kept_led : KeptH (fun h => Led c g L h m news) := fun h ob D => D.after fun b o e => Heap.get?_push_of_some _ e
theorem slice_ns {x : Str} {t uj : Tok} {j : Int} {Q : Value → Shared → Prop} (D : Led c g L s.heap m news) (hz : x.length ≤ sizeLine) (h : ∀ h' t' k, Led c g L h' m news → Q (.str (Txt.slice x none (some j)) t') { s with heap := h', toks := k }) :
    ItemOn (model prog w) A E (.str x t) (.ref s.heap.objs.size) Q { s with heap := s.heap.push { cls := .type "slice", data := .fields #[.none, .int j uj, .none] } } :=
  SBH.sliceItem_ns (hsz := hz) kept_led D h
theorem slice_ss {x : Str} {t ui uj : Tok} {i j : Int} {Q : Value → Shared → Prop} (D : Led c g L s.heap m news) (hz : x.length ≤ sizeLine) (h : ∀ h' t' k, Led c g L h' m news → Q (.str (Txt.slice x (some i) (some j)) t') { s with heap := h', toks := k }) :
    ItemOn (model prog w) A E (.str x t) (.ref s.heap.objs.size) Q { s with heap := s.heap.push { cls := .type "slice", data := .fields #[.int i ui, .int j uj, .none] } } :=
  SBH.sliceItem_ss (hsz := hz) kept_led D h
theorem slice_lst {l : Addr} {vs : List Value} {vl vu : Value} {lo hi : Option Int} {Q : Value → Shared → Prop} (D : Led c g L s.heap m news) (hl : s.heap.IsList l vs.toArray) (pl : IsPart vl lo) (pu : IsPart vu hi) (hz : vs.length ≤ sizeLine)
    (h : ∀ r h' o', L < r → Keep s.heap h' → Led c g L h' m ((r, o') :: news) → IsLst o' (slicePick vs.toArray lo hi none).toList → Q (.ref r) { s with heap := h' }) :
    ItemOn (model prog w) A E (.ref l) (.ref s.heap.objs.size) Q { s with heap := s.heap.push { cls := .type "slice", data := .fields #[vl, vu, .none] } } := by
  have D1 := D.after (fun b o e => Heap.get?_push_of_some { cls := .type "slice", data := .fields #[vl, vu, .none] } e)
  exact ⟨"list", _, slot_list_getitem.lookup, Heap.IsList.typeIs (s := { s with heap := s.heap.push { cls := .type "slice", data := .fields #[vl, vu, .none] } }) (hl.push _),
    wpAny_getItem_list_slice (hl.push _) (Heap.IsSliceOf.new ..) pl pu .none (by simp) (h _ _ _ D1.ltL (fun b o e => Heap.get?_push_of_some _ (Heap.get?_push_of_some _ e)) (D1.push _) ⟨0, by simp [lstO]⟩) (by rw [List.size_toArray]; exact hz)⟩
theorem slice_lstH {h₁ : Heap} {gn : Array GenState} {dw : Drawn} {tk : Tok} {os : OsState} {l : Addr} {vs : List Value} {vl vu : Value} {lo hi : Option Int} {Q : Value → Shared → Prop} (D : Led c g L h₁ m news) (hl : h₁.IsList l vs.toArray) (pl : IsPart vl lo) (pu : IsPart vu hi) (hz : vs.length ≤ sizeLine)
    (h : ∀ r h' o', L < r → Keep h₁ h' → Led c g L h' m ((r, o') :: news) → IsLst o' (slicePick vs.toArray lo hi none).toList → Q (.ref r) ⟨h', gn, dw, tk, os⟩) :
    ItemOn (model prog w) A E (.ref l) (.ref h₁.objs.size) Q ⟨h₁.push { cls := .type "slice", data := .fields #[vl, vu, .none] }, gn, dw, tk, os⟩ := slice_lst (s := ⟨h₁, gn, dw, tk, os⟩) D hl pl pu hz h
theorem slice_nsH {h₁ : Heap} {gn : Array GenState} {dw : Drawn} {tk : Tok} {os : OsState} {x : Str} {t uj : Tok} {j : Int} {Q : Value → Shared → Prop} (D : Led c g L h₁ m news) (hz : x.length ≤ sizeLine) (h : ∀ h' t' k, Led c g L h' m news → Q (.str (Txt.slice x none (some j)) t') ⟨h', gn, dw, k, os⟩) :
    ItemOn (model prog w) A E (.str x t) (.ref h₁.objs.size) Q ⟨h₁.push { cls := .type "slice", data := .fields #[.none, .int j uj, .none] }, gn, dw, tk, os⟩ := slice_ns (s := ⟨h₁, gn, dw, tk, os⟩) D hz h
theorem slice_ssH {h₁ : Heap} {gn : Array GenState} {dw : Drawn} {tk : Tok} {os : OsState} {x : Str} {t ui uj : Tok} {i j : Int} {Q : Value → Shared → Prop} (D : Led c g L h₁ m news) (hz : x.length ≤ sizeLine) (h : ∀ h' t' k, Led c g L h' m news → Q (.str (Txt.slice x (some i) (some j)) t') ⟨h', gn, dw, k, os⟩) :
    ItemOn (model prog w) A E (.str x t) (.ref h₁.objs.size) Q ⟨h₁.push { cls := .type "slice", data := .fields #[.int i ui, .int j uj, .none] }, gn, dw, tk, os⟩ := slice_ss (s := ⟨h₁, gn, dw, tk, os⟩) D hz h
theorem sum_led {l : Addr} {vs : List Value} {ns : List Int} {Q : Value → Shared → Prop} (D : Led c g L s.heap m news) (hh : A.handled = none) (hl : s.heap.IsList l vs.toArray) (hi : IntsAre vs ns)
    (h : ∀ z h' tk t', Keep s.heap h' → Led c g L h' m news → Q (.int z t') { s with heap := h', toks := tk }) : wpAny (model prog w) A (call (.builtin "sum") [.ref l]) Q E s := by
  obtain ⟨xs, e⟩ := hi.allInts.items
  rw [e] at hl
  exact sum_intListG hh hl fun h' tk t' hk => h _ h' tk t' hk (D.after hk)
end
theorem ints_at {vs : List Value} {ns : List Int} (h : IntsAre vs ns) {i : Nat} {v : Value} (hv : vs[i]? = some v) : ∃ z t, ns[i]? = some z ∧ v = .int z t := by
  have hi : i < ns.length := by
    rw [← h.length]
    rcases Nat.lt_or_ge i vs.length with q | q
    · exact q
    · rw [List.getElem?_eq_none q] at hv; cases hv
  obtain ⟨t, ht⟩ := h.get i _ (List.getElem?_eq_getElem hi)
  rw [ht] at hv
  cases hv
  exact ⟨_, t, List.getElem?_eq_getElem hi, rfl⟩
theorem tail_of_item {M : Model} {A : Around} {E : Value → Shared → Prop} {s : Shared} {value slice : Expr} {o i : Value} {Q : Value → Shared → Prop} (h : ItemOn M A E o i Q s) (hs : subscripted slice false o i = operate [i, o] (getItem o i)) (ht : ∀ r, letTemporaryGo value o r = pure ()) :
    wpAny M A (subscriptTail value slice o i) Q E s := by
  obtain ⟨T, id, hl, hT, hg⟩ := h
  exact subscriptTail_ops hT hl hg hs ht
theorem piece_len (z : Int) : (pieceI z).length ≤ 4 ∧ 0 < (pieceI z).length := by
  unfold pieceI
  split
  · have k0 : 0 ≤ Int.fmod (Int.fdiv z 2) 12 := Int.fmod_nonneg_of_pos _ (by decide)
    have k1 : Int.fmod (Int.fdiv z 2) 12 < 12 := Int.fmod_lt_of_pos _ (by decide)
    obtain ⟨k, hk⟩ := Int.eq_ofNat_of_zero_le k0
    rw [hk] at k1 ⊢
    have hk2 : k < 12 := by omega
    rw [Int.toNat_natCast]
    have : k = 0 ∨ k = 1 ∨ k = 2 ∨ k = 3 ∨ k = 4 ∨ k = 5 ∨ k = 6 ∨ k = 7 ∨ k = 8 ∨ k = 9 ∨ k = 10 ∨ k = 11 := by omega
    rcases this with rfl | rfl | rfl | rfl | rfl | rfl | rfl | rfl | rfl | rfl | rfl | rfl <;> decide +kernel
  · exact ⟨show 1 ≤ 4 by decide, show 0 < 1 by decide⟩
theorem sum_len4 : ∀ l : List Int, ((l.map pieceI).map (·.length)).sum ≤ 4 * l.length
  | [] => by simp
  | a :: l => by
    have ih := sum_len4 l
    have := (piece_len a).1
    rw [List.map_cons, List.map_cons, List.sum_cons, List.length_cons]
    omega
theorem join_len (ys : List Str) : (Txt.join (Str.ofString "") ys).length = (ys.map (·.length)).sum := by
  have h : (Txt.join (Str.ofString "") ys).cps.toList.length = (ys.map (·.length)).sum := by
    unfold Txt.join
    rw [StrLaws.glued_eq_join, join_cps, List.length_flatMap]
    congr 1
  rw [← h]; exact Array.length_toList.symm
theorem rsize1 (n : Nat) : Builtin.Range.rangeSize 1 ((n : Int) + 1) 1 = n := by
  rw [rangeSize_one]; split <;> omega
theorem eqAt_strs {A : Around} {s : Shared} {ts ts' : List (Str × Tok)} (h : ts.map (·.1) = ts'.map (·.1)) (j : Nat) (h1 : j < (strVs ts).toArray.size) (h2 : j < (strVs ts').toArray.size) : SeqAt.EqAt A s (strVs ts).toArray[j] (strVs ts').toArray[j] true := by
  have hj : j < ts.length := by simpa [strVs] using h1
  have hj' : j < ts'.length := by simpa [strVs] using h2
  have e1 : (strVs ts).toArray[j] = .str ts[j].1 ts[j].2 := by simp [strVs]
  have e2 : (strVs ts').toArray[j] = .str ts'[j].1 ts'[j].2 := by simp [strVs]
  have e3 : ts[j].1 = ts'[j].1 := by
    have := congrArg (fun l => l[j]?) h
    simp only [List.getElem?_map, List.getElem?_eq_getElem hj, List.getElem?_eq_getElem hj', Option.map_some] at this
    exact Option.some.inj this
  rw [e1, e2, e3]
  intro prog w E Q hq
  exact wpAny_eqBool_str (by rw [decide_eq_true rfl]; exact hq)
theorem eq_true_lists {prog : Program} {w : World} {A : Around} {E : Value → Shared → Prop} {s : Shared} {l b : Addr} {o o' : Obj} {fv dv : List Addr} {Q : Value → Shared → Prop} (hu : A.units + 8 < cLine) (hl : s.heap.get? l = some o) (hlo : IsLst o (fv.map fun a => .ref a)) (hb : s.heap.get? b = some o') (hbo : IsLst o' (dv.map fun a => .ref a)) (hlen : fv.length = dv.length)
    (he : ∀ (j : Nat) a c, fv[j]? = some a → dv[j]? = some c → ∃ ol ol' ts ts', s.heap.get? a = some ol ∧ IsLst ol (strVs ts) ∧ s.heap.get? c = some ol' ∧ IsLst ol' (strVs ts') ∧ ts.map (·.1) = ts'.map (·.1)) (h : Q (.bool true) s) : wpAny (model prog w) A (compareOp .Eq (.ref l) (.ref b)) Q E s := by
  refine SeqAt.eq_listAt (e := fun _ => true) (IsLst.isList hl hlo) (IsLst.isList hb hbo) (by simp [hlen]) (by omega) (fun j h1 h2 => ?_) ?_
  · have hj : j < fv.length := by simpa using h1
    have hj' : j < dv.length := by simpa using h2
    have e1 : ((fv.map fun a => Value.ref a).toArray)[j] = .ref fv[j] := by simp
    have e2 : ((dv.map fun a => Value.ref a).toArray)[j] = .ref dv[j] := by simp
    rw [e1, e2]
    obtain ⟨ol, ol', ts, ts', g1, g2, g3, g4, g5⟩ := he j fv[j] dv[j] (List.getElem?_eq_getElem hj) (List.getElem?_eq_getElem hj')
    by_cases hab : fv[j] = dv[j]
    · rw [hab]; exact SeqAt.EqAt.same _
    · refine SeqAt.EqAt.of_refs hab ?_
      have hsz : (strVs ts).toArray.size = (strVs ts').toArray.size := by
        have := congrArg List.length g5
        simpa [strVs] using this
      have R := SeqAt.RcAt.lists (A := A.in1) (s := s) (e := fun _ => true) (IsLst.isList g1 g2) (IsLst.isList g3 g4) hsz (by show A.units + 1 < cLine; omega) (fun j h1 h2 => eqAt_strs g5 j h1 h2)
      rwa [show (List.range (strVs ts).toArray.size).all (fun _ => true) = true by simp] at R
  · rwa [show (List.range ((fv.map fun a => Value.ref a).toArray).size).all (fun _ => true) = true by simp]
theorem strSlice_eq (x : Str) {i j : Nat} (hij : i ≤ j) (hj : j ≤ x.length) : Txt.slice x (some (i : Int)) (some (j : Int)) = strOf ((x.cps.toList.take j).drop i) := by
  have hx : x.cps.toList.length = x.length := Array.length_toList
  have hidx : Builtin.Str.strSliceIndices (some (i : Int)) (some (j : Int)) 1 x.length = List.range' i (j - i) := by
    unfold Builtin.Str.strSliceIndices sliceRange
    simp only [show (1 : Int) > 0 by decide, if_true, show ¬ ((i : Int) < 0) by omega, show ¬ ((j : Int) < 0) by omega, if_false]
    rw [show max (0 : Int) (min (i : Int) (x.length : Int)) = i by omega, show max (0 : Int) (min (j : Int) (x.length : Int)) = j by omega]
    have hc : (if (i : Int) < j then ((j : Int) - i + 1 - 1) / 1 else 0).toNat = j - i := by
      split
      · rw [Int.ediv_one]; omega
      · omega
    rw [hc]
    apply List.ext_getElem
    · simp
    · intro k h1 h2
      simp
      omega
  unfold Txt.slice
  rw [hidx]
  have hfm : ∀ (n i : Nat), i + n ≤ x.cps.toList.length → (List.range' i n).filterMap (x.cps[·]?) = (x.cps.toList.drop i).take n := by
    intro n
    induction n with
    | zero => intro i _; simp
    | succ n ih =>
      intro i hi
      rw [List.range'_succ, List.filterMap_cons]
      have : x.cps[i]? = some (x.cps.toList[i]'(by omega)) := by
        rw [← Array.getElem?_toList, List.getElem?_eq_getElem (by omega)]
      rw [this]
      dsimp only
      rw [ih (i + 1) (by omega), List.drop_eq_getElem_cons (i := i) (by omega), List.take_succ_cons]
  have hd : (x.cps.toList.take j).drop i = (x.cps.toList.drop i).take (j - i) := by rw [List.drop_take]
  split
  · rename_i h
    rw [List.length_range', Bool.and_eq_true, beq_iff_eq, beq_iff_eq] at h
    have h0 : i = 0 := by omega
    have h1 : j = x.length := by omega
    subst h0
    rw [List.drop_zero, List.take_of_length_le (by omega)]
    unfold strOf
    simp
  · rw [hfm (j - i) i (by omega), hd]
    rfl
theorem strTake_eq (x : Str) {j : Nat} (hj : j ≤ x.length) : Txt.slice x none (some (j : Int)) = strOf (x.cps.toList.take j) := by
  have h := strSlice_eq x (Nat.zero_le j) hj
  rw [List.drop_zero] at h
  rw [← h]
  unfold Txt.slice Builtin.Str.strSliceIndices
  simp only [show (1 : Int) > 0 by decide, if_true, show ¬ (((0 : Nat) : Int) < 0) by omega, if_false]
  rw [show max (0 : Int) (min ((0 : Nat) : Int) (x.length : Int)) = 0 by omega]

-- part PL
def wrote (k : Nat) (x : Str) : Str := strOf (escL (escK k) x.cps.toList)
theorem strs_at {ps : List (Str × Tok)} {i : Nat} {v : Value} (hv : (strVs ps)[i]? = some v) : ∃ p : Str × Tok, ps[i]? = some p ∧ v = .str p.1 p.2 := by
  unfold strVs at hv
  rw [List.getElem?_map] at hv
  cases q : ps[i]? with
  | none => rw [q] at hv; cases hv
  | some p => rw [q] at hv; exact ⟨p, rfl, by simpa using hv.symm⟩
def prefs (x : Str) : List Str := (List.range x.length).map fun i => strOf (x.cps.toList.take (i + 1))
def grow (S : List Str) (x : Str) : List Str := S ++ (prefs x).filter fun p => decide (p ∉ S)
def statesOf (ws : List Str) : List Str := ws.foldl grow [Str.ofString ""]
theorem wrote_len (k : Nat) {x : Str} (h : x.length ≤ 4 ∧ 0 < x.length) : (wrote k x).length ≤ 24 ∧ 0 < (wrote k x).length := by
  have hl : (wrote k x).length = (escL (escK k) x.cps.toList).length := by unfold wrote strOf Str.length; simp
  have h1 := escL_len (escK_ok k) (escK_len k) x.cps.toList
  have h2 : x.cps.toList.length = x.length := Array.length_toList
  rw [hl]
  refine ⟨by omega, ?_⟩
  refine List.length_pos_iff.mpr (escL_ne (escK_ok k) (escK_len k) ?_)
  intro q
  rw [q] at h2
  simp at h2
  omega
theorem strs_lt {ps : List (Str × Tok)} {i : Nat} (h : i < (strVs ps).length) : i < ps.length := by simpa [strVs] using h
theorem prefs_mem {x p : Str} : p ∈ prefs x ↔ p.cps.toList <+: x.cps.toList ∧ p.cps.toList ≠ [] := by
  have hx : x.cps.toList.length = x.length := Array.length_toList
  unfold prefs
  rw [List.mem_map]
  constructor
  · rintro ⟨i, hi, rfl⟩
    rw [List.mem_range] at hi
    refine ⟨List.take_prefix _ _, ?_⟩
    intro q
    have : (x.cps.toList.take (i + 1)).length = 0 := by
      have := congrArg List.length q
      simpa [strOf] using this
    rw [List.length_take] at this
    omega
  · rintro ⟨h1, h2⟩
    have hl := h1.length_le
    have hp := List.length_pos_iff.mpr h2
    refine ⟨p.cps.toList.length - 1, List.mem_range.mpr (by omega), ?_⟩
    apply str_ext
    show x.cps.toList.take (p.cps.toList.length - 1 + 1) = p.cps.toList
    rw [show p.cps.toList.length - 1 + 1 = p.cps.toList.length by omega]
    exact (List.prefix_iff_eq_take.mp h1).symm
theorem prefs_nodup (x : Str) : (prefs x).Nodup := by
  have hx : x.cps.toList.length = x.length := Array.length_toList
  unfold prefs List.Nodup
  rw [List.pairwise_map]
  refine List.Pairwise.imp_of_mem ?_ (List.nodup_range (n := x.length))
  intro a b ha hb hab e
  rw [List.mem_range] at ha hb
  have := congrArg (fun s : Str => s.cps.toList.length) e
  simp only [strOf, List.length_take] at this
  omega
theorem states_all (ws : List Str) : (statesOf ws).Nodup ∧ Str.ofString "" ∈ statesOf ws ∧ ∀ p, p ∈ statesOf ws ↔ p = Str.ofString "" ∨ ∃ x ∈ ws, p ∈ prefs x := by
  have go : ∀ (ws S : List Str), S.Nodup → (ws.foldl grow S).Nodup ∧ ∀ p, p ∈ ws.foldl grow S ↔ p ∈ S ∨ ∃ x ∈ ws, p ∈ prefs x := by
    intro ws
    induction ws with
    | nil => intro S h; exact ⟨h, fun p => by simp⟩
    | cons x ws ih =>
      intro S h
      have hg : (grow S x).Nodup := by
        unfold grow
        rw [List.nodup_append]
        refine ⟨h, (prefs_nodup x).filter _, fun a ha b hb e => ?_⟩
        have := (List.mem_filter.mp hb).2
        rw [decide_eq_true_eq] at this
        exact this (e ▸ ha)
      obtain ⟨h1, h2⟩ := ih (grow S x) hg
      refine ⟨h1, fun p => ?_⟩
      rw [List.foldl_cons, h2 p]
      unfold grow
      rw [List.mem_append, List.mem_filter, decide_eq_true_eq]
      constructor
      · rintro ((q | q) | ⟨y, hy, q⟩)
        · exact .inl q
        · exact .inr ⟨x, .head _, q.1⟩
        · exact .inr ⟨y, .tail _ hy, q⟩
      · rintro (q | ⟨y, hy, q⟩)
        · exact .inl (.inl q)
        · rcases List.mem_cons.mp hy with rfl | hy
          · by_cases z : p ∈ S
            · exact .inl (.inl z)
            · exact .inl (.inr ⟨q, z⟩)
          · exact .inr ⟨y, hy, q⟩
  obtain ⟨h1, h2⟩ := go ws [Str.ofString ""] (by simp)
  have h3 : ∀ p, p ∈ statesOf ws ↔ p = Str.ofString "" ∨ ∃ x ∈ ws, p ∈ prefs x := fun p => by
    have := h2 p
    rw [List.mem_singleton] at this
    exact this
  exact ⟨h1, (h3 _).mpr (.inl rfl), h3⟩
theorem states_facts (ws : List Str) (hz : ∀ q ∈ ws, q.length ≤ 24 ∧ 0 < q.length) : (statesOf ws).Nodup ∧ Str.ofString "" ∈ statesOf ws ∧ ∀ p ∈ statesOf ws, p.length ≤ 24 ∧ (p = Str.ofString "" ∨ ∃ x ∈ ws, p ∈ prefs x) := by
  obtain ⟨h1, h2, h3⟩ := states_all ws
  refine ⟨h1, h2, fun p hp => ⟨?_, (h3 p).mp hp⟩⟩
  rcases (h3 p).mp hp with rfl | ⟨x, hx, q⟩
  · decide
  · have := (prefs_mem.mp q).1.length_le
    have h4 : x.cps.toList.length = x.length := Array.length_toList
    have h5 : p.cps.toList.length = p.length := Array.length_toList
    have := (hz x hx).1
    omega
theorem states_len (ws : List Str) (hz : ∀ q ∈ ws, q.length ≤ 24) : (statesOf ws).length ≤ 1 + 24 * ws.length := by
  have go : ∀ (ws S : List Str), (∀ q ∈ ws, q.length ≤ 24) → (ws.foldl grow S).length ≤ S.length + 24 * ws.length := by
    intro ws
    induction ws with
    | nil => intro S _; simp
    | cons x ws ih =>
      intro S h
      have h1 := ih (grow S x) fun q hq => h q (.tail _ hq)
      have h2 : (grow S x).length ≤ S.length + 24 := by
        unfold grow
        have := List.length_filter_le (fun p => decide (p ∉ S)) (prefs x)
        have h3 : (prefs x).length = x.length := by simp [prefs]
        have := h x (.head _)
        rw [List.length_append]
        omega
      rw [List.foldl_cons, List.length_cons]
      omega
  exact go ws [Str.ofString ""] hz
def SS (xs : List Str) : List (List Nat) := xs.map (·.cps.toList)
theorem memS {xs : List Str} {q : Str} : q.cps.toList ∈ SS xs ↔ q ∈ xs := by
  unfold SS
  rw [List.mem_map]
  exact ⟨fun ⟨y, hy, e⟩ => str_ext e ▸ hy, fun h => ⟨q, h, rfl⟩⟩
theorem memS' {xs : List Str} {u : List Nat} : u ∈ SS xs ↔ strOf u ∈ xs := by
  have : u = (strOf u).cps.toList := rfl
  rw [this, memS]
  rfl
theorem pcS {WS xs : List Str} (hp : xs.Perm (statesOf WS)) : ∀ u a, u ++ [a] ∈ SS xs → u ∈ SS xs := by
  intro u a h
  rw [memS', hp.mem_iff, (states_all WS).2.2] at h ⊢
  rcases h with h | ⟨x, hx, h⟩
  · have := congrArg (fun z : Str => z.cps.toList.length) h
    simp [strOf] at this
    have e0 : (Str.ofString "").cps.size = 0 := rfl
    omega
  · rw [prefs_mem] at h
    by_cases hu : u = []
    · subst hu; exact .inl rfl
    · exact .inr ⟨x, hx, prefs_mem.mpr ⟨(List.prefix_append u [a]).trans h.1, hu⟩⟩
theorem nilS {WS xs : List Str} (hp : xs.Perm (statesOf WS)) : [] ∈ SS xs := by
  have : Str.ofString "" ∈ xs := hp.mem_iff.mpr (states_all WS).2.1
  exact memS.mpr this
theorem wordsS {WS xs : List Str} (hp : xs.Perm (statesOf WS)) (hz : ∀ q ∈ WS, 0 < q.length) : ∀ u ∈ SS WS, u ∈ SS xs := by
  intro u hu
  rw [memS'] at hu ⊢
  refine hp.mem_iff.mpr (((states_all WS).2.2 _).mpr (.inr ⟨_, hu, prefs_mem.mpr ⟨List.prefix_refl _, ?_⟩⟩))
  have := hz _ hu
  intro q
  have h2 : (strOf u).length = (strOf u).cps.toList.length := Array.length_toList.symm
  rw [q] at h2
  simp at h2
  omega
/-- the words that end a text -/
def ends (WS : List Str) (t : List Nat) : List Str := ((sufs t).filter fun u => decide (u ∈ SS WS)).map strOf
theorem ends_nil (WS : List Str) : ends WS [] = [] := rfl
theorem ends_len (WS : List Str) (t : List Nat) : (ends WS t).length ≤ t.length := by
  unfold ends
  rw [List.length_map]
  refine Nat.le_trans (List.length_filter_le _ _) ?_
  rw [sufs_eq]; simp
theorem ends_step {WS xs : List Str} (hp : xs.Perm (statesOf WS)) (hz : ∀ q ∈ WS, 0 < q.length) {q f : Str} (h : IsF (SS xs) q.cps.toList f.cps.toList) : ends WS q.cps.toList = (if q ∈ WS then [q] else []) ++ ends WS f.cps.toList := by
  unfold ends
  rw [tl_step h (wordsS hp hz), List.map_append]
  congr 1
  by_cases hq : q ∈ WS
  · rw [if_pos hq, if_pos (memS.mpr hq)]; rfl
  · rw [if_neg hq, if_neg (fun z => hq (memS.mp z))]; rfl
theorem ends_read {WS xs : List Str} (hp : xs.Perm (statesOf WS)) (hz : ∀ q ∈ WS, 0 < q.length) {t : List Nat} {q : Str} (h : IsLS (SS xs) t q.cps.toList) : ends WS t = ends WS q.cps.toList := by
  unfold ends
  rw [sufs_filter h (wordsS hp hz)]
theorem due_ends (WS : List Str) (t : List Nat) : ((List.range t.length).map fun s => strOf (t.drop s)).filter (fun q => decide (q ∈ WS)) = ends WS t := by
  unfold ends
  rw [sufs_eq, List.filter_map, List.filter_map, List.map_map]
  congr 1
  refine List.filter_congr fun s _ => ?_
  simp only [Function.comp]
  rw [decide_eq_decide, memS']
def tlX (ks WS : List Str) (q : Str) : List Str := if q ∈ ks then ends WS q.cps.toList else if q ∈ WS then [q] else []
theorem tlX_state {ks WS : List Str} (hz : ∀ q ∈ WS, 0 < q.length) {q : Str} (h : q = Str.ofString "" ∨ q ∈ ks) : tlX ks WS q = ends WS q.cps.toList := by
  unfold tlX
  by_cases hk : q ∈ ks
  · rw [if_pos hk]
  · rw [if_neg hk]
    have : q = Str.ofString "" := h.resolve_right hk
    subst this
    rw [if_neg (fun z => absurd (hz _ z) (by decide))]
    rfl
structure Acf (WS xs ks : List Str) : Prop where
  perm : xs.Perm (statesOf WS)
  wz : ∀ q ∈ WS, q.length ≤ 24 ∧ 0 < q.length
  ks_eq : ks = xs.filter fun q => decide (q ≠ Str.ofString "")
  isF : ∀ q ∈ ks, IsF (SS xs) q.cps.toList (flS xs q).cps.toList
theorem Acf.ks_mem {WS xs ks : List Str} (H : Acf WS xs ks) {q : Str} : q ∈ ks ↔ q ∈ xs ∧ q ≠ Str.ofString "" := by
  rw [H.ks_eq, List.mem_filter, decide_eq_true_eq]
theorem Acf.st {WS xs ks : List Str} (H : Acf WS xs ks) {q : Str} (h : q ∈ xs) : q = Str.ofString "" ∨ q ∈ ks := by
  by_cases e : q = Str.ofString ""
  · exact .inl e
  · exact .inr (H.ks_mem.mpr ⟨h, e⟩)
theorem Acf.fl_st {WS xs ks : List Str} (H : Acf WS xs ks) {q : Str} (h : q ∈ ks) : flS xs q = Str.ofString "" ∨ flS xs q ∈ ks := H.st (memS.mp (H.isF q h).mem)
theorem Acf.nks {WS xs ks : List Str} (H : Acf WS xs ks) : ks.Nodup := by
  rw [H.ks_eq]
  exact (H.perm.nodup_iff.mpr (states_all WS).1).filter _
theorem Acf.ks_len {WS xs ks : List Str} (H : Acf WS xs ks) (hw : WS.length ≤ 5) : ks.length ≤ 1000 := by
  have h1 := states_len WS fun q hq => (H.wz q hq).1
  have h2 := H.perm.length_eq
  have h3 := List.length_filter_le (fun q => decide (q ≠ Str.ofString "")) xs
  rw [H.ks_eq]
  omega
theorem Acf.ks_z {WS xs ks : List Str} (H : Acf WS xs ks) {q : Str} (h : q ∈ ks) : q.length ≤ 24 := ((states_facts WS H.wz).2.2 q (H.perm.mem_iff.mp (H.ks_mem.mp h).1)).1
theorem Acf.fl_lt {WS xs ks : List Str} (H : Acf WS xs ks) : ∀ q ∈ ks, (flS xs q).length < q.length := by
  intro q hq
  have := (H.isF q hq).lt
  rw [Array.length_toList, Array.length_toList] at this
  exact this
theorem Acf.tl {WS xs ks : List Str} (H : Acf WS xs ks) : ∀ q ∈ ks, tlX ks WS q = (if q ∈ WS then [q] else []) ++ tlX ks WS (flS xs q) := by
  intro q hq
  rw [tlX_state (fun z hz => (H.wz z hz).2) (.inr hq), tlX_state (fun z hz => (H.wz z hz).2) (H.fl_st hq)]
  exact ends_step H.perm (fun z hz => (H.wz z hz).2) (H.isF q hq)
theorem Acf.tz {WS xs ks : List Str} (H : Acf WS xs ks) : ∀ q, (tlX ks WS q).length ≤ 1000 := by
  intro q
  unfold tlX
  split
  · rename_i h
    have h1 := ends_len WS q.cps.toList
    have h2 := H.ks_z h
    rw [Array.length_toList] at h1
    exact Nat.le_trans h1 (Nat.le_trans h2 (by decide))
  · split <;> simp
theorem Acf.root {WS xs ks : List Str} (H : Acf WS xs ks) (hne : WS ≠ []) : Str.ofString "" ∈ namesA (flS xs) ks := by
  obtain ⟨x, r, rfl⟩ := List.exists_cons_of_ne_nil hne
  have hx := (H.wz x (.head _)).2
  have hxl : x.cps.toList.length = x.length := Array.length_toList
  obtain ⟨a, u, e⟩ : ∃ a u, x.cps.toList = a :: u := by
    cases q : x.cps.toList with
    | nil => rw [q] at hxl; simp at hxl; omega
    | cons a u => exact ⟨a, u, rfl⟩
  have hk : strOf [a] ∈ ks := by
    refine H.ks_mem.mpr ⟨H.perm.mem_iff.mpr (((states_all _).2.2 _).mpr (.inr ⟨x, .head _, prefs_mem.mpr ⟨?_, by simp [strOf]⟩⟩)), ?_⟩
    · rw [e]; exact ⟨u, rfl⟩
    · intro q
      have := congrArg (fun z : Str => z.cps.toList.length) q
      simp [strOf] at this
      exact absurd this (by decide)
  refine namesA_mem.mpr (.inr ⟨_, hk, ?_⟩)
  have h1 := H.fl_lt _ hk
  have h2 : (strOf [a]).length = 1 := rfl
  apply str_ext
  have h3 : (flS xs (strOf [a])).cps.toList.length = (flS xs (strOf [a])).length := Array.length_toList
  have h4 : (flS xs (strOf [a])).cps.toList = [] := List.eq_nil_of_length_eq_zero (by omega)
  rw [h4]; rfl
theorem cps_snoc (q : Str) (ch : Nat) : (q ++ (⟨#[ch]⟩ : Str)).cps.toList = q.cps.toList ++ [ch] := by simp [Str.cps_append]
section
variable {WS xs ks : List Str} {X : Str}
def AcI (xs : List Str) (X : Str) (i : Nat) (q : Str) : Prop := IsLS (SS xs) (X.cps.toList.take i) q.cps.toList
def AcW (xs : List Str) (X : Str) (i : Nat) (q : Str) : Prop := q.cps.toList ∈ SS xs ∧ ∀ a, X.cps[i]? = some a → IsW (SS xs) (X.cps.toList.take i) a q.cps.toList
theorem Acf.snoc_mem (H : Acf WS xs ks) (q : Str) (ch : Nat) : q.cps.toList ++ [ch] ∈ SS xs ↔ q ++ (⟨#[ch]⟩ : Str) ∈ ks := by
  rw [← cps_snoc, memS, H.ks_mem]
  refine ⟨fun h => ⟨h, fun e => ?_⟩, fun h => h.1⟩
  have := congrArg (fun z : Str => z.cps.toList.length) e
  simp only [cps_snoc] at this
  simp at this
  have e0 : (Str.ofString "").cps.size = 0 := rfl
  omega
theorem take_at (X : Str) {i ch : Nat} (h : X.cps[i]? = some ch) : X.cps.toList.take (i + 1) = X.cps.toList.take i ++ [ch] := by
  rw [List.take_add_one, Array.getElem?_toList, h]; rfl
theorem Acf.i0 (H : Acf WS xs ks) : AcI xs X 0 (Str.ofString "") := by
  unfold AcI
  rw [List.take_zero]
  exact IsLS.nil (nilS H.perm)
theorem Acf.iw (H : Acf WS xs ks) : ∀ i q, AcI xs X i q → AcW xs X i q := fun i q h => ⟨h.mem, fun a _ => h.w a⟩
theorem Acf.wm (H : Acf WS xs ks) : ∀ i q, AcW xs X i q → q = Str.ofString "" ∨ q ∈ ks := fun i q h => H.st (memS.mp h.1)
theorem Acf.wf (H : Acf WS xs ks) : ∀ i ch q, X.cps[i]? = some ch → AcW xs X i q → q ≠ Str.ofString "" → q ++ (⟨#[ch]⟩ : Str) ∉ ks → AcW xs X i (flS xs q) := by
  intro i ch q hch h hne hn
  have hk : q ∈ ks := (H.wm i q h).resolve_left hne
  refine ⟨(H.isF q hk).mem, fun a ha => ?_⟩
  rw [hch] at ha; cases ha
  exact (h.2 _ hch).fail (fun z => hn ((H.snoc_mem q ch).mp z)) (H.isF q hk)
theorem Acf.wg (H : Acf WS xs ks) : ∀ i ch q, X.cps[i]? = some ch → AcW xs X i q → q ++ (⟨#[ch]⟩ : Str) ∈ ks → AcI xs X (i + 1) (q ++ (⟨#[ch]⟩ : Str)) := by
  intro i ch q hch h hk
  unfold AcI
  rw [take_at X hch, cps_snoc]
  exact (h.2 _ hch).go (pcS H.perm) ((H.snoc_mem q ch).mpr hk)
theorem Acf.w0 (H : Acf WS xs ks) : ∀ i ch, X.cps[i]? = some ch → AcW xs X i (Str.ofString "") → Str.ofString "" ++ (⟨#[ch]⟩ : Str) ∉ ks → AcI xs X (i + 1) (Str.ofString "") := by
  intro i ch hch h hn
  unfold AcI
  rw [take_at X hch]
  refine IsW.stop (pcS H.perm) (h.2 _ hch) fun z => hn ((H.snoc_mem (Str.ofString "") ch).mp z)
end

-- part LW
theorem keep_fn (w : World) (k : Nat) (hk : k < 5) : keepIn (Mine.hd.heap_39 w.params) (.ref (fnK k)) = true := by
  match k, hk with
  | 0, _ => (show keepIn (Mine.hd.heap_39 w.params) (.ref 211) = true); k_is
  | 1, _ => (show keepIn (Mine.hd.heap_39 w.params) (.ref 218) = true); k_is
  | 2, _ => (show keepIn (Mine.hd.heap_39 w.params) (.ref 225) = true); k_is
  | 3, _ => (show keepIn (Mine.hd.heap_39 w.params) (.ref 232) = true); k_is
  | 4, _ => (show keepIn (Mine.hd.heap_39 w.params) (.ref 239) = true); k_is
theorem law_holds : PySem.Challenge.rw_oh0084_01.Holds := Mine.hd (by
  (k_go0; (all_goals try k_fold))
  rename World => w
  rename_i s₀ s₁ mg mb zG zY fa zo zpm cd zdoc zho zhcd hg zX zV zT zB zTE zTW nns zhs zl0 zhL1 zhr1 zhl2 zas1 zas2 la vs zas3 zhL zra zw1 zr0 hI zhr hlen ztr zD h₁ tk₁ o7 o6 o5 o4 o3 o2 o1 d7 d6 d5 d4 d3 d2 d1 X0 X T Kb F N l0
  have C : CodeHd (ghostOf s₁.heap [(262, 260)]) 262 260 := codeHd
  have hlen63 : nns.length ≤ 63 := by omega
  have nd : ((([(s₁.heap.objs.size + 1 + 1 + 1 + 1 + 1 + 1 + 1, o7), (s₁.heap.objs.size + 1 + 1 + 1 + 1 + 1 + 1, o6), (s₁.heap.objs.size + 1 + 1 + 1 + 1 + 1, o5), (s₁.heap.objs.size + 1 + 1 + 1 + 1, o4), (s₁.heap.objs.size + 1 + 1 + 1, o3), (s₁.heap.objs.size + 1 + 1, o2), (s₁.heap.objs.size + 1, o1), (260, tabObj #[])] : List (Addr × Obj))).map (·.1)).Nodup := by
    simp
    omega
  have D := led_start (gens := s₁.gens) (drawn := s₁.drawn) (os := s₁.os) F N nd
  have G := glo_start X T
  have HL := lam_start T C
  have h260 : (ghostOf s₁.heap [(262, 260)]).get? 260 = none := by
    cases q : (ghostOf s₁.heap [(262, 260)]).get? 260 with
    | none => rfl
    | some o => exact absurd q (by rw [(N (260, tabObj #[]) (by simp)).2.2]; simp)
  clear C zG zY zho zhcd zX zV zT zB zTE zTW zhs zl0 zhL1 zhr1 zhl2 zhL zra zw1 zr0 zhr hlen ztr zD X0 X T Kb F N codeHd nd
  clear hT8 hT9
  generalize ghostOf s₁.heap [(262, 260)] = h₀ at *
  generalize s₁.heap.objs.size = L at *
  generalize hcx : (Cx.mk h₀ s₁.gens s₁.drawn s₁.os) = c at D
  have e0 : h₀ = c.h0 := by rw [← hcx]
  have hR : Rest c { heap := h₁, gens := s₁.gens, drawn := s₁.drawn, toks := tk₁, os := s₁.os } := by rw [← hcx]; exact ⟨rfl, rfl, rfl⟩
  have hcg : c.gens = s₁.gens := by rw [← hcx]
  have hco : c.os = s₁.os := by rw [← hcx]
  clear hcx
  subst e0
  have d7 : o7.data = .cell none := d7
  have d6 : o6.data = .cell none := d6
  have d5 : o5.data = .cell none := d5
  have d4 : o4.data = .cell none := d4
  have d3 : o3.data = .cell none := d3
  have d2 : o2.data = .cell none := d2
  have d1 : o1.data = .cell none := d1
  dsimp only at D ⊢
  have D : Led c c.h0.get? L h₁ (fun y => if y = Str.ofString "script" then some (.ref la) else none) _ := D
  generalize PySem.Challenge.rw_oh0084_01.row.prog = prog
  refine law_enter (P := fun fl s' => fl = .ret (.bool true) ∧ Rest c s' ∧ Keep c.h0 s'.heap ∧ ∃ ps, s'.heap.get? 260 = some (tabObj ps)) ?_ ?_
  · intro A hfr hA
    have hlaL : ∀ {h : Heap}, Keep c.h0 h → h.IsList la vs.toArray := fun hk => let ⟨o, e, r⟩ := lifted; ⟨o, hk _ _ e, r⟩
    clear hcg hco
    wtm_at "go"
    obtain ⟨xi, hxi⟩ : ∃ xi, xi = ([2, 14, 18] : List Int) ++ nns.take 2 := ⟨_, rfl⟩
    have hxil : xi.length ≤ 5 := by rw [hxi]; simp; omega
    let Post1 : Shared → Prop := fun s' => ∃ (m : Str → Option Value) (wl : Addr) (owl : Obj) (pw : List (Str × Tok)), Led c c.h0.get? L s'.heap m ((wl, owl) :: [(L + 1 + 1 + 1 + 1 + 1 + 1 + 1, o7), (L + 1 + 1 + 1 + 1 + 1 + 1, o6), (L + 1 + 1 + 1 + 1 + 1, o5), (L + 1 + 1 + 1 + 1, o4), (L + 1 + 1 + 1, o3), (L + 1 + 1, o2), (L + 1, o1), (260, tabObj #[])]) ∧ Rest c s' ∧ m (Str.ofString "script") = some (.ref la) ∧ m (Str.ofString "words") = some (.ref wl) ∧ IsLst owl (strVs pw) ∧ pw.map (·.1) = xi.map pieceI
    refine exec_cut Post1 ?_ ?_
    · --P1
      refine comp_assign (cl := []) rfl rfl rfl (by decide) ?_
      wtm_at "gos"
      with_reducible refine new_list D ?y6 ?_
      case y6 => simp [sizeLine]
      clear D
      intro l1 h₂ ol1 hl1 D hol1
      try dsimp only
      wtm_at "gos"
      try dsimp only
      have hil : vs.length = nns.length := hI.length
      refine tail_of_item ?_ (by with_unfolding_all rfl) (by intro _; with_unfolding_all rfl)
      refine slice_lstH D (hlaL D.kb) .none (.int _ _) (by rw [sizeLine_eq]; omega) ?_
      clear D
      intro sl h₃ osl hlsl hks D hosl
      have hi2 := slice_ints_uptoW hI (y := 2) (by decide)
      obtain ⟨vs0, hol1', hint⟩ : ∃ vs0, IsLst ol1 vs0 ∧ IntsAre vs0 [2, 14, 18] := ⟨_, ⟨0, hol1⟩, .cons _ _ (.cons _ _ (.cons _ _ .nil))⟩
      have hi3 : IntsAre (vs0 ++ (slicePick vs.toArray none (some 2) none).toList) xi := by rw [hxi]; exact hint.append hi2
      have hi4 := hi3.length
      try dsimp only
      wtm_at "gos"
      refine add_lst (by exact D) (D.get (.tail _ (.head _))) hol1' (D.get (.head _)) hosl ?_ ?_
      · have := hi3.length
        rw [List.length_append] at this
        rw [this, sizeLine_eq]
        omega
      clear D
      intro l2 h₄ ol2 hl2 D hol2
      try dsimp only
      refine itr_list (by exact D) (D.get (.head _)) hol2 ?_
      clear D
      intro I h₅ oI hLI D hit
      have D := D.sub (news' := (I, oI) :: (l2, ol2) :: [(L + 1 + 1 + 1 + 1 + 1 + 1 + 1, o7), (L + 1 + 1 + 1 + 1 + 1 + 1, o6), (L + 1 + 1 + 1 + 1 + 1, o5), (L + 1 + 1 + 1 + 1, o4), (L + 1 + 1 + 1, o3), (L + 1 + 1, o2), (L + 1, o1), (260, tabObj #[])]) (.cons₂ _ (.cons₂ _ (.cons _ (.cons _ (List.Sublist.refl _)))))
      try dsimp only
      let Post2 : Nat → List Value → List (Addr × Obj) → Prop := fun i ys news => ∃ pw : List (Str × Tok), ys = strVs pw ∧ pw.map (·.1) = (xi.take i).map pieceI ∧ news = (l2, ol2) :: [(L + 1 + 1 + 1 + 1 + 1 + 1 + 1, o7), (L + 1 + 1 + 1 + 1 + 1 + 1, o6), (L + 1 + 1 + 1 + 1 + 1, o5), (L + 1 + 1 + 1 + 1, o4), (L + 1 + 1 + 1, o3), (L + 1 + 1, o2), (L + 1, o1), (260, tabObj #[])]
      refine comp_it hA.handled hit Post2 ⟨[], rfl, rfl, rfl⟩ D (by exact hR) ?_ (by decide) rfl rfl ?_ ?_ ?_
      · rw [hi4]; omega
      · rintro i ys news hxp
        refine e1_3 hxp ?_
        clear hxp
        rintro _ _ _ hnb b hb hbI
        rw [hnb]
        have hbo : b = l2 := by simpa [hbI] using hb
        rw [hbo]
        exact ⟨_, D.get (.tail _ (.head _)), .inr (.head _)⟩
      · clear D hR hit
        rintro C Dl i v m₁ ys news₁ oD oI oL s₂ hi hv hxp
        refine e1_3 hxp ?_
        clear hxp
        rintro pw rfl hpw rfl hm D hD hNs hR
        refine e2_2 (ints_at hi3 hv) ?_
        rintro z tz hz rfl
        refine tests_nil ?_
        rw [if_pos rfl]
        wtm_at "gos"
        refine piece_spec (c := c) G (by exact D.kb) (by exact hR) (hA.mono (by decide)) ?_
        intro t s₃ hR hk3
        have D := D.after hk3
        refine ⟨_, _, D, hR, pw ++ [(pieceI z, t)], by simp [strVs], ?_, rfl⟩
        rw [List.map_append, hpw, List.take_add_one, hz, List.map_append]
        rfl
      · clear D hR hit
        rintro wl C oC owl ys news' s₂ mC hxp
        refine e1_3 hxp ?_
        clear hxp
        rintro pw rfl hpw rfl D hC howl hl hLw hR
        rw [List.take_of_length_le (by rw [← hi4]; exact Nat.le_refl _)] at hpw
        refine comp_fin_l D hC ?_
        clear D hC
        intro h₆ D
        try dsimp only
        wtm_at "go"
        exact ⟨rfl, _, wl, owl, pw, D.sub (.cons₂ _ (.cons _ (List.Sublist.refl _))), hR, rfl, rfl, howl, hpw⟩
    · clear D hR
      rintro s₂ hxp
      refine e4_6 hxp ?_
      clear hxp
      rintro m wl owl pw D hR e1 e2 howl hpw
      with_reducible refine wpAny_execs_cons ?_
      let Post3 : Shared → Prop := fun s' => ∃ (m : Str → Option Value) (tx : Str) (tt : Tok), Led c c.h0.get? L s'.heap m ((wl, owl) :: [(L + 1 + 1 + 1 + 1 + 1 + 1 + 1, o7), (L + 1 + 1 + 1 + 1 + 1 + 1, o6), (L + 1 + 1 + 1 + 1 + 1, o5), (L + 1 + 1 + 1 + 1, o4), (L + 1 + 1 + 1, o3), (L + 1 + 1, o2), (L + 1, o1), (260, tabObj #[])]) ∧ Rest c s' ∧ m (Str.ofString "script") = some (.ref la) ∧ m (Str.ofString "words") = some (.ref wl) ∧ m (Str.ofString "text") = some (.str tx tt) ∧ tx.length ≤ 400
      refine exec_cut Post3 ?_ ?_
      · --P2
        wtm_at "gos"
        refine str_meth PySem.F.slot_str_join PySem.F.type_str_join ?_
        try dsimp only
        wtm_at "gos"
        refine comp_eval (cl := []) rfl rfl (by decide) ?_
        wtm_at "gos"
        with_reducible refine new_list D ?y6 ?_
        case y6 => simp [sizeLine]
        clear D
        intro l1 h₂ ol1 hl1 D hol1
        try dsimp only
        wtm_at "gos"
        try dsimp only
        have hil : vs.length = nns.length := hI.length
        refine tail_of_item ?_ (by with_unfolding_all rfl) (by intro _; with_unfolding_all rfl)
        refine slice_lstH D (hlaL D.kb) (.int _ _) (.int _ _) (by rw [sizeLine_eq]; omega) ?_
        clear D
        intro sl h₃ osl hlsl hks D hosl
        have hi2 := hI.pick (some 2) (some 5) none
        have hpl := length_pickNums_le hI (some 2) (some 5) none
        obtain ⟨vs0, hol1', hint⟩ : ∃ vs0, IsLst ol1 vs0 ∧ IntsAre vs0 [0, 2, 14, 20] := ⟨_, ⟨0, hol1⟩, .cons _ _ (.cons _ _ (.cons _ _ (.cons _ _ .nil)))⟩
        have hi3 := hint.append hi2
        have hi4 := hi3.length
        obtain ⟨xt, hxt⟩ : ∃ xt, xt = [0, 2, 14, 20] ++ pickNums nns (some 2) (some 5) none := ⟨_, rfl⟩
        rw [← hxt] at hi3 hi4
        have hxtl : xt.length ≤ 67 := by rw [hxt, List.length_append]; simp; omega
        try dsimp only
        wtm_at "gos"
        refine add_lst (by exact D) (D.get (.tail _ (.head _))) hol1' (D.get (.head _)) hosl ?_ ?_
        · rw [← List.length_append, hi4, sizeLine_eq]
          omega
        clear D
        intro l2 h₄ ol2 hl2 D hol2
        try dsimp only
        refine itr_list (by exact D) (D.get (.head _)) hol2 ?_
        clear D
        intro I h₅ oI hLI D hit
        have D := D.sub (news' := (I, oI) :: (l2, ol2) :: (wl, owl) :: [(L + 1 + 1 + 1 + 1 + 1 + 1 + 1, o7), (L + 1 + 1 + 1 + 1 + 1 + 1, o6), (L + 1 + 1 + 1 + 1 + 1, o5), (L + 1 + 1 + 1 + 1, o4), (L + 1 + 1 + 1, o3), (L + 1 + 1, o2), (L + 1, o1), (260, tabObj #[])]) (.cons₂ _ (.cons₂ _ (.cons _ (.cons _ (List.Sublist.refl _)))))
        try dsimp only
        let Post4 : Nat → List Value → List (Addr × Obj) → Prop := fun i ys news => ∃ pw : List (Str × Tok), ys = strVs pw ∧ pw.map (·.1) = (xt.take i).map pieceI ∧ news = (l2, ol2) :: (wl, owl) :: [(L + 1 + 1 + 1 + 1 + 1 + 1 + 1, o7), (L + 1 + 1 + 1 + 1 + 1 + 1, o6), (L + 1 + 1 + 1 + 1 + 1, o5), (L + 1 + 1 + 1 + 1, o4), (L + 1 + 1 + 1, o3), (L + 1 + 1, o2), (L + 1, o1), (260, tabObj #[])]
        refine comp_it hA.handled hit Post4 ⟨[], rfl, rfl, rfl⟩ D (by exact hR) ?_ (by decide) rfl rfl ?_ ?_ ?_
        · rw [hi4]; omega
        · rintro i ys news hxp
          refine e1_3 hxp ?_
          clear hxp
          rintro _ _ _ hnb b hb hbI
          rw [hnb]
          have hbo : b = l2 := by simpa [hbI] using hb
          rw [hbo]
          exact ⟨_, D.get (.tail _ (.head _)), .inr (.head _)⟩
        · clear D hR hit
          rintro C Dl i v m₁ ys news₁ oD oI oL s₂ hi hv hxp
          refine e1_3 hxp ?_
          clear hxp
          rintro pt rfl hpt rfl hm D hD hNs hR
          refine e2_2 (ints_at hi3 hv) ?_
          rintro z tz hz rfl
          refine tests_nil ?_
          rw [if_pos rfl]
          wtm_at "gos"
          refine piece_spec (c := c) G (by exact D.kb) (by exact hR) (hA.mono (by decide)) ?_
          intro t s₃ hR hk3
          have D := D.after hk3
          refine ⟨_, _, D, hR, pt ++ [(pieceI z, t)], by simp [strVs], ?_, rfl⟩
          rw [List.map_append, hpt, List.take_add_one, hz, List.map_append]
          rfl
        · clear D hR hit
          rintro tl C oC otl ys news' s₂ mC hxp
          refine e1_3 hxp ?_
          clear hxp
          rintro pt rfl hpt rfl D hC hotl hl hLw hR
          rw [List.take_of_length_le (by rw [← hi4]; exact Nat.le_refl _)] at hpt
          refine comp_fin D hC ?_
          clear D hC
          intro h₆ D
          try dsimp only
          wtm_at "gos"
          have hys : StrsAre (strVs pt).toArray.toList (pt.map (·.1)) := by
            rw [List.toList_toArray]
            exact strsAre_vs pt
          have hsum := sum_len4 xt
          have hptl : pt.length = xt.length := by simpa using congrArg List.length hpt
          rw [← hpt] at hsum
          refine join_listW (IsLst.isList (D.get (.head _)) hotl) hys (by decide) ?_ ?_
          · simp at hsum ⊢
            omega
          · intro t' k
            wtm_at "gos"
            rename Led _ _ _ _ _ _ => D
            refine ⟨rfl, _, _, _, D.sub (.cons _ (.cons _ (List.Sublist.refl _))), hR, e1, e2, rfl, ?_⟩
            rw [join_len]
            omega
      · clear D hR
        rintro s₂ hxp
        refine e3_6 hxp ?_
        clear hxp
        rintro m tx tt D hR e1 e2 e3 htx
        with_reducible refine wpAny_execs_cons ?_
        let Post5 : Shared → Prop := fun s' => ∃ (m : Str → Option Value) (k : Nat) (dr : Addr) (odr : Obj) (kvr : List (Str × Value)) (o1 o2 : Obj), Led c c.h0.get? L s'.heap m ((wl, owl) :: ([(L + 1 + 1 + 1 + 1 + 1 + 1 + 1, o7), (L + 1 + 1 + 1 + 1 + 1 + 1, o6), (L + 1 + 1 + 1 + 1 + 1, o5), (L + 1 + 1 + 1 + 1, o4), (L + 1 + 1 + 1, o3), (L + 1 + 1, o2), (L + 1, o1), (260, tabObj #[])] ++ [(dr, odr)])) ∧ Rest c s' ∧ m (Str.ofString "script") = some (.ref la) ∧ m (Str.ofString "words") = some (.ref wl) ∧ m (Str.ofString "text") = some (.str tx tt) ∧
          k < 5 ∧ odr.IsDictOf (strKind prog w) kvr ∧ 2 < dr ∧ (∀ ch : Nat, ∃ t, valueAt kvr ⟨#[ch]⟩ = ((escK k).lookup ch).map fun z => .str (strOf z) t) ∧ o1.data = .cell (some (.ref (fnK k))) ∧ o2.data = .cell (some (.ref dr))
        refine exec_cut Post5 ?_ ?_
        · --P3
          refine Assign_Tuple ?_
          wtm_at "gos"
          refine callWith_K0 (K := Mine.hd.heap_39 w.params) (Frag.In.keeps G.k D.kb) (by k_is) ?_
          refine hands_spec (c := c) G (by exact D.kb) (by exact hR) (hA.mono (by decide)) ?_
          intro hl ohl hvs s₃ hR hk3 hhl hhg hhlst hhands
          have D0 := D
          have D := Led.snocNew D0 (D0.after hk3) rfl hhl hhg
          try dsimp only
          wtm_at "gos"
          try dsimp only
          refine tail_of_item ?_ (by with_unfolding_all rfl) (by intro _; with_unfolding_all rfl)
          refine slice_lstH D (hlaL D.kb) .none (.int _ _) (by have hil : vs.length = nns.length := hI.length; rw [sizeLine_eq]; omega) ?_
          have Dh := D
          clear D
          intro sl h₃ osl hlsl hks D hosl
          have hi2 := slice_ints_uptoW hI (y := 5) (by decide)
          try dsimp only
          wtm_at "gos"
          refine sum_led (by exact D) hA.handled (IsLst.isList (D.get (.head _)) hosl) (by simpa using hi2) ?_
          clear D
          intro z h₄ tk4 t4 hk4 D
          try dsimp only
          wtm_at "gos"
          refine mod_int' (by decide) ?_
          have k0 : 0 ≤ Int.fmod z 5 := Int.fmod_nonneg_of_pos _ (by decide)
          have k1 : Int.fmod z 5 < 5 := Int.fmod_lt_of_pos _ (by decide)
          obtain ⟨k, hkz⟩ := Int.eq_ofNat_of_zero_le k0
          rw [hkz] at k1 ⊢
          have hk5 : k < 5 := by omega
          obtain ⟨v, hv, t, dr, ot, odr, kvr, rfl, htg, htl, hdg, hdd, h2dr, ⟨hdn, htn⟩, hkv⟩ := hhands k hk5
          have hgl := D.get (.tail _ (List.mem_append_right _ (.head _)))
          refine sub_listN (k := k) hgl hhlst (by omega) hv ?_
          refine assign_tuple_led (by exact D) hA.handled (hk4 _ _ (hks _ _ htg)) htl rfl rfl ?_
          clear hgl
          intro h₅ hk5' D
          have D1 := Led.snocNew2 D0 (D.sub (news' := (wl, owl) :: [(L + 1 + 1 + 1 + 1 + 1 + 1 + 1, o7), (L + 1 + 1 + 1 + 1 + 1 + 1, o6), (L + 1 + 1 + 1 + 1 + 1, o5), (L + 1 + 1 + 1 + 1, o4), (L + 1 + 1 + 1, o3), (L + 1 + 1, o2), (L + 1, o1), (260, tabObj #[])]) (.cons _ (List.sublist_append_left _ _))) (fun p hp => .inl hp) hdn (hk5' _ _ (hk4 _ _ (hks _ _ hdg)))
          clear D
          refine assignInOrder_cons ?_
          refine wpAny_assign_Name ?_
          refine st_cU (by exact D1) rfl (fun o' => Up.app (.tail (.tail (.tail (.tail (.tail (.tail (.tail .head))))))) [(dr, odr)]) d1 ?_
          clear D1
          intro h₆ o1' do1 D
          try dsimp only at D ⊢
          refine assignInOrder_cons ?_
          refine wpAny_assign_Name ?_
          refine st_cU (by exact D) rfl (fun o' => Up.app (.tail (.tail (.tail (.tail (.tail (.tail .head)))))) [(dr, odr)]) d2 ?_
          clear D
          intro h₇ o2' do2 D
          try dsimp only at D ⊢
          refine assignInOrder_nil ?_
          exact ⟨rfl, _, k, dr, odr, kvr, o1', o2', D, hR, e1, e2, e3, hk5, hdd, h2dr, hkv, do1, do2⟩
        · clear D hR e1 e2 e3 d1 d2
          rintro s₂ hxp
          refine e7_11 hxp ?_
          clear hxp
          rintro m k dr odr kvr o1 o2 D hR e1 e2 e3 hk5 hdd h2dr hkv d1 d2
          with_reducible refine wpAny_execs_cons ?_
          have m1 : (L + 1, o1) ∈ [(L + 1 + 1 + 1 + 1 + 1 + 1 + 1, o7), (L + 1 + 1 + 1 + 1 + 1 + 1, o6), (L + 1 + 1 + 1 + 1 + 1, o5), (L + 1 + 1 + 1 + 1, o4), (L + 1 + 1 + 1, o3), (L + 1 + 1, o2), (L + 1, o1), (260, tabObj #[]), (dr, odr)] := .tail _ (.tail _ (.tail _ (.tail _ (.tail _ (.tail _ (.head _))))))
          have hpwl : pw.length = xi.length := by simpa using congrArg List.length hpw
          have hpwz : ∀ p ∈ pw, p.1.length ≤ 4 ∧ 0 < p.1.length := fun p hp => by
            have : p.1 ∈ xi.map pieceI := by rw [← hpw]; exact List.mem_map_of_mem hp
            refine e1_2 (List.mem_map.mp this) ?_
            rintro z _ e
            rw [← e]; exact piece_len z
          let Post6 : Shared → Prop := fun s' => ∃ (m : Str → Option Value) (rl : Addr) (orl : Obj) (pr : List (Str × Tok)), Led c c.h0.get? L s'.heap m ((rl, orl) :: (wl, owl) :: [(L + 1 + 1 + 1 + 1 + 1 + 1 + 1, o7), (L + 1 + 1 + 1 + 1 + 1 + 1, o6), (L + 1 + 1 + 1 + 1 + 1, o5), (L + 1 + 1 + 1 + 1, o4), (L + 1 + 1 + 1, o3), (L + 1 + 1, o2), (L + 1, o1), (260, tabObj #[]), (dr, odr)]) ∧ Rest c s' ∧ m (Str.ofString "words") = some (.ref wl) ∧ m (Str.ofString "text") = some (.str tx tt) ∧ m (Str.ofString "written") = some (.ref rl) ∧
            IsLst orl (strVs pr) ∧ pr.map (·.1) = pw.map fun p => wrote k p.1
          refine exec_cut Post6 ?_ ?_
          · --P4
            refine comp_assign (cl := [(Str.ofString "write", L + 1)]) rfl rfl rfl (by decide) ?_
            wtm_at "gos"
            refine itr_list (by exact D) (D.get (.head _)) howl ?_
            clear D
            intro I h₅ oI hLI D hit
            try dsimp only
            let Post7 : Nat → List Value → List (Addr × Obj) → Prop := fun i ys news => ∃ pr : List (Str × Tok), ys = strVs pr ∧ pr.map (·.1) = (pw.take i).map (fun p => wrote k p.1) ∧ news = (wl, owl) :: [(L + 1 + 1 + 1 + 1 + 1 + 1 + 1, o7), (L + 1 + 1 + 1 + 1 + 1 + 1, o6), (L + 1 + 1 + 1 + 1 + 1, o5), (L + 1 + 1 + 1 + 1, o4), (L + 1 + 1 + 1, o3), (L + 1 + 1, o2), (L + 1, o1), (260, tabObj #[]), (dr, odr)]
            refine comp_it hA.handled hit Post7 ⟨[], rfl, rfl, rfl⟩ D (by exact hR) (by simp [strVs]; omega) (by decide) rfl rfl ?_ ?_ ?_
            · rintro i ys news hxp
              refine e1_3 hxp ?_
              clear hxp
              rintro _ _ _ hnb b hb hbI
              rw [hnb]
              have hbo : b = wl := by simpa [hbI] using hb
              rw [hbo]
              exact ⟨_, D.get (.tail _ (.head _)), .inr (.head _)⟩
            · clear D hR hit
              rintro C Dl i v m₁ ys news₁ oD oI oL s₂ hi hv hxp
              refine e1_3 hxp ?_
              clear hxp
              rintro pr rfl hpr rfl hm D hD hNs hR
              refine e1_2 (strs_at hv) ?_
              rintro ⟨x, t⟩ hx rfl
              have hxz := hpwz _ (List.mem_of_getElem? hx)
              refine tests_nil ?_
              rw [if_pos rfl]
              wtm_at "gos"
              refine nm_c (by exact D) rfl (.tail _ (.tail _ (.tail _ (.tail _ m1)))) d1 ?_
              refine callWith_K (K := Mine.hd.heap_39 w.params) (Frag.In.keeps G.k D.kb) (keep_fn w k hk5) ?_ (by with_unfolding_all rfl) (by with_unfolding_all rfl)
              wtm_at "gos"
              refine write_spec (c := c) k hk5 G (by exact D.kb) (by exact hR) (hA.mono (by decide)) (by have := hxz.1; rw [Array.length_toList]; exact Nat.le_trans this (by decide)) ?_
              intro t' s₃ hR hk3
              have D := D.after hk3
              refine ⟨_, _, D, hR, pr ++ [(wrote k x, t')], by simp [strVs, wrote], ?_, rfl⟩
              rw [List.map_append, hpr, List.take_add_one, hx, List.map_append]
              rfl
            · clear D hR hit
              rintro rl C oC orl ys news' s₂ mC hxp
              refine e1_3 hxp ?_
              clear hxp
              rintro pr rfl hpr rfl D hC horl hl hLw hR
              rw [List.take_of_length_le (by simp [strVs])] at hpr
              refine comp_fin_l D hC ?_
              clear D hC
              intro h₆ D
              try dsimp only
              wtm_at "go"
              exact ⟨rfl, _, rl, orl, pr, D, hR, e2, e3, rfl, horl, hpr⟩
          · clear D hR e1 e2 e3
            rintro s₂ hxp
            refine e4_7 hxp ?_
            clear hxp
            rintro m rl orl pr D hR e2 e3 e4 horl hpr
            with_reducible refine wpAny_execs_cons ?_
            have hprz : ∀ p ∈ pr, p.1.length ≤ 24 ∧ 0 < p.1.length := fun p hp => by
              have : p.1 ∈ pw.map fun p => wrote k p.1 := by rw [← hpr]; exact List.mem_map_of_mem hp
              refine e1_2 (List.mem_map.mp this) ?_
              rintro q hq e
              rw [← e]
              exact wrote_len k (hpwz q hq)
            have hprl : pr.length = pw.length := by simpa using congrArg List.length hpr
            let Post8 : Shared → Prop := fun s' => ∃ (m : Str → Option Value) (sl : Addr) (osl : Obj) (pst : List (Str × Tok)) (o4 : Obj), Led c c.h0.get? L s'.heap m ((sl, osl) :: (rl, orl) :: (wl, owl) :: [(L + 1 + 1 + 1 + 1 + 1 + 1 + 1, o7), (L + 1 + 1 + 1 + 1 + 1 + 1, o6), (L + 1 + 1 + 1 + 1 + 1, o5), (L + 1 + 1 + 1 + 1, o4), (L + 1 + 1 + 1, o3), (L + 1 + 1, o2), (L + 1, o1), (260, tabObj #[]), (dr, odr)]) ∧ Rest c s' ∧ m (Str.ofString "words") = some (.ref wl) ∧ m (Str.ofString "text") = some (.str tx tt) ∧ m (Str.ofString "written") = some (.ref rl) ∧
              o4.data = .cell (some (.ref sl)) ∧ IsLst osl (strVs pst) ∧ pst.map (·.1) = [Str.ofString ""]
            refine exec_cut Post8 ?_ ?_
            · --P5
              wtm_at "gos"
              with_reducible refine new_list D ?y6 ?_
              case y6 => simp [sizeLine]
              clear D
              intro sl h₂ osl hlsl D hosl
              try dsimp only
              refine st_cU (by exact D) rfl (fun o' => .tail (.tail (.tail (.tail (.tail (.tail .head)))))) d4 ?_
              clear D
              intro h₃ o4 d4 D
              try dsimp only at D ⊢
              wtm_at "gos"
              exact ⟨rfl, _, sl, osl, [(Str.ofString "", _)], o4, D, hR, e2, e3, e4, d4, ⟨0, hosl⟩, rfl⟩
            · clear D hR e2 e3 e4 d4
              rintro s₂ hxp
              refine e5_8 hxp ?_
              clear hxp
              rintro m sl osl pst o4 D hR e2 e3 e4 d4 hosl hpst
              with_reducible refine wpAny_execs_cons ?_
              let Post9 : Shared → Prop := fun s' => ∃ (m : Str → Option Value) (sl : Addr) (osl : Obj) (pst : List (Str × Tok)) (o3 o4 : Obj), Led c c.h0.get? L s'.heap m ((sl, osl) :: (rl, orl) :: (wl, owl) :: [(L + 1 + 1 + 1 + 1 + 1 + 1 + 1, o7), (L + 1 + 1 + 1 + 1 + 1 + 1, o6), (L + 1 + 1 + 1 + 1 + 1, o5), (L + 1 + 1 + 1 + 1, o4), (L + 1 + 1 + 1, o3), (L + 1 + 1, o2), (L + 1, o1), (260, tabObj #[]), (dr, odr)]) ∧ Rest c s' ∧ m (Str.ofString "words") = some (.ref wl) ∧ m (Str.ofString "text") = some (.str tx tt) ∧ m (Str.ofString "written") = some (.ref rl) ∧
                o4.data = .cell (some (.ref sl)) ∧ IsLst osl (strVs pst) ∧ pst.map (·.1) = statesOf (pr.map (·.1))
              refine exec_cut Post9 ?_ ?_
              · --P6
                refine wpAny_For ?_ ?_
                rotate_left
                · intro _; rfl
                wtm_at "gos"
                refine itr_list (by exact D) (D.get (.tail _ (.head _))) horl ?_
                clear D
                intro It h₂ oI hLI D hit
                try dsimp only
                let Post10 : Nat → (Str → Option Value) → List (Addr × Obj) → Prop := fun i m news => ∃ (sl : Addr) (osl : Obj) (pst : List (Str × Tok)) (o3 o4 : Obj), news = (sl, osl) :: (rl, orl) :: (wl, owl) :: [(L + 1 + 1 + 1 + 1 + 1 + 1 + 1, o7), (L + 1 + 1 + 1 + 1 + 1 + 1, o6), (L + 1 + 1 + 1 + 1 + 1, o5), (L + 1 + 1 + 1 + 1, o4), (L + 1 + 1 + 1, o3), (L + 1 + 1, o2), (L + 1, o1), (260, tabObj #[]), (dr, odr)] ∧ m (Str.ofString "words") = some (.ref wl) ∧ m (Str.ofString "text") = some (.str tx tt) ∧ m (Str.ofString "written") = some (.ref rl) ∧
                  (∃ v, o3.data = .cell v) ∧ o4.data = .cell (some (.ref sl)) ∧ IsLst osl (strVs pst) ∧ pst.map (·.1) = statesOf ((pr.map (·.1)).take i) ∧ pst.length ≤ 1 + 24 * i
                refine for_it hA.handled hit Post10 D
                  (by exact ⟨sl, osl, pst, o3, o4, rfl, e2, e3, e4, ⟨_, d3⟩, d4, hosl, hpst, by rw [show pst.length = (pst.map (·.1)).length by simp, hpst]; simp⟩) (by exact hR) ?_ ?_ ?_
                · rintro i m' news hxp
                  refine e5_2 hxp ?_
                  clear hxp
                  rintro sl osl pst o3 o4 hnb _ b hb hbI
                  rw [hnb]
                  have hbo : b = rl := by simpa [hbI] using hb
                  rw [hbo]
                  exact ⟨_, D.get (.tail _ (.tail _ (.head _))), .inr (.tail _ (.head _))⟩
                · clear D hR hit hosl hpst d4 d3 e2 e3 e4
                  rintro i v m₁ news₁ oI s₁ hi hv hxp
                  refine e5_9 hxp ?_
                  clear hxp
                  rintro sl osl pst o3 o4 rfl e2 e3 e4 ⟨v3, d3⟩ d4 hosl hpst hpl D hR
                  refine e1_2 (strs_at hv) ?_
                  rintro ⟨x, t⟩ hx rfl
                  have hxz : x.length ≤ 24 ∧ 0 < x.length := hprz _ (List.mem_of_getElem? hx)
                  refine wpAny_assign_Name ?_
                  refine st_cU (by exact D) rfl (fun o' => .tail (.tail (.tail (.tail (.tail (.tail (.tail (.tail .head)))))))) d3 ?_
                  clear D
                  intro h₃ o3 d3 D
                  try dsimp only at D ⊢
                  wtm_at "gos"
                  have m3 : (L + 1 + 1 + 1, o3) ∈ [(L + 1 + 1 + 1 + 1 + 1 + 1 + 1, o7), (L + 1 + 1 + 1 + 1 + 1 + 1, o6), (L + 1 + 1 + 1 + 1 + 1, o5), (L + 1 + 1 + 1 + 1, o4), (L + 1 + 1 + 1, o3), (L + 1 + 1, o2), (L + 1, o1), (260, tabObj #[]), (dr, odr)] := .tail _ (.tail _ (.tail _ (.tail _ (.head _))))
                  have m4 : (L + 1 + 1 + 1 + 1, o4) ∈ [(L + 1 + 1 + 1 + 1 + 1 + 1 + 1, o7), (L + 1 + 1 + 1 + 1 + 1 + 1, o6), (L + 1 + 1 + 1 + 1 + 1, o5), (L + 1 + 1 + 1 + 1, o4), (L + 1 + 1 + 1, o3), (L + 1 + 1, o2), (L + 1, o1), (260, tabObj #[]), (dr, odr)] := .tail _ (.tail _ (.tail _ (.head _)))
                  refine nm_c (by exact D) rfl (.tail _ (.tail _ (.tail _ (.tail _ m4)))) d4 ?_
                  refine comp_eval (cl := [(Str.ofString "word", L + 1 + 1 + 1), (Str.ofString "states", L + 1 + 1 + 1 + 1)]) rfl rfl (by decide) ?_
                  wtm_at "gos"
                  refine nm_c (by exact D) rfl (.tail _ (.tail _ (.tail _ (.tail _ m3)))) d3 ?_
                  wtm_at "gos"
                  refine PyProof.Rows.len_str (by omega) ?_
                  wtm_at "gos"
                  refine range2 (by exact D) ?_
                  clear D
                  intro rg h₄ t4 hlrg D
                  try dsimp only
                  refine itr_range (k := x.length) (by exact D) (D.get (.head _)) (by decide) (by decide) (by omega) (by omega) (by have := rsize1 x.length; simpa using this) ?_
                  clear D
                  intro I2 h₅ oI2 hLI2 D hit
                  have D := D.sub (news' := (I2, oI2) :: (It, oI) :: (sl, osl) :: (rl, orl) :: (wl, owl) :: [(L + 1 + 1 + 1 + 1 + 1 + 1 + 1, o7), (L + 1 + 1 + 1 + 1 + 1 + 1, o6), (L + 1 + 1 + 1 + 1 + 1, o5), (L + 1 + 1 + 1 + 1, o4), (L + 1 + 1 + 1, o3), (L + 1 + 1, o2), (L + 1, o1), (260, tabObj #[]), (dr, odr)]) (.cons₂ _ (.cons _ (List.Sublist.refl _)))
                  try dsimp only
                  let Post11 : Nat → List Value → List (Addr × Obj) → Prop := fun i ys news => ∃ pn : List (Str × Tok), ys = strVs pn ∧ pn.map (·.1) = ((prefs x).take i).filter (fun p => decide (p ∉ pst.map (·.1))) ∧ news = (It, oI) :: (sl, osl) :: (rl, orl) :: (wl, owl) :: [(L + 1 + 1 + 1 + 1 + 1 + 1 + 1, o7), (L + 1 + 1 + 1 + 1 + 1 + 1, o6), (L + 1 + 1 + 1 + 1 + 1, o5), (L + 1 + 1 + 1 + 1, o4), (L + 1 + 1 + 1, o3), (L + 1 + 1, o2), (L + 1, o1), (260, tabObj #[]), (dr, odr)]
                  refine comp_it hA.handled hit Post11 ⟨[], rfl, rfl, rfl⟩ D (by exact hR) (by omega) (by decide) rfl rfl ?_ ?_ ?_
                  · intro i2 ys news _ b hb hbI
                    exact absurd (List.mem_singleton.mp hb) hbI
                  · clear D hR hit
                    rintro C Dl i2 v m₂ ys news₁ oD oI2 oL s₂ hi2 ⟨ti, rfl⟩ hxp
                    refine e1_3 hxp ?_
                    clear hxp
                    rintro pn rfl hpn rfl hm D hD hNs hR
                    rw [show (1 : Int) + (i2 : Int) = ((i2 + 1 : Nat) : Int) by omega] at hm
                    have hpi : (prefs x)[i2]? = some (strOf (x.cps.toList.take (i2 + 1))) := by
                      unfold prefs
                      rw [List.getElem?_map, List.getElem?_range hi2]
                      rfl
                    have hts := strTake_eq x (j := i2 + 1) (by omega)
                    refine tests_one ?_
                    wtm_at "gos"
                    refine nm_c (by exact D) rfl (.tail _ (.tail _ (.tail _ (.tail _ (.tail _ (.tail _ (.tail _ m3))))))) d3 ?_
                    wtm_at "gos"
                    try dsimp only
                    refine tail_of_item ?_ (by with_unfolding_all rfl) (by intro _; with_unfolding_all rfl)
                    refine slice_nsH D (by rw [sizeLine_eq]; omega) ?_
                    clear D
                    intro h₆ t6 tk6 D
                    rw [hts]
                    try dsimp only
                    wtm_at "gos"
                    refine nm_c (by exact D) rfl (.tail _ (.tail _ (.tail _ (.tail _ (.tail _ (.tail _ (.tail _ m4))))))) d4 ?_
                    refine notin_strs (D.get (.tail _ (.tail _ (.tail _ (.tail _ (.head _)))))) hosl ?_
                    wtm_at "gos"
                    by_cases hin : strOf (x.cps.toList.take (i2 + 1)) ∈ pst.map (·.1)
                    · rw [if_neg (by simpa using hin)]
                      refine ⟨_, _, D, hR, pn, rfl, ?_, rfl⟩
                      rw [List.take_add_one (l := prefs x), hpi, List.filter_append, hpn]
                      simp [hin]
                    · rw [if_pos (by simpa using hin)]
                      wtm_at "gos"
                      refine nm_c (by exact D) rfl (.tail _ (.tail _ (.tail _ (.tail _ (.tail _ (.tail _ (.tail _ m3))))))) d3 ?_
                      wtm_at "gos"
                      try dsimp only
                      refine tail_of_item ?_ (by with_unfolding_all rfl) (by intro _; with_unfolding_all rfl)
                      refine slice_nsH D (by rw [sizeLine_eq]; omega) ?_
                      clear D
                      intro h₇ t7 tk7 D
                      rw [hts]
                      refine ⟨_, _, D, hR, pn ++ [(strOf (x.cps.toList.take (i2 + 1)), t7)], by simp [strVs], ?_, rfl⟩
                      rw [List.take_add_one (l := prefs x), hpi, List.filter_append, List.map_append, hpn]
                      simp [hin]
                  · clear D hR hit
                    rintro nl C oC onl ys news' s₅ mC hxp
                    refine e1_3 hxp ?_
                    clear hxp
                    rintro pn rfl hpn rfl D hC honl hl hLn hR
                    have hprl2 : (prefs x).length = x.length := by simp [prefs]
                    rw [List.take_of_length_le (by rw [hprl2]; exact Nat.le_refl _)] at hpn
                    have hpnl : pn.length ≤ 24 := by
                      have h1 : pn.length = (pn.map (·.1)).length := by simp
                      have h2 := List.length_filter_le (fun p => decide (p ∉ pst.map (·.1))) (prefs x)
                      rw [h1, hpn]
                      omega
                    refine comp_fin D hC ?_
                    clear D hC
                    intro h₈ D
                    try dsimp only
                    refine add_lst D (D.get (.tail _ (.tail _ (.head _)))) hosl (D.get (.head _)) honl (by rw [sizeLine_eq]; simp only [strVs, List.length_map]; have := strs_lt hi; omega) ?_
                    clear D
                    intro sl2 h₉ osl2 hlsl2 D hosl2
                    try dsimp only
                    refine st_cU (by exact D) rfl (fun o' => .tail (.tail (.tail (.tail (.tail (.tail (.tail (.tail (.tail .head))))))))) d4 ?_
                    clear D
                    intro h₁₀ o4' d4' D
                    try dsimp only at D ⊢
                    wtm_at "gos"
                    have hsx : (pr.map (·.1))[i]? = some x := by rw [List.getElem?_map, hx]; rfl
                    refine ⟨_, _, (D.sub (news' := (sl2, osl2) :: (It, oI) :: (rl, orl) :: (wl, owl) :: [(L + 1 + 1 + 1 + 1 + 1 + 1 + 1, o7), (L + 1 + 1 + 1 + 1 + 1 + 1, o6), (L + 1 + 1 + 1 + 1 + 1, o5), (L + 1 + 1 + 1 + 1, o4'), (L + 1 + 1 + 1, o3), (L + 1 + 1, o2), (L + 1, o1), (260, tabObj #[]), (dr, odr)]) (.cons₂ _ (.cons _ (.cons₂ _ (.cons _ (List.Sublist.refl _)))))).perm (List.Perm.swap _ _ _), hR, sl2, osl2, pst ++ pn, o3, o4', rfl, e2, e3, e4, ⟨_, d3⟩, d4', by simpa [strVs] using hosl2, ?_, ?_⟩
                    · rw [List.map_append, hpn, List.take_add_one, hsx]
                      unfold statesOf
                      rw [Option.toList_some, List.foldl_append, List.foldl_cons, List.foldl_nil]
                      show _ = grow (statesOf ((pr.map (·.1)).take i)) x
                      rw [← hpst]
                      rfl
                    · rw [List.length_append]
                      omega
                · clear D hR hit hosl hpst d4 d3 e2 e3 e4
                  rintro m' news' s₄ hxp
                  refine e5_9 hxp ?_
                  clear hxp
                  rintro sl osl pst o3 o4 rfl e2 e3 e4 _ d4 hosl hpst _ D hR
                  rw [List.take_of_length_le (by simp [strVs])] at hpst
                  exact ⟨rfl, _, sl, osl, pst, o3, o4, D, hR, e2, e3, e4, d4, hosl, hpst⟩
              · clear D hR e2 e3 e4 d4 d3 hosl hpst
                rintro s₂ hxp
                refine e6_8 hxp ?_
                clear hxp
                rintro m sl osl pst o3 o4 D hR e2 e3 e4 d4 hosl hpst
                with_reducible refine wpAny_execs_cons ?_
                obtain ⟨hsd, hs0, hsm⟩ := states_facts (pr.map (·.1)) (fun q hq => by
                  refine e1_2 (List.mem_map.mp hq) ?_
                  rintro p hp e
                  rw [← e]; exact hprz p hp)
                rw [← hpst] at hsd hs0 hsm
                have hpsz : pst.length ≤ 1000 := by
                  have h1 := states_len (pr.map (·.1)) (fun q hq => by
                    refine e1_2 (List.mem_map.mp hq) ?_
                    rintro p hp e
                    rw [← e]; exact (hprz p hp).1)
                  rw [← hpst] at h1
                  simp only [List.length_map] at h1
                  omega
                have hpsl : ∀ p ∈ pst, p.1.length ≤ 24 := fun p hp => (hsm p.1 (List.mem_map_of_mem hp)).1
                let Post12 : Shared → Prop := fun s' => ∃ (m : Str → Option Value) (dh : Addr) (odh : Obj) (kvh : List (Str × Value)) (xs : List Str) (ps2 : Array Value), Led c c.h0.get? L s'.heap m ((dh, odh) :: (rl, orl) :: (wl, owl) :: [(L + 1 + 1 + 1 + 1 + 1 + 1 + 1, o7), (L + 1 + 1 + 1 + 1 + 1 + 1, o6), (L + 1 + 1 + 1 + 1 + 1, o5), (L + 1 + 1 + 1 + 1, o4), (L + 1 + 1 + 1, o3), (L + 1 + 1, o2), (L + 1, o1), (260, tabObj ps2), (dr, odr)]) ∧ Rest c s' ∧ m (Str.ofString "words") = some (.ref wl) ∧ m (Str.ofString "text") = some (.str tx tt) ∧ m (Str.ofString "written") = some (.ref rl) ∧ m (Str.ofString "hung") = some (.ref dh) ∧
                  odh.IsDictOf (strKind prog w) kvh ∧ 2 < dh ∧ xs.Perm (pst.map (·.1)) ∧ (xs.Pairwise fun a b => a.length ≤ b.length) ∧ kvh.map (·.1) = xs.filter (fun q => decide (q ≠ Str.ofString "")) ∧ ∀ q ∈ kvh.map (·.1), (∃ t, valueAt kvh q = some (.str (flS xs q) t)) ∧ ∃ j, lastF xs q xs.length = some j
                refine exec_cut Post12 ?_ ?_
                · --P7
                  wtm_at "gos"
                  refine nm_c (by exact D) rfl (.tail _ (.tail _ (.tail _ (.tail _ (.tail _ (.tail _ (.head _))))))) d4 ?_
                  wtm_at "gos"
                  have h2s := two_lt G (show Keep c.h0 s₂.heap from D.kb)
                  refine hung_spec (c := c) (sts := pst) G (by exact D.kb) (by exact hR) (hA.mono (by decide)) HL (D.get (.tail _ (.tail _ (.tail _ (.tail _ (.tail _ (.tail _ (.tail _ (.tail _ (.tail _ (.tail _ (.head _)))))))))))) h260 (D.get (.head _)) hosl hpsz (fun p hp => Nat.le_trans (hpsl p hp) (by decide)) hsd hs0 ?_
                  intro dh odh kvh xs ps2 s₃ hR hk3 hg3 hzdh hgdh hodh hperm hsort hkeys hvals
                  have D1 := Led.mid (pre := (sl, osl) :: (rl, orl) :: (wl, owl) :: [(L + 1 + 1 + 1 + 1 + 1 + 1 + 1, o7), (L + 1 + 1 + 1 + 1 + 1 + 1, o6), (L + 1 + 1 + 1 + 1 + 1, o5), (L + 1 + 1 + 1 + 1, o4), (L + 1 + 1 + 1, o3), (L + 1 + 1, o2), (L + 1, o1)]) (M := [((260 : Addr), tabObj #[])]) (M' := [((260 : Addr), tabObj ps2)]) (post := [(dr, odr)]) (by exact D) rfl (by
                    intro b o hb e
                    exact hk3 b o (by simpa using hb) e) (by
                    intro p hp
                    rw [List.mem_singleton.mp hp]; exact hg3)
                  have D2 := Led.snocNew D D1 rfl hzdh hgdh
                  have D3 := (D2.perm (List.perm_append_singleton _ _)).sub (news' := (dh, odh) :: (rl, orl) :: (wl, owl) :: [(L + 1 + 1 + 1 + 1 + 1 + 1 + 1, o7), (L + 1 + 1 + 1 + 1 + 1 + 1, o6), (L + 1 + 1 + 1 + 1 + 1, o5), (L + 1 + 1 + 1 + 1, o4), (L + 1 + 1 + 1, o3), (L + 1 + 1, o2), (L + 1, o1), (260, tabObj ps2), (dr, odr)]) (.cons₂ _ (.cons _ (List.Sublist.refl _)))
                  clear D D1 D2
                  try dsimp only
                  wtm_at "gos"
                  rename Led _ _ _ _ _ _ => D
                  exact ⟨rfl, _, dh, odh, kvh, xs, ps2, D, hR, e2, e3, e4, rfl, hodh, Nat.lt_of_lt_of_le h2s hzdh, hperm, hsort, hkeys, hvals⟩
                · clear D hR e2 e3 e4
                  rintro s₂ hxp
                  refine e6_12 hxp ?_
                  clear hxp
                  rintro m dh odh kvh xs ps2 D hR e2 e3 e4 e5 hodh h2dh hperm hsort hkeys hvals
                  with_reducible refine wpAny_execs_cons ?_
                  have H : Acf (pr.map (·.1)) xs (kvh.map (·.1)) := ⟨by rw [← hpst]; exact hperm, fun q hq => by
                    refine e1_2 (List.mem_map.mp hq) ?_
                    rintro p hp e
                    rw [← e]; exact hprz p hp, hkeys, fun q hq => by
                    obtain ⟨_, j, e⟩ := hvals q hq
                    exact flS_isF hsort e⟩
                  have m1 : (L + 1, o1) ∈ [(L + 1 + 1 + 1 + 1 + 1 + 1 + 1, o7), (L + 1 + 1 + 1 + 1 + 1 + 1, o6), (L + 1 + 1 + 1 + 1 + 1, o5), (L + 1 + 1 + 1 + 1, o4), (L + 1 + 1 + 1, o3), (L + 1 + 1, o2), (L + 1, o1), (260, tabObj ps2), (dr, odr)] := .tail _ (.tail _ (.tail _ (.tail _ (.tail _ (.tail _ (.head _))))))
                  have hXl : (wrote k tx).length ≤ 2400 := by
                    have h1 := escL_len (escK_ok k) (escK_len k) tx.cps.toList
                    have h2 : tx.cps.toList.length = tx.length := Array.length_toList
                    have h3 : (wrote k tx).length = (escL (escK k) tx.cps.toList).length := by unfold wrote strOf Str.length; simp
                    omega
                  let Post13 : Shared → Prop := fun s' => ∃ (m : Str → Option Value) (lf : Addr) (ofd : Obj) (lists : List (Addr × Obj)) (fv : List Addr), Led c c.h0.get? L s'.heap m ((lf, ofd) :: (lists ++ ((wl, owl) :: [(L + 1 + 1 + 1 + 1 + 1 + 1 + 1, o7), (L + 1 + 1 + 1 + 1 + 1 + 1, o6), (L + 1 + 1 + 1 + 1 + 1, o5), (L + 1 + 1 + 1 + 1, o4), (L + 1 + 1 + 1, o3), (L + 1 + 1, o2), (L + 1, o1), (260, tabObj ps2), (dr, odr)]))) ∧ Rest c s' ∧ m (Str.ofString "words") = some (.ref wl) ∧ m (Str.ofString "text") = some (.str tx tt) ∧ m (Str.ofString "found") = some (.ref lf) ∧
                    IsLst ofd (fv.map fun a => .ref a) ∧ fv.length = (wrote k tx).length ∧ ∀ i a, fv[i]? = some a → ∃ ol ts, (a, ol) ∈ lists ∧ IsLst ol (strVs ts) ∧ ts.map (·.1) = ends (pr.map (·.1)) ((wrote k tx).cps.toList.take (i + 1))
                  refine exec_cut Post13 ?_ ?_
                  · --P8
                    wtm_at "gos"
                    refine nm_c (by exact D) rfl (.tail _ (.tail _ (.tail _ m1))) d1 ?_
                    refine callWith_K (K := Mine.hd.heap_39 w.params) (Frag.In.keeps G.k D.kb) (keep_fn w k hk5) ?_ (by with_unfolding_all rfl) (by with_unfolding_all rfl)
                    wtm_at "gos"
                    refine write_spec (c := c) k hk5 G (by exact D.kb) (by exact hR) (hA.mono (by decide)) (by rw [Array.length_toList]; exact Nat.le_trans htx (by decide)) ?_
                    intro tX s₃ hR hk3
                    have D := D.after hk3
                    try dsimp only
                    wtm_at "gos"
                    have h2s3 := two_lt G (show Keep c.h0 s₃.heap from D.kb)
                    refine e3_3 (id D.ns) ?_
                    rintro oL es ep hoL hdL _
                    have hLn : c.h0.get? L = none := D.fresh
                    refine told_spec (c := c) (FR := [(L, oL)]) (kh := kvh) (ks := kvh.map (·.1)) (fl := flS xs) (tl := tlX (kvh.map (·.1)) (pr.map (·.1))) (ws := pr) G (by exact D.kb) (by exact hR) (hA.mono (by decide)) hfr ⟨rfl, ?_, ?_⟩ ?_ ?_ (by simp) (D.get (.head _)) ?_ hodh h2dh (D.get (.tail _ (.head _))) ?_ horl rfl H.nks (fun q hq => (hvals q hq).1) (fun q hq => valueAt_not_mem hq) H.fl_lt (H.ks_len (by rw [List.length_map]; omega)) H.tl (fun q hq => by unfold tlX; rw [if_neg hq]) H.tz ?_
                    · intro y hy
                      rw [List.mem_singleton.mp hy]
                      exact ⟨fun q => ScopeKind.noConfusion (show ScopeKind.function = ScopeKind.module from q), rfl⟩
                    · intro p hp
                      rw [List.mem_singleton.mp hp]
                      intro vs q; rw [hdL] at q; cases q
                    · intro p hp
                      rw [List.mem_singleton.mp hp]; exact hoL
                    · intro p hp
                      rw [List.mem_singleton.mp hp]; exact hLn
                    · intro q
                      exact D.neL (p := (dh, odh)) (.head _) (by simpa using q)
                    · intro q
                      exact D.neL (p := (rl, orl)) (.tail _ (.head _)) (by simpa using q)
                    · intro dt odt kt lists f s₄ hR hzdt hgdt hodt hlists hndl htold hkeep hslots
                      have D1 := Led.afterFrames (FR := []) (by rw [List.append_nil]; exact D) hoL hkeep hslots
                      have D1 : Led c c.h0.get? L s₄.heap m ((dh, odh) :: (rl, orl) :: (wl, owl) :: [(L + 1 + 1 + 1 + 1 + 1 + 1 + 1, o7), (L + 1 + 1 + 1 + 1 + 1 + 1, o6), (L + 1 + 1 + 1 + 1 + 1, o5), (L + 1 + 1 + 1 + 1, o4), (L + 1 + 1 + 1, o3), (L + 1 + 1, o2), (L + 1, o1), (260, tabObj ps2), (dr, odr)]) := by
                        have e : ∀ z : List (Addr × Obj), z ++ slotted f [] = z := fun z => List.append_nil z
                        rw [e] at D1; exact D1
                      have D2 := D1.cells (cells := (dt, odt) :: lists) (fun p hp => by
                        have hz : s₃.heap.objs.size ≤ p.1 ∧ s₄.heap.get? p.1 = some p.2 := by
                          rcases List.mem_cons.mp hp with rfl | hp
                          · exact ⟨hzdt, hgdt⟩
                          · exact ⟨(hlists p hp).2, (hlists p hp).1⟩
                        refine ⟨hz.2, D.none_of_size hz.1, fun q => ?_, fun q => ?_⟩
                        · have := D.ns.lt
                          rw [← q] at this
                          exact absurd this (Nat.not_lt.mpr hz.1)
                        · refine e1_2 (List.mem_map.mp q) ?_
                          rintro p' hp' e
                          have := D.lt hp'
                          rw [e] at this
                          exact absurd this (Nat.not_lt.mpr hz.1)) hndl
                      clear D D1
                      obtain ⟨ad, had⟩ : ∃ ad : Str → Addr, ∀ q ∈ namesA (flS xs) (kvh.map (·.1)), ∃ ol ts, valueAt kt q = some (.ref (ad q)) ∧ (ad q, ol) ∈ lists ∧ IsLst ol (strVs ts) ∧ ts.map (·.1) = tlX (kvh.map (·.1)) (pr.map (·.1)) q := by
                        classical
                        exact ⟨fun q => if h : q ∈ namesA (flS xs) (kvh.map (·.1)) then (htold q h).choose else 0, fun q h => by
                          simp only [dif_pos h]
                          exact (htold q h).choose_spec⟩
                      have hprne : pr.map (·.1) ≠ [] := by
                        intro q
                        have h1 := congrArg List.length q
                        rw [List.length_map] at h1
                        have h2 : xi.length = 3 + (nns.take 2).length := by rw [hxi, List.length_append]; rfl
                        rw [List.length_nil] at h1
                        omega
                      have hroot := H.root hprne
                      have hnm : ∀ q, q = Str.ofString "" ∨ q ∈ kvh.map (·.1) → q ∈ namesA (flS xs) (kvh.map (·.1)) := fun q hq => by
                        rcases hq with rfl | hq
                        · exact hroot
                        · exact namesA_mem.mpr (.inl hq)
                      try dsimp only
                      wtm_at "gos"
                      have h2dt : 2 < dt := Nat.lt_of_lt_of_le h2s3 hzdt
                      refine read_spec (c := c) (x := wrote k tx) (kh := kvh) (kt := kt) (ks := kvh.map (·.1)) (fl := flS xs) (ad := ad) (I := AcI xs (wrote k tx)) (Wp := AcW xs (wrote k tx)) G (by exact D2.kb) (by exact hR) (hA.mono (by decide)) (D2.get (.tail _ (List.mem_append_right _ (.head _)))) hodh h2dh (D2.get (.head _)) hodt h2dt (fun q hq => (hvals q hq).1) (fun q hq => valueAt_not_mem hq) (fun q hq => by
                        refine e2_2 (had q (hnm q hq)) ?_
                        rintro _ _ e _
                        exact e) H.i0 H.iw H.wm H.wf H.wg H.w0 H.fl_lt (fun q hq => Nat.le_trans (H.ks_z hq) (by decide)) (Nat.le_trans hXl (by decide)) ?_
                      intro lf ofd qs s₅ hR hk5r hzlf hglf hofd hqsl hqs
                      have D3 := ((Led.snocNew D2 (D2.after hk5r) rfl hzlf hglf).perm (List.perm_append_singleton _ _)).sub (news' := (lf, ofd) :: (lists ++ ((wl, owl) :: [(L + 1 + 1 + 1 + 1 + 1 + 1 + 1, o7), (L + 1 + 1 + 1 + 1 + 1 + 1, o6), (L + 1 + 1 + 1 + 1 + 1, o5), (L + 1 + 1 + 1 + 1, o4), (L + 1 + 1 + 1, o3), (L + 1 + 1, o2), (L + 1, o1), (260, tabObj ps2), (dr, odr)]))) (by
                        refine .cons₂ _ (.cons _ ?_)
                        exact List.Sublist.append (List.Sublist.refl _) (.cons _ (.cons _ (List.Sublist.refl _))))
                      clear D2
                      try dsimp only
                      wtm_at "gos"
                      rename Led _ _ _ _ _ _ => D
                      refine ⟨rfl, _, lf, ofd, lists, qs.map ad, D, hR, e2, e3, rfl, by rw [List.map_map]; exact hofd, by rw [List.length_map]; exact hqsl, ?_⟩
                      intro i a ha
                      rw [List.getElem?_map] at ha
                      refine e1_2 (Option.map_eq_some_iff.mp ha) ?_
                      rintro q hq rfl
                      have hI := hqs i q hq
                      have hqm := H.wm _ _ (H.iw _ _ hI)
                      refine e2_4 (had q (hnm q hqm)) ?_
                      rintro ol ts _ h2 h3 h4
                      refine ⟨ol, ts, h2, h3, ?_⟩
                      rw [h4, tlX_state (fun z hz => (H.wz z hz).2) hqm]
                      exact (ends_read H.perm (fun z hz => (H.wz z hz).2) hI).symm
                  · clear D hR e2 e3 e4 e5 hodh horl hosl
                    rintro s₂ hxp
                    refine e5_8 hxp ?_
                    clear hxp
                    rintro m lf ofd lists fv D hR e2 e3 e4 hofd hfvl hfv
                    with_reducible refine wpAny_execs_cons ?_
                    have m2 : (L + 1 + 1, o2) ∈ [(L + 1 + 1 + 1 + 1 + 1 + 1 + 1, o7), (L + 1 + 1 + 1 + 1 + 1 + 1, o6), (L + 1 + 1 + 1 + 1 + 1, o5), (L + 1 + 1 + 1 + 1, o4), (L + 1 + 1 + 1, o3), (L + 1 + 1, o2), (L + 1, o1), (260, tabObj ps2), (dr, odr)] := .tail _ (.tail _ (.tail _ (.tail _ (.tail _ (.head _)))))
                    have mdr : (dr, odr) ∈ [(L + 1 + 1 + 1 + 1 + 1 + 1 + 1, o7), (L + 1 + 1 + 1 + 1 + 1 + 1, o6), (L + 1 + 1 + 1 + 1 + 1, o5), (L + 1 + 1 + 1 + 1, o4), (L + 1 + 1 + 1, o3), (L + 1 + 1, o2), (L + 1, o1), (260, tabObj ps2), (dr, odr)] := .tail _ (.tail _ (.tail _ (.tail _ (.tail _ (.tail _ (.tail _ (.tail _ (.head _))))))))
                    have hwr : ∀ x : Str, strOf (x.cps.toList.flatMap fun ch => ((escK k).lookup ch).getD [ch]) = wrote k x := fun x => by
                      unfold wrote
                      rw [escL_eq (escK_ok k)]
                    let Post14 : Shared → Prop := fun s' => ∃ (m : Str → Option Value) (spl : Addr) (ospl o5 : Obj) (psp : List (Str × Tok)), Led c c.h0.get? L s'.heap m ((spl, ospl) :: (lf, ofd) :: (lists ++ ((wl, owl) :: [(L + 1 + 1 + 1 + 1 + 1 + 1 + 1, o7), (L + 1 + 1 + 1 + 1 + 1 + 1, o6), (L + 1 + 1 + 1 + 1 + 1, o5), (L + 1 + 1 + 1 + 1, o4), (L + 1 + 1 + 1, o3), (L + 1 + 1, o2), (L + 1, o1), (260, tabObj ps2), (dr, odr)]))) ∧ Rest c s' ∧ m (Str.ofString "text") = some (.str tx tt) ∧ m (Str.ofString "found") = some (.ref lf) ∧
                      o5.data = .cell (some (.ref spl)) ∧ IsLst ospl (strVs psp) ∧ psp.map (·.1) = pr.map (·.1)
                    refine exec_cut Post14 ?_ ?_
                    · --P9
                      wtm_at "gos"
                      refine comp_eval (cl := [(Str.ofString "references", L + 1 + 1)]) rfl rfl (by decide) ?_
                      wtm_at "gos"
                      refine itr_list (by exact D) (D.get (.tail _ (List.mem_append_right _ (.head _)))) howl ?_
                      clear D
                      intro I h₅ oI hLI D hit
                      try dsimp only
                      let Post15 : Nat → List Value → List (Addr × Obj) → Prop := fun i ys news => ∃ pq : List (Str × Tok), ys = strVs pq ∧ pq.map (·.1) = (pw.take i).map (fun p => wrote k p.1) ∧ news = (lf, ofd) :: (lists ++ ((wl, owl) :: [(L + 1 + 1 + 1 + 1 + 1 + 1 + 1, o7), (L + 1 + 1 + 1 + 1 + 1 + 1, o6), (L + 1 + 1 + 1 + 1 + 1, o5), (L + 1 + 1 + 1 + 1, o4), (L + 1 + 1 + 1, o3), (L + 1 + 1, o2), (L + 1, o1), (260, tabObj ps2), (dr, odr)]))
                      refine comp_it hA.handled hit Post15 ⟨[], rfl, rfl, rfl⟩ D (by exact hR) (by simp [strVs]; omega) (by decide) rfl rfl ?_ ?_ ?_
                      · rintro i ys news hxp
                        refine e1_3 hxp ?_
                        clear hxp
                        rintro _ _ _ hnb b hb hbI
                        rw [hnb]
                        have hbo : b = wl := by simpa [hbI] using hb
                        rw [hbo]
                        exact ⟨_, D.get (.tail _ (.tail _ (List.mem_append_right _ (.head _)))), .inr (.tail _ (List.mem_append_right _ (.head _)))⟩
                      · clear D hR hit
                        rintro C Dl i v m₁ ys news₁ oD oI oL s₂ hi hv hxp
                        refine e1_3 hxp ?_
                        clear hxp
                        rintro pq rfl hpq rfl hm D hD hNs hR
                        refine e1_2 (strs_at hv) ?_
                        rintro ⟨x, t⟩ hx rfl
                        have hxz : x.length ≤ 4 ∧ 0 < x.length := hpwz _ (List.mem_of_getElem? hx)
                        refine tests_nil ?_
                        rw [if_pos rfl]
                        wtm_at "gos"
                        refine nm_c (by exact D) rfl (.tail _ (.tail _ (.tail _ (.tail _ (List.mem_append_right _ (.tail _ m2)))))) d2 ?_
                        wtm_at "gos"
                        refine spelled_spec (c := c) (rf := fun ch => (escK k).lookup ch) G (by exact D.kb) (by exact hR) (hA.mono (by decide)) (D.get (.tail _ (.tail _ (.tail _ (.tail _ (List.mem_append_right _ (.tail _ mdr))))))) hdd h2dr hkv (Nat.le_trans hxz.1 (by decide)) (fun ch z hz => Nat.le_trans (look_len (escK_len k) hz).2 (by decide)) ?_
                        intro t' s₃ hR hk3
                        have D := D.after hk3
                        rw [hwr]
                        refine ⟨_, _, D, hR, pq ++ [(wrote k x, t')], by simp [strVs], ?_, rfl⟩
                        rw [List.map_append, hpq, List.take_add_one, hx, List.map_append]
                        rfl
                      · clear D hR hit
                        rintro spl C oC ospl ys news' s₂ mC hxp
                        refine e1_3 hxp ?_
                        clear hxp
                        rintro psp rfl hpsp rfl D hC hospl hl hLw hR
                        rw [List.take_of_length_le (by simp [strVs]), ← hpr] at hpsp
                        refine comp_fin D hC ?_
                        clear D hC
                        intro h₆ D
                        try dsimp only
                        refine st_cU (by exact D) rfl (fun o' => .tail (.tail (Up.pre (.tail (.tail (.tail .head))) lists))) d5 ?_
                        clear D
                        intro h₇ o5' d5' D
                        try dsimp only at D ⊢
                        wtm_at "gos"
                        exact ⟨rfl, _, spl, ospl, o5', psp, D, hR, e3, e4, d5', hospl, hpsp⟩
                    · clear D hR e2 e3 e4 d5
                      rintro s₂ hxp
                      refine e5_7 hxp ?_
                      clear hxp
                      rintro m spl ospl o5 psp D hR e3 e4 d5 hospl hpsp
                      have m2 : (L + 1 + 1, o2) ∈ [(L + 1 + 1 + 1 + 1 + 1 + 1 + 1, o7), (L + 1 + 1 + 1 + 1 + 1 + 1, o6), (L + 1 + 1 + 1 + 1 + 1, o5), (L + 1 + 1 + 1 + 1, o4), (L + 1 + 1 + 1, o3), (L + 1 + 1, o2), (L + 1, o1), (260, tabObj ps2), (dr, odr)] := .tail _ (.tail _ (.tail _ (.tail _ (.tail _ (.head _)))))
                      have mdr : (dr, odr) ∈ [(L + 1 + 1 + 1 + 1 + 1 + 1 + 1, o7), (L + 1 + 1 + 1 + 1 + 1 + 1, o6), (L + 1 + 1 + 1 + 1 + 1, o5), (L + 1 + 1 + 1 + 1, o4), (L + 1 + 1 + 1, o3), (L + 1 + 1, o2), (L + 1, o1), (260, tabObj ps2), (dr, odr)] := .tail _ (.tail _ (.tail _ (.tail _ (.tail _ (.tail _ (.tail _ (.tail _ (.head _))))))))
                      with_reducible refine wpAny_execs_cons ?_
                      let Post16 : Shared → Prop := fun s' => ∃ (m : Str → Option Value) (o6 : Obj) (tX : Tok), Led c c.h0.get? L s'.heap m ((spl, ospl) :: (lf, ofd) :: (lists ++ ((wl, owl) :: [(L + 1 + 1 + 1 + 1 + 1 + 1 + 1, o7), (L + 1 + 1 + 1 + 1 + 1 + 1, o6), (L + 1 + 1 + 1 + 1 + 1, o5), (L + 1 + 1 + 1 + 1, o4), (L + 1 + 1 + 1, o3), (L + 1 + 1, o2), (L + 1, o1), (260, tabObj ps2), (dr, odr)]))) ∧ Rest c s' ∧ m (Str.ofString "found") = some (.ref lf) ∧ o6.data = .cell (some (.str (wrote k tx) tX))
                      refine exec_cut Post16 ?_ ?_
                      · --P10
                        wtm_at "gos"
                        refine nm_c (by exact D) rfl (.tail _ (.tail _ (List.mem_append_right _ (.tail _ m2)))) d2 ?_
                        wtm_at "gos"
                        refine spelled_spec (c := c) (rf := fun ch => (escK k).lookup ch) G (by exact D.kb) (by exact hR) (hA.mono (by decide)) (D.get (.tail _ (.tail _ (List.mem_append_right _ (.tail _ mdr))))) hdd h2dr hkv (Nat.le_trans htx (by decide)) (fun ch z hz => Nat.le_trans (look_len (escK_len k) hz).2 (by decide)) ?_
                        intro t' s₃ hR hk3
                        have D := D.after hk3
                        rw [hwr]
                        try dsimp only
                        refine st_cU (by exact D) rfl (fun o' => .tail (.tail (Up.pre (.tail (.tail .head)) lists))) d6 ?_
                        clear D
                        intro h₇ o6' d6' D
                        try dsimp only at D ⊢
                        wtm_at "gos"
                        exact ⟨rfl, _, o6', t', D, hR, e4, d6'⟩
                      · clear D hR e3 e4 d6 m2 mdr
                        rintro s₂ hxp
                        refine e3_4 hxp ?_
                        clear hxp
                        rintro m o6 tX D hR e4 d6
                        generalize hX : wrote k tx = X at d6 hfvl hfv hXl
                        with_reducible refine wpAny_execs_cons ?_
                        let Post17 : Shared → Prop := fun s' => ∃ (m : Str → Option Value) (du : Addr) (odu : Obj), Led c c.h0.get? L s'.heap m ((du, odu) :: ([] ++ ((spl, ospl) :: (lf, ofd) :: (lists ++ ((wl, owl) :: [(L + 1 + 1 + 1 + 1 + 1 + 1 + 1, o7), (L + 1 + 1 + 1 + 1 + 1 + 1, o6), (L + 1 + 1 + 1 + 1 + 1, o5), (L + 1 + 1 + 1 + 1, o4), (L + 1 + 1 + 1, o3), (L + 1 + 1, o2), (L + 1, o1), (260, tabObj ps2), (dr, odr)]))))) ∧ Rest c s' ∧ m (Str.ofString "found") = some (.ref lf) ∧ m (Str.ofString "due") = some (.ref du) ∧ IsLst odu []
                        refine exec_cut Post17 ?_ ?_
                        · --P11
                          wtm_at "gos"
                          with_reducible refine new_list D ?y6 ?_
                          case y6 => simp [sizeLine]
                          clear D
                          intro du h₂ odu hldu D hodu
                          try dsimp only
                          wtm_at "gos"
                          rename Led _ _ _ _ _ _ => D
                          exact ⟨rfl, _, du, odu, D, hR, e4, rfl, ⟨0, hodu⟩⟩
                        · clear D hR e4
                          rintro s₂ hxp
                          refine e3_5 hxp ?_
                          clear hxp
                          rintro m du odu D hR e4 e5 hodu
                          with_reducible refine wpAny_execs_cons ?_
                          let Post18 : Shared → Prop := fun s' => ∃ (m : Str → Option Value) (odu o7 : Obj) (dv : List Addr) (dobs : List (Addr × Obj)), Led c c.h0.get? L s'.heap m ((du, odu) :: (dobs ++ ((spl, ospl) :: (lf, ofd) :: (lists ++ ((wl, owl) :: [(L + 1 + 1 + 1 + 1 + 1 + 1 + 1, o7), (L + 1 + 1 + 1 + 1 + 1 + 1, o6), (L + 1 + 1 + 1 + 1 + 1, o5), (L + 1 + 1 + 1 + 1, o4), (L + 1 + 1 + 1, o3), (L + 1 + 1, o2), (L + 1, o1), (260, tabObj ps2), (dr, odr)]))))) ∧ Rest c s' ∧ m (Str.ofString "found") = some (.ref lf) ∧ m (Str.ofString "due") = some (.ref du) ∧
                            IsLst odu (dv.map fun a => .ref a) ∧ dv.length = X.length ∧ ∀ j a, dv[j]? = some a → ∃ ol ts, (a, ol) ∈ dobs ∧ IsLst ol (strVs ts) ∧ ts.map (·.1) = ends (pr.map (·.1)) (X.cps.toList.take (j + 1))
                          refine exec_cut Post18 ?_ ?_
                          · --P12
                            have hXlen : X.cps.toList.length = X.length := Array.length_toList
                            refine wpAny_For ?_ ?_
                            rotate_left
                            · intro _; rfl
                            wtm_at "gos"
                            have m6 : (L + 1 + 1 + 1 + 1 + 1 + 1, o6) ∈ [(L + 1 + 1 + 1 + 1 + 1 + 1 + 1, o7), (L + 1 + 1 + 1 + 1 + 1 + 1, o6), (L + 1 + 1 + 1 + 1 + 1, o5), (L + 1 + 1 + 1 + 1, o4), (L + 1 + 1 + 1, o3), (L + 1 + 1, o2), (L + 1, o1), (260, tabObj ps2), (dr, odr)] := .tail _ (.head _)
                            refine nm_c (by exact D) rfl (.tail _ (.tail _ (.tail _ (List.mem_append_right _ (.tail _ m6))))) d6 ?_
                            wtm_at "gos"
                            refine PyProof.Rows.len_str (by omega) ?_
                            wtm_at "gos"
                            refine range2 (by exact D) ?_
                            clear D
                            intro rg h₃ t4 hlrg D
                            try dsimp only
                            refine itr_range (k := X.length) (by exact D) (D.get (.head _)) (by decide) (by decide) (by omega) (by omega) (by have := rsize1 X.length; simpa using this) ?_
                            clear D
                            intro It h₄ oI hLI D hit
                            have D := D.sub (news' := (It, oI) :: ((du, odu) :: ([] ++ ((spl, ospl) :: (lf, ofd) :: (lists ++ ((wl, owl) :: [(L + 1 + 1 + 1 + 1 + 1 + 1 + 1, o7), (L + 1 + 1 + 1 + 1 + 1 + 1, o6), (L + 1 + 1 + 1 + 1 + 1, o5), (L + 1 + 1 + 1 + 1, o4), (L + 1 + 1 + 1, o3), (L + 1 + 1, o2), (L + 1, o1), (260, tabObj ps2), (dr, odr)])))))) (.cons₂ _ (.cons _ (List.Sublist.refl _)))
                            try dsimp only
                            let Post19 : Nat → (Str → Option Value) → List (Addr × Obj) → Prop := fun i m news => ∃ (odu o7 : Obj) (dv : List Addr) (dobs : List (Addr × Obj)), news = (du, odu) :: (dobs ++ ((spl, ospl) :: (lf, ofd) :: (lists ++ ((wl, owl) :: [(L + 1 + 1 + 1 + 1 + 1 + 1 + 1, o7), (L + 1 + 1 + 1 + 1 + 1 + 1, o6), (L + 1 + 1 + 1 + 1 + 1, o5), (L + 1 + 1 + 1 + 1, o4), (L + 1 + 1 + 1, o3), (L + 1 + 1, o2), (L + 1, o1), (260, tabObj ps2), (dr, odr)])))) ∧ m (Str.ofString "found") = some (.ref lf) ∧ m (Str.ofString "due") = some (.ref du) ∧ (∃ v, o7.data = .cell v) ∧
                              IsLst odu (dv.map fun a => .ref a) ∧ dv.length = i ∧ ∀ j a, dv[j]? = some a → ∃ ol ts, (a, ol) ∈ dobs ∧ IsLst ol (strVs ts) ∧ ts.map (·.1) = ends (pr.map (·.1)) (X.cps.toList.take (j + 1))
                            refine for_it hA.handled hit Post19 D
                              (by exact ⟨odu, o7, [], [], rfl, e4, e5, ⟨_, d7⟩, hodu, rfl, fun j a q => by cases q⟩) (by exact hR) ?_ ?_ ?_
                            · intro i m' news' _ b hb hbI
                              exact absurd (List.mem_singleton.mp hb) hbI
                            · clear D hR hit hodu d7 e4 e5 m6
                              rintro i v m₁ news₁ oI s₁ hi ⟨ti, rfl⟩ hxp
                              refine e4_7 hxp ?_
                              clear hxp
                              rintro odu o7 dv dobs rfl e4 e5 ⟨v7, d7⟩ hodu hdvl hdv D hR
                              rw [show (1 : Int) + (i : Int) = ((i + 1 : Nat) : Int) by omega]
                              refine wpAny_assign_Name ?_
                              refine st_cU (by exact D) rfl (fun o' => .tail (.tail (Up.pre (.tail (.tail (Up.pre (.tail .head) lists))) dobs))) d7 ?_
                              clear D
                              intro h₅ o7 d7 D
                              try dsimp only at D ⊢
                              wtm_at "gos"
                              refine method_lst (D.get (.tail _ (.head _))) hodu PySem.F.slot_list_append PySem.F.type_list_append ?_
                              try dsimp only
                              wtm_at "gos"
                              refine comp_eval (cl := [(Str.ofString "whole", L + 1 + 1 + 1 + 1 + 1 + 1), (Str.ofString "spelled", L + 1 + 1 + 1 + 1 + 1), (Str.ofString "end", L + 1 + 1 + 1 + 1 + 1 + 1 + 1)]) rfl rfl (by decide) ?_
                              have mK : ∀ {p}, p ∈ [(L + 1 + 1 + 1 + 1 + 1 + 1 + 1, o7), (L + 1 + 1 + 1 + 1 + 1 + 1, o6), (L + 1 + 1 + 1 + 1 + 1, o5), (L + 1 + 1 + 1 + 1, o4), (L + 1 + 1 + 1, o3), (L + 1 + 1, o2), (L + 1, o1), (260, tabObj ps2), (dr, odr)] → p ∈ (dobs ++ ((spl, ospl) :: (lf, ofd) :: (lists ++ ((wl, owl) :: [(L + 1 + 1 + 1 + 1 + 1 + 1 + 1, o7), (L + 1 + 1 + 1 + 1 + 1 + 1, o6), (L + 1 + 1 + 1 + 1 + 1, o5), (L + 1 + 1 + 1 + 1, o4), (L + 1 + 1 + 1, o3), (L + 1 + 1, o2), (L + 1, o1), (260, tabObj ps2), (dr, odr)])))) := fun hp => List.mem_append_right _ (.tail _ (.tail _ (List.mem_append_right _ (.tail _ hp))))
                              have k7 : (L + 1 + 1 + 1 + 1 + 1 + 1 + 1, o7) ∈ [(L + 1 + 1 + 1 + 1 + 1 + 1 + 1, o7), (L + 1 + 1 + 1 + 1 + 1 + 1, o6), (L + 1 + 1 + 1 + 1 + 1, o5), (L + 1 + 1 + 1 + 1, o4), (L + 1 + 1 + 1, o3), (L + 1 + 1, o2), (L + 1, o1), (260, tabObj ps2), (dr, odr)] := .head _
                              have k6 : (L + 1 + 1 + 1 + 1 + 1 + 1, o6) ∈ [(L + 1 + 1 + 1 + 1 + 1 + 1 + 1, o7), (L + 1 + 1 + 1 + 1 + 1 + 1, o6), (L + 1 + 1 + 1 + 1 + 1, o5), (L + 1 + 1 + 1 + 1, o4), (L + 1 + 1 + 1, o3), (L + 1 + 1, o2), (L + 1, o1), (260, tabObj ps2), (dr, odr)] := .tail _ (.head _)
                              have k5 : (L + 1 + 1 + 1 + 1 + 1, o5) ∈ [(L + 1 + 1 + 1 + 1 + 1 + 1 + 1, o7), (L + 1 + 1 + 1 + 1 + 1 + 1, o6), (L + 1 + 1 + 1 + 1 + 1, o5), (L + 1 + 1 + 1 + 1, o4), (L + 1 + 1 + 1, o3), (L + 1 + 1, o2), (L + 1, o1), (260, tabObj ps2), (dr, odr)] := .tail _ (.tail _ (.head _))
                              have mS : (spl, ospl) ∈ (dobs ++ ((spl, ospl) :: (lf, ofd) :: (lists ++ ((wl, owl) :: [(L + 1 + 1 + 1 + 1 + 1 + 1 + 1, o7), (L + 1 + 1 + 1 + 1 + 1 + 1, o6), (L + 1 + 1 + 1 + 1 + 1, o5), (L + 1 + 1 + 1 + 1, o4), (L + 1 + 1 + 1, o3), (L + 1 + 1, o2), (L + 1, o1), (260, tabObj ps2), (dr, odr)])))) := List.mem_append_right _ (.head _)
                              have hWS : psp.map (·.1) = pr.map (·.1) := hpsp
                              wtm_at "gos"
                              refine nm_c (by exact D) rfl (.tail _ (.tail _ (mK k7))) d7 ?_
                              wtm_at "gos"
                              refine range1 (by exact D) ?_
                              clear D
                              intro rg h₆ t6 t6' hlrg D
                              try dsimp only
                              refine itr_range (k := i + 1) (by exact D) (D.get (.head _)) (by decide) (by decide) (by omega) (by omega) (rsize _) ?_
                              clear D
                              intro I2 h₇ oI2 hLI2 D hit
                              have D := D.sub (news' := (I2, oI2) :: (It, oI) :: (du, odu) :: (dobs ++ ((spl, ospl) :: (lf, ofd) :: (lists ++ ((wl, owl) :: [(L + 1 + 1 + 1 + 1 + 1 + 1 + 1, o7), (L + 1 + 1 + 1 + 1 + 1 + 1, o6), (L + 1 + 1 + 1 + 1 + 1, o5), (L + 1 + 1 + 1 + 1, o4), (L + 1 + 1 + 1, o3), (L + 1 + 1, o2), (L + 1, o1), (260, tabObj ps2), (dr, odr)]))))) (.cons₂ _ (.cons _ (List.Sublist.refl _)))
                              try dsimp only
                              let Post20 : Nat → List Value → List (Addr × Obj) → Prop := fun i2 ys news => ∃ pn : List (Str × Tok), ys = strVs pn ∧ pn.map (·.1) = (((List.range (i + 1)).take i2).map (fun s => strOf ((X.cps.toList.take (i + 1)).drop s))).filter (fun q => decide (q ∈ pr.map (·.1))) ∧ news = (It, oI) :: (du, odu) :: (dobs ++ ((spl, ospl) :: (lf, ofd) :: (lists ++ ((wl, owl) :: [(L + 1 + 1 + 1 + 1 + 1 + 1 + 1, o7), (L + 1 + 1 + 1 + 1 + 1 + 1, o6), (L + 1 + 1 + 1 + 1 + 1, o5), (L + 1 + 1 + 1 + 1, o4), (L + 1 + 1 + 1, o3), (L + 1 + 1, o2), (L + 1, o1), (260, tabObj ps2), (dr, odr)]))))
                              refine comp_it hA.handled hit Post20 ⟨[], rfl, rfl, rfl⟩ D (by exact hR) (by omega) (by decide) rfl rfl ?_ ?_ ?_
                              · intro i2 ys news _ b hb hbI
                                exact absurd (List.mem_singleton.mp hb) hbI
                              · clear D hR hit
                                rintro C Dl i2 v m₂ ys news₁ oD oI2 oL s₂ hi2 ⟨t2, rfl⟩ hxp
                                refine e1_3 hxp ?_
                                clear hxp
                                rintro pn rfl hpn rfl hm D hD hNs hR
                                rw [Int.zero_add] at hm
                                have hpi : (List.range (i + 1))[i2]? = some i2 := List.getElem?_range hi2
                                have htk : (List.range (i + 1)).take (i2 + 1) = (List.range (i + 1)).take i2 ++ [i2] := by
                                  rw [List.take_add_one, hpi]; rfl
                                have hts := strSlice_eq X (i := i2) (j := i + 1) (by omega) (by omega)
                                have mK3 : ∀ {p}, p ∈ [(L + 1 + 1 + 1 + 1 + 1 + 1 + 1, o7), (L + 1 + 1 + 1 + 1 + 1 + 1, o6), (L + 1 + 1 + 1 + 1 + 1, o5), (L + 1 + 1 + 1 + 1, o4), (L + 1 + 1 + 1, o3), (L + 1 + 1, o2), (L + 1, o1), (260, tabObj ps2), (dr, odr)] → p ∈ (I2, oI2) :: (Dl, oD) :: ((L, oL) : Addr × Obj) :: (It, oI) :: (du, odu) :: (dobs ++ ((spl, ospl) :: (lf, ofd) :: (lists ++ ((wl, owl) :: [(L + 1 + 1 + 1 + 1 + 1 + 1 + 1, o7), (L + 1 + 1 + 1 + 1 + 1 + 1, o6), (L + 1 + 1 + 1 + 1 + 1, o5), (L + 1 + 1 + 1 + 1, o4), (L + 1 + 1 + 1, o3), (L + 1 + 1, o2), (L + 1, o1), (260, tabObj ps2), (dr, odr)])))) := fun hp => .tail _ (.tail _ (.tail _ (.tail _ (.tail _ (mK hp)))))
                                refine tests_one ?_
                                wtm_at "gos"
                                refine nm_c (by exact D) rfl (mK3 k6) d6 ?_
                                wtm_at "gos"
                                refine nm_c (by exact D) rfl (mK3 k7) d7 ?_
                                wtm_at "gos"
                                try dsimp only
                                refine tail_of_item ?_ (by with_unfolding_all rfl) (by intro _; with_unfolding_all rfl)
                                refine slice_ssH D (by rw [sizeLine_eq]; omega) ?_
                                clear D
                                intro h₈ t8 tk8 D
                                rw [hts]
                                generalize hy : strOf ((X.cps.toList.take (i + 1)).drop i2) = y at hts ⊢
                                try dsimp only
                                wtm_at "gos"
                                refine nm_c (by exact D) rfl (mK3 k5) d5 ?_
                                refine in_strs (D.get (.tail _ (.tail _ (.tail _ (.tail _ (.tail _ mS)))))) hospl ?_
                                rw [hWS]
                                wtm_at "gos"
                                by_cases hin : y ∈ pr.map (·.1)
                                · rw [if_pos (by simpa using hin)]
                                  wtm_at "gos"
                                  refine nm_c (by exact D) rfl (mK3 k6) d6 ?_
                                  wtm_at "gos"
                                  refine nm_c (by exact D) rfl (mK3 k7) d7 ?_
                                  wtm_at "gos"
                                  try dsimp only
                                  refine tail_of_item ?_ (by with_unfolding_all rfl) (by intro _; with_unfolding_all rfl)
                                  refine slice_ssH D (by rw [sizeLine_eq]; omega) ?_
                                  clear D
                                  intro h₉ t9 tk9 D
                                  rw [hts]
                                  refine ⟨_, _, D, hR, pn ++ [(y, t9)], by simp [strVs], ?_, rfl⟩
                                  rw [List.map_append, hpn, htk, List.map_append, List.filter_append]
                                  simp only [List.map_cons, List.map_nil, hy]
                                  rw [List.filter_cons_of_pos (by simpa using hin)]
                                  rfl
                                · rw [if_neg (by simpa using hin)]
                                  refine ⟨_, _, D, hR, pn, rfl, ?_, rfl⟩
                                  rw [htk, List.map_append, List.filter_append, hpn]
                                  simp only [List.map_cons, List.map_nil, hy]
                                  rw [List.filter_cons_of_neg (by simpa using hin)]
                                  simp
                              · clear D hR hit
                                rintro nl C oC onl ys news' s₅ mC hxp
                                refine e1_3 hxp ?_
                                clear hxp
                                rintro pn rfl hpn rfl D hC honl hl hLn hR
                                rw [List.take_of_length_le (l := List.range (i + 1)) (by simp)] at hpn
                                have htl : (X.cps.toList.take (i + 1)).length = i + 1 := by rw [List.length_take]; omega
                                have hpn2 : pn.map (·.1) = ends (pr.map (·.1)) (X.cps.toList.take (i + 1)) := by
                                  rw [hpn, ← due_ends, htl]
                                refine comp_fin D hC ?_
                                clear D hC
                                intro h₈ D
                                try dsimp only
                                wtm_at "gos"
                                refine append_lst (D.get (.tail _ (.tail _ (.head _)))) hodu (by rw [List.length_map, hdvl, sizeLine_eq]; omega) ?_
                                intro h₉ odu2 ho9 hodu2 hx9
                                have D := D.upd (.tail (.tail .head)) hx9 ho9
                                try dsimp only
                                wtm_at "gos"
                                refine ⟨_, _, D.perm (news' := (It, oI) :: (du, odu2) :: (((nl, onl) :: dobs) ++ ((spl, ospl) :: (lf, ofd) :: (lists ++ ((wl, owl) :: [(L + 1 + 1 + 1 + 1 + 1 + 1 + 1, o7), (L + 1 + 1 + 1 + 1 + 1 + 1, o6), (L + 1 + 1 + 1 + 1 + 1, o5), (L + 1 + 1 + 1 + 1, o4), (L + 1 + 1 + 1, o3), (L + 1 + 1, o2), (L + 1, o1), (260, tabObj ps2), (dr, odr)]))))) (perm_3 _ _ _ _), hR, odu2, o7, dv ++ [nl], (nl, onl) :: dobs, rfl, e4, e5, ⟨_, d7⟩, by simpa using hodu2, by simp [hdvl], ?_⟩
                                intro j a ha
                                rcases Nat.lt_or_ge j dv.length with q | q
                                · rw [List.getElem?_append_left q] at ha
                                  refine e2_3 (hdv j a ha) ?_
                                  rintro ol ts h1 h2 h3
                                  exact ⟨ol, ts, .tail _ h1, h2, h3⟩
                                · rw [List.getElem?_append_right q] at ha
                                  have : j = dv.length := by
                                    rcases Nat.lt_or_ge (j - dv.length) 1 with z | z
                                    · omega
                                    · rw [List.getElem?_eq_none (by simpa using z)] at ha; cases ha
                                  subst this
                                  rw [Nat.sub_self] at ha
                                  cases ha
                                  exact ⟨onl, pn, .head _, honl, by rw [hdvl]; exact hpn2⟩
                            · clear D hR hit hodu d7 e4 e5 m6
                              rintro m' news' s₄ hxp
                              refine e4_7 hxp ?_
                              clear hxp
                              rintro odu o7 dv dobs rfl e4 e5 _ hodu hdvl hdv D hR
                              exact ⟨rfl, _, odu, o7, dv, dobs, D, hR, e4, e5, hodu, hdvl, hdv⟩
                          · clear D hR e4 e5 hodu d7
                            rintro s₂ hxp
                            refine e5_7 hxp ?_
                            clear hxp
                            rintro m odu o7 dv dobs D hR e4 e5 hodu hdvl hdv
                            wtm_at "gos"
                            have hlf := D.get (.tail _ (List.mem_append_right _ (.tail _ (.head _))))
                            have hu := hA.units
                            refine eq_true_lists (by omega) hlf hofd (D.get (.head _)) hodu (by rw [hfvl, hdvl]) ?_ ?_
                            · intro j a b ha hb
                              refine e2_3 (hfv j a ha) ?_
                              rintro ol ts h1 h2 h3
                              refine e2_3 (hdv j b hb) ?_
                              rintro ol' ts' h1' h2' h3'
                              exact ⟨ol, ol', ts, ts', D.get (.tail _ (List.mem_append_right _ (.tail _ (.tail _ (List.mem_append_left _ h1))))), h2, D.get (.tail _ (List.mem_append_left _ h1')), h2', h3.trans h3'.symm⟩
                            · exact ⟨rfl, hR, D.kb, _, D.get (.tail _ (List.mem_append_right _ (.tail _ (.tail _ (List.mem_append_right _ (.tail _ (.tail _ (.tail _ (.tail _ (.tail _ (.tail _ (.tail _ (.tail _ (.head _))))))))))))))⟩
  · rintro _ s' ⟨rfl, hR, hK, ps, hps⟩
    refine ⟨⟨.inl ⟨.bool true, .bool true, [], rfl, ?_, .bool _, ?_, fun _ => ⟨.nil, fun _ q => nomatch q⟩⟩, hK, ?_, ?_⟩, ⟨ps, hps⟩, trivial⟩
    · intro cls
      rfl
    · first
        | rfl
        | kernel_rfl
        | decide
    · exact hR.2.2.trans hco
    · exact (hR.1.trans hcg).trans hg)


end Mine
theorem PySem.Challenge.cw_oh0084_01_holds : PySem.Challenge.rw_oh0084_01.Holds :=
  Mine.law_holds
