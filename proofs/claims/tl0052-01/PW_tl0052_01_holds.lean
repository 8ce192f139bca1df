import PyProof.Rows.All
import Wide.All
import OpenK.AllK
import Wide.FinOn
import Lean
import PySem.Challenge.RW_tl0052_01
set_option Elab.async false
set_option compiler.extract_closed false
section
open PySem PySem.W PySem.W.X PySem.W.ZRun PyProof.Rows
set_option maxRecDepth 100000
set_option maxHeartbeats 0
-- names taken ahead, so that the head lays no twin of these big constants (the proofs of such twins are large)
noncomputable def PySem.W.Fast.tw6823986343258562910 : Nat := 0
noncomputable def PySem.W.Fast.tw8075568018651887793 : Nat := 0
noncomputable def PySem.W.Fast.tw15195428891847259777 : Nat := 0
noncomputable def PySem.W.Fast.tw6733733256287894996 : Nat := 0
noncomputable def PySem.W.Fast.tw8596489363040539036 : Nat := 0
noncomputable def PySem.W.Fast.tw4565882471582609895 : Nat := 0
noncomputable def PySem.W.Fast.tw14979626087600564940 : Nat := 0
noncomputable def PySem.W.Fast.tw11326521457850498738 : Nat := 0
noncomputable def PySem.W.Fast.tw15918970679434673802 : Nat := 0
noncomputable def PySem.W.Fast.tw5986070226099191233 : Nat := 0
noncomputable def PySem.W.Fast.tw12522872232266410630 : Nat := 0
noncomputable def PySem.W.Fast.tw12017898878966707257 : Nat := 0
noncomputable def PySem.W.Fast.tw1719230996375869582 : Nat := 0
noncomputable def PySem.W.Fast.tw17614413878374492980 : Nat := 0
noncomputable def PySem.W.Fast.tw12022618010286034681 : Nat := 0
noncomputable def PySem.W.Fast.tw7581816359482902497 : Nat := 0
noncomputable def PySem.W.Fast.tw14971746577665755125 : Nat := 0
noncomputable def PySem.W.Fast.tw16735964619085208501 : Nat := 0
noncomputable def PySem.W.Fast.tw1156252341971683116 : Nat := 0
noncomputable def PySem.W.Fast.tw16296994325663420285 : Nat := 0
noncomputable def PySem.W.Fast.tw5882768191206486792 : Nat := 0
noncomputable def PySem.W.Fast.tw8376441433122354887 : Nat := 0
noncomputable def PySem.W.Fast.tw8603108125212654177 : Nat := 0
noncomputable def PySem.W.Fast.tw16804044748790271530 : Nat := 0
noncomputable def PySem.W.Fast.tw12371321757623732685 : Nat := 0
noncomputable def PySem.W.Fast.tw7365555872484859036 : Nat := 0
noncomputable def PySem.W.Fast.tw12329403913580668285 : Nat := 0
noncomputable def PySem.W.Fast.tw6004533443673955352 : Nat := 0
noncomputable def PySem.W.Fast.tw6929956602132211858 : Nat := 0
noncomputable def PySem.W.Fast.tw15823609455315575823 : Nat := 0
noncomputable def PySem.W.Fast.tw3386650904741475044 : Nat := 0
noncomputable def PySem.W.Fast.tw16593013826814733010 : Nat := 0
noncomputable def PySem.W.Fast.tw6059929106960060952 : Nat := 0
noncomputable def PySem.W.Fast.tw2422670821966735624 : Nat := 0
noncomputable def PySem.W.Fast.tw17954471519018878134 : Nat := 0
noncomputable def PySem.W.Fast.tw8400853705098224536 : Nat := 0
noncomputable def PySem.W.Fast.tw7783732958741208154 : Nat := 0
noncomputable def PySem.W.Fast.tw4292500188555128830 : Nat := 0
noncomputable def PySem.W.Fast.tw15480198773659482676 : Nat := 0
noncomputable def PySem.W.Fast.tw608726401823008365 : Nat := 0
noncomputable def PySem.W.Fast.tw16741492637210864865 : Nat := 0
noncomputable def PySem.W.Fast.tw9951705424602377420 : Nat := 0
noncomputable def PySem.W.Fast.tw4775785305629353868 : Nat := 0
noncomputable def PySem.W.Fast.tw15263041282635125899 : Nat := 0
noncomputable def PySem.W.Fast.tw7009043117176579089 : Nat := 0
noncomputable def PySem.W.Fast.tw14223099787259518943 : Nat := 0
noncomputable def PySem.W.Fast.tw13642483538084851733 : Nat := 0
noncomputable def PySem.W.Fast.tw13254397897704925713 : Nat := 0
noncomputable def PySem.W.Fast.tw14112274594779413971 : Nat := 0
noncomputable def PySem.W.Fast.tw6711915476519705758 : Nat := 0
noncomputable def PySem.W.Fast.tw17730448691065144110 : Nat := 0
noncomputable def PySem.W.Fast.tw12945451867199242903 : Nat := 0
noncomputable def PySem.W.Fast.tw4636218855388986860 : Nat := 0
noncomputable def PySem.W.Fast.tw11108263761283441063 : Nat := 0
noncomputable def PySem.W.Fast.tw4444965560193506482 : Nat := 0
noncomputable def PySem.W.Fast.tw7232422423428716515 : Nat := 0
noncomputable def PySem.W.Fast.tw11420187438672877268 : Nat := 0
noncomputable def PySem.W.Fast.tw16349216596472256690 : Nat := 0
noncomputable def PySem.W.Fast.tw13678640442995254988 : Nat := 0
noncomputable def PySem.W.Fast.tw4797165386629745026 : Nat := 0
noncomputable def PySem.W.Fast.tw6245536207120538393 : Nat := 0
noncomputable def PySem.W.Fast.tw14376985748213822385 : Nat := 0
noncomputable def PySem.W.Fast.tw16349804527192203551 : Nat := 0
noncomputable def PySem.W.Fast.tw3820604794100220378 : Nat := 0
noncomputable def PySem.W.Fast.tw8595292554425487202 : Nat := 0
noncomputable def PySem.W.Fast.tw7299303143086499733 : Nat := 0
noncomputable def PySem.W.Fast.tw11310463157757771331 : Nat := 0
noncomputable def PySem.W.Fast.tw387338674003428930 : Nat := 0
noncomputable def PySem.W.Fast.tw5345256250457102556 : Nat := 0
noncomputable def PySem.W.Fast.tw4011157648589011858 : Nat := 0
noncomputable def PySem.W.Fast.tw43969757491396457 : Nat := 0
noncomputable def PySem.W.Fast.tw5135500740108067664 : Nat := 0
noncomputable def PySem.W.Fast.tw5591276700874282246 : Nat := 0
noncomputable def PySem.W.Fast.tw219737044198020058 : Nat := 0
noncomputable def PySem.W.Fast.tw18263319221461684349 : Nat := 0
noncomputable def PySem.W.Fast.tw9948023125614773506 : Nat := 0
noncomputable def PySem.W.Fast.tw3856783459128436802 : Nat := 0
noncomputable def PySem.W.Fast.tw14553827428707814869 : Nat := 0
noncomputable def PySem.W.Fast.tw16374537267813192141 : Nat := 0
noncomputable def PySem.W.Fast.tw6792406925840432001 : Nat := 0
noncomputable def PySem.W.Fast.tw8017206721242287953 : Nat := 0
noncomputable def PySem.W.Fast.tw8753696776887207221 : Nat := 0
noncomputable def PySem.W.Fast.tw1370275717833778536 : Nat := 0
noncomputable def PySem.W.Fast.tw1402947280878808549 : Nat := 0
noncomputable def PySem.W.Fast.tw7650934615059315214 : Nat := 0
noncomputable def PySem.W.Fast.tw6817277305950994716 : Nat := 0
noncomputable def PySem.W.Fast.tw10941641332493087335 : Nat := 0
noncomputable def PySem.W.Fast.tw7208748513896859956 : Nat := 0
noncomputable def PySem.W.Fast.tw10500077913531017323 : Nat := 0
noncomputable def PySem.W.Fast.tw10942035263794033107 : Nat := 0
noncomputable def PySem.W.Fast.tw17100903815162463580 : Nat := 0
noncomputable def PySem.W.Fast.tw411341824665146567 : Nat := 0
noncomputable def PySem.W.Fast.tw4780955261492985856 : Nat := 0
noncomputable def PySem.W.Fast.tw15899114121259513789 : Nat := 0
noncomputable def PySem.W.Fast.tw932993149863042379 : Nat := 0
noncomputable def PySem.W.Fast.tw12813236842856870187 : Nat := 0
noncomputable def PySem.W.Fast.tw16018607276475445134 : Nat := 0
noncomputable def PySem.W.Fast.tw9908251947323293946 : Nat := 0
noncomputable def PySem.W.Fast.tw16437185098154296904 : Nat := 0
noncomputable def PySem.W.Fast.tw17300597898927385350 : Nat := 0
noncomputable def PySem.W.Fast.tw10470071008263537045 : Nat := 0
noncomputable def PySem.W.Fast.tw12635297910168745909 : Nat := 0
noncomputable def PySem.W.Fast.tw11186114360453789277 : Nat := 0
noncomputable def PySem.W.Fast.tw7299951869573292228 : Nat := 0
noncomputable def PySem.W.Fast.tw7932110497407068121 : Nat := 0
noncomputable def PySem.W.Fast.tw2354135333415324597 : Nat := 0
noncomputable def PySem.W.Fast.tw6714822604882049554 : Nat := 0
noncomputable def PySem.W.Fast.tw2660918139993853925 : Nat := 0
noncomputable def PySem.W.Fast.tw1333364371103165705 : Nat := 0
noncomputable def PySem.W.Fast.tw17640052667945600645 : Nat := 0
noncomputable def PySem.W.Fast.tw1041845030581493396 : Nat := 0
noncomputable def PySem.W.Fast.tw8224813933742928703 : Nat := 0
noncomputable def PySem.W.Fast.tw11892598404827812706 : Nat := 0
noncomputable def PySem.W.Fast.tw6380047634161181297 : Nat := 0
noncomputable def PySem.W.Fast.tw441327347791068078 : Nat := 0
noncomputable def PySem.W.Fast.tw12392613427281201732 : Nat := 0
noncomputable def PySem.W.Fast.tw9759809726879904816 : Nat := 0
noncomputable def PySem.W.Fast.tw11277716924127702174 : Nat := 0
noncomputable def PySem.W.Fast.tw3264259588550801142 : Nat := 0
noncomputable def PySem.W.Fast.tw2670528217467546775 : Nat := 0
noncomputable def PySem.W.Fast.tw18416463498863911781 : Nat := 0
noncomputable def PySem.W.Fast.tw12981051755390344553 : Nat := 0
noncomputable def PySem.W.Fast.tw16439824349840649037 : Nat := 0
noncomputable def PySem.W.Fast.tw11729385059970357855 : Nat := 0
noncomputable def PySem.W.Fast.tw1055568401681811165 : Nat := 0
noncomputable def PySem.W.Fast.tw10262943654017269364 : Nat := 0
noncomputable def PySem.W.Fast.tw13759679279233594173 : Nat := 0
noncomputable def PySem.W.Fast.tw9800571698397750058 : Nat := 0
noncomputable def PySem.W.Fast.tw5732905514179830355 : Nat := 0
noncomputable def PySem.W.Fast.tw7098571738820278039 : Nat := 0
noncomputable def PySem.W.Fast.tw4319705520415482375 : Nat := 0
noncomputable def PySem.W.Fast.tw16548257151911338427 : Nat := 0
noncomputable def PySem.W.Fast.tw5268983451555188008 : Nat := 0
noncomputable def PySem.W.Fast.tw17888162413812561239 : Nat := 0
noncomputable def PySem.W.Fast.tw14896874001708588922 : Nat := 0
noncomputable def PySem.W.Fast.tw5529568453561195837 : Nat := 0
noncomputable def PySem.W.Fast.tw17057272898397164401 : Nat := 0
noncomputable def PySem.W.Fast.tw14834023430324568649 : Nat := 0
noncomputable def PySem.W.Fast.tw9594665118957945026 : Nat := 0
noncomputable def PySem.W.Fast.tw11519604305632133818 : Nat := 0
noncomputable def PySem.W.Fast.tw8860024209350480642 : Nat := 0
noncomputable def PySem.W.Fast.tw17804436615005485693 : Nat := 0
noncomputable def PySem.W.Fast.tw8727135674562949291 : Nat := 0
noncomputable def PySem.W.Fast.tw11863081143760314161 : Nat := 0
noncomputable def PySem.W.Fast.tw9501820088010722379 : Nat := 0
noncomputable def PySem.W.Fast.tw15376083050721069600 : Nat := 0
noncomputable def PySem.W.Fast.tw2599325451414397859 : Nat := 0
noncomputable def PySem.W.Fast.tw1574873078441994576 : Nat := 0
noncomputable def PySem.W.Fast.tw5396446701170858492 : Nat := 0
noncomputable def PySem.W.Fast.tw13138059604875949641 : Nat := 0
noncomputable def PySem.W.Fast.tw9011979029575296479 : Nat := 0
noncomputable def PySem.W.Fast.tw11317593695737139937 : Nat := 0
noncomputable def PySem.W.Fast.tw16979880578912567463 : Nat := 0
noncomputable def PySem.W.Fast.tw11566699232636054958 : Nat := 0
noncomputable def PySem.W.Fast.tw17532718790514356516 : Nat := 0
noncomputable def PySem.W.Fast.tw7269565832213808900 : Nat := 0
noncomputable def PySem.W.Fast.tw4090926877573551719 : Nat := 0
noncomputable def PySem.W.Fast.tw151948405760981731 : Nat := 0
noncomputable def PySem.W.Fast.tw10596839373694312039 : Nat := 0
noncomputable def PySem.W.Fast.tw558745408833754511 : Nat := 0
noncomputable def PySem.W.Fast.tw3436264866546951355 : Nat := 0
noncomputable def PySem.W.Fast.tw18340240734955500558 : Nat := 0
noncomputable def PySem.W.Fast.tw17434858337260393937 : Nat := 0
noncomputable def PySem.W.Fast.tw12835720964997663042 : Nat := 0
noncomputable def PySem.W.Fast.tw15560500314895047343 : Nat := 0
noncomputable def PySem.W.Fast.tw2664551874359636763 : Nat := 0
noncomputable def PySem.W.Fast.tw15007238320947547705 : Nat := 0
noncomputable def PySem.W.Fast.tw9467589175468403638 : Nat := 0
noncomputable def PySem.W.Fast.tw8098380416015320538 : Nat := 0
noncomputable def PySem.W.Fast.tw11270796479367742343 : Nat := 0
noncomputable def PySem.W.Fast.tw12268644228514654432 : Nat := 0
noncomputable def PySem.W.Fast.tw5978237884098788730 : Nat := 0
noncomputable def PySem.W.Fast.tw1702518465993881591 : Nat := 0
noncomputable def PySem.W.Fast.tw11796506867022685745 : Nat := 0
noncomputable def PySem.W.Fast.tw16241802466949684156 : Nat := 0
noncomputable def PySem.W.Fast.tw9136488742655976645 : Nat := 0
noncomputable def PySem.W.Fast.tw10314498396905981064 : Nat := 0
noncomputable def PySem.W.Fast.tw1620339239838986703 : Nat := 0
noncomputable def PySem.W.Fast.tw9931943479562821362 : Nat := 0
noncomputable def PySem.W.Fast.tw4748654258956052638 : Nat := 0
noncomputable def PySem.W.Fast.tw10073347824450446311 : Nat := 0
noncomputable def PySem.W.Fast.tw13317431791736044220 : Nat := 0
noncomputable def PySem.W.Fast.tw11636919720809706868 : Nat := 0
noncomputable def PySem.W.Fast.tw11543547407058413889 : Nat := 0
noncomputable def PySem.W.Fast.tw4039474712603431140 : Nat := 0
noncomputable def PySem.W.Fast.tw460243522976405022 : Nat := 0
noncomputable def PySem.W.Fast.tw11985326045990495214 : Nat := 0
noncomputable def PySem.W.Fast.tw8719427161674164953 : Nat := 0
noncomputable def PySem.W.Fast.tw16697116713213952808 : Nat := 0
noncomputable def PySem.W.Fast.tw17164873540382356111 : Nat := 0
noncomputable def PySem.W.Fast.tw7581352650102555174 : Nat := 0
noncomputable def PySem.W.Fast.tw17000458434675057986 : Nat := 0
noncomputable def PySem.W.Fast.tw183835017167291270 : Nat := 0
noncomputable def PySem.W.Fast.tw5111356299099525756 : Nat := 0
noncomputable def PySem.W.Fast.tw16817318245366136608 : Nat := 0
noncomputable def PySem.W.Fast.tw900395245841561262 : Nat := 0
noncomputable def PySem.W.Fast.tw11306939235166856333 : Nat := 0
noncomputable def PySem.W.Fast.tw17517737089405305841 : Nat := 0
noncomputable def PySem.W.Fast.tw10029231156530900338 : Nat := 0
noncomputable def PySem.W.Fast.tw136631920214876835 : Nat := 0
noncomputable def PySem.W.Fast.tw14023627001141898710 : Nat := 0
noncomputable def PySem.W.Fast.tw16176465441171805009 : Nat := 0
noncomputable def PySem.W.Fast.tw10706342367453228570 : Nat := 0
noncomputable def PySem.W.Fast.tw10317580896714288900 : Nat := 0
noncomputable def PySem.W.Fast.tw2611137233208623240 : Nat := 0
noncomputable def PySem.W.Fast.tw313226197891681235 : Nat := 0
noncomputable def PySem.W.Fast.tw18101931140130867144 : Nat := 0
noncomputable def PySem.W.Fast.tw282004115355043989 : Nat := 0
noncomputable def PySem.W.Fast.tw13559156169165276386 : Nat := 0
noncomputable def PySem.W.Fast.tw9151444980202551346 : Nat := 0
noncomputable def PySem.W.Fast.tw6679490504615227074 : Nat := 0
noncomputable def PySem.W.Fast.tw1218959903707654005 : Nat := 0
noncomputable def PySem.W.Fast.tw9626621113073979434 : Nat := 0
noncomputable def PySem.W.Fast.tw17001327861769816259 : Nat := 0
noncomputable def PySem.W.Fast.tw9674257727999782656 : Nat := 0
noncomputable def PySem.W.Fast.tw15423634916342008072 : Nat := 0
noncomputable def PySem.W.Fast.tw16947794391021106201 : Nat := 0
noncomputable def PySem.W.Fast.tw12825359941727978080 : Nat := 0
noncomputable def PySem.W.Fast.tw2719445374943340272 : Nat := 0
noncomputable def PySem.W.Fast.tw17672482021469178181 : Nat := 0
noncomputable def PySem.W.Fast.tw1184552218554016812 : Nat := 0
noncomputable def PySem.W.Fast.tw951843321253372498 : Nat := 0
noncomputable def PySem.W.Fast.tw13335737130258781183 : Nat := 0
noncomputable def PySem.W.Fast.tw6722154040420286063 : Nat := 0
noncomputable def PySem.W.Fast.tw912392155897948271 : Nat := 0
noncomputable def PySem.W.Fast.tw10996506086634736982 : Nat := 0
noncomputable def PySem.W.Fast.tw3105397867545767578 : Nat := 0
noncomputable def PySem.W.Fast.tw17069979004554194336 : Nat := 0
noncomputable def PySem.W.Fast.tw11682084944484805031 : Nat := 0
noncomputable def PySem.W.Fast.tw7721631327575515661 : Nat := 0
noncomputable def PySem.W.Fast.tw16792545251062261874 : Nat := 0
noncomputable def PySem.W.Fast.tw13145125596335152023 : Nat := 0
noncomputable def PySem.W.Fast.tw14714103240675001986 : Nat := 0
noncomputable def PySem.W.Fast.tw18345786424863182364 : Nat := 0
noncomputable def PySem.W.Fast.tw12450158673883907302 : Nat := 0
noncomputable def PySem.W.Fast.tw17532440430192770315 : Nat := 0
noncomputable def PySem.W.Fast.tw14073706353221006472 : Nat := 0
noncomputable def PySem.W.Fast.tw505943868828395459 : Nat := 0
noncomputable def PySem.W.Fast.tw15542503528162795033 : Nat := 0
noncomputable def PySem.W.Fast.tw6434138532213402376 : Nat := 0
noncomputable def PySem.W.Fast.tw11994158751524154303 : Nat := 0
noncomputable def PySem.W.Fast.tw2478078296215019888 : Nat := 0
noncomputable def PySem.W.Fast.tw9787463984185863102 : Nat := 0
noncomputable def PySem.W.Fast.tw7892128664451923741 : Nat := 0
noncomputable def PySem.W.Fast.tw2862820112641550484 : Nat := 0
noncomputable def PySem.W.Fast.tw1086765413395364841 : Nat := 0
noncomputable def PySem.W.Fast.tw10948738476641704880 : Nat := 0
noncomputable def PySem.W.Fast.tw10424941004445345732 : Nat := 0
noncomputable def PySem.W.Fast.tw1355338860687761863 : Nat := 0
noncomputable def PySem.W.Fast.tw117213463901210413 : Nat := 0
noncomputable def PySem.W.Fast.tw9529234661008812162 : Nat := 0
noncomputable def PySem.W.Fast.tw15450981722951097364 : Nat := 0
noncomputable def PySem.W.Fast.tw11788150170368784547 : Nat := 0
noncomputable def PySem.W.Fast.tw3315324234476444515 : Nat := 0
noncomputable def PySem.W.Fast.tw2627984346626558326 : Nat := 0
noncomputable def PySem.W.Fast.tw14108194823987119177 : Nat := 0
noncomputable def PySem.W.Fast.tw7504490480230193789 : Nat := 0
noncomputable def PySem.W.Fast.tw15742981410569661332 : Nat := 0
noncomputable def PySem.W.Fast.tw9458956999447867950 : Nat := 0
noncomputable def PySem.W.Fast.tw4552823106982906706 : Nat := 0
noncomputable def PySem.W.Fast.tw11588390666370768167 : Nat := 0
noncomputable def PySem.W.Fast.tw3282434896037501709 : Nat := 0
noncomputable def PySem.W.Fast.tw12233582284571471492 : Nat := 0
noncomputable def PySem.W.Fast.tw10010936943081839664 : Nat := 0
noncomputable def PySem.W.Fast.tw347637069881736656 : Nat := 0
noncomputable def PySem.W.Fast.tw6967401301877209104 : Nat := 0
noncomputable def PySem.W.Fast.tw15034313371233782410 : Nat := 0
noncomputable def PySem.W.Fast.tw14168537005229113720 : Nat := 0
noncomputable def PySem.W.Fast.tw5902227825499142635 : Nat := 0
noncomputable def PySem.W.Fast.tw8902219603052485911 : Nat := 0
noncomputable def PySem.W.Fast.tw8796240567053077481 : Nat := 0
noncomputable def PySem.W.Fast.tw14386061602966655976 : Nat := 0
noncomputable def PySem.W.Fast.tw4558998842232669794 : Nat := 0
noncomputable def PySem.W.Fast.tw15066959818950650227 : Nat := 0
noncomputable def PySem.W.Fast.tw2283851925072248500 : Nat := 0
noncomputable def PySem.W.Fast.tw10954683086991030824 : Nat := 0
noncomputable def PySem.W.Fast.tw5770868932273138760 : Nat := 0
noncomputable def PySem.W.Fast.tw4980102563643897964 : Nat := 0
noncomputable def PySem.W.Fast.tw7496433998918960881 : Nat := 0
noncomputable def PySem.W.Fast.tw1320183511955256522 : Nat := 0
noncomputable def PySem.W.Fast.tw7275051467321613617 : Nat := 0
noncomputable def PySem.W.Fast.tw16494616584097029746 : Nat := 0
noncomputable def PySem.W.Fast.tw3766158894648301139 : Nat := 0
noncomputable def PySem.W.Fast.tw5189142188285759775 : Nat := 0
noncomputable def PySem.W.Fast.tw8642067239939848140 : Nat := 0
noncomputable def PySem.W.Fast.tw14224011070414065920 : Nat := 0
noncomputable def PySem.W.Fast.tw5925582254088234700 : Nat := 0
noncomputable def PySem.W.Fast.tw13900631225919944168 : Nat := 0
noncomputable def PySem.W.Fast.tw16049961110935095269 : Nat := 0
noncomputable def PySem.W.Fast.tw3972328310683599613 : Nat := 0
noncomputable def PySem.W.Fast.tw12866136484021002089 : Nat := 0
noncomputable def PySem.W.Fast.tw1419416864934026935 : Nat := 0
noncomputable def PySem.W.Fast.tw1962928258387122110 : Nat := 0
noncomputable def PySem.W.Fast.tw6550987210724342151 : Nat := 0
noncomputable def PySem.W.Fast.tw10718892041063643863 : Nat := 0
noncomputable def PySem.W.Fast.tw3976722010076183465 : Nat := 0
noncomputable def PySem.W.Fast.tw1092655722715705105 : Nat := 0
noncomputable def PySem.W.Fast.tw17964007177503468958 : Nat := 0
noncomputable def PySem.W.Fast.tw3698559305507148144 : Nat := 0
noncomputable def PySem.W.Fast.tw9285146279643344392 : Nat := 0
noncomputable def PySem.W.Fast.tw8119918657739134586 : Nat := 0
noncomputable def PySem.W.Fast.tw13789449189825218787 : Nat := 0
noncomputable def PySem.W.Fast.tw4407734736301137906 : Nat := 0
noncomputable def PySem.W.Fast.tw704327219915372674 : Nat := 0
noncomputable def PySem.W.Fast.tw6448080314894763839 : Nat := 0
noncomputable def PySem.W.Fast.tw15663404670287596823 : Nat := 0
noncomputable def PySem.W.Fast.tw17975652961387846372 : Nat := 0
noncomputable def PySem.W.Fast.tw13981391230805400906 : Nat := 0
noncomputable def PySem.W.Fast.tw17497748084772794779 : Nat := 0
noncomputable def PySem.W.Fast.tw667198328695590252 : Nat := 0
noncomputable def PySem.W.Fast.tw4549333791460862111 : Nat := 0
noncomputable def PySem.W.Fast.tw3152983702415266003 : Nat := 0
noncomputable def PySem.W.Fast.tw1291980286583624508 : Nat := 0
noncomputable def PySem.W.Fast.tw17403530162484420324 : Nat := 0
noncomputable def PySem.W.Fast.tw17894864189363708594 : Nat := 0
noncomputable def PySem.W.Fast.tw13054876178653020893 : Nat := 0
noncomputable def PySem.W.Fast.tw16979494861989939188 : Nat := 0
noncomputable def PySem.W.Fast.tw15614306127316084121 : Nat := 0
noncomputable def PySem.W.Fast.tw6947952154114656408 : Nat := 0
noncomputable def PySem.W.Fast.tw4515677705193469861 : Nat := 0
noncomputable def PySem.W.Fast.tw6176516700144440145 : Nat := 0
noncomputable def PySem.W.Fast.tw11625766737575182897 : Nat := 0
noncomputable def PySem.W.Fast.tw18350330562280901221 : Nat := 0
noncomputable def PySem.W.Fast.tw13512673800721320934 : Nat := 0
noncomputable def PySem.W.Fast.tw682011567655089306 : Nat := 0
noncomputable def PySem.W.Fast.tw17846936440860909165 : Nat := 0
noncomputable def PySem.W.Fast.tw1377046205977697930 : Nat := 0
noncomputable def PySem.W.Fast.tw11130039905162102590 : Nat := 0
noncomputable def PySem.W.Fast.tw6662432510661729299 : Nat := 0
noncomputable def PySem.W.Fast.tw3362959441861295915 : Nat := 0
noncomputable def PySem.W.Fast.tw11313170107247368264 : Nat := 0
noncomputable def PySem.W.Fast.tw16180582048198870337 : Nat := 0
noncomputable def PySem.W.Fast.tw14210447440969649564 : Nat := 0
noncomputable def PySem.W.Fast.tw7094674258960923220 : Nat := 0
noncomputable def PySem.W.Fast.tw9407582987413476825 : Nat := 0
noncomputable def PySem.W.Fast.tw1537898542681612871 : Nat := 0
noncomputable def PySem.W.Fast.tw8047484207015712433 : Nat := 0
noncomputable def PySem.W.Fast.tw4658958612460137192 : Nat := 0
noncomputable def PySem.W.Fast.tw11838138170533393997 : Nat := 0
noncomputable def PySem.W.Fast.tw15806122291839087668 : Nat := 0
noncomputable def PySem.W.Fast.tw12850107946570832962 : Nat := 0
noncomputable def PySem.W.Fast.tw1258299570235058372 : Nat := 0
noncomputable def PySem.W.Fast.tw14333388528381170442 : Nat := 0
noncomputable def PySem.W.Fast.tw3577408171920636059 : Nat := 0
noncomputable def PySem.W.Fast.tw13776390136698705113 : Nat := 0
noncomputable def PySem.W.Fast.tw4071324889030633612 : Nat := 0
noncomputable def PySem.W.Fast.tw7401281599722004195 : Nat := 0
noncomputable def PySem.W.Fast.tw13180171748994924942 : Nat := 0
noncomputable def PySem.W.Fast.tw4978915544186085027 : Nat := 0
noncomputable def PySem.W.Fast.tw1749818173716722547 : Nat := 0
noncomputable def PySem.W.Fast.tw7788680626742099145 : Nat := 0
noncomputable def PySem.W.Fast.tw6683783046931543321 : Nat := 0
noncomputable def PySem.W.Fast.tw13615603153576403970 : Nat := 0
noncomputable def PySem.W.Fast.tw16643706677886111943 : Nat := 0
noncomputable def PySem.W.Fast.tw9564595351457756722 : Nat := 0
noncomputable def PySem.W.Fast.tw6019396324639902685 : Nat := 0
noncomputable def PySem.W.Fast.tw16350708796919097252 : Nat := 0
noncomputable def PySem.W.Fast.tw4075660801711882420 : Nat := 0
noncomputable def PySem.W.Fast.tw12635813782599140982 : Nat := 0
noncomputable def PySem.W.Fast.tw11853533878840232495 : Nat := 0
noncomputable def PySem.W.Fast.tw15278061642289888581 : Nat := 0
noncomputable def PySem.W.Fast.tw17730428716208468724 : Nat := 0
noncomputable def PySem.W.Fast.tw11013792430000457035 : Nat := 0
noncomputable def PySem.W.Fast.tw14126943448341045398 : Nat := 0
noncomputable def PySem.W.Fast.tw1772237422875290029 : Nat := 0
noncomputable def PySem.W.Fast.tw14884601019740666482 : Nat := 0
noncomputable def PySem.W.Fast.tw1829445100760108279 : Nat := 0
noncomputable def PySem.W.Fast.tw16643379632663270332 : Nat := 0
noncomputable def PySem.W.Fast.tw8703263022893421829 : Nat := 0
noncomputable def PySem.W.Fast.tw7035115661146626270 : Nat := 0
noncomputable def PySem.W.Fast.tw9315938663221665524 : Nat := 0
noncomputable def PySem.W.Fast.tw9862997608875712007 : Nat := 0
noncomputable def PySem.W.Fast.tw11333186260410459676 : Nat := 0
noncomputable def PySem.W.Fast.tw11161088081135249708 : Nat := 0
noncomputable def PySem.W.Fast.tw12659028871203227004 : Nat := 0
noncomputable def PySem.W.Fast.tw470574548607681690 : Nat := 0
noncomputable def PySem.W.Fast.tw15894407043143930727 : Nat := 0
noncomputable def PySem.W.Fast.tw8424611434330503625 : Nat := 0
noncomputable def PySem.W.Fast.tw14326252917377295143 : Nat := 0
noncomputable def PySem.W.Fast.tw15168306246750427876 : Nat := 0
noncomputable def PySem.W.Fast.tw11452132507678324671 : Nat := 0
noncomputable def PySem.W.Fast.tw2460228577881660442 : Nat := 0
noncomputable def PySem.W.Fast.tw2334299552400917057 : Nat := 0
noncomputable def PySem.W.Fast.tw7198390536060210744 : Nat := 0
noncomputable def PySem.W.Fast.tw3764465048917985505 : Nat := 0
noncomputable def PySem.W.Fast.tw3094477031063562474 : Nat := 0
noncomputable def PySem.W.Fast.tw10528696920762540405 : Nat := 0
noncomputable def PySem.W.Fast.tw12393455550290869266 : Nat := 0
noncomputable def PySem.W.Fast.tw2447775223705975068 : Nat := 0
noncomputable def PySem.W.Fast.tw1258717718454355964 : Nat := 0
noncomputable def PySem.W.Fast.tw6654550962395885724 : Nat := 0
noncomputable def PySem.W.Fast.tw5697894365363955025 : Nat := 0
noncomputable def PySem.W.Fast.tw12172078356533094185 : Nat := 0
noncomputable def PySem.W.Fast.tw11445135464325071761 : Nat := 0
noncomputable def PySem.W.Fast.tw4434333111790514575 : Nat := 0
noncomputable def PySem.W.Fast.tw15766043655864335149 : Nat := 0
noncomputable def PySem.W.Fast.tw7745614565497352828 : Nat := 0
noncomputable def PySem.W.Fast.tw8032284361305108907 : Nat := 0
noncomputable def PySem.W.Fast.tw4224760802259116069 : Nat := 0
noncomputable def PySem.W.Fast.tw3636048126100218174 : Nat := 0
noncomputable def PySem.W.Fast.tw12832477231654346042 : Nat := 0
noncomputable def PySem.W.Fast.tw5032809538720368765 : Nat := 0
noncomputable def PySem.W.Fast.tw3880421473898291048 : Nat := 0
noncomputable def PySem.W.Fast.tw13987355940573415152 : Nat := 0
noncomputable def PySem.W.Fast.tw12767683915131110723 : Nat := 0
noncomputable def PySem.W.Fast.tw7276740287692124622 : Nat := 0
noncomputable def PySem.W.Fast.tw662354867322794072 : Nat := 0
noncomputable def PySem.W.Fast.tw2711585505577850959 : Nat := 0
noncomputable def PySem.W.Fast.tw1617757218408452269 : Nat := 0
noncomputable def PySem.W.Fast.tw17279654841073493023 : Nat := 0
noncomputable def PySem.W.Fast.tw15919542637913265678 : Nat := 0
noncomputable def PySem.W.Fast.tw16966814322356759819 : Nat := 0
noncomputable def PySem.W.Fast.tw7323676302269181137 : Nat := 0
noncomputable def PySem.W.Fast.tw8693227569615203950 : Nat := 0
noncomputable def PySem.W.Fast.tw8708707556590381134 : Nat := 0
noncomputable def PySem.W.Fast.tw5721027456603625697 : Nat := 0
noncomputable def PySem.W.Fast.tw16414604833108395602 : Nat := 0
noncomputable def PySem.W.Fast.tw2039238271031011813 : Nat := 0
noncomputable def PySem.W.Fast.tw2968979199505139716 : Nat := 0
noncomputable def PySem.W.Fast.tw15079194523842364033 : Nat := 0
noncomputable def PySem.W.Fast.tw6589095468515690095 : Nat := 0
noncomputable def PySem.W.Fast.tw5518745428033880147 : Nat := 0
noncomputable def PySem.W.Fast.tw3039592710220408265 : Nat := 0
noncomputable def PySem.W.Fast.tw17828083071136270317 : Nat := 0
noncomputable def PySem.W.Fast.tw12237943961548833269 : Nat := 0
noncomputable def PySem.W.Fast.tw392140993173905013 : Nat := 0
noncomputable def PySem.W.Fast.tw10323183001455561277 : Nat := 0
noncomputable def PySem.W.Fast.tw878741703135273975 : Nat := 0
noncomputable def PySem.W.Fast.tw18056578402003937789 : Nat := 0
noncomputable def PySem.W.Fast.tw15475462885187679331 : Nat := 0
noncomputable def PySem.W.Fast.tw6122645084068987007 : Nat := 0
noncomputable def PySem.W.Fast.tw12177639751122801600 : Nat := 0
noncomputable def PySem.W.Fast.tw11939915149646268982 : Nat := 0
noncomputable def PySem.W.Fast.tw5200128776193632040 : Nat := 0
noncomputable def PySem.W.Fast.tw18220123701641295943 : Nat := 0
noncomputable def PySem.W.Fast.tw11964429278604863157 : Nat := 0
noncomputable def PySem.W.Fast.tw18211773271919218964 : Nat := 0
noncomputable def PySem.W.Fast.tw2408619945344806742 : Nat := 0
noncomputable def PySem.W.Fast.tw14530364306720264245 : Nat := 0
noncomputable def PySem.W.Fast.tw13036272033356848781 : Nat := 0
noncomputable def PySem.W.Fast.tw18260038339965228139 : Nat := 0
noncomputable def PySem.W.Fast.tw4302124980754421698 : Nat := 0
noncomputable def PySem.W.Fast.tw4525517667737911620 : Nat := 0
noncomputable def PySem.W.Fast.tw8579058602437062094 : Nat := 0
noncomputable def PySem.W.Fast.tw1638017585896720355 : Nat := 0
noncomputable def PySem.W.Fast.tw17537794083376710389 : Nat := 0
noncomputable def PySem.W.Fast.tw3778451253796500701 : Nat := 0
noncomputable def PySem.W.Fast.tw17018628822417861297 : Nat := 0
namespace Mine
open_top hd for PySem.Challenge.rw_tl0052_01
end Mine
end
theorem Mine.rested : True := by
  w_top off
  trivial
section
open PySem
set_option maxRecDepth 100000
set_option maxHeartbeats 0
namespace Mine
noncomputable def svals : List Int := [1, 2, 3, 4, 6, 8, 12]
noncomputable def states : List (List Int) := [[], [1], [2], [3], [4], [6], [8], [12], [1, 2], [1, 3], [1, 4], [1, 6], [1, 12], [2, 3], [2, 4], [2, 6], [2, 12], [3, 4], [3, 6], [3, 12], [4, 6], [4, 12], [8, 1], [8, 2], [8, 3], [8, 4], [8, 6], [8, 12], [12, 4], [12, 6], [1, 2, 3], [1, 2, 4], [1, 2, 6], [1, 2, 12], [1, 3, 4], [1, 3, 6], [1, 3, 12], [1, 4, 6], [1, 4, 12], [1, 12, 4], [1, 12, 6], [2, 3, 4], [2, 3, 6], [2, 3, 12], [2, 4, 6], [2, 4, 12], [2, 12, 4], [2, 12, 6], [3, 4, 6], [3, 4, 12], [3, 12, 4], [3, 12, 6], [4, 12, 6], [8, 1, 2], [8, 1, 3], [8, 1, 4], [8, 1, 6], [8, 1, 12], [8, 2, 3], [8, 2, 4], [8, 2, 6], [8, 2, 12], [8, 3, 4], [8, 3, 6], [8, 3, 12], [8, 4, 6], [8, 4, 12], [8, 12, 4], [8, 12, 6], [12, 4, 6], [1, 2, 3, 4], [1, 2, 3, 6], [1, 2, 3, 12], [1, 2, 4, 6], [1, 2, 4, 12], [1, 2, 12, 4], [1, 2, 12, 6], [1, 3, 4, 6], [1, 3, 4, 12], [1, 3, 12, 4], [1, 3, 12, 6], [1, 4, 12, 6], [1, 12, 4, 6], [2, 3, 4, 6], [2, 3, 4, 12], [2, 3, 12, 4], [2, 3, 12, 6], [2, 4, 12, 6], [2, 12, 4, 6], [3, 4, 12, 6], [3, 12, 4, 6], [8, 1, 2, 3], [8, 1, 2, 4], [8, 1, 2, 6], [8, 1, 2, 12], [8, 1, 3, 4], [8, 1, 3, 6], [8, 1, 3, 12], [8, 1, 4, 6], [8, 1, 4, 12], [8, 1, 12, 4], [8, 1, 12, 6], [8, 2, 3, 4], [8, 2, 3, 6], [8, 2, 3, 12], [8, 2, 4, 6], [8, 2, 4, 12], [8, 2, 12, 4], [8, 2, 12, 6], [8, 3, 4, 6], [8, 3, 4, 12], [8, 3, 12, 4], [8, 3, 12, 6], [8, 4, 12, 6], [8, 12, 4, 6], [1, 2, 3, 4, 6], [1, 2, 3, 4, 8], [1, 2, 3, 4, 12], [1, 2, 3, 6, 8], [1, 2, 3, 6, 12], [1, 2, 3, 8, 12], [1, 2, 4, 6, 8], [1, 2, 4, 6, 12], [1, 2, 4, 8, 12], [1, 2, 6, 8, 12], [1, 3, 4, 6, 8], [1, 3, 4, 6, 12], [1, 3, 4, 8, 12], [1, 3, 6, 8, 12], [1, 4, 6, 8, 12], [2, 3, 4, 6, 8], [2, 3, 4, 6, 12], [2, 3, 4, 8, 12], [2, 3, 6, 8, 12], [2, 4, 6, 8, 12], [3, 4, 6, 8, 12], [1, 2, 3, 4, 6, 8], [1, 2, 3, 4, 6, 12], [1, 2, 3, 4, 8, 12], [1, 2, 3, 6, 8, 12], [1, 2, 4, 6, 8, 12], [1, 3, 4, 6, 8, 12], [2, 3, 4, 6, 8, 12], [1, 2, 3, 4, 6, 8, 12]]
noncomputable def place7 : Bool → List Int → List Nat
  | _, [] => []
  | b, v :: r => if v = 8 then 0 :: place7 b r else if v = 4 ∨ v = 12 then (if b then 5 else 4) :: place7 true r else v.toNat :: place7 b r
noncomputable def tabOf (led : Bool) (hs : List Int) : SetTable :=
  if hs.length ≤ 4 then { mask := 7, place := (place7 false hs).toArray, dummies := #[], finger := 0, led := led, moves := 0, plain := true }
  else { mask := 31, place := (hs.map Int.toNat).toArray, dummies := #[], finger := 0, led := led, moves := 1, plain := true }
noncomputable def nextOf (led : Bool) (hs : List Int) (v : Int) : Option (List Int) :=
  match (tabOf led hs).freeSlot v with
  | some (slot, false) =>
    let tp := (tabOf led hs).put slot
    let hs' := (SetTable.insertAt hs.toArray tp.2 v).toList
    if tp.1.fits hs'.length = false then none else
    if tp.1.tooFull then
      match tp.1.relaid hs'.toArray (SetTable.grown hs'.length) with
      | some (t'', order) =>
        let hs'' := (order.filterMap (hs'.toArray[·]?)).toList
        if (coversAll order hs'.length && t''.fits hs''.length && decide (t'' = tabOf led hs'')) = true then some hs'' else none
      | none => none
    else if tp.1 = tabOf led hs' then some hs' else none
  | _ => none
noncomputable def code13 : List Int → Nat
  | [] => 0
  | v :: r => v.toNat + 13 * code13 r
noncomputable def codes : List Nat := [0, 1, 2, 3, 4, 6, 8, 12, 27, 40, 53, 79, 157, 41, 54, 80, 158, 55, 81, 159, 82, 160, 21, 34, 47, 60, 86, 164, 64, 90, 534, 703, 1041, 2055, 716, 1054, 2068, 1067, 2081, 833, 1171, 717, 1055, 2069, 1068, 2082, 834, 1172, 1069, 2083, 835, 1173, 1174, 359, 528, 697, 1035, 2049, 541, 710, 1048, 2062, 723, 1061, 2075, 1074, 2088, 840, 1178, 1078, 9322, 13716, 26898, 13885, 27067, 10843, 15237, 13898, 27080, 10856, 15250, 15263, 14015, 13899, 27081, 10857, 15251, 15264, 14016, 15265, 14017, 6950, 9147, 13541, 26723, 9316, 13710, 26892, 13879, 27061, 10837, 15231, 9329, 13723, 26905, 13892, 27074, 10850, 15244, 13905, 27087, 10863, 15257, 15270, 14022, 180688, 237810, 352054, 242204, 356448, 360842, 242373, 356617, 361011, 361349, 242386, 356630, 361024, 361362, 361375, 242387, 356631, 361025, 361363, 361376, 361377, 3151032, 4636204, 4693326, 4697720, 4697889, 4697902, 4697903, 61072740]
theorem codes_eq : states.map code13 = codes := by decide +kernel
noncomputable def ok13 : List Int → Bool
  | [] => true
  | v :: r => (Nat.ble 1 v.toNat && Nat.ble v.toNat 12) && ok13 r
theorem states_ok13 : (states.all ok13) = true := by decide +kernel
theorem code13_inj : ∀ {a b : List Int}, ok13 a = true → ok13 b = true → code13 a = code13 b → a = b
  | [], [], _, _, _ => rfl
  | [], w :: s, _, hb, e => by
    simp only [ok13, Bool.and_eq_true, Nat.ble_eq] at hb
    simp only [code13] at e
    omega
  | v :: r, [], ha, _, e => by
    simp only [ok13, Bool.and_eq_true, Nat.ble_eq] at ha
    simp only [code13] at e
    omega
  | v :: r, w :: s, ha, hb, e => by
    simp only [ok13, Bool.and_eq_true, Nat.ble_eq] at ha hb
    simp only [code13] at e
    have h1 : v.toNat = w.toNat := by omega
    have h2 : code13 r = code13 s := by omega
    have h3 : v = w := by omega
    rw [h3, code13_inj ha.2 hb.2 h2]
noncomputable def chk1 (led : Bool) (hs : List Int) (v : Int) : Bool := match nextOf led hs v with | some hs' => ok13 hs' && codes.any (Nat.beq (code13 hs')) | none => false
noncomputable def slotAt (led : Bool) (hs : List Int) : Nat → Nat
  | 0 => 0
  | i + 1 => (tabOf led hs).place.getD i 0 + 1
noncomputable def chk2 (led : Bool) (hs : List Int) : Bool := (tabOf led hs).fits hs.length && (List.range (hs.length + 1)).all fun i => SetTable.below (tabOf led hs).place (slotAt led hs i) == i
noncomputable def good (led : Bool) (hs : List Int) : Bool := svals.all fun v => hs.contains v || chk1 led hs v
noncomputable def part (k : Nat) : List (List Int) := (states.drop (24 * k)).take 24
theorem split6 : states = part 0 ++ (part 1 ++ (part 2 ++ (part 3 ++ (part 4 ++ part 5)))) := by decide +kernel
theorem good_t0 : (part 0).all (good true) = true := by decide +kernel
theorem good_t1 : (part 1).all (good true) = true := by decide +kernel
theorem good_t2 : (part 2).all (good true) = true := by decide +kernel
theorem good_t3 : (part 3).all (good true) = true := by decide +kernel
theorem good_t4 : (part 4).all (good true) = true := by decide +kernel
theorem good_t5 : (part 5).all (good true) = true := by decide +kernel
theorem chk1_t : (states.all fun hs => svals.all fun v => hs.contains v || chk1 true hs v) = true := by
  show states.all (good true) = true
  rw [split6, List.all_append, List.all_append, List.all_append, List.all_append, List.all_append, good_t0, good_t1, good_t2, good_t3, good_t4, good_t5]
  rfl
theorem good_f0 : (part 0).all (good false) = true := by decide +kernel
theorem good_f1 : (part 1).all (good false) = true := by decide +kernel
theorem good_f2 : (part 2).all (good false) = true := by decide +kernel
theorem good_f3 : (part 3).all (good false) = true := by decide +kernel
theorem good_f4 : (part 4).all (good false) = true := by decide +kernel
theorem good_f5 : (part 5).all (good false) = true := by decide +kernel
theorem chk1_f : (states.all fun hs => svals.all fun v => hs.contains v || chk1 false hs v) = true := by
  show states.all (good false) = true
  rw [split6, List.all_append, List.all_append, List.all_append, List.all_append, List.all_append, good_f0, good_f1, good_f2, good_f3, good_f4, good_f5]
  rfl
theorem chk2_t : (states.all fun hs => chk2 true hs) = true := by decide +kernel
theorem chk2_f : (states.all fun hs => chk2 false hs) = true := by decide +kernel
theorem next_ok (led : Bool) {hs : List Int} {v : Int} (h : hs ∈ states) (hv : v ∈ svals) (hn : v ∉ hs) : ∃ hs', nextOf led hs v = some hs' ∧ hs' ∈ states := by
  have key : chk1 led hs v = true := by
    have := fun (led : Bool) (c : (states.all fun hs => svals.all fun v => hs.contains v || chk1 led hs v) = true) => List.all_eq_true.mp (List.all_eq_true.mp c hs h) v hv
    cases led with
    | true => have q := this true chk1_t; simpa [hn] using q
    | false => have q := this false chk1_f; simpa [hn] using q
  unfold chk1 at key
  split at key
  · rename_i hs' e
    rw [Bool.and_eq_true] at key
    obtain ⟨c, hc, hb⟩ := List.any_eq_true.mp key.2
    rw [← codes_eq] at hc
    obtain ⟨s, hs1, rfl⟩ := List.mem_map.mp hc
    have := code13_inj key.1 (List.all_eq_true.mp states_ok13 s hs1) (Nat.eq_of_beq_eq_true hb)
    exact ⟨hs', e, this ▸ hs1⟩
  · cases key
theorem walk_ok (led : Bool) {hs : List Int} (h : hs ∈ states) : (tabOf led hs).fits hs.length = true ∧ ∀ i, i ≤ hs.length → SetTable.below (tabOf led hs).place (slotAt led hs i) = i := by
  have key : chk2 led hs = true := by
    cases led with
    | true => exact List.all_eq_true.mp chk2_t hs h
    | false => exact List.all_eq_true.mp chk2_f hs h
  unfold chk2 at key
  rw [Bool.and_eq_true] at key
  refine ⟨key.1, fun i hi => ?_⟩
  have := List.all_eq_true.mp key.2 i (List.mem_range.mpr (by omega))
  exact beq_iff_eq.mp this
end Mine
end
section
open PySem PySem.W
namespace Mine
theorem rm0 {d a c : Nat} (h : d + a < c) : d < c := Nat.lt_of_le_of_lt (Nat.le_add_right d a) h
theorem rm1 {d a x c : Nat} (h : d + a < c) (e : x ≤ a) : d + x < c := Nat.lt_of_le_of_lt (Nat.add_le_add_left e d) h
theorem rm2 {d a x y c : Nat} (h : d + a < c) (e : x + y ≤ a) : d + x + y < c := Nat.add_assoc d x y ▸ rm1 h e
theorem flow4 {P : Flow → Prop} (f : Flow) (h1 : ∀ v, P (.ret v)) (h2 : P .brk) (h3 : P .next) (h4 : P .next → P .cont) : P f := by
  cases f with
  | ret v => exact h1 v
  | brk => exact h2
  | next => exact h3
  | cont => exact h4 h3
theorem isv {z : Int} {v : Value} {P : Value → Prop} (h : ∃ t, v = .int z t) (k : ∀ t, P (.int z t)) : P v := by
  obtain ⟨t, rfl⟩ := h
  exact k t
theorem g37 : ∀ j, j < 38 → 39 - j = 37 - j + 2 := by decide
theorem g39 : ∀ j, j < 38 → 39 - (37 - j + 1) = j + 1 := by decide
theorem g38 {j n : Nat} (hj : j < 38) (h : 39 - j = n + 2) : 39 - (n + 1) = j + 1 := by
  have e : 37 - j = n := Nat.add_right_cancel ((g37 j hj).symm.trans h)
  rw [← e]
  exact g39 j hj
theorem wit_lt {f i : Nat} (h : i < ((f : Int) + 1 + 1 - 1).toNat) (hf : f ≤ 12) : i + 1 ≤ 14 := by
  rw [Int.add_sub_cancel] at h
  exact Nat.le_trans (show i + 1 ≤ f + 1 from h) (Nat.le_trans (Nat.succ_le_succ hf) (by decide))
end Mine
end
local macro_rules | `(tactic| k_slotget) => `(tactic| with_reducible_and_instances assumption)
local macro_rules | `(tactic| k_slotset) => `(tactic| first | k_slotget | (refine Nat.lt_trans ?_ (by k_slotget); k_slotset) | exact Nat.lt_succ_of_lt (by k_slotget) | exact Nat.lt_of_succ_lt (by k_slotget) | fail)
local macro_rules | `(tactic| omega) => `(tactic| ((try dsimp only); first | k_slotget | exact Nat.ne_of_lt (by k_slotset) | exact Nat.ne_of_gt (by k_slotset) | k_slotset | exact Ne.symm (by k_slotget) | exact Nat.le_of_ble_eq_true rfl | exact Nat.le_of_lt (by k_slotset) | exact Mine.rm2 (by k_slotget) (Nat.le_of_ble_eq_true rfl) | exact Mine.rm1 (by k_slotget) (Nat.le_of_ble_eq_true rfl) | exact Mine.rm0 (by k_slotget) | (refine Int.le_trans ?_ (by k_slotget); decide) | (refine Int.lt_of_le_of_lt (by k_slotget) ?_; decide) | (refine Nat.lt_of_le_of_lt (by k_slotget) ?_; decide) | (refine Nat.le_trans (by k_slotget) ?_; decide) | ((first | (with_reducible rename (_ ∧ _) ∧ _ => kc) | (with_reducible rename _ ≠ _ ∧ _ => kc)); k_lt kc; first | k_slotget | exact Ne.symm (by k_slotget) | fail) | decide | fail))
local macro_rules | `(tactic| k_lt $h:ident) => `(tactic| ((first | (replace $h := PySem.W.allLt_of $h; simp only [PySem.W.AllLt, and_true] at $h:ident) | (try simp only [PySem.W.AllLt, PySem.W.GnNe, and_true] at $h:ident)); (have kc := $h); (repeat (have kq := And.left kc; replace kc := And.right kc; (repeat (have kr := And.left kq; replace kq := And.right kq))))))
section
open PySem PySem.W PySem.W.X PySem.W.ZRun PySem.Spec PySem.Calls PyProof.Rows
set_option maxRecDepth 100000
set_option maxHeartbeats 0
set_option linter.unusedVariables false
namespace Mine
abbrev Amb (w : World) (p : Program) (loose : List Str) (mean : ExcName → Option Value) (mg mb : Str → Option Value) (d u : Nat)
    (C : Around → Heap → Heap → Addr → (Str → Option Value) → List (Addr × Obj) → Shared → (Value → Shared → Prop) → (Value → Shared → Prop) → Prop) : Prop :=
  ∀ {dp un : Nat} {gd : Option (List Code)} {cn : Str} {cs : Scope} {a : Addr} {ccd : Value} {cl : List (Str × Addr)} {outer : List Env} {A₀ : Around} {base h₀ : Heap} {L : Addr} {m : Str → Option Value} {news : List (Addr × Obj)} {s : Shared} {Q E : Value → Shared → Prop},
    Below A₀ base outer h₀ → Fr h₀ L s.heap m → (Mine.hd.heap_39 w.params).In h₀ → News h₀ L s.heap news → Top p loose mean mg mb h₀ → cs.kind = .function → dp + d < recursionLimit → un + u < cLine →
      C (ktrTop dp un gd cn cs L a ccd cl outer) base h₀ L m news s Q E
noncomputable def stepOf (n : Int) : Int := ([2, 3, 4, 6, 8, 12] : List Int).getD (n.fmod 6).toNat 0
noncomputable def firstOf (n : Int) : Int := (n.fdiv 6).fmod (stepOf n) + 1
abbrev tupObj (vs : Array Value) (ep : Nat) : Obj := { cls := .type "tuple", data := .seq vs ep }
def Halt (P : Prop) : Prop := P
theorem Halt.mk {P : Prop} (h : Halt P) : P := h
theorem hideP {P : Prop} (h : ∀ Q : Prop, (P → Q) → Q) : P := h P id
theorem News.drop {h₀ h : Heap} {L : Addr} {news news' : List (Addr × Obj)} (N : News h₀ L h news') (hs : ∀ p ∈ news, p ∈ news') : News h₀ L h news := fun p hp => N p (hs p hp)
theorem News.cut1 {h₀ h : Heap} {L : Addr} {a b : Addr × Obj} {r : List (Addr × Obj)} (N : News h₀ L h (a :: b :: r)) : News h₀ L h (a :: r) :=
  News.drop N fun p hp => by
    rcases List.mem_cons.mp hp with e | e
    · subst e; exact .head _
    · exact .tail _ (.tail _ e)
theorem News.cut0 {h₀ h : Heap} {L : Addr} {a : Addr × Obj} {r : List (Addr × Obj)} (N : News h₀ L h (a :: r)) : News h₀ L h r := News.drop N fun _ hp => .tail _ hp
theorem c3 : ∀ i : Nat, i < 3 → i = 0 ∨ i = 1 ∨ i = 2 := by decide
theorem c6 : ∀ i : Nat, i < 6 → i = 0 ∨ i = 1 ∨ i = 2 ∨ i = 3 ∨ i = 4 ∨ i = 5 := by decide
theorem c13 : ∀ i : Nat, i < 13 → i = 0 ∨ i = 1 ∨ i = 2 ∨ i = 3 ∨ i = 4 ∨ i = 5 ∨ i = 6 ∨ i = 7 ∨ i = 8 ∨ i = 9 ∨ i = 10 ∨ i = 11 ∨ i = 12 := by decide
theorem dec_lt {i n : Nat} (h : i < n) : n + 1 - (i + 1) < n + 1 - i := by omega
theorem step_le {k : Int} (h : k = 2 ∨ k = 3 ∨ k = 4 ∨ k = 6 ∨ k = 8 ∨ k = 12) : 2 ≤ k ∧ k ≤ 12 := by
  rcases h with e | e | e | e | e | e <;> subst e <;> decide
theorem step_cases (n : Int) : stepOf n = 2 ∨ stepOf n = 3 ∨ stepOf n = 4 ∨ stepOf n = 6 ∨ stepOf n = 8 ∨ stepOf n = 12 := by
  unfold stepOf
  have h1 : 0 ≤ n.fmod 6 := Int.fmod_nonneg_of_pos n (by omega)
  have h2 : n.fmod 6 < 6 := Int.fmod_lt_of_pos n (by omega)
  generalize n.fmod 6 = k at h1 h2
  obtain ⟨k, rfl⟩ := Int.eq_ofNat_of_zero_le h1
  rcases c6 k (Int.ofNat_lt.mp h2) with e | e | e | e | e | e <;> subst e <;> simp
theorem step_ne (n : Int) : stepOf n ≠ 0 := by
  rcases step_cases n with e | e | e | e | e | e <;> rw [e] <;> decide
section
variable {prog : Program} {w : World} {A A₀ : Around} {s : Shared} {K : Frag} {L : Addr} {h₀ base : Heap} {m mg mb : Str → Option Value} {p : Program} {loose : List Str} {mean : ExcName → Option Value}
theorem code_defS {small rest : List (Addr × Obj)} {env : Env} {outer : List Env} {R : Result → Shared → Prop} {name qual : Str} {params : Arguments} {body : List Stmt} {scope : Scope} {dV kV doc pm cdv ct oc : Value} {an od : Option Addr} {osl : Array (Option Value)} {f : Addr} {args : Args} {binds : List (Str × Value)}
    (B : Below A₀ base outer h₀) (F : Fr h₀ L s.heap m) (X₀ : K.In h₀) (N : News h₀ L s.heap (small ++ rest)) (hdis : ∀ p ∈ rest, p.1 ∉ small.map (·.1)) (T : Top p loose mean mg mb h₀) (hA : A.frames = some (env :: outer)) (hf : env.frame = some L) (hke : env.scope.kind = .function)
    (ho : K.lookup f = some ⟨oc, od, .func (fnOf name qual params body scope dV kV doc pm an cdv ct), osl⟩) (hcd : codeIn K cdv qual = true) (hroom : A.depth < recursionLimit)
    (hbind : BindsTo s (fnOf name qual params body scope dV kV doc pm an cdv ct) args binds) (hloc : ∀ y ∈ binds, scope.names.lookup y.1 = some .local)
    (h : ∀ g L' h₁, Fr h₀ L g m → Fr g L' h₁ (fun y => binds.reverse.lookup y) → News g L' h₁ small → Below A base (env :: outer) g → K.In g → Top p loose mean mg mb g → (∀ p ∈ small, p.1 < L') → (∀ p ∈ rest, g.get? p.1 = some p.2) →
      wpAny (model prog w) (A.deeper (envOf qual scope L' f cdv)) (execs body (envOf qual scope L' f cdv))
        (fun fl s' => LeaveK h₀ L m g (fun r s' => News h₀ L s'.heap rest → R r s') (match fl with | .ret v => v | _ => .none) s')
        (fun e s' => wpAny (model prog w) (A.deeper (envOf qual scope L' f cdv)) (leaving (envOf qual scope L' f cdv) e) (fun _ s'' => R (.error e) s'') (fun e' s'' => R (.error e') s'') s')
        { s with heap := h₁, toks := s.toks + binds.length })
    (hco : scope.isCoroutine = false) (hgen : scope.isGenerator = false) (hk : scope.kind = .function)
    (hcell : ∀ x ∈ scope.names, x.2 ≠ .cell) : codeAny (model prog w) A (.call (.ref f) args) R s := by
  have N1 : News h₀ L s.heap small := News.drop N fun p hp => List.mem_append_left _ hp
  have N2 : News h₀ L s.heap rest := News.drop N fun p hp => List.mem_append_right _ hp
  obtain ⟨FG, BG, st, lv⟩ := groundX (R := fun r s' => News h₀ L s'.heap rest → R r s') B F N1 hA hf hke
  refine codeAny_call_def (fd := fnOf name qual params body scope dV kV doc pm an cdv ct) (body := body) (binds := binds) hroom ((X₀.keeps F.keep) _ _ ho) rfl (T.nolimit.keeps F.keep) (codeRec_of (X₀.keeps F.keep) hcd) rfl hbind hcell hloc (fun h₁ hns hk₁ => ?_) hco hgen hk
  refine wpAny_mono (h _ s.heap.objs.size h₁ FG ⟨hns, fun b o e => hk₁ b o (of_hideAll _ e), Nat.le_of_eq (hideAll_size _ _)⟩
    (fun p hp => ⟨hk₁ _ _ (N1 p hp).1, Nat.ne_of_lt (Heap.lt_size (N1 p hp).1), hideAll_none _ (List.mem_map_of_mem hp)⟩) BG (X₀.keeps st) (T.keeps st) (fun p hp => Heap.lt_size (N1 p hp).1) (fun p hp => hideAll_get _ (N2 p hp).1 (hdis p hp))) (fun fl s' hl => ?_) fun _ _ y => y
  refine lv _ _ hl fun p hp => ⟨?_, (N2 p hp).2⟩
  obtain ⟨L', m', news', F', _, _⟩ := hl
  exact F'.keep _ _ (hideAll_get _ (N2 p hp).1 (hdis p hp))
end
theorem News.app {h₀ h : Heap} {L : Addr} {a b : List (Addr × Obj)} (N : News h₀ L h a) (N' : News h₀ L h b) : News h₀ L h (a ++ b) := fun p hp => (List.mem_append.mp hp).elim (N p) (N' p)
section
variable {prog : Program} {w : World} {A A₀ : Around} {s : Shared} {K : Frag} {L : Addr} {h₀ base : Heap} {m mg mb : Str → Option Value} {p : Program} {loose : List Str} {mean : ExcName → Option Value}
theorem code_defM {small rest : List (Addr × Obj)} {env : Env} {outer : List Env} {R : Result → Shared → Prop} {name qual : Str} {params : Arguments} {body : List Stmt} {scope : Scope} {dV kV doc pm cdv ct oc : Value} {an od : Option Addr} {osl : Array (Option Value)} {f : Addr} {args : Args} {binds : Addr → List (Str × Value)}
    (B : Below A₀ base outer h₀) (F : Fr h₀ L s.heap m) (X₀ : K.In h₀) (N : News h₀ L s.heap (small ++ rest)) (hdis : ∀ p ∈ rest, p.1 ∉ small.map (·.1)) (T : Top p loose mean mg mb h₀) (hA : A.frames = some (env :: outer)) (hf : env.frame = some L) (hke : env.scope.kind = .function)
    (ho : K.lookup f = some ⟨oc, od, .func (fnOf name qual params body scope dV kV doc pm an cdv ct), osl⟩) (hcd : codeIn K cdv qual = true) (hroom : A.depth < recursionLimit)
    (hbind : bindArgs (fnOf name qual params body scope dV kV doc pm an cdv ct) args = (alloc { cls := .type "dict", data := .dict #[] } >>= fun D => pure (binds D))) (hloc : ∀ D, ∀ y ∈ binds D, scope.names.lookup y.1 = some .local)
    (h : ∀ D g L' h₁ tk, Fr h₀ L g m → Fr g L' h₁ (fun y => (binds D).reverse.lookup y) → News g L' h₁ ((D, dictOf [] 0) :: small) → Below A base (env :: outer) g → K.In g → Top p loose mean mg mb g → (∀ p ∈ small, p.1 < D) → (D == sysModules) = false → (∀ p ∈ rest, g.get? p.1 = some p.2) →
      wpAny (model prog w) (A.deeper (envOf qual scope L' f cdv)) (execs body (envOf qual scope L' f cdv))
        (fun fl s' => LeaveK h₀ L m g (fun r s' => News h₀ L s'.heap rest → R r s') (match fl with | .ret v => v | _ => .none) s')
        (fun e s' => wpAny (model prog w) (A.deeper (envOf qual scope L' f cdv)) (leaving (envOf qual scope L' f cdv) e) (fun _ s'' => R (.error e) s'') (fun e' s'' => R (.error e') s'') s')
        { s with heap := h₁, toks := tk })
    (hco : scope.isCoroutine = false) (hgen : scope.isGenerator = false) (hk : scope.kind = .function)
    (hcell : ∀ x ∈ scope.names, x.2 ≠ .cell) : codeAny (model prog w) A (.call (.ref f) args) R s := by
  have N1 : News h₀ L s.heap small := News.drop N fun p hp => List.mem_append_left _ hp
  have N2 : News h₀ L s.heap rest := News.drop N fun p hp => List.mem_append_right _ hp
  refine codeAny_call_function (fd := fnOf name qual params body scope dV kV doc pm an cdv ct) (body := body) hroom ((X₀.keeps F.keep) _ _ ho) rfl hco hgen rfl (codeRec_of (X₀.keeps F.keep) hcd) ?_
  rw [hbind]
  refine wpAny_bind (wpAny_alloc (wpAny_pure ?_))
  have F' := F.push { cls := .type "dict", data := .dict #[] }
  have N1' := N1.push F { cls := .type "dict", data := .dict #[] }
  have N2' : News h₀ L (s.heap.push { cls := .type "dict", data := .dict #[] }) rest := fun p hp => ⟨Heap.get?_push_of_some _ (N2 p hp).1, (N2 p hp).2⟩
  have hdis' : ∀ p ∈ rest, p.1 ∉ ((s.heap.objs.size, ({ cls := .type "dict", data := .dict #[] } : Obj)) :: small).map (·.1) := fun p hp hm => by
    rcases List.mem_cons.mp hm with e | e
    · exact absurd (Heap.lt_size (N2 p hp).1) (by rw [e]; exact Nat.lt_irrefl _)
    · exact hdis p hp e
  generalize hH : s.heap.push { cls := .type "dict", data := .dict #[] } = H at F' N1' N2' ⊢
  obtain ⟨FG, BG, st, lv⟩ := groundX (s := { s with heap := H }) (R := fun r s' => News h₀ L s'.heap rest → R r s') B F' N1' hA hf hke
  refine wpAny_newFunctionEnv hcell (hloc _) (fun h₁ hns hsb => ⟨(T.nolimit.keeps F'.keep).fresh _ hsb, codeAny_func ?_⟩) hk
  have hk₁ : ∀ b o, H.get? b = some o → h₁.get? b = some o := fun b o e => hsb.extBut b o (Nat.ne_of_lt (Heap.lt_size e)) (Heap.get?_push_of_some _ e)
  refine wpAny_mono (h s.heap.objs.size _ H.objs.size h₁ _ FG ⟨hns, fun b o e => hk₁ b o (of_hideAll _ e), Nat.le_of_eq (hideAll_size _ _)⟩
    (fun p hp => ⟨hk₁ _ _ (N1' p hp).1, Nat.ne_of_lt (Heap.lt_size (N1' p hp).1), hideAll_none _ (List.mem_map_of_mem hp)⟩) BG (X₀.keeps st) (T.keeps st) (fun p hp => Heap.lt_size (N1 p hp).1) (F.notModules (modules_low T.nolimit)) (fun p hp => hideAll_get _ (N2' p hp).1 (hdis' p hp))) (fun fl s' hl => ?_) fun _ _ y => y
  refine lv _ _ hl fun p hp => ⟨?_, (N2 p hp).2⟩
  obtain ⟨L', m', news', F'', _, _⟩ := hl
  exact F''.keep _ _ (hideAll_get _ (N2' p hp).1 (hdis' p hp))
end
section
variable {prog : Program} {w : World} {A A₀ : Around} {s : Shared} {K : Frag} {L : Addr} {h₀ base : Heap} {m mg mb : Str → Option Value} {p : Program} {loose : List Str} {mean : ExcName → Option Value}
theorem code_defCS {small rest : List (Addr × Obj)} {env : Env} {outer : List Env} {R : Result → Shared → Prop} {name qual : Str} {params : Arguments} {body : List Stmt} {scope : Scope} {dV kV doc pm cdv ct oc : Value} {an od : Option Addr} {osl : Array (Option Value)} {f : Addr} {args : Args} {binds : List (Str × Value)}
    (B : Below A₀ base outer h₀) (F : Fr h₀ L s.heap m) (X₀ : K.In h₀) (N : News h₀ L s.heap (small ++ rest)) (hdis : ∀ p ∈ rest, p.1 ∉ small.map (·.1)) (T : Top p loose mean mg mb h₀) (hA : A.frames = some (env :: outer)) (hf : env.frame = some L) (hke : env.scope.kind = .function)
    (ho : K.lookup f = some ⟨oc, od, .func (fnOf name qual params body scope dV kV doc pm an cdv ct), osl⟩) (hcd : codeIn K cdv qual = true) (hroom : A.depth < recursionLimit)
    (hbind : BindsTo s (fnOf name qual params body scope dV kV doc pm an cdv ct) args binds) (hkind : (binds.all fun y => scope.names.lookup y.1 == some .local || scope.names.lookup y.1 == some .cell) = true)
    (hnd : ((cellsFrom 0 scope.names []).map (·.1)).Nodup)
    (h : ∀ g L' h₁ tk cells, Fr h₀ L g m → Fr g L' h₁ (bindL (envOfC qual scope L' f cdv).kindOf binds fun _ => none) → News g L' h₁ (cells ++ small) →
      CellsAre (bindC (envOfC qual scope L' f cdv).kindOf binds fun _ => none) (cellsFrom (L' + 1) scope.names []) cells → Below A base (env :: outer) g → K.In g → Top p loose mean mg mb g → (∀ p ∈ small, p.1 < L') → (∀ p ∈ rest, g.get? p.1 = some p.2) →
      wpAny (model prog w) (A.deeper (envOfC qual scope L' f cdv)) (execs body (envOfC qual scope L' f cdv))
        (fun fl s' => LeaveK h₀ L m g (fun r s' => News h₀ L s'.heap rest → R r s') (match fl with | .ret v => v | _ => .none) s')
        (fun e s' => wpAny (model prog w) (A.deeper (envOfC qual scope L' f cdv)) (leaving (envOfC qual scope L' f cdv) e) (fun _ s'' => R (.error e) s'') (fun e' s'' => R (.error e') s'') s')
        { s with heap := h₁, toks := tk })
    (hco : scope.isCoroutine = false) (hgen : scope.isGenerator = false) (hk : scope.kind = .function) : codeAny (model prog w) A (.call (.ref f) args) R s := by
  have N1 : News h₀ L s.heap small := News.drop N fun p hp => List.mem_append_left _ hp
  have N2 : News h₀ L s.heap rest := News.drop N fun p hp => List.mem_append_right _ hp
  obtain ⟨FG, BG, st, lv⟩ := groundX (R := fun r s' => News h₀ L s'.heap rest → R r s') B F N1 hA hf hke
  refine codeAny_call_function ((hroom)) ((X₀.keeps F.keep) _ _ ho) rfl hco hgen rfl (codeRec_of (X₀.keeps F.keep) hcd) (hbind _ _ _ _ ?_)
  refine wpAny_newFunctionEnv_cells hk (kindsX hkind _) fun env' he s' x => ?_
  subst he
  refine ⟨(T.nolimit.keeps F.keep).keeps x.toInCall.keep, codeAny_func ?_⟩
  obtain ⟨h₁, tk, rfl, _⟩ := x.done
  have hk₁ := x.toInCall.keep
  obtain ⟨cells, NC, Y⟩ := Cl.news (h₀ := s.heap) (Nat.le_refl _) fun n c hm => ⟨x.cell n c (lookup_of_mem_nodup (cellsFrom_names scope.names 0 (s.heap.objs.size + 1) [] [] rfl ▸ hnd) hm), x.above n c hm⟩
  refine wpAny_mono (h _ s.heap.objs.size h₁ tk cells FG ⟨x.toInCall.ns, fun b o e => hk₁ b o (of_hideAll _ e), Nat.le_of_eq (hideAll_size _ _)⟩ (fun p hp => ?_) Y BG (X₀.keeps st) (T.keeps st) (fun p hp => Heap.lt_size (N1 p hp).1) (fun p hp => hideAll_get _ (N2 p hp).1 (hdis p hp))) (fun fl s' hl => ?_) fun _ _ y => y
  · rcases List.mem_append.mp hp with hp | hp
    · refine ⟨(NC p hp).1, (NC p hp).2.1, ?_⟩
      cases q : (hideAll s.heap (small.map (·.1))).get? p.1 with
      | none => rfl
      | some o => have := of_hideAll _ q; rw [(NC p hp).2.2] at this; cases this
    · exact ⟨hk₁ _ _ (N1 p hp).1, Nat.ne_of_lt (Heap.lt_size (N1 p hp).1), hideAll_none _ (List.mem_map_of_mem hp)⟩
  · refine lv _ _ hl fun p hp => ⟨?_, (N2 p hp).2⟩
    obtain ⟨L', m', news', F'', _, _⟩ := hl
    exact F''.keep _ _ (hideAll_get _ (N2 p hp).1 (hdis p hp))
end
theorem dis_nil {rest : List (Addr × Obj)} : ∀ p ∈ rest, p.1 ∉ ([] : List (Addr × Obj)).map (·.1) := fun _ _ h => nomatch h
theorem first_bounds (n : Int) : 1 ≤ firstOf n ∧ firstOf n ≤ 12 ∧ 2 ≤ stepOf n ∧ stepOf n ≤ 12 ∧ firstOf n ≤ stepOf n := by
  have h := step_cases n
  have hs := step_le h
  have hp : 0 < stepOf n := Int.lt_of_lt_of_le (by decide) hs.1
  have h1 : 0 ≤ (n.fdiv 6).fmod (stepOf n) := Int.fmod_nonneg_of_pos _ hp
  have h2 : (n.fdiv 6).fmod (stepOf n) < stepOf n := Int.fmod_lt_of_pos _ hp
  unfold firstOf
  exact ⟨Int.le_add_of_nonneg_left h1, Int.le_trans h2 hs.2, hs.1, hs.2, h2⟩
theorem first_nat (n : Int) : 0 < (firstOf n).toNat ∧ (firstOf n).toNat ≤ 12 := by have := first_bounds n; omega
theorem step_nat (n : Int) : 0 < (stepOf n).toNat ∧ (stepOf n).toNat ≤ 12 := by have := first_bounds n; omega
inductive Sp (S : List Addr) : List (Addr × Obj) → List (Addr × Obj) → Prop
  | nil : Sp S [] []
  | drop {p : Addr × Obj} {l r : List (Addr × Obj)} : Sp S l r → Sp S (p :: l) r
  | keep {p : Addr × Obj} {l r : List (Addr × Obj)} : p.1 ∉ S → Sp S l r → Sp S (p :: l) (p :: r)
theorem Sp.sub {S : List Addr} {l r : List (Addr × Obj)} (h : Sp S l r) : ∀ p ∈ r, p ∈ l ∧ p.1 ∉ S := by
  induction h with
  | nil => intro p hp; cases hp
  | drop _ ih => intro p hp; exact ⟨.tail _ (ih p hp).1, (ih p hp).2⟩
  | keep hn _ ih =>
    intro p hp
    rcases List.mem_cons.mp hp with e | e
    · subst e; exact ⟨.head _, hn⟩
    · exact ⟨.tail _ (ih p e).1, (ih p e).2⟩
theorem Sp.dropTup {S : List Addr} {l r : List (Addr × Obj)} {a : Addr} {x y : Int} {t u : Tok} {e : Nat} (h : Sp S l r) : Sp S ((a, tupObj #[.int x t, .int y u] e) :: l) r := .drop h
theorem Sp.dropTup' {S : List Addr} {l r : List (Addr × Obj)} {a : Addr} {x y : Int} {t u : Tok} {e : Nat} (h : Sp S l r) : Sp S ((a, { cls := .type "tuple", data := .seq (List.toArray [.int x t, .int y u]) e }) :: l) r := .drop h
theorem Sp.dropWords {S : List Addr} {l r : List (Addr × Obj)} {a : Addr} {x y : Str} {t u : Tok} {e : Nat} (h : Sp S l r) : Sp S ((a, listOf #[.str x t, .str y u] e) :: l) r := .drop h
theorem News.sp {h₀ h : Heap} {L : Addr} {S : List Addr} {news small rest : List (Addr × Obj)} (N : News h₀ L h news) (hs : ∀ p ∈ small, p ∈ news) (sp : Sp S news rest) (e : small.map (·.1) = S) :
    News h₀ L h (small ++ rest) ∧ ∀ p ∈ rest, p.1 ∉ small.map (·.1) :=
  ⟨News.app (News.drop N hs) (News.drop N fun p hp => (sp.sub p hp).1), fun p hp => e ▸ (sp.sub p hp).2⟩
theorem nin1 {a x : Nat} (h : a ≠ x) : a ∉ [x] := by simpa using h
theorem nin2 {a x y : Nat} (h1 : a ≠ x) (h2 : a ≠ y) : a ∉ [x, y] := by simp [h1, h2]
theorem nin3 {a x y z : Nat} (h1 : a ≠ x) (h2 : a ≠ y) (h3 : a ≠ z) : a ∉ [x, y, z] := by simp [h1, h2, h3]
theorem allLt_iff {d : Addr} : ∀ {l : List (Addr × Obj)}, AllLt d l ↔ ∀ p ∈ l, p.1 < d
  | [] => ⟨fun _ _ h => (nomatch h), fun _ => trivial⟩
  | _ :: _ => ⟨fun h p hp => by
      rcases List.mem_cons.mp hp with e | e
      · subst e; exact h.1
      · exact allLt_iff.mp h.2 p e, fun h => ⟨h _ (.head _), allLt_iff.mpr fun p hp => h p (.tail _ hp)⟩⟩
theorem gnNe_rest {g h : Heap} {L' : Addr} {tp : Addr} {o : Obj} {l rest : List (Addr × Obj)} (N : News g L' h ((tp, o) :: l)) (hr : ∀ p ∈ rest, g.get? p.1 = some p.2) : GnNe tp rest :=
  gnNe_of fun p hp e => by
    have h1 := (N _ (.head _)).2.2
    have h2 := hr p hp
    rw [e] at h2
    exact absurd (h1.symm.trans h2) (by simp)
theorem join_one (sep x : Str) : Txt.join sep [x] = x := by
  first | rfl | (simp [Txt.join, Txt.glued]; done) | (unfold Txt.join Txt.glued; simp)
theorem News.cut2app {h₀ h : Heap} {L : Addr} {x a b c d e : Addr × Obj} {rest : List (Addr × Obj)} (N : News h₀ L h [x, a, b, c, d, e]) (nR : News h₀ L h rest) : News h₀ L h (x :: c :: d :: e :: rest) :=
  News.drop (News.app N nR) fun p hp => by
    simp only [List.mem_cons] at hp
    simp only [List.mem_cons, List.mem_append, List.not_mem_nil, or_false]
    rcases hp with e | e | e | e | e <;> simp [e]
theorem News.cut1app {h₀ h : Heap} {L : Addr} {x a : Addr × Obj} {l rest : List (Addr × Obj)} (N : News h₀ L h (x :: a :: l)) (nR : News h₀ L h rest) : News h₀ L h (x :: (l ++ rest)) :=
  News.drop (News.app N nR) fun p hp => by
    simp only [List.mem_cons, List.mem_append] at hp ⊢
    rcases hp with e | e | e <;> simp [e]
theorem News.tab7 {h₀ h : Heap} {L : Addr} {A B C I c o d : Addr × Obj} (N : News h₀ L h [A, B, C, I, c, o, d]) : News h₀ L h [I, A, o, d] :=
  News.drop N fun p hp => by
    simp only [List.mem_cons, List.not_mem_nil, or_false] at hp ⊢
    rcases hp with e | e | e | e <;> simp [e]
theorem News.ws5 {h₀ h : Heap} {L : Addr} {a b x o d : Addr × Obj} {rest : List (Addr × Obj)} (N : News h₀ L h [a, b, x, o, d]) (nR : News h₀ L h rest) : News h₀ L h (a :: b :: o :: d :: rest) :=
  News.drop (News.app N nR) fun p hp => by
    simp only [List.mem_cons] at hp
    simp only [List.mem_cons, List.mem_append, List.not_mem_nil, or_false]
    rcases hp with e | e | e | e | e <;> simp [e]
abbrev lawProg : Program := PySem.Challenge.rw_tl0052_01.row.prog
end Mine
end
section
open PySem PySem.W PySem.W.X PySem.W.ZRun PySem.Spec PySem.Calls PyProof.Rows
set_option maxRecDepth 100000
set_option maxHeartbeats 0
set_option linter.unusedVariables false
namespace Mine
theorem rx_attrs : PlainAttrs "re.Pattern" := ⟨⟨"object.__getattribute__", by rw [typeLookup_type, builtinLookup_eq_fast]; kernel_rfl, by decide +kernel⟩, by rw [typeLookup_type, builtinLookup_eq_fast]; kernel_rfl⟩
theorem rx_slot : Slot "re.Pattern" "search" "re.Pattern.search" :=
  .of (owner := "re.Pattern") (n := "search") (by rw [typeLookup_type, builtinLookup_eq_fast]; kernel_rfl) (by decide +kernel) (by decide +kernel) (by decide +kernel)
    (by first | exact .inl (by decide +kernel) | exact .inr (by decide +kernel)) (by rw [isSubtype_type]; kernel_rfl)
theorem rx_type : typeOf (.builtin "re.Pattern.search") = pure (.type "method_descriptor") := by show builtinType _ = _; rw [builtinType_eq_fast]; kernel_rfl
theorem rx_entry : entryFor table "re.Pattern.search" = some Builtin.«re.Pattern.search» := entryFor_of_tree (by kernel_rfl)
theorem rx_args (a b : Value) : argsOk "re.Pattern.search" ⟨[a, b], []⟩ := by unfold argsOk; kernel_rfl
noncomputable def noFind (code : Array Nat) (x : Str) : Bool :=
  match ((Sre.forSearch code x.cps 0 (min (0 : Int).toNat x.cps.size) (min ((2 : Int) ^ 63 - 1).toNat x.cps.size) false).runFor Builtin.Re.reTurnSteps).outcome with
  | some .failed => true
  | _ => false
theorem wp_rules {M : Model} {A : Around} {E : Value → Shared → Prop} (f : Nat → PUnit → Sem (ForInStep PUnit)) (hf : ∀ i s (Q : ForInStep PUnit → Shared → Prop), Q (.yield ⟨⟩) s → wpAny M A (f i ⟨⟩) Q E s) :
    ∀ (l : List Nat) (s : Shared) (Q : PUnit → Shared → Prop), Q ⟨⟩ s → wpAny M A (forIn l PUnit.unit f) Q E s
  | [], s, Q, h => wpAny_pure h
  | i :: r, s, Q, h => by
    rw [List.forIn_cons]
    exact wpAny_bind (hf i s _ (wp_rules f hf r s Q h))
theorem rx_end {M : Model} {A : Around} {E : Value → Shared → Prop} {s : Shared} {m : Sre.M} {Q : Option Sre.M → Shared → Prop} (h1 : (m.runFor Builtin.Re.reTurnSteps).outcome = some .failed) (h : Q none s) :
    wpAny M A (Builtin.Re.reRunToEnd m) Q E s := by
  unfold Builtin.Re.reRunToEnd
  have e : Builtin.Re.reDrive (2 ^ 64) m = pure (m.runFor Builtin.Re.reTurnSteps) := by
    show (if (m.runFor Builtin.Re.reTurnSteps).outcome.isSome then pure (m.runFor Builtin.Re.reTurnSteps) else _) = _
    rw [h1]; rfl
  refine wpAny_bind (wpAny_of_eq e ?_)
  refine wpAny_bind (wp_rules _ (fun i s Q hq => ?_) _ _ _ ?_)
  · split
    · exact wpAny_bind (wpAny_rule (wpAny_pure hq))
    · exact wpAny_pure hq
  rw [h1]
  exact wpAny_pure h
section
variable {prog : Program} {w : World} {A : Around} {E : Value → Shared → Prop} {s : Shared}
theorem rx_method {a : Addr} {o : Obj} {pl : Sem Bool} {Q : Value × List Value → Shared → Prop} (ho : s.heap.get? a = some o) (hc : o.cls = .type "re.Pattern") (hd : o.dict = none)
    (h : Q (.builtin "re.Pattern.search", [.ref a]) s) : wpAny (model prog w) A (getMethod (.ref a) "search" pl) Q E s :=
  getMethod_builtin ⟨o, ho, hc⟩ rx_attrs rx_slot rx_type (fun b e => by cases e; exact ⟨o, ho, hd⟩) h
theorem rx_named (v : Value) : Builtin.Re.reNamed "re.Pattern.search" "search" ["string", "pos", "endpos"] 1 [v] [] = pure [some v, none, none] := by rfl
theorem rx_none {a c : Addr} {fl : Int} {t1 t2 t3 t6 : Tok} {x : Str} {t : Tok} {code : Array Value} {n : Nat} {Q : Value → Shared → Prop} {src : Str}
    (ho : s.heap.get? a = some { cls := .type "re.Pattern", data := .fields #[.str src t1, .int fl t2, .int 0 t3, .none, .none, .ref c, .int 0 t6] })
    (hc : s.heap.get? c = some { cls := .type "tuple", data := .seq code n })
    (hrun : noFind ((code.map Builtin.Re.reRawOf).map (·.toNat)) x = true)
    (h : Q .none s) : wpAny (model prog w) A (call (.builtin "re.Pattern.search") [.ref a, .str x t]) Q E s := by
  have hT : s.TypeIs (.ref a) "re.Pattern" := ⟨_, ho, rfl⟩
  refine wpAny_call (codeAny_call_builtin rx_slot.plain rx_entry ?_)
  refine rx_slot.check _ _ _ _ _ _ _ _ hT (rx_args _ _) ?_
  unfold Builtin.«re.Pattern.search» Builtin.Re.reTarget
  refine wpAny_bind (m := Builtin.Re.reTarget "re.Pattern.search" "search" ⟨[.ref a, .str x t], []⟩) ?_
  unfold Builtin.Re.reTarget
  refine wpAny_bind (wpAny_of_eq (rx_named _) ?_)
  refine wpAny_bind (wpAny_pure ?_)
  refine wpAny_bind (wpAny_pure ?_)
  refine wpAny_bind (wpAny_fieldsOf ho rfl ?_)
  refine wpAny_bind (wpAny_of_eq (a := (x.cps, 0)) rfl ?_)
  dsimp only
  refine wpAny_bind (wpAny_of_eq (a := PUnit.unit) rfl ?_)
  refine wpAny_bind (m := Builtin.Re.reRawItems (.ref c)) ?_
  unfold Builtin.Re.reRawItems
  refine wpAny_bind (wpAny_seqItems hc rfl ?_)
  refine wpAny_pure (wpAny_pure ?_)
  unfold Builtin.Re.reAnswer
  refine wpAny_bind (rx_end ?_ ?_)
  · unfold noFind at hrun
    split at hrun
    · assumption
    · cases hrun
  · exact wpAny_pure h
theorem rx_method_K {K : Frag} {h₀ : Heap} {L : Addr} {m : Str → Option Value} {a : Addr} {dt : Data} {sl : Array (Option Value)} {pl : Sem Bool} {Q : Value × List Value → Shared → Prop} (F : Fr h₀ L s.heap m) (X : K.In h₀)
    (hl : K.lookup a = some ⟨.type "re.Pattern", none, dt, sl⟩) (h : Q (.builtin "re.Pattern.search", [.ref a]) s) : wpAny (model prog w) A (getMethod (.ref a) "search" pl) Q E s :=
  rx_method (F.keep _ _ (X _ _ hl)) rfl rfl h
theorem rx_none_K {K : Frag} {h₀ : Heap} {L : Addr} {m : Str → Option Value} {a c : Addr} {fl : Int} {t1 t2 t3 t6 : Tok} {x : Str} {t : Tok} {code : Array Value} {n : Nat} {Q : Value → Shared → Prop} {src : Str} (F : Fr h₀ L s.heap m) (X : K.In h₀)
    (ho : K.lookup a = some ⟨.type "re.Pattern", none, .fields #[.str src t1, .int fl t2, .int 0 t3, .none, .none, .ref c, .int 0 t6], #[]⟩)
    (hc : K.lookup c = some ⟨.type "tuple", none, .seq code n, #[]⟩)
    {cd : Array Nat} (hcd : (code.map Builtin.Re.reRawOf).map (·.toNat) = cd) (hrun : noFind cd x = true)
    (h : Q .none s) : wpAny (model prog w) A (call (.builtin "re.Pattern.search") [.ref a, .str x t]) Q E s :=
  rx_none (F.keep _ _ (X _ _ ho)) (F.keep _ _ (X _ _ hc)) (hcd ▸ hrun) h
end
noncomputable def codeN : Array Nat := #[14, 10, 4, 1, 1, 22, 0, 31, 16, 127, 0, 13, 7, 22, 0, 31, 16, 127, 0, 1]
noncomputable def codeV : Array Nat := #[14, 14, 4, 1, 1, 9, 4294966783, 0, 0, 2147483648, 0, 0, 0, 0, 0, 13, 11, 9, 4294966783, 0, 0, 2147483648, 0, 0, 0, 0, 0, 1]
noncomputable def okN (x : Str) : Bool := noFind codeN x
noncomputable def okV (x : Str) : Bool := noFind codeV x
abbrev leadOf (f s : Int) : Str := Txt.mul (Str.ofString " ") f ++ Str.ofString "\t" ++ Txt.mul (Str.ofString " ") s
theorem mem12 : ∀ k : Nat, k < 13 → 1 ≤ (k : Int) → (k : Int) ∈ ([1, 2, 3, 4, 5, 6, 7, 8, 9, 10, 11, 12] : List Int) := by decide
theorem lead_all (P : Int → Int → Prop) (h : ∀ s ∈ ([2, 3, 4, 6, 8, 12] : List Int), ∀ f ∈ ([1, 2, 3, 4, 5, 6, 7, 8, 9, 10, 11, 12] : List Int), f ≤ s → P f s) (n : Int) : P (firstOf n) (stepOf n) := by
  have hb := first_bounds n
  refine h _ ?_ _ ?_ hb.2.2.2.2
  · have := step_cases n
    simp only [List.mem_cons, List.not_mem_nil, or_false]
    exact this
  · obtain ⟨k, hk⟩ := Int.eq_ofNat_of_zero_le (Int.le_trans (by decide) hb.1)
    rw [hk] at hb ⊢
    exact mem12 k (Nat.lt_succ_of_le (Int.ofNat_le.mp hb.2.1)) hb.1
theorem lead_okV (n : Int) : okV (leadOf (firstOf n) (stepOf n)) = true := lead_all (fun f s => okV (leadOf f s) = true) (by decide +kernel) n
theorem lead_len (n : Int) : (leadOf (firstOf n) (stepOf n)).length ≤ 100 := lead_all (fun f s => (leadOf f s).length ≤ 100) (by decide +kernel) n
noncomputable def Cased (b x : Str) : Prop := x = b ∨ x = Txt.upper b
theorem cased_ok {b x : Str} (h : Cased b x) (h1 : okN b = true) (h2 : okN (Txt.upper b) = true) : okN x = true := by
  rcases h with e | e <;> subst e <;> assumption
section
variable {M : Model} {A : Around} {E : Value → Shared → Prop} {s : Shared} {g : Heap} {L' : Addr} {m : Str → Option Value} {news : List (Addr × Obj)} {b : Str} {tb : Tok}
noncomputable def JoinEnd (g : Heap) (L' : Addr) (m : Str → Option Value) (news : List (Addr × Obj)) (b key : Str) (s : Shared) (fl : Flow) (s' : Shared) : Prop :=
  fl = .next ∧ ∃ x t h' tk', Cased b x ∧ s' = { s with heap := h', toks := tk' } ∧ Fr g L' h' (fun y => if y = key then some (.str x t) else m y) ∧ News g L' h' news
theorem join_name {key : Str} {T : Sem Flow} {Q : Flow → Shared → Prop} (F : Fr g L' s.heap m) (N : News g L' s.heap news) (hb : m key = some (.str b tb))
    (h1 : wpAny M A T (JoinEnd g L' m news b key s) E s)
    (h2 : ∀ x t h' tk', Cased b x → Fr g L' h' (fun y => if y = key then some (.str x t) else m y) → News g L' h' news → Q .next { s with heap := h', toks := tk' }) : wpAny M A T Q E s :=
  wpAny_mono h1 (fun fl s' ⟨e, x, t, h', tk', c, e', F', N'⟩ => by subst e e'; exact h2 x t h' tk' c F' N') fun _ _ h => h
theorem lower_cased {prog : Program} {w : World} {x : Str} {t : Tok} {Q : Value → Shared → Prop} (hc : Cased b x) (h1 : Txt.lower b = b) (h2 : Txt.lower (Txt.upper b) = b) (h3 : b.length ≤ 1000)
    (h : Q (.str b s.toks) { s with toks := s.toks + 1 }) : wpAny (model prog w) A (call (.builtin "str.lower") [.str x t]) Q E s := by
  have e : Txt.lower x = b := by rcases hc with e | e <;> subst e <;> assumption
  refine SC.lower (by rw [e]; exact decide_eq_false (by rw [sizeLine_eq]; omega)) ?_
  rw [e]; exact h
theorem join_same {h : Heap} {key : Str} {v : Value} (F : Fr g L' h m) (hb : m key = some v) : Fr g L' h (fun y => if y = key then some v else m y) := by
  have e : (fun y => if y = key then some v else m y) = m := by
    funext y
    by_cases h : y = key
    · subst h; rw [if_pos rfl, hb]
    · rw [if_neg h]
  rw [e]; exact F
theorem JoinEnd.up {key : Str} {t : Tok} {h' : Heap} {tk' : Nat} (F : Fr g L' h' (fun y => if y = key then some (.str (Txt.upper b) t) else m y)) (N : News g L' h' news) : JoinEnd g L' m news b key s .next { s with heap := h', toks := tk' } :=
  ⟨rfl, _, _, _, _, .inr rfl, rfl, F, N⟩
theorem JoinEnd.same {key : Str} {h' : Heap} {tk' : Nat} (F : Fr g L' h' m) (hb : m key = some (.str b tb)) (N : News g L' h' news) : JoinEnd g L' m news b key s .next { s with heap := h', toks := tk' } :=
  ⟨rfl, _, _, _, _, .inl rfl, rfl, join_same F hb, N⟩
end
end Mine
end
section
open PySem PySem.W PySem.W.X PySem.W.ZRun PySem.Spec PySem.Calls PyProof.Rows
set_option maxRecDepth 100000
set_option maxHeartbeats 0
set_option linter.unusedVariables false
namespace Mine
noncomputable def TurnJ (h₀ : Heap) (L I : Addr) (oI : Obj) (J : (Str → Option Value) → List (Addr × Obj) → Prop) (s₁ : Shared) (Q : Flow → Shared → Prop) (f : Flow) (s₂ : Shared) : Prop :=
  match f with
  | .ret v => Q (.ret v) s₂
  | .brk => Q .next s₂
  | _ => ∃ h' tk m' news', s₂ = { s₁ with heap := h', toks := tk } ∧ Fr h₀ L h' m' ∧ News h₀ L h' ((I, oI) :: news') ∧ (∀ p ∈ news', p.1 ≠ I) ∧ J m' news'
theorem TurnJ.next {h₀ : Heap} {L I : Addr} {oI : Obj} {J : (Str → Option Value) → List (Addr × Obj) → Prop} {s₁ : Shared} {Q : Flow → Shared → Prop} {h' : Heap} {tk : Nat} {m' : Str → Option Value} {news' : List (Addr × Obj)}
    (F : Fr h₀ L h' m') (N : News h₀ L h' ((I, oI) :: news')) (off : ∀ p ∈ news', p.1 ≠ I) (hJ : J m' news') : TurnJ h₀ L I oI J s₁ Q .next { s₁ with heap := h', toks := tk } :=
  ⟨h', tk, m', news', rfl, F, N, off, hJ⟩
section
variable {prog : Program} {w : World} {A : Around} {E : Value → Shared → Prop} {s : Shared} {env : Env} {h₀ : Heap} {x : Str} {body : List Stmt} {Q : Flow → Shared → Prop}
theorem loopJ {I : Addr} {n : Nat} {P : Nat → Value → Prop} {St : Nat → Heap → Prop} {m₀ : Str → Option Value} {news : List (Addr × Obj)} (J : Nat → (Str → Option Value) → List (Addr × Obj) → Prop)
    (W : Walks prog w A I [I] [I] n P St) (hSt : ∀ i h, St i h → ∃ o, h.get? I = some o) (hL : env.locals ≠ I) (hI : h₀.get? I = none) (hoff : ∀ p ∈ news, p.1 ≠ I) (hst : St 0 s.heap) (F : Fr h₀ env.locals s.heap m₀) (N : News h₀ env.locals s.heap news) (hj : J 0 m₀ news)
    (turn : ∀ i v m₁ news₁ h tk oI, i < n → P i v → J i m₁ news₁ → (∀ p ∈ news₁, p.1 ≠ I) → Fr h₀ env.locals h (fun y => if y = x then some v else m₁ y) → News h₀ env.locals h ((I, oI) :: news₁) →
      wpAny (model prog w) A (execs body env) (TurnJ h₀ env.locals I oI (J (i + 1)) { s with heap := h, toks := tk } Q) E { s with heap := h, toks := tk })
    (done : ∀ m₁ news₁ h tk, J n m₁ news₁ → Fr h₀ env.locals h m₁ → News h₀ env.locals h news₁ → Q .next { s with heap := h, toks := tk }) :
    LoopAtV prog w A h₀ env x body Q E (.ref I) s := by
  refine ⟨I, [I], [I], n, P, St, m₀, news, J, rfl, W, by simpa using hL, fun b hb => by rw [List.mem_singleton.mp hb]; exact hI, fun p hp hm => hoff p hp (List.mem_singleton.mp hm), hst, F, N, hj, ?_, fun h' tk m' news' F' N' _ hJ => done m' news' h' tk hJ F' N'⟩
  rintro i v m₁ news₁ s₁ own ⟨hh, tk, rfl⟩ hin hP hJ off hown hget hall hst' F₁ N₁
  obtain ⟨oI, hoI⟩ := hSt _ _ hst'
  have hm : (I, oI) ∈ own := hall I (by simp) hI oI hoI
  have hone : ∀ p ∈ own, p = (I, oI) := fun p hp => by
    have e1 : p.1 = I := by simpa using hown p hp
    have e2 := hget p hp
    rw [e1, hoI] at e2
    exact Prod.ext e1 (Option.some.inj e2).symm
  have off' : ∀ p ∈ news₁, p.1 ≠ I := fun p hp e => off p hp (by simp [e])
  refine wpAny_mono (turn i v m₁ news₁ hh tk oI hin hP hJ off' F₁ (News.drop N₁ fun p hp => ?_)) (fun f s₂ h₂ => ?_) fun _ _ e => e
  · rcases List.mem_cons.mp hp with e | e
    · exact e ▸ List.mem_append_left _ hm
    · exact List.mem_append_right _ e
  · have fin : (∃ h' tk' m' news', s₂ = { s with heap := h', toks := tk' } ∧ Fr h₀ env.locals h' m' ∧ News h₀ env.locals h' ((I, oI) :: news') ∧ (∀ p ∈ news', p.1 ≠ I) ∧ J (i + 1) m' news') →
        LoopStepU h₀ env.locals [I] own (J (i + 1)) { s with heap := hh, toks := tk } .next s₂ := by
      rintro ⟨h', tk', m', news', e, F', N', off'', hJ'⟩
      refine ⟨rfl, h', tk', m', news', e, F', News.drop N' fun p hp => ?_, fun p hp hm => off'' p hp (List.mem_singleton.mp hm), hJ'⟩
      rcases List.mem_append.mp hp with q | q
      · rw [hone p q]; exact .head _
      · exact .tail _ q
    cases f with
    | ret v => exact .ret h₂
    | brk => exact .brk h₂
    | next => exact .next (fin h₂)
    | cont => exact .cont (fin h₂)
end
section
variable {prog : Program} {w : World} {A : Around} {E : Value → Shared → Prop} {s : Shared} {env : Env} {h₀ : Heap} {x : Str} {body : List Stmt} {Q : Flow → Shared → Prop}
theorem iter_strJ {xt : Str} {tx : Tok} {m₀ : Str → Option Value} {news : List (Addr × Obj)} (J : Nat → (Str → Option Value) → List (Addr × Obj) → Prop) (ha : xt.cps.all (· < 128) = true) (hh : A.handled = none)
    (F : Fr h₀ env.locals s.heap m₀) (N : News h₀ env.locals s.heap news) (hj : J 0 m₀ news)
    (turn : ∀ I i c t m₁ news₁ h tk oI, (∀ p ∈ news, p.1 < I) → xt.cps[i]? = some c → J i m₁ news₁ → (∀ p ∈ news₁, p.1 ≠ I) → Fr h₀ env.locals h (fun y => if y = x then some (.str ⟨#[c]⟩ t) else m₁ y) → News h₀ env.locals h ((I, oI) :: news₁) →
      wpAny (model prog w) A (execs body env) (TurnJ h₀ env.locals I oI (J (i + 1)) { s with heap := h, toks := tk } Q) E { s with heap := h, toks := tk })
    (done : ∀ m₁ news₁ h tk, J xt.cps.size m₁ news₁ → Fr h₀ env.locals h m₁ → News h₀ env.locals h news₁ → Q .next { s with heap := h, toks := tk }) :
    wpAny (model prog w) A (pyIter (.str xt tx)) (fun it s₂ => LoopAtV prog w A h₀ env x body Q E it s₂) E s := by
  refine wpAny_pyIter_ascii ha ?_
  refine loopJ J (Walks.strAscii hh s.heap.objs.size xt tx) (fun i h st => let ⟨o, ho, _⟩ := st; ⟨o, ho⟩) (Nat.ne_of_lt F.ns.lt) (next_is_new F) (fun p hp => Nat.ne_of_lt (Heap.lt_size (N p hp).1)) ⟨_, Heap.get?_push_size _ rfl, rfl, rfl⟩ (F.push _)
    (fun p hp => ⟨Heap.get?_push_of_some _ (N p hp).1, (N p hp).2⟩) hj ?_ done
  rintro i v m₁ news₁ h tk oI hin ⟨c, u, hc, rfl⟩ hJ off F₁ N₁
  exact turn _ i c u m₁ news₁ h tk oI (fun p hp => Heap.lt_size (N p hp).1) hc hJ off F₁ N₁
end
theorem map_eq {m m' : Str → Option Value} (ks : List Str) (h1 : ∀ k ∈ ks, m k = m' k) (h2 : ∀ y, y ∉ ks → m y = m' y) : m = m' := by
  funext y
  by_cases h : y ∈ ks
  · exact h1 y h
  · exact h2 y h
end Mine
end
section
open PySem PySem.W PySem.W.X PySem.W.ZRun PySem.Spec PySem.Calls PyProof.Rows
set_option maxRecDepth 100000
set_option maxHeartbeats 0
set_option linter.unusedVariables false
namespace Mine
theorem add_ok {w : World} {p : Program} {loose : List Str} {mean : ExcName → Option Value} {mg mb : Str → Option Value} (x y : Int) (tx ty : Tok) :
  Amb w p loose mean mg mb 2 10 (fun A base h₀ L m news s Q E =>
    (∀ (t : Tok) (h' : Heap) (tk' : Nat), Fr h₀ L h' m → News h₀ L h' news → Q (.int (x + y) t) { s with heap := h', toks := tk' }) →
    wpAny (model PySem.Challenge.rw_tl0052_01.row.prog w) A (call (.ref 59) [.int x tx, .int y ty]) Q E s) := by
  unfold Amb
  k_fill
  intro dp un gd cn cs a ccd cl outer A₀ base h₀ L m news s Q E B F X N T hk hd hu hret
  refine wpAny_call ?_
  refine' code_defS (binds := [(Str.ofString "a", .int x tx), (Str.ofString "b", .int y ty)]) (small := []) (rest := news) B F X N dis_nil T ?kA ?kF ?kK ?k6 ?k7 ?k8 ?k9 ?kB ?_ ?c2 ?c3 ?c4 ?c5
  case kA => exact rfl
  case kF => exact rfl
  case kK => assumption
  case k6 => k_dflt k_is
  case k7 => k_dflt k_is
  case k8 => k_dflt ktr_room
  case k9 => k_dflt (first | exact BindsTo.of_eq rfl | exact binds_K (by k_in) rfl (by k_is) rfl rfl rfl)
  case c5 => k_dflt decide
  case kB => k_dflt (exact locs rfl)
  case c2 => k_dflt (exact rfl)
  case c3 => k_dflt (exact rfl)
  case c4 => k_dflt (exact rfl)
  k_whole
  intro g' L' h' FG' F' N' B' X' T' hlt' hrest'
  (try k_lt hlt')
  (try dsimp only)
  (try k_fold)
  k_steps
  (with_reducible rename News h₀ L _ news => nR)
  exact hret _ _ _ (by k_asm) nR
theorem eq_ok {w : World} {p : Program} {loose : List Str} {mean : ExcName → Option Value} {mg mb : Str → Option Value} (x y : Int) (tx ty : Tok) :
  Amb w p loose mean mg mb 2 10 (fun A base h₀ L m news s Q E =>
    (∀ (h' : Heap) (tk' : Nat), Fr h₀ L h' m → News h₀ L h' news → Q (.bool (x == y)) { s with heap := h', toks := tk' }) →
    wpAny (model PySem.Challenge.rw_tl0052_01.row.prog w) A (call (.ref 52) [.int x tx, .int y ty]) Q E s) := by
  unfold Amb
  k_fill
  intro dp un gd cn cs a ccd cl outer A₀ base h₀ L m news s Q E B F X N T hk hd hu hret
  refine wpAny_call ?_
  refine' code_defS (binds := [(Str.ofString "a", .int x tx), (Str.ofString "b", .int y ty)]) (small := []) (rest := news) B F X N dis_nil T ?kA ?kF ?kK ?k6 ?k7 ?k8 ?k9 ?kB ?_ ?c2 ?c3 ?c4 ?c5
  case kA => exact rfl
  case kF => exact rfl
  case kK => assumption
  case k6 => k_dflt k_is
  case k7 => k_dflt k_is
  case k8 => k_dflt ktr_room
  case k9 => k_dflt (first | exact BindsTo.of_eq rfl | exact binds_K (by k_in) rfl (by k_is) rfl rfl rfl)
  case c5 => k_dflt decide
  case kB => k_dflt (exact locs rfl)
  case c2 => k_dflt (exact rfl)
  case c3 => k_dflt (exact rfl)
  case c4 => k_dflt (exact rfl)
  k_whole
  intro g' L' h' FG' F' N' B' X' T' hlt' hrest'
  (try k_lt hlt')
  (try dsimp only)
  (try k_fold)
  k_steps
  (with_reducible rename News h₀ L _ news => nR)
  exact hret _ _ (by k_asm) nR
theorem getitem_ok {w : World} {p : Program} {loose : List Str} {mean : ExcName → Option Value} {mg mb : Str → Option Value} (l : Addr) (vs : List Value) (ns : List Int) (e : Nat) (i : Int) (ti : Tok) (hI : IntsAre vs ns) (h0 : 0 ≤ i) (h1 : i < (ns.length : Int)) (h2 : ns.length ≤ 1000) :
  Amb w p loose mean mg mb 2 10 (fun A base h₀ L m rest s Q E =>
    News h₀ L s.heap ((l, listOf vs.toArray e) :: rest) → (∀ p ∈ rest, p.1 ≠ l) →
    (∀ (t : Tok) (h' : Heap) (tk' : Nat), Fr h₀ L h' m → News h₀ L h' ((l, listOf vs.toArray e) :: rest) → Q (.int (ns.getD i.toNat 0) t) { s with heap := h', toks := tk' }) →
    wpAny (model PySem.Challenge.rw_tl0052_01.row.prog w) A (call (.ref 66) [.ref l, .int i ti]) Q E s) := by
  unfold Amb
  k_fill
  intro dp un gd cn cs a ccd cl outer A₀ base h₀ L m news s Q E B F X N0 T hk hd hu N hdis hret
  refine wpAny_call ?_
  refine' code_defS (binds := [(Str.ofString "a", .ref l), (Str.ofString "b", .int i ti)]) (small := [(l, listOf vs.toArray e)]) (rest := news) B F X N (fun p hp hm => hdis p hp (by simpa using hm)) T ?kA ?kF ?kK ?k6 ?k7 ?k8 ?k9 ?kB ?_ ?c2 ?c3 ?c4 ?c5
  case kA => exact rfl
  case kF => exact rfl
  case kK => assumption
  case k6 => k_dflt k_is
  case k7 => k_dflt k_is
  case k8 => k_dflt ktr_room
  case k9 => k_dflt (first | exact BindsTo.of_eq rfl | exact binds_K (by k_in) rfl (by k_is) rfl rfl rfl)
  case c5 => k_dflt decide
  case kB => k_dflt (exact locs rfl)
  case c2 => k_dflt (exact rfl)
  case c3 => k_dflt (exact rfl)
  case c4 => k_dflt (exact rfl)
  k_whole
  intro g' L' h' FG' F' N' B' X' T' hlt' hrest'
  (try k_lt hlt')
  (try dsimp only)
  (try k_fold)
  k_steps
  (with_reducible rename News h₀ L _ news => nR)
  (with_reducible rename News h₀ L _ [_] => kN)
  exact hret _ _ _ (by k_asm) (News.app kN nR)
theorem setitem_ok {w : World} {p : Program} {loose : List Str} {mean : ExcName → Option Value} {mg mb : Str → Option Value} (l : Addr) (vs : List Value) (ns : List Int) (e : Nat) (i v : Int) (ti tv : Tok) (hI : IntsAre vs ns) (h0 : 0 ≤ i) (h1 : i < (ns.length : Int)) (h2 : ns.length ≤ 1000) :
  Amb w p loose mean mg mb 2 10 (fun A base h₀ L m rest s Q E =>
    News h₀ L s.heap ((l, listOf vs.toArray e) :: rest) → (∀ p ∈ rest, p.1 ≠ l) →
    (∀ (h' : Heap) (tk' : Nat), Fr h₀ L h' m → News h₀ L h' ((l, listOf (vs.set i.toNat (.int v tv)).toArray e) :: rest) → Q .none { s with heap := h', toks := tk' }) →
    wpAny (model PySem.Challenge.rw_tl0052_01.row.prog w) A (call (.ref 73) [.ref l, .int i ti, .int v tv]) Q E s) := by
  unfold Amb
  k_fill
  intro dp un gd cn cs a ccd cl outer A₀ base h₀ L m news s Q E B F X N0 T hk hd hu N hdis hret
  refine wpAny_call ?_
  refine' code_defS (binds := [(Str.ofString "a", .ref l), (Str.ofString "b", .int i ti), (Str.ofString "c", .int v tv)]) (small := [(l, listOf vs.toArray e)]) (rest := news) B F X N (fun p hp hm => hdis p hp (by simpa using hm)) T ?kA ?kF ?kK ?k6 ?k7 ?k8 ?k9 ?kB ?_ ?c2 ?c3 ?c4 ?c5
  case kA => exact rfl
  case kF => exact rfl
  case kK => assumption
  case k6 => k_dflt k_is
  case k7 => k_dflt k_is
  case k8 => k_dflt ktr_room
  case k9 => k_dflt (first | exact BindsTo.of_eq rfl | exact binds_K (by k_in) rfl (by k_is) rfl rfl rfl)
  case c5 => k_dflt decide
  case kB => k_dflt (exact locs rfl)
  case c2 => k_dflt (exact rfl)
  case c3 => k_dflt (exact rfl)
  case c4 => k_dflt (exact rfl)
  k_whole
  intro g' L' h' FG' F' N' B' X' T' hlt' hrest'
  (try k_lt hlt')
  (try dsimp only)
  (try k_fold)
  k_steps
  (with_reducible rename News h₀ L _ news => nR)
  (with_reducible rename News h₀ L _ [_] => kN)
  exact hret _ _ (by k_asm) (News.app kN nR)
end Mine
end
section
open PySem PySem.W PySem.W.X PySem.W.ZRun PySem.Spec PySem.Calls PyProof.Rows
set_option maxRecDepth 100000
set_option maxHeartbeats 0
set_option linter.unusedVariables false
namespace Mine
theorem drawn_ok {w : World} {p : Program} {loose : List Str} {mean : ExcName → Option Value} {mg mb : Str → Option Value} (n : Int) (t : Tok) (h0 : 0 ≤ n) (h1 : n < 1000000) :
  Amb w p loose mean mg mb 2 10 (fun A base h₀ L m news s Q E =>
    (∀ (x : Addr) (ep : Nat) (t1 t2 : Tok) (h' : Heap) (tk' : Nat), Fr h₀ L h' m → News h₀ L h' ((x, tupObj #[.int (firstOf n) t1, .int (stepOf n) t2] ep) :: news) → AllLt x news → (1 ≤ firstOf n ∧ firstOf n ≤ 12 ∧ 2 ≤ stepOf n ∧ stepOf n ≤ 12 ∧ firstOf n ≤ stepOf n) → Q (.ref x) { s with heap := h', toks := tk' }) →
    wpAny (model PySem.Challenge.rw_tl0052_01.row.prog w) A (call (.ref 294) [.int n t]) Q E s) := by
  unfold Amb
  k_fill
  intro dp un gd cn cs a ccd cl outer A₀ base h₀ L m news s Q E B F X N T hk hd hu hret
  refine wpAny_call ?_
  k_dflt ktr_enter
  k_steps
  · exact absurd (by assumption) (step_ne n)
  · exact hret _ _ _ _ _ _ (by k_asm) (News.cut1 (by k_asm)) (by with_reducible assumption) (first_bounds n)
end Mine
end
section
open PySem PySem.W PySem.W.X PySem.W.ZRun PySem.Spec PySem.Calls PyProof.Rows
set_option maxRecDepth 100000
set_option maxHeartbeats 0
set_option linter.unusedVariables false
namespace Mine

local macro_rules | `(tactic| walk_at "getMethod ref") => `(tactic| (k_here; (with_reducible show wpAny _ _ (getMethod (Value.ref _) (Str.ofString "search") _) _ _ _); k_dflt (refine' rx_method_K (by k_asm) (by k_asm) ?k3 ?_; (case k3 => k_is); k_whole)))
local macro_rules | `(tactic| walk_at "call builtin:re.Pattern.search") => `(tactic| (k_here; k_dflt (refine' rx_none_K (by k_asm) (by k_asm) ?k3 ?k4 ?k5 ?k6 ?_; (case k3 => k_is); (case k4 => k_is); (case k6 => first | exact hx | assumption); (case k5 => kernel_rfl); k_whole)))
theorem conv_ok {w : World} {p : Program} {loose : List Str} {mean : ExcName → Option Value} {mg mb : Str → Option Value} (self : Addr) (x : Str) (t : Tok) (b : Bool) (hN : b = true → okN x = true) (hV : b = false → okV x = true) :
  Amb w p loose mean mg mb 2 10 (fun A base h₀ L m news s Q E =>
    (∀ (h' : Heap) (tk' : Nat), Fr h₀ L h' m → News h₀ L h' news → Q (.str x t) { s with heap := h', toks := tk' }) →
    wpAny (model PySem.Challenge.rw_tl0052_01.row.prog w) A (call (.ref 184) [.ref self, .str x t] [("name", .bool b)]) Q E s) := by
  unfold Amb
  k_fill
  intro dp un gd cn cs a ccd cl outer A₀ base h₀ L m news s Q E B F X N T hk hd hu hret
  refine wpAny_call ?_
  refine' code_defS (binds := [(Str.ofString "self", .ref self), (Str.ofString "value", .str x t), (Str.ofString "name", .bool b)]) (small := []) (rest := news) B F X N dis_nil T ?kA ?kF ?kK ?k6 ?k7 ?k8 ?k9 ?kB ?_ ?c2 ?c3 ?c4 ?c5
  case kA => exact rfl
  case kF => exact rfl
  case kK => assumption
  case k6 => k_dflt k_is
  case k7 => k_dflt k_is
  case k8 => k_dflt ktr_room
  case k9 => k_dflt (first | exact BindsTo.of_eq rfl | exact binds_K (by k_in) rfl (by k_is) rfl rfl rfl)
  case c5 => k_dflt decide
  case kB => k_dflt (exact locs rfl)
  case c2 => k_dflt (exact rfl)
  case c3 => k_dflt (exact rfl)
  case c4 => k_dflt (exact rfl)
  k_whole
  intro g' L' h' FG' F' N' B' X' T' hlt' hrest'
  (try dsimp only)
  (try k_fold)
  cases b
  · have hx := hV rfl
    k_steps
    rename_i kN _ _ nR
    exact hret _ _ (by k_asm) nR
  · have hx := hN rfl
    k_steps
    rename_i kN _ _ nR
    exact hret _ _ (by k_asm) nR
end Mine
end
section
open PySem PySem.W PySem.W.X PySem.W.ZRun PySem.Spec PySem.Calls PyProof.Rows
set_option maxRecDepth 100000
set_option maxHeartbeats 0
set_option linter.unusedVariables false
namespace Mine
local macro_rules | `(tactic| walk_at "newTuple") => `(tactic| (k_here; k_dflt (refine' kup_newTuple ?F ?N ?_ ?z; (case F => k_asm); (case N => k_asm); (case z => kmk_size)); intro D' h' F' N' l1; (try k_lt l1); (try k_sweep)))
local macro_rules | `(tactic| walk_at "call ref") => `(tactic| refine Halt.mk ?_)
theorem addh_ok {w : World} {p : Program} {loose : List Str} {mean : ExcName → Option Value} {mg mb : Str → Option Value} (tb d hl : Addr) (hh : Int) (kt : Tok) (n ep : Nat) (xs : Array Value) (nm ld : Str) (t1 t2 : Tok) (hN : okN nm = true) (hV : okV ld = true) (hl1 : ld.length ≤ 100) (hxs : xs.size ≤ 100) (hs : @LT.lt Nat _ d tb) (hs2 : @LT.lt Nat _ tb hl) :
  Amb w p loose mean mg mb 6 60 (fun A base h₀ L m news s Q E =>
    ∀ rest : List (Addr × Obj), (tb, instObj 283 d) ∈ news → (d, dictOf [⟨hh, .str "_headers" kt, .ref hl⟩] n) ∈ news → (hl, listOf xs ep) ∈ news → Sp [tb, d, hl] news rest →
    (∀ (tp : Addr) (e : Nat) (t3 : Tok) (h' : Heap) (tk' : Nat), Fr h₀ L h' m → News h₀ L h' ((tp, tupObj #[.str nm t1, .str ld t3] e) :: (tb, instObj 283 d) :: (d, dictOf [⟨hh, .str "_headers" kt, .ref hl⟩] n) :: (hl, listOf (xs.push (.ref tp)) (ep + 1)) :: rest) → @LT.lt Nat _ tb tp → @LT.lt Nat _ d tp → @LT.lt Nat _ hl tp → GnNe tp rest → Q .none { s with heap := h', toks := tk' }) →
    wpAny (model PySem.Challenge.rw_tl0052_01.row.prog w) A (call (.ref 280) [.ref tb, .str nm t1, .str ld t2]) Q E s) := by
  unfold Amb
  k_fill
  intro dp un gd cn cs a ccd cl outer A₀ base h₀ L m news s Q E B F X N0 T hk hd hu rest m1 m2 m3 sp hret
  obtain ⟨N, hdis⟩ := News.sp (small := [(tb, instObj 283 d), (d, dictOf [⟨hh, .str "_headers" kt, .ref hl⟩] n), (hl, listOf xs ep)]) N0 (by intro p hp; simp only [List.mem_cons, List.not_mem_nil, or_false] at hp; rcases hp with e | e | e <;> subst e <;> assumption) sp rfl
  refine wpAny_call ?_
  refine' code_defM (binds := fun D => [(Str.ofString "self", .ref tb), (Str.ofString "_name", .str nm t1), (Str.ofString "_value", .str ld t2), (Str.ofString "_params", .ref D)]) (small := [(tb, instObj 283 d), (d, dictOf [⟨hh, .str "_headers" kt, .ref hl⟩] n), (hl, listOf xs ep)]) (rest := rest) B F X N hdis T ?kA ?kF ?kK ?k6 ?k7 ?k8 ?k9 ?kB ?_ ?c2 ?c3 ?c4 ?c5
  case kA => exact rfl
  case kF => exact rfl
  case kK => assumption
  case k6 => k_dflt k_is
  case k7 => k_dflt k_is
  case k8 => k_dflt ktr_room
  case k9 => with_unfolding_all rfl
  case c5 => k_dflt decide
  case kB => (intro D; k_dflt (exact locs rfl))
  case c2 => k_dflt (exact rfl)
  case c3 => k_dflt (exact rfl)
  case c4 => k_dflt (exact rfl)
  k_whole
  intro D' g' L' h' tk' FG' F' N' B' X' T' hlt' lo' hrest'
  (try k_lt hlt')
  have hs' : (dictOf [] 0).IsDictOf (PySem.strKind PySem.Challenge.rw_tl0052_01.row.prog w) ([] : List (Str × Value)) := kp_isDict (ex := []) 0 0 .nil
  have fs' : PyProof.V.FlatPairs PyData.str ([] : List (Str × Value)) [] := .nil
  (try dsimp only)
  (try k_fold)
  k_steps
  change wpAny _ _ (call (Value.ref 184) _ _) _ _ _
  k_dflt (refine' conv_ok _ _ _ _ ?a_u0 ?b_u0 (by k_asm) (by k_asm) (by k_asm) (by k_asm) (by k_asm) (by first | exact rfl | assumption) (by ktr_room) (by ktr_units) ?_; (case a_u0 => first | (intro hb9; cases hb9; done) | (intro _; assumption)); (case b_u0 => first | (intro hb9; cases hb9; done) | (intro _; assumption)); k_whole)
  intro hzu0 tkzu0 Fzu0 Nzu0
  (try dsimp only)
  k_steps
  change wpAny _ _ (call (Value.ref 184) _ _) _ _ _
  k_dflt (refine' conv_ok _ _ _ _ ?a_u1 ?b_u1 (by k_asm) (by k_asm) (by k_asm) (by k_asm) (by k_asm) (by first | exact rfl | assumption) (by ktr_room) (by ktr_units) ?_; (case a_u1 => first | (intro hb9; cases hb9; done) | (intro _; assumption)); (case b_u1 => first | (intro hb9; cases hb9; done) | (intro _; assumption)); k_whole)
  intro hzu1 tkzu1 Fzu1 Nzu1
  (try dsimp only)
  k_steps
  (with_reducible rename News g' L' _ _ => kN0)
  (with_reducible rename News h₀ L _ rest => nR)
  (with_reducible rename News h₀ L _ (_ :: (_, listOf _ _) :: _) => kN)
  rw [join_one] at kN kN0
  exact hret _ _ _ _ _ (by k_asm) (News.cut2app kN nR) (by omega) (by omega) (by omega) (gnNe_rest kN0 hrest')
end Mine
end
section
open PySem PySem.W PySem.W.X PySem.W.ZRun PySem.Spec PySem.Calls PyProof.Rows
set_option maxRecDepth 100000
set_option maxHeartbeats 0
set_option linter.unusedVariables false
namespace Mine
abbrev NoEnd : GenEnd := fun _ _ _ _ => False
section
variable {prog : Program} {w : World} {A : Around} {E : Value → Shared → Prop} {s : Shared}
theorem next_ever {a : Addr} {g n : Nat} {gs : GenState} {Y : Protocol} {Q : Option Value → Shared → Prop}
    (hl : s.heap.NoLimit) (hroom : A.depth < recursionLimit)
    (hg : s.heap.IsGen a g) (hgs : s.gens[g]? = some gs)
    (hgo : gs.Goes (model prog w) A.in1 NoEnd Y n (.send .none) (s.setGen g .running))
    (hY : ∀ v s₁ gs', gs'.bare = true → Y (n - 1) (s.setGen g .running) v s₁ (fun r' s'' => match n with
        | 0 => False
        | m + 1 => gs'.Goes (model prog w) A.in1 NoEnd Y m r' s'') → Q (some v) (s₁.setGen g gs')) :
    wpAny (model prog w) A (pyNext (.ref a)) Q E s := by
  unfold pyNext
  refine wpAny_bind (wpAny_attempt (wpAny_callSpecial?_slot (name := Str.ofString "__next__") hg.typeIs slot_gen_next
    (wpAny_call_entry slot_gen_next hg.typeIs entry_gen_next ?_ (args_gen_next _))))
  show wpAny _ A.in1 (Builtin.Generator.genWake (.ref a) (.send .none)) _ _ s
  unfold Builtin.Generator.genWake
  refine wpAny_bind (wpAny_holding (wpAny_genNumber hg (wpAny_bind (wpAny_genState hgs ?_))))
  cases gs with
  | running => exact hgo.elim
  | finished => exact hgo.elim
  | _ =>
    refine wpAny_bind (wpAny_roomToWake hl hroom ?_)
    show wpAny _ A.in1 (.resume g (.send .none) [] _) _ _ s
    refine wpAny_resumeQ hgs hgo (fun x s₁ hx => hx.elim) (fun v s₁ gs' hb hv => ?_)
    exact wpAny_pure ⟨v, rfl, wpAny_pure (hY v s₁ gs' hb hv)⟩
end
section
variable {prog : Program} {w : World} {A : Around} {R : GenEnd} {Y : Protocol} {n : Nat} {s₀ : Shared} {c : Code} {fs : List Frame} {s : Shared} {env : Env}
  {K : Flow → Sem Fin} {H : Value → Sem Fin} {gd : Bool → Bool} {lv : List Value → List Value}
abbrev backFor (env : Env) (K : Flow → Sem Fin) (H : Value → Sem Fin) (gd : Bool → Bool) (lv : List Value → List Value) : Result → Sem Fin := fun r =>
  ((match r with | .ok f => (.pure f : Sem Flow) | .error e => .raise e).onRaise fun (x : Value) => do
        if (← field x 1) == Value.none then unsupported "frame.own-activation:exception-without-traceback"
        setFlight x env.frame).wrap K H gd lv
theorem seg_For {target iter : Expr} {body orelse : List Stmt} {pos : Pos}
    (h : wpAny (model prog w) (A.over c fs) (eval iter env) (fun x s₁ => wpAny (model prog w) (A.over c fs) (pyIter x) (fun it s₂ =>
      ∀ p, Seg (model prog w) A R Y n s₀ (.forLoop target it body orelse env) ((model prog w).den (.forLoop target it body orelse env)) (.ret (backFor env K H gd lv) none (gd false) (lv []) c p [] :: fs) s₂) (fun _ _ => False) s₁) (fun _ _ => False) s)
    (hs : ∀ x, foldedSetIterable iter env x = pure x) :
    Seg (model prog w) A R Y n s₀ c ((exec (.For target iter body orelse pos) env).wrap K H gd lv) fs s := by
  rw [exec_For]
  show Seg _ A R Y n s₀ c (.at pos fun _ => (eval iter env >>= fun x => foldedSetIterable iter env x >>= fun x => standAt iter.pos >>= fun _ => holding [x] (pyIter x) >>= fun it => runOwn (.forLoop target it body orelse env) env).wrap K H gd lv) fs s
  refine seg_at ?_
  rw [Sem.bind_eq_wrap', Sem.wrap_wrap]
  refine seg_wrap (wpAny_mono h (fun x s₁ h₁ => ?_) fun _ _ e => e.elim)
  rw [hs]
  show Seg _ A R Y n s₀ c (.at iter.pos fun _ => ((holding [x] (pyIter x) >>= fun it => runOwn (.forLoop target it body orelse env) env).wrap K H _ _)) fs s₁
  refine seg_at ?_
  rw [Sem.bind_eq_wrap', Sem.wrap_wrap]
  refine seg_wrap (wpAny_mono (wpAny_holding h₁) (fun it s₂ h₂ => ?_) fun _ _ e => e.elim)
  exact seg_call h₂
theorem seg_forLoop {x : Str} {px : Pos} {it : Value} {body orelse : List Stmt}
    (h : wpAny (model prog w) (A.over (.forLoop (.Name x px) it body orelse env) fs) (pyNext it) (fun o s₁ => ∃ v, o = some v ∧
      wpAny (model prog w) (A.over (.forLoop (.Name x px) it body orelse env) fs) (assign (.Name x px) env v) (fun _ s₂ =>
        Seg (model prog w) A R Y n s₀ (.forLoop (.Name x px) it body orelse env) ((execs body env).wrap (fun f => match f with
            | .next | .cont => .pure (.again (.forLoop (.Name x px) it body orelse env))
            | .brk => .pure (.done .next)
            | .ret v => .pure (.done (.ret v))) (fun e => (do noteFrame e env; theTreesLotGoes e : Sem Unit).wrap (fun _ => .raise e) .raise id id) id id) fs s₂) (fun _ _ => False) s₁) (fun _ _ => False) s) :
    Seg (model prog w) A R Y n s₀ (.forLoop (.Name x px) it body orelse env) ((model prog w).den (.forLoop (.Name x px) it body orelse env)) fs s := by
  show Seg _ A R Y n s₀ _ ((forTurn (.Name x px) it body orelse env).onRaise (fun x => do noteFrame x env; theTreesLotGoes x)) fs s
  unfold forTurn
  rw [Sem.onRaise_eq_wrap]
  show Seg _ A R Y n s₀ _ (.at _ fun _ => Sem.wrap _ _ _ _ ((pyNext it).onRaise _ >>= _)) fs s
  refine seg_at ?_
  rw [Sem.bind_eq_wrap', Sem.wrap_wrap]
  refine seg_wrap (wpAny_onRaise (wpAny_mono h (fun o s₁ h₁ => ?_) fun _ _ e => e.elim))
  obtain ⟨v, rfl, h₁⟩ := h₁
  show Seg _ A R Y n s₀ _ (Sem.wrap _ _ _ _ (letOwnedTupleGo (.Name x px) it v >>= _)) fs s₁
  rw [show letOwnedTupleGo (.Name x px) it v = pure () from rfl]
  show Seg _ A R Y n s₀ _ (Sem.wrap _ _ _ _ (assign (.Name x px) env v >>= _)) fs s₁
  rw [Sem.bind_eq_wrap', Sem.wrap_wrap]
  refine seg_wrap (wpAny_mono h₁ (fun _ s₂ h₂ => ?_) fun _ _ e => e.elim)
  rw [Sem.bind_eq_wrap', Sem.wrap_wrap]
  rw [Sem.wrap_congr (execs body env) _ _ (K' := fun f => match f with
            | .next | .cont => .pure (.again (.forLoop (.Name x px) it body orelse env))
            | .brk => .pure (.done .next)
            | .ret v => .pure (.done (.ret v))) (H' := (fun e => (do noteFrame e env; theTreesLotGoes e : Sem Unit).wrap (fun _ => .raise e) .raise id id))
        (fun f => by cases f <;> rfl)
        (fun e => by first | exact Sem.bind_eq_wrap _ _ | (show (do noteFrame e env; theTreesLotGoes e : Sem Unit).bind (fun _ => .raise e) = _; rw [Sem.bind_eq_wrap]))]
  exact h₂
end
end Mine
end
section
open PySem PySem.W PySem.W.X PySem.W.ZRun PySem.Spec PySem.Calls PyProof.Rows
set_option maxRecDepth 100000
set_option maxHeartbeats 0
set_option linter.unusedVariables false
namespace Mine
section
variable {prog : Program} {w : World} {A : Around} {R : GenEnd} {Y : Protocol} {n : Nat} {s₀ : Shared} {c : Code} {fs : List Frame} {s : Shared} {env : Env}
  {K : Flow → Sem Fin} {H : Value → Sem Fin} {gd : Bool → Bool} {lv : List Value → List Value}
theorem seg_If {test : Expr} {body orelse : List Stmt} {pos : Pos}
    (h : wpAny (model prog w) (A.over c fs) (isTrue test env (eval test env)) (fun b s₁ => if b = true then Seg (model prog w) A R Y n s₀ c ((execs body env).wrap K H gd lv) fs s₁ else Seg (model prog w) A R Y n s₀ c ((execs orelse env).wrap K H gd lv) fs s₁) (fun _ _ => False) s) :
    Seg (model prog w) A R Y n s₀ c ((exec (.If test body orelse pos) env).wrap K H gd lv) fs s := by
  rw [exec_If]
  show Seg _ A R Y n s₀ c (.at pos fun _ => (isTrue test env (eval test env) >>= fun b => if b = true then execs body env else execs orelse env).wrap K H gd lv) fs s
  refine seg_at ?_
  rw [Sem.bind_eq_wrap', Sem.wrap_wrap]
  refine seg_wrap (wpAny_mono h (fun b s₁ h₁ => ?_) fun _ _ e => e.elim)
  cases b with
  | true => exact h₁
  | false => exact h₁
end
noncomputable def NsO (o : Obj) (m : Str → Option Value) : Prop := ∃ es ep, o.data = .dict es ep ∧ StrKeys es ∧ ∀ name, nsFind es name = m name
theorem NsO.ns {o : Obj} {m : Str → Option Value} (x : NsO o m) {h : Heap} {a : Addr} (e : h.get? a = some o) : h.Ns a m :=
  let ⟨es, ep, r⟩ := x; ⟨o, es, ep, e, r⟩
theorem NsO.of {m : Str → Option Value} {h : Heap} {a : Addr} (x : h.Ns a m) : ∃ o, h.get? a = some o ∧ NsO o m := let ⟨o, es, ep, e, r⟩ := x; ⟨o, e, es, ep, r⟩
section
variable {prog : Program} {w : World} {A A₀ : Around} {s : Shared} {K : Frag} {L : Addr} {h₀ base : Heap} {m mg mb : Str → Option Value} {p : Program} {loose : List Str} {mean : ExcName → Option Value}
theorem code_gen {news : List (Addr × Obj)} {R : Result → Shared → Prop} {name qual : Str} {params : Arguments} {body : List Stmt} {scope : Scope} {dV kV doc pm cdv ct oc : Value} {an od : Option Addr} {osl : Array (Option Value)} {f : Addr} {args : Args} {binds : List (Str × Value)}
    (F : Fr h₀ L s.heap m) (X₀ : K.In h₀) (N : News h₀ L s.heap news) (T : Top p loose mean mg mb h₀)
    (ho : K.lookup f = some ⟨oc, od, .func (fnOf name qual params body scope dV kV doc pm an cdv ct), osl⟩) (hcd : codeIn K cdv qual = true) (hroom : A.depth < recursionLimit)
    (hbind : BindsTo s (fnOf name qual params body scope dV kV doc pm an cdv ct) args binds) (hloc : ∀ y ∈ binds, scope.names.lookup y.1 = some .local)
    (h : ∀ Lg oL nm qn h₁ tk', (∀ p ∈ news, p.1 < Lg) → Fr h₀ L h₁ m → News h₀ L h₁ ((Lg + 1, { cls := .type "generator", data := .fields #[.int s.gens.size 0, nm, qn] }) :: (Lg, oL) :: news) → NsO oL (fun y => binds.reverse.lookup y) → h₀.objs.size ≤ Lg →
      R (.ok (.ret (.ref (Lg + 1)))) { s with gens := s.gens.push (.fresh (.func body (envOf qual scope Lg f cdv))), toks := tk', heap := h₁ })
    (hco : scope.isCoroutine = false) (hgen : scope.isGenerator = true) (hk : scope.kind = .function)
    (hcell : ∀ x ∈ scope.names, x.2 ≠ .cell) : codeAny (model prog w) A (.call (.ref f) args) R s := by
  refine codeAny_call_generator (fd := fnOf name qual params body scope dV kV doc pm an cdv ct) (body := body) hroom ((X₀.keeps F.keep) _ _ ho) rfl hco hgen rfl (codeRec_of (X₀.keeps F.keep) hcd) (hbind _ _ _ _ ?_)
  refine wpAny_newFunctionEnv hcell hloc (fun h' hns hsb => ⟨(T.nolimit.keeps F.keep).fresh _ hsb, ?_⟩) hk
  have F₁ := F.push { cls := .type "frame", data := .dict #[] }
  have e2 : h'.objs.size = s.heap.objs.size + 1 := by rw [hsb.1, Heap.size_push]
  obtain ⟨oL, hoL, hN⟩ := NsO.of hns
  have hge : h₀.objs.size ≤ s.heap.objs.size := Nat.le_trans F.above (Nat.le_of_lt F.ns.lt)
  have hLlt := F.ns.lt
  have kp : ∀ b o, s.heap.get? b = some o → h'.get? b = some o := fun b o e => hsb.extBut b o (Nat.ne_of_lt (Heap.lt_size e)) (Heap.get?_push_of_some _ e)
  have F₂ : Fr h₀ L h' m := ⟨F.ns.at' (fun o e => kp _ _ e), fun b o e => kp _ _ (F.keep b o e), F.above⟩
  have F₃ := F₂.push { cls := .type "generator", data := .fields #[.int s.gens.size 0, .str (fnOf name qual params body scope dV kV doc pm an cdv ct).name (s.toks + binds.length), .str (fnOf name qual params body scope dV kV doc pm an cdv ct).qualname (s.toks + binds.length + 1)] }
  show R (.ok (.ret (.ref h'.objs.size))) _
  rw [e2]
  refine h s.heap.objs.size oL (.str (fnOf name qual params body scope dV kV doc pm an cdv ct).name (s.toks + binds.length)) (.str (fnOf name qual params body scope dV kV doc pm an cdv ct).qualname (s.toks + binds.length + 1)) _ _ (fun p hp => Heap.lt_size (N p hp).1) F₃ (fun q hp => ?_) hN hge
  rcases List.mem_cons.mp hp with rfl | hp
  · refine ⟨?_, ?_, ?_⟩
    · rw [← e2]; exact Heap.get?_push_size _ rfl
    · show s.heap.objs.size + 1 ≠ L
      exact Nat.ne_of_gt (Nat.lt_succ_of_lt hLlt)
    · exact (e2 ▸ next_is_new F₂)
  · rcases List.mem_cons.mp hp with rfl | hp
    · exact ⟨Heap.get?_push_of_some _ hoL, Nat.ne_of_gt hLlt, next_is_new F⟩
    · exact ⟨Heap.get?_push_of_some _ (kp _ _ (N q hp).1), (N q hp).2⟩
end
end Mine
end
section
open PySem PySem.W PySem.W.X PySem.W.ZRun PySem.Spec PySem.Calls PyProof.Rows
set_option maxRecDepth 100000
set_option maxHeartbeats 0
set_option linter.unusedVariables false
namespace Mine
noncomputable def gVal (vc vs : Value) (j : Nat) : Value := if j = 0 then vc else vs
noncomputable def gMap (ax : Addr) (vc vs vz : Value) (j : Nat) : Str → Option Value := fun y =>
  if y = Str.ofString "interval" then some (if j = 0 then vc else if j = 1 then vs else vz)
  else if y = Str.ofString "last_interval" then some (if j = 0 then .none else if j = 1 then vc else vs)
  else if y = Str.ofString "grouping" then some (.ref ax) else none
structure St (h₀ : Heap) (Lg I ax : Addr) (vc vs vz : Value) (j : Nat) (h : Heap) : Prop where
  fr : Fr h₀ Lg h (gMap ax vc vs vz j)
  it : h.IsListIter I ax (if j = 0 then 1 else if j = 1 then 2 else 3)
  li : h.IsList ax #[vc, vs, vz]
noncomputable def YG (h₀ : Heap) (Lg I ax : Addr) (vc vs vz : Value) : Protocol := fun n s₀ v s' kap =>
  v = gVal vc vs (39 - n) ∧ (∃ h' tk', s' = { s₀ with heap := h', toks := tk' } ∧ (∀ b o, b ≠ Lg → b ≠ I → s₀.heap.get? b = some o → h'.get? b = some o) ∧ St h₀ Lg I ax vc vs vz (39 - n) h') ∧
    (n ≠ 0 → ∀ s'', St h₀ Lg I ax vc vs vz (39 - n) s''.heap → kap (.send .none) s'')
noncomputable def GReady (w : World) (h₀ : Heap) (Lg ax : Addr) (vc vs vz : Value) (gs : GenState) : Prop :=
  ∀ (A : Around) (s : Shared), Fr h₀ Lg s.heap (fun y => if y = Str.ofString "grouping" then some (.ref ax) else none) → s.heap.IsList ax #[vc, vs, vz] →
    gs.Goes (model PySem.Challenge.rw_tl0052_01.row.prog w) A NoEnd (YG h₀ Lg s.heap.objs.size ax vc vs vz) 40 (.send .none) s
theorem St.late {h₀ : Heap} {Lg I ax : Addr} {vc vs vz : Value} {j j' : Nat} {h : Heap} (x : St h₀ Lg I ax vc vs vz j h) (hj : 2 ≤ j) (hj' : 2 ≤ j') : St h₀ Lg I ax vc vs vz j' h := by
  have e : gMap ax vc vs vz j = gMap ax vc vs vz j' := by
    funext y
    unfold gMap
    rw [if_neg (show ¬ j = 0 by omega), if_neg (show ¬ j = 1 by omega), if_neg (show ¬ j' = 0 by omega), if_neg (show ¬ j' = 1 by omega), if_neg (show ¬ j = 0 by omega), if_neg (show ¬ j = 1 by omega), if_neg (show ¬ j' = 0 by omega), if_neg (show ¬ j' = 1 by omega)]
  have e2 : (if j = 0 then 1 else if j = 1 then 2 else 3 : Nat) = (if j' = 0 then 1 else if j' = 1 then 2 else 3) := by
    rw [if_neg (show ¬ j = 0 by omega), if_neg (show ¬ j = 1 by omega), if_neg (show ¬ j' = 0 by omega), if_neg (show ¬ j' = 1 by omega)]
  exact ⟨e ▸ x.fr, e2 ▸ x.it, x.li⟩
noncomputable def Gone (h₀ : Heap) (Lg I : Addr) (s₀ s : Shared) : Prop := ∃ h' tk', s = { s₀ with heap := h', toks := tk' } ∧ (∀ b o, b ≠ Lg → b ≠ I → s₀.heap.get? b = some o → h'.get? b = some o)
theorem Gone.rfl' {h₀ : Heap} {Lg I : Addr} {s : Shared} : Gone h₀ Lg I s s := ⟨s.heap, s.toks, rfl, fun _ _ _ _ e => e⟩
theorem Gone.trans {h₀ : Heap} {Lg I : Addr} {s₀ s s₂ : Shared} (x : Gone h₀ Lg I s₀ s) (y : Gone h₀ Lg I s s₂) : Gone h₀ Lg I s₀ s₂ := by
  obtain ⟨h1, t1, rfl, k1⟩ := x
  obtain ⟨h2, t2, rfl, k2⟩ := y
  exact ⟨h2, t2, rfl, fun b o a c e => k2 b o a c (k1 b o a c e)⟩
theorem Gone.but {h₀ : Heap} {Lg I : Addr} {s : Shared} {h' : Heap} {tk : Nat} {b : Addr} (hs : Heap.SameBut b s.heap h') (hb : b = Lg ∨ b = I) : Gone h₀ Lg I s { s with heap := h', toks := tk } :=
  ⟨h', tk, rfl, fun c o a d e => (hs.2 c (fun x => by subst x; rcases hb with rfl | rfl; exact a rfl; exact d rfl)).trans e⟩
section
variable {prog : Program} {w : World} {A : Around} {h₀ : Heap} {Lg I ax a : Addr} {vc vs vz cd : Value} {name : Str} {scope : Scope}
theorem ever_while {px ypos pos cpos : Pos} {fs : List Frame} {tk : Tok} (hfs : splitAtGen fs = none) (hfg : fs.any Frame.guarded = false)
    (hk : scope.kind = .function) (hl : (envOf name scope Lg a cd).kindOf (Str.ofString "last_interval") = some .local) (hco : scope.isCoroutine = false) (hint : interactive (envOf name scope Lg a cd) = false) :
    ∀ (n : Nat) (s₀ s : Shared), n < 38 → Gone h₀ Lg I s₀ s → St h₀ Lg I ax vc vs vz 2 s.heap →
      Seg (model prog w) A NoEnd (YG h₀ Lg I ax vc vs vz) (n + 1) s₀ (.whileLoop (Expr.Constant (Const.bool true) tk cpos) [Stmt.Expr (Expr.Yield (some (Expr.Name (Str.ofString "last_interval") px)) ypos) pos] [] (envOf name scope Lg a cd))
        ((model prog w).den (.whileLoop (Expr.Constant (Const.bool true) tk cpos) [Stmt.Expr (Expr.Yield (some (Expr.Name (Str.ofString "last_interval") px)) ypos) pos] [] (envOf name scope Lg a cd))) fs s := by
  intro n
  induction n with
  | zero =>
    intro s₀ s hn hg hst
    refine seg_whileLoop (wpAny_isTrue_value (wpAny_Constant_bool (wpAny_truthy_bool ?_)))
    rw [if_pos rfl]
    refine seg_execs_cons (seg_Expr_Yield hfs rfl hfg ?_ hco hint)
    refine ld hst.fr rfl ?_ hk hl
    intro kap hkap
    obtain ⟨h', tk', rfl, hk'⟩ := hg
    exact ⟨rfl, ⟨h', tk', rfl, hk', hst.late (Nat.le_refl _) (by omega)⟩, fun e => absurd rfl e⟩
  | succ n ih =>
    intro s₀ s hn hg hst
    refine seg_whileLoop (wpAny_isTrue_value (wpAny_Constant_bool (wpAny_truthy_bool ?_)))
    rw [if_pos rfl]
    refine seg_execs_cons (seg_Expr_Yield hfs rfl hfg ?_ hco hint)
    refine ld hst.fr rfl ?_ hk hl
    intro kap hkap
    obtain ⟨h', tk', rfl, hk'⟩ := hg
    have e39 : gVal vc vs (39 - (n + 1)) = vs := by unfold gVal; rw [if_neg (by omega)]
    refine ⟨e39.symm, ⟨h', tk', rfl, hk', hst.late (Nat.le_refl _) (by omega)⟩, fun _ s'' hs'' => hkap _ _ ?_⟩
    show Seg _ A NoEnd _ (n + 1) s'' _ ((execs [] _).wrap _ _ _ _) fs s''
    refine seg_execs_nil (seg_again rfl ?_)
    exact ih s'' s'' (by omega) Gone.rfl' (hs''.late (by omega) (Nat.le_refl _))
end
theorem st2 {M : Model} {A : Around} {E : Value → Shared → Prop} {s : Shared} {name : Str} {scope : Scope} {L a : Addr} {cd : Value} {h₀ : Heap} {m : Str → Option Value} {x : Str} {v : Value} {Q : Unit → Shared → Prop} (F : Fr h₀ L s.heap m)
    (h : ∀ h', Fr h₀ L h' (fun y => if y = x then some v else m y) → Heap.SameBut L s.heap h' → Q () { s with heap := h', toks := s.toks + 1 })
    (hk : scope.kind = .function := by rfl) (hl : (envOf name scope L a cd).kindOf x = some .local := by rfl) :
    wpAny M A (storeName (envOf name scope L a cd) x v) Q E s :=
  wpAny_storeName_local hl F.ns (fun h' hn hs => h h' (F.set hn hs) hs)
    (by show (scope.kind == .class || (scope.kind == .module && L != mainGlobals)) = false; rw [hk]; rfl)
theorem gMap0 {ax : Addr} {vc vs vz : Value} {m : Str → Option Value} (j : Nat)
    (h1 : m (Str.ofString "interval") = some (if j = 0 then vc else if j = 1 then vs else vz)) (h2 : m (Str.ofString "last_interval") = some (if j = 0 then .none else if j = 1 then vc else vs)) (h3 : m (Str.ofString "grouping") = some (.ref ax))
    (h4 : ∀ y, y ≠ Str.ofString "interval" → y ≠ Str.ofString "last_interval" → y ≠ Str.ofString "grouping" → m y = none) : m = gMap ax vc vs vz j := by
  funext y
  unfold gMap
  by_cases e1 : y = Str.ofString "interval"
  · rw [if_pos e1, e1]; exact h1
  by_cases e2 : y = Str.ofString "last_interval"
  · rw [if_neg e1, if_pos e2, e2]; exact h2
  by_cases e3 : y = Str.ofString "grouping"
  · rw [if_neg e1, if_neg e2, if_pos e3, e3]; exact h3
  · rw [if_neg e1, if_neg e2, if_neg e3]; exact h4 y e1 e2 e3
theorem frIter {h₀ h h' : Heap} {L I : Addr} {m : Str → Option Value} (F : Fr h₀ L h m) (hs : Heap.SameBut I h h') (hI : L < I) : Fr h₀ L h' m :=
  ⟨F.ns.sameBut hs (Nat.ne_of_lt hI), fun b o e => (hs.2 b (Nat.ne_of_lt (Nat.lt_of_lt_of_le (Heap.lt_size e) (Nat.le_trans F.above (Nat.le_of_lt hI))))).trans (F.keep b o e), F.above⟩
theorem frMap {h₀ h : Heap} {L : Addr} {m m' : Str → Option Value} (F : Fr h₀ L h m) (e : m = m') : Fr h₀ L h m' := e ▸ F
theorem gen_ok {w : World} {p : Program} {loose : List Str} {mean : ExcName → Option Value} {mg mb : Str → Option Value} (ax : Addr) (c st : Int) (tc ts tz : Tok) (el : Nat) (hc : 0 < c) (hc' : c < 13) (hs : 0 < st) (hs' : st < 13) :
  Amb w p loose mean mg mb 2 10 (fun A base h₀ L m news s Q E =>
    (ax, W.listOf #[.int c tc, .int st ts, .int 0 tz] el) ∈ news →
    (∀ (Lg ga : Addr) (oL : Obj) (nm qn : Value) (h' : Heap) (tk' : Nat) (gs : GenState), (∀ p ∈ news, p.1 < Lg) → @LT.lt Nat _ Lg ga → @LT.lt Nat _ ax Lg → h₀.objs.size ≤ Lg → Fr h₀ L h' m → News h₀ L h' ((ga, { cls := .type "generator", data := .fields #[.int s.gens.size 0, nm, qn] }) :: (Lg, oL) :: news) →
      NsO oL (fun y => if y = Str.ofString "grouping" then some (.ref ax) else none) → gs.bare = true → GReady w h₀ Lg ax (.int c tc) (.int st ts) (.int 0 tz) gs →
      Q (.ref ga) { s with gens := s.gens.push gs, heap := h', toks := tk' }) →
    wpAny (model PySem.Challenge.rw_tl0052_01.row.prog w) A (call (.ref 45) [.ref ax]) Q E s) := by
  unfold Amb
  k_fill
  intro dp un gd cn cs a ccd cl outer A₀ base h₀ L m news s Q E B F X N T hk hd hu hax hret
  refine wpAny_call ?_
  refine' code_gen (binds := [(Str.ofString "grouping", .ref ax)]) F X N T ?kK ?k6 ?k8 ?k9 ?kB ?_ ?c2 ?c3 ?c4 ?c5
  case kK => exact rfl
  case k6 => k_dflt k_is
  case k8 => k_dflt ktr_room
  case k9 => k_dflt (first | exact BindsTo.of_eq rfl | exact binds_K (by k_in) rfl (by k_is) rfl rfl rfl)
  case c5 => k_dflt decide
  case kB => k_dflt (exact locs rfl)
  case c2 => k_dflt (exact rfl)
  case c3 => k_dflt (exact rfl)
  case c4 => k_dflt (exact rfl)
  k_whole
  intro Lg oL nm qn h' tk' hlt' F' N' hN hge
  have hmap : (fun y => List.lookup y [((Str.ofString "grouping" : Str), Value.ref ax)].reverse) = (fun y => if y = Str.ofString "grouping" then some (Value.ref ax) else none) := by
    funext y
    show List.lookup y [((Str.ofString "grouping" : Str), Value.ref ax)] = _
    rw [List.lookup_cons]
    by_cases e : y = Str.ofString "grouping"
    · rw [if_pos e, e, beq_self_eq_true]
    · rw [if_neg e, (beq_eq_false_iff_ne).mpr e]; rfl
  rw [hmap] at hN
  refine hret Lg _ oL nm qn h' tk' _ hlt' (Nat.lt_succ_self _) ?_ hge F' N' hN rfl ?_
  · exact hlt' _ hax
  clear hret
  intro A s FL HL
  have hal : ax < s.heap.objs.size := let ⟨o, e, _⟩ := HL; Heap.lt_size e
  have hLl : Lg < s.heap.objs.size := FL.ns.lt
  have hxL : ax ≠ Lg := by
    exact Nat.ne_of_lt (hlt' _ hax)
  refine ⟨rfl, seg_func (seg_execs_cons ?_)⟩
  refine seg_wrap (wpAny_Assign_Name (wpAny_Constant_none (st2 FL (fun h1 F1 hs1 => ?_))))
  have HL1 := HL.extBut hs1.extBut hxL
  refine seg_execs_cons (seg_For (ld F1 rfl (wpAny_pyIter_list HL1 (fun q => ?_))) (fun _ => rfl))
  have hI : h1.objs.size = s.heap.objs.size := hs1.1
  clear hN
  rw [hI]
  have it1 : (h1.push { cls := .type "list_iterator", data := .fields #[.ref ax, .int 0 0] }).IsListIter s.heap.objs.size ax 0 := by rw [← hI]; exact ⟨_, Heap.get?_push_size _ rfl, rfl, rfl⟩
  refine seg_forLoop (wpAny_pyNext_list_item (i := 0) (x := .int c tc) it1 (HL1.push _) rfl (fun h2 it2 hs2 => ⟨_, rfl, wpAny_assign_Name (st2 (frIter (F1.push _) hs2 hLl) (fun h3 F3 hs3 => ?_))⟩))
  have it3 := it2.extBut hs3.extBut (Nat.ne_of_gt hLl)
  have HL3 := ((HL1.push _).extBut hs2.extBut (Nat.ne_of_lt hal)).extBut hs3.extBut hxL
  have k3 : ∀ b o, b ≠ Lg → b ≠ s.heap.objs.size → s.heap.get? b = some o → h3.get? b = some o := fun b o e1 e2 e =>
    (hs3.2 b e1).trans ((hs2.2 b e2).trans (Heap.get?_push_of_some _ ((hs1.2 b e1).trans e)))
  clear hs1 hs2 hs3 HL1 it1 it2 F1 HL hI
  refine seg_execs_cons (seg_If ?_)
  k_steps
  · omega
  refine seg_execs_nil (seg_execs_cons (seg_If ?_))
  k_steps
  · omega
  refine seg_execs_nil (seg_execs_cons (seg_Expr_Yield (n := 39) rfl rfl rfl ?_))
  refine ld F3 rfl ?_
  intro kap hkap
  refine ⟨rfl, ⟨h3, _, rfl, k3, ?_, it3, HL3⟩, fun _ s4 hs4 => hkap _ _ ?_⟩
  · refine frMap F3 (gMap0 0 rfl rfl rfl (fun y e1 e2 e3 => ?_))
    show (if y = Str.ofString "interval" then _ else if y = Str.ofString "last_interval" then _ else if y = Str.ofString "grouping" then _ else _) = none
    rw [if_neg e1, if_neg e2, if_neg e3]
  clear hkap kap F3 it3 HL3 k3 hmap
  have hIL : s.heap.objs.size ≠ Lg := Nat.ne_of_gt hLl
  show Seg _ A NoEnd _ 39 s4 _ _ _ s4
  refine seg_execs_cons (seg_wrap (wpAny_Assign_Name (ld (v := .int c tc) hs4.fr rfl (st2 hs4.fr (fun h5 F5 hs5 => ?_)))))
  have it5 := hs4.it.extBut hs5.extBut hIL
  have HL5 := hs4.li.extBut hs5.extBut hxL
  refine seg_execs_nil (seg_again rfl ?_)
  refine seg_forLoop (wpAny_pyNext_list_item (i := 1) (x := .int st ts) it5 HL5 rfl (fun h6 it6 hs6 => ⟨_, rfl, wpAny_assign_Name (st2 (frIter F5 hs6 hLl) (fun h7 F7 hs7 => ?_))⟩))
  have it7 := it6.extBut hs7.extBut hIL
  have HL7 := (HL5.extBut hs6.extBut (Nat.ne_of_lt hal)).extBut hs7.extBut hxL
  have k7 : ∀ b o, b ≠ Lg → b ≠ s.heap.objs.size → s4.heap.get? b = some o → h7.get? b = some o := fun b o e1 e2 e =>
    (hs7.2 b e1).trans ((hs6.2 b e2).trans ((hs5.2 b e1).trans e))
  clear hs5 hs6 hs7 it5 it6 F5 HL5 
  refine seg_execs_cons (seg_If ?_)
  k_steps
  · omega
  refine seg_execs_nil (seg_execs_cons (seg_If ?_))
  k_steps
  · omega
  refine seg_execs_nil (seg_execs_cons (seg_Expr_Yield (n := 38) rfl rfl rfl ?_))
  refine ld F7 rfl ?_
  intro kap hkap
  refine ⟨rfl, ⟨h7, _, rfl, k7, ?_, it7, HL7⟩, fun _ s8 hs8 => hkap _ _ ?_⟩
  · refine frMap F7 (gMap0 1 rfl rfl rfl (fun y e1 e2 e3 => ?_))
    show (if y = Str.ofString "interval" then _ else if y = Str.ofString "last_interval" then _ else gMap _ _ _ _ _ y) = none
    rw [if_neg e1, if_neg e2]
    unfold gMap
    rw [if_neg e1, if_neg e2, if_neg e3]
  clear hkap kap F7 it7 HL7 k7 hs4
  show Seg _ A NoEnd _ 38 s8 _ _ _ s8
  refine seg_execs_cons (seg_wrap (wpAny_Assign_Name (ld (v := .int st ts) hs8.fr rfl (st2 hs8.fr (fun h9 F9 hs9 => ?_)))))
  have it9 := hs8.it.extBut hs9.extBut hIL
  have HL9 := hs8.li.extBut hs9.extBut hxL
  refine seg_execs_nil (seg_again rfl ?_)
  refine seg_forLoop (wpAny_pyNext_list_item (i := 2) (x := .int 0 tz) it9 HL9 rfl (fun h10 it10 hs10 => ⟨_, rfl, wpAny_assign_Name (st2 (frIter F9 hs10 hLl) (fun h11 F11 hs11 => ?_))⟩))
  have it11 := it10.extBut hs11.extBut hIL
  have HL11 := (HL9.extBut hs10.extBut (Nat.ne_of_lt hal)).extBut hs11.extBut hxL
  have k11 : ∀ b o, b ≠ Lg → b ≠ s.heap.objs.size → s8.heap.get? b = some o → h11.get? b = some o := fun b o e1 e2 e =>
    (hs11.2 b e1).trans ((hs10.2 b e2).trans ((hs9.2 b e1).trans e))
  clear hs9 hs10 hs11 it9 it10 F9 HL9 
  refine seg_execs_cons (seg_If ?_)
  k_steps
  refine seg_execs_nil (seg_execs_cons (seg_If ?_))
  k_steps
  refine seg_execs_cons (seg_If ?_)
  k_steps
  refine seg_execs_nil ?_
  refine seg_execs_cons ?_
  refine seg_While (fun q' => ?_)
  refine ever_while rfl rfl rfl rfl rfl rfl 37 _ _ (by omega) ⟨h11, _, rfl, k11⟩ ⟨?_, it11, HL11⟩
  refine frMap F11 (gMap0 2 rfl rfl rfl (fun y e1 e2 e3 => ?_))
  show (if y = Str.ofString "interval" then _ else if y = Str.ofString "last_interval" then _ else gMap _ _ _ _ _ y) = none
  rw [if_neg e1, if_neg e2]
  unfold gMap
  rw [if_neg e1, if_neg e2, if_neg e3]
end Mine
end
section
open PySem PySem.W PySem.W.X PySem.W.ZRun PySem.Spec PySem.Calls PyProof.Rows
set_option maxRecDepth 100000
set_option maxHeartbeats 0
set_option linter.unusedVariables false
namespace Mine
noncomputable def GAt (w : World) (h₀ : Heap) (Lg I ax : Addr) (vc vs vz : Value) (A : Around) (j : Nat) (gs : GenState) : Prop :=
  ∀ (s : Shared), St h₀ Lg I ax vc vs vz j s.heap → gs.Goes (model PySem.Challenge.rw_tl0052_01.row.prog w) A NoEnd (YG h₀ Lg I ax vc vs vz) (39 - j) (.send .none) s
noncomputable def IterO (o : Obj) (ax : Addr) (i : Nat) : Prop := o.cls = .type "list_iterator" ∧ o.data = .fields #[.ref ax, .int i 0]
theorem IterO.at {o : Obj} {ax I : Addr} {i : Nat} (x : IterO o ax i) {h : Heap} (e : h.get? I = some o) : h.IsListIter I ax i := ⟨o, e, x⟩
noncomputable def SObj (ax : Addr) (vc vs vz : Value) (j : Nat) (oL oI : Obj) : Prop := NsO oL (gMap ax vc vs vz j) ∧ IterO oI ax (if j = 0 then 1 else if j = 1 then 2 else 3)
structure Gens (g : Nat) (gs' : GenState) (a b : Array GenState) : Prop where
  at_ : b[g]? = some gs'
  size : b.size = a.size
  bare : (∀ x ∈ a, x.bare = true) → ∀ x ∈ b, x.bare = true
theorem Gens.two {s : Shared} {g : Nat} {gs gs' : GenState} (hgs : s.gens[g]? = some gs) (hb : gs'.bare = true) : Gens g gs' s.gens ((s.gens.setIfInBounds g .running).setIfInBounds g gs') := by
  have hlt : g < s.gens.size := (Array.getElem?_eq_some_iff.mp hgs).1
  refine ⟨by simp [hlt], by simp, fun ha x hx => ?_⟩
  obtain ⟨i, hi, rfl⟩ := Array.mem_iff_getElem.mp hx
  by_cases e : g = i
  · subst e; simp [hb]
  · rw [Array.getElem_setIfInBounds_ne (h := e), Array.getElem_setIfInBounds_ne (h := e)]
    exact ha _ (Array.getElem_mem _)
    all_goals simpa using hi
section
variable {w : World} {A : Around} {E : Value → Shared → Prop} {s : Shared} {h₀ : Heap} {L Lg ga ax g : Nat} {m : Str → Option Value} {vc vs vz nm qn : Value} {oL : Obj} {gs : GenState} {rest : List (Addr × Obj)} {Q : Option Value → Shared → Prop}
theorem gen_first (hl : s.heap.NoLimit) (hroom : A.depth < recursionLimit) (F : Fr h₀ L s.heap m)
    (N : News h₀ L s.heap ((ga, { cls := .type "generator", data := .fields #[.int g 0, nm, qn] }) :: (Lg, oL) :: rest)) (hgs : s.gens[g]? = some gs) (hr : GReady w h₀ Lg ax vc vs vz gs)
    (hL : NsO oL (fun y => if y = Str.ofString "grouping" then some (.ref ax) else none)) (hge : h₀.objs.size ≤ Lg) (hx : s.heap.IsList ax #[vc, vs, vz]) (hlt : ∀ p ∈ rest, p.1 < Lg) (hga : Lg < ga) (hxL : ax < Lg)
    (hQ : ∀ I h' tk' gens' gs' oL' oI, (∀ p ∈ rest, p.1 < I) → Lg < I → ga < I → Fr h₀ L h' m → News h₀ L h' ((I, oI) :: (ga, { cls := .type "generator", data := .fields #[.int g 0, nm, qn] }) :: (Lg, oL') :: rest) →
      SObj ax vc vs vz 0 oL' oI → Gens g gs' s.gens gens' → GAt w h₀ Lg I ax vc vs vz A.in1 0 gs' → Q (some vc) { s with heap := h', toks := tk', gens := gens' }) :
    wpAny (model PySem.Challenge.rw_tl0052_01.row.prog w) A (pyNext (.ref ga)) Q E s := by
  have hgL := N _ (.tail _ (.head _))
  have hgg := N _ (.head _)
  refine next_ever (n := 40) hl hroom ⟨_, nm, qn, hgg.1, rfl, rfl, rfl⟩ hgs (hr A.in1 (s.setGen g .running) ⟨hL.ns hgL.1, F.keep, hge⟩ hx) (fun v s₁ gs' hb hY => ?_)
  obtain ⟨rfl, ⟨h', tk', rfl, hk, hst⟩, hkap⟩ := hY
  obtain ⟨oL', hoL', hNL⟩ := NsO.of hst.fr.ns
  obtain ⟨oI, hoI, hIc, hId⟩ := hst.it
  have hIs : L < s.heap.objs.size := F.ns.lt
  have hgas : ga < s.heap.objs.size := Heap.lt_size hgg.1
  have kp : ∀ b o, b ≠ Lg → s.heap.get? b = some o → h'.get? b = some o := fun b o e1 e => hk b o e1 (Nat.ne_of_lt (Heap.lt_size e)) e
  refine hQ s.heap.objs.size h' tk' _ gs' oL' oI (fun p hp => Nat.lt_trans (hlt p hp) (Nat.lt_trans hga hgas)) (Nat.lt_trans hga hgas) hgas
    ⟨F.ns.at' fun o e => kp _ _ (Ne.symm hgL.2.1) e, fun b o e => kp _ _ (Nat.ne_of_lt (Nat.lt_of_lt_of_le (Heap.lt_size e) hge)) (F.keep b o e), F.above⟩ (fun p hp => ?_) ⟨hNL, hIc, hId⟩ (Gens.two hgs hb) fun s'' hs'' => hkap (by omega) s'' hs''
  rcases List.mem_cons.mp hp with rfl | hp
  · exact ⟨hoI, Nat.ne_of_gt hIs, next_is_new F⟩
  rcases List.mem_cons.mp hp with rfl | hp
  · exact ⟨kp _ _ (Nat.ne_of_gt hga) hgg.1, hgg.2⟩
  rcases List.mem_cons.mp hp with rfl | hp
  · exact ⟨hoL', hgL.2⟩
  · have hq := N p (.tail _ (.tail _ hp))
    exact ⟨kp _ _ (Nat.ne_of_lt (hlt p hp)) hq.1, hq.2⟩
theorem gen_next {I j : Nat} {oI : Obj} (hj : j < 38) (hl : s.heap.NoLimit) (hroom : A.depth < recursionLimit) (F : Fr h₀ L s.heap m)
    (N : News h₀ L s.heap ((I, oI) :: (ga, { cls := .type "generator", data := .fields #[.int g 0, nm, qn] }) :: (Lg, oL) :: rest)) (hgs : s.gens[g]? = some gs) (hr : GAt w h₀ Lg I ax vc vs vz A.in1 j gs)
    (hL : SObj ax vc vs vz j oL oI) (hge : h₀.objs.size ≤ Lg) (hx : s.heap.IsList ax #[vc, vs, vz]) (hlt : ∀ p ∈ rest, p.1 ≠ Lg) (hltI : ∀ p ∈ rest, p.1 ≠ I) (hga : Lg < ga) (hgI : ga < I)
    (hQ : ∀ h' tk' gens' gs' oL' oI', Fr h₀ L h' m → News h₀ L h' ((I, oI') :: (ga, { cls := .type "generator", data := .fields #[.int g 0, nm, qn] }) :: (Lg, oL') :: rest) →
      SObj ax vc vs vz (j + 1) oL' oI' → Gens g gs' s.gens gens' → GAt w h₀ Lg I ax vc vs vz A.in1 (j + 1) gs' → Q (some vs) { s with heap := h', toks := tk', gens := gens' }) :
    wpAny (model PySem.Challenge.rw_tl0052_01.row.prog w) A (pyNext (.ref ga)) Q E s := by
  have hgL := N _ (.tail _ (.tail _ (.head _)))
  have hgg := N _ (.tail _ (.head _))
  have hgI' := N _ (.head _)
  refine next_ever (n := 39 - j) hl hroom ⟨_, nm, qn, hgg.1, rfl, rfl, rfl⟩ hgs (hr (s.setGen g .running) ⟨⟨hL.1.ns hgL.1, F.keep, hge⟩, hL.2.at hgI'.1, hx⟩) (fun v s₁ gs' hb hY => ?_)
  obtain ⟨n, hn⟩ : ∃ n, 39 - j = n + 2 := ⟨37 - j, g37 j (by assumption)⟩
  rw [hn] at hY
  have hn1 : n + 2 - 1 = n + 1 := rfl
  have hj1 : 39 - (n + 1) = j + 1 := g38 (by assumption) hn
  unfold YG at hY
  rw [hn1, hj1] at hY
  obtain ⟨hv, ⟨h', tk', rfl, hk, hst⟩, hkap⟩ := hY
  obtain ⟨oL', hoL', hNL⟩ := NsO.of hst.fr.ns
  obtain ⟨oI', hoI', hIc, hId⟩ := hst.it
  have e : gVal vc vs (j + 1) = vs := if_neg (Nat.succ_ne_zero _)
  rw [hv, e]
  refine hQ h' tk' _ gs' oL' oI' 
    ⟨F.ns.at' fun o e => hk _ _ (Ne.symm hgL.2.1) (Ne.symm hgI'.2.1) e, fun b o e => hk _ _ (Nat.ne_of_lt (Nat.lt_of_lt_of_le (Heap.lt_size e) hge)) (fun e' => by rw [e', hgI'.2.2] at e; cases e) (F.keep b o e), F.above⟩ (fun p hp => ?_) ⟨hNL, hIc, hId⟩ (Gens.two hgs hb) fun s'' hs'' => ?_
  · rcases List.mem_cons.mp hp with rfl | hp
    · exact ⟨hoI', hgI'.2⟩
    rcases List.mem_cons.mp hp with rfl | hp
    · exact ⟨hk _ _ (Nat.ne_of_gt hga) (Nat.ne_of_lt hgI) hgg.1, hgg.2⟩
    rcases List.mem_cons.mp hp with rfl | hp
    · exact ⟨hoL', hgL.2⟩
    · have hq := N p (.tail _ (.tail _ (.tail _ hp)))
      exact ⟨hk _ _ (hlt p hp) (hltI p hp) hq.1, hq.2⟩
  · have := hkap (by omega) s'' hs''
    rw [show 39 - (j + 1) = n + 1 by rw [Nat.sub_add_eq, hn]; rfl]
    exact this
end
end Mine
end
section
open PySem PySem.W PySem.W.X PySem.W.ZRun PySem.Spec PySem.Calls PyProof.Rows
set_option maxRecDepth 100000
set_option maxHeartbeats 0
set_option linter.unusedVariables false
namespace Mine
section
variable {w : World} {A : Around} {s : Shared} {h₀ : Heap} {Lg ga ax g el : Nat} {m : Str → Option Value} {vc vs vz nm qn : Value} {oL : Obj} {gs : GenState} {rest : List (Addr × Obj)} {R : Result → Shared → Prop} {cn : Str} {cs : Scope} {L ca : Addr} {ccd : Value} {x : Str} {px : Pos} {body : List Stmt}
noncomputable def TurnG (R : Result → Shared → Prop) (h₀ : Heap) (L Lg ga ax g el : Nat) (vc vs vz nm qn : Value) (s : Shared) (I : Addr) (oI oL : Obj) (gens' : Array GenState) (J : (Str → Option Value) → List (Addr × Obj) → Prop) (i : Nat) (f : Flow) (s₂ : Shared) : Prop :=
  match f with
  | .ret v => R (.ok (.ret v)) s₂
  | .brk => R (.ok .next) s₂
  | _ => i + 1 < 30 ∧ ∃ h' tk' m' news', s₂ = { s with heap := h', toks := tk', gens := gens' } ∧ Fr h₀ L h' m' ∧ News h₀ L h' ((I, oI) :: (ga, { cls := .type "generator", data := .fields #[.int g 0, nm, qn] }) :: (Lg, oL) :: news') ∧
      (∀ p ∈ news', p.1 < Lg) ∧ (ax, W.listOf #[vc, vs, vz] el) ∈ news' ∧ J m' news'
theorem gloop (J : Nat → (Str → Option Value) → List (Addr × Obj) → Prop) (hl : ∀ h m, Fr h₀ L h m → h.NoLimit) (hroom : A.depth < recursionLimit) (F : Fr h₀ L s.heap m)
    (N : News h₀ L s.heap ((ga, { cls := .type "generator", data := .fields #[.int g 0, nm, qn] }) :: (Lg, oL) :: rest)) (hgs : s.gens[g]? = some gs) (hr : GReady w h₀ Lg ax vc vs vz gs)
    (hL : NsO oL (fun y => if y = Str.ofString "grouping" then some (.ref ax) else none)) (hge : h₀.objs.size ≤ Lg) (hx : (ax, W.listOf #[vc, vs, vz] el) ∈ rest) (hlt : ∀ p ∈ rest, p.1 < Lg) (hga : Lg < ga) (hJ : J 0 m rest)
    (hk : cs.kind = .function) (hx1 : (envOf cn cs L ca ccd).kindOf x = some .local)
    (turn : ∀ i m₁ news₁ h tk gens' I oI oL', i < 30 → J i m₁ news₁ → (∀ p ∈ news₁, p.1 < Lg) → ga < I → (ax, W.listOf #[vc, vs, vz] el) ∈ news₁ → Fr h₀ L h (fun y => if y = x then some (gVal vc vs i) else m₁ y) →
      News h₀ L h ((I, oI) :: (ga, { cls := .type "generator", data := .fields #[.int g 0, nm, qn] }) :: (Lg, oL') :: news₁) → ((∀ y ∈ s.gens, y.bare = true) → ∀ y ∈ gens', y.bare = true) →
      wpAny (model PySem.Challenge.rw_tl0052_01.row.prog w) A (execs body (envOf cn cs L ca ccd)) (TurnG R h₀ L Lg ga ax g el vc vs vz nm qn s I oI oL' gens' (J (i + 1)) i)
        (notedBy (model PySem.Challenge.rw_tl0052_01.row.prog w) A (envOf cn cs L ca ccd) fun e s' => R (.error e) s') { s with heap := h, toks := tk, gens := gens' }) :
    codeAny (model PySem.Challenge.rw_tl0052_01.row.prog w) A (.forLoop (.Name x px) (.ref ga) body [] (envOf cn cs L ca ccd)) R s := by
  have isl : ∀ h news', News h₀ L h news' → (ax, W.listOf #[vc, vs, vz] el) ∈ news' → h.IsList ax #[vc, vs, vz] := fun h news' N' hm => ⟨_, (N' _ hm).1, rfl, el, rfl⟩
  refine codeAny_forLoop (fun k s' => (k = 31 ∧ s' = s) ∨ ∃ i h' tk m' news' gens' gs' oL' oI I, k = 30 - i ∧ 1 ≤ i ∧ i < 30 ∧ s' = { s with heap := h', toks := tk, gens := gens' } ∧ J i m' news' ∧ (∀ p ∈ news', p.1 < Lg) ∧ ga < I ∧ (ax, W.listOf #[vc, vs, vz] el) ∈ news' ∧
      Fr h₀ L h' m' ∧ News h₀ L h' ((I, oI) :: (ga, { cls := .type "generator", data := .fields #[.int g 0, nm, qn] }) :: (Lg, oL') :: news') ∧ ((∀ y ∈ s.gens, y.bare = true) → ∀ y ∈ gens', y.bare = true) ∧ gens'[g]? = some gs' ∧ SObj ax vc vs vz (i - 1) oL' oI ∧ GAt w h₀ Lg I ax vc vs vz A.in1 (i - 1) gs') ?_ 31 (.inl ⟨rfl, rfl⟩)
  rintro k s' (⟨rfl, rfl⟩ | ⟨i, h', tk, m', news', gens', gs', oL', oI, I, rfl, hi1, hi, rfl, hJ', hlt', hgI, hx', F', N', hb', hgs', hS', hG'⟩)
  · refine gen_first (hl _ _ F) hroom F N hgs hr hL hge (isl _ _ N (.tail _ (.tail _ hx))) hlt hga (hlt _ hx) (fun I h' tk' gens' gs' oL' oI q1 q2 q3 F' N' hS' hG' hA' => ?_)
    refine wpAny_assign_Name (st2 F' (fun h2 F2 hs2 => ?_) hk hx1)
    have N2 := N'.set hs2
    refine wpAny_mono (turn 0 _ _ _ _ gens' I oI oL' (by omega) hJ hlt q3 hx F2 N2 hG'.bare) (fun f s₂ h₂ => ?_) fun _ _ e => e
    induction f using flow4 with
    | h1 v => exact h₂
    | h2 => exact h₂
    | h3 =>
      obtain ⟨_, h3, tk3, m3, news3, rfl, F3, N3, hlt3, hx3, hJ3⟩ := h₂
      exact ⟨29, by omega, .inr ⟨1, h3, tk3, m3, news3, gens', gs', oL', oI, I, rfl, by omega, by omega, rfl, hJ3, hlt3, q3, hx3, F3, N3, hG'.bare, hG'.at_, hS', hA'⟩⟩
    | h4 ih => exact ih h₂
  · obtain ⟨j, rfl⟩ : ∃ j, i = j + 1 := ⟨i - 1, by omega⟩
    rw [Nat.add_sub_cancel] at hS' hG'
    refine gen_next (by omega) (hl _ _ F') hroom F' N' hgs' hG' hS' hge (isl _ _ N' (.tail _ (.tail _ (.tail _ hx')))) (fun p hp => Nat.ne_of_lt (hlt' p hp)) (fun p hp => Nat.ne_of_lt (Nat.lt_trans (hlt' p hp) (Nat.lt_trans hga hgI))) hga hgI
      (fun h4 tk4 gens4 gs4 oL4 oI4 F4 N4 hS4 hG4 hA4 => ?_)
    refine wpAny_assign_Name (st2 F4 (fun h2 F2 hs2 => ?_) hk hx1)
    have N2 := N4.set hs2
    have ev : gVal vc vs (j + 1) = vs := if_neg (Nat.succ_ne_zero _)
    rw [← ev] at F2
    refine wpAny_mono (turn (j + 1) _ _ _ _ gens4 I oI4 oL4 hi hJ' hlt' hgI hx' F2 N2 fun hh => hG4.bare (hb' hh)) (fun f s₂ h₂ => ?_) fun _ _ e => e
    induction f using flow4 with
    | h1 v => exact h₂
    | h2 => exact h₂
    | h3 =>
      obtain ⟨hi5, h3, tk3, m3, news3, rfl, F3, N3, hlt3, hx3, hJ3⟩ := h₂
      exact ⟨30 - (j + 1 + 1), Nat.sub_lt_sub_left hi (Nat.lt_succ_self _), .inr ⟨j + 1 + 1, h3, tk3, m3, news3, gens4, gs4, oL4, oI4, I, rfl, by omega, hi5, rfl, hJ3, hlt3, hgI, hx3, F3, N3, fun hh => hG4.bare (hb' hh), hG4.at_, hS4, hA4⟩⟩
    | h4 ih => exact ih h₂
end
end Mine
end
section
open PySem PySem.W PySem.W.X PySem.W.ZRun PySem.Spec PySem.Calls PyProof.Rows
set_option maxRecDepth 100000
set_option maxHeartbeats 0
set_option linter.unusedVariables false
namespace Mine
section
variable {prog : Program} {w : World} {A : Around} {s : Shared} {h₀ : Heap} {lx el : Nat} {m : Str → Option Value} {items : Array Value} {rest : List (Addr × Obj)} {R : Result → Shared → Prop} {cn : Str} {cs : Scope} {L ca I : Addr} {ccd : Value} {x : Str} {px : Pos} {body : List Stmt}
noncomputable def TurnO (R : Result → Shared → Prop) (h₀ : Heap) (L lx el : Nat) (items : Array Value) (s : Shared) (I : Addr) (oI : Obj) (J : (Str → Option Value) → List (Addr × Obj) → Prop) (f : Flow) (s₂ : Shared) : Prop :=
  match f with
  | .ret v => R (.ok (.ret v)) s₂
  | .brk => R (.ok .next) s₂
  | _ => ∃ h' tk' m' news' gens', s₂ = { s with heap := h', toks := tk', gens := gens' } ∧ Fr h₀ L h' m' ∧ News h₀ L h' ((I, oI) :: news') ∧
      (∀ p ∈ news', p.1 ≠ I) ∧ (lx, W.listOf items el) ∈ news' ∧ J m' news' ∧ ((∀ y ∈ s.gens, y.bare = true) → ∀ y ∈ gens', y.bare = true)
theorem oloop (J : Nat → (Str → Option Value) → List (Addr × Obj) → Prop) (hh : A.handled = none) (F : Fr h₀ L s.heap m)
    (N : News h₀ L s.heap ((I, { cls := .type "list_iterator", data := .fields #[.ref lx, .int 0 0] }) :: rest)) (hx : (lx, W.listOf items el) ∈ rest) (hne : ∀ p ∈ rest, p.1 ≠ I) (hJ : J 0 m rest)
    (hk : cs.kind = .function) (hx1 : (envOf cn cs L ca ccd).kindOf x = some .local)
    (turn : ∀ i v m₁ news₁ h tk gens' oI, items[i]? = some v → J i m₁ news₁ → (∀ p ∈ news₁, p.1 ≠ I) → (lx, W.listOf items el) ∈ news₁ → Fr h₀ L h (fun y => if y = x then some v else m₁ y) →
      News h₀ L h ((I, oI) :: news₁) → ((∀ y ∈ s.gens, y.bare = true) → ∀ y ∈ gens', y.bare = true) →
      wpAny (model prog w) A (execs body (envOf cn cs L ca ccd)) (TurnO R h₀ L lx el items s I oI (J (i + 1)))
        (notedBy (model prog w) A (envOf cn cs L ca ccd) fun e s' => R (.error e) s') { s with heap := h, toks := tk, gens := gens' })
    (done : ∀ m₁ news₁ h tk gens', J items.size m₁ news₁ → Fr h₀ L h m₁ → News h₀ L h news₁ → ((∀ y ∈ s.gens, y.bare = true) → ∀ y ∈ gens', y.bare = true) → R (.ok .next) { s with heap := h, toks := tk, gens := gens' }) :
    codeAny (model prog w) A (.forLoop (.Name x px) (.ref I) body [] (envOf cn cs L ca ccd)) R s := by
  have isl : ∀ h news', News h₀ L h news' → (lx, W.listOf items el) ∈ news' → h.IsList lx items := fun h news' N' hm => ⟨_, (N' _ hm).1, rfl, el, rfl⟩
  refine codeAny_forLoop (fun k s' => ∃ i h' tk m' news' gens' oI, k = items.size + 1 - i ∧ i ≤ items.size ∧ s' = { s with heap := h', toks := tk, gens := gens' } ∧ J i m' news' ∧ (∀ p ∈ news', p.1 ≠ I) ∧ (lx, W.listOf items el) ∈ news' ∧
      Fr h₀ L h' m' ∧ News h₀ L h' ((I, oI) :: news') ∧ IterO oI lx i ∧ ((∀ y ∈ s.gens, y.bare = true) → ∀ y ∈ gens', y.bare = true)) ?_ (items.size + 1)
      ⟨0, s.heap, s.toks, m, rest, s.gens, _, rfl, Nat.zero_le _, rfl, hJ, hne, hx, F, N, ⟨rfl, rfl⟩, fun x => x⟩
  rintro k s' ⟨i, h', tk, m', news', gens', oI, rfl, hi, rfl, hJ', hne', hx', F', N', hI', hb'⟩
  have nI := N' _ (.head _)
  have hIL : I ≠ L := nI.2.1
  have hxI : lx ≠ I := hne' _ hx'
  have nx : ∀ h1, Heap.ExtBut I h' h1 → Fr h₀ L h1 m' ∧ News h₀ L h1 news' := fun h1 hs => ⟨⟨F'.ns.at' fun o e => hs _ _ (Ne.symm hIL) e, fun b o e => hs b o (fun e' => by rw [e', nI.2.2] at e; cases e) (F'.keep b o e), F'.above⟩,
    fun p hp => ⟨hs _ _ (hne' p hp) (N' p (.tail _ hp)).1, (N' p (.tail _ hp)).2⟩⟩
  by_cases hlt : i < items.size
  · refine wpAny_pyNext_list_item (x := items[i]) (hI'.at nI.1) (isl _ _ N' (.tail _ hx')) (by simp [hlt]) (fun h1 hit hs => ?_)
    obtain ⟨F1, N1⟩ := nx h1 hs.extBut
    obtain ⟨oI1, ho1, hc1, hd1⟩ := hit
    refine wpAny_assign_Name (st2 F1 (fun h2 F2 hs2 => ?_) hk hx1)
    have N2 : News h₀ L h2 ((I, oI1) :: news') := News.set (L := L) (fun p hp => by
      rcases List.mem_cons.mp hp with rfl | hp
      · exact ⟨ho1, nI.2⟩
      · exact N1 p hp) hs2
    refine wpAny_mono (turn i items[i] m' news' _ _ gens' oI1 (by simp [hlt]) hJ' hne' hx' F2 N2 hb') (fun f s₂ h₂ => ?_) fun _ _ e => e
    induction f using flow4 with
    | h1 v => exact h₂
    | h2 => exact h₂
    | h3 =>
      obtain ⟨h3, tk3, m3, news3, gens3, rfl, F3, N3, hne3, hx3, hJ3, hb3⟩ := h₂
      exact ⟨items.size + 1 - (i + 1), Nat.sub_lt_sub_left (Nat.lt_succ_of_lt (by assumption)) (Nat.lt_succ_self _), i + 1, h3, tk3, m3, news3, gens3, oI1, rfl, hlt, rfl, hJ3, hne3, hx3, F3, N3, ⟨hc1, hd1⟩, hb3⟩
    | h4 ih => exact ih h₂
  · have : i = items.size := by omega
    subst this
    refine wpAny_pyNext_list_end hh (hI'.at nI.1) (isl _ _ N' (.tail _ hx')) (by simp) (fun h1 hs => wpAny_execs_nil ?_)
    obtain ⟨F1, N1⟩ := nx h1 hs
    exact done _ _ _ _ _ hJ' F1 N1 hb'
end
end Mine
end
section
open PySem PySem.W PySem.W.X PySem.W.ZRun PySem.Spec PySem.Calls PyProof.Rows
set_option maxRecDepth 100000
set_option maxHeartbeats 0
set_option linter.unusedVariables false
namespace Mine
section
variable {prog : Program} {w : World} {A : Around} {E : Value → Shared → Prop} {R : Result → Shared → Prop} {s : Shared}
abbrev ctests (w : World) (prog : Program) (A : Around) (ifs : List Expr) (env : Env) (Q : Bool → Shared → Prop) (E : Value → Shared → Prop) (s : Shared) : Prop :=
  wpAny (model prog w) A (forIn ifs true fun c r => if r = true then do let ok ← isTrue c env (eval c env); pure (ForInStep.yield ok) else pure (ForInStep.yield r)) Q E s
theorem cl_rule {e : Expr} {d : Nat} {target : Expr} {ifs : List Expr} {ip : Pos} {it acc : Value} {env : Env} {BODY : Sem Unit}
    (hfr : (Code.compLoop e d it acc env).isFrame = false) (hun : A.under (Code.compLoop e d it acc env) = A)
    (heq : compTurn e d it acc env = (do
      standAt ip
      match ← pyNext it with
      | none => pure (.done .next)
      | some v =>
        letOwnedTupleGo target it v
        assign target env v
        let mut ok := true
        for c in ifs do
          if ok then ok ← isTrue c env (eval c env)
        if ok then
          BODY
        again (.compLoop e d it acc env))) (I : Nat → Shared → Prop)
    (turn : ∀ n s, I n s → wpAny (model prog w) A (pyNext it) (fun r s₁ => match r with
      | none => R (.ok .next) s₁
      | some v => wpAny (model prog w) A (letOwnedTupleGo target it v) (fun _ s₁' => wpAny (model prog w) A (assign target env v) (fun _ s₂ =>
          ctests w prog A ifs env (fun ok s₃ =>
            if ok = true then wpAny (model prog w) A BODY (fun _ s₅ => ∃ m, m < n ∧ I m s₅) (notedBy (model prog w) A env fun e s' => R (.error e) s') s₃
            else ∃ m, m < n ∧ I m s₃) (notedBy (model prog w) A env fun e s' => R (.error e) s') s₂) (notedBy (model prog w) A env fun e s' => R (.error e) s') s₁') (notedBy (model prog w) A env fun e s' => R (.error e) s') s₁) (notedBy (model prog w) A env fun e s' => R (.error e) s') s)
    (n : Nat) (h : I n s) :
    codeAny (model prog w) A (.compLoop e d it acc env) R s := by
  refine codeAny_loop rfl I (fun n s hI => ?_) n h
  rw [hun]
  show wpAny _ A (if (Code.compLoop e d it acc env).isFrame then (compTurn e d it acc env).onRaise (leaving env) else (compTurn e d it acc env).onRaise (fun x => do noteFrame x env; theTreesLotGoes x)) _ _ s
  rw [hfr]
  simp only [Bool.false_eq_true, if_false]
  refine wpAny_noted ?_
  rw [heq]
  refine wpAny_bind (wpAny_standAt (wpAny_bind (wpAny_mono (turn n s hI) (fun r s₁ h₁ => ?_) fun _ _ h' => h')))
  cases r with
  | none => exact wpAny_pure h₁
  | some v =>
    refine wpAny_bind (wpAny_mono h₁ (fun _ s₁' h₁' => ?_) fun _ _ h' => h')
    refine wpAny_bind (wpAny_mono h₁' (fun _ s₂ h₂ => wpAny_bind (wpAny_mono h₂ (fun ok s₃ h₃ => ?_) fun _ _ h' => h')) fun _ _ h' => h')
    cases ok with
    | false => exact wpAny_pure ⟨rfl, h₃⟩
    | true =>
      exact wpAny_bind (wpAny_mono h₃ (fun x s₄ h₄ => wpAny_pure ⟨rfl, h₄⟩) fun _ _ h' => h')
theorem cs_rule {e : Expr} {d : Nat} {g : Comprehension} {it acc : Value} {env : Env} (hg : (clausesOf e)[d]? = some g) (ha : g.is_async = 0)
    (hfr : (Code.compStart e d it acc env).isFrame = false) (hun : A.under (Code.compStart e d it acc env) = A)
    (h0 : codeAny (model prog w) A (.compLoop e d it acc env) R s)
    (h : wpAny (model prog w) A (pyIter it) (fun it' s' => codeAny (model prog w) A (.compLoop e d it' acc env) R s')
      (notedBy (model prog w) A env fun x s' => R (.error x) s') s) :
    codeAny (model prog w) A (.compStart e d it acc env) R s := by
  refine codeAny_of_tree ?_
  rw [hun]
  show wpAny _ A (if (Code.compStart e d it acc env).isFrame then (compStart e d it acc env).onRaise (leaving env) else (compStart e d it acc env).onRaise (fun x => do noteFrame x env; standAt theWindowsPlace)) _ _ s
  rw [hfr]
  simp only [Bool.false_eq_true, if_false]
  refine wpAny_notedAt ?_
  unfold compStart
  rw [hg]
  simp only [Option.elim, ha, bne_self_eq_false, Bool.false_eq_true, if_false]
  show wpAny _ A (ask >>= _) _ _ s
  refine wpAny_bind (wpAny_askSetting (wpAny_ite ?_))
  split
  · first
      | exact wpAny_bind (wpAny_pure (wpAny_pure (And.intro rfl h0)))
      | exact wpAny_pure (And.intro rfl h0)
  · first
      | exact wpAny_bind (wpAny_rule (wpAny_bind (wpAny_standAt (wpAny_bind (wpAny_mono h (fun it' s' h' => wpAny_pure (And.intro rfl h')) fun _ _ x => x)))))
      | (refine wpAny_bind (wpAny_rule ?_); refine wpAny_bind (wpAny_standAt ?_); exact (wpAny_bind (wpAny_mono h (fun it' s' h' => wpAny_pure (And.intro rfl h')) fun _ _ x => x)))
theorem ct_list (elt target iter : Expr) (ifs : List Expr) (scope : Scope) (pos : Pos) (it acc : Value) (env : Env) :
    compTurn (.ListComp elt [⟨target, iter, ifs, 0⟩] scope pos) 0 it acc env = (do
      standAt iter.pos
      match ← pyNext it with
      | none => pure (.done .next)
      | some v =>
        letOwnedTupleGo target it v
        assign target env v
        let mut ok := true
        for c in ifs do
          if ok then ok ← isTrue c env (eval c env)
        if ok then
          (do let _ ← call (.builtin "list.append") [acc, ← eval elt env])
        again (.compLoop (.ListComp elt [⟨target, iter, ifs, 0⟩] scope pos) 0 it acc env)) := by rfl
theorem ct_set (elt target iter : Expr) (ifs : List Expr) (scope : Scope) (pos : Pos) (it acc : Value) (env : Env) :
    compTurn (.SetComp elt [⟨target, iter, ifs, 0⟩] scope pos) 0 it acc env = (do
      standAt iter.pos
      match ← pyNext it with
      | none => pure (.done .next)
      | some v =>
        letOwnedTupleGo target it v
        assign target env v
        let mut ok := true
        for c in ifs do
          if ok then ok ← isTrue c env (eval c env)
        if ok then
          (do let v ← eval elt env; standAt elt.pos; let _ ← call (.builtin "set.add") [acc, v])
        again (.compLoop (.SetComp elt [⟨target, iter, ifs, 0⟩] scope pos) 0 it acc env)) := by rfl
theorem ct_set0 (elt target iter target₁ iter₁ : Expr) (ifs ifs₁ : List Expr) (scope : Scope) (pos : Pos) (it acc : Value) (env : Env) :
    compTurn (.SetComp elt [⟨target, iter, ifs, 0⟩, ⟨target₁, iter₁, ifs₁, 0⟩] scope pos) 0 it acc env = (do
      standAt iter.pos
      match ← pyNext it with
      | none => pure (.done .next)
      | some v =>
        letOwnedTupleGo target it v
        assign target env v
        let mut ok := true
        for c in ifs do
          if ok then ok ← isTrue c env (eval c env)
        if ok then
          (do
            let x ← eval iter₁ env
            standAt iter₁.pos
            let x ← foldedSetIterable iter₁ env x
            let _ ← runOwn (.compStart (.SetComp elt [⟨target, iter, ifs, 0⟩, ⟨target₁, iter₁, ifs₁, 0⟩] scope pos) 1 (← holding [x] (pyIter x)) acc env) env)
        again (.compLoop (.SetComp elt [⟨target, iter, ifs, 0⟩, ⟨target₁, iter₁, ifs₁, 0⟩] scope pos) 0 it acc env)) := by simp only [bind_assoc]; rfl
theorem ct_set1 (elt target iter target₁ iter₁ : Expr) (ifs ifs₁ : List Expr) (scope : Scope) (pos : Pos) (it acc : Value) (env : Env) :
    compTurn (.SetComp elt [⟨target, iter, ifs, 0⟩, ⟨target₁, iter₁, ifs₁, 0⟩] scope pos) 1 it acc env = (do
      standAt iter₁.pos
      match ← pyNext it with
      | none => pure (.done .next)
      | some v =>
        letOwnedTupleGo target₁ it v
        assign target₁ env v
        let mut ok := true
        for c in ifs₁ do
          if ok then ok ← isTrue c env (eval c env)
        if ok then
          (do let v ← eval elt env; standAt elt.pos; let _ ← call (.builtin "set.add") [acc, v])
        again (.compLoop (.SetComp elt [⟨target, iter, ifs, 0⟩, ⟨target₁, iter₁, ifs₁, 0⟩] scope pos) 1 it acc env)) := by rfl
end
open LCg
section
variable {prog : Program} {w : World} {A : Around} {E : Value → Shared → Prop} {R : Result → Shared → Prop} {s : Shared} {h₀ : Heap} {L : Addr} {m : Str → Option Value} {env : Env}
noncomputable def TurnC (h₀ : Heap) (L : Addr) (m : Str → Option Value) (s : Shared) (I : Addr) (oI : Obj) (C : Addr) (J : List (Addr × Obj) → Prop) (s₂ : Shared) : Prop :=
  ∃ h' tk' oC m₂ news', s₂ = { s with heap := h', toks := tk' } ∧ Fr h₀ L h' m ∧ News h₀ L h' ((I, oI) :: (C, oC) :: news') ∧ NsObj oC m₂ ∧ (∀ p ∈ news', p.1 ≠ I ∧ p.1 ≠ C) ∧ J news'
theorem cgen {e : Expr} {d : Nat} {target : Expr} {ifs : List Expr} {ip : Pos} {acc : Value} {cenv : Env} {BODY : Sem Unit} {I C : Addr} {fp : List Addr} {n : Nat} {P : Nat → Value → Prop} {St : Nat → Heap → Prop} {S : List (Addr × Obj) → Prop} {news : List (Addr × Obj)} {oC : Obj} {m₂ : Str → Option Value}
    (hfr : (Code.compLoop e d (.ref I) acc cenv).isFrame = false) (hun : A.under (Code.compLoop e d (.ref I) acc cenv) = A)
    (heq : compTurn e d (.ref I) acc cenv = (do
      standAt ip
      match ← pyNext (.ref I) with
      | none => pure (.done .next)
      | some v =>
        letOwnedTupleGo target (.ref I) v
        assign target cenv v
        let mut ok := true
        for c in ifs do
          if ok then ok ← isTrue c cenv (eval c cenv)
        if ok then
          BODY
        again (.compLoop e d (.ref I) acc cenv)))
    (W : Walks prog w A I fp [I] n P St) (hIo : ∀ i h, St i h → ∃ o, h.get? I = some o)
    (hSt : ∀ i h h' o nw, St i h → h.get? I = some o → h'.get? I = some o → (∀ b o, h₀.get? b = some o → h'.get? b = some o) → News h₀ L h' nw → S nw → St i h')
    (J : Nat → List (Addr × Obj) → Prop) (hS : ∀ i nw, J i nw → S nw) (hst : St 0 s.heap) (F : Fr h₀ L s.heap m) (N : News h₀ L s.heap ((C, oC) :: news)) (hC : NsObj oC m₂) (hIL : I ≠ L) (hI₀ : h₀.get? I = none)
    (off : ∀ p ∈ news, p.1 ≠ I ∧ p.1 ≠ C) (hCI : C ≠ I) (hJ : J 0 news)
    (turn : ∀ i v oI oC m₂ news₁ h tk, i < n → P i v → St (i + 1) h → J i news₁ → Fr h₀ L h m → News h₀ L h ((I, oI) :: (C, oC) :: news₁) → NsObj oC m₂ → (∀ p ∈ news₁, p.1 ≠ I ∧ p.1 ≠ C) →
      wpAny (model prog w) A (letOwnedTupleGo target (.ref I) v) (fun _ s₁' => wpAny (model prog w) A (assign target cenv v) (fun _ s₂ =>
          ctests w prog A ifs cenv (fun ok s₃ =>
            if ok = true then wpAny (model prog w) A BODY (fun _ s₅ => TurnC h₀ L m s I oI C (J (i + 1)) s₅) (notedBy (model prog w) A cenv fun e s' => R (.error e) s') s₃
            else TurnC h₀ L m s I oI C (J (i + 1)) s₃) (notedBy (model prog w) A cenv fun e s' => R (.error e) s') s₂) (notedBy (model prog w) A cenv fun e s' => R (.error e) s') s₁') (notedBy (model prog w) A cenv fun e s' => R (.error e) s') { s with heap := h, toks := tk })
    (done : ∀ h tk oC m₂ news₁, J n news₁ → Fr h₀ L h m → News h₀ L h ((C, oC) :: news₁) → NsObj oC m₂ → (∀ p ∈ news₁, p.1 ≠ C) → R (.ok .next) { s with heap := h, toks := tk }) :
    codeAny (model prog w) A (.compLoop e d (.ref I) acc cenv) R s := by
  refine cl_rule hfr hun heq (fun k s' => ∃ i h' tk' oC m₂ news', k = n + 1 - i ∧ i ≤ n ∧ s' = { s with heap := h', toks := tk' } ∧ St i h' ∧ Fr h₀ L h' m ∧ News h₀ L h' ((C, oC) :: news') ∧ NsObj oC m₂ ∧ (∀ p ∈ news', p.1 ≠ I ∧ p.1 ≠ C) ∧ J i news') ?_ (n + 1)
    ⟨0, s.heap, s.toks, oC, m₂, news, rfl, Nat.zero_le _, rfl, hst, F, N, hC, off, hJ⟩
  rintro k s' ⟨i, h', tk', oC, m₂, news', rfl, hi, rfl, hst', F', N', hC', off', hJ'⟩
  have offA : ∀ p ∈ (C, oC) :: news', p.1 ≠ I := fun p hp => by
    rcases List.mem_cons.mp hp with rfl | hp
    · exact hCI
    · exact (off' p hp).1
  by_cases hlt : i < n
  · refine W.item i _ _ _ hlt hst' fun v h₂ tk₂ hPv hst₂ hk₂ => ?_
    have F₂ := fr_but F' hk₂ (Ne.symm hIL) hI₀
    have N₂ := news_but N' hk₂ offA
    obtain ⟨oI, heI⟩ := hIo _ _ hst₂
    have fin : ∀ s₅, TurnC h₀ L m s I oI C (J (i + 1)) s₅ → ∃ k', k' < n + 1 - i ∧ ∃ i h' tk' oC m₂ news', k' = n + 1 - i ∧ i ≤ n ∧ s₅ = { s with heap := h', toks := tk' } ∧ St i h' ∧ Fr h₀ L h' m ∧ News h₀ L h' ((C, oC) :: news') ∧ NsObj oC m₂ ∧ (∀ p ∈ news', p.1 ≠ I ∧ p.1 ≠ C) ∧ J i news' := by
      rintro s₅ ⟨h₅, tk₅, oC₅, m₅, news₅, rfl, F₅, N₅, hC₅, off₅, hJ₅⟩
      have N5' : News h₀ L h₅ ((C, oC₅) :: news₅) := fun p hp => N₅ p (.tail _ hp)
      exact ⟨n + 1 - (i + 1), dec_lt (by assumption), i + 1, h₅, tk₅, oC₅, m₅, news₅, rfl, hlt, rfl, hSt _ _ _ _ news₅ hst₂ heI (N₅ _ (.head _)).1 F₅.keep (fun p hp => N₅ p (.tail _ (.tail _ hp))) (hS _ _ hJ₅), F₅, N5', hC₅, off₅, hJ₅⟩
    refine wpAny_mono (turn i v oI oC m₂ news' h₂ tk₂ hlt hPv hst₂ hJ' F₂ (fun p hp => ?_) hC' off') (fun _ s₁' h₁' => wpAny_mono h₁' (fun _ s₂ h₂ => wpAny_mono h₂ (fun ok s₃ h₃ => ?_) fun _ _ y => y) fun _ _ y => y) fun _ _ y => y
    · rcases List.mem_cons.mp hp with rfl | hp
      · exact ⟨heI, hIL, hI₀⟩
      · exact N₂ p hp
    · cases ok with
      | false => exact fin _ h₃
      | true => exact wpAny_mono h₃ (fun _ s₅ h₅ => fin _ h₅) fun _ _ y => y
  · have : i = n := by omega
    subst this
    refine W.done _ _ _ hst' fun h₂ tk₂ hk₂ => ?_
    exact done h₂ tk₂ oC m₂ news' hJ' (fr_but F' hk₂ (Ne.symm hIL) hI₀) (news_but N' hk₂ offA) hC' fun p hp => (off' p hp).2
theorem cpost {Q : Value → Shared → Prop} {D C : Addr} {oC : Obj} {m₂ : Str → Option Value} {news : List (Addr × Obj)} (F : Fr h₀ L s.heap m) (N : News h₀ L s.heap ((C, oC) :: news)) (hC : NsObj oC m₂) (off : ∀ p ∈ news, p.1 ≠ C)
    (h : ∀ h', Fr h₀ L h' m → News h₀ L h' news → Q (.ref D) { s with heap := h' }) : compPost (model prog w) A E none Q (.ref D) C (.ok .next) s := by
  have nC := N _ (.head _)
  refine ⟨m₂, hC.ns nC.1, fun h' hs => h h' (F.change hs nC.2.1 nC.2.2) fun p hp => ?_⟩
  have z := N p (.tail _ hp)
  exact ⟨hs.extBut _ _ (off p hp) z.1, z.2⟩
noncomputable def CompIn (prog : Program) (w : World) (A : Around) (e : Expr) (scope : Scope) (cl : List (Str × Addr)) (env : Env) (acc : Sem Value) (Q : Value → Shared → Prop) (E : Value → Shared → Prop) (it : Value) (s₂ : Shared) : Prop :=
  wpAny (model prog w) A acc (fun acc s₃ => wpAny (model prog w) A (newFunctionEnv scope env.globals cl [] env.qual none .none (some env)) (fun cenv s₄ =>
    codeAny (model prog w) A (.compStart e 0 it acc { cenv with scope := relabel scope env }) (compPost (model prog w) A E none Q acc cenv.locals) s₄) E s₃) E s₂
theorem lc_start {elt : Expr} {g : Comprehension} {scope : Scope} {cl : List (Str × Addr)} {pos : Pos} {Q : Value → Shared → Prop}
    (hclos : closureFor scope env = pure cl) (hkind : scope.kind = .function) (hnames : ∀ y ∈ scope.names, y.2 = .local → scope.names.lookup y.1 = some .local) (ha : (g.is_async != 0) = false)
    (h : wpAny (model prog w) A (eval g.iter env) (fun xv s₁ => wpAny (model prog w) A (pyIter xv) (CompIn prog w A (.ListComp elt [g] scope pos) scope cl env (newList []) Q E) E s₁) E s)
    (hs : ∀ x, foldedSetIterable g.iter env x = pure x := by intro _; rfl) : wpAny (model prog w) A (eval (.ListComp elt [g] scope pos) env) Q E s := by
  obtain ⟨tg, it, fs, as⟩ := g
  rw [eval_ListComp]
  show wpAny _ A (comprehension _ scope env _ (newList []) (as != 0) (eval it env)) Q E s
  have ha' : (as != 0) = false := ha
  rw [ha']
  exact wpAny_comprehension_free (use := none) rfl hs hclos hkind hnames h
theorem sc_start {elt : Expr} {g : Comprehension} {gs : List Comprehension} {scope : Scope} {cl : List (Str × Addr)} {pos : Pos} {Q : Value → Shared → Prop}
    (hclos : closureFor scope env = pure cl) (hkind : scope.kind = .function) (hnames : ∀ y ∈ scope.names, y.2 = .local → scope.names.lookup y.1 = some .local) (ha : (g.is_async != 0) = false)
    (h : wpAny (model prog w) A (eval g.iter env) (fun xv s₁ => wpAny (model prog w) A (pyIter xv) (CompIn prog w A (.SetComp elt (g :: gs) scope pos) scope cl env (newSet (.type "set")) Q E) E s₁) E s)
    (hs : ∀ x, foldedSetIterable g.iter env x = pure x := by intro _; rfl) : wpAny (model prog w) A (eval (.SetComp elt (g :: gs) scope pos) env) Q E s := by
  obtain ⟨tg, it, fs, as⟩ := g
  show wpAny _ A (comprehension (.SetComp elt (⟨tg, it, fs, as⟩ :: gs) scope pos) scope env _ (newSet (.type "set")) (as != 0) (eval it env)) Q E s
  have ha' : (as != 0) = false := ha
  rw [ha']
  exact wpAny_comprehension_free (use := none) rfl hs hclos hkind hnames h
theorem newList_at {Q : Value → Shared → Prop} (h : Q (.ref s.heap.objs.size) { s with heap := s.heap.push (lst []) }) : wpAny (model prog w) A (newList []) Q E s := wpAny_newObj_type h
noncomputable def newSetObj (w : World) : Obj := { cls := .type "set", dict := none, data := .set #[] 0 (.fresh 0 0 (!(w.params.followText "set-order"))) }
theorem newSet_at {Q : Value → Shared → Prop} (h : Q (.ref s.heap.objs.size) { s with heap := s.heap.push (newSetObj w) }) : wpAny (model prog w) A (newSet (.type "set")) Q E s := by
  unfold newSet
  obtain ⟨hp, g, d, tk, os⟩ := s
  refine wpAny_bind ?_
  unfold setsByText
  refine wpAny_bind (wpAny_askSetting (wpAny_pure ?_))
  dsimp only
  exact wpAny_newObj_type h
noncomputable def AccNew (prog : Program) (w : World) (acc : Sem Value) (o : Obj) : Prop := ∀ (A : Around) (E : Value → Shared → Prop) (s : Shared) (Q : Value → Shared → Prop), Q (.ref s.heap.objs.size) { s with heap := s.heap.push o } → wpAny (model prog w) A acc Q E s
theorem accList : AccNew prog w (newList []) (lst []) := fun _ _ _ _ h => newList_at h
theorem accSet : AccNew prog w (newSet (.type "set")) (newSetObj w) := fun _ _ _ _ h => newSet_at h
theorem comp_in {e : Expr} {g : Comprehension} {scope : Scope} {cl : List (Str × Addr)} {acc : Sem Value} {o : Obj} {Q : Value → Shared → Prop} {I : Addr} {oI : Obj} {news : List (Addr × Obj)} (hacc : AccNew prog w acc o) (hfo : o.isFreed = false)
    (F : Fr h₀ L s.heap m) (N : News h₀ L s.heap news) (hI : (I, oI) ∈ news) (hcell : ∀ y ∈ scope.names, y.2 ≠ .cell) (hkind : scope.kind = .function)
    (hg : (clausesOf e)[0]? = some g) (ha : g.is_async = 0) (hfr : ∀ acc env, (Code.compStart e 0 (.ref I) acc env).isFrame = false) (hun : ∀ acc env, A.under (Code.compStart e 0 (.ref I) acc env) = A)
    (self : ∀ (E : Value → Shared → Prop) (s' : Shared) (Q' : Value → Shared → Prop), s'.heap.get? I = some oI → Q' (.ref I) s' → wpAny (model prog w) A (pyIter (.ref I)) Q' E s')
    (h : ∀ D C oC h tk, Fr h₀ L h m → News h₀ L h ((C, oC) :: (D, o) :: news) → NsObj oC (fun _ => none) → (∀ p ∈ news, p.1 < D) → @LT.lt Nat _ D C →
      codeAny (model prog w) A (.compLoop e 0 (.ref I) (.ref D) (compEnvC scope cl C env)) (compPost (model prog w) A E none Q (.ref D) C) { s with heap := h, toks := tk }) :
    CompIn prog w A e scope cl env acc Q E (.ref I) s := by
  refine hacc _ _ _ _ (wpAny_newFunctionEnv hcell (by intro y hy; simp at hy) (fun h₁ hns₁ hsb₁ => ?_) hkind)
  dsimp only at hns₁ hsb₁ ⊢
  have F1 := F.push o
  have N1 := N.push F o hfo
  have lt1 : ∀ p ∈ news, p.1 < s.heap.objs.size := fun p hp => Heap.lt_size (N p hp).1
  have hlt : s.heap.objs.size < (s.heap.push o).objs.size := by rw [Heap.size_push]; exact Nat.lt_succ_self _
  generalize hH : s.heap.push o = H at F1 N1 hns₁ hsb₁ hlt ⊢
  generalize hd : s.heap.objs.size = D at N1 lt1 hlt ⊢
  have F2 : Fr h₀ L h₁ m := (F1.push { cls := .type "dict", data := .dict #[] }).change hsb₁ (Nat.ne_of_gt F1.ns.lt) (next_is_new F1)
  obtain ⟨oC, hC, hO⟩ := ns_obj hns₁
  have N2 : News h₀ L h₁ ((H.objs.size, oC) :: (D, o) :: news) := fun p hp => by
    rcases List.mem_cons.mp hp with rfl | hp
    · exact ⟨hC, Nat.ne_of_gt F1.ns.lt, next_is_new F1⟩
    · exact ⟨hsb₁.extBut _ _ (Nat.ne_of_lt (Heap.lt_size (N1 p hp).1)) (Heap.get?_push_of_some _ (N1 p hp).1), (N1 p hp).2⟩
  have go := h D H.objs.size oC h₁ (s.toks + ([] : List (Str × Value)).length) F2 N2 hO lt1 hlt
  refine cs_rule hg ha (hfr _ _) (hun _ _) go (self _ _ _ (N2 _ (.tail _ (.tail _ hI))).1 go)
theorem newEnv_cell1 {scope : Scope} {globals : Addr} {cl : List (Str × Addr)} {qual : Str} {x : Str} {outer : Env} {Q : Env → Shared → Prop} (hk : scope.kind = .function)
    (hcs : ∀ n, cellsFrom n scope.names cl = (x, n) :: cl) (hpc : ∀ h, pushCells h scope.names = h.push { cls := .type "cell", data := .cell none })
    (hQ : Q (newEnv scope s.heap.objs.size globals ((x, s.heap.objs.size + 1) :: cl) qual none .none (some outer) builtinsNs) { s with heap := (s.heap.push { cls := .type "dict", data := .dict #[] }).push { cls := .type "cell", data := .cell none } }) :
    wpAny (model prog w) A (newFunctionEnv scope globals cl [] qual none .none (some outer)) Q E s := by
  simp only [newFunctionEnv, Option.isSome_some, if_true]
  refine wpAny_bind (wpAny_alloc ?_)
  refine wpAny_bind (wpAny_layCells _ (fun name kind cells => by cases hkc : kind == NameKind.cell <;> simp [hkc]) _ _ _ _ ?_)
  rw [show ({ s with heap := s.heap.push { cls := .type "dict", data := .dict #[] } } : Shared).heap.objs.size = s.heap.objs.size + 1 from Heap.size_push ..]
  dsimp only
  rw [hcs, hpc]
  exact wpAny_bind (wpAny_pure (wpAny_pure hQ))
theorem comp_in_cell {e : Expr} {g : Comprehension} {scope : Scope} {cl : List (Str × Addr)} {x : Str} {acc : Sem Value} {o : Obj} {Q : Value → Shared → Prop} {I : Addr} {oI : Obj} {news : List (Addr × Obj)} (hacc : AccNew prog w acc o) (hfo : o.isFreed = false)
    (F : Fr h₀ L s.heap m) (N : News h₀ L s.heap news) (hI : (I, oI) ∈ news) (hcs : ∀ n, cellsFrom n scope.names cl = (x, n) :: cl) (hpc : ∀ h, pushCells h scope.names = h.push { cls := .type "cell", data := .cell none }) (hkind : scope.kind = .function)
    (hg : (clausesOf e)[0]? = some g) (ha : g.is_async = 0) (hfr : ∀ acc env, (Code.compStart e 0 (.ref I) acc env).isFrame = false) (hun : ∀ acc env, A.under (Code.compStart e 0 (.ref I) acc env) = A)
    (self : ∀ (E : Value → Shared → Prop) (s' : Shared) (Q' : Value → Shared → Prop), s'.heap.get? I = some oI → Q' (.ref I) s' → wpAny (model prog w) A (pyIter (.ref I)) Q' E s')
    (h : ∀ D C Cc oC h tk, Fr h₀ L h m → News h₀ L h ((C, oC) :: (Cc, { cls := .type "cell", data := .cell none }) :: (D, o) :: news) → NsObj oC (fun _ => none) → (∀ p ∈ news, p.1 < D) → @LT.lt Nat _ D C → @LT.lt Nat _ C Cc →
      codeAny (model prog w) A (.compLoop e 0 (.ref I) (.ref D) (compEnvC scope ((x, Cc) :: cl) C env)) (compPost (model prog w) A E none Q (.ref D) C) { s with heap := h, toks := tk }) :
    CompIn prog w A e scope cl env acc Q E (.ref I) s := by
  refine hacc _ _ _ _ (newEnv_cell1 hkind hcs hpc ?_)
  dsimp only
  have F1 := F.push o
  have N1 := N.push F o hfo
  have lt1 : ∀ p ∈ news, p.1 < s.heap.objs.size := fun p hp => Heap.lt_size (N p hp).1
  have hlt : s.heap.objs.size < (s.heap.push o).objs.size := by rw [Heap.size_push]; exact Nat.lt_succ_self _
  generalize hH : s.heap.push o = H at F1 N1 hlt ⊢
  generalize hd : s.heap.objs.size = D at N1 lt1 hlt ⊢
  have F2 := F1.push { cls := .type "dict", data := .dict #[] }
  have N2 := N1.push F1 { cls := .type "dict", data := .dict #[] }
  have F3 := F2.push { cls := .type "cell", data := .cell none }
  have N3 := N2.push F2 { cls := .type "cell", data := .cell none }
  rw [Heap.size_push] at N3
  generalize ((H.push { cls := .type "dict", data := .dict #[] }).push { cls := .type "cell", data := .cell none }) = H3 at F3 N3 ⊢
  have N4 : News h₀ L H3 ((H.objs.size, { cls := .type "dict", data := .dict #[] }) :: (H.objs.size + 1, { cls := .type "cell", data := .cell none }) :: (D, o) :: news) := fun p hp => by
    rcases List.mem_cons.mp hp with rfl | hp
    · exact N3 _ (.tail _ (.head _))
    · rcases List.mem_cons.mp hp with rfl | hp
      · exact N3 _ (.head _)
      · exact N3 _ (.tail _ (.tail _ hp))
  have go := h D H.objs.size (H.objs.size + 1) _ H3 s.toks F3 N4 ⟨#[], 0, rfl, fun e he => by simp at he, fun name => rfl⟩ lt1 hlt (Nat.lt_succ_self _)
  refine cs_rule hg ha (hfr _ _) (hun _ _) go (self _ _ _ (N4 _ (.tail _ (.tail _ (.tail _ hI)))).1 go)
theorem comp_assign {I C : Addr} {oI oC : Obj} {m₂ : Str → Option Value} {x : Str} {px : Pos} {scope : Scope} {cl : List (Str × Addr)} {v : Value} {news : List (Addr × Obj)} {Q : Unit → Shared → Prop}
    (F : Fr h₀ L s.heap m) (N : News h₀ L s.heap ((I, oI) :: (C, oC) :: news)) (hC : NsObj oC m₂) (off : ∀ p ∈ news, p.1 ≠ I ∧ p.1 ≠ C) (hCI : C ≠ I) (hkind : scope.kind = .function) (hx : scope.names.lookup x = some .local)
    (h : ∀ h' tk' oC' m₃, Fr h₀ L h' m → News h₀ L h' ((I, oI) :: (C, oC') :: news) → NsObj oC' m₃ → m₃ x = some v → (∀ y u, y ≠ x → m₂ y = u → m₃ y = u) → Q () { s with heap := h', toks := tk' }) :
    wpAny (model prog w) A (assign (.Name x px) (compEnvC scope cl C env) v) Q E s := by
  have nC := N _ (.tail _ (.head _))
  refine wpAny_assign_Name (wpAny_storeName_local (lookup_relabel_local hx) (hC.ns nC.1) (fun h₃ hn₃ hs₃ => ?_) (by simp [compEnvC, relabel, hkind]))
  obtain ⟨oC', heC, hoC⟩ := ns_obj hn₃
  refine h h₃ _ oC' _ (F.change hs₃ nC.2.1 nC.2.2) (fun p hp => ?_) hoC (by simp) (fun y u hy hu => by simp [hy, hu])
  rcases List.mem_cons.mp hp with rfl | hp
  · have z := N _ (.head _)
    exact ⟨hs₃.extBut _ _ (Ne.symm hCI) z.1, z.2⟩
  · rcases List.mem_cons.mp hp with rfl | hp
    · exact ⟨heC, nC.2⟩
    · have z := N p (.tail _ (.tail _ hp))
      exact ⟨hs₃.extBut _ _ (off p hp).2 z.1, z.2⟩
theorem comp_assign_cell {I C Cc : Addr} {oI oC oc₀ : Obj} {ov : Option Value} {x : Str} {px : Pos} {scope : Scope} {cl : List (Str × Addr)} {v : Value} {news : List (Addr × Obj)} {Q : Unit → Shared → Prop}
    (F : Fr h₀ L s.heap m) (N : News h₀ L s.heap ((I, oI) :: (C, oC) :: (Cc, oc₀) :: news)) (hoc : oc₀.data = .cell ov) (off : ∀ p ∈ (I, oI) :: (C, oC) :: news, p.1 ≠ Cc) (hk : (compEnvC scope ((x, Cc) :: cl) C env).scope.kind = .function) (hx : (compEnvC scope ((x, Cc) :: cl) C env).kindOf x = some .cell)
    (h : ∀ h' oc, Fr h₀ L h' m → News h₀ L h' ((I, oI) :: (C, oC) :: (Cc, oc) :: news) → oc.data = .cell (some v) → Q () { s with heap := h' }) :
    wpAny (model prog w) A (assign (.Name x px) (compEnvC scope ((x, Cc) :: cl) C env) v) Q E s := by
  have nC := N _ (.tail _ (.tail _ (.head _)))
  refine wpAny_assign_Name (wpAny_storeName_cell hk hx (by show List.lookup x ((x, Cc) :: cl) = _; simp) ⟨_, nC.1, hoc⟩ fun h₃ hc₃ hs₃ => ?_)
  obtain ⟨oc, heC, hd⟩ := hc₃
  refine h h₃ oc (F.change hs₃ nC.2.1 nC.2.2) (fun p hp => ?_) hd
  rcases List.mem_cons.mp hp with rfl | hp
  · have z := N _ (.head _)
    exact ⟨hs₃.extBut _ _ (off _ (.head _)) z.1, z.2⟩
  · rcases List.mem_cons.mp hp with rfl | hp
    · have z := N _ (.tail _ (.head _))
      exact ⟨hs₃.extBut _ _ (off _ (.tail _ (.head _))) z.1, z.2⟩
    · rcases List.mem_cons.mp hp with rfl | hp
      · exact ⟨heC, nC.2⟩
      · have z := N p (.tail _ (.tail _ (.tail _ hp)))
        exact ⟨hs₃.extBut _ _ (off p (.tail _ (.tail _ hp))) z.1, z.2⟩
end
end Mine
end
section
open PySem PySem.W PySem.W.X PySem.W.ZRun PySem.Spec PySem.Calls PyProof.Rows
set_option maxRecDepth 100000
set_option maxHeartbeats 0
set_option linter.unusedVariables false
namespace Mine
open LCg
section
variable {prog : Program} {w : World} {A : Around} {E : Value → Shared → Prop} {R : Result → Shared → Prop} {s : Shared} {h₀ : Heap} {L : Addr} {m : Str → Option Value} {env : Env}
theorem off_nil {I C : Addr} : ∀ p ∈ ([] : List (Addr × Obj)), p.1 ≠ I ∧ p.1 ≠ C := fun _ h => nomatch h
theorem off_cons {I C a : Nat} {o : Obj} {r : List (Addr × Obj)} (h : a ≠ I ∧ a ≠ C) (hr : ∀ p ∈ r, p.1 ≠ I ∧ p.1 ≠ C) : ∀ p ∈ (((a, o) : Addr × Obj) :: r), p.1 ≠ I ∧ p.1 ≠ C := fun p hp => by
  rcases List.mem_cons.mp hp with rfl | hp
  · exact h
  · exact hr p hp
theorem iter_range {r : Addr} {a b : Int} {t u v : Tok} {n : Nat} {news : List (Addr × Obj)} {Q : Value → Shared → Prop} (F : Fr h₀ L s.heap m) (N : News h₀ L s.heap news) (hr : IsRange s.heap r a b 1 t u v) (hsm : Builtin.Range.small a b 1 = true) (hn : Builtin.Range.rangeSize a b 1 = ((n : Nat) : Int))
    (h : ∀ I h', (∀ p ∈ news, p.1 < I) → Fr h₀ L h' m → News h₀ L h' ((I, { cls := .type "range_iterator", data := .fields #[rawInt a, rawInt (n : Int), rawInt 1] }) :: news) → Q (.ref I) { s with heap := h' }) :
    wpAny (model prog w) A (pyIter (.ref r)) Q E s := by
  refine wpAny_pyIter_range hr hsm ?_
  rw [hn]
  exact h _ _ (fun p hp => Heap.lt_size (N p hp).1) (F.push _) (N.push F _)
theorem range_st0 {h : Heap} {I : Addr} {a : Int} {n : Nat} (e : h.get? I = some { cls := .type "range_iterator", data := .fields #[rawInt a, rawInt (n : Int), rawInt 1] }) : IsRangeIter h I (a + ((0 : Nat) : Int) * 1) ((n : Int) - ((0 : Nat) : Int)) 1 := by
  have e1 : a + ((0 : Nat) : Int) * 1 = a := by simp
  have e2 : (n : Int) - ((0 : Nat) : Int) = n := by simp
  rw [e1, e2]; exact e
theorem range_self {I : Addr} {a : Int} {n : Nat} (hh : A.handled = none) : ∀ (E : Value → Shared → Prop) (s' : Shared) (Q' : Value → Shared → Prop), s'.heap.get? I = some { cls := .type "range_iterator", data := .fields #[rawInt a, rawInt (n : Int), rawInt 1] } → Q' (.ref I) s' → wpAny (model prog w) A (pyIter (.ref I)) Q' E s' :=
  fun E s' Q' e h => (range_walks hh a n).self 0 s' Q' E (range_st0 e) h
theorem list_self {I lx : Addr} : ∀ (E : Value → Shared → Prop) (s' : Shared) (Q' : Value → Shared → Prop), s'.heap.get? I = some { cls := .type "list_iterator", data := .fields #[.ref lx, .int 0 0] } → Q' (.ref I) s' → wpAny (model prog w) A (pyIter (.ref I)) Q' E s' :=
  fun E s' Q' e h => wpAny_pyIter_listiter ⟨_, e, rfl, rfl⟩ h
theorem iter_list {Q : Value → Shared → Prop} {news : List (Addr × Obj)} {lx el : Nat} {items : Array Value} (F : Fr h₀ L s.heap m) (N : News h₀ L s.heap news) (hm : (lx, W.listOf items el) ∈ news)
    (h : ∀ I h', (∀ p ∈ news, p.1 < I) → Fr h₀ L h' m → News h₀ L h' ((I, { cls := .type "list_iterator", data := .fields #[.ref lx, .int 0 0] }) :: news) → Q (.ref I) { s with heap := h' }) :
    wpAny (model prog w) A (pyIter (.ref lx)) Q E s :=
  wpAny_pyIter_list ⟨_, (N _ hm).1, rfl, el, rfl⟩ (h _ _ (fun p hp => Heap.lt_size (N p hp).1) (F.push _) (N.push F _))
inductive JL (D : Addr) (K : Nat → List Value → List (Addr × Obj) → Prop) (i : Nat) (news : List (Addr × Obj)) : Prop
  | mk (ys : List Value) (nw : List (Addr × Obj)) (c1 : news = (D, lst ys) :: nw) (c2 : ys.length ≤ i) (c3 : K i ys nw)
inductive JLo (D : Addr) (i : Nat) (base : List (Addr × Obj)) (R : List Value → Prop) (news : List (Addr × Obj)) : Prop
  | mk (ys : List Value) (c1 : news = (D, lst ys) :: base) (c2 : ys.length ≤ i) (c3 : R ys)
theorem JL.out {D : Addr} {K : Nat → List Value → List (Addr × Obj) → Prop} {i : Nat} {news base : List (Addr × Obj)} {R : List Value → Prop} (h : JL D K i news) (e : ∀ ys nw, K i ys nw → nw = base ∧ R ys) : JLo D i base R news := by
  obtain ⟨ys, nw, c1, c2, c3⟩ := h
  exact ⟨ys, (e _ _ c3).1 ▸ c1, c2, (e _ _ c3).2⟩
theorem tl_end {I C D : Addr} {oI oC : Obj} {m₂ : Str → Option Value} {ys : List Value} {y : Value} {nw : List (Addr × Obj)} {K : Nat → List Value → List (Addr × Obj) → Prop} {i : Nat} {s₀ : Shared} {h₄ : Heap} {tk₄ : Nat} (F : Fr h₀ L h₄ m) (N : News h₀ L h₄ ((I, oI) :: (C, oC) :: (D, lst ys) :: nw)) (hC : NsObj oC m₂)
    (off : ∀ p ∈ (D, lst ys) :: nw, p.1 ≠ I ∧ p.1 ≠ C) (offD : ∀ p ∈ nw, p.1 ≠ D) (hlen : ys.length ≤ i) (hsz : i ≤ sizeLine) (hK : K (i + 1) (ys ++ [y]) nw) :
    wpAny (model prog w) A (call (.builtin "list.append") [.ref D, y]) (fun _ s₅ => TurnC h₀ L m s₀ I oI C (JL D K (i + 1)) s₅) E { s₀ with heap := h₄, toks := tk₄ } := by
  have zD := N _ (.tail _ (.tail _ (.head _)))
  have oD := off _ (.head _)
  refine append_at (hsz := by show ys.toArray.size ≤ sizeLine; rw [List.size_toArray]; exact Nat.le_trans hlen hsz) zD.1 fun h₅ hs₅ hD₅ => ?_
  refine ⟨h₅, tk₄, oC, m₂, (D, lst (ys ++ [y])) :: nw, rfl, F.change hs₅ zD.2.1 zD.2.2, fun p hp => ?_, hC, fun p hp => ?_, ys ++ [y], nw, rfl, by rw [List.length_append, List.length_singleton]; exact Nat.succ_le_succ hlen, hK⟩
  · rcases List.mem_cons.mp hp with rfl | hp
    · have z := N _ (.head _)
      exact ⟨hs₅.extBut _ _ (Ne.symm oD.1) z.1, z.2⟩
    · rcases List.mem_cons.mp hp with rfl | hp
      · have z := N _ (.tail _ (.head _))
        exact ⟨hs₅.extBut _ _ (Ne.symm oD.2) z.1, z.2⟩
      · rcases List.mem_cons.mp hp with rfl | hp
        · exact ⟨hD₅.trans (congrArg some (lst_snoc ys y)), zD.2⟩
        · have z := N p (.tail _ (.tail _ (.tail _ hp)))
          exact ⟨hs₅.extBut _ _ (offD p hp) z.1, z.2⟩
  · rcases List.mem_cons.mp hp with rfl | hp
    · exact oD
    · exact off p (.tail _ hp)
theorem tl_no {I C D : Addr} {oI oC : Obj} {m₂ : Str → Option Value} {ys : List Value} {nw : List (Addr × Obj)} {K : Nat → List Value → List (Addr × Obj) → Prop} {i : Nat} {s₀ : Shared} {h₄ : Heap} {tk₄ : Nat} (F : Fr h₀ L h₄ m) (N : News h₀ L h₄ ((I, oI) :: (C, oC) :: (D, lst ys) :: nw)) (hC : NsObj oC m₂)
    (off : ∀ p ∈ (D, lst ys) :: nw, p.1 ≠ I ∧ p.1 ≠ C) (hlen : ys.length ≤ i) (hK : K (i + 1) ys nw) :
    TurnC h₀ L m s₀ I oI C (JL D K (i + 1)) { s₀ with heap := h₄, toks := tk₄ } :=
  ⟨h₄, tk₄, oC, m₂, (D, lst ys) :: nw, rfl, F, N, hC, off, ys, nw, rfl, Nat.le_succ_of_le hlen, hK⟩
theorem comp_assign_pair {I C t : Addr} {oI oC : Obj} {m₂ : Str → Option Value} {x y : Str} {px py tp : Pos} {kk : Nat} {scope : Scope} {cl : List (Str × Addr)} {v u : Value} {e : Nat} {news : List (Addr × Obj)} {Q : Unit → Shared → Prop} (hh : A.handled = none)
    (F : Fr h₀ L s.heap m) (N : News h₀ L s.heap ((I, oI) :: (C, oC) :: news)) (hm : s.heap.get? t = some { cls := .type "tuple", data := .seq #[v, u] e }) (hC : NsObj oC m₂) (off : ∀ p ∈ news, p.1 ≠ I ∧ p.1 ≠ C) (hCI : C ≠ I) (hkind : scope.kind = .function) (hx : scope.names.lookup x = some .local) (hy : scope.names.lookup y = some .local) (hxy : x ≠ y)
    (h : ∀ h' tk' oC' m₃, Fr h₀ L h' m → News h₀ L h' ((I, oI) :: (C, oC') :: news) → NsObj oC' m₃ → m₃ x = some v → m₃ y = some u → Q () { s with heap := h', toks := tk' }) :
    wpAny (model prog w) A (assign (.Tuple [.Name x px, .Name y py] kk tp) (compEnvC scope cl C env) (.ref t)) Q E s := by
  have ht : IsTup s.heap t #[v, u] := ⟨_, hm, rfl, e, rfl⟩
  refine assign_Tuple_tuple hh ht rfl rfl fun h₅ he => ?_
  have he' : ∀ b o, s.heap.get? b = some o → h₅.get? b = some o := fun b o e => he b o (Nat.ne_of_lt (Heap.lt_size e)) e
  have N5 : News h₀ L h₅ ((I, oI) :: (C, oC) :: news) := fun p hp => ⟨he' _ _ (N p hp).1, (N p hp).2⟩
  refine assignInOrder_cons (comp_assign (F.keeps he') N5 hC off hCI hkind hx fun h6 tk6 oC6 m6 F6 N6 hC6 e6 k6 => ?_)
  refine assignInOrder_cons (comp_assign F6 N6 hC6 off hCI hkind hy fun h7 tk7 oC7 m7 F7 N7 hC7 e7 k7 => ?_)
  exact assignInOrder_nil (h h7 tk7 oC7 m7 F7 N7 hC7 (k7 x _ hxy e6) e7)
theorem comp_assign_triple {I C t : Addr} {oI oC : Obj} {m₂ : Str → Option Value} {x y z : Str} {px py pz tp : Pos} {kk : Nat} {scope : Scope} {cl : List (Str × Addr)} {v u r : Value} {e : Nat} {news : List (Addr × Obj)} {Q : Unit → Shared → Prop} (hh : A.handled = none)
    (F : Fr h₀ L s.heap m) (N : News h₀ L s.heap ((I, oI) :: (C, oC) :: news)) (hm : s.heap.get? t = some { cls := .type "tuple", data := .seq #[v, u, r] e }) (hC : NsObj oC m₂) (off : ∀ p ∈ news, p.1 ≠ I ∧ p.1 ≠ C) (hCI : C ≠ I) (hkind : scope.kind = .function) (hx : scope.names.lookup x = some .local) (hy : scope.names.lookup y = some .local) (hz : scope.names.lookup z = some .local) (hxy : x ≠ y) (hxz : x ≠ z) (hyz : y ≠ z)
    (h : ∀ h' tk' oC' m₃, Fr h₀ L h' m → News h₀ L h' ((I, oI) :: (C, oC') :: news) → NsObj oC' m₃ → m₃ x = some v → m₃ y = some u → m₃ z = some r → Q () { s with heap := h', toks := tk' }) :
    wpAny (model prog w) A (assign (.Tuple [.Name x px, .Name y py, .Name z pz] kk tp) (compEnvC scope cl C env) (.ref t)) Q E s := by
  have ht : IsTup s.heap t #[v, u, r] := ⟨_, hm, rfl, e, rfl⟩
  refine assign_Tuple_tuple hh ht rfl rfl fun h₅ he => ?_
  have he' : ∀ b o, s.heap.get? b = some o → h₅.get? b = some o := fun b o e => he b o (Nat.ne_of_lt (Heap.lt_size e)) e
  have N5 : News h₀ L h₅ ((I, oI) :: (C, oC) :: news) := fun p hp => ⟨he' _ _ (N p hp).1, (N p hp).2⟩
  refine assignInOrder_cons (comp_assign (F.keeps he') N5 hC off hCI hkind hx fun h6 tk6 oC6 m6 F6 N6 hC6 e6 k6 => ?_)
  refine assignInOrder_cons (comp_assign F6 N6 hC6 off hCI hkind hy fun h7 tk7 oC7 m7 F7 N7 hC7 e7 k7 => ?_)
  refine assignInOrder_cons (comp_assign F7 N7 hC7 off hCI hkind hz fun h8 tk8 oC8 m8 F8 N8 hC8 e8 k8 => ?_)
  exact assignInOrder_nil (h h8 tk8 oC8 m8 F8 N8 hC8 (k8 x _ hxz (k7 x _ hxy e6)) (k8 y _ hyz e7) e8)
noncomputable def AppTo (prog : Program) (w : World) (A : Around) (E : Value → Shared → Prop) (acc : Value) (Q : Shared → Prop) (y : Value) (s₁ : Shared) : Prop := wpAny (model prog w) A (call (.builtin "list.append") [acc, y]) (fun _ s₂ => Q s₂) E s₁
theorem body_list {acc : Value} {elt : Expr} {Q : Shared → Prop} (h : wpAny (model prog w) A (eval elt env) (AppTo prog w A E acc Q) E s) :
    wpAny (model prog w) A (do let _ ← call (.builtin "list.append") [acc, ← eval elt env]) (fun _ s' => Q s') E s :=
  wpAny_bind (wpAny_mono h (fun y s₁ h₁ => wpAny_bind (wpAny_mono h₁ (fun _ s₂ h₂ => wpAny_pure h₂) fun _ _ e => e)) fun _ _ e => e)
theorem News.sw23 {h : Heap} {a b c d : Addr × Obj} {r : List (Addr × Obj)} (N : News h₀ L h (a :: b :: c :: d :: r)) : News h₀ L h (a :: b :: d :: c :: r) :=
  News.drop N fun p hp => by
    simp only [List.mem_cons] at hp ⊢
    rcases hp with e | e | e | e | e <;> simp [e]
theorem News.sw12 {h : Heap} {a b c : Addr × Obj} {r : List (Addr × Obj)} (N : News h₀ L h (a :: b :: c :: r)) : News h₀ L h (a :: c :: b :: r) :=
  News.drop N fun p hp => by
    simp only [List.mem_cons] at hp ⊢
    rcases hp with e | e | e | e <;> simp [e]
theorem News.rm2 {h : Heap} {a b c : Addr × Obj} {r : List (Addr × Obj)} (N : News h₀ L h (a :: b :: c :: r)) : News h₀ L h (a :: b :: r) :=
  News.drop N fun p hp => by
    simp only [List.mem_cons] at hp ⊢
    rcases hp with e | e | e <;> simp [e]
end
theorem ints_snoc {v : Int} {t : Tok} : ∀ {vs : List Value} {i : Nat} {f : Nat → Int}, IntsAre vs ((List.range i).map f) → v = f i → IntsAre (vs ++ [.int v t]) ((List.range (i + 1)).map f) := by
  intro vs i f h e
  rw [List.range_succ, List.map_append, e]
  have : ∀ {vs : List Value} {ns : List Int}, IntsAre vs ns → IntsAre (vs ++ [.int (f i) t]) (ns ++ [f i]) := by
    intro vs ns h
    induction h with
    | nil => exact .cons _ _ .nil
    | cons n u _ ih => exact .cons n u ih
  exact this h
theorem News.pick2 {h₀ h : Heap} {L : Addr} {a b : Addr × Obj} {l : List (Addr × Obj)} (N : News h₀ L h l) (ha : a ∈ l) (hb : b ∈ l) : News h₀ L h [a, b] :=
  News.drop N fun p hp => by
    simp only [List.mem_cons, List.not_mem_nil, or_false] at hp
    rcases hp with e | e <;> rw [e] <;> assumption
theorem neD_nil {D : Addr} : ∀ p ∈ ([] : List (Addr × Obj)), p.1 ≠ D := fun _ h => nomatch h
theorem neD_cons {D a : Nat} {o : Obj} {r : List (Addr × Obj)} (h : a ≠ D) (hr : ∀ p ∈ r, p.1 ≠ D) : ∀ p ∈ (((a, o) : Addr × Obj) :: r), p.1 ≠ D := fun p hp => by
  rcases List.mem_cons.mp hp with rfl | hp
  · exact h
  · exact hr p hp
theorem srcAt_of {h₀ : Heap} {ax : Addr} {its : Array Value} {k : Nat} {news : List (Addr × Obj)} (hm : (ax, listOf its k) ∈ news) : LCg.SrcAt h₀ ax its news := .inr ⟨_, hm, rfl, _, rfl⟩
theorem off_of {I D C : Addr} {o : Obj} {base : List (Addr × Obj)} (hI : ∀ p ∈ base, p.1 < I) (h1 : @LT.lt Nat _ I D) (h2 : @LT.lt Nat _ D C) : ∀ p ∈ ((D, o) : Addr × Obj) :: base, p.1 ≠ I ∧ p.1 ≠ C := fun p hp => by
  rcases List.mem_cons.mp hp with rfl | hp
  · exact ⟨Nat.ne_of_gt h1, Nat.ne_of_lt h2⟩
  · exact ⟨Nat.ne_of_lt (hI p hp), Nat.ne_of_lt (Nat.lt_trans (hI p hp) (Nat.lt_trans h1 h2))⟩
end Mine
end
section
open PySem PySem.W PySem.W.X PySem.W.ZRun PySem.Spec PySem.Calls PyProof.Rows
set_option maxRecDepth 100000
set_option maxHeartbeats 0
set_option linter.unusedVariables false
namespace Mine
theorem mem_sw4 {α : Type} {p a b c d : α} {r : List α} (h : p ∈ d :: b :: c :: a :: r) : p ∈ a :: b :: c :: d :: r := by
  simp only [List.mem_cons] at h ⊢
  rcases h with h | h | h | h | h <;> simp [h]

theorem AllObj.mono : ∀ {ws : List (Addr × String)} {k k' : List (Addr × Obj) → Prop}, (∀ its, k its → k' its) → AllObj ws k → AllObj ws k'
  | [], _, _, f, h => f _ h
  | _ :: _, _, _, f, h => fun o ho => AllObj.mono (fun its => f _) (h o ho)
theorem unrPost_mono {h₀ : Heap} {L : Addr} {s₁ : Shared} {its : List (Addr × Obj)} {R R' : (Str → Option Value) → List (Addr × Obj) → Prop} {Q : Flow → Shared → Prop} (f : ∀ m n, R m n → R' m n) {fl : Flow} {s₂ : Shared} (h : UnrPostW h₀ L s₁ its R Q fl s₂) : UnrPostW h₀ L s₁ its R' Q fl s₂ := by
  cases fl with
  | ret v => exact h
  | brk => exact h
  | next => obtain ⟨a, b, c, d, e1, e2, e3, e4, e5⟩ := h; exact ⟨a, b, c, d, e1, e2, e3, e4, f _ _ e5⟩
  | cont => obtain ⟨a, b, c, d, e1, e2, e3, e4, e5⟩ := h; exact ⟨a, b, c, d, e1, e2, e3, e4, f _ _ e5⟩
theorem itemsJ {prog : Program} {w : World} {A : Around} {E : Value → Shared → Prop} {h₀ : Heap} {env : Env} {target : Expr} {body : List Stmt} {Q : Flow → Shared → Prop} {s : Shared} {ws : List (Addr × String)} {keep : List (Addr × Obj)} (J : Nat → (Str → Option Value) → List (Addr × Obj) → Prop) {xs : List Itm} {m : Str → Option Value} {news : List (Addr × Obj)}
  (hJ : J 0 m news)
  (turn : ∀ i a m₁ nw v h tk, xs[i]? = some a → J i m₁ nw → a.Is v h → Fr h₀ env.locals h m₁ → AllObj ws (fun its => News h₀ env.locals h (its ++ nw) →
    wpAny (model prog w) A (assign target env v) (fun _ s₂ => wpAny (model prog w) A (execs body env) (UnrPostW h₀ env.locals { s with heap := h, toks := tk } its (fun m' n' => SubL keep n' ∧ J (i + 1) m' n') Q) E s₂) E { s with heap := h, toks := tk }))
  (done : ∀ m₁ nw h tk, J xs.length m₁ nw → Fr h₀ env.locals h m₁ → News h₀ env.locals h nw → Q .next { s with heap := h, toks := tk }) :
  ItemsRest prog w A E h₀ env target body Q s ws keep xs m news := by
  have key : ∀ (n i : Nat) (m : Str → Option Value) (nw : List (Addr × Obj)), xs.length - i = n → i ≤ xs.length → J i m nw → ItemsRest prog w A E h₀ env target body Q s ws keep (xs.drop i) m nw := by
    intro n
    induction n with
    | zero =>
      intro i m nw e hi hj
      have : i = xs.length := by omega
      subst this
      rw [List.drop_length]
      exact fun h tk F N => done m nw h tk hj F N
    | succ n ih =>
      intro i m nw e hi hj
      have hlt : i < xs.length := by omega
      rw [List.drop_eq_getElem_cons hlt]
      intro v h tk ha F
      refine AllObj.mono (fun its k N => ?_) (turn i _ m nw v h tk (List.getElem?_eq_getElem hlt) hj ha F)
      exact wpAny_mono (k N) (fun _ _ h1 => wpAny_mono h1 (fun _ _ h2 => unrPost_mono (fun m' n' hr => ⟨hr.1, ih (i + 1) m' n' (by omega) hlt hr.2⟩) h2) fun _ _ e => e) fun _ _ e => e
  exact key _ 0 m news rfl (Nat.zero_le _) hJ
abbrev Tup := Addr × Str × Tok × Tok × Nat
noncomputable def tupsOf (ns : List Int) : List Tup → List (Addr × Obj)
  | [] => []
  | t :: r => (t.1, tupObj #[.str t.2.1 t.2.2.1, .str (leadOf (firstOf (ns.getD r.length 0)) (stepOf (ns.getD r.length 0))) t.2.2.2.1] t.2.2.2.2) :: tupsOf ns r
noncomputable def rowOf (i : Nat) : Str := if i % 2 = 0 then Str.ofString "near" else Str.ofString "far"
noncomputable def casedAll : List Tup → Prop
  | [] => True
  | t :: r => Cased (rowOf r.length) t.2.1 ∧ casedAll r
noncomputable def itemsOf : List Tup → Array Value
  | [] => #[]
  | t :: r => (itemsOf r).push (.ref t.1)
noncomputable def ltAll (hl : Addr) : List Tup → Prop
  | [] => True
  | t :: r => @LT.lt Nat _ hl t.1 ∧ ltAll hl r
noncomputable def mC (l tb : Addr) (nm fs st pl nu : Option Value) : Str → Option Value := fun y => if y = Str.ofString "name" then nm else if y = Str.ofString "step" then st else if y = Str.ofString "first" then fs else if y = Str.ofString "number" then nu else if y = Str.ofString "place" then pl else if y = Str.ofString "table" then some (.ref tb) else List.lookup y [(Str.ofString "numbers", .ref l)].reverse
noncomputable def nwOf (w : World) (l tb d hl : Addr) (kt : Tok) (ns : List Int) (lo : Obj) (T : List Tup) (el : Nat) : List (Addr × Obj) :=
  (hl, listOf (itemsOf T) el) :: (tb, instObj 283 d) :: (d, dictOf [⟨PyData.keyHash w.params (Str.ofString "_headers"), .str (Str.ofString "_headers") kt, .ref hl⟩] 1) :: (tupsOf ns T ++ [(l, lo)])
inductive TJ (w : World) (l tb d hl : Addr) (kt : Tok) (ns : List Int) (lo : Obj) (i : Nat) (m : Str → Option Value) (nw : List (Addr × Obj)) : Prop
  | mk (T : List Tup) (el : Nat) (nm fs st pl nu : Option Value) (e1 : m = mC l tb nm fs st pl nu) (e2 : T.length = i)
    (e3 : nw = nwOf w l tb d hl kt ns lo T el) (e4 : casedAll T) (e5 : ltAll hl T)
theorem six_at {ns : List Int} {ts : List Tok} {n0 n1 n2 n3 n4 n5 : Int} {t0 t1 t2 t3 t4 t5 : Tok} {i : Nat} {a : Itm}
    (h : ([.pair (fun t => .int 0 t) (.int n0 t0), .pair (fun t => .int 1 t) (.int n1 t1), .pair (fun t => .int 2 t) (.int n2 t2), .pair (fun t => .int 3 t) (.int n3 t3), .pair (fun t => .int 4 t) (.int n4 t4), .pair (fun t => .int 5 t) (.int n5 t5)] : List Itm)[i]? = some a) :
    ∃ t, i < 6 ∧ a = .pair (fun t => .int (i : Int) t) (.int ([n0, n1, n2, n3, n4, n5].getD i 0) t) := by
  match i, h with
  | 0, h => exact ⟨t0, by decide, (Option.some.inj h).symm⟩
  | 1, h => exact ⟨t1, by decide, (Option.some.inj h).symm⟩
  | 2, h => exact ⟨t2, by decide, (Option.some.inj h).symm⟩
  | 3, h => exact ⟨t3, by decide, (Option.some.inj h).symm⟩
  | 4, h => exact ⟨t4, by decide, (Option.some.inj h).symm⟩
  | 5, h => exact ⟨t5, by decide, (Option.some.inj h).symm⟩
  | n + 6, h => cases h
theorem six_bd {n0 n1 n2 n3 n4 n5 : Int} (h0 : 0 ≤ n0 ∧ n0 < 1000000) (h1 : 0 ≤ n1 ∧ n1 < 1000000) (h2 : 0 ≤ n2 ∧ n2 < 1000000) (h3 : 0 ≤ n3 ∧ n3 < 1000000) (h4 : 0 ≤ n4 ∧ n4 < 1000000) (h5 : 0 ≤ n5 ∧ n5 < 1000000) {i : Nat} (hi : i < 6) : 0 ≤ [n0, n1, n2, n3, n4, n5].getD i 0 ∧ [n0, n1, n2, n3, n4, n5].getD i 0 < 1000000 :=
  match i, hi with
  | 0, _ => h0
  | 1, _ => h1
  | 2, _ => h2
  | 3, _ => h3
  | 4, _ => h4
  | 5, _ => h5
theorem row_at (i : Nat) : [Str.ofString "near", Str.ofString "far"].getD ((i : Int).fmod 2).toNat PySem.Str.empty = rowOf i := by
  have h : ((i : Int).fmod 2).toNat = i % 2 := by
    rw [Int.fmod_eq_emod_of_nonneg _ (by decide)]; rfl
  rw [h]
  unfold rowOf
  rcases Nat.mod_two_eq_zero_or_one i with e | e <;> rw [e] <;> rfl
theorem row_len (i : Nat) : (rowOf i).length ≤ 100 := by unfold rowOf; split <;> decide
theorem row_ok (i : Nat) : okN (rowOf i) = true := by unfold rowOf; split <;> decide +kernel
theorem row_up (i : Nat) : okN (Txt.upper (rowOf i)) = true := by unfold rowOf; split <;> decide +kernel
theorem subL_of {all : List (Addr × Obj)} : ∀ {l : List (Addr × Obj)}, (∀ p ∈ l, p ∈ all) → SubL l all
  | [], _ => trivial
  | _ :: _, h => ⟨h _ (.head _), subL_of fun p hp => h p (.tail _ hp)⟩
theorem offW1_of {p : Addr × Obj} : ∀ {its : List (Addr × Obj)}, (∀ q ∈ its, p.2.cls ≠ q.2.cls) → OffW1 p its
  | [], _ => trivial
  | _ :: _, h => ⟨.inr (h _ (.head _)), offW1_of fun q hq => h q (.tail _ hq)⟩
theorem offW_of {its : List (Addr × Obj)} : ∀ {l : List (Addr × Obj)}, (∀ p ∈ l, ∀ q ∈ its, p.2.cls ≠ q.2.cls) → OffW its l
  | [], _ => trivial
  | _ :: _, h => ⟨offW1_of (h _ (.head _)), offW_of fun p hp => h p (.tail _ hp)⟩
theorem tups_cls {ns : List Int} : ∀ {T : List Tup}, ∀ p ∈ tupsOf ns T, p.2.cls = .type "tuple"
  | [], _, h => nomatch h
  | _ :: _, p, h => by
    rcases List.mem_cons.mp h with rfl | h
    · rfl
    · exact tups_cls p h
theorem nw_off {w : World} {l tb d hl : Addr} {kt : Tok} {ns : List Int} {lo : Obj} {T : List Tup} {el : Nat} {a1 a2 : Addr} {o1 o2 : Obj} (hlo : lo.cls = .type "list") (h1 : o1.cls = .type "enumerate") (h2 : o2.cls = .type "list_iterator") : OffW [(a1, o1), (a2, o2)] (nwOf w l tb d hl kt ns lo T el) :=
  offW_of fun p hp q hq => by
    have hp' : p.2.cls = .type "list" ∨ p.2.cls = .ref 283 ∨ p.2.cls = .type "dict" ∨ p.2.cls = .type "tuple" := by
      simp only [nwOf, List.mem_cons, List.mem_append, List.not_mem_nil, or_false] at hp
      rcases hp with rfl | rfl | rfl | hp | rfl
      · exact .inl rfl
      · exact .inr (.inl rfl)
      · exact .inr (.inr (.inl rfl))
      · exact .inr (.inr (.inr (tups_cls p hp)))
      · exact .inl hlo
    have hq' : q.2.cls = .type "enumerate" ∨ q.2.cls = .type "list_iterator" := by
      simp only [List.mem_cons, List.not_mem_nil, or_false] at hq
      rcases hq with rfl | rfl
      · exact .inl h1
      · exact .inr h2
    rcases hp' with e | e | e | e <;> rcases hq' with f | f <;> rw [e, f] <;> decide
theorem items_size : ∀ T : List Tup, (itemsOf T).size = T.length
  | [] => rfl
  | _ :: r => by simp [itemsOf, items_size r]
theorem sp_tail {S : List Addr} {lo : Obj} {l : Addr} {ns : List Int} (hl : l ∉ S) : ∀ {T : List Tup}, (∀ t ∈ T, t.1 ∉ S) → Sp S (tupsOf ns T ++ [(l, lo)]) (tupsOf ns T ++ [(l, lo)])
  | [], _ => .keep hl .nil
  | _ :: _, h => .keep (h _ (.head _)) (sp_tail hl fun t ht => h t (.tail _ ht))
theorem ltAll_at {hl : Addr} : ∀ {T : List Tup}, ltAll hl T → ∀ t ∈ T, @LT.lt Nat _ hl t.1
  | [], _, _, h => nomatch h
  | _ :: _, e, t, h => by
    rcases List.mem_cons.mp h with rfl | h
    · exact e.1
    · exact ltAll_at e.2 t h
theorem mC_next {l tb : Addr} {nm fs st pl nu x x2 f s p n : Option Value} : (fun y => if y = Str.ofString "name" then x else if y = Str.ofString "name" then x2 else if y = Str.ofString "step" then s else if y = Str.ofString "first" then f else if y = Str.ofString "number" then n else if y = Str.ofString "place" then p else mC l tb nm fs st pl nu y) = mC l tb x f s p n := by
  funext y
  unfold mC
  by_cases h1 : y = Str.ofString "name"
  · simp only [if_pos h1]
  by_cases h2 : y = Str.ofString "step"
  · simp only [if_neg h1, if_pos h2]
  by_cases h3 : y = Str.ofString "first"
  · simp only [if_neg h1, if_neg h2, if_pos h3]
  by_cases h4 : y = Str.ofString "number"
  · simp only [if_neg h1, if_neg h2, if_neg h3, if_pos h4]
  by_cases h5 : y = Str.ofString "place"
  · simp only [if_neg h1, if_neg h2, if_neg h3, if_neg h4, if_pos h5]
  simp only [if_neg h1, if_neg h2, if_neg h3, if_neg h4, if_neg h5]
theorem cased_six {a b c d e f : Tup} (h : casedAll [f, e, d, c, b, a]) : Cased (Str.ofString "near") a.2.1 ∧ Cased (Str.ofString "far") b.2.1 ∧ Cased (Str.ofString "near") c.2.1 ∧ Cased (Str.ofString "far") d.2.1 ∧ Cased (Str.ofString "near") e.2.1 ∧ Cased (Str.ofString "far") f.2.1 := by
  obtain ⟨h5, h4, h3, h2, h1, h0, _⟩ := h
  have r0 : ∀ n, n % 2 = 0 → rowOf n = Str.ofString "near" := fun n e => if_pos e
  have r1 : ∀ n, ¬ n % 2 = 0 → rowOf n = Str.ofString "far" := fun n e => if_neg e
  exact ⟨(r0 0 rfl) ▸ h0, (r1 1 (by decide)) ▸ h1, (r0 2 rfl) ▸ h2, (r1 3 (by decide)) ▸ h3, (r0 4 rfl) ▸ h4, (r1 5 (by decide)) ▸ h5⟩
theorem len_six : ∀ {T : List Tup}, T.length = 6 → ∃ a b c d e f, T = [a, b, c, d, e, f]
  | [a, b, c, d, e, f], _ => ⟨a, b, c, d, e, f, rfl⟩
local macro_rules | `(tactic| walk_at "exec If") => `(tactic| (k_here; (with_reducible show wpAny _ _ (exec (Stmt.If (Expr.BinOp _ _ _ _) _ [] _) _) _ _ _); (fail_if_success (with_reducible show wpAny _ _ _ (JoinEnd _ _ _ _ _ _ _) _ _)); refine Halt.mk ?_))
local macro_rules | `(tactic| walk_at "UnrEndW") => `(tactic| ((with_reducible show UnrEndW _ _ _ [_, _] _ _); refine Halt.mk ?_))
local macro_rules | `(tactic| walk_at "subscriptTail") => `(tactic| (k_here; (with_reducible show wpAny _ _ (subscriptTail _ _ _ (Value.int (Int.fmod _ _) _)) _ _ _); refine Halt.mk ?_))
local macro_rules | `(tactic| walk_at "ItemsRest") => `(tactic| ((with_reducible show ItemsRest _ _ _ _ _ _ _ _ _ _ _ _ (_ :: _) _ _); refine Halt.mk ?_))
local macro_rules | `(tactic| walk_at "call ref") => `(tactic| (k_here; (with_reducible show wpAny _ _ (call (Value.ref _) _ _) _ _ _); refine Halt.mk ?_))
theorem table_ok {w : World} {p : Program} {loose : List Str} {mean : ExcName → Option Value} {mg mb : Str → Option Value} (l : Addr) (n0 n1 n2 n3 n4 n5 : Int) (t0 t1 t2 t3 t4 t5 : Tok) (ep : Nat) (HB0 : 0 ≤ n0 ∧ n0 < 1000000) (HB1 : 0 ≤ n1 ∧ n1 < 1000000) (HB2 : 0 ≤ n2 ∧ n2 < 1000000) (HB3 : 0 ≤ n3 ∧ n3 < 1000000) (HB4 : 0 ≤ n4 ∧ n4 < 1000000) (HB5 : 0 ≤ n5 ∧ n5 < 1000000) :
  Amb w p loose mean mg mb 12 120 (fun A base h₀ L m rest s Q E =>
    News h₀ L s.heap ((l, listOf #[.int n0 t0, .int n1 t1, .int n2 t2, .int n3 t3, .int n4 t4, .int n5 t5] ep) :: rest) → (∀ p ∈ rest, p.1 ≠ l) →
    (∀ (tb d hl a0 a1 a2 a3 a4 a5 : Addr) (kt : Tok) (el : Nat) (x0 x1 x2 x3 x4 x5 : Str) (u0 u1 u2 u3 u4 u5 v0 v1 v2 v3 v4 v5 : Tok) (e0 e1 e2 e3 e4 e5 : Nat) (h' : Heap) (tk' : Nat), Fr h₀ L h' m → News h₀ L h' ((a5, tupObj #[.str x5 u5, .str (leadOf (firstOf n5) (stepOf n5)) v5] e5) :: (tb, instObj 283 d) :: (d, dictOf [⟨PyData.keyHash w.params (Str.ofString "_headers"), .str (Str.ofString "_headers") kt, .ref hl⟩] 1) :: (hl, listOf #[.ref a0, .ref a1, .ref a2, .ref a3, .ref a4, .ref a5] el) :: (a4, tupObj #[.str x4 u4, .str (leadOf (firstOf n4) (stepOf n4)) v4] e4) :: (a3, tupObj #[.str x3 u3, .str (leadOf (firstOf n3) (stepOf n3)) v3] e3) :: (a2, tupObj #[.str x2 u2, .str (leadOf (firstOf n2) (stepOf n2)) v2] e2) :: (a1, tupObj #[.str x1 u1, .str (leadOf (firstOf n1) (stepOf n1)) v1] e1) :: (a0, tupObj #[.str x0 u0, .str (leadOf (firstOf n0) (stepOf n0)) v0] e0) :: (l, listOf #[.int n0 t0, .int n1 t1, .int n2 t2, .int n3 t3, .int n4 t4, .int n5 t5] ep) :: rest) → (Cased (Str.ofString "near") x0 ∧ Cased (Str.ofString "far") x1 ∧ Cased (Str.ofString "near") x2 ∧ Cased (Str.ofString "far") x3 ∧ Cased (Str.ofString "near") x4 ∧ Cased (Str.ofString "far") x5) → (@LT.lt Nat _ l d ∧ @LT.lt Nat _ d tb ∧ @LT.lt Nat _ tb hl ∧ @LT.lt Nat _ hl a0 ∧ @LT.lt Nat _ hl a1 ∧ @LT.lt Nat _ hl a2 ∧ @LT.lt Nat _ hl a3 ∧ @LT.lt Nat _ hl a4 ∧ @LT.lt Nat _ hl a5) → Q (.ref tb) { s with heap := h', toks := tk' }) →
    wpAny (model PySem.Challenge.rw_tl0052_01.row.prog w) A (call (.ref 301) [.ref l]) Q E s) := by
  unfold Amb
  k_fill
  intro dp un gd cn cs a ccd cl outer A₀ base h₀ L m news s Q E B F X N0 T hk hd hu N hdis hret
  refine wpAny_call ?_
  refine' code_defS (binds := [(Str.ofString "numbers", .ref l)]) (small := [(l, listOf #[.int n0 t0, .int n1 t1, .int n2 t2, .int n3 t3, .int n4 t4, .int n5 t5] ep)]) (rest := news) B F X N (fun p hp hm => hdis p hp (by simpa using hm)) T ?kA ?kF ?kK ?k6 ?k7 ?k8 ?k9 ?kB ?_ ?c2 ?c3 ?c4 ?c5
  case kA => exact rfl
  case kF => exact rfl
  case kK => assumption
  case k6 => k_dflt k_is
  case k7 => k_dflt k_is
  case k8 => k_dflt ktr_room
  case k9 => k_dflt (first | exact BindsTo.of_eq rfl | exact binds_K (by k_in) rfl (by k_is) rfl rfl rfl)
  case c5 => k_dflt decide
  case kB => k_dflt (exact locs rfl)
  case c2 => k_dflt (exact rfl)
  case c3 => k_dflt (exact rfl)
  case c4 => k_dflt (exact rfl)
  k_whole
  intro g' L' h' FG' F' N' B' X' T' hlt' hrest'
  (try k_lt hlt')
  (try dsimp only)
  (try k_fold)
  k_steps
  change wpAny _ _ (call (Value.ref 283) [] []) _ _ _
  refine' call_cls ?k1 ?k2 ?k3 ?k4 ?k5 ?k6 ?_
  case k1 => k_asm
  case k2 => k_asm
  case k3 => k_asm
  case k4 => k_dflt k_is
  case k5 => k_dflt k_is
  case k6 => k_dflt k_is
  k_whole
  intro x1 d1 h1 F1 N1 l1 l2
  (try k_lt l1)
  (try k_lt2 l2)
  (try k_sweep)
  refine' code_def ?k1 ?k2 ?k3 ?k4 ?k5 ?kA ?kF ?kK ?k6 ?k7 ?k8 ?k9 ?kB ?_ ?c2 ?c3 ?c4 ?c5
  case kA => exact rfl
  case kF => exact rfl
  case kK => first | exact rfl | assumption
  case k1 => k_asm
  case k2 => k_asm
  case k3 => k_asm
  case k4 => k_asm
  case k5 => k_asm
  case k6 => k_dflt k_is
  case k7 => k_dflt k_is
  case k8 => k_dflt ktr_room
  case k9 => k_dflt (first | exact BindsTo.of_eq rfl | exact binds_K (by k_in) rfl (by k_is) rfl rfl rfl)
  case c5 => k_dflt decide
  case kB => k_dflt (exact locs rfl)
  case c2 => k_dflt (exact rfl)
  case c3 => k_dflt (exact rfl)
  case c4 => k_dflt (exact rfl)
  k_whole
  intro g2 L2 h2 FG2 F2 N2 B2 X2 T2
  (try dsimp only)
  (try k_lift B2)
  (try k_fold)
  k_steps
  unfold Halt
  have hbd : ∀ i, i < 6 → 0 ≤ [n0, n1, n2, n3, n4, n5].getD i 0 ∧ [n0, n1, n2, n3, n4, n5].getD i 0 < 1000000 := fun i hi => six_bd HB0 HB1 HB2 HB3 HB4 HB5 hi
  clear HB0 HB1 HB2 HB3 HB4 HB5
  refine itemsJ (TJ w l x1 d1 _ _ [n0, n1, n2, n3, n4, n5] (listOf #[.int n0 t0, .int n1 t1, .int n2 t2, .int n3 t3, .int n4 t4, .int n5 t5] ep)) (TJ.mk [] 0 none none none none none ?hm rfl (by exact rfl) trivial trivial) ?turn ?done
  case hm =>
    funext y
    simp only [mC]
    by_cases h1 : y = Str.ofString "name"
    · subst h1; rfl
    by_cases h2 : y = Str.ofString "step"
    · subst h2; rfl
    by_cases h3 : y = Str.ofString "first"
    · subst h3; rfl
    by_cases h4 : y = Str.ofString "number"
    · subst h4; rfl
    by_cases h5 : y = Str.ofString "place"
    · subst h5; rfl
    rw [if_neg h1, if_neg h2, if_neg h3, if_neg h4, if_neg h5]
  case turn =>
    intro i a m₁ nw v h tk ha hj hv F
    obtain ⟨t, hi6, e⟩ := six_at (ns := []) (ts := []) ha
    subst e
    obtain ⟨Tp, tt, e, hT⟩ := hv
    subst e
    obtain ⟨T, el, nm, fs, st, pl, nu, e1, e2, e3, e4, e5⟩ := hj
    subst e1 e3
    generalize hni : [n0, n1, n2, n3, n4, n5].getD i 0 = ni at hT
    refine AllObj.cons (fun o1 hc1 => AllObj.cons (fun o2 hc2 => AllObj.nil (fun N' => ?_)))
    (try dsimp only at hc1 hc2)
    (try simp only [List.cons_append, List.nil_append] at N')
    unfold nwOf at N'
    (try simp only [List.cons_append, List.nil_append] at N')
    clear ha
    have hb : 0 ≤ ni ∧ ni < 1000000 := by rw [← hni]; exact hbd i hi6
    k_steps
    (with_reducible rename Fr g' L' _ _ => F8)
    (try dsimp only at F8)
    change wpAny _ _ (call (Value.ref 294) _ []) _ _ _
    refine' drawn_ok _ _ hb.1 hb.2 ?k1 ?k2 ?k3 ?k4 ?k5 ?kK ?kd ?ku ?_
    case k1 => k_asm
    case k2 => k_asm
    case k3 => k_asm
    case k4 => k_asm
    case k5 => k_asm
    case kK => first | exact rfl | assumption
    case kd => k_dflt ktr_room
    case ku => k_dflt ktr_units
    k_whole
    intro xd epd td1 td2 h3 tk3 F3 N3 l3 b3
    (try dsimp only)
    (try k_lt l3)
    k_steps
    unfold Halt
    (with_reducible rename News g' L' _ (_ :: _) => N4)
    refine KTb.item_list (ws := [Str.ofString "near", Str.ofString "far"]) (vs := [_, _]) (News.isList N4 (.head _)) (.cons _ _ (.cons _ _ .nil)) ?i0 ?i1 ?i2 ?ik (hs := rfl)
    case i0 => exact Int.fmod_nonneg (by omega) (by decide)
    case i1 => exact Int.fmod_lt_of_pos _ (by decide)
    case i2 => exact Int.lt_trans (Int.fmod_lt_of_pos _ (by decide)) (by decide)
    intro tn _
    rw [row_at]
    generalize hrow : rowOf i = rb
    have hrl : rb.length ≤ 100 := hrow ▸ row_len i
    have hro : okN rb = true := hrow ▸ row_ok i
    have hru : okN (Txt.upper rb) = true := hrow ▸ row_up i
    k_steps
    unfold Halt
    refine' join_name (key := Str.ofString "name") ?F ?N ?hb ?jb ?jk
    case F => k_asm
    case N => k_asm
    case hb => exact rfl
    case jb =>
      k_steps
      all_goals k_dflt (first | exact JoinEnd.same (by k_asm) rfl (by k_asm) | exact JoinEnd.up (by k_asm) (by k_asm))
    intro x8 t8 h8 tk8 c8 F8 N8
    k_steps
    change wpAny _ _ (call (Value.ref 280) _ []) _ _ _
    refine' addh_ok _ _ _ _ _ _ _ _ _ _ _ _ (cased_ok c8 hro hru) (lead_okV _) (lead_len _) ?ad ?ae ?af ?k1 ?k2 ?k3 ?k4 ?k5 ?kK ?kd ?ku _ ?m1 ?m2 ?m3 ?sp ?_
    case k1 => k_asm
    case k2 => k_asm
    case k3 => k_asm
    case k4 => k_asm
    case k5 => k_asm
    case kK => first | exact rfl | assumption
    case kd => k_dflt ktr_room
    case ku => k_dflt ktr_units
    case m1 => k_dflt k_mem
    case m2 => k_dflt k_mem
    case m3 => k_dflt k_mem
    case ad => rw [items_size, e2]; omega
    case ae => omega
    case af => omega
    case sp =>
      refine' Sp.drop (Sp.drop (Sp.keep ?sa (Sp.keep ?sb (Sp.drop (Sp.drop (Sp.drop ?sz))))))
      case sz => exact sp_tail (nin3 (by omega) (by omega) (by omega)) fun t ht => (have hz := ltAll_at e5 t ht; nin3 (by omega) (by omega) (by omega))
      case sa => exact nin3 (by omega) (by omega) (by omega)
      case sb => exact nin3 (by omega) (by omega) (by omega)
    k_whole
    intro tp ep9 t9 h9 tk9 F9 N9 l91 l92 l93 l94
    (try dsimp only)
    k_steps
    unfold Halt
    (with_reducible rename Fr g' L' _ _ => F10)
    have hnT : [n0, n1, n2, n3, n4, n5].getD T.length 0 = ni := by rw [e2]; exact hni
    have key : tupsOf [n0, n1, n2, n3, n4, n5] ((tp, x8, t8, t9, ep9) :: T) = (tp, tupObj #[.str x8 t8, .str (leadOf (firstOf ni) (stepOf ni)) t9] ep9) :: tupsOf [n0, n1, n2, n3, n4, n5] T := by simp only [tupsOf, hnT]
    have F11 : Fr g' L' _ (mC l x1 _ _ _ _ _) := (congrArg (Fr g' L' _) mC_next).mp F10
    refine UnrEndW.intro F11 N9 (nwOf w l x1 d1 _ _ [n0, n1, n2, n3, n4, n5] (listOf #[.int n0 t0, .int n1 t1, .int n2 t2, .int n3 t3, .int n4 t4, .int n5 t5] ep) ((tp, x8, t8, t9, ep9) :: T) (el + 1)) (by k_subL) ?u2 (nw_off rfl hc1 hc2) ⟨⟨.tail _ (.tail _ (.tail _ (List.mem_append_right _ (.head _)))), trivial⟩, TJ.mk ((tp, x8, t8, t9, ep9) :: T) (el + 1) _ _ _ _ _ rfl (congrArg (· + 1) e2) rfl ⟨by rw [e2, hrow]; exact c8, e4⟩ ⟨l93, e5⟩⟩
    unfold nwOf
    rw [key]
    exact ⟨by k_mem, by k_mem, by k_mem, by k_mem, subL_of fun p hp => .tail _ (.tail _ (.tail _ (.tail _ (.tail _ (.tail _ hp)))))⟩
  case done =>
    intro m₁ nw h9 tk9 hj F9 N9
    refine hideP ?_
    intro G9 kG9
    obtain ⟨T, el, nm, fs, st, pl, nu, e1, e2, e3, e4, e5⟩ := hj
    obtain ⟨⟨a5, x5, u5, v5, p5⟩, ⟨a4, x4, u4, v4, p4⟩, ⟨a3, x3, u3, v3, p3⟩, ⟨a2, x2, u2, v2, p2⟩, ⟨a1, x1', u1, v1, p1⟩, ⟨a0, x0, u0, v0, p0⟩, e⟩ := len_six e2
    subst e
    rw [e1] at F9
    rw [e3] at N9
    refine kG9 ?_
    clear kG9 G9 e1 e3 m₁ nw
    unfold nwOf at N9
    simp only [tupsOf, List.cons_append, List.nil_append, List.length_cons, List.length_nil] at N9
    k_steps
    (with_reducible rename News h₀ L _ news => nR)
    (with_reducible rename News h₀ L _ (_ :: (_, instObj _ _) :: _) => kN)
    have kN2 : News h₀ L h9 ((a5, tupObj #[.str x5 u5, .str (leadOf (firstOf n5) (stepOf n5)) v5] p5) :: (x1, instObj 283 d1) :: (d1, dictOf _ _) :: (_, listOf #[.ref a0, .ref a1, .ref a2, .ref a3, .ref a4, .ref a5] el) :: (a4, tupObj #[.str x4 u4, .str (leadOf (firstOf n4) (stepOf n4)) v4] p4) :: (a3, tupObj #[.str x3 u3, .str (leadOf (firstOf n3) (stepOf n3)) v3] p3) :: (a2, tupObj #[.str x2 u2, .str (leadOf (firstOf n2) (stepOf n2)) v2] p2) :: (a1, tupObj #[.str x1' u1, .str (leadOf (firstOf n1) (stepOf n1)) v1] p1) :: (a0, tupObj #[.str x0 u0, .str (leadOf (firstOf n0) (stepOf n0)) v0] p0) :: (l, listOf #[.int n0 t0, .int n1 t1, .int n2 t2, .int n3 t3, .int n4 t4, .int n5 t5] ep) :: news) := News.drop (News.app kN nR) fun p hp => mem_sw4 hp
    refine hret _ _ _ _ _ _ _ _ _ _ _ _ _ _ _ _ _ _ _ _ _ _ _ _ _ _ _ _ _ _ _ _ _ _ _ _ _ (by k_asm) kN2 (cased_six e4) ⟨by omega, by omega, by omega, e5.2.2.2.2.2.1, e5.2.2.2.2.1, e5.2.2.2.1, e5.2.2.1, e5.2.1, e5.1⟩
end Mine
end
section
open PySem PySem.W PySem.W.X PySem.W.ZRun PySem.Spec PySem.Calls PyProof.Rows
set_option maxRecDepth 100000
set_option maxHeartbeats 0
set_option linter.unusedVariables false
namespace Mine
local macro_rules | `(tactic| walk_at "newTuple") => `(tactic| (k_here; k_dflt (refine' kup_newTuple ?F ?N ?_ ?z; (case F => k_asm); (case N => k_asm); (case z => kmk_size)); intro D' h' F' N' l1; (try k_lt l1); (try k_sweep)))
local macro_rules | `(tactic| walk_at "call ref") => `(tactic| refine Halt.mk ?_)
local macro_rules | `(tactic| lcg_off) => `(tactic| (simp only [LCg.Off3, and_true]; assumption))
local macro_rules | `(tactic| walk_at "call builtin:str.lower") => `(tactic| (k_here; k_dflt (refine' lower_cased ?a ?b ?c ?d ?_; (case a => with_reducible assumption); (case b => decide +kernel); (case c => decide +kernel); (case d => decide +kernel); k_whole)))
local macro_rules | `(tactic| walk_at "CompSrcT") => `(tactic| (k_here; k_dflt (refine LCt.CompSrcT.ledger (by rfl) (by k_asm) (by k_asm) (by k_mem) (by first | size_fits | exact Nat.le_of_ble_eq_true rfl) ?_; intro g')))
theorem near_ok {w : World} {p : Program} {loose : List Str} {mean : ExcName → Option Value} {mg mb : Str → Option Value} (n0 n1 n2 n3 n4 n5 : Int) (tb d hl a0 a1 a2 a3 a4 a5 : Addr) (kt : Tok) (el : Nat) (x0 x1 x2 x3 x4 x5 : Str) (u0 u1 u2 u3 u4 u5 v0 v1 v2 v3 v4 v5 : Tok) (e0 e1 e2 e3 e4 e5 : Nat) (ta : Tok) (hc : Cased (Str.ofString "near") x0 ∧ Cased (Str.ofString "far") x1 ∧ Cased (Str.ofString "near") x2 ∧ Cased (Str.ofString "far") x3 ∧ Cased (Str.ofString "near") x4 ∧ Cased (Str.ofString "far") x5) (hf : @LT.lt Nat _ d tb ∧ @LT.lt Nat _ tb hl ∧ @LT.lt Nat _ hl a0 ∧ @LT.lt Nat _ hl a1 ∧ @LT.lt Nat _ hl a2 ∧ @LT.lt Nat _ hl a3 ∧ @LT.lt Nat _ hl a4 ∧ @LT.lt Nat _ hl a5) :
  Amb w p loose mean mg mb 12 120 (fun A base h₀ L m rest s Q E =>
    News h₀ L s.heap ([(a5, tupObj #[.str x5 u5, .str (leadOf (firstOf n5) (stepOf n5)) v5] e5), (tb, instObj 283 d), (d, dictOf [⟨PyData.keyHash w.params (Str.ofString "_headers"), .str (Str.ofString "_headers") kt, .ref hl⟩] 1), (hl, listOf #[.ref a0, .ref a1, .ref a2, .ref a3, .ref a4, .ref a5] el), (a4, tupObj #[.str x4 u4, .str (leadOf (firstOf n4) (stepOf n4)) v4] e4), (a3, tupObj #[.str x3 u3, .str (leadOf (firstOf n3) (stepOf n3)) v3] e3), (a2, tupObj #[.str x2 u2, .str (leadOf (firstOf n2) (stepOf n2)) v2] e2), (a1, tupObj #[.str x1 u1, .str (leadOf (firstOf n1) (stepOf n1)) v1] e1), (a0, tupObj #[.str x0 u0, .str (leadOf (firstOf n0) (stepOf n0)) v0] e0)] ++ rest) → (∀ p ∈ rest, p.1 ∉ ([(a5, tupObj #[.str x5 u5, .str (leadOf (firstOf n5) (stepOf n5)) v5] e5), (tb, instObj 283 d), (d, dictOf [⟨PyData.keyHash w.params (Str.ofString "_headers"), .str (Str.ofString "_headers") kt, .ref hl⟩] 1), (hl, listOf #[.ref a0, .ref a1, .ref a2, .ref a3, .ref a4, .ref a5] el), (a4, tupObj #[.str x4 u4, .str (leadOf (firstOf n4) (stepOf n4)) v4] e4), (a3, tupObj #[.str x3 u3, .str (leadOf (firstOf n3) (stepOf n3)) v3] e3), (a2, tupObj #[.str x2 u2, .str (leadOf (firstOf n2) (stepOf n2)) v2] e2), (a1, tupObj #[.str x1 u1, .str (leadOf (firstOf n1) (stepOf n1)) v1] e1), (a0, tupObj #[.str x0 u0, .str (leadOf (firstOf n0) (stepOf n0)) v0] e0)] : List (Addr × Obj)).map (·.1)) →
    (∀ (x : Addr) (e : Nat) (h' : Heap) (tk' : Nat), Fr h₀ L h' m → News h₀ L h' ((x, listOf #[.str (leadOf (firstOf n0) (stepOf n0)) v0, .str (leadOf (firstOf n2) (stepOf n2)) v2, .str (leadOf (firstOf n4) (stepOf n4)) v4] e) :: ([(a5, tupObj #[.str x5 u5, .str (leadOf (firstOf n5) (stepOf n5)) v5] e5), (tb, instObj 283 d), (d, dictOf [⟨PyData.keyHash w.params (Str.ofString "_headers"), .str (Str.ofString "_headers") kt, .ref hl⟩] 1), (hl, listOf #[.ref a0, .ref a1, .ref a2, .ref a3, .ref a4, .ref a5] el), (a4, tupObj #[.str x4 u4, .str (leadOf (firstOf n4) (stepOf n4)) v4] e4), (a3, tupObj #[.str x3 u3, .str (leadOf (firstOf n3) (stepOf n3)) v3] e3), (a2, tupObj #[.str x2 u2, .str (leadOf (firstOf n2) (stepOf n2)) v2] e2), (a1, tupObj #[.str x1 u1, .str (leadOf (firstOf n1) (stepOf n1)) v1] e1), (a0, tupObj #[.str x0 u0, .str (leadOf (firstOf n0) (stepOf n0)) v0] e0)] ++ rest)) → GnNe x [(a5, tupObj #[.str x5 u5, .str (leadOf (firstOf n5) (stepOf n5)) v5] e5), (tb, instObj 283 d), (d, dictOf [⟨PyData.keyHash w.params (Str.ofString "_headers"), .str (Str.ofString "_headers") kt, .ref hl⟩] 1), (hl, listOf #[.ref a0, .ref a1, .ref a2, .ref a3, .ref a4, .ref a5] el), (a4, tupObj #[.str x4 u4, .str (leadOf (firstOf n4) (stepOf n4)) v4] e4), (a3, tupObj #[.str x3 u3, .str (leadOf (firstOf n3) (stepOf n3)) v3] e3), (a2, tupObj #[.str x2 u2, .str (leadOf (firstOf n2) (stepOf n2)) v2] e2), (a1, tupObj #[.str x1 u1, .str (leadOf (firstOf n1) (stepOf n1)) v1] e1), (a0, tupObj #[.str x0 u0, .str (leadOf (firstOf n0) (stepOf n0)) v0] e0)] → GnNe x rest → Q (.ref x) { s with heap := h', toks := tk' }) →
    wpAny (model PySem.Challenge.rw_tl0052_01.row.prog w) A (call (.ref 222) [.ref tb, .str (Str.ofString "Near") ta]) Q E s) := by
  unfold Amb
  k_fill
  intro dp un gd cn cs a ccd cl outer A₀ base h₀ L m news s Q E B F X N0 T hk hd hu N hdis hret
  have hn : ∀ b x, Cased (Str.ofString b) x → True := fun _ _ _ => trivial
  obtain ⟨c0, c1, c2, c3, c4, c5⟩ := hc
  refine wpAny_call ?_
  refine' code_defCS (binds := [(Str.ofString "self", .ref tb), (Str.ofString "name", .str (Str.ofString "Near") ta)]) (small := [(a5, tupObj #[.str x5 u5, .str (leadOf (firstOf n5) (stepOf n5)) v5] e5), (tb, instObj 283 d), (d, dictOf [⟨PyData.keyHash w.params (Str.ofString "_headers"), .str (Str.ofString "_headers") kt, .ref hl⟩] 1), (hl, listOf #[.ref a0, .ref a1, .ref a2, .ref a3, .ref a4, .ref a5] el), (a4, tupObj #[.str x4 u4, .str (leadOf (firstOf n4) (stepOf n4)) v4] e4), (a3, tupObj #[.str x3 u3, .str (leadOf (firstOf n3) (stepOf n3)) v3] e3), (a2, tupObj #[.str x2 u2, .str (leadOf (firstOf n2) (stepOf n2)) v2] e2), (a1, tupObj #[.str x1 u1, .str (leadOf (firstOf n1) (stepOf n1)) v1] e1), (a0, tupObj #[.str x0 u0, .str (leadOf (firstOf n0) (stepOf n0)) v0] e0)]) (rest := news) B F X N hdis T ?kA ?kF ?kK ?k6 ?k7 ?k8 ?k9 ?kB ?kD ?_ ?c2 ?c3 ?c4
  case kA => exact rfl
  case kF => exact rfl
  case kK => assumption
  case k6 => k_dflt k_is
  case k7 => k_dflt k_is
  case k8 => k_dflt ktr_room
  case k9 => k_dflt (first | exact BindsTo.of_eq rfl | exact binds_K (by k_in) rfl (by k_is) rfl rfl rfl)
  case kB => k_dflt (exact rfl)
  case kD => decide +kernel
  case c2 => k_dflt (exact rfl)
  case c3 => k_dflt (exact rfl)
  case c4 => k_dflt (exact rfl)
  k_whole
  intro g' L' h' tk' cells' FG' F' N' Y' B' X' T' hlt' hrest'
  (try k_lt hlt')
  k_cells Y'
  (try simp only [List.cons_append, List.nil_append] at N')
  (try dsimp only)
  (try k_fold)
  k_steps
  change wpAny _ _ (call (Value.ref 184) _ _) _ _ _
  k_dflt (refine' conv_ok _ _ _ _ ?a_u0 ?b_u0 (by k_asm) (by k_asm) (by k_asm) (by k_asm) (by k_asm) (by first | exact rfl | assumption) (by ktr_room) (by ktr_units) ?_; (case a_u0 => first | (intro hb9; cases hb9; done) | (intro _; assumption) | (intro _; decide +kernel)); (case b_u0 => first | (intro hb9; cases hb9; done) | (intro _; assumption) | (intro _; decide +kernel)); k_whole)
  intro hzu0 tkzu0 Fzu0 Nzu0
  (try dsimp only)
  k_steps
  (with_reducible rename News h₀ L _ news => nR)
  (with_reducible rename News h₀ L _ (_ :: (_, _) :: (_, _) :: _) => kN)
  (with_reducible rename News g' L' _ ((_, LCg.lst _) :: _) => kN0)
  (with_reducible rename (_ ≠ _) ∧ (_ ≠ _) ∧ (_ ≠ _) ∧ _ => o1)
  exact hret _ _ _ _ (by k_asm) (News.cut1app kN nR) (by simp only [GnNe, and_true]; exact o1.2) (gnNe_rest kN0 hrest')
theorem far_ok {w : World} {p : Program} {loose : List Str} {mean : ExcName → Option Value} {mg mb : Str → Option Value} (n0 n1 n2 n3 n4 n5 : Int) (tb d hl a0 a1 a2 a3 a4 a5 : Addr) (kt : Tok) (el : Nat) (x0 x1 x2 x3 x4 x5 : Str) (u0 u1 u2 u3 u4 u5 v0 v1 v2 v3 v4 v5 : Tok) (e0 e1 e2 e3 e4 e5 : Nat) (ta : Tok) (hc : Cased (Str.ofString "near") x0 ∧ Cased (Str.ofString "far") x1 ∧ Cased (Str.ofString "near") x2 ∧ Cased (Str.ofString "far") x3 ∧ Cased (Str.ofString "near") x4 ∧ Cased (Str.ofString "far") x5) (hf : @LT.lt Nat _ d tb ∧ @LT.lt Nat _ tb hl ∧ @LT.lt Nat _ hl a0 ∧ @LT.lt Nat _ hl a1 ∧ @LT.lt Nat _ hl a2 ∧ @LT.lt Nat _ hl a3 ∧ @LT.lt Nat _ hl a4 ∧ @LT.lt Nat _ hl a5) :
  Amb w p loose mean mg mb 12 120 (fun A base h₀ L m rest s Q E =>
    News h₀ L s.heap ([(a5, tupObj #[.str x5 u5, .str (leadOf (firstOf n5) (stepOf n5)) v5] e5), (tb, instObj 283 d), (d, dictOf [⟨PyData.keyHash w.params (Str.ofString "_headers"), .str (Str.ofString "_headers") kt, .ref hl⟩] 1), (hl, listOf #[.ref a0, .ref a1, .ref a2, .ref a3, .ref a4, .ref a5] el), (a4, tupObj #[.str x4 u4, .str (leadOf (firstOf n4) (stepOf n4)) v4] e4), (a3, tupObj #[.str x3 u3, .str (leadOf (firstOf n3) (stepOf n3)) v3] e3), (a2, tupObj #[.str x2 u2, .str (leadOf (firstOf n2) (stepOf n2)) v2] e2), (a1, tupObj #[.str x1 u1, .str (leadOf (firstOf n1) (stepOf n1)) v1] e1), (a0, tupObj #[.str x0 u0, .str (leadOf (firstOf n0) (stepOf n0)) v0] e0)] ++ rest) → (∀ p ∈ rest, p.1 ∉ ([(a5, tupObj #[.str x5 u5, .str (leadOf (firstOf n5) (stepOf n5)) v5] e5), (tb, instObj 283 d), (d, dictOf [⟨PyData.keyHash w.params (Str.ofString "_headers"), .str (Str.ofString "_headers") kt, .ref hl⟩] 1), (hl, listOf #[.ref a0, .ref a1, .ref a2, .ref a3, .ref a4, .ref a5] el), (a4, tupObj #[.str x4 u4, .str (leadOf (firstOf n4) (stepOf n4)) v4] e4), (a3, tupObj #[.str x3 u3, .str (leadOf (firstOf n3) (stepOf n3)) v3] e3), (a2, tupObj #[.str x2 u2, .str (leadOf (firstOf n2) (stepOf n2)) v2] e2), (a1, tupObj #[.str x1 u1, .str (leadOf (firstOf n1) (stepOf n1)) v1] e1), (a0, tupObj #[.str x0 u0, .str (leadOf (firstOf n0) (stepOf n0)) v0] e0)] : List (Addr × Obj)).map (·.1)) →
    (∀ (x : Addr) (e : Nat) (h' : Heap) (tk' : Nat), Fr h₀ L h' m → News h₀ L h' ((x, listOf #[.str (leadOf (firstOf n1) (stepOf n1)) v1, .str (leadOf (firstOf n3) (stepOf n3)) v3, .str (leadOf (firstOf n5) (stepOf n5)) v5] e) :: ([(a5, tupObj #[.str x5 u5, .str (leadOf (firstOf n5) (stepOf n5)) v5] e5), (tb, instObj 283 d), (d, dictOf [⟨PyData.keyHash w.params (Str.ofString "_headers"), .str (Str.ofString "_headers") kt, .ref hl⟩] 1), (hl, listOf #[.ref a0, .ref a1, .ref a2, .ref a3, .ref a4, .ref a5] el), (a4, tupObj #[.str x4 u4, .str (leadOf (firstOf n4) (stepOf n4)) v4] e4), (a3, tupObj #[.str x3 u3, .str (leadOf (firstOf n3) (stepOf n3)) v3] e3), (a2, tupObj #[.str x2 u2, .str (leadOf (firstOf n2) (stepOf n2)) v2] e2), (a1, tupObj #[.str x1 u1, .str (leadOf (firstOf n1) (stepOf n1)) v1] e1), (a0, tupObj #[.str x0 u0, .str (leadOf (firstOf n0) (stepOf n0)) v0] e0)] ++ rest)) → GnNe x [(a5, tupObj #[.str x5 u5, .str (leadOf (firstOf n5) (stepOf n5)) v5] e5), (tb, instObj 283 d), (d, dictOf [⟨PyData.keyHash w.params (Str.ofString "_headers"), .str (Str.ofString "_headers") kt, .ref hl⟩] 1), (hl, listOf #[.ref a0, .ref a1, .ref a2, .ref a3, .ref a4, .ref a5] el), (a4, tupObj #[.str x4 u4, .str (leadOf (firstOf n4) (stepOf n4)) v4] e4), (a3, tupObj #[.str x3 u3, .str (leadOf (firstOf n3) (stepOf n3)) v3] e3), (a2, tupObj #[.str x2 u2, .str (leadOf (firstOf n2) (stepOf n2)) v2] e2), (a1, tupObj #[.str x1 u1, .str (leadOf (firstOf n1) (stepOf n1)) v1] e1), (a0, tupObj #[.str x0 u0, .str (leadOf (firstOf n0) (stepOf n0)) v0] e0)] → GnNe x rest → Q (.ref x) { s with heap := h', toks := tk' }) →
    wpAny (model PySem.Challenge.rw_tl0052_01.row.prog w) A (call (.ref 222) [.ref tb, .str (Str.ofString "fAR") ta]) Q E s) := by
  unfold Amb
  k_fill
  intro dp un gd cn cs a ccd cl outer A₀ base h₀ L m news s Q E B F X N0 T hk hd hu N hdis hret
  have hn : ∀ b x, Cased (Str.ofString b) x → True := fun _ _ _ => trivial
  obtain ⟨c0, c1, c2, c3, c4, c5⟩ := hc
  refine wpAny_call ?_
  refine' code_defCS (binds := [(Str.ofString "self", .ref tb), (Str.ofString "name", .str (Str.ofString "fAR") ta)]) (small := [(a5, tupObj #[.str x5 u5, .str (leadOf (firstOf n5) (stepOf n5)) v5] e5), (tb, instObj 283 d), (d, dictOf [⟨PyData.keyHash w.params (Str.ofString "_headers"), .str (Str.ofString "_headers") kt, .ref hl⟩] 1), (hl, listOf #[.ref a0, .ref a1, .ref a2, .ref a3, .ref a4, .ref a5] el), (a4, tupObj #[.str x4 u4, .str (leadOf (firstOf n4) (stepOf n4)) v4] e4), (a3, tupObj #[.str x3 u3, .str (leadOf (firstOf n3) (stepOf n3)) v3] e3), (a2, tupObj #[.str x2 u2, .str (leadOf (firstOf n2) (stepOf n2)) v2] e2), (a1, tupObj #[.str x1 u1, .str (leadOf (firstOf n1) (stepOf n1)) v1] e1), (a0, tupObj #[.str x0 u0, .str (leadOf (firstOf n0) (stepOf n0)) v0] e0)]) (rest := news) B F X N hdis T ?kA ?kF ?kK ?k6 ?k7 ?k8 ?k9 ?kB ?kD ?_ ?c2 ?c3 ?c4
  case kA => exact rfl
  case kF => exact rfl
  case kK => assumption
  case k6 => k_dflt k_is
  case k7 => k_dflt k_is
  case k8 => k_dflt ktr_room
  case k9 => k_dflt (first | exact BindsTo.of_eq rfl | exact binds_K (by k_in) rfl (by k_is) rfl rfl rfl)
  case kB => k_dflt (exact rfl)
  case kD => decide +kernel
  case c2 => k_dflt (exact rfl)
  case c3 => k_dflt (exact rfl)
  case c4 => k_dflt (exact rfl)
  k_whole
  intro g' L' h' tk' cells' FG' F' N' Y' B' X' T' hlt' hrest'
  (try k_lt hlt')
  k_cells Y'
  (try simp only [List.cons_append, List.nil_append] at N')
  (try dsimp only)
  (try k_fold)
  k_steps
  change wpAny _ _ (call (Value.ref 184) _ _) _ _ _
  k_dflt (refine' conv_ok _ _ _ _ ?a_v0 ?b_v0 (by k_asm) (by k_asm) (by k_asm) (by k_asm) (by k_asm) (by first | exact rfl | assumption) (by ktr_room) (by ktr_units) ?_; (case a_v0 => first | (intro hb9; cases hb9; done) | (intro _; assumption) | (intro _; decide +kernel)); (case b_v0 => first | (intro hb9; cases hb9; done) | (intro _; assumption) | (intro _; decide +kernel)); k_whole)
  intro hzv0 tkzv0 Fzv0 Nzv0
  (try dsimp only)
  k_steps
  (with_reducible rename News h₀ L _ news => nR)
  (with_reducible rename News h₀ L _ (_ :: (_, _) :: (_, _) :: _) => kN)
  (with_reducible rename News g' L' _ ((_, LCg.lst _) :: _) => kN0)
  (with_reducible rename (_ ≠ _) ∧ (_ ≠ _) ∧ (_ ≠ _) ∧ _ => o1)
  exact hret _ _ _ _ (by k_asm) (News.cut1app kN nR) (by simp only [GnNe, and_true]; exact o1.2) (gnNe_rest kN0 hrest')
end Mine
end
section
open PySem PySem.W PySem.W.X PySem.W.ZRun PySem.Spec PySem.Calls PyProof.Rows
set_option maxRecDepth 100000
set_option maxHeartbeats 0
set_option linter.unusedVariables false
namespace Mine
noncomputable def wsB (f i : Nat) : Int := if i ≤ f then (i : Int) else (i : Int) - f - 1
noncomputable def wsT (f i : Nat) : Int := if i ≤ f then 0 else 1
noncomputable def wsC (f i : Nat) : List Int := if i ≤ f then [] else List.replicate f 0 ++ [1]
theorem wsB_lo {f i : Nat} (h : i ≤ f) : wsB f i = i := by simp [wsB, h]
theorem wsB_hi {f i : Nat} (h : f < i) : wsB f i = (i : Int) - f - 1 := by unfold wsB; rw [if_neg (by omega)]
theorem wsT_lo {f i : Nat} (h : i ≤ f) : wsT f i = 0 := by simp [wsT, h]
theorem wsT_hi {f i : Nat} (h : f < i) : wsT f i = 1 := by unfold wsT; rw [if_neg (by omega)]
theorem wsC_lo {f i : Nat} (h : i ≤ f) : wsC f i = [] := by simp [wsC, h]
theorem wsC_hi {f i : Nat} (h : f < i) : wsC f i = List.replicate f 0 ++ [1] := by unfold wsC; rw [if_neg (by omega)]
theorem ws_bounds (f i : Nat) : 0 ≤ wsB f i ∧ wsB f i ≤ i ∧ 0 ≤ wsT f i ∧ wsT f i ≤ 1 := by
  by_cases h : i ≤ f
  · rw [wsB_lo h, wsT_lo h]; omega
  · rw [wsB_hi (by omega), wsT_hi (by omega)]; omega
abbrev wsMap (u : Option Value) (nt n b : Int) (tt tn tb : Tok) (c : Addr) (m₀ : Str → Option Value) : Str → Option Value := fun y => if y = Str.ofString "ch" then u else if y = Str.ofString "nt" then some (.int nt tt) else if y = Str.ofString "n" then some (.int n tn) else if y = Str.ofString "b" then some (.int b tb) else if y = Str.ofString "count" then some (.ref c) else m₀ y
inductive wsJ (f : Nat) (m₀ : Str → Option Value) (rest : List (Addr × Obj)) (lo : Addr) (i : Nat) (m : Str → Option Value) (news : List (Addr × Obj)) : Prop
  | mk (u : Option Value) (tt tn tb : Tok) (c : Addr) (vs : List Value) (e : Nat) (c1 : m = wsMap u (wsT f i) i (wsB f i) tt tn tb c m₀) (c2 : news = (c, listOf vs.toArray e) :: rest) (c3 : IntsAre vs (wsC f i)) (c4 : @LT.lt Nat _ lo c)
theorem wsJ_start {f : Nat} {m : Str → Option Value} {rest : List (Addr × Obj)} {lo c : Addr} {tt tn tb : Tok} (h1 : m (Str.ofString "nt") = some (.int 0 tt)) (h2 : m (Str.ofString "n") = some (.int 0 tn)) (h3 : m (Str.ofString "b") = some (.int 0 tb)) (h4 : m (Str.ofString "count") = some (.ref c)) (hl : @LT.lt Nat _ lo c) :
    wsJ f m rest lo 0 m ((c, listOf #[] 0) :: rest) := by
  refine ⟨m (Str.ofString "ch"), tt, tn, tb, c, [], 0, map_eq [Str.ofString "ch", Str.ofString "nt", Str.ofString "n", Str.ofString "b", Str.ofString "count"] ?_ ?_, rfl, ?_, hl⟩
  · intro y hy
    simp only [List.mem_cons, List.not_mem_nil, or_false] at hy
    rcases hy with e | e | e | e | e <;> subst e
    · rfl
    · rw [h1, wsT_lo (Nat.zero_le _)]; rfl
    · rw [h2]; rfl
    · rw [h3, wsB_lo (Nat.zero_le _)]; rfl
    · rw [h4]; rfl
  · intro y hy
    simp only [List.mem_cons, List.not_mem_nil, or_false, not_or] at hy
    simp only [wsMap, hy, if_false]
  · rw [wsC_lo (Nat.zero_le _)]; exact .nil
theorem wsJ_mk {f i : Nat} {m₀ m : Str → Option Value} {rest : List (Addr × Obj)} {lo c : Addr} {tt tn tb : Tok} {v1 v2 v3 : Int} {vs : List Value} {e : Nat} (h1 : m (Str.ofString "nt") = some (.int v1 tt)) (h2 : m (Str.ofString "n") = some (.int v2 tn)) (h3 : m (Str.ofString "b") = some (.int v3 tb)) (h4 : m (Str.ofString "count") = some (.ref c))
    (h5 : ∀ y, y ≠ Str.ofString "ch" → y ≠ Str.ofString "nt" → y ≠ Str.ofString "n" → y ≠ Str.ofString "b" → y ≠ Str.ofString "count" → m y = m₀ y) (e1 : v1 = wsT f i) (e2 : v2 = (i : Int)) (e3 : v3 = wsB f i) (hI : IntsAre vs (wsC f i)) (hl : @LT.lt Nat _ lo c) :
    wsJ f m₀ rest lo i m ((c, listOf vs.toArray e) :: rest) := by
  subst e1 e2 e3
  refine ⟨m (Str.ofString "ch"), tt, tn, tb, c, vs, e, map_eq [Str.ofString "ch", Str.ofString "nt", Str.ofString "n", Str.ofString "b", Str.ofString "count"] ?_ ?_, rfl, hI, hl⟩
  · intro y hy
    simp only [List.mem_cons, List.not_mem_nil, or_false] at hy
    rcases hy with e | e | e | e | e <;> subst e
    · rfl
    · rw [h1]; rfl
    · rw [h2]; rfl
    · rw [h3]; rfl
    · rw [h4]; rfl
  · intro y hy
    simp only [List.mem_cons, List.not_mem_nil, or_false, not_or] at hy
    refine hideP ?_
    intro G9 kG9
    obtain ⟨a1, a2, a3, a4, a5⟩ := hy
    refine kG9 ?_
    (try clear kG9 G9)
    rw [h5 y a1 a2 a3 a4 a5]
    simp only [wsMap, a1, a2, a3, a4, a5, if_false]
theorem ws_sign {x : Str} {f k i c : Nat} (hx : x.cps.toList = List.replicate f 32 ++ 9 :: List.replicate k 32) (hc : x.cps[i]? = some c) : (i < f ∧ c = 32) ∨ (i = f ∧ c = 9) ∨ (f < i ∧ c = 32 ∧ i ≤ f + k) := by
  rw [← Array.getElem?_toList, hx] at hc
  by_cases h : i < f
  · rw [List.getElem?_append_left (by simpa using h), List.getElem?_replicate, if_pos h] at hc
    exact .inl ⟨h, (Option.some.inj hc).symm⟩
  · rw [List.getElem?_append_right (by simpa using Nat.le_of_not_lt h), List.length_replicate] at hc
    by_cases h2 : i = f
    · subst h2; simp at hc; exact .inr (.inl ⟨rfl, hc.symm⟩)
    · have h3 : i - f = (i - f - 1) + 1 := (Nat.sub_add_cancel (Nat.sub_pos_of_lt (Nat.lt_of_le_of_ne (Nat.le_of_not_lt h) (Ne.symm h2)))).symm
      rw [h3, List.getElem?_cons_succ, List.getElem?_replicate] at hc
      split at hc
      · exact .inr (.inr ⟨by omega, (Option.some.inj hc).symm, by omega⟩)
      · cases hc
theorem ws_tab (f : Nat) (hf : f ≤ 12) : (([] ++ (List.replicate ((f : Int) - 0 + 1).toNat [(0 : Int)]).flatten).set (f : Int).toNat (([] ++ (List.replicate ((f : Int) - 0 + 1).toNat [(0 : Int)]).flatten).getD (f : Int).toNat 0 + 1)) = List.replicate f 0 ++ [1] := by
  have : ∀ f, f ≤ 12 → (([] ++ (List.replicate ((f : Int) - 0 + 1).toNat [(0 : Int)]).flatten).set (f : Int).toNat (([] ++ (List.replicate ((f : Int) - 0 + 1).toNat [(0 : Int)]).flatten).getD (f : Int).toNat 0 + 1)) = List.replicate f 0 ++ [1] := by
    intro f hf
    have : f = 0 ∨ f = 1 ∨ f = 2 ∨ f = 3 ∨ f = 4 ∨ f = 5 ∨ f = 6 ∨ f = 7 ∨ f = 8 ∨ f = 9 ∨ f = 10 ∨ f = 11 ∨ f = 12 := c13 f (Nat.lt_succ_of_le hf)
    rcases this with e | e | e | e | e | e | e | e | e | e | e | e | e <;> subst e <;> decide
  exact this f hf
theorem ws_size {x : Str} {f k : Nat} (hx : x.cps.toList = List.replicate f 32 ++ 9 :: List.replicate k 32) : x.cps.size = f + 1 + k := by
  have := congrArg List.length hx
  simp at this
  omega
theorem ws_ascii {x : Str} {f k : Nat} (hx : x.cps.toList = List.replicate f 32 ++ 9 :: List.replicate k 32) : x.cps.all (· < 128) = true := by
  rw [← Array.all_toList, hx]
  simp
theorem toL (vs : List Value) : vs.toArray.toList = vs := by simp
local macro_rules | `(tactic| walk_at "call type:tuple") => `(tactic| (k_here; (with_reducible show wpAny _ _ (call (Value.type _) [Value.ref _]) _ _ _); k_dflt (refine' kde_tupleOf (by k_asm) (by k_asm) ?k3 ?k4 ?k5 ?_; (case k3 => exact News.isList (by k_asm) (by k_mem)); (case k4 => with_reducible assumption); (case k5 => exact toL _); k_whole); intro D' h' F' N' l1; (try k_lt l1); (try k_sweep)))
theorem ws_ok {w : World} {p : Program} {loose : List Str} {mean : ExcName → Option Value} {mg mb : Str → Option Value} (x : Str) (t : Tok) (f k : Nat) (hx : x.cps.toList = List.replicate f 32 ++ 9 :: List.replicate k 32) (hf : f ≤ 12) (hk12 : k ≤ 12) :
  Amb w p loose mean mg mb 12 120 (fun A base h₀ L m news s Q E =>
    (∀ (o d q c : Addr) (vs : List Value) (k1 k2 k3 k4 k5 tn tt tb : Tok) (bs : Bool) (h' : Heap) (tk' : Nat), Fr h₀ L h' m → News h₀ L h' ((q, tupObj #[.ref c, .int k tb] 0) :: (c, tupObj vs.toArray 0) :: (o, instObj 135 d) :: (d, dictOf [⟨PyData.keyHash w.params (Str.ofString "raw"), .str (Str.ofString "raw") k1, .str x t⟩, ⟨PyData.keyHash w.params (Str.ofString "n"), .str (Str.ofString "n") k2, .int ((f + 1 + k : Nat) : Int) tn⟩, ⟨PyData.keyHash w.params (Str.ofString "nt"), .str (Str.ofString "nt") k3, .int 1 tt⟩, ⟨PyData.keyHash w.params (Str.ofString "norm"), .str (Str.ofString "norm") k4, .ref q⟩, ⟨PyData.keyHash w.params (Str.ofString "is_simple"), .str (Str.ofString "is_simple") k5, .bool bs⟩] 5) :: news) →
      IntsAre vs (List.replicate f 0 ++ [1]) → @LT.lt Nat _ d o → @LT.lt Nat _ o c → @LT.lt Nat _ c q → AllLt d news → Q (.ref o) { s with heap := h', toks := tk' }) →
    wpAny (model PySem.Challenge.rw_tl0052_01.row.prog w) A (call (.ref 135) [.str x t]) Q E s) := by
  unfold Amb
  k_fill
  intro dp un gd cn cs a ccd cl outer A₀ base h₀ L m news s Q E B F X N0 T hk hd hu hret
  k_dflt (refine' call_cls F X N0 ?k4 ?k5 ?k6 ?_; (case k4 => k_is); (case k5 => k_is); (case k6 => k_is); k_whole)
  intro o d h9 F N l1 l2
  clear N0
  have N : News h₀ L h9 ([(o, instObj 135 d), (d, dictOf [] 0)] ++ news) := N
  have hdis : ∀ p ∈ news, p.1 ∉ ([(o, instObj 135 d), (d, dictOf [] 0)] : List (Addr × Obj)).map (·.1) := fun p hp hm => by
    have := l1 p hp
    simp only [List.map_cons, List.map_nil, List.mem_cons, List.not_mem_nil, or_false] at hm
    rcases hm with e | e
    · rw [e] at this; exact Nat.lt_asymm this l2
    · rw [e] at this; exact Nat.lt_irrefl _ this
  replace l2 := ltN l2
  refine' code_defS (s := { s with heap := h9 }) (binds := [(Str.ofString "self", .ref o), (Str.ofString "ws", .str x t)]) (small := [(o, instObj 135 d), (d, dictOf [] 0)]) (rest := news) B F X N hdis T ?kA ?kF ?kK ?k6 ?k7 ?k8 ?k9 ?kB ?_ ?c2 ?c3 ?c4 ?c5
  case kA => exact rfl
  case kF => exact rfl
  case kK => assumption
  case k6 => k_dflt k_is
  case k7 => k_dflt k_is
  case k8 => k_dflt ktr_room
  case k9 => k_dflt (first | exact BindsTo.of_eq rfl | exact binds_K (by k_in) rfl (by k_is) rfl rfl rfl)
  case c5 => k_dflt decide
  case kB => k_dflt (exact locs rfl)
  case c2 => k_dflt (exact rfl)
  case c3 => k_dflt (exact rfl)
  case c4 => k_dflt (exact rfl)
  k_whole
  intro g' L' h' FG' F' N' B' X' T' hlt' hrest'
  (try k_lt hlt')
  (try dsimp only)
  (try k_fold)
  k_steps
  (with_reducible rename Fr g' L' _ _ => lF)
  (with_reducible rename News g' L' _ _ => lN)
  refine' iter_strJ (wsJ f _ _ o) (ws_ascii hx) ?hh lF (News.cut1 lN) (wsJ_start (tt := _) (tn := _) (tb := _) rfl rfl rfl rfl ?lo) ?turn ?done
  case hh => rfl
  case lo => (try dsimp only); omega
  case turn =>
    intro I i c u m₁ news₁ h tk oI hlt hc hJ off F₁ N₁
    obtain ⟨u', tt, tn, tb, c', vs, e, rfl, rfl, hI, hlo⟩ := hJ
    have hb := ws_bounds f i
    have hoff : ∀ p ∈ ((c', listOf vs.toArray e) :: [(o, instObj 135 d), (d, dictOf [⟨PyData.keyHash w.params (Str.ofString "raw"), .str (Str.ofString "raw") _, .str x t⟩] 1)]), p.1 ≠ I := off
    (try k_lt hlt)
    rcases ws_sign hx hc with ⟨h1, rfl⟩ | ⟨h1, rfl⟩ | ⟨h1, rfl, h2⟩
    · k_steps
      (with_reducible rename Fr g' L' _ _ => nF)
      (with_reducible rename News g' L' _ _ => nN)
      exact TurnJ.next nF nN off (wsJ_mk rfl rfl rfl rfl (by intro y a1 a2 a3 a4 a5; simp only [wsMap, a1, a2, a3, a4, a5, if_false]) (by rw [wsT_lo (Nat.le_of_lt h1), wsT_lo (by omega)]) (by omega) (by rw [wsB_lo (Nat.le_of_lt h1), wsB_lo (by omega)]; omega) (by rw [wsC_lo (Nat.le_of_lt h1)] at hI; rw [wsC_lo (by omega)]; exact hI) hlo)
    · rw [wsC_lo (Nat.le_of_eq h1)] at hI
      cases hI
      k_steps
      (with_reducible rename IntsAre _ _ => hi9)
      (with_reducible rename Fr g' L' _ _ => nF)
      (with_reducible rename News g' L' _ _ => nN)
      refine TurnJ.next nF (News.tab7 nN) (by k_all) (wsJ_mk rfl rfl rfl rfl (by intro y a1 a2 a3 a4 a5; simp only [wsMap, a1, a2, a3, a4, a5, if_false]) (by rw [wsT_lo (Nat.le_of_eq h1), wsT_hi (by omega)]; rfl) (by omega) (by rw [wsB_hi (by omega)]; omega) ?_ (by (try dsimp only); omega))
      rw [wsC_hi (by omega), ← ws_tab f hf]
      have e9 : wsB f i = (f : Int) := by rw [wsB_lo (Nat.le_of_eq h1), h1]
      rw [e9] at hi9 ⊢
      exact hi9
    · k_steps
      (with_reducible rename Fr g' L' _ _ => nF)
      (with_reducible rename News g' L' _ _ => nN)
      exact TurnJ.next nF nN off (wsJ_mk rfl rfl rfl rfl (by intro y a1 a2 a3 a4 a5; simp only [wsMap, a1, a2, a3, a4, a5, if_false]) (by rw [wsT_hi h1, wsT_hi (by omega)]) (by omega) (by rw [wsB_hi h1, wsB_hi (by omega)]; omega) (by rw [wsC_hi h1] at hI; rw [wsC_hi (by omega)]; exact hI) hlo)
  case done =>
    intro m₁ news₁ h tk hJ F₁ N₁
    rw [ws_size hx] at hJ
    obtain ⟨u', tt, tn, tb, c', vs, e, rfl, rfl, hI, hlo⟩ := hJ
    have eb : wsB f (f + 1 + k) = (k : Int) := by rw [wsB_hi (by omega)]; omega
    rw [wsC_hi (by omega)] at hI
    rw [eb, wsT_hi (by omega)] at F₁
    have hvs : vs.toArray.size ≤ 16384 := by rw [List.size_toArray, hI.length, List.length_append, List.length_replicate]; simp; omega
    k_steps
    (with_reducible rename News h₀ L _ [_, _, _, _, _] => kN)
    (with_reducible rename News h₀ L _ news => nR)
    exact hret _ _ _ _ _ _ _ _ _ _ _ _ _ _ _ _ (by k_asm) (News.ws5 kN nR) hI (by omega) (by omega) (by omega) (allLt_of l1)
end Mine
end
section
open PySem PySem.W PySem.W.X PySem.W.ZRun PySem.Spec PySem.Calls PyProof.Rows
set_option maxRecDepth 100000
set_option maxHeartbeats 0
set_option linter.unusedVariables false
namespace Mine
open LCg
section
variable {prog : Program} {w : World} {A : Around} {R : Result → Shared → Prop} {s : Shared} {h₀ : Heap} {L : Addr} {m : Str → Option Value} {rest : List (Addr × Obj)} {x : Str} {px : Pos} {body : List Stmt} {I : Addr} {cn : Str} {cs : Scope} {ca : Addr} {ccd : Value}
noncomputable def TurnR (R : Result → Shared → Prop) (h₀ : Heap) (L : Addr) (s : Shared) (I : Addr) (oI : Obj) (J : (Str → Option Value) → List (Addr × Obj) → Prop) (f : Flow) (s₂ : Shared) : Prop :=
  match f with
  | .ret v => R (.ok (.ret v)) s₂
  | .brk => R (.ok .next) s₂
  | _ => ∃ h' tk' m' news', s₂ = { s with heap := h', toks := tk' } ∧ Fr h₀ L h' m' ∧ News h₀ L h' ((I, oI) :: news') ∧ (∀ p ∈ news', p.1 ≠ I) ∧ J m' news'
theorem wloop {fp : List Addr} {n : Nat} {P : Nat → Value → Prop} {St : Nat → Heap → Prop} {S : List (Addr × Obj) → Prop} (J : Nat → (Str → Option Value) → List (Addr × Obj) → Prop)
    (W : Walks prog w A I fp [I] n P St) (hIo : ∀ i h, St i h → ∃ o, h.get? I = some o)
    (hSt : ∀ i h h' o nw, St i h → h.get? I = some o → h'.get? I = some o → (∀ b o, h₀.get? b = some o → h'.get? b = some o) → News h₀ L h' nw → S nw → St i h')
    (hS : ∀ i m nw, J i m nw → S nw) (hst : St 0 s.heap) (F : Fr h₀ L s.heap m) (N : News h₀ L s.heap rest) (hIL : I ≠ L) (hI₀ : h₀.get? I = none) (off : ∀ p ∈ rest, p.1 ≠ I) (hJ : J 0 m rest)
    (hk : cs.kind = .function) (hx1 : (envOf cn cs L ca ccd).kindOf x = some .local)
    (turn : ∀ i v m₁ news₁ h tk oI, i < n → P i v → J i m₁ news₁ → (∀ p ∈ news₁, p.1 ≠ I) → Fr h₀ L h (fun y => if y = x then some v else m₁ y) → News h₀ L h ((I, oI) :: news₁) →
      wpAny (model prog w) A (execs body (envOf cn cs L ca ccd)) (TurnR R h₀ L s I oI (J (i + 1))) (notedBy (model prog w) A (envOf cn cs L ca ccd) fun e s' => R (.error e) s') { s with heap := h, toks := tk })
    (done : ∀ m₁ news₁ h tk, J n m₁ news₁ → Fr h₀ L h m₁ → News h₀ L h news₁ → R (.ok .next) { s with heap := h, toks := tk }) :
    codeAny (model prog w) A (.forLoop (.Name x px) (.ref I) body [] (envOf cn cs L ca ccd)) R s := by
  refine codeAny_forLoop (fun k s' => ∃ i h' tk m' news', k = n + 1 - i ∧ i ≤ n ∧ s' = { s with heap := h', toks := tk } ∧ St i h' ∧ J i m' news' ∧ (∀ p ∈ news', p.1 ≠ I) ∧ Fr h₀ L h' m' ∧ News h₀ L h' news') ?_ (n + 1)
      ⟨0, s.heap, s.toks, m, rest, rfl, Nat.zero_le _, rfl, hst, hJ, off, F, N⟩
  rintro k s' ⟨i, h', tk, m', news', rfl, hi, rfl, hst', hJ', off', F', N'⟩
  by_cases hlt : i < n
  · refine W.item i _ _ _ hlt hst' fun v h₂ tk₂ hPv hst₂ hk₂ => ?_
    have F₂ := fr_but F' hk₂ (Ne.symm hIL) hI₀
    have N₂ := news_but N' hk₂ off'
    obtain ⟨oI, heI⟩ := hIo _ _ hst₂
    refine wpAny_assign_Name (st2 F₂ (fun h3 F3 hs3 => ?_) hk hx1)
    have N3 : News h₀ L h3 ((I, oI) :: news') := News.set (L := L) (fun p hp => by
      rcases List.mem_cons.mp hp with rfl | hp
      · exact ⟨heI, hIL, hI₀⟩
      · exact N₂ p hp) hs3
    refine wpAny_mono (turn i v m' news' _ _ oI hlt hPv hJ' off' F3 N3) (fun f s₂ h₂ => ?_) fun _ _ e => e
    have fin : (∃ h' tk' m' news', s₂ = { s with heap := h', toks := tk' } ∧ Fr h₀ L h' m' ∧ News h₀ L h' ((I, oI) :: news') ∧ (∀ p ∈ news', p.1 ≠ I) ∧ J (i + 1) m' news') →
        ∃ k', k' < n + 1 - i ∧ ∃ i h' tk m' news', k' = n + 1 - i ∧ i ≤ n ∧ s₂ = { s with heap := h', toks := tk } ∧ St i h' ∧ J i m' news' ∧ (∀ p ∈ news', p.1 ≠ I) ∧ Fr h₀ L h' m' ∧ News h₀ L h' news' := by
      rintro ⟨h5, tk5, m5, news5, rfl, F5, N5, off5, hJ5⟩
      have N5' : News h₀ L h5 news5 := fun p hp => N5 p (.tail _ hp)
      exact ⟨n + 1 - (i + 1), dec_lt (by assumption), i + 1, h5, tk5, m5, news5, rfl, hlt, rfl, hSt _ _ _ _ news5 hst₂ heI (N5 _ (.head _)).1 F5.keep N5' (hS _ _ _ hJ5), hJ5, off5, F5, N5'⟩
    cases f with
    | ret v => exact h₂
    | brk => exact h₂
    | next => exact fin h₂
    | cont => exact fin h₂
  · have : i = n := by omega
    subst this
    refine W.done _ _ _ hst' fun h₂ tk₂ hk₂ => ?_
    exact wpAny_execs_nil (done m' news' h₂ tk₂ hJ' (fr_but F' hk₂ (Ne.symm hIL) hI₀) (news_but N' hk₂ off'))
end
end Mine
end
open PySem PySem.W PySem.W.X PySem.W.ZRun PySem.Spec PySem.Calls PyProof.Rows Mine in
local macro_rules | `(tactic| walk_at "exec For Name Call cons nil") => `(tactic| (k_here; refine wpAny_For ?_ (fun _ => rfl)))
section
open PySem PySem.W PySem.W.X PySem.W.ZRun PySem.Spec PySem.Calls PyProof.Rows
set_option maxRecDepth 100000
set_option maxHeartbeats 0
set_option linter.unusedVariables false
namespace Mine
theorem len_le {vs : List Value} {f : Nat} (h : IntsAre vs (List.replicate f 0 ++ [1])) : vs.length = f + 1 := by
  have := h.length; simpa using this
theorem len_counts {prog : Program} {w : World} {A : Around} {E : Value → Shared → Prop} {s : Shared} {h₀ : Heap} {L t : Addr} {news : List (Addr × Obj)} {vs : List Value} {f ep : Nat} {Q : Value → Shared → Prop} (N : News h₀ L s.heap news) (hm : (t, tupObj vs.toArray ep) ∈ news) (hI : IntsAre vs (List.replicate f 0 ++ [1])) (hf : f ≤ 12)
    (h : ∀ tk tk', Q (.int ((f : Int) + 1) tk) { s with toks := tk' }) : wpAny (model prog w) A (call (.builtin "len") [.ref t]) Q E s := by
  have hl := len_le hI
  refine len_tuple (items := vs.toArray) ⟨_, (N _ hm).1, rfl, ep, rfl⟩ (by simp [hl]; omega) ?_
  have e : ((vs.toArray.size : Nat) : Int) = (f : Int) + 1 := by simp [hl]
  rw [e]
  exact h _ _
local macro_rules | `(tactic| walk_at "call builtin:len") => `(tactic| (k_here; k_dflt (refine' len_counts ?a ?b ?c ?d ?_; (case a => k_asm); (case b => k_mem); (case c => assumption); (case d => assumption); k_whole); intro tkl tkl'))
local macro_rules | `(tactic| walk_at "call ref") => `(tactic| refine Halt.mk ?_)
section
variable {prog : Program} {w : World} {A : Around} {E : Value → Shared → Prop} {s : Shared} {h₀ : Heap} {L : Addr} {m : Str → Option Value} {news : List (Addr × Obj)} {Q : Value → Shared → Prop}
theorem iter_gen {ga g : Nat} {nm qn : Value} (N : News h₀ L s.heap news) (hm : (ga, { cls := .type "generator", data := .fields #[.int g 0, nm, qn] }) ∈ news) (h : Q (.ref ga) s) :
    wpAny (model prog w) A (pyIter (.ref ga)) Q E s := wpAny_pyIter_gen ⟨_, nm, qn, (N _ hm).1, rfl, rfl, rfl⟩ h
end
local macro_rules | `(tactic| walk_at "exec For Name Name cons nil") => `(tactic| (k_here; refine wpAny_For ?_ (fun _ => rfl)))
local macro_rules | `(tactic| walk_at "pyIter ref") => `(tactic| (k_here; k_dflt (first | (refine' iter_gen ?a ?b ?_; (case a => k_asm); (case b => k_mem); k_whole) | (refine' iter_list ?F ?N ?m ?_; (case F => k_asm); (case N => k_asm); (case m => k_mem); k_whole; intro I' h' hI' F' N'; (try k_lt hI')))))
noncomputable def hit (c st p : Nat) : Int := if c ≤ p ∧ (p - c) % st = 0 then 1 else 0
noncomputable def rowAfter (f k : Nat → Nat) : Nat → Nat → Int
  | 0, _ => 0
  | i + 1, p => rowAfter f k i p + hit (f i) (k i) p
noncomputable def markAt (c st i : Nat) : Nat := if i = 0 then 0 else c + (i - 1) * st
theorem ints_rep {t : Tok} : ∀ n : Nat, IntsAre (List.replicate n (Value.int 0 t)) (List.replicate n 0)
  | 0 => .nil
  | n + 1 => .cons _ _ (ints_rep n)
inductive OJ (D lx el : Nat) (items : Array Value) (ns : Nat → Nat → Int) (i : Nat) (m : Str → Option Value) (news : List (Addr × Obj)) : Prop
  | mk (u : Str → Option Value) (vs : List Value) (e : Nat) (c1 : m = (fun y => if y = Str.ofString "row" then some (.ref D) else u y)) (c2 : news = [(D, W.listOf vs.toArray e), (lx, W.listOf items el)]) (c3 : IntsAre vs ((List.range 25).map (ns i))) (c4 : @LT.lt Nat _ lx D)
noncomputable def hitTo (c st i p : Nat) : Int := if c ≤ p ∧ (p - c) % st = 0 ∧ p ≤ markAt c st i then 1 else 0
inductive IJ (D : Addr) (rest₀ : List (Addr × Obj)) (n0 : Nat → Int) (c st i : Nat) (m : Str → Option Value) (news : List (Addr × Obj)) : Prop
  | mk (u : Str → Option Value) (vs : List Value) (e : Nat) (tm : Tok) (c1 : m = (fun y => if y = Str.ofString "row" then some (.ref D) else if y = Str.ofString "mark" then some (.int (markAt c st i : Nat) tm) else u y)) (c2 : news = (D, W.listOf vs.toArray e) :: rest₀) (c3 : IntsAre vs ((List.range 25).map fun p => n0 p + hitTo c st i p))
theorem IJ_start {D : Addr} {rest₀ : List (Addr × Obj)} {n0 : Nat → Int} {c st : Nat} {m : Str → Option Value} {vs : List Value} {e : Nat} {tm : Tok} (hc : 0 < c) (h1 : m (Str.ofString "row") = some (.ref D)) (h2 : m (Str.ofString "mark") = some (.int 0 tm)) (hI : IntsAre vs ((List.range 25).map n0)) :
    IJ D rest₀ n0 c st 0 m ((D, W.listOf vs.toArray e) :: rest₀) := by
  refine ⟨m, vs, e, tm, ?_, rfl, ?_⟩
  · funext y
    by_cases e1 : y = Str.ofString "row"
    · rw [if_pos e1, e1, h1]
    by_cases e2 : y = Str.ofString "mark"
    · rw [if_neg e1, if_pos e2, e2, h2]; rfl
    · rw [if_neg e1, if_neg e2]
  · have e : (fun p => n0 p + hitTo c st 0 p) = n0 := by
      funext p
      unfold hitTo markAt
      rw [if_pos rfl, if_neg (by omega), Int.add_zero]
    rw [e]; exact hI
theorem News.pickRow {h₀ h : Heap} {L : Addr} {a b x q c o d i D l : Addr × Obj} (N : News h₀ L h [a, b, x, q, c, o, d, i, D, l]) : News h₀ L h (a :: b :: D :: [x, i, l]) :=
  News.drop N fun p hp => by
    simp only [List.mem_cons, List.not_mem_nil, or_false] at hp ⊢
    rcases hp with e | e | e | e | e | e <;> simp [e]
theorem lt4 {x i D l Lg : Nat} {o1 o2 o3 o4 : Obj} (h1 : D < Lg) (h2 : x < Lg) (h3 : i < Lg) (h4 : l < Lg) : ∀ p ∈ [((D, o1) : Addr × Obj), (x, o2), (i, o3), (l, o4)], p.1 < Lg := fun p hp => by
  simp only [List.mem_cons, List.not_mem_nil, or_false] at hp
  rcases hp with rfl | rfl | rfl | rfl <;> assumption
theorem ne2 {a b I : Nat} {x y : Obj} (h1 : a ≠ I) (h2 : b ≠ I) : ∀ p ∈ [((a, x) : Addr × Obj), (b, y)], p.1 ≠ I := fun p hp => by
  simp only [List.mem_cons, List.not_mem_nil, or_false] at hp
  rcases hp with rfl | rfl
  · exact h1
  · exact h2
theorem OJ_start {D lx el : Nat} {items : Array Value} {f k : Nat → Nat} {m : Str → Option Value} {t : Tok} (h : m (Str.ofString "row") = some (.ref D)) (hlt : @LT.lt Nat _ lx D) :
    OJ D lx el items (rowAfter f k) 0 m [(D, W.listOf (List.replicate (Int.toNat 25) [Value.int 0 t]).flatten.toArray 0), (lx, W.listOf items el)] := by
  refine ⟨m, _, _, ?_, rfl, ?_, hlt⟩
  · funext y
    by_cases e : y = Str.ofString "row"
    · rw [if_pos e, e, h]
    · rw [if_neg e]
  · have e : ∀ n, (List.replicate n [Value.int 0 t]).flatten = List.replicate n (Value.int 0 t) := fun n => by
      induction n with
      | zero => rfl
      | succ n ih => rw [List.replicate_succ, List.flatten_cons, ih]; rfl
    have e2 : (List.range 25).map (rowAfter f k 0) = List.replicate 25 0 := rfl
    rw [e, e2]
    exact ints_rep 25
theorem News.cut2 {h₀ h : Heap} {L : Addr} {a b c : Addr × Obj} {r : List (Addr × Obj)} (N : News h₀ L h (a :: b :: c :: r)) : News h₀ L h (a :: b :: r) :=
  News.drop N fun p hp => by
    rcases List.mem_cons.mp hp with e | e
    · subst e; exact .head _
    · rcases List.mem_cons.mp e with e | e
      · subst e; exact .tail _ (.head _)
      · exact .tail _ (.tail _ (.tail _ e))
theorem gVal_step (c st j : Nat) (ta tb : Tok) : ∃ z tz, gVal (.int ((c : Int) + 1 - 1) ta) (.int (st : Int) tb) j = .int z tz ∧ z = (if j = 0 then (c : Int) else st) ∧ ((markAt c st j : Nat) : Int) + z = ((markAt c st (j + 1) : Nat) : Int) := by
  by_cases h : j = 0
  · subst h
    refine ⟨_, ta, if_pos rfl, ?_, ?_⟩
    · simp
    · simp [markAt]
  · refine ⟨_, tb, if_neg h, by rw [if_neg h], ?_⟩
    unfold markAt
    rw [if_neg h, if_neg (Nat.succ_ne_zero j)]
    obtain ⟨j, rfl⟩ : ∃ i, j = i + 1 := ⟨j - 1, by omega⟩
    rw [Nat.add_sub_cancel, Nat.add_sub_cancel, Nat.succ_mul]
    omega
theorem News.pickD {h₀ h : Heap} {L : Addr} {a b c d : Addr × Obj} {r : List (Addr × Obj)} (N : News h₀ L h (a :: b :: c :: d :: r)) : News h₀ L h (d :: a :: b :: c :: r) :=
  News.drop N fun p hp => by
    simp only [List.mem_cons] at hp ⊢
    rcases hp with e | e | e | e | e <;> simp [e]
theorem News.unpickD {h₀ h : Heap} {L : Addr} {a b c d : Addr × Obj} {r : List (Addr × Obj)} (N : News h₀ L h (d :: a :: b :: c :: r)) : News h₀ L h (a :: b :: c :: d :: r) :=
  News.drop N fun p hp => by
    simp only [List.mem_cons] at hp ⊢
    rcases hp with e | e | e | e | e <;> simp [e]
theorem ne6 {a b c d e f D : Nat} {o1 o2 o3 o4 o5 o6 : Obj} (h1 : a ≠ D) (h2 : b ≠ D) (h3 : c ≠ D) (h4 : d ≠ D) (h5 : e ≠ D) (h6 : f ≠ D) : ∀ p ∈ [((a, o1) : Addr × Obj), (b, o2), (c, o3), (d, o4), (e, o5), (f, o6)], p.1 ≠ D := fun p hp => by
  simp only [List.mem_cons, List.not_mem_nil, or_false] at hp
  rcases hp with rfl | rfl | rfl | rfl | rfl | rfl <;> assumption
theorem hit_next {c st i : Nat} (hc : 0 < c) (hs : 0 < st) (p : Nat) : hitTo c st (i + 1) p = hitTo c st i p + (if p = markAt c st (i + 1) then 1 else 0) := by
  have e1 : markAt c st (i + 1) = c + i * st := by unfold markAt; rw [if_neg (Nat.succ_ne_zero i), Nat.add_sub_cancel]
  by_cases hp : c ≤ p ∧ (p - c) % st = 0
  · obtain ⟨q, hq⟩ := Nat.dvd_of_mod_eq_zero hp.2
    have hpq : p = c + q * st := by rw [Nat.mul_comm]; omega
    have m1 : (p ≤ c + i * st) ↔ q ≤ i := by
      rw [hpq]
      constructor
      · intro h; exact Nat.le_of_mul_le_mul_right (by omega) hs
      · intro h; exact Nat.add_le_add_left (Nat.mul_le_mul_right _ h) _
    have m2 : (p = c + i * st) ↔ q = i := by
      rw [hpq]
      constructor
      · intro h; exact Nat.eq_of_mul_eq_mul_right hs (by omega)
      · intro h; rw [h]
    have m3 : (p ≤ markAt c st i) ↔ q < i := by
      cases i with
      | zero => unfold markAt; rw [if_pos rfl]; omega
      | succ i =>
        have : markAt c st (i + 1) = c + i * st := by unfold markAt; rw [if_neg (Nat.succ_ne_zero i), Nat.add_sub_cancel]
        rw [this, hpq]
        constructor
        · intro h; exact Nat.lt_succ_of_le (Nat.le_of_mul_le_mul_right (by omega) hs)
        · intro h; exact Nat.add_le_add_left (Nat.mul_le_mul_right _ (Nat.le_of_lt_succ h)) _
    unfold hitTo
    rw [e1]
    simp only [hp.1, hp.2, true_and, m1, m2, m3]
    by_cases h : q < i
    · rw [if_pos (by omega), if_pos h, if_neg (by omega)]; rfl
    · by_cases h2 : q = i
      · rw [if_pos (by omega), if_neg h, if_pos h2]; rfl
      · rw [if_neg (by omega), if_neg h, if_neg h2]; rfl
  · have n1 : hitTo c st (i + 1) p = 0 := by unfold hitTo; rw [if_neg (fun h => hp ⟨h.1, h.2.1⟩)]
    have n2 : hitTo c st i p = 0 := by unfold hitTo; rw [if_neg (fun h => hp ⟨h.1, h.2.1⟩)]
    have n3 : p ≠ markAt c st (i + 1) := fun h => hp (by
      rw [h, e1]
      exact ⟨Nat.le_add_right _ _, by rw [Nat.add_sub_cancel_left]; exact Nat.mul_mod_left _ _⟩)
    rw [n1, n2, if_neg n3]; rfl
theorem ints_set {v : Int} {t : Tok} : ∀ {vs : List Value} {ns : List Int} (i : Nat), IntsAre vs ns → IntsAre (vs.set i (.int v t)) (ns.set i v)
  | _, _, _, .nil => .nil
  | _, _, 0, .cons n u h => .cons v t h
  | _, _, i + 1, .cons n u h => .cons n u (ints_set i h)
theorem row_bump {F G : Nat → Int} {q : Nat} (hG : ∀ p, G p = F p + (if p = q then 1 else 0)) : ((List.range 25).map F).set q (((List.range 25).map F).getD q 0 + 1) = (List.range 25).map G := by
  apply List.ext_getElem
  · simp
  · intro i h1 h2
    have hi : i < 25 := by simpa using h2
    rw [List.getElem_set]
    by_cases e : q = i
    · subst e
      rw [if_pos rfl]
      simp [hG, hi]
    · rw [if_neg e]
      simp [hG, Ne.symm e]
theorem IJ_next {D : Addr} {rest₀ : List (Addr × Obj)} {n0 : Nat → Int} {c st j : Nat} {m : Str → Option Value} {vs : List Value} {e : Nat} {z : Int} {t t' : Tok} (hc : 0 < c) (hs : 0 < st) (hz : ((markAt c st j : Nat) : Int) + z = ((markAt c st (j + 1) : Nat) : Int))
    (h1 : m (Str.ofString "row") = some (.ref D)) (h2 : m (Str.ofString "mark") = some (.int ((markAt c st j : Nat) + z) t)) (hI : IntsAre vs ((List.range 25).map fun p => n0 p + hitTo c st j p)) :
    IJ D rest₀ n0 c st (j + 1) m ((D, W.listOf (vs.set (((markAt c st j : Nat) : Int) + z).toNat (.int (((List.range 25).map fun p => n0 p + hitTo c st j p).getD (((markAt c st j : Nat) : Int) + z).toNat 0 + 1) t')).toArray e) :: rest₀) := by
  rw [hz, Int.toNat_natCast]
  refine ⟨m, _, e, t, ?_, rfl, ?_⟩
  · funext y
    by_cases e1 : y = Str.ofString "row"
    · rw [if_pos e1, e1, h1]
    by_cases e2 : y = Str.ofString "mark"
    · rw [if_neg e1, if_pos e2, e2, h2, hz]
    · rw [if_neg e1, if_neg e2]
  · rw [← row_bump (F := fun p => n0 p + hitTo c st j p) (G := fun p => n0 p + hitTo c st (j + 1) p) (q := markAt c st (j + 1)) (fun p => by rw [hit_next hc hs p, Int.add_assoc])]
    exact ints_set _ hI
theorem mark_bound {c st j : Nat} (hc : 0 < c) (hs : 0 < st) (h : ¬ 24 < ((markAt c st (j + 1) : Nat) : Int)) : j + 1 < 30 := by
  have e1 : markAt c st (j + 1) = c + j * st := by unfold markAt; rw [if_neg (Nat.succ_ne_zero j), Nat.add_sub_cancel]
  rw [e1] at h
  have : j ≤ j * st := Nat.le_mul_of_pos_right j hs
  omega
theorem hit_done {c st j p : Nat} (hc : 0 < c) (hs : 0 < st) (h : 24 < ((markAt c st (j + 1) : Nat) : Int)) (hp : p < 25) : hitTo c st j p = hit c st p := by
  have e := hit_next hc hs (i := j) p
  rw [if_neg (by omega), Int.add_zero] at e
  rw [← e]
  unfold hitTo hit
  by_cases hh : c ≤ p ∧ (p - c) % st = 0
  · rw [if_pos ⟨hh.1, hh.2, by omega⟩, if_pos hh]
  · rw [if_neg (fun x => hh ⟨x.1, x.2.1⟩), if_neg hh]
theorem TurnG.nx {R : Result → Shared → Prop} {h₀ h' : Heap} {L Lg ga ax g el i tk' : Nat} {vc vs vz nm qn : Value} {s : Shared} {I D : Addr} {oI oL oD : Obj} {gens' : Array GenState} {J : (Str → Option Value) → List (Addr × Obj) → Prop} {m' : Str → Option Value} {r : List (Addr × Obj)} (hi : i + 1 < 30) (F : Fr h₀ L h' m')
    (N : News h₀ L h' ((D, oD) :: (I, oI) :: (ga, { cls := .type "generator", data := .fields #[.int g 0, nm, qn] }) :: (Lg, oL) :: r)) (hlt : ∀ p ∈ (D, oD) :: r, p.1 < Lg) (hx : (ax, W.listOf #[vc, vs, vz] el) ∈ (D, oD) :: r) (hJ : J m' ((D, oD) :: r)) :
    TurnG R h₀ L Lg ga ax g el vc vs vz nm qn s I oI oL gens' J i .next { s with heap := h', toks := tk', gens := gens' } :=
  ⟨hi, h', tk', m', _, rfl, F, News.unpickD N, hlt, hx, hJ⟩
theorem News.toO {h₀ h : Heap} {L : Addr} {a b c D x I l : Addr × Obj} (N : News h₀ L h [a, b, c, D, x, I, l]) : News h₀ L h (I :: [D, l]) :=
  News.drop N fun p hp => by
    simp only [List.mem_cons, List.not_mem_nil, or_false] at hp ⊢
    rcases hp with e | e | e <;> simp [e]
theorem TurnO.nx {R : Result → Shared → Prop} {h₀ h' : Heap} {L lx el tk' : Nat} {items : Array Value} {s : Shared} {I D : Addr} {oI oD : Obj} {gens' : Array GenState} {J : (Str → Option Value) → List (Addr × Obj) → Prop} {m' : Str → Option Value} (F : Fr h₀ L h' m')
    (N : News h₀ L h' ((I, oI) :: [(D, oD), (lx, W.listOf items el)])) (h1 : D ≠ I) (h2 : lx ≠ I) (hJ : J m' [(D, oD), (lx, W.listOf items el)]) (hb : (∀ y ∈ s.gens, y.bare = true) → ∀ y ∈ gens', y.bare = true) :
    TurnO R h₀ L lx el items s I oI J .next { s with heap := h', toks := tk', gens := gens' } :=
  ⟨h', tk', m', _, gens', rfl, F, N, ne2 h1 h2, .tail _ (.head _), hJ, hb⟩
theorem OJ_next {D lx el e i j : Nat} {items : Array Value} {f k : Nat → Nat} {m : Str → Option Value} {vs : List Value} (h : m (Str.ofString "row") = some (.ref D)) (hlt : @LT.lt Nat _ lx D) (hc : 0 < f i) (hs : 0 < k i) (h24 : 24 < ((markAt (f i) (k i) (j + 1) : Nat) : Int))
    (hI : IntsAre vs ((List.range 25).map fun p => rowAfter f k i p + hitTo (f i) (k i) j p)) : OJ D lx el items (rowAfter f k) (i + 1) m [(D, W.listOf vs.toArray e), (lx, W.listOf items el)] := by
  refine ⟨m, vs, e, ?_, rfl, ?_, hlt⟩
  · funext y
    by_cases e : y = Str.ofString "row"
    · rw [if_pos e, e, h]
    · rw [if_neg e]
  · have e : (List.range 25).map (rowAfter f k (i + 1)) = (List.range 25).map fun p => rowAfter f k i p + hitTo (f i) (k i) j p :=
      List.map_congr_left fun p hp => by
        show rowAfter f k i p + hit (f i) (k i) p = _
        rw [hit_done hc hs h24 (List.mem_range.mp hp)]
    rw [e]; exact hI
theorem marked_ok {w : World} {p : Program} {loose : List Str} {mean : ExcName → Option Value} {mg mb : Str → Option Value} (lx : Addr) (xs : Nat → Str) (v0 v1 v2 : Tok) (e : Nat) (f k : Nat → Nat) (hx : ∀ i, i < 3 → (xs i).cps.toList = List.replicate (f i) 32 ++ 9 :: List.replicate (k i) 32)
  (hf : ∀ i, i < 3 → 0 < f i ∧ f i ≤ 12) (hkk : ∀ i, i < 3 → 0 < k i ∧ k i ≤ 12) :
  Amb w p loose mean mg mb 30 300 (fun A base h₀ L m rest s Q E =>
    News h₀ L s.heap ((lx, listOf #[.str (xs 0) v0, .str (xs 1) v1, .str (xs 2) v2] e) :: rest) → (∀ p ∈ rest, p.1 ≠ lx) →
    (∀ (x : Addr) (ws : List Value) (h' : Heap) (tk' : Nat) (gens' : Array GenState), Fr h₀ L h' m → News h₀ L h' ((x, listOf ws.toArray 0) :: (lx, listOf #[.str (xs 0) v0, .str (xs 1) v1, .str (xs 2) v2] e) :: rest) → IntsAre ws ((List.range 24).map fun p => rowAfter f k 3 (p + 1)) → (AllBare s.gens → AllBare gens') → Q (.ref x) { s with heap := h', toks := tk', gens := gens' }) →
    wpAny (model PySem.Challenge.rw_tl0052_01.row.prog w) A (call (.ref 308) [.ref lx]) Q E s) := by
  unfold Amb
  k_fill
  intro dp un gd cn cs a ccd cl outer A₀ base h₀ L m news s Q E B F X N0 T hk hd hu N hdis hret
  refine wpAny_call ?_
  refine' code_defS (binds := [(Str.ofString "leads", .ref lx)]) (small := [(lx, listOf #[.str (xs 0) v0, .str (xs 1) v1, .str (xs 2) v2] e)]) (rest := news) B F X N (fun p hp hm => hdis p hp (by simpa using hm)) T ?kA ?kF ?kK ?k6 ?k7 ?k8 ?k9 ?kB ?_ ?c2 ?c3 ?c4 ?c5
  case kA => exact rfl
  case kF => exact rfl
  case kK => assumption
  case k6 => k_dflt k_is
  case k7 => k_dflt k_is
  case k8 => k_dflt ktr_room
  case k9 => k_dflt (first | exact BindsTo.of_eq rfl | exact binds_K (by k_in) rfl (by k_is) rfl rfl rfl)
  case c5 => k_dflt decide
  case kB => k_dflt (exact locs rfl)
  case c2 => k_dflt (exact rfl)
  case c3 => k_dflt (exact rfl)
  case c4 => k_dflt (exact rfl)
  k_whole
  intro g' L' h' FG' F' N' B' X' T' hlt' hrest'
  (try k_lt hlt')
  (try dsimp only)
  (try k_fold)
  clear N0 N
  k_steps
  (with_reducible rename Fr g' L' _ _ => F9)
  (with_reducible rename News g' L' _ (_ :: _) => N9)
  refine oloop (lx := lx) (el := e) (items := #[.str (xs 0) v0, .str (xs 1) v1, .str (xs 2) v2]) (OJ _ lx e #[.str (xs 0) v0, .str (xs 1) v1, .str (xs 2) v2] (rowAfter f k)) rfl F9 (News.cut2 N9) (.tail _ (.head _)) (ne2 (by omega) (by omega)) (OJ_start rfl (by omega)) rfl rfl ?o5 ?o6
  case o6 =>
    intro m₁ news₁ h9 tk9 gens9 hJ F1 N1 hb1
    obtain ⟨u, vs, el2, rfl, rfl, hI, hlxD⟩ := hJ
    clear F9 N9
    dsimp only
    k_steps
    (with_reducible rename News h₀ L _ [_, _, _] => kN)
    (with_reducible rename News h₀ L _ news => nR)
    rename IntsAre _ (List.drop _ _) => hIw
    exact hret _ _ _ _ _ (by k_asm) (News.app (a := [_, _]) (News.cut1 kN) nR) hIw hb1
  case o5 =>
    intro i v m₁ news₁ h9 tk9 gens9 oI hv hJ hne9 hmem F1 N1 hb1
    have hi : i < 3 := (Array.getElem?_eq_some_iff.mp hv).1
    obtain ⟨vt, rfl⟩ : ∃ t, v = Value.str (xs i) t := by
      rcases (c3 i hi) with rfl | rfl | rfl
      · exact ⟨v0, (Option.some.inj hv).symm⟩
      · exact ⟨v1, (Option.some.inj hv).symm⟩
      · exact ⟨v2, (Option.some.inj hv).symm⟩
    clear F9 N9 hv
    obtain ⟨u, vs, el2, rfl, rfl, hI, hlxD⟩ := hJ
    have hDI := hne9 _ (.head _)
    dsimp only at hDI
    have hx' := hx i hi
    obtain ⟨hf1, hf2⟩ := hf i hi
    obtain ⟨hk1, hk2⟩ := hkk i hi
    k_steps
    change wpAny _ _ (call (Value.ref 135) _ _) _ _ _
    k_dflt (refine' ws_ok _ _ _ _ ?hx_a ?a_a ?b_a (by k_asm) (by k_asm) (by k_asm) (by k_asm) (by k_asm) (by first | exact rfl | assumption) (by ktr_room) (by ktr_units) ?_; (case hx_a => assumption); (case a_a => assumption); (case b_a => assumption); k_whole)
    intro oza dza qza cza vsza k1za k2za k3za k4za k5za tnza ttza tbza bsza hza tkza Fza Nza hIza l1za l2za l3za l4za
    (try dsimp only)
    (try k_lt l4za)
    (try k_sweep)
    k_steps
    change wpAny _ _ (call (Value.ref 45) _ _) _ _ _
    k_dflt (refine' gen_ok _ _ _ _ _ _ _ ?a_b ?b_b ?c_b ?d_b (by k_asm) (by k_asm) (by k_asm) (by k_asm) (by k_asm) (by first | exact rfl | assumption) (by ktr_room) (by ktr_units) ?mm_b ?_; (case mm_b => k_mem); (case a_b => omega); (case b_b => omega); (case c_b => omega); (case d_b => omega); k_whole)
    intro Lgzb gazb oLzb nmzb qnzb hzb tkzb gszb hltzb hgazb haxzb hgezb Fzb Nzb hNszb hbzb hRzb
    (try dsimp only)
    (try k_lt hltzb)
    k_steps
    (with_reducible rename Fr g' L' _ _ => F8)
    (with_reducible rename News g' L' _ (_ :: _) => N8)
    rename Top _ _ _ _ _ g' => T8
    rename g'.objs.size ≤ _ => hge8
    rename NsO _ _ => hNs8
    rename GReady _ _ _ _ _ _ _ _ => hR8
    refine gloop (IJ _ _ (rowAfter f k i) (f i) (k i)) (fun h m F => T8.nolimit.keeps F.keep) (by ktr_room) F8 (News.pickRow N8) Array.getElem?_push_size hR8 hNs8 hge8 (.tail _ (.head _)) (lt4 (by omega) (by omega) (by omega) (by omega)) (by omega) (IJ_start hf1 rfl rfl hI) rfl rfl ?_
    intro j m₁ news₁ h7 tk7 gens7 I7 oI7 oL7 hj hJ7 hlt7 hgI hx7 F7 N7 hb7
    clear F8 N8 hR8 hNs8
    have hgI2 : @LT.lt Nat _ _ _ := hgI
    clear hgI
    obtain ⟨u7, vs7, e7, tm7, rfl, rfl, hI7⟩ := hJ7
    obtain ⟨z, tz, hz, hz1, hz2⟩ := gVal_step (f i) (k i) j _ _
    rw [hz] at F7
    have hz3 : 0 < z := by rw [hz1]; split <;> omega
    k_steps
    change wpAny _ _ (call (Value.ref 59) _ _) _ _ _
    k_dflt (refine' add_ok _ _ _ _ (by k_asm) (by k_asm) (by k_asm) (by k_asm) (by k_asm) (by first | exact rfl | assumption) (by ktr_room) (by ktr_units) ?_; k_whole)
    intro tzc hzc tkzc Fzc Nzc
    (try dsimp only)
    k_steps
    rotate_left
    · change wpAny _ _ (call (Value.ref 66) _ _) _ _ _
      (with_reducible rename News _ _ _ (_ :: _ :: _ :: _ :: _) => nRzd)
      (have nPzd := News.pickD nRzd)
      k_dflt (refine' getitem_ok _ _ _ _ _ _ ?hI_d ?i0_d ?i1_d ?i2_d (by k_asm) (by k_asm) (by k_asm) ?k4_d (by k_asm) (by first | exact rfl | assumption) (by ktr_room) (by ktr_units) ?nn_d ?nd_d ?_; (case k4_d => exact News.cut0 nPzd); (case nn_d => exact nPzd); (case hI_d => with_reducible assumption); (case i0_d => omega); (case i1_d => (simp only [List.length_map, List.length_range]; omega)); (case i2_d => (simp only [List.length_map, List.length_range]; decide)); (case nd_d => exact ne6 (by omega) (by omega) (by omega) (by omega) (by omega) (by omega)); k_whole)
      intro tzd hzd tkzd Fzd Nzd
      (try dsimp only)
      k_steps
      change wpAny _ _ (call (Value.ref 59) _ _) _ _ _
      k_dflt (refine' add_ok _ _ _ _ (by k_asm) (by k_asm) (by k_asm) (by k_asm) (by k_asm) (by first | exact rfl | assumption) (by ktr_room) (by ktr_units) ?_; k_whole)
      intro tze hze tkze Fze Nze
      (try dsimp only)
      k_steps
      change wpAny _ _ (call (Value.ref 73) _ _) _ _ _
      (with_reducible rename News _ _ _ (_ :: _ :: _ :: _ :: _) => nRzf)
      (have nPzf := nRzf)
      k_dflt (refine' setitem_ok _ _ _ _ _ _ _ _ ?hI_f ?i0_f ?i1_f ?i2_f (by k_asm) (by k_asm) (by k_asm) ?k4_f (by k_asm) (by first | exact rfl | assumption) (by ktr_room) (by ktr_units) ?nn_f ?nd_f ?_; (case k4_f => exact News.cut0 nPzf); (case nn_f => exact nPzf); (case hI_f => with_reducible assumption); (case i0_f => omega); (case i1_f => (simp only [List.length_map, List.length_range]; omega)); (case i2_f => (simp only [List.length_map, List.length_range]; decide)); (case nd_f => exact ne6 (by omega) (by omega) (by omega) (by omega) (by omega) (by omega)); k_whole)
      intro hzf tkzf Fzf Nzf
      (try dsimp only)
      k_steps
      (with_reducible rename News _ _ _ (_ :: _ :: _ :: _ :: _) => nE)
      (with_reducible rename Fr g' L' _ _ => fE)
      refine TurnG.nx (mark_bound hf1 hk1 (by omega)) fE nE (lt4 (by omega) (by omega) (by omega) (by omega)) (.tail _ (.head _)) (IJ_next hf1 hk1 hz2 rfl rfl hI7)
    · refine wpAny_execs_nil ?_
      (with_reducible rename News _ _ _ (_ :: _ :: _ :: _ :: _) => nE)
      (with_reducible rename Fr g' L' _ _ => fE)
      rename GenState.bare _ = true => hbare
      exact TurnO.nx fE (News.toO nE) hDI (by omega) (OJ_next rfl hlxD hf1 hk1 (by omega) hI7) (fun hh => hb7 (AllBare.push (hb1 hh) hbare))
end Mine
end
open PySem PySem.W PySem.W.X PySem.W.ZRun PySem.Spec PySem.Calls PyProof.Rows Mine in
local macro_rules | `(tactic| walk_at "pyIter ref") => `(tactic| (k_here; k_dflt (first | (refine' iter_list ?F ?N ?m ?_; (case F => k_asm); (case N => k_asm); (case m => k_mem); k_whole; intro I' h' hI' F' N'; (try k_lt hI')))))
section
open PySem PySem.W PySem.W.X PySem.W.ZRun PySem.Spec PySem.Calls PyProof.Rows
set_option maxRecDepth 100000
set_option maxHeartbeats 0
set_option linter.unusedVariables false
namespace Mine
local macro_rules | `(tactic| walk_at "exec For Name BinOp cons nil") => `(tactic| (k_here; refine wpAny_For ?_ (fun _ => rfl)))
noncomputable def lstep (st : Int × Int) (b : Bool) : Int × Int := if b = true then (if st.2 + 1 > st.1 then st.2 + 1 else st.1, st.2 + 1) else (if 0 > st.1 then 0 else st.1, 0)
noncomputable def lrun (bs : List Bool) (i : Nat) : Int × Int := (bs.take i).foldl lstep (0, 0)
theorem lrun_succ {bs : List Bool} {i : Nat} {b : Bool} (h : bs[i]? = some b) : lrun bs (i + 1) = lstep (lrun bs i) b := by
  unfold lrun
  obtain ⟨hi, rfl⟩ := List.getElem?_eq_some_iff.mp h
  rw [← List.take_append_getElem hi, List.foldl_append]; rfl
inductive LJ (rest₀ : List (Addr × Obj)) (bs : List Bool) (i : Nat) (m : Str → Option Value) (news : List (Addr × Obj)) : Prop
  | mk (c1 : news = rest₀) (u : Str → Option Value) (t1 t2 : Tok) (c2 : m = (fun y => if y = Str.ofString "best" then some (.int (lrun bs i).1 t1) else if y = Str.ofString "run" then some (.int (lrun bs i).2 t2) else u y))
theorem LJ_mk {rest₀ : List (Addr × Obj)} {bs : List Bool} {i : Nat} {m : Str → Option Value} {a b : Int} {t1 t2 : Tok} (h1 : m (Str.ofString "best") = some (.int a t1)) (h2 : m (Str.ofString "run") = some (.int b t2)) (e : lrun bs i = (a, b)) : LJ rest₀ bs i m rest₀ := by
  refine ⟨rfl, m, t1, t2, ?_⟩
  rw [e]
  funext y
  by_cases e1 : y = Str.ofString "best"
  · rw [if_pos e1, e1, h1]
  by_cases e2 : y = Str.ofString "run"
  · rw [if_neg e1, if_pos e2, e2, h2]
  · rw [if_neg e1, if_neg e2]
theorem longest_ok {w : World} {p : Program} {loose : List Str} {mean : ExcName → Option Value} {mg mb : Str → Option Value} (l : Addr) (bs : List Bool) (e : Nat) (hb : bs.length ≤ 100) :
  Amb w p loose mean mg mb 10 100 (fun A base h₀ L m rest s Q E =>
    News h₀ L s.heap ((l, listOf (bs.map Value.bool).toArray e) :: rest) → (∀ p ∈ rest, p.1 ≠ l) →
    (∀ (t : Tok) (h' : Heap) (tk' : Nat) (gens' : Array GenState), Fr h₀ L h' m → News h₀ L h' ((l, listOf (bs.map Value.bool).toArray e) :: rest) → (AllBare s.gens → AllBare gens') → Q (.int ((bs ++ bs).foldl lstep (0, 0)).1 t) { s with heap := h', toks := tk', gens := gens' }) →
    wpAny (model PySem.Challenge.rw_tl0052_01.row.prog w) A (call (.ref 330) [.ref l]) Q E s) := by
  unfold Amb
  k_fill
  intro dp un gd cn cs a ccd cl outer A₀ base h₀ L m news s Q E B F X N0 T hk hd hu N hdis hret
  refine wpAny_call ?_
  refine' code_defS (binds := [(Str.ofString "same", .ref l)]) (small := [(l, listOf (bs.map Value.bool).toArray e)]) (rest := news) B F X N (fun p hp hm => hdis p hp (by simpa using hm)) T ?kA ?kF ?kK ?k6 ?k7 ?k8 ?k9 ?kB ?_ ?c2 ?c3 ?c4 ?c5
  case kA => exact rfl
  case kF => exact rfl
  case kK => assumption
  case k6 => k_dflt k_is
  case k7 => k_dflt k_is
  case k8 => k_dflt ktr_room
  case k9 => k_dflt (first | exact BindsTo.of_eq rfl | exact binds_K (by k_in) rfl (by k_is) rfl rfl rfl)
  case c5 => k_dflt decide
  case kB => k_dflt (exact locs rfl)
  case c2 => k_dflt (exact rfl)
  case c3 => k_dflt (exact rfl)
  case c4 => k_dflt (exact rfl)
  k_whole
  intro g' L' h' FG' F' N' B' X' T' hlt' hrest'
  (try k_lt hlt')
  (try dsimp only)
  (try k_fold)
  clear N0 N
  k_steps
  (with_reducible rename Fr g' L' _ _ => F9)
  (with_reducible rename News g' L' _ (_ :: _) => N9)
  refine oloop (items := (List.map Value.bool bs ++ List.map Value.bool bs).toArray) (el := 0) (LJ [(_, W.listOf (List.map Value.bool bs ++ List.map Value.bool bs).toArray 0), (l, W.listOf (List.map Value.bool bs).toArray e)] (bs ++ bs)) rfl F9 (News.cut2 N9) (.head _) (ne2 (by dsimp only; omega) (by omega)) (LJ_mk rfl rfl rfl) rfl rfl ?o5 ?o6
  case o6 =>
    intro m₁ news₁ h9 tk9 gens9 hJ F1 N1 hb1
    obtain ⟨rfl, u, t1, t2, rfl⟩ := hJ
    have esz : (List.map Value.bool bs ++ List.map Value.bool bs).toArray.size = (bs ++ bs).length := by simp
    have hr : lrun (bs ++ bs) (List.map Value.bool bs ++ List.map Value.bool bs).toArray.size = (bs ++ bs).foldl lstep (0, 0) := by
      rw [esz]; unfold lrun; rw [List.take_length]
    rw [hr] at F1
    clear F9 N9
    dsimp only
    k_steps
    (with_reducible rename News h₀ L _ [_, _] => kN)
    (with_reducible rename News h₀ L _ news => nR)
    exact hret _ _ _ _ (by k_asm) (News.app (a := [_]) (News.cut0 kN) nR) hb1
  case o5 =>
    intro i v m₁ news₁ h9 tk9 gens9 oI hv hJ hne9 hmem F1 N1 hb1
    obtain ⟨rfl, u, t1, t2, rfl⟩ := hJ
    obtain ⟨b, hb2, rfl⟩ : ∃ b, (bs ++ bs)[i]? = some b ∧ v = Value.bool b := by
      rw [List.getElem?_toArray, ← List.map_append, List.getElem?_map] at hv
      cases hq : (bs ++ bs)[i]? with
      | none => rw [hq] at hv; cases hv
      | some b => rw [hq] at hv; exact ⟨b, rfl, (Option.some.inj hv).symm⟩
    have hs := lrun_succ hb2
    have hq1 := hne9 _ (.head _)
    have hq2 := hne9 _ (.tail _ (.head _))
    clear F9 N9 hv
    k_steps
    · rename b = true => hbt
      subst hbt
      (with_reducible rename News g' L' _ (_ :: _) => nE)
      (with_reducible rename Fr g' L' _ _ => fE)
      exact ⟨_, _, _, _, _, rfl, fE, nE, ne2 hq1 hq2, .head _, LJ_mk rfl rfl (hs.trans rfl), hb1⟩
    · rename b = false => hbt
      subst hbt
      (with_reducible rename News g' L' _ (_ :: _) => nE)
      (with_reducible rename Fr g' L' _ _ => fE)
      exact ⟨_, _, _, _, _, rfl, fE, nE, ne2 hq1 hq2, .head _, LJ_mk rfl rfl (hs.trans rfl), hb1⟩
end Mine
end
section
open PySem PySem.W PySem.W.X PySem.W.ZRun PySem.Spec PySem.Calls PyProof.Rows
set_option maxRecDepth 100000
set_option maxHeartbeats 0
set_option linter.unusedVariables false
namespace Mine
local macro_rules | `(tactic| walk_at "call ref") => `(tactic| refine Halt.mk ?_)
local macro_rules | `(tactic| walk_at "eval ListComp") => `(tactic| (k_here; lcg_look; k_dflt (refine LCg.ListComp_U (F₀ := by k_asm) (by rfl) (by decide) (by rfl) (by decide) (by rfl) ?_); k_dflt lcg_toSrc))
local macro_rules | `(tactic| walk_at "CompSrc") => `(tactic| (k_here; k_dflt (refine LCg.CompSrc.ledger (by rfl) (by k_asm) (by k_asm) (by k_mem) (by first | size_fits | exact Nat.le_of_ble_eq_true rfl) ?_; intro g'; lcg_lit)))
theorem News.x0 {h₀ h : Heap} {L : Addr} {a b c d : Addr × Obj} {r : List (Addr × Obj)} (N : News h₀ L h (a :: b :: c :: d :: r)) : News h₀ L h (a :: c :: b :: r) :=
  News.drop N fun p hp => by
    simp only [List.mem_cons] at hp ⊢
    rcases hp with e | e | e | e <;> simp [e]
inductive PK (Cc : Addr) (base : List (Addr × Obj)) (c : Int → Nat → Int) (i : Nat) (ys : List Value) (nw : List (Addr × Obj)) : Prop
  | mk (oc : Obj) (c1 : nw = (Cc, oc) :: base) (c2 : (∃ ov, oc.data = .cell ov)) (c3 : IntsAre ys ((List.range i).map fun (q : Nat) => c ((q : Int) + 1) 3))
inductive PKo (D Cc : Addr) (base : List (Addr × Obj)) (c : Int → Nat → Int) (i : Nat) (news : List (Addr × Obj)) : Prop
  | mk (ys : List Value) (oc : Obj) (ov : Option Value) (c1 : news = (D, LCg.lst ys) :: (Cc, oc) :: base) (c2 : ys.length ≤ i) (c3 : oc.data = .cell ov) (c4 : IntsAre ys ((List.range i).map fun (q : Nat) => c ((q : Int) + 1) 3))
theorem PK.out {D Cc : Addr} {base news : List (Addr × Obj)} {c : Int → Nat → Int} {i : Nat} (h : JL D (PK Cc base c) i news) : PKo D Cc base c i news := by
  obtain ⟨ys, nw, c1, c2, oc, d1, ⟨ov, d2⟩, d3⟩ := h
  exact ⟨ys, oc, ov, d1 ▸ c1, c2, d2, d3⟩
noncomputable def IK (base : List (Addr × Obj)) (c : Nat → Int) (i : Nat) (ys : List Value) (nw : List (Addr × Obj)) : Prop := nw = base ∧ (ys.length : Int) = c i
noncomputable def phit (n p : Int) : Int := if (p - firstOf n).fmod (stepOf n) = 0 then 1 else 0
noncomputable def pcnt (ns : Nat → Int) (p : Int) : Nat → Int
  | 0 => 0
  | i + 1 => pcnt ns p i + phit (ns i) p
theorem plain_ok {w : World} {p : Program} {loose : List Str} {mean : ExcName → Option Value} {mg mb : Str → Option Value} (lx : Addr) (n0 n1 n2 : Int) (u0 u1 u2 : Tok) (e : Nat) (h0 : 0 ≤ n0 ∧ n0 < 1000000) (h1 : 0 ≤ n1 ∧ n1 < 1000000) (h2 : 0 ≤ n2 ∧ n2 < 1000000) :
  Amb w p loose mean mg mb 12 120 (fun A base h₀ L m rest s Q E =>
    News h₀ L s.heap ((lx, listOf #[.int n0 u0, .int n1 u1, .int n2 u2] e) :: rest) → (∀ p ∈ rest, p.1 ≠ lx) →
    (∀ (x : Addr) (e' : Nat) (ws : List Value) (h' : Heap) (tk' : Nat), Fr h₀ L h' m → News h₀ L h' ((x, listOf ws.toArray e') :: (lx, listOf #[.int n0 u0, .int n1 u1, .int n2 u2] e) :: rest) → IntsAre ws ((List.range 24).map fun (q : Nat) => pcnt (fun i => if i = 0 then n0 else if i = 1 then n1 else n2) ((q : Int) + 1) 3) → Q (.ref x) { s with heap := h', toks := tk' }) →
    wpAny (model PySem.Challenge.rw_tl0052_01.row.prog w) A (call (.ref 313) [.ref lx]) Q E s) := by
  unfold Amb
  k_fill
  intro dp un gd cn cs a ccd cl outer A₀ base h₀ L m news s Q E B F X N0 T hk hd hu N hdis hret
  obtain ⟨h00, h01⟩ := h0
  obtain ⟨h10, h11⟩ := h1
  obtain ⟨h20, h21⟩ := h2
  refine wpAny_call ?_
  refine' code_defCS (binds := [(Str.ofString "numbers", .ref lx)]) (small := [(lx, listOf #[.int n0 u0, .int n1 u1, .int n2 u2] e)]) (rest := news) B F X N (fun p hp hm => hdis p hp (by simpa using hm)) T ?kA ?kF ?kK ?k6 ?k7 ?k8 ?k9 ?kB ?kD ?_ ?c2 ?c3 ?c4
  case kA => exact rfl
  case kF => exact rfl
  case kK => assumption
  case k6 => k_dflt k_is
  case k7 => k_dflt k_is
  case k8 => k_dflt ktr_room
  case k9 => k_dflt (first | exact BindsTo.of_eq rfl | exact binds_K (by k_in) rfl (by k_is) rfl rfl rfl)
  case kB => k_dflt (exact rfl)
  case kD => decide +kernel
  case c2 => k_dflt (exact rfl)
  case c3 => k_dflt (exact rfl)
  case c4 => k_dflt (exact rfl)
  k_whole
  intro g' L' h' tk' cells' FG' F' N' Y' B' X' T' hlt' hrest'
  (try k_lt hlt')
  k_cells Y'
  (try simp only [List.cons_append, List.nil_append] at N')
  (try dsimp only)
  (try k_fold)
  clear N0 N
  k_steps
  change wpAny _ _ (call (Value.ref 294) _ _) _ _ _
  k_dflt (refine' drawn_ok _ _ ?a_u0 ?b_u0 (by k_asm) (by k_asm) (by k_asm) (by k_asm) (by k_asm) (by first | exact rfl | assumption) (by ktr_room) (by ktr_units) ?_; (case a_u0 => first | assumption | omega); (case b_u0 => first | assumption | omega); k_whole)
  intro xzu0 epzu0 t1zu0 t2zu0 hzu0 tkzu0 Fzu0 Nzu0 lzu0 bzu0
  (try dsimp only)
  (try k_lt lzu0)
  k_steps
  change wpAny _ _ (call (Value.ref 294) _ _) _ _ _
  k_dflt (refine' drawn_ok _ _ ?a_u1 ?b_u1 (by k_asm) (by k_asm) (by k_asm) (by k_asm) (by k_asm) (by first | exact rfl | assumption) (by ktr_room) (by ktr_units) ?_; (case a_u1 => first | assumption | omega); (case b_u1 => first | assumption | omega); k_whole)
  intro xzu1 epzu1 t1zu1 t2zu1 hzu1 tkzu1 Fzu1 Nzu1 lzu1 bzu1
  (try dsimp only)
  (try k_lt lzu1)
  k_steps
  change wpAny _ _ (call (Value.ref 294) _ _) _ _ _
  k_dflt (refine' drawn_ok _ _ ?a_u2 ?b_u2 (by k_asm) (by k_asm) (by k_asm) (by k_asm) (by k_asm) (by first | exact rfl | assumption) (by ktr_room) (by ktr_units) ?_; (case a_u2 => first | assumption | omega); (case b_u2 => first | assumption | omega); k_whole)
  intro xzu2 epzu2 t1zu2 t2zu2 hzu2 tkzu2 Fzu2 Nzu2 lzu2 bzu2
  (try dsimp only)
  (try k_lt lzu2)
  k_steps
  refine lc_start (cl := [(Str.ofString "rulers", L' + 1)]) (by with_unfolding_all rfl) rfl (by decide) rfl ?_
  k_steps
  refine iter_range (by k_asm) (by k_asm) (by assumption) (by decide) (n := 24) (by rfl) ?_
  intro I0 h0 ltI F1 N1
  (try k_lt ltI)
  refine comp_in_cell (x := Str.ofString "place") accList rfl F1 N1 (.head _) (fun _ => rfl) (fun _ => rfl) rfl rfl rfl (fun _ _ => rfl) (fun _ _ => rfl) (range_self rfl) ?_
  intro D0 C0 Cc0 oC0 h1 tk1 F2 N2 hC0 ltD ltC ltCc
  (try k_lt ltD)
  have N3 := News.x0 N2
  refine cgen (n := 24) rfl rfl (ct_list _ _ _ _ _ _ _ _ _) (LCg.range_walks rfl 1 24) (fun i h st => ⟨_, st⟩) LCg.range_st (S := fun _ => True) (JL D0 (PK Cc0 _ (pcnt (fun i => if i = 0 then n0 else if i = 1 then n1 else n2)))) (fun _ _ _ => trivial) (range_st0 (N2 _ (.tail _ (.tail _ (.tail _ (.head _))))).1) F2 N3 hC0 (N2 _ (.tail _ (.tail _ (.tail _ (.head _))))).2.1 (N2 _ (.tail _ (.tail _ (.tail _ (.head _))))).2.2 ?off (by exact Nat.ne_of_gt (Nat.lt_trans ltD.1 ltC)) ⟨[], _, rfl, Nat.le_refl _, _, rfl, ⟨_, rfl⟩, .nil⟩ ?turn ?done
  case off =>
    repeat (refine off_cons ⟨by omega, by omega⟩ ?_)
    exact off_nil
  case done =>
    intro h12 tk12 oC12 m12 news12 hJ F12 N12 hC12 offC12
    obtain ⟨ys, oc, ov, rfl, hlen, hov, hI⟩ := PK.out hJ
    refine cpost F12 N12 hC12 offC12 ?_
    intro h13 F13 N13
    clear F12 N12 F2 N2 N3 hC0 F1 N1
    dsimp only
    k_steps
    (with_reducible rename News h₀ L _ ((_, LCg.lst _) :: _) => kN)
    (with_reducible rename News h₀ L _ news => nR)
    exact hret _ _ _ _ _ (by k_asm) (News.app (a := [_, _]) (News.pick2 kN (.head _) (by k_mem)) nR) hI
  case turn =>
    intro i v oI oC m₂ news₁ h5 tk5 hi hP hst hJ F5 N5 hC5 off5
    obtain ⟨tp, rfl⟩ := hP
    obtain ⟨ys, oc, ov, rfl, hlen, hov, hI⟩ := PK.out hJ
    refine wpAny_of_eq rfl ?_
    refine comp_assign_cell F5 (News.sw23 N5) hov ?offc rfl rfl ?_
    case offc =>
      repeat (refine neD_cons (by (show (@Ne Nat _ _)); omega) ?_)
      exact neD_nil
    intro h6 oc6 F6 N6 hd6
    replace N6 := News.sw23 N6
    refine wpAny_tests_nil ?_
    simp only [if_true]
    refine body_list ?_
    clear F5 N5 hov F1 N1 F2 N2 N3 hC0
    iterate 4 walk1
    refine lc_start (cl := [(Str.ofString "place", Cc0)]) (by with_unfolding_all rfl) rfl (by decide) rfl ?_
    k_steps
    (with_reducible rename Fr g' L' _ _ => F7)
    (with_reducible rename News g' L' _ (_ :: _) => N7)
    refine comp_in accList rfl F7 N7 (.head _) (by decide) rfl rfl rfl (fun _ _ => rfl) (fun _ _ => rfl) list_self ?_
    intro D1 C1 oC1 h8 tk8 F8 N8 hC8 ltD1 ltC1
    (try k_lt ltD1)
    have zI := N8 _ (.tail _ (.tail _ (.head _)))
    have N9 := News.rm2 N8
    refine' cgen rfl rfl (ct_list _ _ _ _ _ _ _ _ _) (Walks.list rfl _ _ ?neI _) (fun i h st => by obtain ⟨o, e, _⟩ := st.1; exact ⟨o, e⟩) LCg.list_st (JL D1 (IK _ (pcnt (fun i => if i = 0 then n0 else if i = 1 then n1 else n2) (1 + (i : Int))))) ?hS ⟨⟨_, zI.1, rfl, rfl⟩, News.isList N8 ?mem⟩ F8 N9 hC8 zI.2.1 zI.2.2 ?off2 (Nat.ne_of_gt (Nat.lt_trans ltD1.1 ltC1)) ⟨[], _, rfl, Nat.le_refl _, rfl, rfl⟩ ?turn2 ?done2
    case mem => k_mem
    case neI => (show (@Ne Nat _ _); omega)
    case off2 =>
      repeat (refine off_cons ⟨by omega, by omega⟩ ?_)
      exact off_nil
    case hS =>
      rintro i nw ⟨ys, nw, rfl, hl, rfl, hc⟩
      exact srcAt_of (by k_mem)
    case done2 =>
      intro h12 tk12 oC12 m12 news12 hJ2 F12 N12 hC12 offC12
      obtain ⟨ys2, rfl, hlen2, hcnt⟩ := hJ2.out fun _ _ h => h
      refine cpost F12 N12 hC12 offC12 ?_
      intro h13 F13 N13
      clear F12 N12 F8 N8 N9 F7 N7 F6 N6 zI
      dsimp only
      k_steps
      refine PyProof.Rows.len_list (items := ys2.toArray) (News.isList N13 (.head _)) (by have hj3 : ys2.length ≤ 3 := hlen2; simp only [List.size_toArray]; omega) ?_
      refine tl_end F13 (fun p hp => N13 p (.tail _ hp)) hC5 ?off6 ?offD6 hlen (by rw [PySem.sizeLine_eq]; omega) ⟨oc6, rfl, ⟨_, hd6⟩, ?_⟩
      case off6 =>
        repeat (refine off_cons (by constructor <;> (show (@Ne Nat _ _)) <;> omega) ?_)
        exact off_nil
      case offD6 =>
        repeat (refine neD_cons (by (show (@Ne Nat _ _)); omega) ?_)
        exact neD_nil
      refine ints_snoc hI ?_
      have e0 : (1 + (i : Int)) = (i : Int) + 1 := Int.add_comm _ _
      rw [← e0, List.size_toArray, hcnt]; rfl
    case turn2 =>
      intro j v2 oI2 oC2 m3 news2 h10 tk10 hj hP2 hst2 hJ2 F10 N10 hC10 off10
      obtain ⟨ys2, rfl, hlen2, hcnt⟩ := hJ2.out fun _ _ h => h
      obtain ⟨xt, t1, t2, ep, rfl, hmem, hb2⟩ : ∃ xt t1 t2 ep, v2 = Value.ref xt ∧ h10.get? xt = some (tupObj #[.int (firstOf ((fun i => if i = 0 then n0 else if i = 1 then n1 else n2) j)) t1, .int (stepOf ((fun i => if i = 0 then n0 else if i = 1 then n1 else n2) j)) t2] ep) ∧ 2 ≤ stepOf ((fun i => if i = 0 then n0 else if i = 1 then n1 else n2) j) := by
        rcases (c3 j (by simpa using hj)) with rfl | rfl | rfl
        · exact ⟨_, _, _, _, (Option.some.inj hP2).symm, (N10.get (by k_mem)), (by show 2 ≤ stepOf n0; omega)⟩
        · exact ⟨_, _, _, _, (Option.some.inj hP2).symm, (N10.get (by k_mem)), (by show 2 ≤ stepOf n1; omega)⟩
        · exact ⟨_, _, _, _, (Option.some.inj hP2).symm, (N10.get (by k_mem)), (by show 2 ≤ stepOf n2; omega)⟩
      refine wpAny_letOwnedTupleGo_listiter hst2.1 ?_
      refine comp_assign_pair rfl F10 N10 hmem hC10 off10 (Nat.ne_of_gt (Nat.lt_trans ltD1.1 ltC1)) rfl rfl rfl (by decide) ?_
      intro h11 tk11 oC11 m11 F11 N11 hC11 e1 e2
      refine wpAny_tests_one ?_
      clear F10 N10 hP2 hst2 N9
      k_steps
      · refine body_list ?_
        k_steps
        refine tl_end F11 N11 hC11 off10 ?offD hlen2 (by have hj3 : j < 3 := hj; rw [PySem.sizeLine_eq]; omega) ⟨rfl, ?_⟩
        case offD =>
          repeat (refine neD_cons (by (show (@Ne Nat _ _)); omega) ?_)
          exact neD_nil
        · rename_i a
          show ((ys2 ++ [_]).length : Int) = pcnt _ _ j + phit _ _
          unfold phit
          rw [if_pos a, List.length_append, ← hcnt]; rfl
      · refine tl_no F11 N11 hC11 off10 hlen2 ⟨rfl, ?_⟩
        rename_i a
        show (ys2.length : Int) = pcnt _ _ j + phit _ _
        unfold phit
        rw [if_neg a, ← hcnt, Int.add_zero]
end Mine
end
section
open PySem PySem.W PySem.W.X PySem.W.ZRun PySem.Spec PySem.Calls PyProof.Rows
set_option maxRecDepth 100000
set_option maxHeartbeats 0
set_option linter.unusedVariables false
namespace Mine
theorem len_counts0 {prog : Program} {w : World} {A : Around} {E : Value → Shared → Prop} {s : Shared} {h₀ : Heap} {L t : Addr} {news : List (Addr × Obj)} {vs : List Value} {f ep : Nat} {Q : Value → Shared → Prop} (N : News h₀ L s.heap news) (hm : (t, tupObj vs.toArray ep) ∈ news) (hI : IntsAre vs (List.replicate f 0 ++ [1])) (hf : f ≤ 12)
    (h : ∀ tk tk', Q (.int ((f : Int) + 1) tk) { s with toks := tk' }) : wpAny (model prog w) A (call (.builtin "len") [.ref t]) Q E s := by
  have hl : vs.length = f + 1 := by have := hI.length; simpa using this
  refine PyProof.Rows.len_tuple (items := vs.toArray) ⟨_, (N _ hm).1, rfl, ep, rfl⟩ (by simp [hl]; omega) ?_
  have e : ((vs.toArray.size : Nat) : Int) = (f : Int) + 1 := by simp [hl]
  rw [e]
  exact h _ _
local macro_rules | `(tactic| walk_at "call builtin:len") => `(tactic| (k_here; k_dflt (refine' len_counts0 ?a ?b ?c ?d ?_; (case a => k_asm); (case b => k_mem); (case c => assumption); (case d => assumption); k_whole); intro tkl tkl'))
theorem run_ok {w : World} {p : Program} {loose : List Str} {mean : ExcName → Option Value} {mg mb : Str → Option Value} (x : Str) (f : Nat) (o0 d0 q0 c0 : Addr) (vs0 : List Value) (tx0 ka0 kb0 kc0 kd0 ke0 tn0 tt0 tb0 : Tok) (bs0 : Bool) (hI : IntsAre vs0 (List.replicate f 0 ++ [1])) (hf : f ≤ 12) :
  Amb w p loose mean mg mb 5 50 (fun A base h₀ L m rest s Q E =>
    News h₀ L s.heap ([(q0, tupObj #[.ref c0, .int ((0 : Nat) : Int) tb0] 0), (c0, tupObj vs0.toArray 0), (o0, instObj 135 d0), (d0, dictOf [⟨PyData.keyHash w.params (Str.ofString "raw"), .str (Str.ofString "raw") ka0, .str x tx0⟩, ⟨PyData.keyHash w.params (Str.ofString "n"), .str (Str.ofString "n") kb0, .int ((f + 1 + 0 : Nat) : Int) tn0⟩, ⟨PyData.keyHash w.params (Str.ofString "nt"), .str (Str.ofString "nt") kc0, .int 1 tt0⟩, ⟨PyData.keyHash w.params (Str.ofString "norm"), .str (Str.ofString "norm") kd0, .ref q0⟩, ⟨PyData.keyHash w.params (Str.ofString "is_simple"), .str (Str.ofString "is_simple") ke0, .bool bs0⟩] 5)] ++ rest) → (∀ p ∈ rest, p.1 ∉ ([(q0, tupObj #[.ref c0, .int ((0 : Nat) : Int) tb0] 0), (c0, tupObj vs0.toArray 0), (o0, instObj 135 d0), (d0, dictOf [⟨PyData.keyHash w.params (Str.ofString "raw"), .str (Str.ofString "raw") ka0, .str x tx0⟩, ⟨PyData.keyHash w.params (Str.ofString "n"), .str (Str.ofString "n") kb0, .int ((f + 1 + 0 : Nat) : Int) tn0⟩, ⟨PyData.keyHash w.params (Str.ofString "nt"), .str (Str.ofString "nt") kc0, .int 1 tt0⟩, ⟨PyData.keyHash w.params (Str.ofString "norm"), .str (Str.ofString "norm") kd0, .ref q0⟩, ⟨PyData.keyHash w.params (Str.ofString "is_simple"), .str (Str.ofString "is_simple") ke0, .bool bs0⟩] 5)] : List (Addr × Obj)).map (·.1)) →
    (∀ (t : Tok) (h' : Heap) (tk' : Nat), Fr h₀ L h' m → News h₀ L h' ([(q0, tupObj #[.ref c0, .int ((0 : Nat) : Int) tb0] 0), (c0, tupObj vs0.toArray 0), (o0, instObj 135 d0), (d0, dictOf [⟨PyData.keyHash w.params (Str.ofString "raw"), .str (Str.ofString "raw") ka0, .str x tx0⟩, ⟨PyData.keyHash w.params (Str.ofString "n"), .str (Str.ofString "n") kb0, .int ((f + 1 + 0 : Nat) : Int) tn0⟩, ⟨PyData.keyHash w.params (Str.ofString "nt"), .str (Str.ofString "nt") kc0, .int 1 tt0⟩, ⟨PyData.keyHash w.params (Str.ofString "norm"), .str (Str.ofString "norm") kd0, .ref q0⟩, ⟨PyData.keyHash w.params (Str.ofString "is_simple"), .str (Str.ofString "is_simple") ke0, .bool bs0⟩] 5)] ++ rest) → Q (.int f t) { s with heap := h', toks := tk' }) →
    wpAny (model PySem.Challenge.rw_tl0052_01.row.prog w) A (call (.ref 97) [.ref o0]) Q E s) := by
  unfold Amb
  k_fill
  intro dp un gd cn cs a ccd cl outer A₀ base h₀ L m news s Q E B F X N0 T hk hd hu N hdis hret
  refine wpAny_call ?_
  refine' code_defS (binds := [(Str.ofString "self", .ref o0)]) (small := [(q0, tupObj #[.ref c0, .int ((0 : Nat) : Int) tb0] 0), (c0, tupObj vs0.toArray 0), (o0, instObj 135 d0), (d0, dictOf [⟨PyData.keyHash w.params (Str.ofString "raw"), .str (Str.ofString "raw") ka0, .str x tx0⟩, ⟨PyData.keyHash w.params (Str.ofString "n"), .str (Str.ofString "n") kb0, .int ((f + 1 + 0 : Nat) : Int) tn0⟩, ⟨PyData.keyHash w.params (Str.ofString "nt"), .str (Str.ofString "nt") kc0, .int 1 tt0⟩, ⟨PyData.keyHash w.params (Str.ofString "norm"), .str (Str.ofString "norm") kd0, .ref q0⟩, ⟨PyData.keyHash w.params (Str.ofString "is_simple"), .str (Str.ofString "is_simple") ke0, .bool bs0⟩] 5)]) (rest := news) B F X N hdis T ?kA ?kF ?kK ?k6 ?k7 ?k8 ?k9 ?kB ?_ ?c2 ?c3 ?c4 ?c5
  case kA => exact rfl
  case kF => exact rfl
  case kK => assumption
  case k6 => k_dflt k_is
  case k7 => k_dflt k_is
  case k8 => k_dflt ktr_room
  case k9 => k_dflt (first | exact BindsTo.of_eq rfl | exact binds_K (by k_in) rfl (by k_is) rfl rfl rfl)
  case c5 => k_dflt decide
  case kB => k_dflt (exact locs rfl)
  case c2 => k_dflt (exact rfl)
  case c3 => k_dflt (exact rfl)
  case c4 => k_dflt (exact rfl)
  k_whole
  intro g' L' h' FG' F' N' B' X' T' hlt' hrest'
  (try k_lt hlt')
  (try dsimp only)
  (try k_fold)
  clear N0 N
  k_steps
  (with_reducible rename News h₀ L _ (_ :: _) => kN)
  (with_reducible rename News h₀ L _ news => nR)
  have e : (if ((0 : Nat) : Int) > (f : Int) + 1 - 1 then ((0 : Nat) : Int) else (f : Int) + 1 - 1) = (f : Int) := by split <;> omega
  rw [e]
  exact hret _ _ _ (by k_asm) (News.app kN nR)
noncomputable def ilAt (f ts i : Nat) : Int := if ts + i = f + 1 ∧ 0 < i then (f : Int) / ts else 0
theorem il_end {f ts : Nat} (h1 : 1 ≤ ts) : ((0 : Nat) : Int) + (ts : Int) * (ilAt f ts ((f : Int) + 1 - ts).toNat + 1) = (ts : Int) * ((f : Int) / ts + 1) := by
  have e : ilAt f ts ((f : Int) + 1 - ts).toNat = (f : Int) / ts := by
    unfold ilAt
    by_cases h : ts ≤ f
    · rw [if_pos (by omega)]
    · rw [if_neg (by omega)]
      have : f / ts = 0 := Nat.div_eq_of_lt (by omega)
      have h2 : ((f : Int) / (ts : Int)) = ((f / ts : Nat) : Int) := rfl
      rw [h2, this]; rfl
  rw [e]; simp
theorem il_next {f ts i : Nat} (hi : ts + i < f + 1) (h1 : 1 ≤ ts) : ilAt f ts i + ((ts : Int) + (i : Int)).fdiv ts * (List.replicate f (0 : Int) ++ [1]).getD ((ts : Int) + (i : Int)).toNat 0 = ilAt f ts (i + 1) := by
  have e0 : ilAt f ts i = 0 := by unfold ilAt; rw [if_neg (by omega)]
  have e1 : ((ts : Int) + (i : Int)).toNat = ts + i := by omega
  rw [e0, e1]
  by_cases h : ts + i = f
  · have e2 : (List.replicate f (0 : Int) ++ [1]).getD (ts + i) 0 = 1 := by rw [h]; simp
    have e3 : ilAt f ts (i + 1) = (f : Int) / ts := by unfold ilAt; rw [if_pos (by omega)]
    have e4 : ((ts : Int) + (i : Int)).fdiv ts = (f : Int) / ts := by
      rw [Int.fdiv_eq_ediv_of_nonneg _ (by omega)]
      congr 1; omega
    rw [e2, e3, e4]; simp
  · have e2 : (List.replicate f (0 : Int) ++ [1]).getD (ts + i) 0 = 0 := by
      rw [List.getD_eq_getElem?_getD, List.getElem?_append_left (by simp only [List.length_replicate]; omega), List.getElem?_replicate]
      split <;> rfl
    have e3 : ilAt f ts (i + 1) = 0 := by unfold ilAt; rw [if_neg (by omega)]
    rw [e2, e3]; simp
theorem il_cnt {f ts i : Nat} : (List.replicate f (0 : Int) ++ [1]).getD ((ts : Int) + (i : Int)).toNat 0 = 1 ∨ (List.replicate f (0 : Int) ++ [1]).getD ((ts : Int) + (i : Int)).toNat 0 = 0 := by
  generalize ((ts : Int) + (i : Int)).toNat = k
  by_cases h : k < f
  · right
    rw [List.getD_eq_getElem?_getD, List.getElem?_append_left (by simpa using h), List.getElem?_replicate, if_pos h]; rfl
  · by_cases h2 : k = f
    · left; rw [h2]; simp
    · right
      rw [List.getD_eq_getElem?_getD, List.getElem?_eq_none (by simp; omega)]; rfl
inductive WIJ (f ts : Nat) (c0 o0 : Addr) (u tb0 : Tok) (base : List (Addr × Obj)) (i : Nat) (m : Str → Option Value) (news : List (Addr × Obj)) : Prop
  | mk (c1 : news = base) (uu : Str → Option Value) (t : Tok) (c2 : m = (fun y => if y = Str.ofString "il" then some (.int (ilAt f ts i) t) else if y = Str.ofString "tabsize" then some (.int (ts : Int) u) else if y = Str.ofString "count" then some (.ref c0) else if y = Str.ofString "trailing" then some (.int ((0 : Nat) : Int) tb0) else if y = Str.ofString "self" then some (.ref o0) else uu y))
theorem pins5 {m : Str → Option Value} {k0 k1 k2 k3 k4 : Str} {v0 v1 v2 v3 v4 : Option Value} (h0 : m k0 = v0) (h1 : m k1 = v1) (h2 : m k2 = v2) (h3 : m k3 = v3) (h4 : m k4 = v4) : m = fun y => if y = k0 then v0 else if y = k1 then v1 else if y = k2 then v2 else if y = k3 then v3 else if y = k4 then v4 else m y := by
  funext y
  by_cases e0 : y = k0
  · rw [if_pos e0, e0, h0]
  by_cases e1 : y = k1
  · rw [if_neg e0, if_pos e1, e1, h1]
  by_cases e2 : y = k2
  · rw [if_neg e0, if_neg e1, if_pos e2, e2, h2]
  by_cases e3 : y = k3
  · rw [if_neg e0, if_neg e1, if_neg e2, if_pos e3, e3, h3]
  by_cases e4 : y = k4
  · rw [if_neg e0, if_neg e1, if_neg e2, if_neg e3, if_pos e4, e4, h4]
  rw [if_neg e0, if_neg e1, if_neg e2, if_neg e3, if_neg e4]
theorem indent_ok {w : World} {p : Program} {loose : List Str} {mean : ExcName → Option Value} {mg mb : Str → Option Value} (x : Str) (f : Nat) (ts : Nat) (u : Tok) (o0 d0 q0 c0 : Addr) (vs0 : List Value) (tx0 ka0 kb0 kc0 kd0 ke0 tn0 tt0 tb0 : Tok) (bs0 : Bool) (hI : IntsAre vs0 (List.replicate f 0 ++ [1])) (hf : f ≤ 12) (h1 : 1 ≤ ts) (h2 : ts ≤ 14) :
  Amb w p loose mean mg mb 5 50 (fun A base h₀ L m rest s Q E =>
    News h₀ L s.heap ([(q0, tupObj #[.ref c0, .int ((0 : Nat) : Int) tb0] 0), (c0, tupObj vs0.toArray 0), (o0, instObj 135 d0), (d0, dictOf [⟨PyData.keyHash w.params (Str.ofString "raw"), .str (Str.ofString "raw") ka0, .str x tx0⟩, ⟨PyData.keyHash w.params (Str.ofString "n"), .str (Str.ofString "n") kb0, .int ((f + 1 + 0 : Nat) : Int) tn0⟩, ⟨PyData.keyHash w.params (Str.ofString "nt"), .str (Str.ofString "nt") kc0, .int 1 tt0⟩, ⟨PyData.keyHash w.params (Str.ofString "norm"), .str (Str.ofString "norm") kd0, .ref q0⟩, ⟨PyData.keyHash w.params (Str.ofString "is_simple"), .str (Str.ofString "is_simple") ke0, .bool bs0⟩] 5)] ++ rest) → (∀ p ∈ rest, p.1 ∉ ([(q0, tupObj #[.ref c0, .int ((0 : Nat) : Int) tb0] 0), (c0, tupObj vs0.toArray 0), (o0, instObj 135 d0), (d0, dictOf [⟨PyData.keyHash w.params (Str.ofString "raw"), .str (Str.ofString "raw") ka0, .str x tx0⟩, ⟨PyData.keyHash w.params (Str.ofString "n"), .str (Str.ofString "n") kb0, .int ((f + 1 + 0 : Nat) : Int) tn0⟩, ⟨PyData.keyHash w.params (Str.ofString "nt"), .str (Str.ofString "nt") kc0, .int 1 tt0⟩, ⟨PyData.keyHash w.params (Str.ofString "norm"), .str (Str.ofString "norm") kd0, .ref q0⟩, ⟨PyData.keyHash w.params (Str.ofString "is_simple"), .str (Str.ofString "is_simple") ke0, .bool bs0⟩] 5)] : List (Addr × Obj)).map (·.1)) →
    (∀ (t : Tok) (h' : Heap) (tk' : Nat), Fr h₀ L h' m → News h₀ L h' ([(q0, tupObj #[.ref c0, .int ((0 : Nat) : Int) tb0] 0), (c0, tupObj vs0.toArray 0), (o0, instObj 135 d0), (d0, dictOf [⟨PyData.keyHash w.params (Str.ofString "raw"), .str (Str.ofString "raw") ka0, .str x tx0⟩, ⟨PyData.keyHash w.params (Str.ofString "n"), .str (Str.ofString "n") kb0, .int ((f + 1 + 0 : Nat) : Int) tn0⟩, ⟨PyData.keyHash w.params (Str.ofString "nt"), .str (Str.ofString "nt") kc0, .int 1 tt0⟩, ⟨PyData.keyHash w.params (Str.ofString "norm"), .str (Str.ofString "norm") kd0, .ref q0⟩, ⟨PyData.keyHash w.params (Str.ofString "is_simple"), .str (Str.ofString "is_simple") ke0, .bool bs0⟩] 5)] ++ rest) → Q (.int (ts * ((f : Int) / ts + 1)) t) { s with heap := h', toks := tk' }) →
    wpAny (model PySem.Challenge.rw_tl0052_01.row.prog w) A (call (.ref 104) [.ref o0, .int (ts : Int) u]) Q E s) := by
  unfold Amb
  k_fill
  intro dp un gd cn cs a ccd cl outer A₀ base h₀ L m news s Q E B F X N0 T hk hd hu N hdis hret
  refine wpAny_call ?_
  refine' code_defS (binds := [(Str.ofString "self", .ref o0), (Str.ofString "tabsize", .int (ts : Int) u)]) (small := [(q0, tupObj #[.ref c0, .int ((0 : Nat) : Int) tb0] 0), (c0, tupObj vs0.toArray 0), (o0, instObj 135 d0), (d0, dictOf [⟨PyData.keyHash w.params (Str.ofString "raw"), .str (Str.ofString "raw") ka0, .str x tx0⟩, ⟨PyData.keyHash w.params (Str.ofString "n"), .str (Str.ofString "n") kb0, .int ((f + 1 + 0 : Nat) : Int) tn0⟩, ⟨PyData.keyHash w.params (Str.ofString "nt"), .str (Str.ofString "nt") kc0, .int 1 tt0⟩, ⟨PyData.keyHash w.params (Str.ofString "norm"), .str (Str.ofString "norm") kd0, .ref q0⟩, ⟨PyData.keyHash w.params (Str.ofString "is_simple"), .str (Str.ofString "is_simple") ke0, .bool bs0⟩] 5)]) (rest := news) B F X N hdis T ?kA ?kF ?kK ?k6 ?k7 ?k8 ?k9 ?kB ?_ ?c2 ?c3 ?c4 ?c5
  case kA => exact rfl
  case kF => exact rfl
  case kK => assumption
  case k6 => k_dflt k_is
  case k7 => k_dflt k_is
  case k8 => k_dflt ktr_room
  case k9 => k_dflt (first | exact BindsTo.of_eq rfl | exact binds_K (by k_in) rfl (by k_is) rfl rfl rfl)
  case c5 => k_dflt decide
  case kB => k_dflt (exact locs rfl)
  case c2 => k_dflt (exact rfl)
  case c3 => k_dflt (exact rfl)
  case c4 => k_dflt (exact rfl)
  k_whole
  intro g' L' h' FG' F' N' B' X' T' hlt' hrest'
  (try k_lt hlt')
  (try dsimp only)
  (try k_fold)
  clear N0 N
  k_steps
  (with_reducible rename Fr g' L' _ _ => F9)
  (with_reducible rename News g' L' _ (_ :: _) => N9)
  refine iter_range F9 N9 (by assumption) (small_one (by omega) (by omega) (by omega) (by omega)) (rangeSize_nat _ _) ?_
  intro I h5 hI5 F5 N5
  (try k_lt hI5)
  have hil0 : ilAt f ts 0 = 0 := by unfold ilAt; rw [if_neg (by omega)]
  refine wloop (n := ((f : Int) + 1 - ts).toNat) (WIJ f ts c0 o0 u tb0 _) (LCg.range_walks rfl _ _) (fun i h st => ⟨_, st⟩) LCg.range_st (S := fun _ => True) (fun _ _ _ _ => trivial) (range_st0 (N5 _ (.head _)).1) F5 (fun p hp => N5 p (.tail _ hp)) (N5 _ (.head _)).2.1 (N5 _ (.head _)).2.2 ?off ⟨rfl, _, _, pins5 (by rw [hil0]; rfl) rfl rfl rfl rfl⟩ rfl rfl ?turn ?done
  case off =>
    repeat (refine neD_cons (by (show (@Ne Nat _ _)); omega) ?_)
    exact neD_nil
  case done =>
    intro m₁ news₁ h tk hJ F1 N1
    obtain ⟨rfl, uu, t9, rfl⟩ := hJ
    clear F9 N9 F5 N5
    dsimp only
    k_steps
    (with_reducible rename News h₀ L _ (_ :: _) => kN)
    (with_reducible rename News h₀ L _ news => nR)
    rw [il_end h1]
    exact hret _ _ _ (by k_asm) (News.app kN nR)
  case turn =>
    intro i v m₁ news₁ h tk oI hi hP hJ off F1 N1
    obtain ⟨tv, rfl⟩ := hP
    obtain ⟨rfl, uu, t9, rfl⟩ := hJ
    clear F9 N9 F5 N5
    have hlen : (List.replicate f (0 : Int) ++ [1]).length = f + 1 := by simp
    k_steps
    have hz := il_cnt (f := f) (ts := ts) (i := i)
    have hx := il_next (show ts + i < f + 1 by omega) h1
    rcases hz with hz | hz
    all_goals (
      rw [hz] at hx ⊢
      k_steps
      (with_reducible rename News g' L' _ (_ :: _) => nE)
      (with_reducible rename Fr g' L' _ _ => fE)
      refine ⟨_, _, _, _, rfl, fE, nE, off, rfl, _, _, pins5 (by rw [← hx]; rfl) rfl rfl rfl rfl⟩)
end Mine
end
section
open PySem PySem.W PySem.W.X PySem.W.ZRun PySem.Spec PySem.Calls PyProof.Rows
set_option maxRecDepth 100000
set_option maxHeartbeats 0
set_option linter.unusedVariables false
namespace Mine
theorem dis4_nil {S : List Addr} : ∀ p ∈ ([] : List (Addr × Obj)), p.1 ∉ S := fun _ h => nomatch h
theorem dis4_cons {q c o d a : Nat} {x : Obj} {r : List (Addr × Obj)} (h1 : a ≠ q) (h2 : a ≠ c) (h3 : a ≠ o) (h4 : a ≠ d) (hr : ∀ p ∈ r, p.1 ∉ [q, c, o, d]) : ∀ p ∈ (((a, x) : Addr × Obj) :: r), p.1 ∉ [q, c, o, d] := fun p hp => by
  rcases List.mem_cons.mp hp with rfl | hp
  · simp [h1, h2, h3, h4]
  · exact hr p hp
theorem dis4_tl {q c o d I : Nat} {tl : List (Addr × Obj)} (ht : ∀ p ∈ tl, @LT.lt Nat _ I p.1) (h1 : q < I) (h2 : c < I) (h3 : o < I) (h4 : d < I) : ∀ p ∈ tl, p.1 ∉ [q, c, o, d] := fun p hp => by
  have := ht p hp
  simp only [List.mem_cons, List.not_mem_nil, or_false, not_or]
  exact ⟨Nat.ne_of_gt (Nat.lt_trans h1 this), Nat.ne_of_gt (Nat.lt_trans h2 this), Nat.ne_of_gt (Nat.lt_trans h3 this), Nat.ne_of_gt (Nat.lt_trans h4 this)⟩
theorem News.rot1 {h₀ h : Heap} {L : Addr} {i a b c d : Addr × Obj} {r : List (Addr × Obj)} (N : News h₀ L h (i :: a :: b :: c :: d :: r)) : News h₀ L h ([a, b, c, d] ++ (i :: r)) :=
  News.drop N fun p hp => by
    simp only [List.mem_cons, List.mem_append, List.not_mem_nil, or_false] at hp ⊢
    rcases hp with (e | e | e | e) | e | e <;> simp [e]
theorem News.unrot1 {h₀ h : Heap} {L : Addr} {i a b c d : Addr × Obj} {r : List (Addr × Obj)} (N : News h₀ L h ([a, b, c, d] ++ (i :: r))) : News h₀ L h (i :: a :: b :: c :: d :: r) :=
  News.drop N fun p hp => by
    simp only [List.mem_cons, List.mem_append, List.not_mem_nil, or_false] at hp ⊢
    rcases hp with e | e | e | e | e | e <;> simp [e]
theorem News.swap4 {h₀ h : Heap} {L : Addr} {i a b c d a' b' c' d' : Addr × Obj} {r : List (Addr × Obj)} (N : News h₀ L h ([a, b, c, d] ++ (i :: a' :: b' :: c' :: d' :: r))) : News h₀ L h ([a', b', c', d'] ++ (i :: a :: b :: c :: d :: r)) :=
  News.drop N fun p hp => by
    simp only [List.mem_cons, List.mem_append, List.not_mem_nil, or_false] at hp ⊢
    rcases hp with (e | e | e | e) | e | e | e | e | e | e <;> simp [e]
theorem News.swap40 {h₀ h : Heap} {L : Addr} {a b c d a' b' c' d' : Addr × Obj} {r : List (Addr × Obj)} (N : News h₀ L h ([a, b, c, d] ++ (a' :: b' :: c' :: d' :: r))) : News h₀ L h ([a', b', c', d'] ++ (a :: b :: c :: d :: r)) :=
  News.drop N fun p hp => by
    simp only [List.mem_cons, List.mem_append, List.not_mem_nil, or_false] at hp ⊢
    rcases hp with (e | e | e | e) | e | e | e | e | e <;> simp [e]
noncomputable def TripOK (zs : List (Int × Int × Int)) (ys : List Value) (tl : List (Addr × Obj)) : Prop :=
  ys.length = zs.length ∧ ∀ (i : Nat) z, zs[i]? = some z → ∃ t u1 u2 u3 e, ys[i]? = some (Value.ref t) ∧ (t, tupObj #[.int z.1 u1, .int z.2.1 u2, .int z.2.2 u3] e) ∈ tl
theorem pins3 {m : Str → Option Value} {k0 k1 k2 : Str} {v0 v1 v2 : Option Value} (h0 : m k0 = v0) (h1 : m k1 = v1) (h2 : m k2 = v2) : m = fun y => if y = k0 then v0 else if y = k1 then v1 else if y = k2 then v2 else m y := by
  funext y
  by_cases e0 : y = k0
  · rw [if_pos e0, e0, h0]
  by_cases e1 : y = k1
  · rw [if_neg e0, if_pos e1, e1, h1]
  by_cases e2 : y = k2
  · rw [if_neg e0, if_neg e1, if_pos e2, e2, h2]
  rw [if_neg e0, if_neg e1, if_neg e2]
theorem News.canon {h₀ h : Heap} {L : Addr} {i al a b c d a' b' c' d' : Addr × Obj} (N : News h₀ L h [i, al, a', b', c', d', a, b, c, d]) : News h₀ L h [a, b, c, d, a', b', c', d', al] :=
  News.drop N fun p hp => by
    simp only [List.mem_cons, List.not_mem_nil, or_false] at hp ⊢
    rcases hp with e | e | e | e | e | e | e | e | e <;> simp [e]
theorem News.apart {h₀ h : Heap} {L : Addr} {a b : Nat} {o o' : Obj} {l : List (Addr × Obj)} (N : News h₀ L h l) (ha : ((a : Addr), o) ∈ l) (hb : ((b : Addr), o') ∈ l) (hc : o.cls ≠ o'.cls) : @Ne Nat a b := fun e => by
  have h1 := (N _ ha).1
  have h2 := (N _ hb).1
  rw [show ((a : Addr), o).1 = ((b : Addr), o').1 from e, h2] at h1
  exact hc (congrArg Obj.cls (Option.some.inj h1).symm)
noncomputable def lev (f ts : Nat) : Int := (ts : Int) * ((f : Int) / ts + 1)
theorem TripOK.snoc {zs : List (Int × Int × Int)} {ys : List Value} {tl : List (Addr × Obj)} {t : Addr} {a b c : Int} {u1 u2 u3 : Tok} {e : Nat} (h : TripOK zs ys tl) : TripOK (zs ++ [(a, b, c)]) (ys ++ [.ref t]) ((t, tupObj #[.int a u1, .int b u2, .int c u3] e) :: tl) := by
  refine ⟨by rw [List.length_append, List.length_append, h.1]; rfl, fun i z hz => ?_⟩
  by_cases hi : i < zs.length
  · rw [List.getElem?_append_left hi] at hz
    obtain ⟨t', v1, v2, v3, e', h1, h2⟩ := h.2 i z hz
    exact ⟨t', v1, v2, v3, e', by rw [List.getElem?_append_left (by rw [h.1]; exact hi)]; exact h1, .tail _ h2⟩
  · rw [List.getElem?_append_right (by omega)] at hz
    have hi2 : i - zs.length = 0 := by
      cases hq : i - zs.length with
      | zero => rfl
      | succ n => rw [hq] at hz; cases hz
    rw [hi2] at hz
    cases hz
    refine ⟨t, u1, u2, u3, e, ?_, .head _⟩
    rw [List.getElem?_append_right (by rw [h.1]; omega), h.1, hi2]; rfl
noncomputable def wits (f0 f1 : Nat) : Nat → List (Int × Int × Int)
  | 0 => []
  | i + 1 => if lev f0 (i + 1) = lev f1 (i + 1) then wits f0 f1 i else wits f0 f1 i ++ [(((i + 1 : Nat) : Int), lev f0 (i + 1), lev f1 (i + 1))]
theorem wits_len (f0 f1 : Nat) : ∀ i, (wits f0 f1 i).length ≤ i
  | 0 => Nat.le_refl _
  | i + 1 => by
    have := wits_len f0 f1 i
    unfold wits
    split
    · omega
    · rw [List.length_append, List.length_singleton]; omega
theorem News.wout {h₀ h : Heap} {L : Addr} {al : Addr × Obj} {a b c d a' b' c' d' : Addr × Obj} {tl rest : List (Addr × Obj)} (N : News h₀ L h ([a, b, c, d] ++ ([a', b', c', d'] ++ al :: tl))) (nR : News h₀ L h rest) : News h₀ L h (al :: (tl ++ ([a, b, c, d, a', b', c', d'] ++ rest))) :=
  News.drop (News.app N nR) fun p hp => by
    simp only [List.mem_cons, List.mem_append, List.not_mem_nil, or_false] at hp ⊢
    rcases hp with q | q | (q | q | q | q | q | q | q | q) | q <;> simp [q]
theorem append_wit {prog : Program} {w : World} {A : Around} {E : Value → Shared → Prop} {s : Shared} {h₀ : Heap} {L : Addr} {m : Str → Option Value} {al : Addr} {T a b c d a' b' c' d' i : Addr × Obj} {ys : List Value} {e : Nat} {y : Value} {tl : List (Addr × Obj)} {Q : Value → Shared → Prop} (F : Fr h₀ L s.heap m)
    (N : News h₀ L s.heap (T :: ([a', b', c', d'] ++ (i :: a :: b :: c :: d :: (al, listOf ys.toArray e) :: tl)))) (sep : ∀ p ∈ T :: a' :: b' :: c' :: d' :: i :: a :: b :: c :: d :: tl, p.1 ≠ al) (hsz : ys.length ≤ 100)
    (h : ∀ h' e', Fr h₀ L h' m → News h₀ L h' (i :: ([a, b, c, d] ++ ([a', b', c', d'] ++ ((al, listOf (ys ++ [y]).toArray e') :: T :: tl)))) → Q .none { s with heap := h' }) :
    wpAny (model prog w) A (call (.builtin "list.append") [.ref al, y]) Q E s := by
  have z := N (al, listOf ys.toArray e) (by simp)
  refine append_at (hsz := by simp only [List.size_toArray]; rw [PySem.sizeLine_eq]; omega) z.1 fun h' hs hD => h h' (e + 1) (F.change hs z.2.1 z.2.2) fun p hp => ?_
  by_cases hpe : p = (al, listOf (ys ++ [y]).toArray (e + 1))
  · subst hpe
    refine ⟨?_, z.2⟩
    rw [hD, List.push_toArray]
  · have hp' : p ∈ T :: a' :: b' :: c' :: d' :: i :: a :: b :: c :: d :: tl := by
      simp only [List.mem_cons, List.mem_append, List.not_mem_nil, or_false] at hp ⊢
      rcases hp with q | (q | q | q | q) | (q | q | q | q) | q | q | q
      all_goals first | exact absurd q hpe | (subst q; simp; done) | simp [q]
    have z2 := N p (by
      simp only [List.mem_cons, List.mem_append, List.not_mem_nil, or_false] at hp' ⊢
      rcases hp' with q | q | q | q | q | q | q | q | q | q | q <;> simp [q])
    exact ⟨hs.extBut _ _ (sep p hp') z2.1, z2.2⟩
inductive WJ (al : Addr) (W0 W1 : List (Addr × Obj)) (f0 f1 : Nat) (I o0 o1 : Addr) (i : Nat) (m : Str → Option Value) (news : List (Addr × Obj)) : Prop
  | mk (ys : List Value) (tl : List (Addr × Obj)) (e : Nat) (uu : Str → Option Value) (c1 : news = W0 ++ (W1 ++ ((al, listOf ys.toArray e) :: tl))) (c2 : TripOK (wits f0 f1 i) ys tl) (c3 : (∀ p ∈ tl, @LT.lt Nat _ I p.1)) (c4 : m = fun y => if y = Str.ofString "a" then some (.ref al) else if y = Str.ofString "self" then some (.ref o0) else if y = Str.ofString "other" then some (.ref o1) else uu y)
theorem witness_ok {w : World} {p : Program} {loose : List Str} {mean : ExcName → Option Value} {mg mb : Str → Option Value} (x0 x1 : Str) (f0 f1 : Nat) (o0 d0 q0 c0 : Addr) (vs0 : List Value) (tx0 ka0 kb0 kc0 kd0 ke0 tn0 tt0 tb0 : Tok) (bs0 : Bool) (o1 d1 q1 c1 : Addr) (vs1 : List Value) (tx1 ka1 kb1 kc1 kd1 ke1 tn1 tt1 tb1 : Tok) (bs1 : Bool) (hI0 : IntsAre vs0 (List.replicate f0 0 ++ [1])) (hf0 : f0 ≤ 12) (hI1 : IntsAre vs1 (List.replicate f1 0 ++ [1])) (hf1 : f1 ≤ 12) (h01 : f0 < f1) :
  Amb w p loose mean mg mb 10 100 (fun A base h₀ L m rest s Q E =>
    News h₀ L s.heap ([(q0, tupObj #[.ref c0, .int ((0 : Nat) : Int) tb0] 0), (c0, tupObj vs0.toArray 0), (o0, instObj 135 d0), (d0, dictOf [⟨PyData.keyHash w.params (Str.ofString "raw"), .str (Str.ofString "raw") ka0, .str x0 tx0⟩, ⟨PyData.keyHash w.params (Str.ofString "n"), .str (Str.ofString "n") kb0, .int ((f0 + 1 + 0 : Nat) : Int) tn0⟩, ⟨PyData.keyHash w.params (Str.ofString "nt"), .str (Str.ofString "nt") kc0, .int 1 tt0⟩, ⟨PyData.keyHash w.params (Str.ofString "norm"), .str (Str.ofString "norm") kd0, .ref q0⟩, ⟨PyData.keyHash w.params (Str.ofString "is_simple"), .str (Str.ofString "is_simple") ke0, .bool bs0⟩] 5), (q1, tupObj #[.ref c1, .int ((0 : Nat) : Int) tb1] 0), (c1, tupObj vs1.toArray 0), (o1, instObj 135 d1), (d1, dictOf [⟨PyData.keyHash w.params (Str.ofString "raw"), .str (Str.ofString "raw") ka1, .str x1 tx1⟩, ⟨PyData.keyHash w.params (Str.ofString "n"), .str (Str.ofString "n") kb1, .int ((f1 + 1 + 0 : Nat) : Int) tn1⟩, ⟨PyData.keyHash w.params (Str.ofString "nt"), .str (Str.ofString "nt") kc1, .int 1 tt1⟩, ⟨PyData.keyHash w.params (Str.ofString "norm"), .str (Str.ofString "norm") kd1, .ref q1⟩, ⟨PyData.keyHash w.params (Str.ofString "is_simple"), .str (Str.ofString "is_simple") ke1, .bool bs1⟩] 5)] ++ rest) → (∀ p ∈ rest, p.1 ∉ ([(q0, tupObj #[.ref c0, .int ((0 : Nat) : Int) tb0] 0), (c0, tupObj vs0.toArray 0), (o0, instObj 135 d0), (d0, dictOf [⟨PyData.keyHash w.params (Str.ofString "raw"), .str (Str.ofString "raw") ka0, .str x0 tx0⟩, ⟨PyData.keyHash w.params (Str.ofString "n"), .str (Str.ofString "n") kb0, .int ((f0 + 1 + 0 : Nat) : Int) tn0⟩, ⟨PyData.keyHash w.params (Str.ofString "nt"), .str (Str.ofString "nt") kc0, .int 1 tt0⟩, ⟨PyData.keyHash w.params (Str.ofString "norm"), .str (Str.ofString "norm") kd0, .ref q0⟩, ⟨PyData.keyHash w.params (Str.ofString "is_simple"), .str (Str.ofString "is_simple") ke0, .bool bs0⟩] 5), (q1, tupObj #[.ref c1, .int ((0 : Nat) : Int) tb1] 0), (c1, tupObj vs1.toArray 0), (o1, instObj 135 d1), (d1, dictOf [⟨PyData.keyHash w.params (Str.ofString "raw"), .str (Str.ofString "raw") ka1, .str x1 tx1⟩, ⟨PyData.keyHash w.params (Str.ofString "n"), .str (Str.ofString "n") kb1, .int ((f1 + 1 + 0 : Nat) : Int) tn1⟩, ⟨PyData.keyHash w.params (Str.ofString "nt"), .str (Str.ofString "nt") kc1, .int 1 tt1⟩, ⟨PyData.keyHash w.params (Str.ofString "norm"), .str (Str.ofString "norm") kd1, .ref q1⟩, ⟨PyData.keyHash w.params (Str.ofString "is_simple"), .str (Str.ofString "is_simple") ke1, .bool bs1⟩] 5)] : List (Addr × Obj)).map (·.1)) → @LT.lt Nat _ d0 o0 → @LT.lt Nat _ o0 c0 → @LT.lt Nat _ c0 q0 → @LT.lt Nat _ q0 d1 → @LT.lt Nat _ d1 o1 → @LT.lt Nat _ o1 c1 → @LT.lt Nat _ c1 q1 →
    (∀ (al : Addr) (e : Nat) (ys : List Value) (tl : List (Addr × Obj)) (h' : Heap) (tk' : Nat), Fr h₀ L h' m → News h₀ L h' ((al, listOf ys.toArray e) :: (tl ++ ([(q0, tupObj #[.ref c0, .int ((0 : Nat) : Int) tb0] 0), (c0, tupObj vs0.toArray 0), (o0, instObj 135 d0), (d0, dictOf [⟨PyData.keyHash w.params (Str.ofString "raw"), .str (Str.ofString "raw") ka0, .str x0 tx0⟩, ⟨PyData.keyHash w.params (Str.ofString "n"), .str (Str.ofString "n") kb0, .int ((f0 + 1 + 0 : Nat) : Int) tn0⟩, ⟨PyData.keyHash w.params (Str.ofString "nt"), .str (Str.ofString "nt") kc0, .int 1 tt0⟩, ⟨PyData.keyHash w.params (Str.ofString "norm"), .str (Str.ofString "norm") kd0, .ref q0⟩, ⟨PyData.keyHash w.params (Str.ofString "is_simple"), .str (Str.ofString "is_simple") ke0, .bool bs0⟩] 5), (q1, tupObj #[.ref c1, .int ((0 : Nat) : Int) tb1] 0), (c1, tupObj vs1.toArray 0), (o1, instObj 135 d1), (d1, dictOf [⟨PyData.keyHash w.params (Str.ofString "raw"), .str (Str.ofString "raw") ka1, .str x1 tx1⟩, ⟨PyData.keyHash w.params (Str.ofString "n"), .str (Str.ofString "n") kb1, .int ((f1 + 1 + 0 : Nat) : Int) tn1⟩, ⟨PyData.keyHash w.params (Str.ofString "nt"), .str (Str.ofString "nt") kc1, .int 1 tt1⟩, ⟨PyData.keyHash w.params (Str.ofString "norm"), .str (Str.ofString "norm") kd1, .ref q1⟩, ⟨PyData.keyHash w.params (Str.ofString "is_simple"), .str (Str.ofString "is_simple") ke1, .bool bs1⟩] 5)] ++ rest))) → TripOK (wits f0 f1 (f1 + 1)) ys tl → Q (.ref al) { s with heap := h', toks := tk' }) →
    wpAny (model PySem.Challenge.rw_tl0052_01.row.prog w) A (call (.ref 118) [.ref o0, .ref o1]) Q E s) := by
  unfold Amb
  k_fill
  intro dp un gd cn cs a ccd cl outer A₀ base h₀ L m news s Q E B F X N0 T hk hd hu N hdis r1 r2 r3 r4 r5 r6 r7 hret
  refine wpAny_call ?_
  refine' code_defS (binds := [(Str.ofString "self", .ref o0), (Str.ofString "other", .ref o1)]) (small := [(q0, tupObj #[.ref c0, .int ((0 : Nat) : Int) tb0] 0), (c0, tupObj vs0.toArray 0), (o0, instObj 135 d0), (d0, dictOf [⟨PyData.keyHash w.params (Str.ofString "raw"), .str (Str.ofString "raw") ka0, .str x0 tx0⟩, ⟨PyData.keyHash w.params (Str.ofString "n"), .str (Str.ofString "n") kb0, .int ((f0 + 1 + 0 : Nat) : Int) tn0⟩, ⟨PyData.keyHash w.params (Str.ofString "nt"), .str (Str.ofString "nt") kc0, .int 1 tt0⟩, ⟨PyData.keyHash w.params (Str.ofString "norm"), .str (Str.ofString "norm") kd0, .ref q0⟩, ⟨PyData.keyHash w.params (Str.ofString "is_simple"), .str (Str.ofString "is_simple") ke0, .bool bs0⟩] 5), (q1, tupObj #[.ref c1, .int ((0 : Nat) : Int) tb1] 0), (c1, tupObj vs1.toArray 0), (o1, instObj 135 d1), (d1, dictOf [⟨PyData.keyHash w.params (Str.ofString "raw"), .str (Str.ofString "raw") ka1, .str x1 tx1⟩, ⟨PyData.keyHash w.params (Str.ofString "n"), .str (Str.ofString "n") kb1, .int ((f1 + 1 + 0 : Nat) : Int) tn1⟩, ⟨PyData.keyHash w.params (Str.ofString "nt"), .str (Str.ofString "nt") kc1, .int 1 tt1⟩, ⟨PyData.keyHash w.params (Str.ofString "norm"), .str (Str.ofString "norm") kd1, .ref q1⟩, ⟨PyData.keyHash w.params (Str.ofString "is_simple"), .str (Str.ofString "is_simple") ke1, .bool bs1⟩] 5)]) (rest := news) B F X N hdis T ?kA ?kF ?kK ?k6 ?k7 ?k8 ?k9 ?kB ?_ ?c2 ?c3 ?c4 ?c5
  case kA => exact rfl
  case kF => exact rfl
  case kK => assumption
  case k6 => k_dflt k_is
  case k7 => k_dflt k_is
  case k8 => k_dflt ktr_room
  case k9 => k_dflt (first | exact BindsTo.of_eq rfl | exact binds_K (by k_in) rfl (by k_is) rfl rfl rfl)
  case c5 => k_dflt decide
  case kB => k_dflt (exact locs rfl)
  case c2 => k_dflt (exact rfl)
  case c3 => k_dflt (exact rfl)
  case c4 => k_dflt (exact rfl)
  k_whole
  intro g' L' h' FG' F' N' B' X' T' hlt' hrest'
  (try k_lt hlt')
  (try dsimp only)
  (try k_fold)
  clear N0 N
  k_steps
  (try dsimp only)
  (with_reducible rename News g' L' _ (_ :: _) => N9)
  refine' run_ok x0 f0  o0 d0 q0 c0 vs0 tx0 ka0 kb0 kc0 kd0 ke0 tn0 tt0 tb0 bs0 hI0 hf0  ?k1 ?k2 ?k3 (fun p hp => N9 p (.tail _ (.tail _ (.tail _ (.tail _ hp))))) ?k5 ?kK ?kd ?ku (show News g' L' _ (_ ++ _) from N9) ?kdis ?_
  case k1 => k_asm
  case k2 => k_asm
  case k3 => k_asm
  case k5 => k_asm
  case kK => first | exact rfl | assumption
  case kd => ktr_room
  case ku => ktr_units
  case kdis => (show ∀ p ∈ (_ : List (Addr × Obj)), p.1 ∉ [q0, c0, o0, d0]); (repeat (refine dis4_cons (by omega) (by omega) (by omega) (by omega) ?_)); exact dis4_nil
  k_whole
  intro t1 h1 tk1 F1 N1
  (try dsimp only)
  k_steps
  (try dsimp only)
  refine' run_ok x1 f1  o1 d1 q1 c1 vs1 tx1 ka1 kb1 kc1 kd1 ke1 tn1 tt1 tb1 bs1 hI1 hf1  ?k1 ?k2 ?k3 (fun p hp => N1 p (List.mem_append_left _ hp)) ?k5 ?kK ?kd ?ku (News.swap40 (r := []) N1) ?kdis ?_
  case k1 => k_asm
  case k2 => k_asm
  case k3 => k_asm
  case k5 => k_asm
  case kK => first | exact rfl | assumption
  case kd => ktr_room
  case ku => ktr_units
  case kdis => (show ∀ p ∈ (_ : List (Addr × Obj)), p.1 ∉ [q1, c1, o1, d1]); (repeat (refine dis4_cons (by omega) (by omega) (by omega) (by omega) ?_)); exact dis4_nil
  k_whole
  intro t2 h2 tk2 F2 N2
  (try dsimp only)
  k_steps
  (with_reducible rename Fr g' L' _ _ => F9)
  (with_reducible rename News g' L' _ (_ :: _) => N9b)
  rename IsRange _ _ _ _ _ _ _ _ => hR9
  have em : (if (f1 : Int) > (f0 : Int) then (f1 : Int) else (f0 : Int)) = (f1 : Int) := if_pos (by omega)
  rw [em] at hR9 F9
  simp only [List.cons_append, List.nil_append] at N9b
  refine iter_range F9 N9b hR9 (small_one (by omega) (by omega) (by omega) (by omega)) (rangeSize_nat _ _) ?_
  intro I h5 hI5 F5 N5
  (try k_lt hI5)
  have zI := N5 _ (.head _)
  have N6 := News.canon N5
  have nq0 := News.apart N6 (.tail _ (.tail _ (.tail _ (.tail _ (.tail _ (.tail _ (.tail _ (.tail _ (.head _))))))))) (.head _) (show Value.type "list" ≠ Value.type "tuple" by decide)
  have nc0 := News.apart N6 (.tail _ (.tail _ (.tail _ (.tail _ (.tail _ (.tail _ (.tail _ (.tail _ (.head _))))))))) (.tail _ (.head _)) (show Value.type "list" ≠ Value.type "tuple" by decide)
  have no0 := News.apart N6 (.tail _ (.tail _ (.tail _ (.tail _ (.tail _ (.tail _ (.tail _ (.tail _ (.head _))))))))) (.tail _ (.tail _ (.head _))) (fun h => nomatch h)
  have nd0 := News.apart N6 (.tail _ (.tail _ (.tail _ (.tail _ (.tail _ (.tail _ (.tail _ (.tail _ (.head _))))))))) (.tail _ (.tail _ (.tail _ (.head _)))) (show Value.type "list" ≠ Value.type "dict" by decide)
  have nq1 := News.apart N6 (.tail _ (.tail _ (.tail _ (.tail _ (.tail _ (.tail _ (.tail _ (.tail _ (.head _))))))))) (.tail _ (.tail _ (.tail _ (.tail _ (.head _))))) (show Value.type "list" ≠ Value.type "tuple" by decide)
  have nc1 := News.apart N6 (.tail _ (.tail _ (.tail _ (.tail _ (.tail _ (.tail _ (.tail _ (.tail _ (.head _))))))))) (.tail _ (.tail _ (.tail _ (.tail _ (.tail _ (.head _)))))) (show Value.type "list" ≠ Value.type "tuple" by decide)
  have no1 := News.apart N6 (.tail _ (.tail _ (.tail _ (.tail _ (.tail _ (.tail _ (.tail _ (.tail _ (.head _))))))))) (.tail _ (.tail _ (.tail _ (.tail _ (.tail _ (.tail _ (.head _))))))) (fun h => nomatch h)
  have nd1 := News.apart N6 (.tail _ (.tail _ (.tail _ (.tail _ (.tail _ (.tail _ (.tail _ (.tail _ (.head _))))))))) (.tail _ (.tail _ (.tail _ (.tail _ (.tail _ (.tail _ (.tail _ (.head _)))))))) (show Value.type "list" ≠ Value.type "dict" by decide)
  refine wloop (n := ((f1 : Int) + 1 + 1 - 1).toNat) (WJ _ [(q0, tupObj #[.ref c0, .int ((0 : Nat) : Int) tb0] 0), (c0, tupObj vs0.toArray 0), (o0, instObj 135 d0), (d0, dictOf [⟨PyData.keyHash w.params (Str.ofString "raw"), .str (Str.ofString "raw") ka0, .str x0 tx0⟩, ⟨PyData.keyHash w.params (Str.ofString "n"), .str (Str.ofString "n") kb0, .int ((f0 + 1 + 0 : Nat) : Int) tn0⟩, ⟨PyData.keyHash w.params (Str.ofString "nt"), .str (Str.ofString "nt") kc0, .int 1 tt0⟩, ⟨PyData.keyHash w.params (Str.ofString "norm"), .str (Str.ofString "norm") kd0, .ref q0⟩, ⟨PyData.keyHash w.params (Str.ofString "is_simple"), .str (Str.ofString "is_simple") ke0, .bool bs0⟩] 5)] [(q1, tupObj #[.ref c1, .int ((0 : Nat) : Int) tb1] 0), (c1, tupObj vs1.toArray 0), (o1, instObj 135 d1), (d1, dictOf [⟨PyData.keyHash w.params (Str.ofString "raw"), .str (Str.ofString "raw") ka1, .str x1 tx1⟩, ⟨PyData.keyHash w.params (Str.ofString "n"), .str (Str.ofString "n") kb1, .int ((f1 + 1 + 0 : Nat) : Int) tn1⟩, ⟨PyData.keyHash w.params (Str.ofString "nt"), .str (Str.ofString "nt") kc1, .int 1 tt1⟩, ⟨PyData.keyHash w.params (Str.ofString "norm"), .str (Str.ofString "norm") kd1, .ref q1⟩, ⟨PyData.keyHash w.params (Str.ofString "is_simple"), .str (Str.ofString "is_simple") ke1, .bool bs1⟩] 5)] f0 f1 I o0 o1) (LCg.range_walks rfl _ _) (fun i h st => ⟨_, st⟩) LCg.range_st (S := fun _ => True) (fun _ _ _ _ => trivial) (range_st0 zI.1) F5 N6 zI.2.1 zI.2.2 ?off ⟨[], [], _, _, rfl, ⟨rfl, fun i z hz => by cases hz⟩, (fun _ hp => nomatch hp), pins3 (by rfl) rfl rfl⟩ rfl rfl ?turn ?done
  case off =>
    repeat (refine neD_cons (by (show (@Ne Nat _ _)); omega) ?_)
    exact neD_nil
  case done =>
    intro m₁ news₁ h tk hJ F1' N1'
    obtain ⟨ys, tl, e, uu, rfl, hT, htl, rfl⟩ := hJ
    have en : ((f1 : Int) + 1 + 1 - 1).toNat = f1 + 1 := by rw [Int.add_sub_cancel]; rfl
    rw [en] at hT
    clear F9 N9b F5 N5 N6
    dsimp only
    k_steps
    (with_reducible rename News h₀ L _ ([_, _, _, _] ++ _) => kN)
    (with_reducible rename News h₀ L _ news => nR)
    exact hret _ _ _ _ _ _ (by k_asm) (News.wout kN nR) hT
  case turn =>
    intro i v m₁ news₁ h tk oI hi hP hJ off F1' N1'
    obtain ⟨tv, rfl⟩ := hP
    obtain ⟨ys, tl, e, uu, rfl, hT, htl, rfl⟩ := hJ
    have e1 : (1 + (i : Int)) = ((i + 1 : Nat) : Int) := Int.add_comm 1 (i : Int)
    rw [e1] at F1'
    clear F9 N9b F5 N5 N6
    (try clear F1); (try clear N1); (try clear F2); (try clear N2); (try clear N9)
    have off0 := off
    simp only [List.cons_append, List.nil_append] at N1' off
    k_steps
    refine' indent_ok x0 f0 (i + 1) _ o0 d0 q0 c0 vs0 tx0 ka0 kb0 kc0 kd0 ke0 tn0 tt0 tb0 bs0 hI0 hf0 (Nat.succ_le_succ (Nat.zero_le i)) (wit_lt hi hf1) ?k1 ?k2 ?k3 (fun p hp => News.rot1 N1' p (List.mem_append_right _ hp)) ?k5 ?kK ?kd ?ku (News.rot1 N1') ?kdis ?_
    case k1 => k_asm
    case k2 => k_asm
    case k3 => k_asm
    case k5 => k_asm
    case kK => first | exact rfl | assumption
    case kd => ktr_room
    case ku => ktr_units
    case kdis => (show ∀ p ∈ (_ : List (Addr × Obj)), p.1 ∉ [q0, c0, o0, d0]); (repeat (refine dis4_cons (by omega) (by omega) (by omega) (by omega) ?_)); exact dis4_tl htl (by omega) (by omega) (by omega) (by omega)
    k_whole
    intro t3 h6 tk6 F6 N6
    (try dsimp only)
    k_steps
    refine' indent_ok x1 f1 (i + 1) _ o1 d1 q1 c1 vs1 tx1 ka1 kb1 kc1 kd1 ke1 tn1 tt1 tb1 bs1 hI1 hf1 (Nat.succ_le_succ (Nat.zero_le i)) (wit_lt hi hf1) ?k1 ?k2 ?k3 (fun p hp => News.swap4 N6 p (List.mem_append_right _ hp)) ?k5 ?kK ?kd ?ku (News.swap4 N6) ?kdis ?_
    case k1 => k_asm
    case k2 => k_asm
    case k3 => k_asm
    case k5 => k_asm
    case kK => first | exact rfl | assumption
    case kd => ktr_room
    case ku => ktr_units
    case kdis => (show ∀ p ∈ (_ : List (Addr × Obj)), p.1 ∉ [q1, c1, o1, d1]); (repeat (refine dis4_cons (by omega) (by omega) (by omega) (by omega) ?_)); exact dis4_tl htl (by omega) (by omega) (by omega) (by omega)
    k_whole
    intro t4 h7 tk7 F7 N7
    (try dsimp only)
    clear F6 N6
    k_steps
    rotate_left
    · rename _ = _ => heq
      have hw : wits f0 f1 (i + 1) = wits f0 f1 i := by
        show (if lev f0 (i + 1) = lev f1 (i + 1) then _ else _) = _
        have heq' : lev f0 (i + 1) = lev f1 (i + 1) := heq
        rw [if_pos heq']
      exact ⟨_, _, _, _, rfl, F7, News.unrot1 (News.swap4 N7), off, ys, tl, e, _, rfl, by rw [hw]; exact hT, htl, pins3 rfl rfl rfl⟩
    rename _ ≠ _ => hne9
    have hw : wits f0 f1 (i + 1) = wits f0 f1 i ++ [(((i + 1 : Nat) : Int), lev f0 (i + 1), lev f1 (i + 1))] := by
      show (if lev f0 (i + 1) = lev f1 (i + 1) then _ else _) = _
      have hne' : lev f0 (i + 1) ≠ lev f1 (i + 1) := hne9
      rw [if_neg hne']
    refine' indent_ok x0 f0 (i + 1) _ o0 d0 q0 c0 vs0 tx0 ka0 kb0 kc0 kd0 ke0 tn0 tt0 tb0 bs0 hI0 hf0 (Nat.succ_le_succ (Nat.zero_le i)) (wit_lt hi hf1) ?k1 ?k2 ?k3 (fun p hp => News.swap4 N7 p (List.mem_append_right _ hp)) ?k5 ?kK ?kd ?ku (News.swap4 N7) ?kdis ?_
    case k1 => k_asm
    case k2 => k_asm
    case k3 => k_asm
    case k5 => k_asm
    case kK => first | exact rfl | assumption
    case kd => ktr_room
    case ku => ktr_units
    case kdis => (show ∀ p ∈ (_ : List (Addr × Obj)), p.1 ∉ [q0, c0, o0, d0]); (repeat (refine dis4_cons (by omega) (by omega) (by omega) (by omega) ?_)); exact dis4_tl htl (by omega) (by omega) (by omega) (by omega)
    k_whole
    intro t5 h8 tk8 F8 N8
    (try dsimp only)
    k_steps
    refine' indent_ok x1 f1 (i + 1) _ o1 d1 q1 c1 vs1 tx1 ka1 kb1 kc1 kd1 ke1 tn1 tt1 tb1 bs1 hI1 hf1 (Nat.succ_le_succ (Nat.zero_le i)) (wit_lt hi hf1) ?k1 ?k2 ?k3 (fun p hp => News.swap4 N8 p (List.mem_append_right _ hp)) ?k5 ?kK ?kd ?ku (News.swap4 N8) ?kdis ?_
    case k1 => k_asm
    case k2 => k_asm
    case k3 => k_asm
    case k5 => k_asm
    case kK => first | exact rfl | assumption
    case kd => ktr_room
    case ku => ktr_units
    case kdis => (show ∀ p ∈ (_ : List (Addr × Obj)), p.1 ∉ [q1, c1, o1, d1]); (repeat (refine dis4_cons (by omega) (by omega) (by omega) (by omega) ?_)); exact dis4_tl htl (by omega) (by omega) (by omega) (by omega)
    k_whole
    intro t6 h9 tk9 F9 N9
    (try dsimp only)
    clear F8 N8 F7 N7
    k_steps
    rename (∀ p ∈ (List.append [_, _, _, _] (_ :: _) : List (Addr × Obj)), p.1 < _) => l1
    (with_reducible rename News g' L' _ (_ :: _) => N10)
    (with_reducible rename Fr g' L' _ _ => F10)
    have hDI : @LT.lt Nat _ I _ := l1 _ (List.mem_append_right _ (.head _))
    refine append_wit F10 N10 ?sep (Nat.le_trans (Nat.le_of_eq hT.1) (Nat.le_trans (wits_len f0 f1 i) (Nat.le_trans (Nat.le_of_succ_le (wit_lt hi hf1)) (by decide)))) ?_
    case sep =>
      refine neD_cons (Nat.ne_of_gt (l1 _ (List.mem_append_right _ (.tail _ (.tail _ (.tail _ (.tail _ (.tail _ (.head _))))))))) ?_
      repeat (refine neD_cons (by omega) ?_)
      exact fun p hp => Nat.ne_of_gt (Nat.lt_trans (show @LT.lt Nat _ _ I by omega) (htl p hp))
    intro h11 e11 F11 N11
    clear F10 N10
    k_steps
    refine ⟨_, _, _, _, rfl, F11, N11, fun p hp => ?_, _, _, _, _, rfl, by rw [hw]; exact hT.snoc, fun p hp => ?_, pins3 rfl rfl rfl⟩
    · rcases List.mem_append.mp hp with q | q
      · exact off0 p (List.mem_append_left _ q)
      · rcases List.mem_append.mp q with q | q
        · exact off0 p (List.mem_append_right _ (List.mem_append_left _ q))
        · rcases List.mem_cons.mp q with rfl | q
          · exact off0 (_, W.listOf ys.toArray e) (List.mem_append_right _ (List.mem_append_right _ (.head _)))
          · rcases List.mem_cons.mp q with rfl | q
            · exact Nat.ne_of_gt hDI
            · exact Nat.ne_of_gt (htl p q)
    · rcases List.mem_cons.mp hp with rfl | hp
      · exact hDI
      · exact htl p hp
end Mine
end
section
open PySem PySem.W PySem.W.X PySem.W.ZRun PySem.Spec PySem.Calls PyProof.Rows
set_option maxRecDepth 100000
set_option maxHeartbeats 0
set_option linter.unusedVariables false
namespace Mine
local macro_rules | `(tactic| walk_at "call ref") => `(tactic| (k_here; (with_reducible show wpAny _ _ (call (Value.ref 135) _ _) _ _ _); refine Halt.mk ?_))
local macro_rules | `(tactic| walk_at "exec Return some") => `(tactic| (k_here; (with_reducible show wpAny _ _ (exec (Stmt.Return (some (Expr.ListComp _ _ _ _)) _) _) _ _ _); refine Halt.mk ?_))
theorem News.ord9 {h₀ h : Heap} {L : Addr} {D a b c d a' b' c' d' : Addr × Obj} (N : News h₀ L h [D, a', b', c', d', a, b, c, d]) : News h₀ L h ([a, b, c, d, a', b', c', d'] ++ [D]) :=
  News.drop N fun p hp => by
    simp only [List.mem_cons, List.mem_append, List.not_mem_nil, or_false] at hp ⊢
    rcases hp with (q | q | q | q | q | q | q | q) | q <;> simp [q]
theorem nin8 {a b c d e f g h x : Nat} (h1 : x ≠ a) (h2 : x ≠ b) (h3 : x ≠ c) (h4 : x ≠ d) (h5 : x ≠ e) (h6 : x ≠ f) (h7 : x ≠ g) (h8 : x ≠ h) : x ∉ [a, b, c, d, e, f, g, h] := by simp [h1, h2, h3, h4, h5, h6, h7, h8]
noncomputable def dv (zs : List (Int × Int × Int)) : List Int := zs.filterMap fun z => if z.2.2 - z.2.1 = z.1 then some z.1 else none
noncomputable def DK (base : List (Addr × Obj)) (zs : List (Int × Int × Int)) (i : Nat) (ys : List Value) (nw : List (Addr × Obj)) : Prop := nw = base ∧ IntsAre ys (dv (zs.take i))
theorem dv_no {zs : List (Int × Int × Int)} {j : Nat} {z : Int × Int × Int} {ys : List Value} (hz : zs[j]? = some z) (h : z.2.2 - z.2.1 ≠ z.1) (hI : IntsAre ys (dv (zs.take j))) : IntsAre ys (dv (zs.take (j + 1))) := by
  rw [List.take_add_one, hz]
  unfold dv at hI ⊢
  rw [List.filterMap_append]
  simpa [h] using hI
theorem dv_yes {zs : List (Int × Int × Int)} {j : Nat} {z : Int × Int × Int} {ys : List Value} {t : Tok} (hz : zs[j]? = some z) (h : z.2.2 - z.2.1 = z.1) (hI : IntsAre ys (dv (zs.take j))) : IntsAre (ys ++ [.int z.1 t]) (dv (zs.take (j + 1))) := by
  rw [List.take_add_one, hz]
  unfold dv at hI ⊢
  rw [List.filterMap_append]
  have : ∀ {vs : List Value} {ns : List Int}, IntsAre vs ns → IntsAre (vs ++ [.int z.1 t]) (ns ++ [z.1]) := by
    intro vs ns h
    induction h with
    | nil => exact .cons _ _ .nil
    | cons n u _ ih => exact .cons n u ih
  simpa [h] using this hI
theorem tabs_cps : ∀ k : Nat, k < 13 → (Txt.mul (Str.ofString " ") (k : Int) ++ Str.ofString "\t").cps.toList = List.replicate k 32 ++ 9 :: List.replicate 0 32 := by
  intro k hk
  have : k = 0 ∨ k = 1 ∨ k = 2 ∨ k = 3 ∨ k = 4 ∨ k = 5 ∨ k = 6 ∨ k = 7 ∨ k = 8 ∨ k = 9 ∨ k = 10 ∨ k = 11 ∨ k = 12 := c13 k hk
  rcases this with rfl | rfl | rfl | rfl | rfl | rfl | rfl | rfl | rfl | rfl | rfl | rfl | rfl <;> decide +kernel
theorem divisors_ok {w : World} {p : Program} {loose : List Str} {mean : ExcName → Option Value} {mg mb : Str → Option Value} (k : Nat) (u : Tok) (hk1 : 2 ≤ k) (hk2 : k ≤ 12) :
  Amb w p loose mean mg mb 20 200 (fun A base h₀ L m rest s Q E =>
    News h₀ L s.heap rest →
    (∀ (x : Addr) (e : Nat) (ys : List Value) (h' : Heap) (tk' : Nat), Fr h₀ L h' m → News h₀ L h' ((x, listOf ys.toArray e) :: rest) → GnNe x rest → IntsAre ys (dv (wits (k - 1) k (k + 1))) → Q (.ref x) { s with heap := h', toks := tk' }) →
    wpAny (model PySem.Challenge.rw_tl0052_01.row.prog w) A (call (.ref 318) [.int (k : Int) u]) Q E s) := by
  unfold Amb
  k_fill
  intro dp un gd cn cs a ccd cl outer A₀ base h₀ L m news s Q E B F X N0 T hk hd hu N hret
  refine wpAny_call ?_
  refine' code_defS (binds := [(Str.ofString "step", .int (k : Int) u)]) (small := []) (rest := news) B F X N dis_nil T ?kA ?kF ?kK ?k6 ?k7 ?k8 ?k9 ?kB ?_ ?c2 ?c3 ?c4 ?c5
  case kA => exact rfl
  case kF => exact rfl
  case kK => assumption
  case k6 => k_dflt k_is
  case k7 => k_dflt k_is
  case k8 => k_dflt ktr_room
  case k9 => k_dflt (first | exact BindsTo.of_eq rfl | exact binds_K (by k_in) rfl (by k_is) rfl rfl rfl)
  case c5 => k_dflt decide
  case kB => k_dflt (exact locs rfl)
  case c2 => k_dflt (exact rfl)
  case c3 => k_dflt (exact rfl)
  case c4 => k_dflt (exact rfl)
  k_whole
  intro g' L' h' FG' F' N' B' X' T' hlt' hrest'
  (try k_lt hlt')
  (try dsimp only)
  (try k_fold)
  clear N0 N
  have e9 : (k : Int) - 1 = ((k - 1 : Nat) : Int) := by omega
  have hx0 : (Txt.mul (Str.ofString " ") ((k : Int) - 1) ++ Str.ofString "\t").cps.toList = List.replicate (k - 1) 32 ++ 9 :: List.replicate 0 32 := by rw [e9]; exact tabs_cps _ (by omega)
  have hx1 : (Txt.mul (Str.ofString " ") (k : Int) ++ Str.ofString "\t").cps.toList = List.replicate k 32 ++ 9 :: List.replicate 0 32 := tabs_cps _ (by omega)
  have h012 : (0 : Nat) ≤ 12 := by decide
  have hk112 : k - 1 ≤ 12 := by omega
  clear e9
  k_steps
  change wpAny _ _ (call (Value.ref 135) _ _) _ _ _
  k_dflt (refine' ws_ok _ _ _ _ ?hx_u0 ?a_u0 ?b_u0 (by k_asm) (by k_asm) (by k_asm) (by k_asm) (by k_asm) (by first | exact rfl | assumption) (by ktr_room) (by ktr_units) ?_; (case hx_u0 => with_reducible assumption); (case a_u0 => with_reducible assumption); (case b_u0 => with_reducible assumption); k_whole)
  intro ozu0 dzu0 qzu0 czu0 vszu0 k1zu0 k2zu0 k3zu0 k4zu0 k5zu0 tnzu0 ttzu0 tbzu0 bszu0 hzu0 tkzu0 Fzu0 Nzu0 hIzu0 l1zu0 l2zu0 l3zu0 l4zu0
  (try dsimp only)
  (try k_lt l4zu0)
  (try k_sweep)
  k_steps
  change wpAny _ _ (call (Value.ref 135) _ _) _ _ _
  k_dflt (refine' ws_ok _ _ _ _ ?hx_u1 ?a_u1 ?b_u1 (by k_asm) (by k_asm) (by k_asm) (by k_asm) (by k_asm) (by first | exact rfl | assumption) (by ktr_room) (by ktr_units) ?_; (case hx_u1 => with_reducible assumption); (case a_u1 => with_reducible assumption); (case b_u1 => with_reducible assumption); k_whole)
  intro ozu1 dzu1 qzu1 czu1 vszu1 k1zu1 k2zu1 k3zu1 k4zu1 k5zu1 tnzu1 ttzu1 tbzu1 bszu1 hzu1 tkzu1 Fzu1 Nzu1 hIzu1 l1zu1 l2zu1 l3zu1 l4zu1
  (try dsimp only)
  (try k_lt l4zu1)
  (try k_sweep)
  k_steps
  refine wpAny_Return_some ?_
  refine lc_start (cl := []) (by with_unfolding_all rfl) rfl (by decide) rfl ?_
  k_steps
  (with_reducible rename News g' L' _ (_ :: _) => N9)
  refine' witness_ok _ _ (k - 1) k _ _ _ _ _ _ _ _ _ _ _ _ _ _ _ _ _ _ _ _ _ _ _ _ _ _ _ _ _ _ ?hI0 ?hf0 ?hI1 ?hf1 ?h01 ?k1 ?k2 ?k3 (fun p hp => News.ord9 N9 p (List.mem_append_right _ hp)) ?k5 ?kK ?kd ?ku (News.ord9 N9) ?kdis ?r1 ?r2 ?r3 ?r4 ?r5 ?r6 ?r7 ?_
  case k1 => k_asm
  case k2 => k_asm
  case k3 => k_asm
  case k5 => k_asm
  case kK => first | exact rfl | assumption
  case kd => ktr_room
  case ku => ktr_units
  case hI0 => with_reducible assumption
  case hI1 => with_reducible assumption
  case hf0 => omega
  case hf1 => omega
  case h01 => omega
  case kdis => (intro p hp; rw [List.mem_singleton.mp hp]; refine nin8 ?_ ?_ ?_ ?_ ?_ ?_ ?_ ?_ <;> (dsimp only; omega))
  all_goals try omega
  k_whole
  intro al e ys tl h8 tk8 F8 N8 hT
  dsimp only
  generalize hB : (tl ++ _ : List (Addr × Obj)) = base9 at N8
  have htl : ∀ p ∈ tl, p ∈ base9 := fun p hp => hB ▸ List.mem_append_left _ hp
  clear hB
  refine iter_list F8 N8 (.head _) ?_
  intro I h9 hI9 F9 N9'
  refine comp_in accList rfl F9 N9' (.head _) (by decide) rfl rfl rfl (fun _ _ => rfl) (fun _ _ => rfl) list_self ?_
  intro D0 C0 oC0 h10 tk10 F10 N10 hC10 ltD ltC
  have zI := N10 _ (.tail _ (.tail _ (.head _)))
  have hID : @LT.lt Nat _ I D0 := ltD _ (.head _)
  have N11 := News.rm2 N10
  refine' cgen rfl rfl (ct_list _ _ _ _ _ _ _ _ _) (Walks.list rfl _ _ (Nat.ne_of_lt (hI9 _ (.head _))) _) (fun i h st => by obtain ⟨o, e, _⟩ := st.1; exact ⟨o, e⟩) LCg.list_st (JL D0 (DK _ (wits (k - 1) k (k + 1)))) ?hS ⟨⟨_, zI.1, rfl, rfl⟩, News.isList (items := ys.toArray) N10 (.tail _ (.tail _ (.tail _ (.head _))))⟩ F10 N11 hC10 zI.2.1 zI.2.2 (off_of hI9 hID ltC) (Nat.ne_of_gt (Nat.lt_trans hID ltC)) ⟨[], _, rfl, Nat.le_refl _, rfl, .nil⟩ ?turn2 ?done2
  case hS =>
    rintro i nw ⟨ys', nw, rfl, hl, rfl, hc⟩
    exact srcAt_of (.tail _ (.head _))
  case done2 =>
    intro h12 tk12 oC12 m12 news12 hJ2 F12 N12 hC12 offC12
    obtain ⟨ys2, rfl, hlen2, hcnt⟩ := hJ2.out fun _ _ h => h
    refine cpost F12 N12 hC12 offC12 ?_
    intro h13 F13 N13
    clear F12 N12 F10 N10 N11 F9 N9'
    have hfull : (wits (k - 1) k (k + 1)).take ys.toArray.size = wits (k - 1) k (k + 1) := by
      rw [List.size_toArray, hT.1, List.take_length]
    rw [hfull] at hcnt
    dsimp only
    k_steps
    (with_reducible rename News h₀ L _ (_ :: _) => kN)
    (with_reducible rename News h₀ L _ news => nR)
    exact hret _ _ _ _ _ (by k_asm) (News.app (a := [_]) (News.drop kN fun p hp => by rw [List.mem_singleton.mp hp]; exact .head _) nR) (gnNe_rest N13 hrest') hcnt
  case turn2 =>
    intro j v2 oI2 oC2 m3 news2 h11 tk11 hj hP2 hst2 hJ2 F11 N11' hC11 off11
    obtain ⟨ys2, rfl, hlen2, hcnt⟩ := hJ2.out fun _ _ h => h
    have hjz : j < (wits (k - 1) k (k + 1)).length := by rw [← hT.1]; simpa using hj
    obtain ⟨z, hz⟩ : ∃ z, (wits (k - 1) k (k + 1))[j]? = some z := ⟨_, List.getElem?_eq_getElem hjz⟩
    obtain ⟨t, u1, u2, u3, e3, hy, hmt⟩ := hT.2 j z hz
    have hv2 : v2 = Value.ref t := by
      rw [List.getElem?_toArray, hy] at hP2
      exact (Option.some.inj hP2).symm
    subst hv2
    have hlz := wits_len (k - 1) k (k + 1)
    refine wpAny_letOwnedTupleGo_listiter hst2.1 ?_
    refine comp_assign_triple rfl F11 N11' (N11' _ (.tail _ (.tail _ (.tail _ (.tail _ (htl _ hmt)))))).1 hC11 off11 (Nat.ne_of_gt (Nat.lt_trans hID ltC)) rfl rfl rfl rfl (by decide) (by decide) (by decide) ?_
    intro h12 tk12 oC12 m12 F12 N12 hC12 e1 e2 e3'
    refine wpAny_tests_one ?_
    clear F11 N11' hP2 hst2 F10 N10 N11 F9 N9'
    k_steps
    · rename _ = _ => a9
      refine body_list ?_
      k_steps
      refine tl_end F12 N12 hC12 off11 (fun p hp => Nat.ne_of_lt (ltD p (.tail _ hp))) hlen2 (by rw [PySem.sizeLine_eq]; omega) ⟨rfl, dv_yes hz a9 hcnt⟩
    · rename _ ≠ _ => a9
      refine tl_no F12 N12 hC12 off11 hlen2 ⟨rfl, dv_no hz a9 hcnt⟩
end Mine
end
section
open PySem PySem.W PySem.Calls PyProof.Rows
set_option maxRecDepth 100000
set_option maxHeartbeats 0
set_option linter.unusedVariables false
namespace Mine
noncomputable def SetIs (led : Bool) (hs : List Int) (o : Obj) : Prop :=
  ∃ es ep, o = { cls := .type "set", dict := none, data := .set es ep (tabOf led hs) } ∧ es.toList.map (·.1) = hs ∧ ∀ e ∈ es.toList, ∃ t, e.2 = Value.int e.1 t
theorem states_vals : (states.all fun hs => hs.all fun v => svals.contains v) = true := by decide +kernel
theorem mem_vals {hs : List Int} (h : hs ∈ states) {v : Int} (hv : v ∈ hs) : v ∈ svals := by
  have := List.all_eq_true.mp (List.all_eq_true.mp states_vals hs h) v hv
  simpa using this
theorem tabOf_plain (led : Bool) (hs : List Int) : (tabOf led hs).plain = true := by unfold tabOf; split <;> rfl
theorem tabOf_led (led : Bool) (hs : List Int) : (tabOf led hs).led = led := by unfold tabOf; split <;> rfl
section
variable {prog : Program} {w : World} {A : Around} {E : Value → Shared → Prop} {s : Shared}
theorem hash_val {v : Int} (hv : v ∈ svals) : (intKind prog w).hash v = v := by
  simp only [svals, List.mem_cons, List.not_mem_nil, or_false] at hv
  rcases hv with rfl | rfl | rfl | rfl | rfl | rfl | rfl <;> rfl
theorem SetIs.elems {led : Bool} {hs : List Int} {es : Array (Int × Value)} (h1 : es.toList.map (·.1) = hs) (h2 : ∀ e ∈ es.toList, ∃ t, e.2 = Value.int e.1 t) (hst : hs ∈ states) : ElemsOf (intKind prog w) es.toList := fun e he => by
  obtain ⟨t, ht⟩ := h2 e he
  have hv : e.1 ∈ svals := mem_vals hst (h1 ▸ List.mem_map_of_mem he)
  refine ⟨⟨e.1, ?_, (hash_val hv).symm⟩, ?_⟩
  · rw [ht]; exact intKind_is _ _ _ _
  · rw [ht]; rfl
theorem map_insertAt (es : Array (Int × Value)) (p : Nat) (x : Int × Value) : (SetTable.insertAt es p x).toList.map (·.1) = (SetTable.insertAt (es.toList.map (·.1)).toArray p x.1).toList := by
  rw [SetTable.toList_insertAt, SetTable.toList_insertAt]
  simp
theorem map_filterMap (order : Array Nat) (es : Array (Int × Value)) : (order.filterMap (es[·]?)).toList.map (·.1) = (order.filterMap ((es.toList.map (·.1)).toArray[·]?)).toList := by
  rw [Array.toList_filterMap, Array.toList_filterMap, List.map_filterMap]
  congr 1
  funext i
  simp [← Array.getElem?_toList]
theorem nextOf_spec {led : Bool} {hs hs' : List Int} {v : Int} {x : Value} {es : Array (Int × Value)} (h1 : es.toList.map (·.1) = hs) (e : nextOf led hs v = some hs') :
    ∃ es1 t1, layNew (tabOf led hs) es v x = (es1, t1, false, false) ∧ t1.plain = true ∧ es1.toList.Perm (es.push (v, x)).toList ∧ t1.fits es1.size = true ∧
      ((t1.tooFull = true ∧ ∃ es2, relayAll t1 es1 (SetTable.grown es1.size) = (es2, tabOf led hs', false) ∧ es2.toList.map (·.1) = hs' ∧ es2.toList.Perm es1.toList ∧ (tabOf led hs').fits es2.size = true) ∨ (t1.tooFull = false ∧ t1 = tabOf led hs' ∧ es1.toList.map (·.1) = hs')) := by
  subst h1
  unfold nextOf at e
  split at e
  · rename_i slot hfs
    dsimp only at e
    split at e
    · cases e
    · rename_i hfit
      have hfit : ((tabOf led (es.toList.map (·.1))).put slot).1.fits (SetTable.insertAt (es.toList.map (·.1)).toArray ((tabOf led (es.toList.map (·.1))).put slot).2 v).toList.length = true := by simpa using hfit
      have hL : layNew (tabOf led (es.toList.map (·.1))) es v x = (SetTable.insertAt es ((tabOf led (es.toList.map (·.1))).put slot).2 (v, x), ((tabOf led (es.toList.map (·.1))).put slot).1, false, false) := by
        have hz : (SetTable.insertAt es ((tabOf led (es.toList.map (·.1))).put slot).2 (v, x)).size = (SetTable.insertAt (es.toList.map (·.1)).toArray ((tabOf led (es.toList.map (·.1))).put slot).2 v).toList.length := by
          have := congrArg List.length (map_insertAt es ((tabOf led (es.toList.map (·.1))).put slot).2 (v, x))
          simpa using this
        unfold layNew
        rw [hfs]
        dsimp only
        unfold SetTable.orStandIn
        rw [hz, hfit]
        simp
      have hp : (SetTable.insertAt es ((tabOf led (es.toList.map (·.1))).put slot).2 (v, x)).toList.Perm (es.push (v, x)).toList := SetTable.insertAt_perm _ _ _
      have hz : (SetTable.insertAt es ((tabOf led (es.toList.map (·.1))).put slot).2 (v, x)).size = (SetTable.insertAt (es.toList.map (·.1)).toArray ((tabOf led (es.toList.map (·.1))).put slot).2 v).toList.length := by
        have := congrArg List.length (map_insertAt es ((tabOf led (es.toList.map (·.1))).put slot).2 (v, x))
        simpa using this
      refine ⟨_, _, hL, tabOf_plain led _, hp, hz ▸ hfit, ?_⟩
      split at e
      · rename_i hfull
        refine .inl ⟨hfull, ?_⟩
        split at e
        · rename_i t'' order hr
          split at e
          · rename_i hc
            cases e
            simp only [Bool.and_eq_true, decide_eq_true_eq] at hc
            obtain ⟨⟨hc1, hc2⟩, hc3⟩ := hc
            have hm := map_insertAt es ((tabOf led (es.toList.map (·.1))).put slot).2 (v, x)
            generalize SetTable.insertAt es ((tabOf led (es.toList.map (·.1))).put slot).2 (v, x) = es1 at *
            generalize SetTable.insertAt (es.toList.map (·.1)).toArray ((tabOf led (es.toList.map (·.1))).put slot).2 v = hsA at *
            have ha : es1.map (·.1) = hsA := by
              apply Array.toList_inj.mp
              rw [Array.toList_map]; exact hm
            have hm2 := map_filterMap order es1
            have ha2 : (es1.toList.map (·.1)).toArray = hsA := by rw [hm]
            rw [ha2] at hm2
            have hsA2 : hsA.toList.toArray = hsA := by simp
            rw [hsA2] at hr hc2 hc3
            have hz2 : (order.filterMap (es1[·]?)).size = (order.filterMap (hsA[·]?)).toList.length := by
              have := congrArg List.length hm2
              rw [List.length_map, Array.length_toList] at this
              exact this
            have hrel : relayAll ((tabOf led (es.toList.map (·.1))).put slot).1 es1 (SetTable.grown es1.size) = (order.filterMap (es1[·]?), t'', false) := by
              unfold relayAll
              rw [ha, hz, hr]
              dsimp only
              rw [if_pos]
              rw [Bool.and_eq_true]
              exact ⟨hc1, hz2 ▸ hc2⟩
            have hperm := relayAll_perm ((tabOf led (es.toList.map (·.1))).put slot).1 es1 (SetTable.grown es1.size)
            rw [hrel] at hperm
            rw [hsA2]
            refine ⟨_, by rw [hrel, hc3], hm2, hperm, ?_⟩
            rw [← hc3, hz2]; exact hc2
          · cases e
        · cases e
      · rename_i hfull
        refine .inr ⟨by simpa using hfull, ?_⟩
        split at e
        · rename_i he
          cases e
          exact ⟨he, map_insertAt es _ (v, x)⟩
        · cases e
  · cases e
theorem fits_bound {led : Bool} {hs : List Int} (h : hs ∈ states) : hs.length ≤ 7 := by
  have key : (states.all fun hs => decide (hs.length ≤ 7)) = true := by decide +kernel
  simpa using List.all_eq_true.mp key hs h
theorem hashed_add {a : Addr} {o : Obj} {led : Bool} {hs : List Int} {v : Int} {tk : Tok} {Q : Bool → Shared → Prop} (ho : s.heap.get? a = some o) (hS : SetIs led hs o) (hst : hs ∈ states) (hv : v ∈ svals)
    (h : ∀ b h' o' hs', Heap.SameBut a s.heap h' → h'.get? a = some o' → SetIs led hs' o' → hs' ∈ states → (v ∈ hs → hs' = hs) → (v ∉ hs → hs'.Perm (hs ++ [v])) → Q b { s with heap := h' }) :
    wpAny (model prog w) A (setAddHashed a (.int v tk) ((intKind prog w).hash v)) Q E s := by
  obtain ⟨es, ep, rfl, h1, h2⟩ := id hS
  have hel := SetIs.elems (prog := prog) (w := w) (led := led) h1 h2 hst
  have hsz : es.size = hs.length := by rw [← h1]; simp
  have hf : (tabOf led hs).fits es.size = true := by rw [hsz]; exact (walk_ok led hst).1
  have h7 := fits_bound (led := led) hst
  have hb : es.size < scanBound := by rw [hsz]; unfold scanBound; omega
  have hkey : (intKind prog w).is v (.int v tk) = true := intKind_is _ _ _ _
  unfold setAddHashed setAddHashedIn
  refine wpAny_holding (wpAny_bind (wpAny_setState_of ho rfl hf ?_))
  dsimp only
  rw [byScan_of (knd := intKind prog w) rfl hb hel]
  simp only [↓reduceIte]
  unfold setAddByScan
  refine wpAny_bind ?_
  refine wpAny_bind (wpAny_rule ?_)
  refine wpAny_bind (wpAny_setScan_of (knd := intKind prog w) hkey ho rfl hf hel ?_)
  cases hr : List.findIdx? (fun e => (intKind prog w).is v e.2) es.toList with
  | some j =>
    dsimp only
    obtain ⟨hj, hpj, _⟩ := List.findIdx?_eq_some_iff_getElem.mp hr
    have hin : v ∈ hs := by
      obtain ⟨t, ht⟩ := h2 _ (List.getElem_mem hj)
      rw [ht] at hpj
      have e : es.toList[j].1 = v := (intKind prog w).inj _ _ _ (intKind_is _ _ _ _) hpj
      rw [← e, ← h1]
      exact List.mem_map_of_mem (List.getElem_mem hj)
    refine wpAny_pure (wpAny_pure ?_)
    have := h false s.heap _ hs (Heap.SameBut.refl a s.heap) ho hS hst (fun _ => rfl) (fun hn => absurd hin hn)
    cases s; exact this
  | none =>
    dsimp only
    have hout : v ∉ hs := fun hin => by
      rw [← h1] at hin
      obtain ⟨e, he, rfl⟩ := List.mem_map.mp hin
      obtain ⟨t, ht⟩ := h2 e he
      have := List.findIdx?_eq_none_iff.mp hr e he
      rw [ht, intKind_is] at this
      cases this
    obtain ⟨hs', hnx, hst'⟩ := next_ok led hst hv hout
    rw [hash_val hv]
    obtain ⟨es1, t1, hL, hpl, hperm, hfit1, alt⟩ := nextOf_spec (x := .int v tk) h1 hnx
    have h2' : ∀ e ∈ es1.toList, ∃ t, e.2 = Value.int e.1 t := fun e he => by
      have := hperm.mem_iff.mp he
      rw [Array.toList_push] at this
      rcases List.mem_append.mp this with q | q
      · exact h2 e q
      · rw [List.mem_singleton] at q; subst q; exact ⟨tk, rfl⟩
    have hp1 : (es1.toList.map (·.1)).Perm (hs ++ [v]) := by
      have := hperm.map (·.1)
      rw [Array.toList_push, List.map_append, h1] at this
      exact this
    have hz1 : es1.size ≤ 8 := by
      have := hp1.length_eq
      simp only [List.length_map, Array.length_toList, List.length_append, List.length_singleton] at this
      omega
    have hfz1 : es1.size ≤ sizeLine := by rw [sizeLine_eq]; omega
    rw [hL]
    dsimp only
    refine wpAny_bind (wpAny_pure ?_)
    rw [hpl]
    simp only [↓reduceIte]
    refine wpAny_bind ?_
    rw [hashByValue_scannable 8 (by rfl)]
    refine wpAny_pure ?_
    have hg1 : (s.heap.update a (Obj.putSet es1 t1)).get? a = some { cls := .type "set", dict := none, data := .set es1 (ep + 1) t1 } := by
      have := Heap.get?_update_self (Obj.putSet es1 t1) ho (by rw [putSet_of es1 t1 rfl]; rfl)
      rw [putSet_of es1 t1 rfl] at this; exact this
    have hsb1 := Heap.SameBut.update s.heap a (Obj.putSet es1 t1)
    have e1 : (if plainKind (Value.int v tk) = true then t1 else { t1 with plain := false }) = t1 := if_pos rfl
    rw [e1]
    refine wpAny_bind (wpAny_storeSet_of ho rfl ?_ hfz1)
    rcases alt with ⟨hfull, es2, hR, hm2, hp2, hf2⟩ | ⟨hfull, rfl, hm1⟩
    · rw [hfull]
      simp only [Bool.not_false, Bool.and_self, ↓reduceIte]
      rw [hR]
      dsimp only
      refine wpAny_bind (wpAny_pure ?_)
      have hz2 : es2.size ≤ sizeLine := by
        have := hp2.length_eq
        simp only [Array.length_toList] at this
        rw [this]; exact hfz1
      refine wpAny_bind (wpAny_storeSet_of hg1 rfl ?_ hz2)
      refine wpAny_pure (wpAny_pure ?_)
      have hg2 : ((s.heap.update a (Obj.putSet es1 t1)).update a (Obj.putSet es2 (tabOf led hs'))).get? a = some { cls := .type "set", dict := none, data := .set es2 (ep + 1 + 1) (tabOf led hs') } := by
        have := Heap.get?_update_self (Obj.putSet es2 (tabOf led hs')) hg1 (by rw [putSet_of es2 (tabOf led hs') rfl]; rfl)
        rw [putSet_of es2 (tabOf led hs') rfl] at this; exact this
      refine h true _ _ hs' (hsb1.trans (Heap.SameBut.update _ a _)) hg2 ⟨es2, _, rfl, hm2, fun e he => h2' e (hp2.mem_iff.mp he)⟩ hst' (fun hin => absurd hin hout) fun _ => ?_
      rw [← hm2]
      exact (hp2.map _).trans hp1
    · rw [hfull]
      simp only [Bool.not_false, Bool.and_false, Bool.false_eq_true, ↓reduceIte]
      refine wpAny_pure (wpAny_pure ?_)
      refine h true _ _ hs' hsb1 hg1 ⟨es1, _, rfl, hm1, h2'⟩ hst' (fun hin => absurd hin hout) fun _ => ?_
      rw [← hm1]; exact hp1
theorem set_add_fin {a : Addr} {o : Obj} {led : Bool} {hs : List Int} {v : Int} {tk : Tok} {Q : Value → Shared → Prop} (ho : s.heap.get? a = some o) (hS : SetIs led hs o) (hst : hs ∈ states) (hv : v ∈ svals)
    (h : ∀ h' o' hs', Heap.SameBut a s.heap h' → h'.get? a = some o' → SetIs led hs' o' → hs' ∈ states → (v ∈ hs → hs' = hs) → (v ∉ hs → hs'.Perm (hs ++ [v])) → Q .none { s with heap := h', toks := s.toks + 1 }) :
    wpAny (model prog w) A (call (.builtin "set.add") [.ref a, .int v tk]) Q E s := by
  have hT : s.TypeIs (.ref a) "set" := by obtain ⟨es, ep, rfl, _⟩ := hS; exact ⟨_, ho, rfl⟩
  refine wpAny_call_entry F.slot_set_add hT F.entry_set_add ?_ (F.args_set_add_2 _ _)
  unfold Builtin.«set.add» Builtin.Frozenset.oneOther
  simp only [List.isEmpty_nil, bind_assoc]
  unfold Builtin.Frozenset.addrOf setAdd
  refine wpAny_bind (wpAny_pure ?_)
  try dsimp only
  refine wpAny_bind (wpAny_pure ?_)
  try dsimp only
  refine wpAny_bind ?_
  refine wpAny_holding ?_
  refine wpAny_bind ((intKind prog w).pyHash (intKind_is _ _ _ _) ?_)
  refine hashed_add (s := { s with toks := s.toks + 1 }) ho hS hst hv fun b h' o' hs' hsb ho' hS' hst' hin hout => ?_
  show wpAny _ _ (ret Value.none) _ _ _
  exact wpAny_pure ⟨_, rfl, h h' o' hs' hsb ho' hS' hst' hin hout⟩
end
end Mine
end
section
open PySem PySem.W PySem.Calls PyProof.Rows
set_option maxRecDepth 100000
set_option maxHeartbeats 0
set_option linter.unusedVariables false
namespace Mine
theorem owner_set_iterator : Manifest.owners.lookup (String.ofList ['r', 'o', 't', 'a', 'r', 'e', 't', 'i', '_', 't', 'e', 's'].reverse) = some Manifest.sig_set_iterator := by kernel_rfl
theorem slot_si_iter : Slot "set_iterator" "__iter__" "set_iterator.__iter__" :=
  .of (owner := "set_iterator") (n := "__iter__") (by rw [typeLookup_type, builtinLookup_eq_fast]; kernel_rfl) (by decide +kernel) (by decide +kernel) (by decide +kernel)
    (by first | exact .inl (by decide +kernel) | exact .inr (by decide +kernel)) (by rw [isSubtype_type]; kernel_rfl)
theorem entry_si_iter : entryFor table "set_iterator.__iter__" = some Builtin.«dict_keyiterator.__iter__» :=
  entryFor_alias (id' := "dict_keyiterator.__iter__") (by kernel_rfl) rfl (by decide +kernel) (by kernel_rfl)
theorem args_si_iter (a : Value) : argsOk "set_iterator.__iter__" ⟨[a], []⟩ := by
  unfold argsOk; rw [signature?_of (id := "set_iterator.__iter__") (n := ['_', '_', 'r', 'e', 't', 'i', '_', '_']) (o := ['r', 'o', 't', 'a', 'r', 'e', 't', 'i', '_', 't', 'e', 's']) (by kernel_rfl) owner_set_iterator]; kernel_rfl
theorem slot_si_next : Slot "set_iterator" "__next__" "set_iterator.__next__" :=
  .of (owner := "set_iterator") (n := "__next__") (by rw [typeLookup_type, builtinLookup_eq_fast]; kernel_rfl) (by decide +kernel) (by decide +kernel) (by decide +kernel)
    (by first | exact .inl (by decide +kernel) | exact .inr (by decide +kernel)) (by rw [isSubtype_type]; kernel_rfl)
theorem entry_si_next : entryFor table "set_iterator.__next__" = some Builtin.«set_iterator.__next__» := entryFor_of_tree (by kernel_rfl)
theorem args_si_next (a : Value) : argsOk "set_iterator.__next__" ⟨[a], []⟩ := by
  unfold argsOk; rw [signature?_of (id := "set_iterator.__next__") (n := ['_', '_', 't', 'x', 'e', 'n', '_', '_']) (o := ['r', 'o', 't', 'a', 'r', 'e', 't', 'i', '_', 't', 'e', 's']) (by kernel_rfl) owner_set_iterator]; kernel_rfl
theorem entry_set_iter : entryFor table "set.__iter__" = some Builtin.«frozenset.__iter__» :=
  entryFor_alias (id' := "frozenset.__iter__") (by kernel_rfl) rfl (by decide +kernel) (by kernel_rfl)
abbrev byText (w : World) : Bool := w.params.followText "set-order"
abbrev siObj (slot i : Nat) (a : Addr) (n ep : Nat) : Obj := { cls := .type "set_iterator", data := .fields #[rawInt slot, rawInt i, .ref a, rawInt n, rawInt ep] }
abbrev setObj (es : Array (Int × Value)) (ep : Nat) (t : SetTable) : Obj := { cls := .type "set", dict := none, data := .set es ep t }
section
variable {prog : Program} {w : World} {A : Around} {E : Value → Shared → Prop} {s : Shared}
theorem byText_at {Q : Bool → Shared → Prop} (h : Q (byText w) s) : wpAny (model prog w) A setsByText Q E s := by
  unfold setsByText
  exact wpAny_bind (wpAny_askSetting (wpAny_pure h))
theorem pyIter_set {a : Addr} {es : Array (Int × Value)} {ep : Nat} {t : SetTable} {Q : Value → Shared → Prop} (ho : s.heap.get? a = some (setObj es ep t)) (hf : t.fits es.size = true) (hp : t.plain = true)
    (h : Q (.ref s.heap.objs.size) { s with heap := s.heap.push (siObj 0 0 a es.size ep) }) : wpAny (model prog w) A (pyIter (.ref a)) Q E s := by
  have hT : s.TypeIs (.ref a) "set" := ⟨_, ho, rfl⟩
  refine wpAny_pyIter_slot hT F.slot_set_iter (wpAny_call_entry F.slot_set_iter hT entry_set_iter ?_ (F.args_set_iter_1 _))
  unfold Builtin.«frozenset.__iter__»
  refine wpAny_bind (m := Builtin.Frozenset.slot0 _ _) (wpAny_pure ?_)
  unfold Builtin.Frozenset.sizeOf
  refine wpAny_bind (wpAny_bind (wpAny_setEntries_of ho rfl hf (wpAny_pure ?_)))
  unfold setDrawn
  refine wpAny_bind (wpAny_bind (wpAny_setState_of ho rfl hf ?_))
  dsimp only
  refine wpAny_bind (byText_at ?_)
  refine wpAny_pure ?_
  refine wpAny_ite_split (fun hab => absurd hab ?_) (fun _ => ?_)
  · show ¬ ((!(byText w) && (!t.plain && decide (es.size > 1))) = true)
    rw [hp]; simp
  refine wpAny_bind (wpAny_pure ?_)
  unfold setEpoch
  refine wpAny_bind (wpAny_bind (wpAny_setState_of ho rfl hf (wpAny_pure ?_)))
  refine wpAny_bind (wpAny_newObj_type (wpAny_pure ⟨_, rfl, "set_iterator", _, ⟨_, Heap.get?_push_size _ rfl, rfl⟩, slot_si_next.lookup, ?_⟩))
  exact h
theorem pyIter_si {I a : Addr} {slot i n ep : Nat} {Q : Value → Shared → Prop} (hI : s.heap.get? I = some (siObj slot i a n ep)) (h : Q (.ref I) s) : wpAny (model prog w) A (pyIter (.ref I)) Q E s := by
  have hT : s.TypeIs (.ref I) "set_iterator" := ⟨_, hI, rfl⟩
  refine wpAny_pyIter_slot hT slot_si_iter (wpAny_call_entry slot_si_iter hT entry_si_iter ?_ (args_si_iter _))
  show wpAny _ _ (ret (.ref I)) _ _ s
  exact wpAny_pure ⟨_, rfl, "set_iterator", _, hT, slot_si_next.lookup, h⟩
noncomputable def ordOf (w : World) (a : Addr) (ep : Nat) (es : Array (Int × Value)) : Array (Int × Value) := if byText w then pickOrder (w.params.setOrder a ep) es else es
theorem setWalk_text {a : Addr} {es : Array (Int × Value)} {ep : Nat} {t : SetTable} {Q : Array (Int × Value) → Shared → Prop} (ho : s.heap.get? a = some (setObj es ep t)) (hf : t.fits es.size = true) (hb : byText w = true)
    (h : Q (pickOrder (w.params.setOrder a ep) es) s) : wpAny (model prog w) A (setWalk a) Q E s := by
  unfold setWalk
  refine wpAny_bind (wpAny_setState_of ho rfl hf ?_)
  dsimp only
  refine wpAny_bind (byText_at ?_)
  rw [hb]
  simp only [if_true]
  exact wpAny_bind (wpAny_askSetting (wpAny_pure h))
noncomputable def nxt (x : Option (Int × Value)) (slot : Nat) : Option (Value × Nat) := x.map fun e => (e.2, slot)
theorem setNext_at {a : Addr} {es : Array (Int × Value)} {ep : Nat} {t : SetTable} {slot i : Nat} {Q : Option (Value × Nat) → Shared → Prop} (ho : s.heap.get? a = some (setObj es ep t)) (hf : t.fits es.size = true) (hp : t.plain = true) (hl : t.led = !byText w)
    (hbel : byText w = false → SetTable.below t.place slot = i) (h : Q (nxt ((ordOf w a ep es)[i]?) (if byText w then slot else t.place.getD i 0 + 1)) s) : wpAny (model prog w) A (setNext a slot i ep) Q E s := by
  unfold setNext
  refine wpAny_bind (wpAny_setState_of ho rfl hf ?_)
  dsimp only
  refine wpAny_bind (byText_at ?_)
  unfold ordOf at h
  cases hb : byText w with
  | true =>
    rw [hb] at h
    simp only [if_true, bne_self_eq_false, Bool.false_eq_true, if_false] at h ⊢
    exact wpAny_bind (setWalk_text ho hf hb (wpAny_pure h))
  | false =>
    rw [hb] at h
    simp only [Bool.false_eq_true, if_false] at h ⊢
    refine wpAny_bind (wpAny_pure ?_)
    refine wpAny_ite_split (fun hab => absurd hab ?_) (fun _ => ?_)
    · show ¬ ((!t.plain && decide (es.size > 1)) = true)
      rw [hp]; simp
    show wpAny _ _ ((if (!t.led && !es.isEmpty) = true then unsupported "set:maker-not-led" else pure ()) >>= _) _ _ _
    rw [if_neg (by rw [hl, hb]; simp)]
    refine wpAny_bind (wpAny_pure ?_)
    rw [hbel hb]
    refine wpAny_pure ?_
    have hz : t.place.size = es.size := by
      simp only [SetTable.fits, Bool.and_eq_true, beq_iff_eq] at hf
      exact hf.1
    by_cases hi : i < es.size
    · have hi' : i < t.place.size := by rw [hz]; exact hi
      have e1 : es[i]? = some es[i] := by simp [hi]
      have e2 : t.place[i]? = some t.place[i] := by simp [hi']
      rw [e1, e2]
      rw [e1] at h
      have e3 : t.place.getD i 0 = t.place[i] := by simp [Array.getD, hi']
      rw [e3] at h
      exact h
    · have e1 : es[i]? = none := by simp; omega
      rw [e1]
      rw [e1] at h
      exact h
noncomputable def slotB (w : World) (led : Bool) (hs : List Int) (i : Nat) : Nat := if byText w then 0 else slotAt led hs i
theorem pick_go_len (next : Nat → Nat) {α : Type} : ∀ (fuel k : Nat) (left : List α) (out : Array α), left.length ≤ fuel → ((pickOrder.go next fuel k left out).toList).Perm (out.toList ++ left) := by
  intro fuel
  induction fuel with
  | zero =>
    intro k left out h
    have : left = [] := List.length_eq_zero_iff.mp (Nat.le_zero.mp h)
    subst this
    simp [pickOrder.go]
  | succ n ih =>
    intro k left out h
    unfold pickOrder.go
    split
    · rename_i x hx
      obtain ⟨hlt, hx⟩ := List.getElem?_eq_some_iff.mp hx
      refine (ih _ _ _ ?_).trans ?_
      · rw [List.length_eraseIdx]; split <;> omega
      · rw [Array.toList_push, List.append_assoc]
        refine List.Perm.append_left _ ?_
        rw [← hx]
        have e1 : left.eraseIdx (next k % left.length) = left.take (next k % left.length) ++ left.drop (next k % left.length + 1) := List.eraseIdx_eq_take_drop_succ ..
        have e2 : left = left.take (next k % left.length) ++ left[next k % left.length] :: left.drop (next k % left.length + 1) := by
          rw [← List.drop_eq_getElem_cons hlt, List.take_append_drop]
        rw [e1]
        refine List.Perm.trans ?_ (List.Perm.of_eq e2.symm)
        rw [List.singleton_append]
        exact (List.perm_middle).symm
    · rename_i hx
      have hl : left = [] := by
        cases left with
        | nil => rfl
        | cons a l =>
          have : next k % (a :: l).length < (a :: l).length := Nat.mod_lt _ (Nat.succ_pos _)
          have h1 : l.length + 1 ≤ next k % (l.length + 1) := by simpa using hx
          simp only [List.length_cons] at this
          omega
      subst hl; simp
theorem ord_perm (w : World) (a : Addr) (ep : Nat) (es : Array (Int × Value)) : (ordOf w a ep es).toList.Perm es.toList := by
  unfold ordOf
  split
  · have := pick_go_len (w.params.setOrder a ep) es.size 0 es.toList #[] (by simp)
    simpa [pickOrder] using this
  · exact .rfl
theorem ord_size (w : World) (a : Addr) (ep : Nat) (es : Array (Int × Value)) : (ordOf w a ep es).size = es.size := by
  have := (ord_perm w a ep es).length_eq
  simpa using this
theorem pyNext_si_item {I a : Addr} {i ep : Nat} {es : Array (Int × Value)} {hs : List Int} {e : Int × Value} {Q : Option Value → Shared → Prop} (hst : hs ∈ states) (hsz : es.size = hs.length) (hI : s.heap.get? I = some (siObj (slotB w (!byText w) hs i) i a es.size ep))
    (ho : s.heap.get? a = some (setObj es ep (tabOf (!byText w) hs))) (hi : i ≤ es.size) (he : (ordOf w a ep es)[i]? = some e)
    (h : ∀ h', Heap.SameBut I s.heap h' → h'.get? I = some (siObj (slotB w (!byText w) hs (i + 1)) (i + 1) a es.size ep) → Q (some e.2) { s with heap := h' }) :
    wpAny (model prog w) A (pyNext (.ref I)) Q E s := by
  have hT : s.TypeIs (.ref I) "set_iterator" := ⟨_, hI, rfl⟩
  obtain ⟨hf, hb⟩ := walk_ok (!byText w) hst
  rw [← hsz] at hf hb
  unfold pyNext
  refine wpAny_bind (wpAny_attempt (wpAny_callSpecial?_slot (name := Str.ofString "__next__") hT slot_si_next
    (wpAny_call_entry slot_si_next hT entry_si_next ?_ (args_si_next _))))
  unfold Builtin.«set_iterator.__next__»
  refine wpAny_bind (m := slotArgs _ _ _) (wpAny_pure ?_)
  refine wpAny_bind (wpAny_fieldsOf hI rfl ?_)
  show wpAny _ _ (setEntries a >>= _) _ _ s
  refine wpAny_bind (wpAny_setEntries_of ho rfl hf ?_)
  refine wpAny_ite_split (fun hab => absurd hab (by simp)) (fun _ => ?_)
  show wpAny _ _ (setNext a (Int.toNat ((slotB w (!byText w) hs i : Nat) : Int)) (Int.toNat (i : Int)) (Int.toNat (ep : Int)) >>= _) _ _ s
  simp only [Int.toNat_natCast]
  refine wpAny_bind (setNext_at ho hf (tabOf_plain _ _) (tabOf_led _ _) (fun hbt => ?_) ?_)
  · unfold slotB; rw [hbt]; simp only [Bool.false_eq_true, if_false]; rw [hbt] at hb; exact hb i hi
  rw [he]
  show wpAny _ _ (setField (.ref I) 0 (rawInt _) >>= _) _ _ s
  refine wpAny_bind (wpAny_setField_rec hI (by simp) fun h1 hI1 hs1 => ?_)
  show wpAny _ _ (setField (.ref I) 1 (rawInt ((i : Int) + 1)) >>= _) _ _ _
  refine wpAny_bind (wpAny_setField_rec hI1 (by simp) fun h2 hI2 hs2 => ?_)
  refine wpAny_pure ⟨_, rfl, wpAny_pure (h h2 (hs1.trans hs2) ?_)⟩
  rw [hI2]
  have e1 : slotB w (!byText w) hs (i + 1) = if byText w = true then slotB w (!byText w) hs i else (tabOf (!byText w) hs).place.getD i 0 + 1 := by
    unfold slotB slotAt
    split <;> rfl
  rw [e1]
  simp [rawInt]
theorem pyNext_si_end {I a : Addr} {ep : Nat} {es : Array (Int × Value)} {hs : List Int} {Q : Option Value → Shared → Prop} (hh : A.handled = none) (hst : hs ∈ states) (hsz : es.size = hs.length) (hI : s.heap.get? I = some (siObj (slotB w (!byText w) hs es.size) es.size a es.size ep))
    (ho : s.heap.get? a = some (setObj es ep (tabOf (!byText w) hs)))
    (h : ∀ h', Heap.ExtBut I s.heap h' → Q none { s with heap := h' }) :
    wpAny (model prog w) A (pyNext (.ref I)) Q E s := by
  have hT : s.TypeIs (.ref I) "set_iterator" := ⟨_, hI, rfl⟩
  obtain ⟨hf, hb⟩ := walk_ok (!byText w) hst
  rw [← hsz] at hf hb
  unfold pyNext
  refine wpAny_bind (wpAny_attempt (wpAny_callSpecial?_slot (name := Str.ofString "__next__") hT slot_si_next
    (wpAny_call_entry slot_si_next hT entry_si_next ?_ (args_si_next _))))
  unfold Builtin.«set_iterator.__next__»
  refine wpAny_bind (m := slotArgs _ _ _) (wpAny_pure ?_)
  refine wpAny_bind (wpAny_fieldsOf hI rfl ?_)
  show wpAny _ _ (setEntries a >>= _) _ _ s
  refine wpAny_bind (wpAny_setEntries_of ho rfl hf ?_)
  refine wpAny_ite_split (fun hab => absurd hab (by simp)) (fun _ => ?_)
  show wpAny _ _ (setNext a (Int.toNat ((slotB w (!byText w) hs es.size : Nat) : Int)) (Int.toNat (es.size : Int)) (Int.toNat (ep : Int)) >>= _) _ _ s
  simp only [Int.toNat_natCast]
  refine wpAny_bind (setNext_at ho hf (tabOf_plain _ _) (tabOf_led _ _) (fun hbt => ?_) ?_)
  · unfold slotB; rw [hbt]; simp only [Bool.false_eq_true, if_false]; rw [hbt] at hb; exact hb es.size (Nat.le_refl _)
  have he : (ordOf w a ep es)[es.size]? = none := by simp [ord_size]
  rw [he]
  show wpAny _ _ (setField (.ref I) 2 .none >>= _) _ _ s
  refine wpAny_bind (wpAny_setField_rec hI (by simp) fun h1 hI1 hs1 => ?_)
  show wpAny _ _ (newExc (.type "StopIteration") [] >>= _) _ _ _
  refine wpAny_bind ?_
  simp only [newExc, newTuple]
  refine wpAny_bind (wpAny_newObj_type ?_ (by size_fits))
  refine wpAny_bind (m := firstArgMember _ _) (wpAny_of_eq (a := Value.none) (by first | rfl | (simp only [firstArgMember]; rfl)) ?_)
  refine wpAny_newObj_type ?_ (by size_fits)
  simp only [raiseNew]
  refine wpAny_bind (wpAny_handled ?_)
  rw [show A.in1.handled = none from hh]
  refine wpAny_bind (wpAny_pure (wpAny_throw ?_))
  refine wpAny_bind (wpAny_isInstance (T := "StopIteration") (b := true) ⟨_, Heap.get?_push_size _ rfl, rfl⟩ isSubtype_stop ?_)
  exact wpAny_pure (h _ ((hs1.extBut.push _).push _))
noncomputable def SetSt (w : World) (a I : Addr) (es : Array (Int × Value)) (ep : Nat) (hs : List Int) (i : Nat) (h : Heap) : Prop :=
  i ≤ es.size ∧ h.get? I = some (siObj (slotB w (!byText w) hs i) i a es.size ep) ∧ h.get? a = some (setObj es ep (tabOf (!byText w) hs))
theorem set_walks {I a : Addr} {ep : Nat} {es : Array (Int × Value)} {hs : List Int} (hh : A.handled = none) (hst : hs ∈ states) (hsz : es.size = hs.length) (hne : a ≠ I) :
    Walks prog w A I [I, a] [I] es.size (fun i v => ((ordOf w a ep es)[i]?).map (·.2) = some v) (SetSt w a I es ep hs) where
  sub := fun b hb => by simp at hb; simp [hb]
  frame := fun i h h' st hk => ⟨st.1, hk I (by simp) _ st.2.1, hk a (by simp) _ st.2.2⟩
  item := fun i s Q E hi st hQ => by
    obtain ⟨e, he⟩ : ∃ e, (ordOf w a ep es)[i]? = some e := by
      have : i < (ordOf w a ep es).size := by rw [ord_size]; exact hi
      exact ⟨_, Array.getElem?_eq_getElem this⟩
    refine pyNext_si_item hst hsz st.2.1 st.2.2 st.1 he fun h' hs' hI' => ?_
    exact hQ e.2 h' s.toks (by rw [he]; rfl) ⟨hi, hI', hs'.extBut _ _ hne st.2.2⟩ fun b o hb e => hs'.extBut b o (fun h => hb (by simp [h])) e
  done := fun s Q E st hQ => pyNext_si_end hh hst hsz st.2.1 st.2.2 fun h' he' => hQ h' s.toks fun b o hb e => he' b o (fun h => hb (by simp [h])) e
  self := fun i s Q E st hQ => pyIter_si st.2.1 hQ
theorem hint_set {r : Addr} {Q : Bool → Shared → Prop} (hT : s.TypeIs (.ref r) "set") (h : Q false s) : wpAny (model prog w) A (Builtin.List.listLengthHint (.ref r)) Q E s := by
  unfold Builtin.List.listLengthHint
  refine wpAny_bind (wpAny_specialOf hT PySem.F.slot_set_len.lookup ?_)
  generalize hid : ("set.__len__" : String) = id0
  wp_delta
  rw [show splitId id0 = some ("set", "__len__") from by subst hid; decide +kernel]
  subst hid
  refine wpAny_bind (wpAny_isInstance (T := "set") (b := true) hT (by rw [isSubtype_type]; kernel_rfl) ?_)
  refine wpAny_ite_split (fun hab => absurd hab (by decide)) (fun _ => ?_)
  refine wpAny_ite_split (fun _ => ?_) (fun hab => absurd (by decide +kernel) hab)
  refine wpAny_bind (wpAny_typeOf hT ?_)
  exact wpAny_pure h
theorem kdl_set {a : Addr} {ep : Nat} {es : Array (Int × Value)} {hs : List Int} (hst : hs ∈ states) (hsz : es.size = hs.length) :
    KdlSrc prog w "set" a a es.size (fun i v => ((ordOf w a ep es)[i]?).map (·.2) = some v) (fun h => h.get? a = some (setObj es ep (tabOf (!byText w) hs))) where
  type := fun _ hm => ⟨_, hm, rfl⟩
  there := fun _ hm => ⟨Heap.lt_size hm, Heap.lt_size hm⟩
  keep := fun _ _ hm hk => hk a (.inl rfl) _ hm
  notList := by decide
  notTuple := by decide
  hint := fun _ _ _ _ hm hq => hint_set ⟨_, hm, rfl⟩ hq
  iter := fun A s hh hm => by
    have hf : (tabOf (!byText w) hs).fits es.size = true := by rw [hsz]; exact (walk_ok (!byText w) hst).1
    refine ⟨siObj 0 0 a es.size ep, _, fun E Q hq => pyIter_set hm hf (tabOf_plain _ _) hq, set_walks hh hst hsz (Nat.ne_of_lt (Heap.lt_size hm)), Nat.zero_le _, ?_, Heap.get?_push_of_some _ hm⟩
    have e0 : slotB w (!byText w) hs 0 = 0 := by unfold slotB slotAt; split <;> rfl
    rw [e0]; exact Heap.get?_push_size _ rfl
theorem ints_of {es : List (Int × Value)} (h : ∀ e ∈ es, ∃ t, e.2 = Value.int e.1 t) : IntsAre (es.map (·.2)) (es.map (·.1)) := by
  induction es with
  | nil => exact .nil
  | cons e es ih =>
    obtain ⟨t, ht⟩ := h e (.head _)
    rw [List.map_cons, List.map_cons, ht]
    exact .cons _ _ (ih fun e he => h e (.tail _ he))
theorem sorted_set {h₀ : Heap} {L : Addr} {m : Str → Option Value} {news : List (Addr × Obj)} {a : Addr} {o : Obj} {hs : List Int} {Q : Value → Shared → Prop} (hh : A.handled = none) (F : Fr h₀ L s.heap m) (N : News h₀ L s.heap news) (hm : (a, o) ∈ news) (hS : SetIs (!byText w) hs o) (hst : hs ∈ states)
    (h : ∀ (D : Addr) (h' : Heap) (tk : Nat) (out : List Value) (e : Nat) (ns : List Int), Fr h₀ L h' m → News h₀ L h' ((D, listOf out.toArray e) :: news) → (∀ q ∈ news, q.1 < D) → IntsAre out ns → ns.Perm hs → ns.Pairwise (· ≤ ·) → Q (.ref D) { s with heap := h', toks := tk }) :
    wpAny (model prog w) A (call (.builtin "sorted") [.ref a]) Q E s := by
  obtain ⟨es, ep, rfl, h1, h2⟩ := hS
  have hsz : es.size = hs.length := by rw [← h1]; simp
  have h7 := fits_bound (led := true) hst
  refine kdu_sorted (kdl_set (ep := ep) hst hsz) hh F N (N _ hm).1 (by rw [hsz, sizeLine_eq]; omega) fun D h' tk vs F' N' l1 hl hv => ?_
  have hvs : vs = (ordOf w a ep es).toList.map (·.2) := by
    apply List.ext_getElem?
    intro j
    by_cases hj : j < vs.length
    · have := hv j _ (List.getElem?_eq_getElem hj)
      rw [List.getElem?_eq_getElem hj, List.getElem?_map, Array.getElem?_toList]
      exact this.symm
    · rw [List.getElem?_eq_none (by omega), List.getElem?_eq_none]
      rw [List.length_map, Array.length_toList, ord_size]; omega
  have hI : IntsAre vs ((ordOf w a ep es).toList.map (·.1)) := by
    rw [hvs]
    exact ints_of fun e he => h2 e ((ord_perm w a ep es).mem_iff.mp he)
  have hp : ((ordOf w a ep es).toList.map (·.1)).Perm hs := by rw [← h1]; exact (ord_perm w a ep es).map _
  have nD := N' _ (.head _)
  refine wpAny_call_entry PyProof.Rows.slot_list_sort ⟨_, nD.1, rfl⟩ PyProof.Rows.entry_list_sort ?_ (PyProof.Rows.args_list_sort _)
  refine list_sort_tree nD.1 hI (by omega) fun out ns' a1 a2 a3 => ⟨_, rfl, ?_⟩
  obtain ⟨e, hat⟩ := sortedHeap_at (out := out) nD.1
  have e2 : out.toList.toArray = out := by simp
  refine h D _ _ out.toList e ns' ?_ (fun p hp' => ?_) l1 a1 (a2.trans hp) a3
  · refine ⟨F'.ns.at' fun o eo => ?_, fun b o eb => ?_, F'.above⟩
    · rw [sortedHeap_old (Ne.symm nD.2.1) (Heap.lt_size eo)]; exact eo
    · have hb := F'.keep b o eb
      rw [sortedHeap_old (fun q => by rw [q, nD.2.2] at eb; cases eb) (Heap.lt_size hb)]; exact hb
  · rcases List.mem_cons.mp hp' with rfl | hp'
    · rw [e2]; exact ⟨hat, nD.2⟩
    · have z := N' p (.tail _ hp')
      refine ⟨?_, z.2⟩
      rw [sortedHeap_old (Nat.ne_of_lt (l1 p hp')) (Heap.lt_size z.1)]; exact z.1
end
end Mine
end
section
open PySem PySem.W PySem.W.X PySem.W.ZRun PySem.Spec PySem.Calls PyProof.Rows
set_option maxRecDepth 100000
set_option maxHeartbeats 0
set_option linter.unusedVariables false
namespace Mine
open LCg
section
variable {prog : Program} {w : World} {A : Around} {E : Value → Shared → Prop} {R : Result → Shared → Prop} {s : Shared} {h₀ : Heap} {L : Addr} {m : Str → Option Value} {env : Env}
inductive JS (w : World) (D : Addr) (K : Nat → List Int → List (Addr × Obj) → Prop) (i : Nat) (news : List (Addr × Obj)) : Prop
  | mk (o : Obj) (hs : List Int) (nw : List (Addr × Obj)) (c1 : news = (D, o) :: nw) (c2 : SetIs (!byText w) hs o) (c3 : hs ∈ states) (c4 : K i hs nw)
inductive JSo (w : World) (D : Addr) (base : List (Addr × Obj)) (R : List Int → Prop) (news : List (Addr × Obj)) : Prop
  | mk (o : Obj) (hs : List Int) (c1 : news = (D, o) :: base) (c2 : SetIs (!byText w) hs o) (c3 : hs ∈ states) (c4 : R hs)
theorem JS.out {w : World} {D : Addr} {K : Nat → List Int → List (Addr × Obj) → Prop} {i : Nat} {news base : List (Addr × Obj)} {R : List Int → Prop} (h : JS w D K i news) (e : ∀ hs nw, K i hs nw → nw = base ∧ R hs) : JSo w D base R news := by
  obtain ⟨o, hs, nw, c1, c2, c3, c4⟩ := h
  exact ⟨o, hs, (e _ _ c4).1 ▸ c1, c2, c3, (e _ _ c4).2⟩
theorem newSet_is : SetIs (!byText w) [] (newSetObj w) := ⟨#[], 0, rfl, rfl, fun e he => by simp at he⟩
theorem nil_states : [] ∈ states := .head _
theorem ts_end {I C D : Addr} {oI oC o : Obj} {m₂ : Str → Option Value} {hs : List Int} {v : Int} {t : Tok} {nw : List (Addr × Obj)} {K : Nat → List Int → List (Addr × Obj) → Prop} {i : Nat} {s₀ : Shared} {h₄ : Heap} {tk₄ : Nat} (F : Fr h₀ L h₄ m) (N : News h₀ L h₄ ((I, oI) :: (C, oC) :: (D, o) :: nw)) (hC : NsObj oC m₂)
    (off : ∀ p ∈ (D, o) :: nw, p.1 ≠ I ∧ p.1 ≠ C) (offD : ∀ p ∈ nw, p.1 ≠ D) (hS : SetIs (!byText w) hs o) (hst : hs ∈ states) (hv : v ∈ svals) (hK : ∀ hs', (v ∈ hs → hs' = hs) → (v ∉ hs → hs'.Perm (hs ++ [v])) → K (i + 1) hs' nw) :
    wpAny (model prog w) A (call (.builtin "set.add") [.ref D, .int v t]) (fun _ s₅ => TurnC h₀ L m s₀ I oI C (JS w D K (i + 1)) s₅) E { s₀ with heap := h₄, toks := tk₄ } := by
  have zD := N _ (.tail _ (.tail _ (.head _)))
  have oD := off _ (.head _)
  refine set_add_fin zD.1 hS hst hv fun h₅ o' hs' hs₅ hD₅ hS' hst' h1 h2 => ?_
  refine ⟨h₅, tk₄ + 1, oC, m₂, (D, o') :: nw, rfl, F.change hs₅ zD.2.1 zD.2.2, fun p hp => ?_, hC, fun p hp => ?_, o', hs', nw, rfl, hS', hst', hK hs' h1 h2⟩
  · rcases List.mem_cons.mp hp with rfl | hp
    · have z := N _ (.head _)
      exact ⟨hs₅.extBut _ _ (Ne.symm oD.1) z.1, z.2⟩
    · rcases List.mem_cons.mp hp with rfl | hp
      · have z := N _ (.tail _ (.head _))
        exact ⟨hs₅.extBut _ _ (Ne.symm oD.2) z.1, z.2⟩
      · rcases List.mem_cons.mp hp with rfl | hp
        · exact ⟨hD₅, zD.2⟩
        · have z := N p (.tail _ (.tail _ (.tail _ hp)))
          exact ⟨hs₅.extBut _ _ (offD p hp) z.1, z.2⟩
  · rcases List.mem_cons.mp hp with rfl | hp
    · exact oD
    · exact off p (.tail _ hp)
inductive JN (prog : Program) (w : World) (D : Addr) (K : Nat → List Int → List (Addr × Obj) → Prop) (i : Nat) (news : List (Addr × Obj)) : Prop
  | mk (o : Obj) (hs : List Int) (nw : List (Addr × Obj)) (c1 : news = (D, o) :: nw) (c2 : o.SetObjOf (PySem.intKind prog w) (fun k => decide (k ∈ hs)) hs.length) (c3 : hs.Nodup) (c4 : hs.length ≤ i) (c5 : K i hs nw)
inductive JNo (prog : Program) (w : World) (D : Addr) (i : Nat) (base : List (Addr × Obj)) (R : List Int → Prop) (news : List (Addr × Obj)) : Prop
  | mk (o : Obj) (hs : List Int) (c1 : news = (D, o) :: base) (c2 : o.SetObjOf (PySem.intKind prog w) (fun k => decide (k ∈ hs)) hs.length) (c3 : hs.Nodup) (c4 : hs.length ≤ i) (c5 : R hs)
theorem JN.out {prog : Program} {w : World} {D : Addr} {K : Nat → List Int → List (Addr × Obj) → Prop} {i : Nat} {news base : List (Addr × Obj)} {R : List Int → Prop} (h : JN prog w D K i news) (e : ∀ hs nw, K i hs nw → nw = base ∧ R hs) : JNo prog w D i base R news := by
  obtain ⟨o, hs, nw, c1, c2, c3, c4, c5⟩ := h
  exact ⟨o, hs, (e _ _ c5).1 ▸ c1, c2, c3, c4, (e _ _ c5).2⟩
theorem newSet_obj : (newSetObj w).SetObjOf (PySem.intKind prog w) (fun k => decide (k ∈ ([] : List Int))) 0 := by
  have := setObjOf_fresh (knd := PySem.intKind prog w) (!byText w)
  simpa [newSetObj] using this
noncomputable def SetTo (prog : Program) (w : World) (A : Around) (E : Value → Shared → Prop) (acc : Value) (Q : Shared → Prop) (y : Value) (s₁ : Shared) : Prop := wpAny (model prog w) A (call (.builtin "set.add") [acc, y]) (fun _ s₂ => Q s₂) E s₁
theorem body_set {acc : Value} {elt : Expr} {Q : Shared → Prop} (h : wpAny (model prog w) A (eval elt env) (SetTo prog w A E acc Q) E s) :
    wpAny (model prog w) A (do let v ← eval elt env; standAt elt.pos; let _ ← call (.builtin "set.add") [acc, v]) (fun _ s' => Q s') E s :=
  wpAny_bind (wpAny_mono h (fun y s₁ h₁ => wpAny_bind (wpAny_standAt (wpAny_bind (wpAny_mono h₁ (fun _ s₂ h₂ => wpAny_pure h₂) fun _ _ e => e)))) fun _ _ e => e)
theorem body_inner {e : Expr} {iter₁ : Expr} {acc : Value} {Q : Shared → Prop} (hf : ∀ x, foldedSetIterable iter₁ env x = pure x)
    (h : wpAny (model prog w) A (eval iter₁ env) (fun x s₁ => wpAny (model prog w) A (pyIter x) (fun it s₂ => codeAny (model prog w) (A.mark none) (.compStart e 1 it acc env) (fun r s' => match r with | .ok f => Q s' | .error x => cameBackBy (model prog w) A env E x s') s₂) E s₁) E s) :
    wpAny (model prog w) A (do
            let x ← eval iter₁ env
            standAt iter₁.pos
            let x ← foldedSetIterable iter₁ env x
            let _ ← runOwn (.compStart e 1 (← holding [x] (pyIter x)) acc env) env) (fun _ s' => Q s') E s := by
  refine wpAny_bind (wpAny_mono h (fun x s₁ h₁ => wpAny_bind (wpAny_standAt (wpAny_bind (wpAny_of_eq (hf x) ?_)))) fun _ _ e => e)
  refine wpAny_bind (wpAny_holding (wpAny_mono h₁ (fun it s₂ h₂ => ?_) fun _ _ e => e))
  refine wpAny_bind (wpAny_runOwn (codeAny_mono h₂ fun r s' hr => ?_))
  cases r with
  | ok f => exact wpAny_pure hr
  | error x => exact hr
end
end Mine
end
section
open PySem PySem.W PySem.W.X PySem.W.ZRun PySem.Spec PySem.Calls PyProof.Rows
set_option maxRecDepth 100000
set_option maxHeartbeats 0
set_option linter.unusedVariables false
namespace Mine
open LCg
section
variable {prog : Program} {w : World} {A : Around} {R : Result → Shared → Prop} {s : Shared} {h₀ : Heap} {L : Addr} {m : Str → Option Value} {rest : List (Addr × Obj)} {body : List Stmt} {I : Addr}
theorem wloopG {x : Str} {px : Pos} {env : Env} {fp : List Addr} {n : Nat} {P : Nat → Value → Prop} {St : Nat → Heap → Prop} {S : List (Addr × Obj) → Prop} (J : Nat → (Str → Option Value) → List (Addr × Obj) → Prop)
    (W : Walks prog w A I fp [I] n P St) (hIo : ∀ i h, St i h → ∃ o, h.get? I = some o)
    (hSt : ∀ i h h' o nw, St i h → h.get? I = some o → h'.get? I = some o → (∀ b o, h₀.get? b = some o → h'.get? b = some o) → News h₀ L h' nw → S nw → St i h')
    (hS : ∀ i m nw, J i m nw → S nw) (hst : St 0 s.heap) (F : Fr h₀ L s.heap m) (N : News h₀ L s.heap rest) (hIL : I ≠ L) (hI₀ : h₀.get? I = none) (off : ∀ p ∈ rest, p.1 ≠ I) (hJ : J 0 m rest)
    (turn : ∀ i v m₁ news₁ h tk oI, i < n → P i v → J i m₁ news₁ → (∀ p ∈ news₁, p.1 ≠ I) → Fr h₀ L h m₁ → News h₀ L h ((I, oI) :: news₁) →
      wpAny (model prog w) A (assign (.Name x px) env v) (fun _ s₁ => wpAny (model prog w) A (execs body env) (TurnR R h₀ L s I oI (J (i + 1))) (notedBy (model prog w) A env fun e s' => R (.error e) s') s₁) (notedBy (model prog w) A env fun e s' => R (.error e) s') { s with heap := h, toks := tk })
    (done : ∀ m₁ news₁ h tk, J n m₁ news₁ → Fr h₀ L h m₁ → News h₀ L h news₁ → R (.ok .next) { s with heap := h, toks := tk }) :
    codeAny (model prog w) A (.forLoop (.Name x px) (.ref I) body [] env) R s := by
  refine codeAny_forLoop (fun k s' => ∃ i h' tk m' news', k = n + 1 - i ∧ i ≤ n ∧ s' = { s with heap := h', toks := tk } ∧ St i h' ∧ J i m' news' ∧ (∀ p ∈ news', p.1 ≠ I) ∧ Fr h₀ L h' m' ∧ News h₀ L h' news') ?_ (n + 1)
      ⟨0, s.heap, s.toks, m, rest, rfl, Nat.zero_le _, rfl, hst, hJ, off, F, N⟩
  rintro k s' ⟨i, h', tk, m', news', rfl, hi, rfl, hst', hJ', off', F', N'⟩
  by_cases hlt : i < n
  · refine W.item i _ _ _ hlt hst' fun v h₂ tk₂ hPv hst₂ hk₂ => ?_
    have F₂ := fr_but F' hk₂ (Ne.symm hIL) hI₀
    have N₂ := news_but N' hk₂ off'
    obtain ⟨oI, heI⟩ := hIo _ _ hst₂
    have N3 : News h₀ L h₂ ((I, oI) :: news') := fun p hp => by
      rcases List.mem_cons.mp hp with rfl | hp
      · exact ⟨heI, hIL, hI₀⟩
      · exact N₂ p hp
    refine wpAny_mono (turn i v m' news' _ _ oI hlt hPv hJ' off' F₂ N3) (fun _ s₁ h₁ => wpAny_mono h₁ (fun f s₂ h₂ => ?_) fun _ _ e => e) fun _ _ e => e
    have fin : (∃ h' tk' m' news', s₂ = { s with heap := h', toks := tk' } ∧ Fr h₀ L h' m' ∧ News h₀ L h' ((I, oI) :: news') ∧ (∀ p ∈ news', p.1 ≠ I) ∧ J (i + 1) m' news') →
        ∃ k', k' < n + 1 - i ∧ ∃ i h' tk m' news', k' = n + 1 - i ∧ i ≤ n ∧ s₂ = { s with heap := h', toks := tk } ∧ St i h' ∧ J i m' news' ∧ (∀ p ∈ news', p.1 ≠ I) ∧ Fr h₀ L h' m' ∧ News h₀ L h' news' := by
      rintro ⟨h5, tk5, m5, news5, rfl, F5, N5, off5, hJ5⟩
      have N5' : News h₀ L h5 news5 := fun p hp => N5 p (.tail _ hp)
      exact ⟨n + 1 - (i + 1), dec_lt (by assumption), i + 1, h5, tk5, m5, news5, rfl, hlt, rfl, hSt _ _ _ _ news5 hst₂ heI (N5 _ (.head _)).1 F5.keep N5' (hS _ _ _ hJ5), hJ5, off5, F5, N5'⟩
    cases f with
    | ret v => exact h₂
    | brk => exact h₂
    | next => exact fin h₂
    | cont => exact fin h₂
  · have : i = n := by omega
    subst this
    refine W.done _ _ _ hst' fun h₂ tk₂ hk₂ => ?_
    exact wpAny_execs_nil (done m' news' h₂ tk₂ hJ' (fr_but F' hk₂ (Ne.symm hIL) hI₀) (news_but N' hk₂ off'))
end
section
variable {prog : Program} {w : World} {A : Around} {E : Value → Shared → Prop} {s : Shared} {h₀ : Heap} {L : Addr} {m : Str → Option Value} {env : Env}
theorem assign_cellG {c : Addr} {oc₀ : Obj} {ov : Option Value} {x : Str} {px : Pos} {v : Value} {pre post : List (Addr × Obj)} {Q : Unit → Shared → Prop} (hk : env.scope.kind = .function) (hx : env.kindOf x = some .cell) (hc : env.cells.lookup x = some c)
    (F : Fr h₀ L s.heap m) (N : News h₀ L s.heap (pre ++ (c, oc₀) :: post)) (hoc : oc₀.data = .cell ov) (off : ∀ p ∈ pre ++ post, p.1 ≠ c)
    (h : ∀ h' tk' oc, Fr h₀ L h' m → News h₀ L h' (pre ++ (c, oc) :: post) → oc.data = .cell (some v) → Q () { s with heap := h', toks := tk' }) :
    wpAny (model prog w) A (assign (.Name x px) env v) Q E s := by
  have nC := N (c, oc₀) (List.mem_append_right _ (.head _))
  refine wpAny_assign_Name (wpAny_storeName_cell hk hx hc ⟨_, nC.1, hoc⟩ fun h₃ hc₃ hs₃ => ?_)
  obtain ⟨oc, heC, hd⟩ := hc₃
  refine h h₃ _ oc (F.change hs₃ nC.2.1 nC.2.2) (fun p hp => ?_) hd
  rcases List.mem_append.mp hp with q | q
  · have z := N p (List.mem_append_left _ q)
    exact ⟨hs₃.extBut _ _ (off p (List.mem_append_left _ q)) z.1, z.2⟩
  · rcases List.mem_cons.mp q with rfl | q
    · exact ⟨heC, nC.2⟩
    · have z := N p (List.mem_append_right _ (.tail _ q))
      exact ⟨hs₃.extBut _ _ (off p (List.mem_append_right _ q)) z.1, z.2⟩
end
section
variable {prog : Program} {w : World} {A : Around} {E : Value → Shared → Prop} {s : Shared} {h₀ : Heap} {L : Addr} {m : Str → Option Value}
abbrev keyIterObj (d n ep : Nat) : Obj := { cls := .type "dict_keyiterator", data := .fields #[.ref d, .int 0 0, .int n 0, .int ep 0] }
theorem iter_dict {d : Addr} {od : Obj} {kvs : List (Int × Value)} {news : List (Addr × Obj)} {Q : Value → Shared → Prop} (F : Fr h₀ L s.heap m) (N : News h₀ L s.heap news) (hm : (d, od) ∈ news) (hd : od.IsDictOf (PySem.intKind prog w) kvs) (lo : (d == sysModules) = false)
    (h : ∀ I h' ep, (∀ p ∈ news, p.1 < I) → Fr h₀ L h' m → News h₀ L h' ((I, keyIterObj d kvs.length ep) :: news) → (∀ h'' : Heap, h''.get? d = some od → h''.DictAt (PySem.intKind prog w) d kvs ep) → Q (.ref I) { s with heap := h' }) :
    wpAny (model prog w) A (pyIter (.ref d)) Q E s := by
  obtain ⟨es, ep, r1, r2, r3⟩ := hd
  have mk : ∀ h'' : Heap, h''.get? d = some od → h''.DictAt (PySem.intKind prog w) d kvs ep := fun h'' e => ⟨od, es, e, r1, r2, r3⟩
  refine wpAny_pyIter_dict lo (mk _ (N _ hm).1) ?_
  exact h _ _ ep (fun p hp => Heap.lt_size (N p hp).1) (F.push _) (N.push F _) mk
theorem key_self {I d n ep : Nat} : ∀ (E : Value → Shared → Prop) (s' : Shared) (Q' : Value → Shared → Prop), s'.heap.get? I = some (keyIterObj d n ep) → Q' (.ref I) s' → wpAny (model prog w) A (pyIter (.ref I)) Q' E s' :=
  fun E s' Q' e h => wpAny_pyIter_keyiter ⟨_, e, rfl, rfl⟩ h
theorem key_st {I d n ep : Nat} {kvs : List (Int × Value)} {od : Obj} (mk : ∀ h'' : Heap, h''.get? d = some od → h''.DictAt (PySem.intKind prog w) d kvs ep) : ∀ (i : Nat) (h h' : Heap) (o : Obj) (nw : List (Addr × Obj)), (h.IsKeyIter I d i n ep ∧ h.DictAt (PySem.intKind prog w) d kvs ep) → h.get? I = some o → h'.get? I = some o → (∀ b o, h₀.get? b = some o → h'.get? b = some o) → News h₀ L h' nw → (d, od) ∈ nw → (h'.IsKeyIter I d i n ep ∧ h'.DictAt (PySem.intKind prog w) d kvs ep) :=
  fun i h h' o nw st e e' k N hm => ⟨by obtain ⟨o', q, r⟩ := st.1; rw [e] at q; cases q; exact ⟨o, e', r⟩, mk _ (N _ hm).1⟩
theorem set_int {d : Addr} {o : Obj} {kvs : List (Int × Value)} {x : Int} {t : Tok} {v : Value} {pre post : List (Addr × Obj)} {Q : Unit → Shared → Prop} (F : Fr h₀ L s.heap m) (N : News h₀ L s.heap (pre ++ (d, o) :: post)) (off : ∀ p ∈ pre ++ post, p.1 ≠ d) (hd : o.IsDictOf (PySem.intKind prog w) kvs) (hsz : kvs.length ≤ 100)
    (h : ∀ h' o', Fr h₀ L h' m → News h₀ L h' (pre ++ (d, o') :: post) → o'.IsDictOf (PySem.intKind prog w) (stored kvs x v) → Q () { s with heap := h', toks := s.toks + 1 }) :
    wpAny (model prog w) A (setItem (.ref d) (.int x t) v) Q E s := by
  have nD := N (d, o) (List.mem_append_right _ (.head _))
  refine wpAny_setItem_pairs (hsz := by rw [sizeLine_eq]; omega) (PySem.intKind_is prog w x t) (Heap.dictOf_iff.mpr ⟨o, nD.1, hd⟩) fun h' hm hs => ?_
  obtain ⟨o', ho', hd'⟩ := Heap.dictOf_iff.mp hm
  refine h h' o' (F.change hs nD.2.1 nD.2.2) (fun p hp => ?_) hd'
  rcases List.mem_append.mp hp with q | q
  · have z := N p (List.mem_append_left _ q)
    exact ⟨hs.extBut _ _ (off p (List.mem_append_left _ q)) z.1, z.2⟩
  · rcases List.mem_cons.mp q with rfl | q
    · exact ⟨ho', nD.2⟩
    · have z := N p (List.mem_append_right _ (.tail _ q))
      exact ⟨hs.extBut _ _ (off p (List.mem_append_right _ q)) z.1, z.2⟩
end
end Mine
end
section
open PySem PySem.W PySem.W.X PySem.W.ZRun PySem.Spec PySem.Calls PyProof.Rows
set_option maxRecDepth 100000
set_option maxHeartbeats 0
set_option linter.unusedVariables false
namespace Mine
local macro_rules | `(tactic| walk_at "eval ListComp") => `(tactic| (k_here; refine Halt.mk ?_))
local macro_rules | `(tactic| walk_at "eval SetComp") => `(tactic| (k_here; refine Halt.mk ?_))
local macro_rules | `(tactic| walk_at "call ref") => `(tactic| (k_here; (with_reducible show wpAny _ _ (call (Value.ref 318) _ _) _ _ _); refine Halt.mk ?_))
noncomputable def dvs (k : Nat) : List Int := dv (wits (k - 1) k (k + 1))
noncomputable def shStep (ps : List (Int × Int)) (sz : Int) : List (Int × Int) := ps ++ [(sz, sz - (ps.filterMap fun p => if sz.fmod p.1 = 0 then some p.2 else none).sum)]
noncomputable def shs (szs : List Int) : List (Int × Int) := szs.foldl shStep []
noncomputable def fracs (szs : List Int) : Int := ((shs szs).map (·.2)).sum
noncomputable def KV (ps : List (Int × Int)) (kvs : List (Int × Value)) : Prop := kvs.map (·.1) = ps.map (·.1) ∧ IntsAre (kvs.map (·.2)) (ps.map (·.2))
inductive FJ (w : World) (base : List (Addr × Obj)) (d csz : Addr) (m0 : Str → Option Value) (szs : List Int) (i : Nat) (m : Str → Option Value) (news : List (Addr × Obj)) : Prop
  | mk (c1 : m = m0) (od oc : Obj) (kvs : List (Int × Value)) (c2 : news = (d, od) :: (csz, oc) :: base) (c3 : od.IsDictOf (PySem.intKind lawProg w) kvs) (c4 : (∃ ov, oc.data = .cell ov)) (c5 : KV (shs (szs.take i)) kvs)
theorem states_nodup {hs : List Int} (h : hs ∈ states) : hs.Nodup := by
  have key : (states.all fun hs => decide hs.Nodup) = true := by decide +kernel
  simpa using List.all_eq_true.mp key hs h
theorem News.fr0 {h₀ h : Heap} {L : Addr} {i l s d c : Addr × Obj} {r : List (Addr × Obj)} (N : News h₀ L h (i :: l :: s :: d :: c :: r)) : News h₀ L h (d :: c :: l :: s :: r) :=
  News.drop N fun p hp => by
    simp only [List.mem_cons] at hp ⊢
    rcases hp with e | e | e | e | e <;> simp [e]
theorem shs_keys (l : List Int) : (shs l).map (·.1) = l := by
  have : ∀ (l : List Int) (acc : List (Int × Int)), (l.foldl shStep acc).map (·.1) = acc.map (·.1) ++ l := by
    intro l
    induction l with
    | nil => intro acc; simp
    | cons a l ih => intro acc; rw [List.foldl_cons, ih]; simp [shStep]
  simpa [shs] using this l []
theorem svals_pos : ∀ v ∈ svals, (0 : Int) < v := by decide
theorem KV.len {ps : List (Int × Int)} {kvs : List (Int × Value)} (h : KV ps kvs) : kvs.length = ps.length := by
  have := congrArg List.length h.1
  simpa using this
theorem KV.get {ps : List (Int × Int)} {kvs : List (Int × Value)} (h : KV ps kvs) {j : Nat} {k : Int} {x : Value} (e : kvs[j]? = some (k, x)) : ∃ pv t, ps[j]? = some (k, pv) ∧ x = Value.int pv t := by
  have hj : j < kvs.length := (List.getElem?_eq_some_iff.mp e).1
  have hj' : j < ps.length := by rw [← h.len]; exact hj
  have hp : ps[j]? = some ps[j] := List.getElem?_eq_getElem hj'
  have e1 : (kvs.map (·.1))[j]? = some k := by rw [List.getElem?_map, e]; rfl
  rw [h.1, List.getElem?_map, hp] at e1
  have e1 : ps[j].1 = k := Option.some.inj e1
  obtain ⟨t, ht⟩ := h.2.get j ps[j].2 (by rw [List.getElem?_map, hp]; rfl)
  rw [List.getElem?_map, e] at ht
  exact ⟨ps[j].2, t, by rw [hp, ← e1], Option.some.inj ht⟩
theorem KV.snoc {ps : List (Int × Int)} {kvs : List (Int × Value)} {k z : Int} {t : Tok} (h : KV ps kvs) : KV (ps ++ [(k, z)]) (kvs ++ [(k, .int z t)]) := by
  refine ⟨by rw [List.map_append, List.map_append, h.1]; rfl, ?_⟩
  rw [List.map_append, List.map_append]
  have : ∀ {vs : List Value} {ns : List Int}, IntsAre vs ns → IntsAre (vs ++ [.int z t]) (ns ++ [z]) := by
    intro vs ns h
    induction h with
    | nil => exact .cons _ _ .nil
    | cons n u _ ih => exact .cons n u ih
  exact this h.2
theorem kv_step {szs : List Int} {i : Nat} {sz : Int} {kvs : List (Int × Value)} {t : Tok} (h : KV (shs (szs.take i)) kvs) (hnd : szs.Nodup) (hsz : szs[i]? = some sz) :
    KV (shs (szs.take (i + 1))) (stored kvs sz (.int (sz - ((shs (szs.take i)).filterMap fun p => if sz.fmod p.1 = 0 then some p.2 else none).sum) t)) := by
  have hn : sz ∉ kvs.map (·.1) := by
    rw [h.1, shs_keys]
    intro hm
    obtain ⟨j, hj, e⟩ := List.getElem_of_mem hm
    rw [List.length_take] at hj
    obtain ⟨hi, e2⟩ := List.getElem?_eq_some_iff.mp hsz
    rw [List.getElem_take] at e
    exact (List.pairwise_iff_getElem.mp hnd) j i (by omega) hi (by omega) (e.trans e2.symm)
  rw [stored_absent (valueAt_none_of_not_mem hn)]
  have e : shs (szs.take (i + 1)) = shs (szs.take i) ++ [(sz, sz - ((shs (szs.take i)).filterMap fun p => if sz.fmod p.1 = 0 then some p.2 else none).sum)] := by
    unfold shs
    rw [List.take_add_one, hsz, List.foldl_append]
    rfl
  rw [e]
  exact h.snoc
noncomputable def valOf (ps : List (Int × Int)) (i : Nat) : Int := ((ps[i]?).map (·.2)).getD 0
theorem valOf_at {ps : List (Int × Int)} {i : Nat} {k z : Int} (h : ps[i]? = some (k, z)) : valOf ps i = z := by unfold valOf; rw [h]; rfl
theorem valOf_take (ps : List (Int × Int)) : ∀ n, n ≤ ps.length → preSum (valOf ps) n = ((ps.take n).map (·.2)).sum
  | 0, _ => rfl
  | n + 1, h => by
    have hn : ps[n]? = some ps[n] := List.getElem?_eq_getElem (by omega)
    show preSum (valOf ps) n + valOf ps n = _
    rw [valOf_take ps n (by omega), List.take_add_one, hn, List.map_append, List.sum_append]
    have : valOf ps n = ps[n].2 := by unfold valOf; rw [hn]; rfl
    rw [this]; simp
theorem valOf_sum (szs : List Int) : preSum (valOf (shs szs)) (shs szs).length = fracs szs := by
  rw [valOf_take _ _ (Nat.le_refl _), List.take_length]; rfl
noncomputable def GK (base : List (Addr × Obj)) (ps : List (Int × Int)) (sz : Int) (j : Nat) (ys : List Value) (nw : List (Addr × Obj)) : Prop := nw = base ∧ IntsAre ys ((ps.take j).filterMap fun p => if sz.fmod p.1 = 0 then some p.2 else none)
theorem gk_no {base : List (Addr × Obj)} {ps : List (Int × Int)} {sz : Int} {j : Nat} {k pv : Int} {ys : List Value} (h : ps[j]? = some (k, pv)) (hz : sz.fmod k ≠ 0) (hI : IntsAre ys ((ps.take j).filterMap fun p => if sz.fmod p.1 = 0 then some p.2 else none)) : GK base ps sz (j + 1) ys base := by
  refine ⟨rfl, ?_⟩
  rw [List.take_add_one, h, List.filterMap_append]
  simpa [hz] using hI
theorem gk_yes {base : List (Addr × Obj)} {ps : List (Int × Int)} {sz : Int} {j : Nat} {k pv : Int} {t : Tok} {ys : List Value} (h : ps[j]? = some (k, pv)) (hz : sz.fmod k = 0) (hI : IntsAre ys ((ps.take j).filterMap fun p => if sz.fmod p.1 = 0 then some p.2 else none)) : GK base ps sz (j + 1) (ys ++ [.int pv t]) base := by
  refine ⟨rfl, ?_⟩
  rw [List.take_add_one, h, List.filterMap_append]
  have : ∀ {vs : List Value} {ns : List Int}, IntsAre vs ns → IntsAre (vs ++ [.int pv t]) (ns ++ [pv]) := by
    intro vs ns h
    induction h with
    | nil => exact .cons _ _ .nil
    | cons n u _ ih => exact .cons n u ih
  simpa [hz] using this hI
theorem dict_nodup {w : World} {o : Obj} {kvs : List (Int × Value)} (h : o.IsDictOf (PySem.intKind lawProg w) kvs) : (kvs.map (·.1)).Nodup := let ⟨_, _, _, _, _, _, hn⟩ := h; hn
noncomputable def SK (base : List (Addr × Obj)) (ns : List Nat) (i : Nat) (hs : List Int) (nw : List (Addr × Obj)) : Prop := nw = base ∧ ∀ v, v ∈ hs ↔ ∃ k ∈ ns.take i, v ∈ dvs k
noncomputable def SK1 (base : List (Addr × Obj)) (prev ds : List Int) (i : Nat) (hs : List Int) (nw : List (Addr × Obj)) : Prop := nw = base ∧ ∀ v, v ∈ hs ↔ v ∈ prev ∨ v ∈ ds.take i
theorem dvs_vals : ∀ k ∈ [2, 3, 4, 6, 8, 12], ∀ v ∈ dvs k, v ∈ svals := by decide +kernel
theorem set_step {hs hs' : List Int} {z v : Int} {P : Prop} {l : List Int} (h1 : z ∈ hs → hs' = hs) (h2 : z ∉ hs → hs'.Perm (hs ++ [z])) (h : v ∈ hs ↔ P ∨ v ∈ l) : v ∈ hs' ↔ P ∨ v ∈ l ++ (some z).toList := by
  have hx : v ∈ hs' ↔ v ∈ hs ∨ v = z := by
    by_cases hz : z ∈ hs
    · rw [h1 hz]
      exact ⟨.inl, fun q => q.elim id fun e => e ▸ hz⟩
    · rw [(h2 hz).mem_iff]; simp
  rw [hx, h]
  simp [or_assoc]
theorem cs_self {prog : Program} {w : World} {A : Around} {R : Result → Shared → Prop} {s : Shared} {e : Expr} {d : Nat} {g : Comprehension} {I : Addr} {acc : Value} {env : Env} (hg : (clausesOf e)[d]? = some g) (ha : g.is_async = 0)
    (hfr : (Code.compStart e d (.ref I) acc env).isFrame = false) (hun : A.under (Code.compStart e d (.ref I) acc env) = A) (self : ∀ Q', Q' (.ref I) s → wpAny (model prog w) A (pyIter (.ref I)) Q' (notedBy (model prog w) A env fun x s' => R (.error x) s') s)
    (h0 : codeAny (model prog w) A (.compLoop e d (.ref I) acc env) R s) : codeAny (model prog w) A (.compStart e d (.ref I) acc env) R s :=
  cs_rule hg ha hfr hun h0 (self _ h0)
theorem News.in1 {h₀ h : Heap} {L : Addr} {I1 x I C D : Addr × Obj} {r : List (Addr × Obj)} (N : News h₀ L h (I1 :: x :: I :: C :: D :: r)) : News h₀ L h (C :: D :: I :: x :: r) :=
  News.drop N fun p hp => by
    simp only [List.mem_cons] at hp ⊢
    rcases hp with e | e | e | e | e <;> simp [e]
theorem News.in2 {h₀ h : Heap} {L : Addr} {x I C D : Addr × Obj} {r : List (Addr × Obj)} (N : News h₀ L h (C :: D :: I :: x :: r)) : News h₀ L h (I :: C :: D :: r) :=
  News.drop N fun p hp => by
    simp only [List.mem_cons] at hp ⊢
    rcases hp with e | e | e | e <;> simp [e]
theorem fractions_ok {w : World} {p : Program} {loose : List Str} {mean : ExcName → Option Value} {mg mb : Str → Option Value} (lx : Addr) (vs : List Value) (ns : List Nat) (e : Nat) (hI : IntsAre vs (ns.map fun (k : Nat) => (k : Int))) (hns : ∀ k ∈ ns, k ∈ [2, 3, 4, 6, 8, 12]) (hlen : ns.length ≤ 6) :
  Amb w p loose mean mg mb 25 300 (fun A base h₀ L m rest s Q E =>
    News h₀ L s.heap ((lx, listOf vs.toArray e) :: rest) → (∀ p ∈ rest, p.1 ≠ lx) →
    (∀ (szs : List Int) (t : Tok) (h' : Heap) (tk' : Nat), Fr h₀ L h' m → News h₀ L h' ((lx, listOf vs.toArray e) :: rest) → (∀ v, v ∈ szs ↔ ∃ k ∈ ns, v ∈ dvs k) → szs.Nodup → szs.Pairwise (· ≤ ·) → Q (.int (fracs szs) t) { s with heap := h', toks := tk' }) →
    wpAny (model PySem.Challenge.rw_tl0052_01.row.prog w) A (call (.ref 323) [.ref lx]) Q E s) := by
  unfold Amb
  k_fill
  intro dp un gd cn cs a ccd cl outer A₀ base h₀ L m news s Q E B F X N0 T hk hd hu N hdis hret
  refine wpAny_call ?_
  refine' code_defCS (binds := [(Str.ofString "steps", .ref lx)]) (small := [(lx, listOf vs.toArray e)]) (rest := news) B F X N (fun p hp hm => hdis p hp (by simpa using hm)) T ?kA ?kF ?kK ?k6 ?k7 ?k8 ?k9 ?kB ?kD ?_ ?c2 ?c3 ?c4
  case kA => exact rfl
  case kF => exact rfl
  case kK => assumption
  case k6 => k_dflt k_is
  case k7 => k_dflt k_is
  case k8 => k_dflt ktr_room
  case k9 => k_dflt (first | exact BindsTo.of_eq rfl | exact binds_K (by k_in) rfl (by k_is) rfl rfl rfl)
  case kB => k_dflt (exact rfl)
  case kD => decide +kernel
  case c2 => k_dflt (exact rfl)
  case c3 => k_dflt (exact rfl)
  case c4 => k_dflt (exact rfl)
  k_whole
  intro g' L' h' tk' cells' FG' F' N' Y' B' X' T' hlt' hrest'
  (try k_lt hlt')
  k_cells Y'
  (try simp only [List.cons_append, List.nil_append] at N')
  (try dsimp only)
  (try k_fold)
  clear N0 N
  k_steps
  refine sc_start (cl := []) (by with_unfolding_all rfl) rfl (by decide) rfl ?_
  k_steps
  (with_reducible rename Fr g' L' _ _ => F1)
  (with_reducible rename News g' L' _ (_ :: _) => N1)
  refine comp_in accSet rfl F1 N1 (.head _) (by decide) rfl rfl rfl (fun _ _ => rfl) (fun _ _ => rfl) list_self ?_
  intro D0 C0 oC0 h10 tk10 F10 N10 hC10 ltD ltC
  (try k_lt ltD)
  have zI := N10 _ (.tail _ (.tail _ (.head _)))
  have N11 := News.rm2 N10
  refine' cgen rfl rfl (ct_set0 _ _ _ _ _ _ _ _ _ _ _ _) (Walks.list rfl _ _ (by (show @Ne Nat _ _); omega) _) (fun i h st => by obtain ⟨o, e, _⟩ := st.1; exact ⟨o, e⟩) LCg.list_st (JS w D0 (SK _ ns)) ?hS ⟨⟨_, zI.1, rfl, rfl⟩, News.isList (items := vs.toArray) N10 (by k_mem)⟩ F10 N11 hC10 zI.2.1 zI.2.2 ?off1 (by (show @Ne Nat _ _); omega) ⟨_, [], _, rfl, newSet_is, nil_states, rfl, fun v => by simp⟩ ?turn1 ?done1
  case off1 =>
    repeat (refine off_cons (by constructor <;> (show (@Ne Nat _ _)) <;> omega) ?_)
    exact off_nil
  case hS =>
    rintro i nw ⟨o, hs, nw, rfl, h1, h2, rfl, h3⟩
    exact srcAt_of (by k_mem)
  case done1 =>
    intro h tk oC m₂ news₁ hJ F2 N2 hC2 offC2
    obtain ⟨o, hs, rfl, hS, hsS, hmem⟩ := hJ.out fun _ _ h => h
    refine cpost F2 N2 hC2 offC2 ?_
    intro h13 F13 N13
    clear F2 N2 F10 N10 N11 F1 N1
    dsimp only
    k_steps
    refine sorted_set rfl F13 N13 (.head _) hS hsS ?_
    intro Dl h14 tk14 out e14 szs F14 N14 l14 hI14 hp14 hs14
    clear F13 N13
    (try k_lt l14)
    k_steps
    (with_reducible rename Fr g' L' _ _ => F3)
    (with_reducible rename News g' L' _ (_ :: _) => N3)
    have zI3 := N3 _ (.head _)
    have N4 := News.fr0 N3
    have hvals : ∀ v ∈ szs, v ∈ svals := fun v hv => mem_vals hsS (hp14.mem_iff.mp hv)
    have hnd : szs.Nodup := (hp14.nodup_iff).mpr (states_nodup hsS)
    have hl14 := hI14.length
    refine' wloopG (S := fun nw => (Dl, W.listOf out.toArray e14) ∈ nw) (FJ w _ _ _ _ szs) (Walks.list rfl _ _ (by (show @Ne Nat _ _); omega) _) (fun i h st => by obtain ⟨o, e, _⟩ := st.1; exact ⟨o, e⟩) (fun i h h' o nw st e1 e2 k N hm => LCg.list_st i h h' o nw st e1 e2 k N (srcAt_of hm)) ?hS3 ⟨⟨_, zI3.1, rfl, rfl⟩, News.isList (items := out.toArray) N3 (.tail _ (.head _))⟩ F3 N4 zI3.2.1 zI3.2.2 ?off4 ⟨rfl, _, _, [], rfl, by assumption, ⟨_, by assumption⟩, rfl, .nil⟩ ?turn3 ?done3
    case hS3 =>
      rintro i m nw ⟨rfl, od, oc, kvs, rfl, h1, h2, h3⟩
      k_mem
    case off4 =>
      repeat (refine neD_cons (by (show (@Ne Nat _ _)); omega) ?_)
      exact neD_nil
    case done3 =>
      intro m₁ news₁ h20 tk20 hJ F20 N20
      obtain ⟨rfl, od, oc, kvs, rfl, hd9, ⟨ov, hov⟩, hKV⟩ := hJ
      rw [List.size_toArray, hl14, List.take_length] at hKV
      clear F3 N3 N4
      k_steps
      (with_reducible rename Fr g' L' _ _ => F27)
      (with_reducible rename News g' L' _ (_ :: _) => N27)
      refine hideP ?_
      intro G9 kG9
      obtain ⟨es9, ep9, r1, r2, r3⟩ := id hd9
      refine kG9 ?_
      (try clear kG9 G9)
      have hkl := hKV.len
      have hszl : szs.length ≤ 7 := by rw [hp14.length_eq]; exact fits_bound (led := true) hsS
      have hsl : (shs szs).length ≤ 7 := by
        have := congrArg List.length (shs_keys szs)
        rw [List.length_map] at this
        omega
      refine kdu_sum (kdl_values (knd := PySem.intKind _ _) (kvs := kvs) (ep := ep9)) rfl F27 N27 ⟨⟨_, (N27 _ (.head _)).1, rfl, rfl⟩, ⟨od, es9, (N27 _ (.tail _ (.head _))).1, r1, r2, r3⟩⟩ (valOf (shs szs)) (fun i v hv => ?_) ?_
      · obtain ⟨k9, hk9⟩ := hv
        obtain ⟨pv, tpv, hps, rfl⟩ := hKV.get hk9
        exact ⟨tpv, by rw [valOf_at hps]⟩
      intro h30 tk30 t30 F30 N30
      clear F27 N27 F20 N20
      rw [hkl, valOf_sum]
      dsimp only
      k_steps
      (with_reducible rename News h₀ L _ (_ :: _) => kN)
      (with_reducible rename News h₀ L _ news => nR)
      refine hret szs _ _ _ (by k_asm) (News.app (a := [_]) (News.drop kN fun p hp => by rw [List.mem_singleton.mp hp]; k_mem) nR) (fun v => ?_) hnd hs14
      rw [hp14.mem_iff, hmem v, List.size_toArray, hI.length, List.length_map, List.take_length]
    case turn3 =>
      intro i v m₁ news₁ h20 tk20 oI hi hP hJ off F20 N20
      obtain ⟨rfl, od, oc, kvs, rfl, hd9, ⟨ov, hov⟩, hKV⟩ := hJ
      have hi' : i < szs.length := by rw [← hl14]; simpa using hi
      obtain ⟨sz, hsz⟩ : ∃ z, szs[i]? = some z := ⟨_, List.getElem?_eq_getElem hi'⟩
      obtain ⟨tv, rfl⟩ : ∃ t, v = Value.int sz t := by
        obtain ⟨t, ht⟩ := hI14.get i sz hsz
        exact ⟨t, by rw [List.getElem?_toArray] at hP; rw [ht] at hP; exact (Option.some.inj hP).symm⟩
      clear F3 N3 N4 hP
      refine assign_cellG (pre := [_, _]) rfl rfl rfl F20 N20 hov ?offc ?_
      case offc =>
        repeat (refine neD_cons (by (show (@Ne Nat _ _)); omega) ?_)
        exact neD_nil
      intro h21 tk21 oc21 F21 N21 hd21
      simp only [List.cons_append, List.nil_append] at N21
      clear F20 N20 hov
      have hszv : 0 < sz := svals_pos _ (hvals sz (List.mem_of_getElem? hsz))
      have hkeys : ∀ p ∈ shs (szs.take i), 0 < p.1 := fun p hp => svals_pos _ (hvals _ (List.mem_of_mem_take (shs_keys (szs.take i) ▸ List.mem_map_of_mem hp)))
      have hkl := hKV.len
      have hkn := dict_nodup hd9
      have hszl : szs.length ≤ 7 := by rw [hp14.length_eq]; exact fits_bound (led := true) hsS
      have hsl : (shs (szs.take i)).length ≤ 7 := by
        have := congrArg List.length (shs_keys (szs.take i))
        rw [List.length_map, List.length_take] at this
        omega
      k_steps
      refine lc_start (cl := [(Str.ofString "size", L' + 1 + 1), (Str.ofString "shares", L' + 1)]) (by with_unfolding_all rfl) rfl (by decide) rfl ?_
      k_steps
      refine iter_dict F21 N21 (.tail _ (.head _)) hd9 (by assumption) ?_
      intro I2 h22 ep2 hI2 F22 N22 mk22
      (try k_lt hI2)
      refine comp_in accList rfl F22 N22 (.head _) (by decide) rfl rfl rfl (fun _ _ => rfl) (fun _ _ => rfl) key_self ?_
      intro D2 C2 oC2 h23 tk23 F23 N23 hC23 ltD2 ltC2
      (try k_lt ltD2)
      have zI2 := N23 _ (.tail _ (.tail _ (.head _)))
      have N24 := News.rm2 N23
      refine' cgen rfl rfl (ct_list _ _ _ _ _ _ _ _ _) (Walks.dictKeys rfl _ _ (by (show @Ne Nat _ _); omega) kvs ep2) (fun i h st => by obtain ⟨o, e, _⟩ := st.1; exact ⟨o, e⟩) (key_st mk22) (JL D2 (GK _ (shs (szs.take i)) sz)) ?hS5 ⟨⟨_, zI2.1, rfl, rfl⟩, mk22 _ (N23.get (by k_mem))⟩ F23 N24 hC23 zI2.2.1 zI2.2.2 ?off5 (by (show @Ne Nat _ _); omega) ⟨[], _, rfl, Nat.le_refl _, rfl, .nil⟩ ?turn5 ?done5
      case off5 =>
        repeat (refine off_cons (by constructor <;> (show (@Ne Nat _ _)) <;> omega) ?_)
        exact off_nil
      case hS5 =>
        rintro i nw ⟨ys, nw, rfl, h1, rfl, h3⟩
        k_mem
      case turn5 =>
        intro j v2 oI2 oC3 m3 news3 h24 tk24 hj hP2 hst2 hJ2 F24 N25 hC24 off24
        obtain ⟨ys2, rfl, hlen2, hcnt⟩ := hJ2.out fun _ _ h => h
        refine hideP ?_
        intro G9 kG9
        obtain ⟨ko, xo, hko, hiso⟩ := hP2
        refine kG9 ?_
        (try clear kG9 G9)
        obtain ⟨tko, rfl⟩ := Value.isInt_shape hiso
        obtain ⟨pv, tpv, hps, rfl⟩ := hKV.get hko
        have hkop := hkeys _ (List.mem_of_getElem? hps)
        dsimp only at hkop
        refine wpAny_of_eq rfl ?_
        refine comp_assign F24 N25 hC24 off24 (by (show @Ne Nat _ _); omega) rfl rfl ?_
        intro h25 tk25 oC25 m25 F25 N26 hC25 e25 k25
        refine wpAny_tests_one ?_
        clear F24 N25 F23 N24 N23 F22 N22 F21 N21 hst2
        k_steps
        · rename sz.fmod _ = 0 => a9
          refine body_list ?_
          k_steps
          refine kda_item (knd := PySem.intKind _ _) N26 (.tail _ (.tail _ (.tail _ (.tail _ (.head _))))) hd9 (PySem.intKind_is _ _ _ _) (valueAt_of_get hkn hko) ?_
          refine tl_end F25 N26 hC25 off24 ?offD5 hlen2 (by rw [PySem.sizeLine_eq]; omega) (gk_yes hps a9 hcnt)
          repeat (refine neD_cons (by (show (@Ne Nat _ _)); omega) ?_)
          exact neD_nil
        · rename sz.fmod _ ≠ 0 => a9
          exact tl_no F25 N26 hC25 off24 hlen2 (gk_no hps a9 hcnt)
      case done5 =>
        intro h24 tk24 oC24 m24 news24 hJ2 F24 N25 hC24 offC24
        obtain ⟨ys2, rfl, hlen2, hcnt⟩ := hJ2.out fun _ _ h => h
        rw [hkl, List.take_length] at hcnt
        refine cpost F24 N25 hC24 offC24 ?_
        intro h26 F26 N26
        clear F24 N25 F23 N24 N23 F22 N22 F21 N21
        dsimp only
        k_steps
        (with_reducible rename Fr g' L' _ _ => F27)
        (with_reducible rename News g' L' _ (_ :: _) => N27)
        refine set_int (pre := [_, _]) F27 N27 ?offs hd9 (by omega) ?_
        case offs =>
          repeat (refine neD_cons (by (show (@Ne Nat _ _)); omega) ?_)
          exact neD_nil
        intro h28 od28 F28 N28 hd28
        simp only [List.cons_append, List.nil_append] at N28
        clear F27 N27 F26 N26
        k_steps
        refine ⟨_, _, _, _, rfl, F28, fun p hp => N28 p (.tail _ hp), ?offt, rfl, od28, oc21, _, rfl, hd28, ⟨_, hd21⟩, kv_step hKV hnd hsz⟩
        repeat (refine neD_cons (by (show (@Ne Nat _ _)); omega) ?_)
        exact neD_nil
  case turn1 =>
    intro i v oI oC m₂ news₁ h5 tk5 hi hP hst hJ F5 N5 hC5 off5
    obtain ⟨o, hs, rfl, hS, hsS, hmem⟩ := hJ.out fun _ _ h => h
    have hi' : i < ns.length := by
      have := hI.length
      simp only [List.length_map] at this
      simpa [this] using hi
    obtain ⟨k, hk9⟩ : ∃ k, ns[i]? = some k := ⟨_, List.getElem?_eq_getElem hi'⟩
    have hkm : k ∈ ns := List.mem_of_getElem? hk9
    obtain ⟨tv, rfl⟩ : ∃ t, v = Value.int (k : Int) t := by
      obtain ⟨t, ht⟩ := hI.get i (k : Int) (by rw [List.getElem?_map, hk9]; rfl)
      exact ⟨t, by rw [List.getElem?_toArray] at hP; rw [ht] at hP; exact (Option.some.inj hP).symm⟩
    have hk6 := hns k hkm
    have hkb : 2 ≤ k ∧ k ≤ 12 := by
      simp only [List.mem_cons, List.not_mem_nil, or_false] at hk6
      rcases hk6 with e | e | e | e | e | e <;> subst e <;> decide
    obtain ⟨hkb1, hkb2⟩ := hkb
    refine wpAny_of_eq rfl ?_
    refine comp_assign F5 N5 hC5 off5 (by (show @Ne Nat _ _); omega) rfl rfl ?_
    intro h6 tk6 oC6 m6 F6 N6 hC6 e6 k6
    refine wpAny_tests_nil ?_
    simp only [if_true]
    refine body_inner (fun _ => rfl) ?_
    clear F5 N5 hC5 F10 N10 N11 F1 N1 hP hst
    k_steps
    change wpAny _ _ (call (Value.ref 318) _ _) _ _ _
    k_dflt (refine' divisors_ok _ _ ?a_u ?b_u (by k_asm) (by k_asm) (by k_asm) (by k_asm) (by k_asm) (by first | exact rfl | assumption) (by ktr_room) (by ktr_units) ?kN_u ?_; (case kN_u => k_asm); (case a_u => omega); (case b_u => omega); k_whole)
    intro xzu ezu yszu hzu tkzu Fzu Nzu gzu izu
    (try dsimp only)
    (try k_lt gzu)
    k_steps
    (with_reducible rename Fr g' L' _ _ => F7)
    (with_reducible rename News g' L' _ (_ :: _) => N7)
    (with_reducible rename IntsAre _ (dv _) => hI7)
    have hI7 : IntsAre _ (dvs k) := hI7
    have zI1 := N7 _ (.head _)
    have N8 := News.in1 N7
    have hlen7 := hI7.length
    refine cs_self rfl rfl rfl rfl (fun Q' hq => list_self _ _ _ zI1.1 hq) ?_
    refine' cgen rfl rfl (ct_set1 _ _ _ _ _ _ _ _ _ _ _ _) (Walks.list rfl _ _ (by (show @Ne Nat _ _); omega) _) (fun i h st => by obtain ⟨o, e, _⟩ := st.1; exact ⟨o, e⟩) LCg.list_st (JS w D0 (SK1 _ hs (dvs k))) ?hS1 ⟨⟨_, zI1.1, rfl, rfl⟩, News.isList N7 (.tail _ (.head _))⟩ F7 N8 hC6 zI1.2.1 zI1.2.2 ?off2 (by (show @Ne Nat _ _); omega) ⟨o, hs, _, rfl, hS, hsS, rfl, fun v => by simp⟩ ?turn2 ?done2
    case off2 =>
      repeat (refine off_cons (by constructor <;> (show (@Ne Nat _ _)) <;> omega) ?_)
      exact off_nil
    case hS1 =>
      rintro i nw ⟨o, hs, nw, rfl, h1, h2, rfl, h3⟩
      exact srcAt_of (by k_mem)
    case done2 =>
      intro h8 tk8 oC8 m8 news8 hJ8 F8 N9 hC8 offC8
      obtain ⟨o2, hs2, rfl, hS2, hsS2, hm2⟩ := hJ8.out fun _ _ h => h
      refine ⟨_, _, _, _, _, rfl, F8, News.in2 N9, hC8, ?off3, o2, hs2, _, rfl, hS2, hsS2, rfl, fun v => ?_⟩
      case off3 =>
        repeat (refine off_cons (by constructor <;> (show (@Ne Nat _ _)) <;> omega) ?_)
        exact off_nil
      rw [hm2 v, hmem v, List.take_add_one, hk9, List.size_toArray, hlen7, List.take_length]
      simp [List.mem_append, or_and_right, exists_or]
    case turn2 =>
      intro j v oI1 oC2 m3 news2 h8 tk8 hj hP2 hst2 hJ2 F8 N9 hC8 off8
      obtain ⟨o2, hs2, rfl, hS2, hsS2, hm2⟩ := hJ2.out fun _ _ h => h
      have hj' : j < (dvs k).length := by rw [← hlen7]; simpa using hj
      obtain ⟨z, hz⟩ : ∃ z, (dvs k)[j]? = some z := ⟨_, List.getElem?_eq_getElem hj'⟩
      obtain ⟨tz, rfl⟩ : ∃ t, v = Value.int z t := by
        obtain ⟨t, ht⟩ := hI7.get j z hz
        exact ⟨t, by rw [List.getElem?_toArray] at hP2; rw [ht] at hP2; exact (Option.some.inj hP2).symm⟩
      have hzv : z ∈ svals := dvs_vals k hk6 z (List.mem_of_getElem? hz)
      refine wpAny_of_eq rfl ?_
      refine comp_assign F8 N9 hC8 off8 (by (show @Ne Nat _ _); omega) rfl rfl ?_
      intro h9 tk9 oC9 m9 F9 N10' hC9 e9 k9
      refine wpAny_tests_nil ?_
      simp only [if_true]
      refine body_set ?_
      refine LCgL.ld_own N10' (.tail _ (.head _)) hC9 e9 ?_
      refine ts_end F9 N10' hC9 off8 ?offD hS2 hsS2 hzv fun hs' h1 h2 => ⟨rfl, fun v => ?_⟩
      case offD =>
        repeat (refine neD_cons (by (show (@Ne Nat _ _)); omega) ?_)
        exact neD_nil
      rw [List.take_add_one, hz]
      exact set_step h1 h2 (hm2 v)
end Mine
end
section
open PySem PySem.W PySem.W.X PySem.W.ZRun PySem.Spec PySem.Calls PyProof.Rows
set_option maxRecDepth 100000
set_option maxHeartbeats 0
set_option linter.unusedVariables false
namespace Mine
/-! the plain law -/
noncomputable def plmul (a b : List Int) : List Int := a.foldr (fun c acc => pladd (b.map (c * ·)) (0 :: acc)) []
where pladd : List Int → List Int → List Int
  | [], r => r
  | l, [] => l
  | x :: l, y :: r => (x + y) :: pladd l r
noncomputable def phis : List (Nat × List Int) := [(1, [-1, 1]), (2, [1, 1]), (3, [1, 1, 1]), (4, [1, 0, 1]), (6, [1, -1, 1]), (8, [1, 0, 0, 0, 1]), (12, [1, 0, -1, 0, 1])]
noncomputable def coefs (ns : List Int) : List Int := (phis.filter fun q => ns.any fun k => k.toNat % q.1 == 0).foldl (fun acc q => plmul acc q.2) [1]
noncomputable def pconv : List Int → (Nat → Int) → Nat → Int
  | [], _, _ => 0
  | c :: cs, g, p => c * g p + pconv cs g (p + 1)
noncomputable def bsum (k : Nat) : List Int → Nat → Int
  | [], _ => 0
  | c :: cs, j => (if j % k = 0 then c else 0) + bsum k cs (j + 1)
noncomputable def fracSet (ns : List Int) : List Nat := (List.range 24).filter fun v => ns.any fun k => v % (24 / k.toNat) == 0
noncomputable def szsOf (ns : List Int) : List Int := svals.filter fun v => ns.any fun k => decide (v ∈ dvs k.toNat)
noncomputable def stepsB (b0 b1 b2 b3 b4 b5 : Bool) : List Int := ([(2, b0), (3, b1), (4, b2), (6, b3), (8, b4), (12, b5)] : List (Int × Bool)).filterMap fun q => if q.2 = true then some q.1 else none
noncomputable def goodSteps (ns : List Int) : Bool :=
  decide (fracs (szsOf ns) = ((fracSet ns).length : Int)) && decide ((fracSet ns).length ≤ 24) && decide ((coefs ns).length = (fracSet ns).length + 1) && decide ((coefs ns)[(fracSet ns).length]? = some 1)
    && ns.all fun k => (List.range k.toNat).all fun j => decide (bsum k.toNat (coefs ns) j = 0)
theorem bsum_mod (k : Nat) : ∀ (cs : List Int) (j : Nat), bsum k cs j = bsum k cs (j % k)
  | [], _ => rfl
  | c :: cs, j => by
    unfold bsum
    rw [Nat.mod_mod, bsum_mod k cs (j + 1), bsum_mod k cs (j % k + 1), Nat.mod_add_mod]
theorem good_fracs {ns : List Int} (h : goodSteps ns = true) : fracs (szsOf ns) = ((fracSet ns).length : Int) := by
  unfold goodSteps at h; simp only [Bool.and_eq_true, decide_eq_true_eq] at h; exact h.1.1.1.1
theorem good_le {ns : List Int} (h : goodSteps ns = true) : (fracSet ns).length ≤ 24 := by
  unfold goodSteps at h; simp only [Bool.and_eq_true, decide_eq_true_eq] at h; exact h.1.1.1.2
theorem good_coefs {ns : List Int} (h : goodSteps ns = true) : ∃ cs, coefs ns = cs ++ [1] ∧ cs.length = (fracSet ns).length := by
  unfold goodSteps at h; simp only [Bool.and_eq_true, decide_eq_true_eq] at h
  obtain ⟨⟨⟨_, h1⟩, h2⟩, _⟩ := h
  obtain ⟨hi, e⟩ := List.getElem?_eq_some_iff.mp h2
  refine ⟨(coefs ns).take (fracSet ns).length, ?_, by rw [List.length_take]; omega⟩
  rw [← e, List.take_append_getElem, ← h1, List.take_length]
theorem good_sum {ns : List Int} (h : goodSteps ns = true) {k : Int} (hk : k ∈ ns) (hk0 : 0 < k) (j : Nat) : bsum k.toNat (coefs ns) j = 0 := by
  unfold goodSteps at h; simp only [Bool.and_eq_true, decide_eq_true_eq] at h
  have h2 := List.all_eq_true.mp h.2 k hk
  have h3 := List.all_eq_true.mp h2 (j % k.toNat) (List.mem_range.mpr (Nat.mod_lt _ (by omega)))
  rw [bsum_mod]
  exact of_decide_eq_true h3
theorem goodSteps_all : ∀ b0 b1 b2 b3 b4 b5 : Bool, goodSteps (stepsB b0 b1 b2 b3 b4 b5) = true := by decide +kernel
theorem stepsB_shape : ∀ b0 b1 b2 b3 b4 b5 : Bool, (stepsB b0 b1 b2 b3 b4 b5).Nodup ∧ (stepsB b0 b1 b2 b3 b4 b5).Pairwise (· ≤ ·) ∧ (stepsB b0 b1 b2 b3 b4 b5).length ≤ 6 := by decide +kernel
theorem stepsB_mem (b0 b1 b2 b3 b4 b5 : Bool) (v : Int) : v ∈ stepsB b0 b1 b2 b3 b4 b5 ↔ (v = 2 ∧ b0 = true) ∨ (v = 3 ∧ b1 = true) ∨ (v = 4 ∧ b2 = true) ∨ (v = 6 ∧ b3 = true) ∨ (v = 8 ∧ b4 = true) ∨ (v = 12 ∧ b5 = true) := by
  unfold stepsB
  rw [List.mem_filterMap]
  constructor
  · rintro ⟨⟨z, b⟩, hm, hz⟩
    simp only [List.mem_cons, List.not_mem_nil, or_false, Prod.mk.injEq] at hm
    cases b with
    | false => simp at hz
    | true =>
      simp only [if_true, Option.some.injEq] at hz
      subst hz
      rcases hm with ⟨e, h⟩ | ⟨e, h⟩ | ⟨e, h⟩ | ⟨e, h⟩ | ⟨e, h⟩ | ⟨e, h⟩ <;> subst e <;> simp [← h]
  · rintro (⟨e, h⟩ | ⟨e, h⟩ | ⟨e, h⟩ | ⟨e, h⟩ | ⟨e, h⟩ | ⟨e, h⟩) <;> subst e <;> subst h <;> exact ⟨(_, true), by simp, rfl⟩
theorem steps_shape {l : List Int} (h : ∀ v ∈ l, v ∈ [2, 3, 4, 6, 8, 12]) (hnd : l.Nodup) (hs : l.Pairwise (· ≤ ·)) : goodSteps l = true ∧ l.length ≤ 6 := by
  have e : l = stepsB (decide (2 ∈ l)) (decide (3 ∈ l)) (decide (4 ∈ l)) (decide (6 ∈ l)) (decide (8 ∈ l)) (decide (12 ∈ l)) := by
    refine List.Perm.eq_of_pairwise (fun a b _ _ h1 h2 => Int.le_antisymm h1 h2) hs (stepsB_shape _ _ _ _ _ _).2.1 ((List.perm_ext_iff_of_nodup hnd (stepsB_shape _ _ _ _ _ _).1).mpr fun v => ?_)
    rw [stepsB_mem]
    simp only [decide_eq_true_eq]
    constructor
    · intro hv
      have := h v hv
      simp only [List.mem_cons, List.not_mem_nil, or_false] at this
      rcases this with e | e | e | e | e | e <;> subst e <;> simp [hv]
    · rintro (⟨e, h⟩ | ⟨e, h⟩ | ⟨e, h⟩ | ⟨e, h⟩ | ⟨e, h⟩ | ⟨e, h⟩) <;> subst e <;> exact h
  rw [e]
  exact ⟨goodSteps_all _ _ _ _ _ _, (stepsB_shape _ _ _ _ _ _).2.2⟩
theorem pconv_e (k a : Nat) : ∀ (cs : List Int) (p : Nat), pconv cs (fun q => if (q + a) % k = 0 then 1 else 0) p = bsum k cs (p + a)
  | [], _ => rfl
  | c :: cs, p => by
    unfold pconv bsum
    rw [pconv_e k a cs (p + 1)]
    have : p + 1 + a = p + a + 1 := by omega
    rw [this]
    by_cases h : (p + a) % k = 0 <;> simp [h]
theorem pconv_add (g g' : Nat → Int) : ∀ (cs : List Int) (p : Nat), pconv cs (fun q => g q + g' q) p = pconv cs g p + pconv cs g' p
  | [], _ => rfl
  | c :: cs, p => by
    unfold pconv
    rw [pconv_add g g' cs (p + 1), Int.mul_add]; omega
theorem pconv_neg (g : Nat → Int) : ∀ (cs : List Int) (p : Nat), pconv cs (fun q => - g q) p = - pconv cs g p
  | [], _ => rfl
  | c :: cs, p => by
    unfold pconv
    rw [pconv_neg g cs (p + 1), Int.mul_neg]; omega
theorem pconv_zero {cs : List Int} {g : Nat → Int} {p : Nat} (h : ∀ j, j < cs.length → g (p + j) = 0) : pconv cs g p = 0 := by
  induction cs generalizing p with
  | nil => rfl
  | cons c cs ih =>
    unfold pconv
    rw [ih (fun j hj => by have := h (j + 1) (by simpa using hj); rw [← this]; congr 1; omega)]
    have := h 0 (by simp)
    rw [Nat.add_zero] at this
    rw [this]; simp
theorem pconv_snoc {cs : List Int} {g : Nat → Int} {p : Nat} : pconv (cs ++ [1]) g p = pconv cs g p + g (p + cs.length) := by
  induction cs generalizing p with
  | nil => simp [pconv]
  | cons c cs ih =>
    rw [List.cons_append]
    unfold pconv
    rw [ih, List.length_cons]
    have : p + 1 + cs.length = p + (cs.length + 1) := by omega
    rw [this]; omega
theorem rec_zero {cs : List Int} {g : Nat → Int} {p : Nat} (hr : ∀ q, pconv (cs ++ [1]) g q = 0) (h : ∀ j, j < cs.length → g (p + j) = 0) : ∀ j, g (p + j) = 0 := by
  have key : ∀ n j, j < n → g (p + j) = 0 := by
    intro n
    induction n with
    | zero => intro j hj; omega
    | succ n ih =>
      intro j hj
      by_cases hjn : j < n
      · exact ih j hjn
      have e : j = n := by omega
      subst e
      by_cases hc : j < cs.length
      · exact h j hc
      have r := hr (p + (j - cs.length))
      rw [pconv_snoc, pconv_zero (fun i hi => by
        have := ih (j - cs.length + i) (by omega)
        rw [← this]; congr 1; omega)] at r
      rw [Int.zero_add] at r
      rw [← r]; congr 1; omega
  exact fun j => key (j + 1) j (by omega)
theorem lrun_inv (bs : List Bool) : ∀ i, i ≤ bs.length → 0 ≤ (lrun bs i).2 ∧ (lrun bs i).2 ≤ i ∧ (∀ j, j < (lrun bs i).2.toNat → bs[i - (lrun bs i).2.toNat + j]? = some true) ∧ 0 ≤ (lrun bs i).1 ∧ ∃ p0, p0 + (lrun bs i).1.toNat ≤ i ∧ ∀ j, j < (lrun bs i).1.toNat → bs[p0 + j]? = some true
  | 0, _ => ⟨Int.le_refl _, Int.le_refl _, fun j hj => by simp [lrun] at hj, Int.le_refl _, 0, by simp [lrun], fun j hj => by simp [lrun] at hj⟩
  | i + 1, h => by
    obtain ⟨h1, h2, h3, h4, p0, h5, h6⟩ := lrun_inv bs i (by omega)
    have hb : bs[i]? = some bs[i] := List.getElem?_eq_getElem (by omega)
    rw [lrun_succ hb]
    generalize lrun bs i = st at h1 h2 h3 h4 h5 h6
    obtain ⟨best, run⟩ := st
    dsimp only at h1 h2 h3 h4 h5 h6
    cases hv : bs[i] with
    | false =>
      unfold lstep
      simp only [Bool.false_eq_true, if_false]
      have hn : ¬ (0 > best) := by omega
      rw [if_neg hn]
      exact ⟨by decide, by simp; omega, fun j hj => by simp at hj, h4, p0, by omega, h6⟩
    | true =>
      rw [hv] at hb
      obtain ⟨r, rfl⟩ := Int.eq_ofNat_of_zero_le h1
      have hr : r ≤ i := Int.ofNat_le.mp h2
      have hrun : ∀ j, j < ((r : Int) + 1).toNat → bs[i + 1 - ((r : Int) + 1).toNat + j]? = some true := by
        rw [show ((r : Int) + 1).toNat = r + 1 from rfl, Nat.add_sub_add_right]
        intro j hj
        rcases Nat.lt_succ_iff_lt_or_eq.mp hj with hj2 | rfl
        · exact h3 j hj2
        · rw [Nat.sub_add_cancel hr, hb]
      unfold lstep
      simp only [if_true]
      refine ⟨by omega, by simp; omega, hrun, ?_⟩
      by_cases hm : (r : Int) + 1 > best
      · rw [if_pos hm]
        exact ⟨by omega, i + 1 - ((r : Int) + 1).toNat, by omega, hrun⟩
      · rw [if_neg hm]
        exact ⟨h4, p0, by omega, h6⟩
theorem lrun_all {bs : List Bool} (h : ∀ b ∈ bs, b = true) : bs.foldl lstep (0, 0) = ((bs.length : Int), (bs.length : Int)) := by
  have key : ∀ (bs : List Bool) (n : Nat), (∀ b ∈ bs, b = true) → bs.foldl lstep ((n : Int), (n : Int)) = (((n + bs.length : Nat) : Int), ((n + bs.length : Nat) : Int)) := by
    intro bs
    induction bs with
    | nil => intro n _; rfl
    | cons b bs ih =>
      intro n h
      have hb := h b (.head _)
      subst hb
      have e : lstep ((n : Int), (n : Int)) true = (((n + 1 : Nat) : Int), ((n + 1 : Nat) : Int)) := by
        unfold lstep
        simp only [if_true]
        rw [if_pos (by omega)]
        rfl
      rw [List.foldl_cons, e, ih (n + 1) (fun b hb => h b (.tail _ hb)), List.length_cons]
      have : n + 1 + bs.length = n + (bs.length + 1) := by omega
      rw [this]
  have := key bs 0 h
  simpa using this
noncomputable def mk (n : Int) (q : Nat) : Int := if (q + (1 + ((stepOf n).toNat - (firstOf n).toNat))) % (stepOf n).toNat = 0 then 1 else 0
theorem hit_mk (n : Int) (q : Nat) : hit (firstOf n).toNat (stepOf n).toNat (q + 1) = mk n q := by
  have hb := first_bounds n
  unfold hit mk
  have e : ((firstOf n).toNat ≤ q + 1 ∧ (q + 1 - (firstOf n).toNat) % (stepOf n).toNat = 0) ↔ (q + (1 + ((stepOf n).toNat - (firstOf n).toNat))) % (stepOf n).toNat = 0 := by
    have h1 : (firstOf n).toNat ≤ (stepOf n).toNat := by omega
    have h2 : 1 ≤ (firstOf n).toNat := by omega
    generalize (firstOf n).toNat = c at h1 h2
    generalize (stepOf n).toNat = k at h1
    constructor
    · rintro ⟨h3, h4⟩
      have : q + (1 + (k - c)) = q + 1 - c + k := by omega
      rw [this, Nat.add_mod_right, h4]
    · intro h
      have h3 : c ≤ q + 1 := by
        false_or_by_contra
        rw [Nat.mod_eq_of_lt (by omega)] at h
        omega
      refine ⟨h3, ?_⟩
      have : q + (1 + (k - c)) = q + 1 - c + k := by omega
      rw [this, Nat.add_mod_right] at h
      exact h
  by_cases h : (q + (1 + ((stepOf n).toNat - (firstOf n).toNat))) % (stepOf n).toNat = 0
  · rw [if_pos h, if_pos (e.mpr h)]
  · rw [if_neg h, if_neg (fun h' => h (e.mp h'))]
theorem add24 {q r k : Nat} (h : 24 % k = 0) : (q + 24 + r) % k = (q + r) % k := by
  obtain ⟨c, hc⟩ := Nat.dvd_of_mod_eq_zero h
  rw [Nat.add_right_comm, hc, Nat.add_mul_mod_self_left]
theorem mk_per (n : Int) (q : Nat) : mk n (q + 24) = mk n q := by
  unfold mk
  have h := step_cases n
  have e : (q + 24 + (1 + ((stepOf n).toNat - (firstOf n).toNat))) % (stepOf n).toNat = (q + (1 + ((stepOf n).toNat - (firstOf n).toNat))) % (stepOf n).toNat := by
    generalize (firstOf n).toNat = c
    exact add24 (by rcases h with h | h | h | h | h | h <;> rw [h] <;> rfl)
  rw [e]
noncomputable def row3 (na : Nat → Int) (q : Nat) : Int := mk (na 0) q + mk (na 1) q + mk (na 2) q
theorem row_row3 (na : Nat → Int) (q : Nat) : rowAfter (fun i => (firstOf (na i)).toNat) (fun i => (stepOf (na i)).toNat) 3 (q + 1) = row3 na q := by
  show 0 + hit _ _ _ + hit _ _ _ + hit _ _ _ = _
  rw [hit_mk, hit_mk, hit_mk, Int.zero_add]; rfl
theorem pconv_row3 {ns : List Int} (hg : goodSteps ns = true) {na : Nat → Int} (ha : ∀ i, i < 3 → stepOf (na i) ∈ ns) (p : Nat) : pconv (coefs ns) (row3 na) p = 0 := by
  have key : ∀ i, i < 3 → pconv (coefs ns) (mk (na i)) p = 0 := fun i hi => by
    have hb := first_bounds (na i)
    exact (pconv_e _ _ _ _).trans (good_sum hg (ha i hi) (by omega) _)
  have e : row3 na = fun q => (fun q => mk (na 0) q + mk (na 1) q) q + mk (na 2) q := rfl
  rw [e, pconv_add, pconv_add]
  have h0 := key 0 (by omega)
  have h1 := key 1 (by omega)
  have h2 := key 2 (by omega)
  rw [h0, h1, h2]; rfl
theorem law_plain {ns : List Int} (hg : goodSteps ns = true) {na nb : Nat → Int} (ha : ∀ i, i < 3 → stepOf (na i) ∈ ns) (hb : ∀ i, i < 3 → stepOf (nb i) ∈ ns) {bs : List Bool} (hl : bs.length = 24) (hbs : ∀ q, q < 24 → bs[q]? = some (decide (row3 na q = row3 nb q))) :
    ((fracSet ns).length : Int) ≤ ((bs ++ bs).foldl lstep (0, 0)).1 ↔ ∀ b ∈ bs, b = true := by
  constructor
  · intro hle
    have hrun : ∀ l : List Bool, l.foldl lstep (0, 0) = lrun l l.length := fun l => by unfold lrun; rw [List.take_length]
    rw [hrun] at hle
    obtain ⟨_, _, _, _, p0, h5, h6⟩ := lrun_inv (bs ++ bs) _ (Nat.le_refl _)
    generalize (lrun (bs ++ bs) (bs ++ bs).length).1 = best at hle h5 h6
    obtain ⟨cs, hcs, hcl⟩ := good_coefs hg
    rw [List.length_append, hl] at h5
    have per : ∀ (n : Nat → Int) q, row3 n (q + 24) = row3 n q := fun n q => by unfold row3; rw [mk_per, mk_per, mk_per]
    have z0 : ∀ j, j < cs.length → (fun q => row3 na q + - row3 nb q) (p0 + j) = 0 := fun j hj => by
      have h := h6 j (by omega)
      show row3 na (p0 + j) + - row3 nb (p0 + j) = 0
      by_cases hq : p0 + j < 24
      · rw [List.getElem?_append_left (by omega), hbs _ hq] at h
        have := of_decide_eq_true (Option.some.inj h)
        omega
      · rw [List.getElem?_append_right (by omega), hl, hbs _ (by omega)] at h
        have := of_decide_eq_true (Option.some.inj h)
        have e1 := per na (p0 + j - 24)
        have e2 := per nb (p0 + j - 24)
        rw [show p0 + j - 24 + 24 = p0 + j by omega] at e1 e2
        omega
    have z1 := rec_zero (cs := cs) (g := fun q => row3 na q + - row3 nb q) (p := p0) (fun q => by
      rw [← hcs, pconv_add (row3 na) (fun q => - row3 nb q), pconv_neg, pconv_row3 hg ha, pconv_row3 hg hb]; rfl) z0
    intro b hbm
    obtain ⟨q, hq, rfl⟩ := List.getElem_of_mem hbm
    have h := hbs q (by omega)
    rw [List.getElem?_eq_getElem hq] at h
    rw [Option.some.inj h]
    refine decide_eq_true ?_
    have z := z1 (q + 24 + 24 - p0)
    rw [show p0 + (q + 24 + 24 - p0) = q + 24 + 24 by omega] at z
    have z : row3 na (q + 24 + 24) + - row3 nb (q + 24 + 24) = 0 := z
    rw [per, per, per, per] at z
    omega
  · intro h
    rw [lrun_all (fun b hb => (List.mem_append.mp hb).elim (h b) (h b)), List.length_append, hl]
    have := good_le hg
    show ((fracSet ns).length : Int) ≤ ((24 + 24 : Nat) : Int)
    omega
theorem val6 : ∀ v ∈ ([2, 3, 4, 6, 8, 12] : List Int), ((v.toNat : Nat) : Int) = v ∧ v.toNat ∈ [2, 3, 4, 6, 8, 12] := by decide
theorem szs_nat {l : List Int} (h : ∀ v ∈ l, v ∈ [2, 3, 4, 6, 8, 12]) : (l.map Int.toNat).map (fun k : Nat => (k : Int)) = l ∧ ∀ k ∈ l.map Int.toNat, k ∈ [2, 3, 4, 6, 8, 12] := by
  constructor
  · rw [List.map_map]
    have : ∀ v ∈ l, ((fun k : Nat => (k : Int)) ∘ Int.toNat) v = v := fun v hv => by
      exact (val6 v (h v hv)).1
    rw [List.map_congr_left this]; simp
  · intro k hk
    obtain ⟨v, hv, rfl⟩ := List.mem_map.mp hk
    exact (val6 v (h v hv)).2
theorem szs_frac {ns szs : List Int} (h : ∀ v ∈ ns, v ∈ [2, 3, 4, 6, 8, 12]) (hg : goodSteps ns = true) (hm : ∀ v, v ∈ szs ↔ ∃ k ∈ ns.map Int.toNat, v ∈ dvs k) (hnd : szs.Nodup) (hs : szs.Pairwise (· ≤ ·)) : fracs szs = ((fracSet ns).length : Int) := by
  rw [← good_fracs hg]
  congr 1
  have hv : svals.Nodup ∧ svals.Pairwise (· ≤ ·) := by decide +kernel
  refine List.Perm.eq_of_pairwise (fun a b _ _ h1 h2 => Int.le_antisymm h1 h2) hs (List.Pairwise.filter _ hv.2) ((List.perm_ext_iff_of_nodup hnd (List.Pairwise.filter _ hv.1)).mpr fun v => ?_)
  rw [hm, List.mem_filter, List.any_eq_true]
  constructor
  · rintro ⟨k, hk, hd⟩
    obtain ⟨z, hz, rfl⟩ := List.mem_map.mp hk
    exact ⟨dvs_vals _ ((szs_nat h).2 _ hk) v hd, z, hz, decide_eq_true hd⟩
  · rintro ⟨_, z, hz, hd⟩
    exact ⟨_, List.mem_map_of_mem hz, of_decide_eq_true hd⟩
theorem frac_len {ns hs : List Int} (h : ∀ v ∈ ns, v ∈ [2, 3, 4, 6, 8, 12]) (hnd : hs.Nodup) (hm : ∀ v, v ∈ hs ↔ ∃ k ∈ ns, ∃ p : Nat, p < k.toNat ∧ v = (p : Int) * (24 : Int).fdiv k) : hs.length = (fracSet ns).length := by
  have hn2 : ((fracSet ns).map fun k : Nat => (k : Int)).Nodup := by
    refine List.Pairwise.map _ (fun a b hab hc => hab (Int.ofNat.inj hc)) (List.Pairwise.filter _ List.nodup_range)
  have hp : hs.Perm ((fracSet ns).map fun k : Nat => (k : Int)) := (List.perm_ext_iff_of_nodup hnd hn2).mpr fun v => by
    rw [hm, List.mem_map]
    have hk : ∀ k ∈ ns, (24 : Int).fdiv k = ((24 / k.toNat : Nat) : Int) ∧ k.toNat * (24 / k.toNat) = 24 := fun k hk => by
      have := h k hk
      simp only [List.mem_cons, List.not_mem_nil, or_false] at this
      rcases this with e | e | e | e | e | e <;> subst e <;> decide
    constructor
    · rintro ⟨k, hk1, p, hp, rfl⟩
      refine ⟨p * (24 / k.toNat), ?_, by rw [(hk k hk1).1, Int.natCast_mul]⟩
      unfold fracSet
      rw [List.mem_filter, List.mem_range, List.any_eq_true]
      have h24 := (hk k hk1).2
      have h0 : 0 < 24 / k.toNat := Nat.pos_of_ne_zero fun e => by rw [e] at h24; omega
      exact ⟨by have := Nat.mul_lt_mul_of_pos_right hp h0; omega, k, hk1, by simp⟩
    · rintro ⟨u, hu, rfl⟩
      unfold fracSet at hu
      rw [List.mem_filter, List.mem_range, List.any_eq_true] at hu
      obtain ⟨hu, k, hk1, hd⟩ := hu
      have h24 := (hk k hk1).2
      have hd : u % (24 / k.toNat) = 0 := by simpa using hd
      have e : u / (24 / k.toNat) * (24 / k.toNat) = u := Nat.div_mul_cancel (Nat.dvd_of_mod_eq_zero hd)
      refine ⟨k, hk1, u / (24 / k.toNat), ?_, by rw [(hk k hk1).1, ← Int.natCast_mul, e]⟩
      refine Nat.lt_of_mul_lt_mul_right (a := 24 / k.toNat) ?_
      rw [e, h24]; exact hu
  rw [hp.length_eq, List.length_map]
theorem hit_phit (n : Int) (q : Nat) : hit (firstOf n).toNat (stepOf n).toNat (q + 1) = phit n ((q : Int) + 1) := by
  have hb := first_bounds n
  unfold hit phit
  generalize firstOf n = c at hb
  generalize stepOf n = k at hb
  have e : (((q : Int) + 1 - c).fmod k = 0) ↔ (c.toNat ≤ q + 1 ∧ (q + 1 - c.toNat) % k.toNat = 0) := by
    rw [Int.fmod_eq_emod_of_nonneg _ (by omega)]
    constructor
    · intro h
      have h1 : c.toNat ≤ q + 1 := by
        false_or_by_contra
        have h2 : (q : Int) + 1 - c < 0 := by omega
        have h3 : ((q : Int) + 1 - c + k) % k = 0 := by rw [Int.add_emod_right, h]
        rw [Int.emod_eq_of_lt (by omega) (by omega)] at h3
        omega
      refine ⟨h1, ?_⟩
      have h2 : ((q + 1 - c.toNat : Nat) : Int) = (q : Int) + 1 - c := by omega
      have h3 : ((k.toNat : Nat) : Int) = k := by omega
      have h4 : (((q + 1 - c.toNat) % k.toNat : Nat) : Int) = 0 := by rw [Int.natCast_emod, h2, h3, h]
      exact Int.ofNat_eq_zero.mp h4
    · rintro ⟨h1, h⟩
      have h2 : ((q + 1 - c.toNat : Nat) : Int) = (q : Int) + 1 - c := by omega
      have h3 : ((k.toNat : Nat) : Int) = k := by omega
      rw [← h2, ← h3, ← Int.natCast_emod, h]; rfl
  by_cases h : ((q : Int) + 1 - c).fmod k = 0
  · rw [if_pos h, if_pos (e.mp h)]
  · rw [if_neg h, if_neg (fun h' => h (e.mpr h'))]
theorem row_plain (ns : Nat → Int) (q : Nat) : ∀ i, rowAfter (fun i => (firstOf (ns i)).toNat) (fun i => (stepOf (ns i)).toNat) i (q + 1) = pcnt ns ((q : Int) + 1) i
  | 0 => rfl
  | i + 1 => by
    unfold rowAfter pcnt
    rw [row_plain ns q i, hit_phit]
theorem rows_plain (ns : Nat → Int) : ((List.range 24).map fun (q : Nat) => pcnt ns ((q : Int) + 1) 3) = ((List.range 24).map fun p => rowAfter (fun i => (firstOf (ns i)).toNat) (fun i => (stepOf (ns i)).toNat) 3 (p + 1)) :=
  List.map_congr_left fun q _ => (row_plain ns q 3).symm
theorem bs_rows {na nb : Nat → Int} {ga gb : List Int} {bs : List Bool} (ha : ((List.range 24).map fun p => rowAfter (fun i => (firstOf (na i)).toNat) (fun i => (stepOf (na i)).toNat) 3 (p + 1)) = ga) (hb : ((List.range 24).map fun p => rowAfter (fun i => (firstOf (nb i)).toNat) (fun i => (stepOf (nb i)).toNat) 3 (p + 1)) = gb)
    (h : ((ga.zip gb).map fun p => p.1 == p.2) = bs) : ∀ q, q < 24 → bs[q]? = some (decide (row3 na q = row3 nb q)) := by
  intro q hq
  have hr : (List.range 24)[q]? = some q := by rw [List.getElem?_range hq]
  have e1 : ga[q]? = some (row3 na q) := by rw [← ha, List.getElem?_map, hr, ← row_row3]; rfl
  have e2 : gb[q]? = some (row3 nb q) := by rw [← hb, List.getElem?_map, hr, ← row_row3]; rfl
  rw [← h, List.getElem?_map, List.getElem?_zip_eq_some (z := (row3 na q, row3 nb q)) |>.mpr ⟨e1, e2⟩]
  rfl
theorem any_false (bs : List Bool) : (!(bs.any (· == false))) = decide (∀ b ∈ bs, b = true) := by
  by_cases h : ∀ b ∈ bs, b = true
  · rw [decide_eq_true h]
    have : bs.any (· == false) = false := by
      rw [List.any_eq_false]
      intro b hb
      rw [h b hb]; decide
    rw [this]; rfl
  · rw [decide_eq_false h]
    have : bs.any (· == false) = true := by
      rw [List.any_eq_true]
      false_or_by_contra
      rename_i hn
      refine h fun b hb => ?_
      cases b with
      | true => rfl
      | false => exact absurd ⟨false, hb, rfl⟩ hn
    rw [this]; rfl
end Mine
end
section
open PySem PySem.W PySem.W.X PySem.W.ZRun PySem.Spec PySem.Calls PyProof.Rows
set_option maxRecDepth 100000
set_option maxHeartbeats 0
set_option linter.unusedVariables false
namespace Mine
open LCg
section
variable {prog : Program} {w : World} {A : Around} {E : Value → Shared → Prop} {R : Result → Shared → Prop} {s : Shared} {h₀ : Heap} {L : Addr} {m : Str → Option Value} {env : Env}
noncomputable def TurnM (Mi : (Str → Option Value) → Prop) (h₀ : Heap) (L : Addr) (m : Str → Option Value) (s : Shared) (I : Addr) (oI : Obj) (C : Addr) (J : List (Addr × Obj) → Prop) (s₂ : Shared) : Prop :=
  ∃ h' tk' oC m₂ news', s₂ = { s with heap := h', toks := tk' } ∧ Fr h₀ L h' m ∧ News h₀ L h' ((I, oI) :: (C, oC) :: news') ∧ NsObj oC m₂ ∧ Mi m₂ ∧ (∀ p ∈ news', p.1 ≠ I ∧ p.1 ≠ C) ∧ J news'
theorem cgenM {Mi : (Str → Option Value) → Prop} {e : Expr} {d : Nat} {target : Expr} {ifs : List Expr} {ip : Pos} {acc : Value} {cenv : Env} {BODY : Sem Unit} {I C : Addr} {fp : List Addr} {n : Nat} {P : Nat → Value → Prop} {St : Nat → Heap → Prop} {S : List (Addr × Obj) → Prop} {news : List (Addr × Obj)} {oC : Obj} {m₂ : Str → Option Value}
    (hfr : (Code.compLoop e d (.ref I) acc cenv).isFrame = false) (hun : A.under (Code.compLoop e d (.ref I) acc cenv) = A)
    (heq : compTurn e d (.ref I) acc cenv = (do
      standAt ip
      match ← pyNext (.ref I) with
      | none => pure (.done .next)
      | some v =>
        letOwnedTupleGo target (.ref I) v
        assign target cenv v
        let mut ok := true
        for c in ifs do
          if ok then ok ← isTrue c cenv (eval c cenv)
        if ok then
          BODY
        again (.compLoop e d (.ref I) acc cenv)))
    (W : Walks prog w A I fp [I] n P St) (hIo : ∀ i h, St i h → ∃ o, h.get? I = some o)
    (hSt : ∀ i h h' o nw, St i h → h.get? I = some o → h'.get? I = some o → (∀ b o, h₀.get? b = some o → h'.get? b = some o) → News h₀ L h' nw → S nw → St i h')
    (J : Nat → List (Addr × Obj) → Prop) (hS : ∀ i nw, J i nw → S nw) (hst : St 0 s.heap) (F : Fr h₀ L s.heap m) (N : News h₀ L s.heap ((C, oC) :: news)) (hC : NsObj oC m₂) (hMi : Mi m₂) (hIL : I ≠ L) (hI₀ : h₀.get? I = none)
    (off : ∀ p ∈ news, p.1 ≠ I ∧ p.1 ≠ C) (hCI : C ≠ I) (hJ : J 0 news)
    (turn : ∀ i v oI oC m₂ news₁ h tk, i < n → P i v → St (i + 1) h → J i news₁ → Fr h₀ L h m → News h₀ L h ((I, oI) :: (C, oC) :: news₁) → NsObj oC m₂ → Mi m₂ → (∀ p ∈ news₁, p.1 ≠ I ∧ p.1 ≠ C) →
      wpAny (model prog w) A (letOwnedTupleGo target (.ref I) v) (fun _ s₁' => wpAny (model prog w) A (assign target cenv v) (fun _ s₂ =>
          ctests w prog A ifs cenv (fun ok s₃ =>
            if ok = true then wpAny (model prog w) A BODY (fun _ s₅ => TurnM Mi h₀ L m s I oI C (J (i + 1)) s₅) (notedBy (model prog w) A cenv fun e s' => R (.error e) s') s₃
            else TurnM Mi h₀ L m s I oI C (J (i + 1)) s₃) (notedBy (model prog w) A cenv fun e s' => R (.error e) s') s₂) (notedBy (model prog w) A cenv fun e s' => R (.error e) s') s₁') (notedBy (model prog w) A cenv fun e s' => R (.error e) s') { s with heap := h, toks := tk })
    (done : ∀ h tk oC m₂ news₁, J n news₁ → Fr h₀ L h m → News h₀ L h ((C, oC) :: news₁) → NsObj oC m₂ → (∀ p ∈ news₁, p.1 ≠ C) → R (.ok .next) { s with heap := h, toks := tk }) :
    codeAny (model prog w) A (.compLoop e d (.ref I) acc cenv) R s := by
  refine cl_rule hfr hun heq (fun k s' => ∃ i h' tk' oC m₂ news', k = n + 1 - i ∧ i ≤ n ∧ s' = { s with heap := h', toks := tk' } ∧ St i h' ∧ Fr h₀ L h' m ∧ News h₀ L h' ((C, oC) :: news') ∧ NsObj oC m₂ ∧ Mi m₂ ∧ (∀ p ∈ news', p.1 ≠ I ∧ p.1 ≠ C) ∧ J i news') ?_ (n + 1)
    ⟨0, s.heap, s.toks, oC, m₂, news, rfl, Nat.zero_le _, rfl, hst, F, N, hC, hMi, off, hJ⟩
  rintro k s' ⟨i, h', tk', oC, m₂, news', rfl, hi, rfl, hst', F', N', hC', hMi', off', hJ'⟩
  have offA : ∀ p ∈ (C, oC) :: news', p.1 ≠ I := fun p hp => by
    rcases List.mem_cons.mp hp with rfl | hp
    · exact hCI
    · exact (off' p hp).1
  by_cases hlt : i < n
  · refine W.item i _ _ _ hlt hst' fun v h₂ tk₂ hPv hst₂ hk₂ => ?_
    have F₂ := fr_but F' hk₂ (Ne.symm hIL) hI₀
    have N₂ := news_but N' hk₂ offA
    obtain ⟨oI, heI⟩ := hIo _ _ hst₂
    have fin : ∀ s₅, TurnM Mi h₀ L m s I oI C (J (i + 1)) s₅ → ∃ k', k' < n + 1 - i ∧ ∃ i h' tk' oC m₂ news', k' = n + 1 - i ∧ i ≤ n ∧ s₅ = { s with heap := h', toks := tk' } ∧ St i h' ∧ Fr h₀ L h' m ∧ News h₀ L h' ((C, oC) :: news') ∧ NsObj oC m₂ ∧ Mi m₂ ∧ (∀ p ∈ news', p.1 ≠ I ∧ p.1 ≠ C) ∧ J i news' := by
      rintro s₅ ⟨h₅, tk₅, oC₅, m₅, news₅, rfl, F₅, N₅, hC₅, hMi₅, off₅, hJ₅⟩
      have N5' : News h₀ L h₅ ((C, oC₅) :: news₅) := fun p hp => N₅ p (.tail _ hp)
      exact ⟨n + 1 - (i + 1), dec_lt (by assumption), i + 1, h₅, tk₅, oC₅, m₅, news₅, rfl, hlt, rfl, hSt _ _ _ _ news₅ hst₂ heI (N₅ _ (.head _)).1 F₅.keep (fun p hp => N₅ p (.tail _ (.tail _ hp))) (hS _ _ hJ₅), F₅, N5', hC₅, hMi₅, off₅, hJ₅⟩
    refine wpAny_mono (turn i v oI oC m₂ news' h₂ tk₂ hlt hPv hst₂ hJ' F₂ (fun p hp => ?_) hC' hMi' off') (fun _ s₁' h₁' => wpAny_mono h₁' (fun _ s₂ h₂ => wpAny_mono h₂ (fun ok s₃ h₃ => ?_) fun _ _ y => y) fun _ _ y => y) fun _ _ y => y
    · rcases List.mem_cons.mp hp with rfl | hp
      · exact ⟨heI, hIL, hI₀⟩
      · exact N₂ p hp
    · cases ok with
      | false => exact fin _ h₃
      | true => exact wpAny_mono h₃ (fun _ s₅ h₅ => fin _ h₅) fun _ _ y => y
  · have : i = n := by omega
    subst this
    refine W.done _ _ _ hst' fun h₂ tk₂ hk₂ => ?_
    exact done h₂ tk₂ oC m₂ news' hJ' (fr_but F' hk₂ (Ne.symm hIL) hI₀) (news_but N' hk₂ offA) hC' fun p hp => (off' p hp).2
theorem tn_endM {Mi : (Str → Option Value) → Prop} {I C D : Addr} {oI oC o : Obj} {m₂ : Str → Option Value} {hs : List Int} {v : Int} {t : Tok} {nw : List (Addr × Obj)} {K : Nat → List Int → List (Addr × Obj) → Prop} {i : Nat} {s₀ : Shared} {h₄ : Heap} {tk₄ : Nat} (F : Fr h₀ L h₄ m) (N : News h₀ L h₄ ((I, oI) :: (C, oC) :: (D, o) :: nw)) (hC : NsObj oC m₂) (hMi : Mi m₂)
    (off : ∀ p ∈ (D, o) :: nw, p.1 ≠ I ∧ p.1 ≠ C) (offD : ∀ p ∈ nw, p.1 ≠ D) (hS : o.SetObjOf (PySem.intKind prog w) (fun k => decide (k ∈ hs)) hs.length) (hnd : hs.Nodup) (hl : hs.length ≤ i) (hi : i ≤ 1000) (hK : ∀ hs', (∀ k, k ∈ hs' ↔ k ∈ hs ∨ k = v) → K (i + 1) hs' nw) :
    wpAny (model prog w) A (call (.builtin "set.add") [.ref D, .int v t]) (fun _ s₅ => TurnM Mi h₀ L m s₀ I oI C (JN prog w D K (i + 1)) s₅) E { s₀ with heap := h₄, toks := tk₄ } := by
  have zD := N _ (.tail _ (.tail _ (.head _)))
  have oD := off _ (.head _)
  refine add_sl1 (knd := PySem.intKind prog w) (own := [(I, oI), (C, oC)]) F N ?_ offD hS (by unfold scanBound; omega) (PySem.intKind_is _ _ _ _) rfl fun h₅ so' F₅ N₅ hS' => ?_
  · intro p hp
    rcases List.mem_cons.mp hp with rfl | hp
    · exact Ne.symm oD.1
    · rw [List.mem_singleton.mp hp]; exact Ne.symm oD.2
  · refine ⟨h₅, tk₄ + 1, oC, m₂, (D, so') :: nw, rfl, F₅, N₅, hC, hMi, fun p hp => ?_, ?_⟩
    · rcases List.mem_cons.mp hp with rfl | hp
      · exact oD
      · exact off p (.tail _ hp)
    · by_cases hm : v ∈ hs
      · refine ⟨so', hs, nw, rfl, ?_, hnd, Nat.le_succ_of_le hl, hK hs fun k => ⟨.inl, fun h => h.elim id fun e => e ▸ hm⟩⟩
        have e1 : (fun k' => decide (k' ∈ hs) || decide (k' = v)) = fun k => decide (k ∈ hs) := by
          funext k
          by_cases hk : k = v
          · subst hk; simp [hm]
          · simp [hk]
        rw [e1] at hS'
        simpa [hm] using hS'
      · refine ⟨so', v :: hs, nw, rfl, ?_, List.nodup_cons.mpr ⟨hm, hnd⟩, Nat.succ_le_succ hl, hK (v :: hs) fun k => ⟨fun h => (List.mem_cons.mp h).elim .inr .inl, fun h => List.mem_cons.mpr (h.elim .inr .inl)⟩⟩
        have e1 : (fun k' => decide (k' ∈ hs) || decide (k' = v)) = fun k => decide (k ∈ v :: hs) := by
          funext k
          by_cases hk : k = v
          · subst hk; simp
          · simp [hk]
        rw [e1] at hS'
        simpa [hm] using hS'
end
end Mine
end
section
open PySem PySem.W PySem.W.X PySem.W.ZRun PySem.Spec PySem.Calls PyProof.Rows
set_option maxRecDepth 100000
set_option maxHeartbeats 0
set_option linter.unusedVariables false
namespace Mine
open LCg
section
variable {prog : Program} {w : World} {A : Around} {E : Value → Shared → Prop} {R : Result → Shared → Prop} {s : Shared} {h₀ : Heap} {L : Addr} {m : Str → Option Value} {env : Env}
theorem fr_buts {h h' : Heap} {wr : List Addr} (F : Fr h₀ L h m) (hk : ∀ b o, b ∉ wr → h.get? b = some o → h'.get? b = some o) (hL : L ∉ wr) (hI : ∀ b ∈ wr, h₀.get? b = none) : Fr h₀ L h' m :=
  ⟨F.ns.at' fun o e => hk L o hL e, fun b o e => hk b o (fun hm => by rw [hI b hm] at e; cases e) (F.keep b o e), F.above⟩
theorem news_buts {h h' : Heap} {wr : List Addr} {news : List (Addr × Obj)} (N : News h₀ L h news) (hk : ∀ b o, b ∉ wr → h.get? b = some o → h'.get? b = some o) (off : ∀ p ∈ news, p.1 ∉ wr) : News h₀ L h' news :=
  fun p hp => ⟨hk _ _ (off p hp) (N p hp).1, (N p hp).2⟩
theorem owns {h : Heap} : ∀ {ws : List Addr}, (∀ b ∈ ws, ∃ o, h.get? b = some o) → ∃ own : List (Addr × Obj), own.map (·.1) = ws ∧ ∀ p ∈ own, h.get? p.1 = some p.2
  | [], _ => ⟨[], rfl, fun _ hp => nomatch hp⟩
  | b :: ws, hb => by
    obtain ⟨o, e⟩ := hb b (.head _)
    obtain ⟨own, e1, e2⟩ := owns fun c hc => hb c (.tail _ hc)
    refine ⟨(b, o) :: own, by rw [List.map_cons, e1], fun p hp => ?_⟩
    rcases List.mem_cons.mp hp with rfl | hp
    · exact e
    · exact e2 p hp
theorem TurnC.mono {I C : Addr} {oI : Obj} {J J' : List (Addr × Obj) → Prop} {s₀ s₂ : Shared} (h : TurnC h₀ L m s₀ I oI C J s₂) (hJ : ∀ nw, J nw → J' nw) : TurnC h₀ L m s₀ I oI C J' s₂ := by
  obtain ⟨h', tk', oC, m₂, news', rfl, F, N, hC, off, hj⟩ := h
  exact ⟨h', tk', oC, m₂, news', rfl, F, N, hC, off, hJ _ hj⟩
theorem czgen {e : Expr} {d : Nat} {elts : List Expr} {kk : Nat} {tp : Pos} {ifs : List Expr} {ip : Pos} {acc : Value} {cenv : Env} {BODY : Sem Unit} {I C : Addr} {ws wr fp : List Addr} {keep : List (Addr × Obj)} {n : Nat} {Pt : Nat → Array Value → Prop} {St : Nat → Heap → Prop} {Mid : Nat → Addr → Heap → Prop} {news : List (Addr × Obj)} {oC : Obj} {m₂ : Str → Option Value}
    (hfr : (Code.compLoop e d (.ref I) acc cenv).isFrame = false) (hun : A.under (Code.compLoop e d (.ref I) acc cenv) = A)
    (heq : compTurn e d (.ref I) acc cenv = (do
      standAt ip
      match ← pyNext (.ref I) with
      | none => pure (.done .next)
      | some v =>
        letOwnedTupleGo (.Tuple elts kk tp) (.ref I) v
        assign (.Tuple elts kk tp) cenv v
        let mut ok := true
        for c in ifs do
          if ok then ok ← isTrue c cenv (eval c cenv)
        if ok then
          BODY
        again (.compLoop e d (.ref I) acc cenv)))
    (W : WalksU prog w A I fp wr n Pt St Mid) (hwr : ∀ b ∈ wr, b ∈ I :: ws) (hfp : ∀ b ∈ fp, b ∈ I :: ws ∨ ∃ o, (b, o) ∈ keep) (hIo : ∀ i h, St i h → ∀ b ∈ I :: ws, ∃ o, h.get? b = some o)
    (J : Nat → List (Addr × Obj) → Prop) (hS : ∀ i nw, J i nw → ∀ p ∈ keep, p ∈ nw) (hst : St 0 s.heap) (F : Fr h₀ L s.heap m) (N : News h₀ L s.heap ((C, oC) :: news)) (hC : NsObj oC m₂) (hwL : L ∉ I :: ws) (hw₀ : ∀ b ∈ I :: ws, h₀.get? b = none)
    (off : ∀ p ∈ news, p.1 ∉ ws ∧ p.1 ≠ I ∧ p.1 ≠ C) (hCI : C ∉ I :: ws) (hIw : I ∉ ws) (hJ : J 0 news)
    (turn : ∀ i T vals oI own oC m₂ news₁ h tk, i < n → Pt i vals → h.IsTuple T vals → J i news₁ → own.map (·.1) = ws → (∀ p ∈ own ++ news₁, p.1 ≠ I ∧ p.1 ≠ C) → (∀ p ∈ news₁, p.1 ∉ ws) → Fr h₀ L h m → News h₀ L h ((I, oI) :: (C, oC) :: (own ++ news₁)) → NsObj oC m₂ →
      wpAny (model prog w) A (assign (.Tuple elts kk tp) cenv (.ref T)) (fun _ s₂ =>
          ctests w prog A ifs cenv (fun ok s₃ =>
            if ok = true then wpAny (model prog w) A BODY (fun _ s₅ => TurnC h₀ L m s I oI C (fun nw => ∃ nw', (∀ p ∈ own ++ nw', p ∈ nw) ∧ (∀ p ∈ nw', p.1 ∉ ws) ∧ J (i + 1) nw') s₅) (notedBy (model prog w) A cenv fun e s' => R (.error e) s') s₃
            else TurnC h₀ L m s I oI C (fun nw => ∃ nw', (∀ p ∈ own ++ nw', p ∈ nw) ∧ (∀ p ∈ nw', p.1 ∉ ws) ∧ J (i + 1) nw') s₃) (notedBy (model prog w) A cenv fun e s' => R (.error e) s') s₂) (notedBy (model prog w) A cenv fun e s' => R (.error e) s') { s with heap := h, toks := tk })
    (done : ∀ h tk oC m₂ news₁, J n news₁ → Fr h₀ L h m → News h₀ L h ((C, oC) :: news₁) → NsObj oC m₂ → (∀ p ∈ news₁, p.1 ≠ C) → R (.ok .next) { s with heap := h, toks := tk }) :
    codeAny (model prog w) A (.compLoop e d (.ref I) acc cenv) R s := by
  refine cl_rule hfr hun heq (fun k s' => ∃ i h' tk' oC m₂ news', k = n + 1 - i ∧ i ≤ n ∧ s' = { s with heap := h', toks := tk' } ∧ St i h' ∧ Fr h₀ L h' m ∧ News h₀ L h' ((C, oC) :: news') ∧ NsObj oC m₂ ∧ (∀ p ∈ news', p.1 ∉ ws ∧ p.1 ≠ I ∧ p.1 ≠ C) ∧ J i news') ?_ (n + 1)
    ⟨0, s.heap, s.toks, oC, m₂, news, rfl, Nat.zero_le _, rfl, hst, F, N, hC, off, hJ⟩
  rintro k s' ⟨i, h', tk', oC, m₂, news', rfl, hi, rfl, hst', F', N', hC', off', hJ'⟩
  have hwrL : L ∉ wr := fun hm => hwL (hwr _ hm)
  have hwr₀ : ∀ b ∈ wr, h₀.get? b = none := fun b hb => hw₀ b (hwr _ hb)
  have offA : ∀ p ∈ (C, oC) :: news', p.1 ∉ wr := fun p hp hm => by
    have hm := hwr _ hm
    rcases List.mem_cons.mp hp with rfl | hp
    · exact hCI hm
    · rcases List.mem_cons.mp hm with q | q
      · exact (off' p hp).2.1 q
      · exact (off' p hp).1 q
  by_cases hlt : i < n
  · refine W.item i _ _ _ hlt hst' fun T vals h₂ tk₂ hPt hT hMid hk₂ => ?_
    dsimp only
    refine W.go elts kk tp i T _ _ _ hMid fun h₃ hst₃ hk₃ => ?_
    have hT₃ : h₃.IsTuple T vals := hT.at fun o e => hk₃ T o (W.apart i T _ hMid) e
    have hk : ∀ b o, b ∉ wr → h'.get? b = some o → h₃.get? b = some o := fun b o hb e => hk₃ b o hb (hk₂ b o hb e)
    have F₃ := fr_buts F' hk hwrL hwr₀
    have N₃ := news_buts N' hk offA
    obtain ⟨own, hown, hog⟩ := owns (fun b hb => hIo _ _ hst₃ b (.tail _ hb))
    obtain ⟨oI, heI⟩ := hIo _ _ hst₃ I (.head _)
    have hownIC : ∀ p ∈ own, p.1 ≠ I ∧ p.1 ≠ C := fun p hp => by
      have hm : p.1 ∈ ws := hown ▸ List.mem_map_of_mem hp
      exact ⟨fun q => hIw (q ▸ hm), fun q => hCI (.tail _ (q ▸ hm))⟩
    have hN : News h₀ L h₃ ((I, oI) :: (C, oC) :: (own ++ news')) := fun p hp => by
      rcases List.mem_cons.mp hp with rfl | hp
      · exact ⟨heI, fun q => hwL (q ▸ .head _), hw₀ _ (.head _)⟩
      · rcases List.mem_cons.mp hp with rfl | hp
        · exact N₃ _ (.head _)
        · rcases List.mem_append.mp hp with hp | hp
          · have hm : p.1 ∈ ws := hown ▸ List.mem_map_of_mem hp
            exact ⟨hog p hp, fun q => hwL (.tail _ (q ▸ hm)), hw₀ _ (.tail _ hm)⟩
          · exact N₃ p (.tail _ hp)
    have fin : ∀ s₅, TurnC h₀ L m s I oI C (fun nw => ∃ nw', (∀ p ∈ own ++ nw', p ∈ nw) ∧ (∀ p ∈ nw', p.1 ∉ ws) ∧ J (i + 1) nw') s₅ → ∃ k', k' < n + 1 - i ∧ ∃ i h' tk' oC m₂ news', k' = n + 1 - i ∧ i ≤ n ∧ s₅ = { s with heap := h', toks := tk' } ∧ St i h' ∧ Fr h₀ L h' m ∧ News h₀ L h' ((C, oC) :: news') ∧ NsObj oC m₂ ∧ (∀ p ∈ news', p.1 ∉ ws ∧ p.1 ≠ I ∧ p.1 ≠ C) ∧ J i news' := by
      rintro s₅ ⟨h₅, tk₅, oC₅, m₅, news₅, rfl, F₅, N₅, hC₅, off₅, nw', hsub, hws, hJ₅⟩
      have Nw : News h₀ L h₅ ((C, oC₅) :: nw') := fun p hp => by
        rcases List.mem_cons.mp hp with rfl | hp
        · exact N₅ _ (.tail _ (.head _))
        · exact N₅ p (.tail _ (.tail _ (hsub p (List.mem_append_right _ hp))))
      refine ⟨n + 1 - (i + 1), dec_lt (by assumption), i + 1, h₅, tk₅, oC₅, m₅, nw', rfl, hlt, rfl, ?_, F₅, Nw, hC₅, fun p hp => ⟨hws p hp, off₅ p (hsub p (List.mem_append_right _ hp))⟩, hJ₅⟩
      refine W.frame _ _ _ hst₃ fun b hb o e => ?_
      rcases hfp b hb with hb | ⟨ob, hb⟩
      · rcases List.mem_cons.mp hb with rfl | hb
        · rw [heI] at e
          rw [← Option.some.inj e]
          exact (N₅ _ (.head _)).1
        · rw [← hown] at hb
          obtain ⟨p, hp, rfl⟩ := List.mem_map.mp hb
          have e1 := hog p hp
          rw [e] at e1
          rw [Option.some.inj e1]
          exact (N₅ p (.tail _ (.tail _ (hsub p (List.mem_append_left _ hp))))).1
      · have e1 := (N₃ _ (.tail _ (hS _ _ hJ' _ hb))).1
        have e1 : h₃.get? b = some ob := e1
        rw [e] at e1
        rw [Option.some.inj e1]
        exact (Nw _ (.tail _ (hS _ _ hJ₅ _ hb))).1
    refine wpAny_mono (turn i T vals oI own oC m₂ news' h₃ tk₂ hlt hPt hT₃ hJ' hown (fun p hp => ?_) (fun p hp => (off' p hp).1) F₃ hN hC') (fun _ s₂ h₂ => wpAny_mono h₂ (fun ok s₃ h₃ => ?_) fun _ _ y => y) fun _ _ y => y
    · rcases List.mem_append.mp hp with hp | hp
      · exact hownIC p hp
      · exact (off' p hp).2
    · cases ok with
      | false => exact fin _ h₃
      | true => exact wpAny_mono h₃ (fun _ s₅ h₅ => fin _ h₅) fun _ _ y => y
  · have : i = n := by omega
    subst this
    refine W.done _ _ _ hst' fun h₂ tk₂ hk₂ => ?_
    exact done h₂ tk₂ oC m₂ news' hJ' (fr_buts F' hk₂ hwrL hwr₀) (news_buts N' hk₂ offA) hC' fun p hp => (off' p hp).2.2
theorem call_zip {l1 l2 : Addr} {xs ys : Array Value} {e1 e2 : Nat} {news : List (Addr × Obj)} {Q : Value → Shared → Prop} (F : Fr h₀ L s.heap m) (N : News h₀ L s.heap news) (hm1 : (l1, W.listOf xs e1) ∈ news) (hm2 : (l2, W.listOf ys e2) ∈ news)
    (h : ∀ (z TI TO i1 i2 : Nat) (o1 o2 : Obj) (h' : Heap), (∀ p ∈ news, p.1 < i1) → @LT.lt Nat _ i1 i2 ∧ @LT.lt Nat _ i2 TI ∧ @LT.lt Nat _ TI TO ∧ @LT.lt Nat _ TO z → ZipApart z TI TO i1 i2 l1 l2 → Fr h₀ L h' m →
      News h₀ L h' (((z : Addr), { cls := .type "zip", dict := none, data := .fields #[.none, .bool false, .bool false, .ref TI, .ref TO], slots := #[] }) :: ((TI : Addr), { cls := .type "tuple", data := .seq #[.ref i1, .ref i2] }) :: ((TO : Addr), { cls := .type "tuple", data := .seq #[.none, .none] }) :: ((i1 : Addr), o1) :: ((i2 : Addr), o2) :: news) →
      (∀ g : Heap, g.get? i1 = some o1 → g.IsListIter i1 l1 0) → (∀ g : Heap, g.get? i2 = some o2 → g.IsListIter i2 l2 0) → Q (.ref z) { s with heap := h' }) :
    wpAny (model prog w) A (call (.type "zip") [.ref l1, .ref l2]) Q E s := by
  have x1 := N _ hm1
  have x2 := N _ hm2
  have hl1 : s.heap.IsList l1 xs := ⟨_, x1.1, rfl, e1, rfl⟩
  have hl2 : s.heap.IsList l2 ys := ⟨_, x2.1, rfl, e2, rfl⟩
  have hLs : L < s.heap.objs.size := F.ns.lt
  refine call_zip_2 hl1 hl2 fun h' hz hTI hTO hi1 hi2 hsz hk => ?_
  obtain ⟨o1, g1, c1, d1⟩ := hi1
  obtain ⟨o2, g2, c2, d2⟩ := hi2
  have new : ∀ j, h₀.get? (s.heap.objs.size + j) = none := fun j => ktu_new F (Nat.le_add_right _ _)
  have neL : ∀ j, (s.heap.objs.size + j : Nat) ≠ L := fun j => Nat.ne_of_gt (Nat.lt_of_lt_of_le hLs (Nat.le_add_right _ _))
  refine h (s.heap.objs.size + 4) (s.heap.objs.size + 2) (s.heap.objs.size + 3) s.heap.objs.size (s.heap.objs.size + 1) o1 o2 h' (fun p hp => Heap.lt_size (N p hp).1) ⟨by omega, by omega, by omega, by omega⟩ (ktu_apart _ _ _ (Heap.lt_size x1.1) (Heap.lt_size x2.1)) (F.keeps hk) (fun p hp => ?_) (fun g e => ⟨o1, e, c1, d1⟩) (fun g e => ⟨o2, e, c2, d2⟩)
  rcases List.mem_cons.mp hp with rfl | hp
  · exact ⟨hz, neL 4, new 4⟩
  rcases List.mem_cons.mp hp with rfl | hp
  · exact ⟨hTI, neL 2, new 2⟩
  rcases List.mem_cons.mp hp with rfl | hp
  · exact ⟨hTO, neL 3, new 3⟩
  rcases List.mem_cons.mp hp with rfl | hp
  · exact ⟨g1, neL 0, new 0⟩
  rcases List.mem_cons.mp hp with rfl | hp
  · exact ⟨g2, neL 1, new 1⟩
  · exact ⟨hk _ _ (N p hp).1, (N p hp).2⟩
theorem zip_self {z : Addr} {TI TO : Addr} : ∀ (E : Value → Shared → Prop) (s' : Shared) (Q' : Value → Shared → Prop), s'.heap.get? z = some { cls := .type "zip", dict := none, data := .fields #[.none, .bool false, .bool false, .ref TI, .ref TO], slots := #[] } → Q' (.ref z) s' → wpAny (model prog w) A (pyIter (.ref z)) Q' E s' :=
  fun E s' Q' e h => wpAny_pyIter_zip e h
theorem tz_end {I C D : Addr} {oI oC : Obj} {m₂ : Str → Option Value} {ws : List Addr} {own base : List (Addr × Obj)} {ys : List Value} {y : Value} {P : Nat → List Value → Prop} {i : Nat} {s₀ : Shared} {h₄ : Heap} {tk₄ : Nat} (F : Fr h₀ L h₄ m) (N : News h₀ L h₄ ((I, oI) :: (C, oC) :: (own ++ (D, lst ys) :: base))) (hC : NsObj oC m₂)
    (off : ∀ p ∈ own ++ (D, lst ys) :: base, p.1 ≠ I ∧ p.1 ≠ C) (hown : own.map (·.1) = ws) (offw : ∀ p ∈ (D, lst ys) :: base, p.1 ∉ ws) (offD : ∀ p ∈ base, p.1 ≠ D) (hlen : ys.length ≤ i) (hsz : i ≤ sizeLine) (hP : P (i + 1) (ys ++ [y])) :
    wpAny (model prog w) A (call (.builtin "list.append") [.ref D, y]) (fun _ s₅ => TurnC h₀ L m s₀ I oI C (fun nw => ∃ nw', (∀ p ∈ own ++ nw', p ∈ nw) ∧ (∀ p ∈ nw', p.1 ∉ ws) ∧ JL D (fun i ys nw => nw = base ∧ P i ys) (i + 1) nw') s₅) E { s₀ with heap := h₄, toks := tk₄ } := by
  have hDw : D ∉ ws := offw _ (.head _)
  have N' : News h₀ L h₄ ((I, oI) :: (C, oC) :: (D, lst ys) :: (own ++ base)) := News.drop N fun p hp => by
    rcases List.mem_cons.mp hp with rfl | hp
    · exact .head _
    · rcases List.mem_cons.mp hp with rfl | hp
      · exact .tail _ (.head _)
      · refine .tail _ (.tail _ ?_)
        rcases List.mem_cons.mp hp with rfl | hp
        · exact List.mem_append_right _ (.head _)
        · rcases List.mem_append.mp hp with hp | hp
          · exact List.mem_append_left _ hp
          · exact List.mem_append_right _ (.tail _ hp)
  refine wpAny_mono (tl_end (K := fun i ys nw => nw = own ++ base ∧ P i ys) F N' hC (fun p hp => ?_) (fun p hp => ?_) hlen hsz ⟨rfl, hP⟩) (fun _ s₅ h₅ => TurnC.mono h₅ ?_) fun _ _ e => e
  · rcases List.mem_cons.mp hp with rfl | hp
    · exact off _ (List.mem_append_right _ (.head _))
    · rcases List.mem_append.mp hp with hp | hp
      · exact off _ (List.mem_append_left _ hp)
      · exact off _ (List.mem_append_right _ (.tail _ hp))
  · rcases List.mem_append.mp hp with hp | hp
    · intro q
      exact hDw (q ▸ hown ▸ List.mem_map_of_mem hp)
    · exact offD p hp
  · rintro nw ⟨ys', nw', rfl, h1, rfl, h2⟩
    refine ⟨(D, lst ys') :: base, fun p hp => ?_, fun p hp => ?_, ys', base, rfl, h1, rfl, h2⟩
    · rcases List.mem_append.mp hp with hp | hp
      · exact .tail _ (List.mem_append_left _ hp)
      · rcases List.mem_cons.mp hp with rfl | hp
        · exact .head _
        · exact .tail _ (List.mem_append_right _ hp)
    · rcases List.mem_cons.mp hp with rfl | hp
      · exact hDw
      · exact offw _ (.tail _ hp)
theorem comp_assign_pairT {I C t : Addr} {oI oC : Obj} {m₂ : Str → Option Value} {x y : Str} {px py tp : Pos} {kk : Nat} {scope : Scope} {cl : List (Str × Addr)} {v u : Value} {news : List (Addr × Obj)} {Q : Unit → Shared → Prop} (hh : A.handled = none)
    (F : Fr h₀ L s.heap m) (N : News h₀ L s.heap ((I, oI) :: (C, oC) :: news)) (ht : s.heap.IsTuple t #[v, u]) (hC : NsObj oC m₂) (off : ∀ p ∈ news, p.1 ≠ I ∧ p.1 ≠ C) (hCI : C ≠ I) (hkind : scope.kind = .function) (hx : scope.names.lookup x = some .local) (hy : scope.names.lookup y = some .local) (hxy : x ≠ y)
    (h : ∀ h' tk' oC' m₃, Fr h₀ L h' m → News h₀ L h' ((I, oI) :: (C, oC') :: news) → NsObj oC' m₃ → m₃ x = some v → m₃ y = some u → Q () { s with heap := h', toks := tk' }) :
    wpAny (model prog w) A (assign (.Tuple [.Name x px, .Name y py] kk tp) (compEnvC scope cl C env) (.ref t)) Q E s := by
  refine assign_Tuple_tuple hh ht rfl rfl fun h₅ he => ?_
  have he' : ∀ b o, s.heap.get? b = some o → h₅.get? b = some o := fun b o e => he b o (Nat.ne_of_lt (Heap.lt_size e)) e
  have N5 : News h₀ L h₅ ((I, oI) :: (C, oC) :: news) := fun p hp => ⟨he' _ _ (N p hp).1, (N p hp).2⟩
  refine assignInOrder_cons (comp_assign (F.keeps he') N5 hC off hCI hkind hx fun h6 tk6 oC6 m6 F6 N6 hC6 e6 k6 => ?_)
  refine assignInOrder_cons (comp_assign F6 N6 hC6 off hCI hkind hy fun h7 tk7 oC7 m7 F7 N7 hC7 e7 k7 => ?_)
  exact assignInOrder_nil (h h7 tk7 oC7 m7 F7 N7 hC7 (k7 x _ hxy e6) e7)
noncomputable def CompInU (prog : Program) (w : World) (A : Around) (e : Expr) (scope : Scope) (cl : List (Str × Addr)) (env : Env) (acc : Sem Value) (use : Option (Value → Sem Unit)) (Q : Value → Shared → Prop) (E : Value → Shared → Prop) (it : Value) (s₂ : Shared) : Prop :=
  wpAny (model prog w) A acc (fun acc s₃ => wpAny (model prog w) A (newFunctionEnv scope env.globals cl [] env.qual none .none (some env)) (fun cenv s₄ =>
    codeAny (model prog w) A (.compStart e 0 it acc { cenv with scope := relabel scope env }) (compPost (model prog w) A E use Q acc cenv.locals) s₄) E s₃) E s₂
theorem lca_start {elt : Expr} {g : Comprehension} {scope : Scope} {cl : List (Str × Addr)} {pos spos py : Pos} {y : Str} {Q : Flow → Shared → Prop}
    (hsw : swapsWith (.ListComp elt [g] scope pos) (some (.Name y py)) spos.line env = pure true)
    (hclos : closureFor scope env = pure cl) (hkind : scope.kind = .function) (hnames : ∀ y ∈ scope.names, y.2 = .local → scope.names.lookup y.1 = some .local) (ha : (g.is_async != 0) = false)
    (h : wpAny (model prog w) A (eval g.iter env) (fun xv s₁ => wpAny (model prog w) A (pyIter xv) (CompInU prog w A (.ListComp elt [g] scope pos) scope cl env (newList []) (some (assign (.Name y py) env)) (fun _ s' => Q .next s') E) E s₁) E s)
    (hs : ∀ x, foldedSetIterable g.iter env x = pure x := by intro _; rfl) : wpAny (model prog w) A (exec (.Assign [.Name y py] (.ListComp elt [g] scope pos) spos) env) Q E s := by
  obtain ⟨tg, it, fs, as⟩ := g
  rw [exec_Assign_Name_used _ _ _ _ hsw]
  refine wpAny_bind (wpAny_standAt (wpAny_bind ?_))
  show wpAny _ A (do let _ ← comprehension (.ListComp elt [⟨tg, it, fs, as⟩] scope pos) scope env _ (newList []) (as != 0) (eval it env) (some (assign (.Name y py) env))) _ _ s
  have ha' : (as != 0) = false := ha
  rw [ha']
  exact wpAny_bind (wpAny_mono (wpAny_comprehension_free (use := some (assign (.Name y py) env)) (Q := fun _ s' => Q .next s') rfl hs hclos hkind hnames h) (fun _ s' hq => wpAny_pure (wpAny_pure hq)) fun _ _ e => e)
theorem comp_inU {use : Option (Value → Sem Unit)} {e : Expr} {g : Comprehension} {scope : Scope} {cl : List (Str × Addr)} {acc : Sem Value} {o : Obj} {Q : Value → Shared → Prop} {I : Addr} {oI : Obj} {news : List (Addr × Obj)} (hacc : AccNew prog w acc o) (hfo : o.isFreed = false)
    (F : Fr h₀ L s.heap m) (N : News h₀ L s.heap news) (hI : (I, oI) ∈ news) (hcell : ∀ y ∈ scope.names, y.2 ≠ .cell) (hkind : scope.kind = .function)
    (hg : (clausesOf e)[0]? = some g) (ha : g.is_async = 0) (hfr : ∀ acc env, (Code.compStart e 0 (.ref I) acc env).isFrame = false) (hun : ∀ acc env, A.under (Code.compStart e 0 (.ref I) acc env) = A)
    (self : ∀ (E : Value → Shared → Prop) (s' : Shared) (Q' : Value → Shared → Prop), s'.heap.get? I = some oI → Q' (.ref I) s' → wpAny (model prog w) A (pyIter (.ref I)) Q' E s')
    (h : ∀ D C oC h tk, Fr h₀ L h m → News h₀ L h ((C, oC) :: (D, o) :: news) → NsObj oC (fun _ => none) → (∀ p ∈ news, p.1 < D) → @LT.lt Nat _ D C →
      codeAny (model prog w) A (.compLoop e 0 (.ref I) (.ref D) (compEnvC scope cl C env)) (compPost (model prog w) A E use Q (.ref D) C) { s with heap := h, toks := tk }) :
    CompInU prog w A e scope cl env acc use Q E (.ref I) s := by
  refine hacc _ _ _ _ (wpAny_newFunctionEnv hcell (by intro y hy; simp at hy) (fun h₁ hns₁ hsb₁ => ?_) hkind)
  dsimp only at hns₁ hsb₁ ⊢
  have F1 := F.push o
  have N1 := N.push F o hfo
  have lt1 : ∀ p ∈ news, p.1 < s.heap.objs.size := fun p hp => Heap.lt_size (N p hp).1
  have hlt : s.heap.objs.size < (s.heap.push o).objs.size := by rw [Heap.size_push]; exact Nat.lt_succ_self _
  generalize hH : s.heap.push o = H at F1 N1 hns₁ hsb₁ hlt ⊢
  generalize hd : s.heap.objs.size = D at N1 lt1 hlt ⊢
  have F2 : Fr h₀ L h₁ m := (F1.push { cls := .type "dict", data := .dict #[] }).change hsb₁ (Nat.ne_of_gt F1.ns.lt) (next_is_new F1)
  obtain ⟨oC, hC, hO⟩ := ns_obj hns₁
  have N2 : News h₀ L h₁ ((H.objs.size, oC) :: (D, o) :: news) := fun p hp => by
    rcases List.mem_cons.mp hp with rfl | hp
    · exact ⟨hC, Nat.ne_of_gt F1.ns.lt, next_is_new F1⟩
    · exact ⟨hsb₁.extBut _ _ (Nat.ne_of_lt (Heap.lt_size (N1 p hp).1)) (Heap.get?_push_of_some _ (N1 p hp).1), (N1 p hp).2⟩
  have go := h D H.objs.size oC h₁ (s.toks + ([] : List (Str × Value)).length) F2 N2 hO lt1 hlt
  refine cs_rule hg ha (hfr _ _) (hun _ _) go (self _ _ _ (N2 _ (.tail _ (.tail _ hI))).1 go)
theorem cpostA {Q : Value → Shared → Prop} {D C : Addr} {oC : Obj} {y : Str} {py : Pos} {m₂ : Str → Option Value} {news : List (Addr × Obj)} (hL : env.locals = L) (F : Fr h₀ L s.heap m) (N : News h₀ L s.heap ((C, oC) :: news)) (hC : NsObj oC m₂) (off : ∀ p ∈ news, p.1 ≠ C)
    (hy : env.kindOf y = some .local) (hp : (env.scope.kind == .class || (env.scope.kind == .module && env.locals != env.globals)) = false)
    (h : ∀ h' tk', Fr h₀ L h' (fun z => if z = y then some (.ref D) else m z) → News h₀ L h' news → Q .none { s with heap := h', toks := tk' }) : compPost (model prog w) A E (some (assign (.Name y py) env)) Q (.ref D) C (.ok .next) s := by
  subst hL
  have nC := N _ (.head _)
  show wpAny _ A (assign (.Name y py) env (.ref D)) _ _ _
  refine wpAny_assign_Name (wpAny_storeName_local hy F.ns (fun h₂ hn₂ hs₂ => ?_) hp)
  have hL₀ : h₀.get? env.locals = none := Heap.get?_none_of_le F.above
  have F₂ : Fr h₀ env.locals h₂ (fun z => if z = y then some (.ref D) else m z) := ⟨hn₂, fun b o e => hs₂.extBut b o (fun q => by rw [q, hL₀] at e; cases e) (F.keep b o e), F.above⟩
  refine ⟨m₂, (hC.ns nC.1).sameBut hs₂ nC.2.1, fun h'' hs'' => h h'' _ (F₂.change hs'' nC.2.1 nC.2.2) (fun p hp => ?_)⟩
  have z : h₂.get? p.1 = some p.2 := hs₂.extBut _ _ (N p (.tail _ hp)).2.1 (N p (.tail _ hp)).1
  exact ⟨hs''.extBut _ _ (off p hp) z, (N p (.tail _ hp)).2⟩
theorem zip_wr {z TI TO i1 i2 : Addr} : ∀ b ∈ [z, TO, i1, i2], b ∈ z :: [TI, TO, i1, i2] := by
  intro b hb
  simp only [List.mem_cons, List.not_mem_nil, or_false] at hb ⊢
  rcases hb with e | e | e | e <;> simp [e]
theorem zip_fp {z TI TO i1 i2 l1 l2 : Addr} {oa ob : Obj} : ∀ b ∈ [z, TI, TO, i1, i2, l1, l2], b ∈ z :: [TI, TO, i1, i2] ∨ ∃ o, (b, o) ∈ [(l1, oa), (l2, ob)] := by
  intro b hb
  simp only [List.mem_cons, List.not_mem_nil, or_false] at hb
  rcases hb with e | e | e | e | e | e | e
  · exact .inl (by simp [e])
  · exact .inl (by simp [e])
  · exact .inl (by simp [e])
  · exact .inl (by simp [e])
  · exact .inl (by simp [e])
  · exact .inr ⟨oa, by simp [e]⟩
  · exact .inr ⟨ob, by simp [e]⟩
theorem zip_io {z TI TO i1 i2 l1 l2 : Addr} {xs ys : Array Value} : ∀ (i : Nat) (h : Heap), (IsZip h z TI TO .none ∧ IsPair h TI (.ref i1) (.ref i2) ∧ (∃ a b, IsPair h TO a b) ∧ h.IsListIter i1 l1 i ∧ h.IsListIter i2 l2 i ∧ h.IsList l1 xs ∧ h.IsList l2 ys) → ∀ b ∈ z :: [TI, TO, i1, i2], ∃ o, h.get? b = some o := by
  rintro i h ⟨a1, a2, ⟨_, _, a3⟩, ⟨o1, a4, _⟩, ⟨o2, a5, _⟩, _⟩ b hb
  simp only [List.mem_cons, List.not_mem_nil, or_false] at hb
  rcases hb with e | e | e | e | e <;> subst e
  · exact ⟨_, a1⟩
  · exact ⟨_, a2⟩
  · exact ⟨_, a3⟩
  · exact ⟨_, a4⟩
  · exact ⟨_, a5⟩
theorem zip_new {h : Heap} {z TI TO i1 i2 : Addr} {a b c d e : Obj} {x y : Addr × Obj} {r : List (Addr × Obj)} (N : News h₀ L h (x :: y :: (z, a) :: (TI, b) :: (TO, c) :: (i1, d) :: (i2, e) :: r)) : L ∉ z :: [TI, TO, i1, i2] ∧ ∀ q ∈ z :: [TI, TO, i1, i2], h₀.get? q = none := by
  have n1 := N _ (.tail _ (.tail _ (.head _)))
  have n2 := N _ (.tail _ (.tail _ (.tail _ (.head _))))
  have n3 := N _ (.tail _ (.tail _ (.tail _ (.tail _ (.head _)))))
  have n4 := N _ (.tail _ (.tail _ (.tail _ (.tail _ (.tail _ (.head _))))))
  have n5 := N _ (.tail _ (.tail _ (.tail _ (.tail _ (.tail _ (.tail _ (.head _)))))))
  constructor
  · intro hm
    simp only [List.mem_cons, List.not_mem_nil, or_false] at hm
    rcases hm with e | e | e | e | e
    · exact n1.2.1 e.symm
    · exact n2.2.1 e.symm
    · exact n3.2.1 e.symm
    · exact n4.2.1 e.symm
    · exact n5.2.1 e.symm
  · intro q hm
    simp only [List.mem_cons, List.not_mem_nil, or_false] at hm
    rcases hm with e | e | e | e | e <;> subst e
    · exact n1.2.2
    · exact n2.2.2
    · exact n3.2.2
    · exact n4.2.2
    · exact n5.2.2
theorem zip_off {z TI TO i1 i2 D C : Nat} {o : Obj} {base : List (Addr × Obj)} (hb : ∀ p ∈ base, @LT.lt Nat _ p.1 i1) (ho : @LT.lt Nat _ i1 i2 ∧ @LT.lt Nat _ i2 TI ∧ @LT.lt Nat _ TI TO ∧ @LT.lt Nat _ TO z) (hzD : @LT.lt Nat _ z D) (hDC : @LT.lt Nat _ D C) : ∀ p ∈ ((D, o) : Addr × Obj) :: base, p.1 ∉ [TI, TO, i1, i2] ∧ p.1 ≠ z ∧ p.1 ≠ C := by
  have key : ∀ a : Nat, (a = D ∨ a < i1) → a ∉ [TI, TO, i1, i2] ∧ a ≠ z ∧ a ≠ C := by
    intro a ha
    obtain ⟨h1, h2, h3, h4⟩ := ho
    have k1 := Nat.lt_trans h1 h2
    have k2 := Nat.lt_trans k1 h3
    have k3 := Nat.lt_trans k2 h4
    have k4 := Nat.lt_trans h4 hzD
    have k5 := Nat.lt_trans h3 k4
    have k6 := Nat.lt_trans h2 k5
    have k7 := Nat.lt_trans h1 k6
    have k8 := Nat.lt_trans hzD hDC
    simp only [List.mem_cons, List.not_mem_nil, or_false, not_or]
    rcases ha with rfl | ha
    · exact ⟨⟨Nat.ne_of_gt k5, Nat.ne_of_gt k4, Nat.ne_of_gt k7, Nat.ne_of_gt k6⟩, Nat.ne_of_gt hzD, Nat.ne_of_lt hDC⟩
    · exact ⟨⟨Nat.ne_of_lt (Nat.lt_trans ha k1), Nat.ne_of_lt (Nat.lt_trans ha k2), Nat.ne_of_lt ha, Nat.ne_of_lt (Nat.lt_trans ha h1)⟩, Nat.ne_of_lt (Nat.lt_trans ha k3), Nat.ne_of_lt (Nat.lt_trans ha (Nat.lt_trans k3 k8))⟩
  intro p hp
  rcases List.mem_cons.mp hp with rfl | hp
  · exact key D (.inl rfl)
  · exact key _ (.inr (hb p hp))
theorem zip_C {z TI TO i1 i2 D C : Nat} (ho : @LT.lt Nat _ i1 i2 ∧ @LT.lt Nat _ i2 TI ∧ @LT.lt Nat _ TI TO ∧ @LT.lt Nat _ TO z) (hzD : @LT.lt Nat _ z D) (hDC : @LT.lt Nat _ D C) : C ∉ z :: [TI, TO, i1, i2] ∧ z ∉ [TI, TO, i1, i2] := by
  obtain ⟨h1, h2, h3, h4⟩ := ho
  have k2 := Nat.lt_trans h3 h4
  have k3 := Nat.lt_trans h2 k2
  have k4 := Nat.lt_trans h1 k3
  have k8 := Nat.lt_trans hzD hDC
  simp only [List.mem_cons, List.not_mem_nil, or_false, not_or]
  exact ⟨⟨Nat.ne_of_gt k8, Nat.ne_of_gt (Nat.lt_trans k2 k8), Nat.ne_of_gt (Nat.lt_trans h4 k8), Nat.ne_of_gt (Nat.lt_trans k4 k8), Nat.ne_of_gt (Nat.lt_trans k3 k8)⟩, Nat.ne_of_gt k2, Nat.ne_of_gt h4, Nat.ne_of_gt k4, Nat.ne_of_gt k3⟩
end
theorem eqGives_bool (a b : Bool) : MeetsSeq.EqGives (.bool a) (.bool b) (a == b) := fun prog w A E s Q h => SeqAt.EqAt.bool_bool a b prog w E Q h
noncomputable def isB (k : Bool) : Value → Bool
  | .bool b => b == k
  | _ => false
theorem notin_bools {prog : Program} {w : World} {A : Around} {E : Value → Shared → Prop} {s : Shared} {l : Addr} {bs : List Bool} {k : Bool} {Q : Value → Shared → Prop} (hl : s.heap.IsList l (bs.map Value.bool).toArray)
    (h : Q (.bool (!(bs.any (· == k)))) s) : wpAny (model prog w) A (compareOp .NotIn (.bool k) (.ref l)) Q E s := by
  refine SeqInW.notIn_listW (isB k) (fun y hy => ?_) hl ?_
  · rw [List.mem_toArray] at hy
    obtain ⟨b, _, rfl⟩ := List.mem_map.mp hy
    exact eqGives_bool b k
  · rw [← Array.any_toList, show (bs.map Value.bool).toArray.toList = bs.map Value.bool from rfl, List.any_map]
    exact h
end Mine
end
section
open PySem PySem.W PySem.W.X PySem.W.ZRun PySem.Spec PySem.Calls PyProof.Rows
set_option maxRecDepth 100000
set_option maxHeartbeats 0
set_option linter.unusedVariables false
namespace Mine
inductive NumMid (h₀ : Heap) (L : Addr) (s : Shared) (f : Flow) (s' : Shared) : Prop
  | mk (c1 : f = .next) (D : Addr) (e : Nat) (h' : Heap) (tk' : Nat) (n0 n1 n2 n3 n4 n5 : Int) (u0 u1 u2 u3 u4 u5 : Tok) (u : Str → Option Value) (c2 : s' = { s with heap := h', toks := tk' }) (c3 : Fr h₀ L h' (fun y => if y = Str.ofString "numbers" then some (.ref D) else u y)) (c4 : News h₀ L h' [(D, listOf #[.int n0 u0, .int n1 u1, .int n2 u2, .int n3 u3, .int n4 u4, .int n5 u5] e)]) (c5 : (0 ≤ n0 ∧ n0 < 1000000)) (c6 : (0 ≤ n1 ∧ n1 < 1000000)) (c7 : (0 ≤ n2 ∧ n2 < 1000000)) (c8 : (0 ≤ n3 ∧ n3 < 1000000)) (c9 : (0 ≤ n4 ∧ n4 < 1000000)) (c10 : (0 ≤ n5 ∧ n5 < 1000000))
theorem pins1 {m : Str → Option Value} {k0 : Str} {v0 : Option Value} (h0 : m k0 = v0) : m = fun y => if y = k0 then v0 else m y := by
  funext y
  by_cases e0 : y = k0
  · rw [if_pos e0, e0, h0]
  rw [if_neg e0]
theorem slice_from {prog : Program} {w : World} {A : Around} {E : Value → Shared → Prop} {s : Shared} {h₀ : Heap} {L l : Addr} {m : Str → Option Value} {news : List (Addr × Obj)} {value slice : Expr} {its : List Value} {k : Nat} {tk : Tok} {Q : Value → Shared → Prop} (F : Fr h₀ L s.heap m) (N : News h₀ L s.heap news) (hl : s.heap.IsList l its.toArray) (hk : k ≤ its.length)
    (h : ∀ D h', Fr h₀ L h' m → News h₀ L h' ((D, listOf (its.drop k).toArray 0) :: news) → (∀ p ∈ news, p.1 < D) → Q (.ref D) { s with heap := h' })
    (hs : subscripted slice false (.ref l) (.ref s.heap.objs.size) = operate [.ref s.heap.objs.size, .ref l] (getItem (.ref l) (.ref s.heap.objs.size))) (ht : ∀ r, letTemporaryGo value (.ref l) r = pure ()) (hz : its.toArray.size ≤ sizeLine) :
    wpAny (model prog w) A (subscriptTail value slice (.ref l) (.ref s.heap.objs.size)) Q E { s with heap := s.heap.push { cls := .type "slice", data := .fields #[.int (k : Int) tk, .none, .none] } } := by
  refine kmk_slice (lo := some (k : Int)) (hi := none) F N hl (.int (k : Int) tk) .none (fun D h' F' N' l1 => h D h' F' ?_ l1) hs ht hz
  have e : slicePick its.toArray (some (k : Int)) none none = (its.drop k).toArray := by
    rw [kms_pick_eq]
    unfold kms_pick
    have e0 : its.toArray.toList.length = its.length := by simp
    have e1 : kms_lo (some (k : Int)) its.length = k := by
      simp only [kms_lo]
      rw [if_neg (by omega)]
      omega
    rw [e0]
    rw [e1]
    show ((its.toArray.toList.drop k).take (its.length - k)).toArray = _
    rw [List.take_of_length_le (by simp)]
  rw [← e]; exact N'
theorem six {ys : List Value} {ks : List Int} {t0 t1 t2 t3 t4 t5 : Tok} (h0 : IntsAre ys ks) (hl : ks.length ≤ 6) (hb : ∀ x ∈ ks, 0 ≤ x ∧ x < 1000000) :
    ∃ (n0 n1 n2 n3 n4 n5 : Int) (u0 u1 u2 u3 u4 u5 : Tok), ys ++ List.drop ys.length ([.int 2 t0, .int 0 t1, .int 14 t2, .int 35 t3, .int 33 t4, .int 71 t5] : List Value) = [.int n0 u0, .int n1 u1, .int n2 u2, .int n3 u3, .int n4 u4, .int n5 u5] ∧ (0 ≤ n0 ∧ n0 < 1000000) ∧ (0 ≤ n1 ∧ n1 < 1000000) ∧ (0 ≤ n2 ∧ n2 < 1000000) ∧ (0 ≤ n3 ∧ n3 < 1000000) ∧ (0 ≤ n4 ∧ n4 < 1000000) ∧ (0 ≤ n5 ∧ n5 < 1000000) := by
  cases h0 with
  | nil => exact ⟨2, 0, 14, 35, 33, 71, t0, t1, t2, t3, t4, t5, rfl, (by decide), (by decide), (by decide), (by decide), (by decide), (by decide)⟩
  | cons m0 v0 h1 =>
    have b0 := hb m0 (by simp)
    cases h1 with
    | nil => exact ⟨m0, 0, 14, 35, 33, 71, v0, t1, t2, t3, t4, t5, rfl, b0, (by decide), (by decide), (by decide), (by decide), (by decide)⟩
    | cons m1 v1 h2 =>
      have b1 := hb m1 (by simp)
      cases h2 with
      | nil => exact ⟨m0, m1, 14, 35, 33, 71, v0, v1, t2, t3, t4, t5, rfl, b0, b1, (by decide), (by decide), (by decide), (by decide)⟩
      | cons m2 v2 h3 =>
        have b2 := hb m2 (by simp)
        cases h3 with
        | nil => exact ⟨m0, m1, m2, 35, 33, 71, v0, v1, v2, t3, t4, t5, rfl, b0, b1, b2, (by decide), (by decide), (by decide)⟩
        | cons m3 v3 h4 =>
          have b3 := hb m3 (by simp)
          cases h4 with
          | nil => exact ⟨m0, m1, m2, m3, 33, 71, v0, v1, v2, v3, t4, t5, rfl, b0, b1, b2, b3, (by decide), (by decide)⟩
          | cons m4 v4 h5 =>
            have b4 := hb m4 (by simp)
            cases h5 with
            | nil => exact ⟨m0, m1, m2, m3, m4, 71, v0, v1, v2, v3, v4, t5, rfl, b0, b1, b2, b3, b4, (by decide)⟩
            | cons m5 v5 h6 =>
              have b5 := hb m5 (by simp)
              cases h6 with
              | nil => exact ⟨m0, m1, m2, m3, m4, m5, v0, v1, v2, v3, v4, v5, rfl, b0, b1, b2, b3, b4, b5⟩
              | cons m6 v6 h7 => first | (simp at hl; done) | (simp at hl; omega)
theorem sub_nil {l : List (Addr × Obj)} : ∀ p ∈ ([] : List (Addr × Obj)), p ∈ l := fun _ h => nomatch h
theorem sub_cons {a : Addr × Obj} {r l : List (Addr × Obj)} (h : a ∈ l) (hr : ∀ p ∈ r, p ∈ l) : ∀ p ∈ a :: r, p ∈ l := fun p hp => by
  rcases List.mem_cons.mp hp with rfl | hp
  · exact h
  · exact hr p hp
theorem lead_cps (n : Int) : (leadOf (firstOf n) (stepOf n)).cps.toList = List.replicate (firstOf n).toNat 32 ++ 9 :: List.replicate (stepOf n).toNat 32 :=
  lead_all (fun f s => (leadOf f s).cps.toList = List.replicate f.toNat 32 ++ 9 :: List.replicate s.toNat 32) (by decide +kernel) n
theorem News.apartL {h₀ h : Heap} {L : Addr} {a b : Nat} {xs ys : Array Value} {e e' : Nat} {l : List (Addr × Obj)} (N : News h₀ L h l) (ha : ((a : Addr), W.listOf xs e) ∈ l) (hb : ((b : Addr), W.listOf ys e') ∈ l) (hc : xs.size ≠ ys.size) : @Ne Nat a b := fun q => by
  have h1 := (N _ ha).1
  have h2 := (N _ hb).1
  rw [show ((a : Addr), W.listOf xs e).1 = ((b : Addr), W.listOf ys e').1 from q, h2] at h1
  have h3 := congrArg Obj.data (Option.some.inj h1)
  injection h3 with h4 _
  exact hc (congrArg Array.size h4.symm)
theorem slice_even {a b c d e f : Value} : slicePick #[a, b, c, d, e, f] none none (some 2) = #[a, c, e] := by
  have e1 : sliceBounds none none (some 2) 6 = (0, 6, 2) := by decide +kernel
  have e2 : sliceRange 0 6 2 = [0, 2, 4] := by decide +kernel
  unfold slicePick
  show (List.filterMap _ (sliceRange (sliceBounds none none (some 2) 6).1 (sliceBounds none none (some 2) 6).2.1 (sliceBounds none none (some 2) 6).2.2)).toArray = _
  rw [e1, e2]; rfl
theorem slice_odd {a b c d e f : Value} : slicePick #[a, b, c, d, e, f] (some 1) none (some 2) = #[b, d, f] := by
  have e1 : sliceBounds (some 1) none (some 2) 6 = (1, 6, 2) := by decide +kernel
  have e2 : sliceRange 1 6 2 = [1, 3, 5] := by decide +kernel
  unfold slicePick
  show (List.filterMap _ (sliceRange (sliceBounds (some 1) none (some 2) 6).1 (sliceBounds (some 1) none (some 2) 6).2.1 (sliceBounds (some 1) none (some 2) 6).2.2)).toArray = _
  rw [e1, e2]; rfl
noncomputable def NK (base : List (Addr × Obj)) (nums : List Int) (i : Nat) (hs : List Int) (nw : List (Addr × Obj)) : Prop := nw = base ∧ ∀ v, v ∈ hs ↔ ∃ n ∈ nums.take i, v = stepOf n
theorem step_svals (n : Int) : stepOf n ∈ svals := by
  rcases step_cases n with h | h | h | h | h | h <;> rw [h] <;> decide
theorem nk_step {hs hs' nums : List Int} {j : Nat} {z : Int} (hz : nums[j]? = some z) (h1 : stepOf z ∈ hs → hs' = hs) (h2 : stepOf z ∉ hs → hs'.Perm (hs ++ [stepOf z])) (h : ∀ v, v ∈ hs ↔ ∃ n ∈ nums.take j, v = stepOf n) : ∀ v, v ∈ hs' ↔ ∃ n ∈ nums.take (j + 1), v = stepOf n := by
  intro v
  have hx : v ∈ hs' ↔ v ∈ hs ∨ v = stepOf z := by
    by_cases hz : stepOf z ∈ hs
    · rw [h1 hz]
      exact ⟨.inl, fun q => q.elim id fun e => e ▸ hz⟩
    · rw [(h2 hz).mem_iff]; simp
  rw [hx, h v, List.take_add_one, hz]
  constructor
  · rintro (⟨n, hn, e⟩ | e)
    · exact ⟨n, List.mem_append_left _ hn, e⟩
    · exact ⟨z, List.mem_append_right _ (.head _), e⟩
  · rintro ⟨n, hn, e⟩
    rcases List.mem_append.mp hn with hn | hn
    · exact .inl ⟨n, hn, e⟩
    · rw [show n = z from List.mem_singleton.mp hn] at e; exact .inr e
noncomputable def FK (base : List (Addr × Obj)) (ns : List Int) (i : Nat) (hs : List Int) (nw : List (Addr × Obj)) : Prop := nw = base ∧ ∀ v, v ∈ hs ↔ ∃ k ∈ ns.take i, ∃ p : Nat, p < k.toNat ∧ v = (p : Int) * (24 : Int).fdiv k
noncomputable def FK1 (base : List (Addr × Obj)) (prev : List Int) (k : Int) (j : Nat) (hs : List Int) (nw : List (Addr × Obj)) : Prop := nw = base ∧ ∀ v, v ∈ hs ↔ v ∈ prev ∨ ∃ p : Nat, p < j ∧ v = (p : Int) * (24 : Int).fdiv k
theorem fk_step {prev hs hs' : List Int} {k : Int} {j : Nat} (h : ∀ v, v ∈ hs ↔ v ∈ prev ∨ ∃ p : Nat, p < j ∧ v = (p : Int) * (24 : Int).fdiv k) (h' : ∀ v, v ∈ hs' ↔ v ∈ hs ∨ v = (j : Int) * (24 : Int).fdiv k) : ∀ v, v ∈ hs' ↔ v ∈ prev ∨ ∃ p : Nat, p < j + 1 ∧ v = (p : Int) * (24 : Int).fdiv k := by
  intro v
  rw [h', h]
  constructor
  · rintro ((q | ⟨p, hp, e⟩) | e)
    · exact .inl q
    · exact .inr ⟨p, by omega, e⟩
    · exact .inr ⟨j, by omega, e⟩
  · rintro (q | ⟨p, hp, e⟩)
    · exact .inl (.inl q)
    · by_cases hj : p = j
      · subst hj; exact .inr e
      · exact .inl (.inr ⟨p, by omega, e⟩)
theorem fk_turn {ns hs hs' : List Int} {k : Int} {i : Nat} (hk : ns[i]? = some k) (h : ∀ v, v ∈ hs ↔ ∃ k ∈ ns.take i, ∃ p : Nat, p < k.toNat ∧ v = (p : Int) * (24 : Int).fdiv k) (h' : ∀ v, v ∈ hs' ↔ v ∈ hs ∨ ∃ p : Nat, p < k.toNat ∧ v = (p : Int) * (24 : Int).fdiv k) : ∀ v, v ∈ hs' ↔ ∃ k ∈ ns.take (i + 1), ∃ p : Nat, p < k.toNat ∧ v = (p : Int) * (24 : Int).fdiv k := by
  intro v
  rw [h', h, List.take_add_one, hk]
  constructor
  · rintro (⟨q, hq, x⟩ | x)
    · exact ⟨q, List.mem_append_left _ hq, x⟩
    · exact ⟨k, List.mem_append_right _ (.head _), x⟩
  · rintro ⟨q, hq, x⟩
    rcases List.mem_append.mp hq with hq | hq
    · exact .inl ⟨q, hq, x⟩
    · rw [show q = k from List.mem_singleton.mp hq] at x; exact .inr x
theorem News.inb {h₀ h : Heap} {L : Addr} {I1 I C D : Addr × Obj} {r : List (Addr × Obj)} (N : News h₀ L h (I1 :: I :: C :: D :: r)) : News h₀ L h (C :: D :: I :: r) :=
  News.drop N fun p hp => by
    simp only [List.mem_cons] at hp ⊢
    rcases hp with e | e | e | e <;> simp [e]
theorem News.inc {h₀ h : Heap} {L : Addr} {I C D : Addr × Obj} {r : List (Addr × Obj)} (N : News h₀ L h (C :: D :: I :: r)) : News h₀ L h (I :: C :: D :: r) :=
  News.drop N fun p hp => by
    simp only [List.mem_cons] at hp ⊢
    rcases hp with e | e | e | e <;> simp [e]
theorem bound72 {i j n : Nat} {k : Int} (h1 : i < n) (h2 : n ≤ 6) (h3 : j < k.toNat) (h4 : k ≤ 12) : 12 * i + j ≤ 1000 := by omega
noncomputable def BK (bs : List Bool) (i : Nat) (ys : List Value) : Prop := ys = (bs.take i).map Value.bool
theorem bk_step {bs : List Bool} {i : Nat} {b : Bool} {ys : List Value} (hb : bs[i]? = some b) (h : BK bs i ys) : BK bs (i + 1) (ys ++ [.bool b]) := by
  unfold BK at h ⊢
  rw [List.take_add_one, hb, List.map_append, h]; rfl
theorem zip_bs {ga gb : List Int} {i : Nat} {a b : Int} (ha : ga[i]? = some a) (hb : gb[i]? = some b) : ((ga.zip gb).map fun p => p.1 == p.2)[i]? = some (a == b) := by
  rw [List.getElem?_map, List.getElem?_zip_eq_some (z := (a, b)) |>.mpr ⟨ha, hb⟩]; rfl
theorem law_post (ns : List Int) : PySem.Challenge.rw_tl0052_01.row.claim.post [ofPy (PyData.list (List.map PyData.int ns))] (WData.bool true) [ofPy (PyData.list (List.map PyData.int ns))] = true := by wrow_post
theorem fmod_bound (k : Int) : 0 ≤ k.fmod (10 ^ Int.toNat 6) ∧ k.fmod (10 ^ Int.toNat 6) < 1000000 := by
  have e : ((10 : Int) ^ Int.toNat 6) = 1000000 := by decide
  rw [e]
  exact ⟨Int.fmod_nonneg_of_pos _ (by omega), Int.fmod_lt_of_pos _ (by omega)⟩
local macro_rules | `(tactic| walk_at "exec Assign") => `(tactic| (k_here; (with_reducible show wpAny _ _ (exec (Stmt.Assign [Expr.Name (Str.ofString "numbers") _] _ _) _) _ _ _); (fail_if_success (with_reducible show wpAny _ _ _ (NumMid _ _ _) _ _)); refine Halt.mk ?_))
local macro_rules | `(tactic| walk_at "exec Assign") => `(tactic| (k_here; (with_reducible show wpAny _ _ (exec (Stmt.Assign [Expr.Name (Str.ofString "same") _] _ _) _) _ _ _); refine wpAny_Assign_Name ?_))
local macro_rules | `(tactic| walk_at "exec Assign cons ListComp") => `(tactic| (k_here; (with_reducible show wpAny _ _ (exec (Stmt.Assign [Expr.Name (Str.ofString "same") _] _ _) _) _ _ _); refine wpAny_Assign_Name ?_))
local macro_rules | `(tactic| walk_at "eval ListComp") => `(tactic| (k_here; (with_reducible show wpAny _ _ (eval (Expr.ListComp (Expr.Call _ _ _ _) _ _ _) _) _ _ _); refine Halt.mk ?_))
local macro_rules | `(tactic| walk_at "eval SetComp") => `(tactic| (k_here; refine Halt.mk ?_))
local macro_rules | `(tactic| walk_at "call ref") => `(tactic| refine Halt.mk ?_)
theorem law_walk : PySem.Challenge.rw_tl0052_01.Holds := Mine.hd (by
  k_fill
  intro w s₀ s₁ mg mb G Y fa o pm cd doc dV kV ho hd hcd hD hmg hg args vals as hpre hlay hrd hwl hlo
  have KX := kIn_of Y
  have X := (Ground.X G).1
  have V := (Ground.X G).2
  try w_nolog (first | (have GL := glob_more (Ground.glob G (by first | k_qdec | decide +kernel) (by first | k_qdec | decide +kernel)) V) | (have GL := glob_more (Ground.glob G (by decide +kernel)) V))
  refine Ground.open G ?_
  intro T B D TE TW
  try (refine guard_noD D (by decide +kernel) ?_; clear D)
  obtain ⟨_, _, M⟩ := bmod_of_top T
  have TA := at_of_top T
  try (obtain ⟨_, _, he, B0⟩ := based_of_top T rfl hmg ho hd; have he' : cd = _ := he; subst he'; clear he)
  clear hmg
  wrow_args hpre hlay hrd hwl hlo
  first | refine callC_kw (enter_call ?_) | refine enter_call ?_ | refine callC_kw (enter_callW ?_) | refine enter_callW ?_ | w_how
  w_top on
  have K0 := below_caller (Top.heap T)
  w_call any ho hd hcd hD T F
  clear hd TA
  k_drop
  try k_fold
  clear hcd hD GL TE TW M V X Y G ho B
  k_steps
  rename IntsAre _ (List.map _ (List.take 6 _)) => hI8
  generalize hks : List.map _ (List.take 6 _) = ks at hI8
  have hkb : ∀ x ∈ ks, 0 ≤ x ∧ x < 1000000 := fun x hx => by
    rw [← hks] at hx
    obtain ⟨k, _, rfl⟩ := List.mem_map.mp hx
    exact fmod_bound k
  have hkl6 : ks.length ≤ 6 := by rw [← hks, List.length_map, List.length_take]; omega
  clear hks
  (with_reducible rename Fr _ _ _ _ => F1)
  (with_reducible rename News _ _ _ (_ :: _) => N1)
  show wpAny _ _ _ _ _ _
  refine wpAny_mono (Q := NumMid s₁.heap s₁.heap.objs.size s₁) ?num (fun f s' hmid => ?_) (fun _ _ e => e)
  case num =>
    have hl8 := hI8.length
    have hk6 : (List.map Value.bool []).length ≤ 6 := Nat.zero_le _
    have hkk : _ ≤ ([.int 2 0, .int 0 0, .int 14 0, .int 35 0, .int 33 0, .int 71 0] : List Value).length := hl8 ▸ hkl6
    clear hk6
    (first | walk1 | (dsimp only; walk1))
    (first | walk1 | (dsimp only; walk1))
    (first | walk1 | (dsimp only; walk1))
    (first | walk1 | (dsimp only; walk1))
    (first | walk1 | (dsimp only; walk1))
    (first | walk1 | (dsimp only; walk1))
    (first | walk1 | (dsimp only; walk1))
    (first | walk1 | (dsimp only; walk1))
    (first | walk1 | (dsimp only; walk1))
    (first | walk1 | (dsimp only; walk1))
    (first | walk1 | (dsimp only; walk1))
    (first | walk1 | (dsimp only; walk1))
    (first | walk1 | (dsimp only; walk1))
    (first | walk1 | (dsimp only; walk1))
    (first | walk1 | (dsimp only; walk1))
    (first | walk1 | (dsimp only; walk1))
    (first | walk1 | (dsimp only; walk1))
    (first | walk1 | (dsimp only; walk1))
    (first | walk1 | (dsimp only; walk1))
    (first | walk1 | (dsimp only; walk1))
    (first | walk1 | (dsimp only; walk1))
    (first | walk1 | (dsimp only; walk1))
    (first | walk1 | (dsimp only; walk1))
    (first | walk1 | (dsimp only; walk1))
    (first | walk1 | (dsimp only; walk1))
    (first | walk1 | (dsimp only; walk1))
    (first | walk1 | (dsimp only; walk1))
    (first | walk1 | (dsimp only; walk1))
    (first | walk1 | (dsimp only; walk1))
    (first | walk1 | (dsimp only; walk1))
    refine kba_turn (value' := PySem.Expr.Name (PySem.Str.ofString "_") ⟨0, 0, 0, 0⟩) (fun _ => rfl) ?_
    refine' slice_from ?sF1 ?sN1 ?sl1 ?sk1 ?_ ?ss1 ?st1 ?sz1
    case sF1 => k_asm
    case sN1 => k_asm
    case sl1 => exact News.isList (by k_asm) (by k_mem)
    case sk1 => (simp only [List.size_toArray, List.length_cons, List.length_nil]; omega)
    case st1 => (intro _; rfl)
    case ss1 => rfl
    case sz1 => (simp only [List.size_toArray]; exact Nat.le_of_ble_eq_true rfl)
    intro D9 h9 F9 N9 l9
    refine PyProof.Rows.add_lists F9 N9 (News.isList N9 (by k_mem)) (News.isList N9 (.head _)) ?_ ?hsz9
    case hsz9 => (rw [PySem.sizeLine_eq]; simp only [List.length_drop, List.length_cons, List.length_nil]; omega)
    intro h10 F10 N10
    dsimp only
    k_steps
    (with_reducible rename Fr s₁.heap _ _ _ => F11)
    (with_reducible rename News s₁.heap _ _ (_ :: _) => N11)
    have z11 := N11 _ (.head _)
    dsimp only at z11 F11
    refine hideP ?_
    intro G9 kG9
    obtain ⟨n0, n1, n2, n3, n4, n5, u0, u1, u2, u3, u4, u5, e6, a0, a1, a2, a3, a4, a5⟩ := six hI8 hkl6 hkb
    refine kG9 ?_
    (try clear kG9 G9)
    (try simp only [List.size_toArray] at z11)
    rw [← hl8, e6] at z11
    exact ⟨rfl, _, _, _, _, n0, n1, n2, n3, n4, n5, u0, u1, u2, u3, u4, u5, _, rfl, F11, (fun p hp => by rw [List.mem_singleton.mp hp]; exact z11), a0, a1, a2, a3, a4, a5⟩
  obtain ⟨rfl, D, e, h', tk', n0, n1, n2, n3, n4, n5, u0, u1, u2, u3, u4, u5, u, rfl, F2, N2, ⟨a0, b0⟩, ⟨a1, b1⟩, ⟨a2, b2⟩, ⟨a3, b3⟩, ⟨a4, b4⟩, ⟨a5, b5⟩⟩ := hmid
  clear F1 N1
  dsimp only
  k_steps
  refine' table_ok D n0 n1 n2 n3 n4 n5 u0 u1 u2 u3 u4 u5 e ⟨a0, b0⟩ ⟨a1, b1⟩ ⟨a2, b2⟩ ⟨a3, b3⟩ ⟨a4, b4⟩ ⟨a5, b5⟩ ?tk1 ?tk2 ?tk3 (show News _ _ _ [] from fun _ hp => nomatch hp) ?tk5 ?tkK ?tkd ?tku ?tkN (fun _ hp => nomatch hp) ?_
  case tk1 => exact K0
  case tk2 => k_asm
  case tk3 => k_asm
  case tk5 => k_asm
  case tkK => rfl
  case tkd => ktr_room
  case tku => ktr_units
  case tkN => k_asm
  intro tb d hl c0 c1 c2 c3 c4 c5 kt el x0 x1 x2 x3 x4 x5 y0 y1 y2 y3 y4 y5 v0 v1 v2 v3 v4 v5 e0 e1 e2 e3 e4 e5 h3 tk3 F3 N3 hcas htab
  clear F2 N2
  dsimp only
  k_steps
  (with_reducible rename Fr T.heap _ _ _ => Fa)
  (with_reducible rename News T.heap _ _ (_ :: _) => Na)
  refine hideP ?_
  intro G9 kG9
  obtain ⟨q0, q1, q2, q3, q4, q5, q6, q7, q8⟩ := htab
  refine kG9 ?_
  (try clear kG9 G9)
  have r1 := Nat.lt_trans q0 q1
  have r2 := Nat.lt_trans r1 q2
  have r30 := Nat.lt_trans r2 q3
  have r31 := Nat.lt_trans r2 q4
  have r32 := Nat.lt_trans r2 q5
  have r33 := Nat.lt_trans r2 q6
  have r34 := Nat.lt_trans r2 q7
  have r35 := Nat.lt_trans r2 q8
  refine' near_ok n0 n1 n2 n3 n4 n5 tb d hl c0 c1 c2 c3 c4 c5 kt el x0 x1 x2 x3 x4 x5 y0 y1 y2 y3 y4 y5 v0 v1 v2 v3 v4 v5 e0 e1 e2 e3 e4 e5 _ hcas ⟨q1, q2, q3, q4, q5, q6, q7, q8⟩ ?na1 ?na2 ?na3 (show News _ _ _ [(D, listOf #[.int n0 u0, .int n1 u1, .int n2 u2, .int n3 u3, .int n4 u4, .int n5 u5] e)] from News.drop Na (by repeat (first | exact sub_nil | refine sub_cons (by k_mem) ?_))) ?na5 ?naK ?nad ?nau ?naN ?naD ?_
  case na1 => exact K0
  case na2 => k_asm
  case na3 => k_asm
  case na5 => k_asm
  case naK => rfl
  case nad => ktr_room
  case nau => ktr_units
  case naN => exact (show News _ _ _ ([(c5, tupObj #[.str x5 y5, .str (leadOf (firstOf n5) (stepOf n5)) v5] e5), (tb, instObj 283 d), (d, dictOf [⟨PyData.keyHash w.params (Str.ofString "_headers"), .str (Str.ofString "_headers") kt, .ref hl⟩] 1), (hl, listOf #[.ref c0, .ref c1, .ref c2, .ref c3, .ref c4, .ref c5] el), (c4, tupObj #[.str x4 y4, .str (leadOf (firstOf n4) (stepOf n4)) v4] e4), (c3, tupObj #[.str x3 y3, .str (leadOf (firstOf n3) (stepOf n3)) v3] e3), (c2, tupObj #[.str x2 y2, .str (leadOf (firstOf n2) (stepOf n2)) v2] e2), (c1, tupObj #[.str x1 y1, .str (leadOf (firstOf n1) (stepOf n1)) v1] e1), (c0, tupObj #[.str x0 y0, .str (leadOf (firstOf n0) (stepOf n0)) v0] e0)] ++ [(D, listOf #[.int n0 u0, .int n1 u1, .int n2 u2, .int n3 u3, .int n4 u4, .int n5 u5] e)]) from Na)
  case naD =>
    intro p hp hm
    rw [List.mem_singleton.mp hp] at hm
    simp only [List.map_cons, List.map_nil, List.mem_cons, List.not_mem_nil, or_false] at hm
    rcases hm with q | q | q | q | q | q | q | q | q <;> (have q' : @Eq Nat _ _ := q; omega)
  intro lx1 ex1 h4 tk4 F4 N4 g1 g1'
  clear Fa Na
  simp only [List.cons_append, List.nil_append] at  N4
  simp only [GnNe, and_true] at g1 g1'
  refine hideP ?_
  intro G9 kG9
  obtain ⟨g10, g11, g12, g13, g14, g15, g16, g17, g18⟩ := g1
  refine kG9 ?_
  (try clear kG9 G9)
  k_steps
  (with_reducible rename Fr T.heap _ _ _ => Fa)
  (with_reducible rename News T.heap _ _ (_ :: _) => Na)
  refine' marked_ok lx1 (fun i => if i = 0 then leadOf (firstOf n0) (stepOf n0) else if i = 1 then leadOf (firstOf n2) (stepOf n2) else leadOf (firstOf n4) (stepOf n4)) v0 v2 v4 ex1 (fun i => (firstOf (if i = 0 then n0 else if i = 1 then n2 else n4)).toNat) (fun i => (stepOf (if i = 0 then n0 else if i = 1 then n2 else n4)).toNat) ?mbx ?mbf ?mbk ?mb1 ?mb2 ?mb3 (show News _ _ _ [(c5, tupObj #[.str x5 y5, .str (leadOf (firstOf n5) (stepOf n5)) v5] e5), (tb, instObj 283 d), (d, dictOf [⟨PyData.keyHash w.params (Str.ofString "_headers"), .str (Str.ofString "_headers") kt, .ref hl⟩] 1), (hl, listOf #[.ref c0, .ref c1, .ref c2, .ref c3, .ref c4, .ref c5] el), (c4, tupObj #[.str x4 y4, .str (leadOf (firstOf n4) (stepOf n4)) v4] e4), (c3, tupObj #[.str x3 y3, .str (leadOf (firstOf n3) (stepOf n3)) v3] e3), (c2, tupObj #[.str x2 y2, .str (leadOf (firstOf n2) (stepOf n2)) v2] e2), (c1, tupObj #[.str x1 y1, .str (leadOf (firstOf n1) (stepOf n1)) v1] e1), (c0, tupObj #[.str x0 y0, .str (leadOf (firstOf n0) (stepOf n0)) v0] e0), (D, listOf #[.int n0 u0, .int n1 u1, .int n2 u2, .int n3 u3, .int n4 u4, .int n5 u5] e)] from News.drop Na (by repeat (first | exact sub_nil | refine sub_cons (by k_mem) ?_))) ?mb5 ?mbK ?mbd ?mbu ?mbN ?mbD ?_
  case mb1 => exact K0
  case mb2 => k_asm
  case mb3 => k_asm
  case mb5 => k_asm
  case mbK => rfl
  case mbd => ktr_room
  case mbu => ktr_units
  case mbN => exact Na
  case mbD =>
    repeat (refine neD_cons (by (show (@Ne Nat _ _)); omega) ?_)
    exact neD_nil
  case mbx =>
    intro i hi
    rcases (Mine.c3 i hi) with rfl | rfl | rfl
    · exact lead_cps n0
    · exact lead_cps n2
    · exact lead_cps n4
  case mbf =>
    intro i hi
    rcases Mine.c3 i hi with rfl | rfl | rfl <;> exact first_nat _
  case mbk =>
    intro i hi
    rcases Mine.c3 i hi with rfl | rfl | rfl <;> exact step_nat _
  intro ya wsa h5 tk5 gs5 F5 N5 Ia gsa
  generalize hga : List.map _ (List.range 24) = ga at Ia
  have ha24 : wsa.length = 24 := by rw [Ia.length, ← hga, List.length_map, List.length_range]
  have offa : ∀ p ∈ [(c5, tupObj #[.str x5 y5, .str (leadOf (firstOf n5) (stepOf n5)) v5] e5), (tb, instObj 283 d), (d, dictOf [⟨PyData.keyHash w.params (Str.ofString "_headers"), .str (Str.ofString "_headers") kt, .ref hl⟩] 1), (hl, listOf #[.ref c0, .ref c1, .ref c2, .ref c3, .ref c4, .ref c5] el), (c4, tupObj #[.str x4 y4, .str (leadOf (firstOf n4) (stepOf n4)) v4] e4), (c3, tupObj #[.str x3 y3, .str (leadOf (firstOf n3) (stepOf n3)) v3] e3), (c2, tupObj #[.str x2 y2, .str (leadOf (firstOf n2) (stepOf n2)) v2] e2), (c1, tupObj #[.str x1 y1, .str (leadOf (firstOf n1) (stepOf n1)) v1] e1), (c0, tupObj #[.str x0 y0, .str (leadOf (firstOf n0) (stepOf n0)) v0] e0), (D, listOf #[.int n0 u0, .int n1 u1, .int n2 u2, .int n3 u3, .int n4 u4, .int n5 u5] e)], p.1 ≠ ya := by
    repeat (refine neD_cons (by first | (refine' News.apart N5 ?ap1 (.head _) ?ap2; (case ap1 => k_mem); (case ap2 => first | ((show Value.type _ ≠ Value.type _); decide) | (intro hq; cases hq; done))) | (refine' News.apartL N5 ?ap1 (.head _) ?ap2; (case ap1 => k_mem); (case ap2 => simp [ha24]))) ?_)
    exact neD_nil
  clear Fa Na
  have N5b : News T.heap s₁.heap.objs.size h5 [(c5, tupObj #[.str x5 y5, .str (leadOf (firstOf n5) (stepOf n5)) v5] e5), (tb, instObj 283 d), (d, dictOf [⟨PyData.keyHash w.params (Str.ofString "_headers"), .str (Str.ofString "_headers") kt, .ref hl⟩] 1), (hl, listOf #[.ref c0, .ref c1, .ref c2, .ref c3, .ref c4, .ref c5] el), (c4, tupObj #[.str x4 y4, .str (leadOf (firstOf n4) (stepOf n4)) v4] e4), (c3, tupObj #[.str x3 y3, .str (leadOf (firstOf n3) (stepOf n3)) v3] e3), (c2, tupObj #[.str x2 y2, .str (leadOf (firstOf n2) (stepOf n2)) v2] e2), (c1, tupObj #[.str x1 y1, .str (leadOf (firstOf n1) (stepOf n1)) v1] e1), (c0, tupObj #[.str x0 y0, .str (leadOf (firstOf n0) (stepOf n0)) v0] e0), (ya, listOf wsa.toArray 0), (D, listOf #[.int n0 u0, .int n1 u1, .int n2 u2, .int n3 u3, .int n4 u4, .int n5 u5] e)] := News.drop N5 (by repeat (first | exact sub_nil | refine sub_cons (by k_mem) ?_))
  clear N5
  k_steps
  (with_reducible rename Fr T.heap _ _ _ => Fa)
  (with_reducible rename News T.heap _ _ (_ :: _) => Na)
  refine' far_ok n0 n1 n2 n3 n4 n5 tb d hl c0 c1 c2 c3 c4 c5 kt el x0 x1 x2 x3 x4 x5 y0 y1 y2 y3 y4 y5 v0 v1 v2 v3 v4 v5 e0 e1 e2 e3 e4 e5 _ hcas ⟨q1, q2, q3, q4, q5, q6, q7, q8⟩ ?nc1 ?nc2 ?nc3 (show News _ _ _ [(ya, listOf wsa.toArray 0), (D, listOf #[.int n0 u0, .int n1 u1, .int n2 u2, .int n3 u3, .int n4 u4, .int n5 u5] e)] from News.drop Na (by repeat (first | exact sub_nil | refine sub_cons (by k_mem) ?_))) ?nc5 ?ncK ?ncd ?ncu ?ncN ?ncD ?_
  case nc1 => exact K0
  case nc2 => k_asm
  case nc3 => k_asm
  case nc5 => k_asm
  case ncK => rfl
  case ncd => ktr_room
  case ncu => ktr_units
  case ncN => exact (show News _ _ _ ([(c5, tupObj #[.str x5 y5, .str (leadOf (firstOf n5) (stepOf n5)) v5] e5), (tb, instObj 283 d), (d, dictOf [⟨PyData.keyHash w.params (Str.ofString "_headers"), .str (Str.ofString "_headers") kt, .ref hl⟩] 1), (hl, listOf #[.ref c0, .ref c1, .ref c2, .ref c3, .ref c4, .ref c5] el), (c4, tupObj #[.str x4 y4, .str (leadOf (firstOf n4) (stepOf n4)) v4] e4), (c3, tupObj #[.str x3 y3, .str (leadOf (firstOf n3) (stepOf n3)) v3] e3), (c2, tupObj #[.str x2 y2, .str (leadOf (firstOf n2) (stepOf n2)) v2] e2), (c1, tupObj #[.str x1 y1, .str (leadOf (firstOf n1) (stepOf n1)) v1] e1), (c0, tupObj #[.str x0 y0, .str (leadOf (firstOf n0) (stepOf n0)) v0] e0)] ++ [(ya, listOf wsa.toArray 0), (D, listOf #[.int n0 u0, .int n1 u1, .int n2 u2, .int n3 u3, .int n4 u4, .int n5 u5] e)]) from Na)
  case ncD =>
    intro p hp hm
    rcases List.mem_cons.mp hp with rfl | hp
    · obtain ⟨p', hp', q'⟩ := List.mem_map.mp hm
      exact offa p' (List.mem_append_left _ hp') q'
    · rw [List.mem_singleton.mp hp] at hm
      simp only [List.map_cons, List.map_nil, List.mem_cons, List.not_mem_nil, or_false] at hm
      rcases hm with q | q | q | q | q | q | q | q | q <;> (have q' : @Eq Nat _ _ := q; omega)
  intro lx2 ex2 h6 tk6 F6 N6 g2 g2'
  clear Fa Na
  simp only [List.cons_append, List.nil_append] at  N6
  simp only [GnNe, and_true] at g2 g2'
  refine hideP ?_
  intro G9 kG9
  obtain ⟨g20, g21, g22, g23, g24, g25, g26, g27, g28⟩ := g2
  refine kG9 ?_
  (try clear kG9 G9)
  obtain ⟨g29, g2a⟩ := g2'
  have N6b : News T.heap s₁.heap.objs.size h6 [(lx2, listOf #[.str (leadOf (firstOf n1) (stepOf n1)) v1, .str (leadOf (firstOf n3) (stepOf n3)) v3, .str (leadOf (firstOf n5) (stepOf n5)) v5] ex2), (ya, listOf wsa.toArray 0), (D, listOf #[.int n0 u0, .int n1 u1, .int n2 u2, .int n3 u3, .int n4 u4, .int n5 u5] e)] := News.drop N6 (by repeat (first | exact sub_nil | refine sub_cons (by k_mem) ?_))
  clear N6
  k_steps
  (with_reducible rename Fr T.heap _ _ _ => Fa)
  (with_reducible rename News T.heap _ _ (_ :: _) => Na)
  refine' marked_ok lx2 (fun i => if i = 0 then leadOf (firstOf n1) (stepOf n1) else if i = 1 then leadOf (firstOf n3) (stepOf n3) else leadOf (firstOf n5) (stepOf n5)) v1 v3 v5 ex2 (fun i => (firstOf (if i = 0 then n1 else if i = 1 then n3 else n5)).toNat) (fun i => (stepOf (if i = 0 then n1 else if i = 1 then n3 else n5)).toNat) ?mdx ?mdf ?mdk ?md1 ?md2 ?md3 (show News _ _ _ [(ya, listOf wsa.toArray 0), (D, listOf #[.int n0 u0, .int n1 u1, .int n2 u2, .int n3 u3, .int n4 u4, .int n5 u5] e)] from News.drop Na (by repeat (first | exact sub_nil | refine sub_cons (by k_mem) ?_))) ?md5 ?mdK ?mdd ?mdu ?mdN ?mdD ?_
  case md1 => exact K0
  case md2 => k_asm
  case md3 => k_asm
  case md5 => k_asm
  case mdK => rfl
  case mdd => ktr_room
  case mdu => ktr_units
  case mdN => exact Na
  case mdD =>
    repeat (refine neD_cons (by (show (@Ne Nat _ _)); omega) ?_)
    exact neD_nil
  case mdx =>
    intro i hi
    rcases (Mine.c3 i hi) with rfl | rfl | rfl
    · exact lead_cps n1
    · exact lead_cps n3
    · exact lead_cps n5
  case mdf =>
    intro i hi
    rcases Mine.c3 i hi with rfl | rfl | rfl <;> exact first_nat _
  case mdk =>
    intro i hi
    rcases Mine.c3 i hi with rfl | rfl | rfl <;> exact step_nat _
  intro yb wsb h7 tk7 gs7 F7 N7 Ib gsb
  generalize hgb : List.map _ (List.range 24) = gb at Ib
  have hb24 : wsb.length = 24 := by rw [Ib.length, ← hgb, List.length_map, List.length_range]
  clear Fa Na
  k_steps
  (with_reducible rename Fr T.heap _ _ _ => Fa)
  (with_reducible rename News T.heap _ _ (_ :: _) => Na)
  have Na2 := Na
  simp only [slice_even, slice_odd] at Na2
  refine' plain_ok _ n0 n2 n4 u0 u2 u4 0 ⟨a0, b0⟩ ⟨a2, b2⟩ ⟨a4, b4⟩ ?pa1 ?pa2 ?pa3 (show News _ _ _ [(yb, listOf wsb.toArray 0), (ya, listOf wsa.toArray 0), (D, listOf #[.int n0 u0, .int n1 u1, .int n2 u2, .int n3 u3, .int n4 u4, .int n5 u5] e)] from News.drop Na (by repeat (first | exact sub_nil | refine sub_cons (by k_mem) ?_))) ?pa5 ?paK ?pad ?pau ?paN ?paD ?_
  case pa1 => exact K0
  case pa2 => k_asm
  case pa3 => k_asm
  case pa5 => k_asm
  case paK => rfl
  case pad => ktr_room
  case pau => ktr_units
  case paN => exact News.drop Na2 (by repeat (first | exact sub_nil | refine sub_cons (by k_mem) ?_))
  case paD =>
    repeat (refine neD_cons (by refine' News.apartL Na2 ?ap1 (.head _) ?ap2; (case ap1 => k_mem); (case ap2 => simp [ha24, hb24])) ?_)
    exact neD_nil
  intro pya expya wspya hpya tkpya Fpya Npya Ipya
  rw [rows_plain (fun i => if i = 0 then n0 else if i = 1 then n2 else n4), hga] at Ipya
  clear Fa Na Na2
  have Nb : News T.heap s₁.heap.objs.size hpya [(pya, listOf wspya.toArray expya), (yb, listOf wsb.toArray 0), (ya, listOf wsa.toArray 0), (D, listOf #[.int n0 u0, .int n1 u1, .int n2 u2, .int n3 u3, .int n4 u4, .int n5 u5] e)] := News.drop Npya (by repeat (first | exact sub_nil | refine sub_cons (by k_mem) ?_))
  clear Npya
  k_steps
  clear Nb
  (with_reducible rename Fr T.heap _ _ _ => Fa)
  (with_reducible rename News T.heap _ _ (_ :: _) => Na)
  have Na2 := Na
  simp only [slice_even, slice_odd] at Na2
  refine' plain_ok _ n1 n3 n5 u1 u3 u5 0 ⟨a1, b1⟩ ⟨a3, b3⟩ ⟨a5, b5⟩ ?pb1 ?pb2 ?pb3 (show News _ _ _ [(yb, listOf wsb.toArray 0), (ya, listOf wsa.toArray 0), (D, listOf #[.int n0 u0, .int n1 u1, .int n2 u2, .int n3 u3, .int n4 u4, .int n5 u5] e)] from News.drop Na (by repeat (first | exact sub_nil | refine sub_cons (by k_mem) ?_))) ?pb5 ?pbK ?pbd ?pbu ?pbN ?pbD ?_
  case pb1 => exact K0
  case pb2 => k_asm
  case pb3 => k_asm
  case pb5 => k_asm
  case pbK => rfl
  case pbd => ktr_room
  case pbu => ktr_units
  case pbN => exact News.drop Na2 (by repeat (first | exact sub_nil | refine sub_cons (by k_mem) ?_))
  case pbD =>
    repeat (refine neD_cons (by refine' News.apartL Na2 ?ap1 (.head _) ?ap2; (case ap1 => k_mem); (case ap2 => simp [ha24, hb24])) ?_)
    exact neD_nil
  intro pyb expyb wspyb hpyb tkpyb Fpyb Npyb Ipyb
  rw [rows_plain (fun i => if i = 0 then n1 else if i = 1 then n3 else n5), hgb] at Ipyb
  clear Fa Na Na2
  have Nb : News T.heap s₁.heap.objs.size hpyb [(pyb, listOf wspyb.toArray expyb), (yb, listOf wsb.toArray 0), (ya, listOf wsa.toArray 0), (D, listOf #[.int n0 u0, .int n1 u1, .int n2 u2, .int n3 u3, .int n4 u4, .int n5 u5] e)] := News.drop Npyb (by repeat (first | exact sub_nil | refine sub_cons (by k_mem) ?_))
  clear Npyb
  k_steps
  have Nc : News T.heap s₁.heap.objs.size hpyb [(yb, listOf wsb.toArray 0), (ya, listOf wsa.toArray 0), (D, listOf #[.int n0 u0, .int n1 u1, .int n2 u2, .int n3 u3, .int n4 u4, .int n5 u5] e)] := News.drop Nb (by repeat (first | exact sub_nil | refine sub_cons (by k_mem) ?_))
  clear Nb
  have I6 : IntsAre [.int n0 u0, .int n1 u1, .int n2 u2, .int n3 u3, .int n4 u4, .int n5 u5] [n0, n1, n2, n3, n4, n5] := .cons _ _ (.cons _ _ (.cons _ _ (.cons _ _ (.cons _ _ (.cons _ _ .nil)))))
  have hb6 : ∀ n ∈ [n0, n1, n2, n3, n4, n5], 0 ≤ n ∧ n < 1000000 := by
    intro n hn
    simp only [List.mem_cons, List.not_mem_nil, or_false] at hn
    rcases hn with rfl | rfl | rfl | rfl | rfl | rfl <;> constructor <;> assumption
  refine sc_start (cl := []) (by with_unfolding_all rfl) rfl (by decide) rfl ?_
  k_steps
  (with_reducible rename Fr T.heap _ _ _ => F1)
  (with_reducible rename News T.heap _ _ (_ :: _) => N1)
  refine comp_in accSet rfl F1 N1 (.head _) (by decide) rfl rfl rfl (fun _ _ => rfl) (fun _ _ => rfl) list_self ?_
  intro D0 C0 oC0 h10 tk10 F10 N10 hC10 ltD ltC
  (try k_lt ltD)
  have zI := N10 _ (.tail _ (.tail _ (.head _)))
  have N11 := News.rm2 N10
  refine' cgen rfl rfl (ct_set _ _ _ _ _ _ _ _ _) (Walks.list rfl _ _ (by (show @Ne Nat _ _); omega) _) (fun i h st => by obtain ⟨o, e, _⟩ := st.1; exact ⟨o, e⟩) LCg.list_st (JS w D0 (NK _ [n0, n1, n2, n3, n4, n5])) ?hS ⟨⟨_, zI.1, rfl, rfl⟩, News.isList (items := #[.int n0 u0, .int n1 u1, .int n2 u2, .int n3 u3, .int n4 u4, .int n5 u5]) N10 (by k_mem)⟩ F10 N11 hC10 zI.2.1 zI.2.2 ?off1 (by (show @Ne Nat _ _); omega) ⟨_, [], _, rfl, newSet_is, nil_states, rfl, fun v => by simp⟩ ?turn1 ?done1
  case off1 =>
    repeat (refine off_cons (by constructor <;> (show (@Ne Nat _ _)) <;> omega) ?_)
    exact off_nil
  case hS =>
    rintro i nw ⟨o, hs, nw, rfl, h1, h2, rfl, h3⟩
    exact srcAt_of (by k_mem)
  case turn1 =>
    intro i v oI oC m₂ news₁ h5 tk5 hi hP hst hJ F5 N5 hC5 off5
    obtain ⟨o, hs, rfl, hS, hsS, hmem⟩ := hJ.out fun _ _ h => h
    obtain ⟨z, hz9⟩ : ∃ z, [n0, n1, n2, n3, n4, n5][i]? = some z := ⟨_, List.getElem?_eq_getElem (show i < [n0, n1, n2, n3, n4, n5].length from hi)⟩
    obtain ⟨hzb1, hzb2⟩ := hb6 z (List.mem_of_getElem? hz9)
    obtain ⟨tv, rfl⟩ : ∃ t, v = Value.int z t := by
      obtain ⟨t, ht⟩ := I6.get i z hz9
      exact ⟨t, by rw [List.getElem?_toArray] at hP; rw [ht] at hP; exact (Option.some.inj hP).symm⟩
    refine wpAny_of_eq rfl ?_
    refine comp_assign F5 N5 hC5 off5 (by (show @Ne Nat _ _); omega) rfl rfl ?_
    intro h6 tk6 oC6 m6 F6 N6 hC6 e6 k6
    refine wpAny_tests_nil ?_
    simp only [if_true]
    refine body_set ?_
    clear F5 N5 hC5 F10 N10 N11 F1 N1 hP hst
    k_steps
    change wpAny _ _ (call (Value.ref 294) _ _) _ _ _
    k_dflt (refine' drawn_ok _ _ ?a_p ?b_p (by k_asm) (by k_asm) (by k_asm) (by k_asm) (by k_asm) (by first | exact rfl | assumption) (by ktr_room) (by ktr_units) ?_; (case a_p => first | assumption | omega); (case b_p => first | assumption | omega); k_whole)
    intro xzp epzp t1zp t2zp hzp tkzp Fzp Nzp lzp bzp
    (try dsimp only)
    (try k_lt lzp)
    k_steps
    (with_reducible rename Fr T.heap _ _ _ => Fz)
    (with_reducible rename News T.heap _ _ (_ :: _) => Nz)
    refine ts_end Fz (News.cut0 Nz) hC6 off5 ?offD hS hsS (step_svals z) fun hs' h1 h2 => ⟨rfl, nk_step hz9 h1 h2 hmem⟩
    case offD =>
      repeat (refine neD_cons (by (show (@Ne Nat _ _)); omega) ?_)
      exact neD_nil
  case done1 =>
    intro h tk oC m₂ news₁ hJ F2 N2 hC2 offC2
    obtain ⟨o, hs, rfl, hS, hsS, hmem⟩ := hJ.out fun _ _ h => h
    refine cpost F2 N2 hC2 offC2 ?_
    intro h13 F13 N13
    clear F2 N2 F10 N10 N11 F1 N1
    dsimp only
    k_steps
    refine sorted_set rfl F13 N13 (.head _) hS hsS ?_
    intro Dl h14 tk14 out e14 szs F14 N14 l14 hI14 hp14 hs14
    clear F13 N13
    (try k_lt l14)
    have Nd : News T.heap s₁.heap.objs.size h14 [(Dl, listOf out.toArray e14), (yb, listOf wsb.toArray 0), (ya, listOf wsa.toArray 0), (D, listOf #[.int n0 u0, .int n1 u1, .int n2 u2, .int n3 u3, .int n4 u4, .int n5 u5] e)] := News.drop N14 (by repeat (first | exact sub_nil | refine sub_cons (by k_mem) ?_))
    clear N14
    have hst : ∀ v, v ∈ szs ↔ ∃ n ∈ [n0, n1, n2, n3, n4, n5], v = stepOf n := fun v => (hp14.mem_iff).trans (hmem v)
    have hnd : szs.Nodup := (hp14.nodup_iff).mpr (states_nodup hsS)
    have hst6 : ∀ v ∈ szs, v ∈ [2, 3, 4, 6, 8, 12] := fun v hv => by
      obtain ⟨n, _, e⟩ := (hst v).mp hv
      have := step_cases n
      rw [e]
      simp only [List.mem_cons, List.not_mem_nil, or_false]
      exact this
    obtain ⟨hgood, hlen6⟩ := steps_shape hst6 hnd hs14
    obtain ⟨hcast, hnat⟩ := szs_nat hst6
    have hI15 : IntsAre out ((szs.map Int.toNat).map fun (k : Nat) => (k : Int)) := by rw [hcast]; exact hI14
    k_steps
    (with_reducible rename Fr T.heap _ _ _ => Fa)
    (with_reducible rename News T.heap _ _ (_ :: _) => Na)
    refine' fractions_ok Dl out (szs.map Int.toNat) e14 hI15 hnat (by rw [List.length_map]; exact hlen6) ?fr1 ?fr2 ?fr3 (show News _ _ _ [(yb, listOf wsb.toArray 0), (ya, listOf wsa.toArray 0), (D, listOf #[.int n0 u0, .int n1 u1, .int n2 u2, .int n3 u3, .int n4 u4, .int n5 u5] e)] from News.drop Na (by repeat (first | exact sub_nil | refine sub_cons (by k_mem) ?_))) ?fr5 ?frK ?frd ?fru ?frN ?frD ?_
    case fr1 => exact K0
    case fr2 => k_asm
    case fr3 => k_asm
    case fr5 => k_asm
    case frK => rfl
    case frd => ktr_room
    case fru => ktr_units
    case frN => exact News.drop Na (by repeat (first | exact sub_nil | refine sub_cons (by k_mem) ?_))
    case frD =>
      repeat (refine neD_cons (by (show (@Ne Nat _ _)); omega) ?_)
      exact neD_nil
    intro szs2 tc h15 tk15 F15 N15 hm15 hnd15 hs15
    rw [szs_frac hst6 hgood hm15 hnd15 hs15]
    clear Fa Na
    k_steps
    refine sc_start (cl := []) (by with_unfolding_all rfl) rfl (by decide) rfl ?_
    k_steps
    (with_reducible rename Fr T.heap _ _ _ => F16)
    (with_reducible rename News T.heap _ _ (_ :: _) => N16)
    refine comp_in accSet rfl F16 N16 (.head _) (by decide) rfl rfl rfl (fun _ _ => rfl) (fun _ _ => rfl) list_self ?_
    intro D1 C1 oC1 h20 tk20 F20 N20 hC20 ltD1 ltC1
    (try k_lt ltD1)
    have zJ := N20 _ (.tail _ (.tail _ (.head _)))
    have N21 := News.rm2 N20
    clear F16 N16
    refine' cgen rfl rfl (ct_set0 _ _ _ _ _ _ _ _ _ _ _ _) (Walks.list rfl _ _ (by (show @Ne Nat _ _); omega) _) (fun i h st => by obtain ⟨o, e, _⟩ := st.1; exact ⟨o, e⟩) LCg.list_st (fun i => JN lawProg w D1 (fun _ hs nw => FK _ szs i hs nw) (12 * i)) ?hS2 ⟨⟨_, zJ.1, rfl, rfl⟩, News.isList (items := out.toArray) N20 (by k_mem)⟩ F20 N21 hC20 zJ.2.1 zJ.2.2 ?off2 (by (show @Ne Nat _ _); omega) ⟨_, [], _, rfl, newSet_obj, .nil, Nat.le_refl _, rfl, fun v => by simp⟩ ?turn2 ?done2
    case off2 =>
      repeat (refine off_cons (by constructor <;> (show (@Ne Nat _ _)) <;> omega) ?_)
      exact off_nil
    case hS2 =>
      rintro i nw ⟨o, hs, nw, rfl, h1, h2, h3, rfl, h4⟩
      exact srcAt_of (by k_mem)
    case turn2 =>
      intro i v oI oC m₂ news₁ h5 tk5 hi hP hst9 hJ F5 N5 hC5 off5
      obtain ⟨o, hs2, rfl, hS2, hnd2, hlen2, hmem2⟩ := hJ.out fun _ _ h => h
      have hi' : i < szs.length := by rw [← hI14.length]; simpa using hi
      obtain ⟨k, hk9⟩ : ∃ z, szs[i]? = some z := ⟨_, List.getElem?_eq_getElem hi'⟩
      obtain ⟨tv, rfl⟩ : ∃ t, v = Value.int k t := by
        obtain ⟨t, ht⟩ := hI14.get i k hk9
        exact ⟨t, by rw [List.getElem?_toArray] at hP; rw [ht] at hP; exact (Option.some.inj hP).symm⟩
      have hk6 := hst6 k (List.mem_of_getElem? hk9)
      have hkb : 2 ≤ k ∧ k ≤ 12 := by
        simp only [List.mem_cons, List.not_mem_nil, or_false] at hk6
        exact step_le hk6
      obtain ⟨hkb1, hkb2⟩ := hkb
      refine wpAny_of_eq rfl ?_
      refine comp_assign F5 N5 hC5 off5 (by (show @Ne Nat _ _); omega) rfl rfl ?_
      intro h6 tk6 oC6 m6 F6 N6 hC6 e6 k6
      refine wpAny_tests_nil ?_
      simp only [if_true]
      refine body_inner (fun _ => rfl) ?_
      clear F5 N5 hC5 F20 N20 N21 hP hst9
      (first | walk1 | (dsimp only; walk1))
      (first | walk1 | (dsimp only; walk1))
      (first | walk1 | (dsimp only; walk1))
      (first | walk1 | (dsimp only; walk1))
      (first | walk1 | (dsimp only; walk1))
      (first | walk1 | (dsimp only; walk1))
      (first | walk1 | (dsimp only; walk1))
      (with_reducible rename Fr T.heap _ _ _ => F7)
      (with_reducible rename News T.heap _ _ (_ :: _) => N7)
      refine iter_range F7 N7 (by assumption) (small_one (by omega) (by omega) (by omega) (by omega)) (rangeSize_nat _ _) ?_
      intro I3 h8 hI3 F8 N8
      (try k_lt hI3)
      have zI3 := N8 _ (.head _)
      have N9 := News.inb N8
      refine cs_self rfl rfl rfl rfl (fun Q' hq => range_self rfl _ _ _ zI3.1 hq) ?_
      have hk0 : (k - 0).toNat = k.toNat := by rw [Int.sub_zero]
      rw [hk0] at zI3
      refine' cgenM (n := k.toNat) (Mi := fun m => m (Str.ofString "step") = some (.int k tv)) rfl rfl (ct_set1 _ _ _ _ _ _ _ _ _ _ _ _) (LCg.range_walks rfl _ _) (fun i h st => ⟨_, st⟩) LCg.range_st (S := fun _ => True) (fun j => JN lawProg w D1 (fun _ hs nw => FK1 _ hs2 k j hs nw) (12 * i + j)) (fun _ _ _ => trivial) (range_st0 zI3.1) F8 N9 hC6 e6 zI3.2.1 zI3.2.2 ?off3 (by (show @Ne Nat _ _); omega) ⟨o, hs2, _, rfl, hS2, hnd2, hlen2, rfl, fun v => by simp⟩ ?turn3 ?done3
      case off3 =>
        repeat (refine off_cons (by constructor <;> (show (@Ne Nat _ _)) <;> omega) ?_)
        exact off_nil
      case done3 =>
        intro h9 tk9 oC9 m9 news9 hJ9 F9 N10 hC9 offC9
        obtain ⟨o3, hs3, rfl, hS3, hnd3, hlen3, hm3⟩ := hJ9.out fun _ _ h => h
        refine ⟨_, _, _, _, _, rfl, F9, News.inc N10, hC9, ?off4, o3, hs3, _, rfl, hS3, hnd3, by omega, rfl, fk_turn hk9 hmem2 hm3⟩
        repeat (refine off_cons (by constructor <;> (show (@Ne Nat _ _)) <;> omega) ?_)
        exact off_nil
      case turn3 =>
        intro j v oI3 oC3 m3 news3 h9 tk9 hj hP3 hst3 hJ3 F9 N10 hC9 eM off9
        obtain ⟨o3, hs3, rfl, hS3, hnd3, hlen3, hm3⟩ := hJ3.out fun _ _ h => h
        obtain ⟨tv3, rfl⟩ := hP3
        refine wpAny_of_eq rfl ?_
        refine comp_assign F9 N10 hC9 off9 (by (show @Ne Nat _ _); omega) rfl rfl ?_
        intro h10 tk10 oC10 m10 F10 N11 hC10 e10 k10
        have eS := k10 (Str.ofString "step") _ (by decide) eM
        refine wpAny_tests_nil ?_
        simp only [if_true]
        refine body_set ?_
        clear F9 N10 hC9 F8 N9 N8 hst3
        k_steps
        refine tn_endM (Mi := fun m => m (Str.ofString "step") = some (.int k tv)) F10 N11 hC10 eS off9 ?offD3 hS3 hnd3 hlen3 (bound72 hi' hlen6 hj hkb2) fun hs' h' => ⟨rfl, fk_step hm3 (fun v => by rw [h' v, Int.zero_add])⟩
        case offD3 => exact neD_cons (Nat.ne_of_lt ltD1.1) (neD_cons (Nat.ne_of_lt ltD1.2.1) (neD_cons (Nat.ne_of_lt ltD1.2.2.1) (neD_cons (Nat.ne_of_lt ltD1.2.2.2.1) (neD_cons (Nat.ne_of_lt ltD1.2.2.2.2) neD_nil))))
    case done2 =>
      intro h20 tk20 oC20 m20 news20 hJ F21 N21 hC21 offC21
      obtain ⟨o, hs2, rfl, hS2, hnd2, hlen2, hmem2⟩ := hJ.out fun _ _ h => h
      refine cpost F21 N21 hC21 offC21 ?_
      intro h22 F22 N22
      have hcnt : hs2.length = (fracSet szs).length := frac_len hst6 hnd2 (fun v => by rw [hmem2 v, List.size_toArray, hI14.length, List.take_length])
      have hc24 := good_le hgood
      clear F21 N21
      dsimp only
      (first | walk1 | (dsimp only; walk1))
      (first | walk1 | (dsimp only; walk1))
      (first | walk1 | (dsimp only; walk1))
      (first | walk1 | (dsimp only; walk1))
      rw [hcnt, if_neg (by simp)]
      have Ne : News T.heap s₁.heap.objs.size h22 [(Dl, listOf out.toArray e14), (yb, listOf wsb.toArray 0), (ya, listOf wsa.toArray 0), (D, listOf #[.int n0 u0, .int n1 u1, .int n2 u2, .int n3 u3, .int n4 u4, .int n5 u5] e)] := News.cut0 N22
      clear N22
      dsimp only
      (first | walk1 | (dsimp only; walk1))
      (first | walk1 | (dsimp only; walk1))
      refine lca_start (cl := []) (by with_unfolding_all rfl) (by with_unfolding_all rfl) rfl (by decide) rfl ?_
      (first | walk1 | (dsimp only; walk1))
      (first | walk1 | (dsimp only; walk1))
      (first | walk1 | (dsimp only; walk1))
      (first | walk1 | (dsimp only; walk1))
      (first | walk1 | (dsimp only; walk1))
      (first | walk1 | (dsimp only; walk1))
      (first | walk1 | (dsimp only; walk1))
      (first | walk1 | (dsimp only; walk1))
      (with_reducible rename Fr T.heap _ _ _ => F24)
      (with_reducible rename News T.heap _ _ (_ :: _) => N24)
      refine call_zip F24 N24 (by k_mem) (by k_mem) ?_
      intro z TI TO i1 i2 o1 o2 h30 ltz ordz apz F30 N30 it1 it2
      refine wpAny_pyIter_zip (N30 _ (.head _)).1 ?_
      refine comp_inU accList rfl F30 N30 (.head _) (by decide) rfl rfl rfl (fun _ _ => rfl) (fun _ _ => rfl) zip_self ?_
      intro D2 C2 oC2 h31 tk31 F31 N31 hC31 ltD2 ltC2
      have Nz : News T.heap s₁.heap.objs.size h31 [(C2, oC2), (D2, LCg.lst []), (Dl, listOf out.toArray e14), (yb, listOf wsb.toArray 0), (ya, listOf wsa.toArray 0), (D, listOf #[.int n0 u0, .int n1 u1, .int n2 u2, .int n3 u3, .int n4 u4, .int n5 u5] e)] := News.drop N31 (by repeat (first | exact sub_nil | refine sub_cons (by k_mem) ?_))
      have hzD : @LT.lt Nat _ z D2 := ltD2 _ (.head _)
      have zC := zip_C ordz hzD ltC2
      have zN := zip_new N31
      refine' czgen (ws := [TI, TO, i1, i2]) (keep := [(ya, listOf wsa.toArray 0), (yb, listOf wsb.toArray 0)]) rfl rfl (ct_list _ _ _ _ _ _ _ _ _) (WalksT.zip2 rfl z TI TO i1 i2 ya yb apz wsa.toArray wsb.toArray).toU zip_wr zip_fp zip_io (JL D2 (fun i ys nw => nw = [(Dl, listOf out.toArray e14), (yb, listOf wsb.toArray 0), (ya, listOf wsa.toArray 0), (D, listOf #[.int n0 u0, .int n1 u1, .int n2 u2, .int n3 u3, .int n4 u4, .int n5 u5] e)] ∧ BK ((ga.zip gb).map fun p => p.1 == p.2) i ys)) ?zS ⟨(N31 _ (.tail _ (.tail _ (.head _)))).1, (N31 _ (.tail _ (.tail _ (.tail _ (.head _))))).1, ⟨_, _, (N31 _ (.tail _ (.tail _ (.tail _ (.tail _ (.head _)))))).1⟩, it1 _ (N31 _ (.tail _ (.tail _ (.tail _ (.tail _ (.tail _ (.head _))))))).1, it2 _ (N31 _ (.tail _ (.tail _ (.tail _ (.tail _ (.tail _ (.tail _ (.head _)))))))).1, News.isList N31 (by k_mem), News.isList N31 (by k_mem)⟩ F31 Nz hC31 zN.1 zN.2 (zip_off ltz ordz hzD ltC2) zC.1 zC.2 ⟨[], _, rfl, Nat.le_refl _, rfl, rfl⟩ ?zturn ?zdone
      case zS =>
        rintro i nw ⟨ys, nw, rfl, h1, rfl, h2⟩
        repeat (first | exact sub_nil | refine sub_cons (by k_mem) ?_)
      case zturn =>
        intro i T9 vals oI own oC m₂ news₁ h tk hi hPt hT hJ hown off offw F34 N34 hC
        obtain ⟨ys, rfl, hlen, hbk⟩ := hJ.out fun _ _ h => h
        refine hideP ?_
        intro G9 kG9
        obtain ⟨x, y, hx, hy, rfl⟩ := hPt
        refine kG9 ?_
        (try clear kG9 G9)
        have hi24 : i < 24 := by
          have h1 := Nat.lt_of_lt_of_le hi (Nat.min_le_left _ _)
          rw [List.size_toArray, ha24] at h1
          exact h1
        obtain ⟨za, hza⟩ : ∃ v, ga[i]? = some v := ⟨_, List.getElem?_eq_getElem (by rw [← Ia.length, ha24]; exact hi24)⟩
        obtain ⟨zb, hzb⟩ : ∃ v, gb[i]? = some v := ⟨_, List.getElem?_eq_getElem (by rw [← Ib.length, hb24]; exact hi24)⟩
        obtain ⟨ta, rfl⟩ : ∃ t, x = Value.int za t := by
          obtain ⟨t, ht⟩ := Ia.get i za hza
          exact ⟨t, by rw [List.getElem?_toArray] at hx; rw [ht] at hx; exact (Option.some.inj hx).symm⟩
        obtain ⟨tbb, rfl⟩ : ∃ t, y = Value.int zb t := by
          obtain ⟨t, ht⟩ := Ib.get i zb hzb
          exact ⟨t, by rw [List.getElem?_toArray] at hy; rw [ht] at hy; exact (Option.some.inj hy).symm⟩
        refine comp_assign_pairT rfl F34 N34 hT hC off (fun q => zC.1 (by rw [q]; exact .head _)) rfl rfl rfl (by decide) ?_
        intro h35 tk35 oC35 m35 F35 N35 hC35 e35 f35
        refine wpAny_tests_nil ?_
        simp only [if_true]
        refine body_list ?_
        clear F34 N34 hC F31 N31 Nz F30 N30 F24 N24
        k_steps
        change wpAny _ _ (call (Value.ref 52) _ _) _ _ _
        k_dflt (refine' eq_ok _ _ _ _ ?k1_q ?k2_q ?k3_q ?k4_q ?k5_q ?kK_q ?kd_q ?ku_q ?_; (case k1_q => k_asm); (case k2_q => k_asm); (case k3_q => k_asm); (case k4_q => k_asm); (case k5_q => k_asm); (case kK_q => first | exact rfl | assumption); (case kd_q => ktr_room); (case ku_q => ktr_units); k_whole)
        intro hzq tkzq Fzq Nzq
        (try dsimp only)
        k_steps
        (with_reducible rename Fr T.heap _ _ _ => F36)
        (with_reducible rename News T.heap _ _ (_ :: _) => N36)
        refine tz_end F36 N36 hC35 off hown offw (fun p hp => Nat.ne_of_lt (ltD2 p (.tail _ (.tail _ (.tail _ (.tail _ (.tail _ hp))))))) hlen (by rw [PySem.sizeLine_eq]; exact Nat.le_trans (Nat.le_of_lt hi24) (by decide)) (bk_step (zip_bs hza hzb) hbk)
      case zdone =>
        intro h32 tk32 oC32 m32 news32 hJ F32 N32 hC32 offC32
        obtain ⟨ys, rfl, hlen32, hbk⟩ := hJ.out fun _ _ h => h
        refine cpostA (L := s₁.heap.objs.size) rfl F32 N32 hC32 offC32 rfl rfl ?_
        intro h33 tk33 F33 N33
        have hgl : ((ga.zip gb).map fun p => p.1 == p.2).length = 24 := by rw [List.length_map, List.length_zip, ← Ia.length, ← Ib.length, ha24, hb24]; rfl
        have hbk : ys = (((ga.zip gb).map fun p => p.1 == p.2).take (min wsa.toArray.size wsb.toArray.size)).map Value.bool := hbk
        rw [List.size_toArray, List.size_toArray, ha24, hb24, show min 24 24 = ((ga.zip gb).map fun p => p.1 == p.2).length by rw [hgl]; rfl, List.take_length] at hbk
        subst hbk
        clear F32 N32 F31 N31 Nz F30 N30 F24 N24
        dsimp only
        clear offC32 hlen32
        generalize hbs : ((ga.zip gb).map fun p => p.1 == p.2) = bs at hgl N33
        k_steps
        (with_reducible rename Fr T.heap _ _ _ => Fa)
        (with_reducible rename News T.heap _ _ (_ :: _) => Na)
        refine' longest_ok D2 bs (bs.map Value.bool).length (by rw [hgl]; decide) ?lo1 ?lo2 ?lo3 (show News _ _ _ [(Dl, listOf out.toArray e14), (yb, listOf wsb.toArray 0), (ya, listOf wsa.toArray 0), (D, listOf #[.int n0 u0, .int n1 u1, .int n2 u2, .int n3 u3, .int n4 u4, .int n5 u5] e)] from News.drop Na (by repeat (first | exact sub_nil | refine sub_cons (by k_mem) ?_))) ?lo5 ?loK ?lod ?lou ?loN ?loD ?_
        case lo1 => exact K0
        case lo2 => k_asm
        case lo3 => k_asm
        case lo5 => k_asm
        case loK => rfl
        case lod => ktr_room
        case lou => ktr_units
        case loN => exact News.drop Na (by repeat (first | exact sub_nil | refine sub_cons (by k_mem) ?_))
        case loD => exact fun p hp => Nat.ne_of_lt (ltD2 p (.tail _ (.tail _ (.tail _ (.tail _ (.tail _ hp))))))
        intro tl9 h40 tk40 gs40 F40 N40 gsc
        clear Fa Na
        generalize hrun : ((bs ++ bs).foldl lstep (0, 0)).1 = best
        k_steps
        refine notin_bools (News.isList N40 (.head _)) ?_
        have hna : ∀ i, i < 3 → stepOf ((fun i : Nat => if i = 0 then n0 else if i = 1 then n2 else n4) i) ∈ szs := fun i hi => by
          rcases (Mine.c3 i hi) with rfl | rfl | rfl
          · exact (hst _).mpr ⟨n0, by simp, rfl⟩
          · exact (hst _).mpr ⟨n2, by simp, rfl⟩
          · exact (hst _).mpr ⟨n4, by simp, rfl⟩
        have hnb : ∀ i, i < 3 → stepOf ((fun i : Nat => if i = 0 then n1 else if i = 1 then n3 else n5) i) ∈ szs := fun i hi => by
          rcases (Mine.c3 i hi) with rfl | rfl | rfl
          · exact (hst _).mpr ⟨n1, by simp, rfl⟩
          · exact (hst _).mpr ⟨n3, by simp, rfl⟩
          · exact (hst _).mpr ⟨n5, by simp, rfl⟩
        have key := law_plain hgood hna hnb hgl (bs_rows hga hgb hbs)
        rw [hrun] at key
        rw [any_false]
        k_steps
        have hval : (decide (((fracSet szs).length : Int) ≤ best) == decide (∀ b ∈ bs, b = true)) = true := by rw [beq_iff_eq, decide_eq_decide]; exact key
        rw [hval]
        exact ⟨.inl ⟨.bool true, .bool true, [], rfl, fun _ => rfl, ReadsW.bool true, law_post _, fun _ => ⟨List.nodup_nil, fun _ hm => nomatch hm⟩⟩, .of_keep F40.keep, rfl, gsc (gsb (gsa (AllBare.of_eq hg)))⟩
)
end Mine
end
set_option maxRecDepth 100000 in
set_option maxHeartbeats 8000000 in
theorem PySem.Challenge.cw_tl0052_01_holds : PySem.Challenge.rw_tl0052_01.Holds := by
  exact Mine.law_walk
