import PyProof.Rows.All
import Wide.All
import OpenK.AllK
import Wide.FinOn
import PySem.Challenge.RW_kl0478_01
open PySem PySem.W PyProof.Rows
set_option Elab.async false
set_option maxRecDepth 100000
set_option maxHeartbeats 8000000
name_quick tw992094810808517197 for S.findZ by S.findZ_eq
name_quick tw12282317666342685634 for S.findZ by S.findZ_eq
name_quick tw1104824148652047619 for S.findZ by S.findZ_eq
name_quick tw13336175834630783545 for S.findZ by S.findZ_eq
name_quick tw4615046776614313329 for S.findZ by S.findZ_eq
name_quick tw4622596211255666275 for S.findZ by S.findZ_eq
name_quick tw6224834671499428021 for S.findZ by S.findZ_eq
name_quick tw8075568018651887793 for S.findZ by S.findZ_eq
name_quick tw1198029661359474080 for S.findZ by S.findZ_eq
name_quick tw14979626087600564940 for S.findZ by S.findZ_eq
name_quick tw9616300282289085542 for S.findZ by S.findZ_eq
name_quick tw17300597898927385350 for S.findZ by S.findZ_eq
name_quick tw8224813933742928703 for S.findZ by S.findZ_eq
name_quick tw18011524253729791491 for S.findZ by S.findZ_eq
name_quick tw8713075359548859761 for S.findZ by S.findZ_eq
name_quick tw8042821146705691829 for S.findZ by S.findZ_eq
name_quick tw14127431949159616355 for S.findZ by S.findZ_eq
name_quick tw14971746577665755125 for S.findZ by S.findZ_eq
name_quick tw9376109419431680627 for S.findZ by S.findZ_eq
name_quick tw5268983451555188008 for S.findZ by S.findZ_eq
name_quick tw16643706677886111943 for S.findZ by S.findZ_eq
name_quick tw17111948838632640456 for S.findZ by S.findZ_eq
name_quick tw3560238982266916124 for S.findZ by S.findZ_eq
name_quick tw11317593695737139937 for S.findZ by S.findZ_eq
name_quick tw9458956999447867950 for S.findZ by S.findZ_eq
name_quick tw10010936943081839664 for S.findZ by S.findZ_eq
name_quick tw16439824349840649037 for S.findZ by S.findZ_eq
name_quick tw5902227825499142635 for S.findZ by S.findZ_eq
name_quick tw9594665118957945026 for S.findZ by S.findZ_eq
name_quick tw8176699006384315785 for S.findZ by S.findZ_eq
name_quick tw2711585505577850959 for S.findZ by S.findZ_eq
name_quick tw10470071008263537045 for S.findZ by S.findZ_eq
name_quick tw1156252341971683116 for S.findZ by S.findZ_eq
name_quick tw12392613427281201732 for S.findZ by S.findZ_eq
name_quick tw7009043117176579089 for S.findZ by S.findZ_eq
name_quick tw17000155066101142889 for S.findZ by S.findZ_eq
name_quick tw4978915544186085027 for S.findZ by S.findZ_eq
name_quick tw11108263761283441063 for S.findZ by S.findZ_eq
name_quick tw14884601019740666482 for S.findZ by S.findZ_eq
name_quick tw14553827428707814869 for S.findZ by S.findZ_eq
name_quick tw2478078296215019888 for S.findZ by S.findZ_eq
name_quick tw932993149863042379 for S.findZ by S.findZ_eq
name_quick tw1218959903707654005 for S.findZ by S.findZ_eq
name_quick tw11566699232636054958 for S.findZ by S.findZ_eq
name_quick tw721709456127091705 for S.findZ by S.findZ_eq
name_quick tw1749818173716722547 for S.findZ by S.findZ_eq
name_quick tw1333364371103165705 for S.findZ by S.findZ_eq
name_quick tw7269565832213808900 for S.findZ by S.findZ_eq
name_quick tw11788150170368784547 for S.findZ by S.findZ_eq
name_quick tw4071324889030633612 for S.findZ by S.findZ_eq
name_quick tw13789449189825218787 for S.findZ by S.findZ_eq
name_quick tw15168306246750427876 for S.findZ by S.findZ_eq
name_quick tw3820604794100220378 for S.findZ by S.findZ_eq
name_quick tw9979284746773624096 for S.findZ by S.findZ_eq
name_quick tw11420187438672877268 for S.findZ by S.findZ_eq
name_quick tw17000458434675057986 for S.findZ by S.findZ_eq
name_quick tw16947794391021106201 for S.findZ by S.findZ_eq
name_quick tw9151444980202551346 for S.findZ by S.findZ_eq
name_quick tw2408619945344806742 for S.findZ by S.findZ_eq
name_quick tw1503297043503765363 for S.findZ by S.findZ_eq
name_quick tw10007627690174824804 for S.findZ by S.findZ_eq
name_quick tw9800571698397750058 for S.findZ by S.findZ_eq
name_quick tw8708707556590381134 for S.findZ by S.findZ_eq
name_quick tw10833955939284561965 for S.findZ by S.findZ_eq
name_quick tw18345786424863182364 for S.findZ by S.findZ_eq
name_quick tw5591276700874282246 for S.findZ by S.findZ_eq
name_quick tw16349216596472256690 for S.findZ by S.findZ_eq
name_quick tw13180171748994924942 for S.findZ by S.findZ_eq
name_quick tw17497748084772794779 for S.findZ by S.findZ_eq
name_quick tw18416463498863911781 for S.findZ by S.findZ_eq
name_quick tw1772237422875290029 for S.findZ by S.findZ_eq
name_quick tw17434858337260393937 for S.findZ by S.findZ_eq
name_quick tw17476080006546285661 for S.findZ by S.findZ_eq
name_quick tw3264259588550801142 for S.findZ by S.findZ_eq
name_quick tw151948405760981731 for S.findZ by S.findZ_eq
name_quick tw5770868932273138760 for S.findZ by S.findZ_eq
name_quick tw16846860572762119324 for S.findZ by S.findZ_eq
name_quick tw6679490504615227074 for S.findZ by S.findZ_eq
name_quick tw7232422423428716515 for S.findZ by S.findZ_eq
name_quick tw219737044198020058 for S.findZ by S.findZ_eq
name_quick tw9674257727999782656 for S.findZ by S.findZ_eq
name_quick tw9011979029575296479 for S.findZ by S.findZ_eq
name_quick tw43969757491396457 for S.findZ by S.findZ_eq
name_quick tw1291980286583624508 for S.findZ by S.findZ_eq
name_quick tw15560500314895047343 for S.findZ by S.findZ_eq
name_quick tw1258717718454355964 for S.findZ by S.findZ_eq
name_quick tw282004115355043989 for S.findZ by S.findZ_eq
name_quick tw17804436615005485693 for S.findZ by S.findZ_eq
name_quick tw3856783459128436802 for S.findZ by S.findZ_eq
name_quick tw3093977132361051618 for S.findZ by S.findZ_eq
name_quick tw7275051467321613617 for S.findZ by S.findZ_eq
name_quick tw12233582284571471492 for S.findZ by S.findZ_eq
name_quick tw17730448691065144110 for S.findZ by S.findZ_eq
name_quick tw1829445100760108279 for S.findZ by S.findZ_eq
name_quick tw1184552218554016812 for S.findZ by S.findZ_eq
name_quick tw3766158894648301139 for S.findZ by S.findZ_eq
name_quick tw1355338860687761863 for S.findZ by S.findZ_eq
name_quick tw682011567655089306 for S.findZ by S.findZ_eq
name_quick tw11306939235166856333 for S.findZ by S.findZ_eq
name_quick tw4011157648589011858 for S.findZ by S.findZ_eq
name_quick tw12268644228514654432 for S.findZ by S.findZ_eq
name_quick tw460243522976405022 for S.findZ by S.findZ_eq
name_quick tw4407734736301137906 for S.findZ by S.findZ_eq
name_quick tw4434333111790514575 for S.findZ by S.findZ_eq
name_quick tw5978237884098788730 for S.findZ by S.findZ_eq
name_quick tw9787463984185863102 for S.findZ by S.findZ_eq
name_quick tw704327219915372674 for S.findZ by S.findZ_eq
name_quick tw18350330562280901221 for S.findZ by S.findZ_eq
name_quick tw14896874001708588922 for S.findZ by S.findZ_eq
name_quick tw9759809726879904816 for S.findZ by S.findZ_eq
name_quick tw5732905514179830355 for S.findZ by S.findZ_eq
name_quick tw7035115661146626270 for S.findZ by S.findZ_eq
name_quick tw14311459727803291754 for S.findZ by S.findZ_eq
name_quick tw13607416678640721797 for S.findZ by S.findZ_eq
name_quick tw13215998728584607739 for S.findZ by S.findZ_eq
name_quick tw9285146279643344392 for S.findZ by S.findZ_eq
name_quick tw11130039905162102590 for S.findZ by S.findZ_eq
name_quick tw18101931140130867144 for S.findZ by S.findZ_eq
name_quick tw10073347824450446311 for S.findZ by S.findZ_eq
name_quick tw15007238320947547705 for S.findZ by S.findZ_eq
name_quick tw1617757218408452269 for S.findZ by S.findZ_eq
name_quick tw951843321253372498 for S.findZ by S.findZ_eq
name_quick tw14386061602966655976 for S.findZ by S.findZ_eq
name_quick tw3891137856419664920 for S.findZ by S.findZ_eq
name_quick tw16966814322356759819 for S.findZ by S.findZ_eq
name_quick tw4658958612460137192 for S.findZ by S.findZ_eq
name_quick tw17964007177503468958 for S.findZ by S.findZ_eq
name_quick tw17888162413812561239 for S.findZ by S.findZ_eq
name_quick tw14537914154153760125 for S.findZ by S.findZ_eq
name_quick tw5882768191206486792 for S.findZ by S.findZ_eq
name_quick tw14108194823987119177 for S.findZ by S.findZ_eq
name_quick tw3577408171920636059 for S.findZ by S.findZ_eq
name_quick tw912392155897948271 for S.findZ by S.findZ_eq
name_quick tw17164873540382356111 for S.findZ by S.findZ_eq
name_quick tw18260038339965228139 for S.findZ by S.findZ_eq
name_quick tw14126943448341045398 for S.findZ by S.findZ_eq
name_quick tw6589095468515690095 for S.findZ by S.findZ_eq
name_quick tw11270796479367742343 for S.findZ by S.findZ_eq
name_quick tw10948738476641704880 for S.findZ by S.findZ_eq
name_quick tw17975652961387846372 for S.findZ by S.findZ_eq
name_quick tw8032284361305108907 for S.findZ by S.findZ_eq
name_quick tw15278061642289888581 for S.findZ by S.findZ_eq
name_quick tw3698559305507148144 for S.findZ by S.findZ_eq
name_quick tw5357591511691535388 for S.findZ by S.findZ_eq
name_quick tw17274371674624000324 for S.findZ by S.findZ_eq
name_quick tw14333388528381170442 for S.findZ by S.findZ_eq
name_quick tw11853533878840232495 for S.findZ by S.findZ_eq
name_quick tw12825359941727978080 for S.findZ by S.findZ_eq
name_quick tw3362959441861295915 for S.findZ by S.findZ_eq
name_quick tw8579058602437062094 for S.findZ by S.findZ_eq
name_quick tw4319705520415482375 for S.findZ by S.findZ_eq
name_quick tw16548257151911338427 for S.findZ by S.findZ_eq
name_quick tw16817318245366136608 for S.findZ by S.findZ_eq
name_quick tw6711915476519705758 for S.findZ by S.findZ_eq
name_quick tw15900120412870309639 for S.findZ by S.findZ_eq
name_quick tw4292500188555128830 for S.findZ by S.findZ_eq
name_quick tw7496433998918960881 for S.findZ by S.findZ_eq
name_quick tw17069979004554194336 for S.findZ by S.findZ_eq
name_quick tw14834023430324568649 for S.findZ by S.findZ_eq
name_quick tw13016732220969518872 for S.findZ by S.findZ_eq
name_quick tw5076957145309523181 for S.findZ by S.findZ_eq
name_quick tw15263041282635125899 for S.findZ by S.findZ_eq
name_quick tw12659028871203227004 for S.findZ by S.findZ_eq
name_quick tw9931943479562821362 for S.findZ by S.findZ_eq
name_quick tw136631920214876835 for S.findZ by S.findZ_eq
name_quick tw5721027456603625697 for S.findZ by S.findZ_eq
name_quick tw13317431791736044220 for S.findZ by S.findZ_eq
name_quick tw12290603225136948437 for S.findZ by S.findZ_eq
name_quick tw6122645084068987007 for S.findZ by S.findZ_eq
name_quick tw1537898542681612871 for S.findZ by S.findZ_eq
name_quick tw14714103240675001986 for S.findZ by S.findZ_eq
name_quick tw8860024209350480642 for S.findZ by S.findZ_eq
name_quick tw8719427161674164953 for S.findZ by S.findZ_eq
name_quick tw3778451253796500701 for S.findZ by S.findZ_eq
name_quick tw11333186260410459676 for S.findZ by S.findZ_eq
name_quick tw15423634916342008072 for S.findZ by S.findZ_eq
name_quick tw9501820088010722379 for S.findZ by S.findZ_eq
name_quick tw3282434896037501709 for S.findZ by S.findZ_eq
name_quick tw183835017167291270 for S.findZ by S.findZ_eq
name_quick tw4075660801711882420 for S.findZ by S.findZ_eq
name_quick tw2460228577881660442 for S.findZ by S.findZ_eq
name_quick tw5189142188285759775 for S.findZ by S.findZ_eq
name_quick tw16350708796919097252 for S.findZ by S.findZ_eq
name_quick tw724751600484774222 for S.findZ by S.findZ_eq
name_quick tw2283851925072248500 for S.findZ by S.findZ_eq
name_quick tw17954471519018878134 for S.findZ by S.findZ_eq
name_quick tw4302124980754421698 for S.findZ by S.findZ_eq
name_quick tw11588390666370768167 for S.findZ by S.findZ_eq
name_quick tw12734952128020822468 for S.findZ by S.findZ_eq
name_quick tw667198328695590252 for S.findZ by S.findZ_eq
name_quick tw10919533547850550483 for S.findZ by S.findZ_eq
name_quick tw1574873078441994576 for S.findZ by S.findZ_eq
name_quick tw2334299552400917057 for S.findZ by S.findZ_eq
name_quick tw16593013826814733010 for S.findZ by S.findZ_eq
name_quick tw15490439104401381959 for S.findZ by S.findZ_eq
name_quick tw16374537267813192141 for S.findZ by S.findZ_eq
name_quick tw10323183001455561277 for S.findZ by S.findZ_eq
name_quick tw3424931102881643321 for S.findZ by S.findZ_eq
name_quick tw5349121933718820234 for S.findZ by S.findZ_eq
name_quick tw17532440430192770315 for S.findZ by S.findZ_eq
name_quick tw2670528217467546775 for S.findZ by S.findZ_eq
name_quick tw11964429278604863157 for S.findZ by S.findZ_eq
name_quick tw2611137233208623240 for S.findZ by S.findZ_eq
name_quick tw3105397867545767578 for S.findZ by S.findZ_eq
name_quick tw1402947280878808549 for S.findZ by S.findZ_eq
name_quick tw16296994325663420285 for S.findZ by S.findZ_eq
name_quick tw3976722010076183465 for S.findZ by S.findZ_eq
name_quick tw1258299570235058372 for S.findZ by S.findZ_eq
name_quick tw17988542015724977305 for S.findZ by S.findZ_eq
name_quick tw17672482021469178181 for S.findZ by S.findZ_eq
name_quick tw5396446701170858492 for S.findZ by S.findZ_eq
name_quick tw3972328310683599613 for S.findZ by S.findZ_eq
name_quick tw9763268239775435451 for S.findZ by S.findZ_eq
name_quick tw14168537005229113720 for S.findZ by S.findZ_eq
name_quick tw7392212959928792091 for S.findZ by S.findZ_eq
name_quick tw8693227569615203950 for S.findZ by S.findZ_eq
name_quick tw3442601649717412197 for S.findZ by S.findZ_eq
name_quick tw14821650378409806113 for S.findZ by S.findZ_eq
name_quick tw8753696776887207221 for S.findZ by S.findZ_eq
name_quick tw6380047634161181297 for S.findZ by S.findZ_eq
name_quick tw14073706353221006472 for S.findZ by S.findZ_eq
name_quick tw13678640442995254988 for S.findZ by S.findZ_eq
name_quick tw11543547407058413889 for S.findZ by S.findZ_eq
name_quick tw11161088081135249708 for S.findZ by S.findZ_eq
name_quick tw1702518465993881591 for S.findZ by S.findZ_eq
name_quick tw6019396324639902685 for S.findZ by S.findZ_eq
name_quick tw6363645014702824404 for S.findZ by S.findZ_eq
name_quick tw17001327861769816259 for S.findZ by S.findZ_eq
name_quick tw14433975572909055671 for S.findZ by S.findZ_eq
name_quick tw3094477031063562474 for S.findZ by S.findZ_eq
name_quick tw17100903815162463580 for S.findZ by S.findZ_eq
name_quick tw15066959818950650227 for S.findZ by S.findZ_eq
name_quick tw4090926877573551719 for S.findZ by S.findZ_eq
name_quick tw12813236842856870187 for S.findZ by S.findZ_eq
name_quick tw13335737130258781183 for S.findZ by S.findZ_eq
name_quick tw12832477231654346042 for S.findZ by S.findZ_eq
name_quick tw313226197891681235 for S.findZ by S.findZ_eq
name_quick tw16018607276475445134 for S.findZ by S.findZ_eq
name_quick tw3152983702415266003 for S.findZ by S.findZ_eq
name_quick tw10942035263794033107 for S.findZ by S.findZ_eq
name_quick tw1706496860858754268 for S.findZ by S.findZ_eq
name_quick tw2862820112641550484 for S.findZ by S.findZ_eq
name_quick tw13254397897704925713 for S.findZ by S.findZ_eq
name_quick tw13776390136698705113 for S.findZ by S.findZ_eq
name_quick tw11625766737575182897 for S.findZ by S.findZ_eq
name_quick tw6550987210724342151 for S.findZ by S.findZ_eq
name_quick tw11186114360453789277 for S.findZ by S.findZ_eq
name_quick tw6434265647005701932 for S.findZ by S.findZ_eq
name_quick tw11445135464325071761 for S.findZ by S.findZ_eq
name_quick tw8098380416015320538 for S.findZ by S.findZ_eq
name_quick tw7401281599722004195 for S.findZ by S.findZ_eq
name_quick tw11310463157757771331 for S.findZ by S.findZ_eq
name_quick tw16697116713213952808 for S.findZ by S.findZ_eq
name_quick tw5345256250457102556 for S.findZ by S.findZ_eq
name_quick tw878741703135273975 for S.findZ by S.findZ_eq
name_quick tw1962928258387122110 for S.findZ by S.findZ_eq
name_quick tw16241802466949684156 for S.findZ by S.findZ_eq
name_quick tw9315938663221665524 for S.findZ by S.findZ_eq
name_quick tw10996506086634736982 for S.findZ by S.findZ_eq
name_quick tw6662432510661729299 for S.findZ by S.findZ_eq
name_quick tw12237943961548833269 for S.findZ by S.findZ_eq
name_quick tw13642483538084851733 for S.findZ by S.findZ_eq
name_quick tw15663404670287596823 for S.findZ by S.findZ_eq
name_quick tw8603108125212654177 for S.findZ by S.findZ_eq
name_quick tw11994158751524154303 for S.findZ by S.findZ_eq
name_quick tw4039474712603431140 for S.findZ by S.findZ_eq
name_quick tw13615603153576403970 for S.findZ by S.findZ_eq
name_quick tw11863081143760314161 for S.findZ by S.findZ_eq
name_quick tw10205541121877940668 for S.findZ by S.findZ_eq
name_quick tw7299303143086499733 for S.findZ by S.findZ_eq
name_quick tw7365555872484859036 for S.findZ by S.findZ_eq
name_quick tw17828083071136270317 for S.findZ by S.findZ_eq
name_quick tw8703263022893421829 for S.findZ by S.findZ_eq
name_quick tw6434138532213402376 for S.findZ by S.findZ_eq
name_quick tw3039592710220408265 for S.findZ by S.findZ_eq
name_quick tw2660918139993853925 for S.findZ by S.findZ_eq
name_quick tw7581352650102555174 for S.findZ by S.findZ_eq
name_quick tw9948023125614773506 for S.findZ by S.findZ_eq
name_quick tw4933834842325187142 for S.findZ by S.findZ_eq
name_quick tw10938465397075749097 for S.findZ by S.findZ_eq
name_quick tw11682084944484805031 for S.findZ by S.findZ_eq
name_quick tw17730428716208468724 for S.findZ by S.findZ_eq
name_quick tw14223099787259518943 for S.findZ by S.findZ_eq
name_quick tw17018628822417861297 for S.findZ by S.findZ_eq
name_quick tw15475462885187679331 for S.findZ by S.findZ_eq
name_quick tw3636048126100218174 for S.findZ by S.findZ_eq
name_quick tw15906958975208936175 for S.findZ by S.findZ_eq
name_quick tw5706481520468235054 for S.findZ by S.findZ_eq
name_quick tw8595292554425487202 for S.findZ by S.findZ_eq
name_quick tw12177639751122801600 for S.findZ by S.findZ_eq
name_quick tw11985326045990495214 for S.findZ by S.findZ_eq
name_quick tw6929956602132211858 for S.findZ by S.findZ_eq
name_quick tw16979880578912567463 for S.findZ by S.findZ_eq
name_quick tw13236226663087606529 for S.findZ by S.findZ_eq
name_quick tw17057272898397164401 for S.findZ by S.findZ_eq
name_quick tw7783732958741208154 for S.findZ by S.findZ_eq
name_quick tw392140993173905013 for S.findZ by S.findZ_eq
name_quick tw18056578402003937789 for S.findZ by S.findZ_eq
name_quick tw10029231156530900338 for S.findZ by S.findZ_eq
name_quick tw11636919720809706868 for S.findZ by S.findZ_eq
name_quick tw12371321757623732685 for S.findZ by S.findZ_eq
name_quick tw8537084889766193716 for S.findZ by S.findZ_eq
name_quick tw12172078356533094185 for S.findZ by S.findZ_eq
name_quick tw3131671291697673992 for S.findZ by S.findZ_eq
name_quick tw662354867322794072 for S.findZ by S.findZ_eq
name_quick tw15112985482279097393 for S.findZ by S.findZ_eq
name_quick tw12635297910168745909 for S.findZ by S.findZ_eq
name_quick tw18340240734955500558 for S.findZ by S.findZ_eq
name_quick tw13002492023102617099 for S.findZ by S.findZ_eq
name_quick tw13559156169165276386 for S.findZ by S.findZ_eq
name_quick tw12850107946570832962 for S.findZ by S.findZ_eq
name_quick tw4558998842232669794 for S.findZ by S.findZ_eq
name_quick tw7892128664451923741 for S.findZ by S.findZ_eq
name_quick tw347637069881736656 for S.findZ by S.findZ_eq
name_quick tw8400853705098224536 for S.findZ by S.findZ_eq
name_quick tw9951705424602377420 for S.findZ by S.findZ_eq
name_quick tw4552823106982906706 for S.findZ by S.findZ_eq
name_quick tw13759679279233594173 for S.findZ by S.findZ_eq
name_quick tw2039238271031011813 for S.findZ by S.findZ_eq
name_quick tw2447775223705975068 for S.findZ by S.findZ_eq
name_quick tw6448080314894763839 for S.findZ by S.findZ_eq
name_quick tw4679858250743294509 for S.findZ by S.findZ_eq
name_quick tw12329403913580668285 for S.findZ by S.findZ_eq
name_quick tw9908251947323293946 for S.findZ by S.findZ_eq
name_quick tw505943868828395459 for S.findZ by S.findZ_eq
name_quick tw6792406925840432001 for S.findZ by S.findZ_eq
name_quick tw9407582987413476825 for S.findZ by S.findZ_eq
name_quick tw7276740287692124622 for S.findZ by S.findZ_eq
name_quick tw10314498396905981064 for S.findZ by S.findZ_eq
name_quick tw9626621113073979434 for S.findZ by S.findZ_eq
name_quick tw1092655722715705105 for S.findZ by S.findZ_eq
name_quick tw15766043655864335149 for S.findZ by S.findZ_eq
name_quick tw14224011070414065920 for S.findZ by S.findZ_eq
name_quick tw5701610774189311196 for S.findZ by S.findZ_eq
name_quick tw6817277305950994716 for S.findZ by S.findZ_eq
name_quick tw12866136484021002089 for S.findZ by S.findZ_eq
name_quick tw11939915149646268982 for S.findZ by S.findZ_eq
name_quick tw8642067239939848140 for S.findZ by S.findZ_eq
name_quick tw5518745428033880147 for S.findZ by S.findZ_eq
name_quick tw4748654258956052638 for S.findZ by S.findZ_eq
name_quick tw7745614565497352828 for S.findZ by S.findZ_eq
name_quick tw6683783046931543321 for S.findZ by S.findZ_eq
name_quick tw8727135674562949291 for S.findZ by S.findZ_eq
name_quick tw470574548607681690 for S.findZ by S.findZ_eq
name_quick tw13900631225919944168 for S.findZ by S.findZ_eq
name_quick tw14023627001141898710 for S.findZ by S.findZ_eq
name_quick tw9862997608875712007 for S.findZ by S.findZ_eq
name_quick tw8376441433122354887 for S.findZ by S.findZ_eq
name_quick tw4980102563643897964 for S.findZ by S.findZ_eq
name_quick tw15894407043143930727 for S.findZ by S.findZ_eq
name_quick tw12635813782599140982 for S.findZ by S.findZ_eq
name_quick tw4224760802259116069 for S.findZ by S.findZ_eq
name_quick tw13036272033356848781 for S.findZ by S.findZ_eq
name_quick tw13981391230805400906 for S.findZ by S.findZ_eq
name_quick tw10227693086864044499 for S.findZ by S.findZ_eq
name_quick tw14326252917377295143 for S.findZ by S.findZ_eq
name_quick tw6654550962395885724 for S.findZ by S.findZ_eq
name_quick tw16414604833108395602 for S.findZ by S.findZ_eq
name_quick tw17614413878374492980 for S.findZ by S.findZ_eq
name_quick tw15450981722951097364 for S.findZ by S.findZ_eq
name_quick tw7788680626742099145 for S.findZ by S.findZ_eq
name_quick tw5200128776193632040 for S.findZ by S.findZ_eq
name_quick tw1377046205977697930 for S.findZ by S.findZ_eq
name_quick tw387338674003428930 for S.findZ by S.findZ_eq
name_quick tw5135500740108067664 for S.findZ by S.findZ_eq
name_quick tw3880421473898291048 for S.findZ by S.findZ_eq
name_quick tw15480198773659482676 for S.findZ by S.findZ_eq
name_quick tw16049961110935095269 for S.findZ by S.findZ_eq
name_quick tw7650934615059315214 for S.findZ by S.findZ_eq
name_quick tw9529234661008812162 for S.findZ by S.findZ_eq
name_quick tw18211773271919218964 for S.findZ by S.findZ_eq
name_quick tw17863021456227041891 for S.findZ by S.findZ_eq
name_quick tw15742981410569661332 for S.findZ by S.findZ_eq
name_quick tw10317580896714288900 for S.findZ by S.findZ_eq
name_quick tw4775785305629353868 for S.findZ by S.findZ_eq
name_quick tw14530364306720264245 for S.findZ by S.findZ_eq
name_quick tw3764465048917985505 for S.findZ by S.findZ_eq
name_quick tw17279654841073493023 for S.findZ by S.findZ_eq
name_quick tw10424941004445345732 for S.findZ by S.findZ_eq
name_quick tw16176465441171805009 for S.findZ by S.findZ_eq
namespace Mine
open_top hd for PySem.Challenge.rw_kl0478_01
section
noncomputable abbrev PR : Program := PySem.Challenge.rw_kl0478_01.row.prog
/-- what a call of the def at f upon vs gives, from any frame of a def's -/
abbrev Gives (w : World) (p : Program) (loose : List Str) (mean : ExcName → Option Value) (mg mb : Str → Option Value) (f : Addr) (D U : Nat)
    (news : List (Addr × Obj)) (vs : List Value) (Ret : Value → List (Addr × Obj) → Prop) : Prop :=
  ∀ (dp un : Nat) (gd : Option (List Code)) (cn : Str) (cs : Scope) (a : Addr) (ccd : Value) (cl : List (Str × Addr)) (outer : List Env) (A₀ : Around) (base h₀ : Heap) (L : Addr) (m : Str → Option Value) (s : Shared) (Q E : Value → Shared → Prop),
    Below A₀ base outer h₀ → Fr h₀ L s.heap m → (Mine.hd.heap_39 w.params).In h₀ → News h₀ L s.heap news → Top p loose mean mg mb h₀ → cs.kind = .function →
    dp + D < recursionLimit → un + U < cLine →
    (∀ (r : Value) (news' : List (Addr × Obj)) (h' : Heap) (tk' : Nat), Fr h₀ L h' m → News h₀ L h' news' → Ret r news' → Q r { s with heap := h', toks := tk' }) →
    wpAny (model PR w) (ktrTop dp un gd cn cs L a ccd cl outer) (call (.ref f) vs) Q E s
end
section
-- long sums of existence and conjunction are taken apart in blocks: a casesOn for each is quadratic in size
theorem ex4 {α1 α2 α3 α4 : Type} {p : α1 → α2 → α3 → α4 → Prop} {P : Prop} (k : ∀ x1 x2 x3 x4, p x1 x2 x3 x4 → P) (h : ∃ x1 x2 x3 x4, p x1 x2 x3 x4) : P := by
  obtain ⟨x1, x2, x3, x4, h⟩ := h
  exact k x1 x2 x3 x4 h
theorem ex5 {α1 α2 α3 α4 α5 : Type} {p : α1 → α2 → α3 → α4 → α5 → Prop} {P : Prop} (k : ∀ x1 x2 x3 x4 x5, p x1 x2 x3 x4 x5 → P) (h : ∃ x1 x2 x3 x4 x5, p x1 x2 x3 x4 x5) : P := by
  obtain ⟨x1, x2, x3, x4, x5, h⟩ := h
  exact k x1 x2 x3 x4 x5 h
theorem ex6 {α1 α2 α3 α4 α5 α6 : Type} {p : α1 → α2 → α3 → α4 → α5 → α6 → Prop} {P : Prop} (k : ∀ x1 x2 x3 x4 x5 x6, p x1 x2 x3 x4 x5 x6 → P) (h : ∃ x1 x2 x3 x4 x5 x6, p x1 x2 x3 x4 x5 x6) : P := by
  obtain ⟨x1, x2, x3, x4, x5, x6, h⟩ := h
  exact k x1 x2 x3 x4 x5 x6 h
theorem ex7 {α1 α2 α3 α4 α5 α6 α7 : Type} {p : α1 → α2 → α3 → α4 → α5 → α6 → α7 → Prop} {P : Prop} (k : ∀ x1 x2 x3 x4 x5 x6 x7, p x1 x2 x3 x4 x5 x6 x7 → P) (h : ∃ x1 x2 x3 x4 x5 x6 x7, p x1 x2 x3 x4 x5 x6 x7) : P := by
  obtain ⟨x1, x2, x3, x4, x5, x6, x7, h⟩ := h
  exact k x1 x2 x3 x4 x5 x6 x7 h
theorem ex8 {α1 α2 α3 α4 α5 α6 α7 α8 : Type} {p : α1 → α2 → α3 → α4 → α5 → α6 → α7 → α8 → Prop} {P : Prop} (k : ∀ x1 x2 x3 x4 x5 x6 x7 x8, p x1 x2 x3 x4 x5 x6 x7 x8 → P) (h : ∃ x1 x2 x3 x4 x5 x6 x7 x8, p x1 x2 x3 x4 x5 x6 x7 x8) : P := by
  obtain ⟨x1, x2, x3, x4, x5, x6, x7, x8, h⟩ := h
  exact k x1 x2 x3 x4 x5 x6 x7 x8 h
theorem an2 {a1 a2 P : Prop} (k : a1 → a2 → P) (h : a1 ∧ a2) : P := k (h.1) (h.2)
theorem an3 {a1 a2 a3 P : Prop} (k : a1 → a2 → a3 → P) (h : a1 ∧ a2 ∧ a3) : P := k (h.1) (h.2.1) (h.2.2)
theorem an4 {a1 a2 a3 a4 P : Prop} (k : a1 → a2 → a3 → a4 → P) (h : a1 ∧ a2 ∧ a3 ∧ a4) : P := k (h.1) (h.2.1) (h.2.2.1) (h.2.2.2)
theorem an5 {a1 a2 a3 a4 a5 P : Prop} (k : a1 → a2 → a3 → a4 → a5 → P) (h : a1 ∧ a2 ∧ a3 ∧ a4 ∧ a5) : P := k (h.1) (h.2.1) (h.2.2.1) (h.2.2.2.1) (h.2.2.2.2)
theorem an6 {a1 a2 a3 a4 a5 a6 P : Prop} (k : a1 → a2 → a3 → a4 → a5 → a6 → P) (h : a1 ∧ a2 ∧ a3 ∧ a4 ∧ a5 ∧ a6) : P := k (h.1) (h.2.1) (h.2.2.1) (h.2.2.2.1) (h.2.2.2.2.1) (h.2.2.2.2.2)
theorem an7 {a1 a2 a3 a4 a5 a6 a7 P : Prop} (k : a1 → a2 → a3 → a4 → a5 → a6 → a7 → P) (h : a1 ∧ a2 ∧ a3 ∧ a4 ∧ a5 ∧ a6 ∧ a7) : P := k (h.1) (h.2.1) (h.2.2.1) (h.2.2.2.1) (h.2.2.2.2.1) (h.2.2.2.2.2.1) (h.2.2.2.2.2.2)
theorem an8 {a1 a2 a3 a4 a5 a6 a7 a8 P : Prop} (k : a1 → a2 → a3 → a4 → a5 → a6 → a7 → a8 → P) (h : a1 ∧ a2 ∧ a3 ∧ a4 ∧ a5 ∧ a6 ∧ a7 ∧ a8) : P := k (h.1) (h.2.1) (h.2.2.1) (h.2.2.2.1) (h.2.2.2.2.1) (h.2.2.2.2.2.1) (h.2.2.2.2.2.2.1) (h.2.2.2.2.2.2.2)
theorem use1 {a P : Prop} (h : a) (k : a → P) : P := k h
end
section
open PySem.Calls PySem.Spec
section
variable {prog : Program} {w : World} {A : Around} {E : Value → Shared → Prop} {s : Shared} {h₀ : Heap} {L : Addr} {m : Str → Option Value} {news : List (Addr × Obj)}

/-- a list's iterator that has given k items -/
abbrev liObj (l : Addr) (k : Nat) : Obj := { cls := .type "list_iterator", dict := none, data := .fields #[.ref l, .int k 0], slots := #[] }

theorem next_item {it l : Addr} {k : Nat} {items : Array Value} {c : Nat} {x : Value} {Q : Value → Shared → Prop} {hp : Heap} {g : Array GenState} {d : Drawn} {tk : Nat} {os : OsState}
    (hit : hp.get? it = some (liObj l k)) (hl : hp.get? l = some (listOf items c)) (hx : items[k]? = some x)
    (h : Q x ⟨hp.update it (Obj.mapFields (·.setIfInBounds 1 (rawInt ((k : Int) + 1)))), g, d, tk, os⟩) :
    wpAny (model prog w) A (call (.builtin "next") [.ref it]) Q E ⟨hp, g, d, tk, os⟩ := by
  have hit' : hp.IsListIter it l k := ⟨_, hit, rfl, rfl⟩
  refine call_function_entry (by decide +kernel) (by decide +kernel) kdk_entry_next (kdk_args_next _) ?_
  unfold Builtin.«next»
  refine wpAny_bind (m := someArgs "next" 1 2 _) (wpAny_of_eq (a := [Value.ref it]) (by first | rfl | kernel_rfl!) ?_)
  dsimp only
  refine wpAny_bind (wpAny_specialOf (s := ⟨hp, g, d, tk, os⟩) (name := Str.ofString "__next__") (Heap.IsListIter.typeIs (s := ⟨hp, g, d, tk, os⟩) hit') slot_listiter_next.lookup ?_)
  refine wpAny_ite_split (fun hab => absurd hab (by decide)) (fun _ => ?_)
  refine wpAny_bind (wpAny_callSpecial?_slot (s := ⟨hp, g, d, tk, os⟩) (name := Str.ofString "__next__") (Heap.IsListIter.typeIs (s := ⟨hp, g, d, tk, os⟩) hit') slot_listiter_next
    (wpAny_call_entry slot_listiter_next (Heap.IsListIter.typeIs (s := ⟨hp, g, d, tk, os⟩) hit') entry_listiter_next ?_ (args_listiter_next _)))
  show wpAny _ _ (field (.ref it) 0 >>= _) _ _ _
  refine wpAny_bind (wpAny_field hit rfl (x := .ref l) rfl ?_)
  show wpAny _ _ (if (Value.ref l == Value.none) = true then _ else _) _ _ _
  rw [if_neg (show ¬ ((Value.ref l == Value.none) = true) from Bool.false_ne_true)]
  show wpAny _ _ (field (.ref it) 1 >>= _) _ _ _
  refine wpAny_bind (wpAny_field hit rfl (x := .int k 0) rfl ?_)
  show wpAny _ _ (seqItems? (.ref l) >>= _) _ _ _
  refine wpAny_bind (wpAny_seqItems hl rfl ?_)
  simp only [Int.toNat_natCast, hx]
  refine wpAny_bind (wpAny_setField hit rfl (by simp) (wpAny_pure ⟨x, rfl, wpAny_pure ⟨_, rfl, h⟩⟩))

theorem next_end {it l : Addr} {k : Nat} {items : Array Value} {c : Nat} {Q : Value → Shared → Prop} {hp : Heap} {g : Array GenState} {d : Drawn} {tk : Nat} {os : OsState} (hh : A.handled = none)
    (hit : hp.get? it = some (liObj l k)) (hl : hp.get? l = some (listOf items c)) (hx : items[k]? = none)
    (h : ∀ h' e, Heap.NewExc (hp.update it (Obj.mapFields (·.setIfInBounds 0 .none))) h' e "StopIteration" → E (.ref e) ⟨h', g, d, tk, os⟩) :
    wpAny (model prog w) A (call (.builtin "next") [.ref it]) Q E ⟨hp, g, d, tk, os⟩ := by
  have hit' : hp.IsListIter it l k := ⟨_, hit, rfl, rfl⟩
  refine call_function_entry (by decide +kernel) (by decide +kernel) kdk_entry_next (kdk_args_next _) ?_
  unfold Builtin.«next»
  refine wpAny_bind (m := someArgs "next" 1 2 _) (wpAny_of_eq (a := [Value.ref it]) (by first | rfl | kernel_rfl!) ?_)
  dsimp only
  refine wpAny_bind (wpAny_specialOf (s := ⟨hp, g, d, tk, os⟩) (name := Str.ofString "__next__") (Heap.IsListIter.typeIs (s := ⟨hp, g, d, tk, os⟩) hit') slot_listiter_next.lookup ?_)
  refine wpAny_ite_split (fun hab => absurd hab (by decide)) (fun _ => ?_)
  refine wpAny_bind (wpAny_callSpecial?_slot (s := ⟨hp, g, d, tk, os⟩) (name := Str.ofString "__next__") (Heap.IsListIter.typeIs (s := ⟨hp, g, d, tk, os⟩) hit') slot_listiter_next
    (wpAny_call_entry slot_listiter_next (Heap.IsListIter.typeIs (s := ⟨hp, g, d, tk, os⟩) hit') entry_listiter_next ?_ (args_listiter_next _)))
  show wpAny _ _ (field (.ref it) 0 >>= _) _ _ _
  refine wpAny_bind (wpAny_field hit rfl (x := .ref l) rfl ?_)
  show wpAny _ _ (if (Value.ref l == Value.none) = true then _ else _) _ _ _
  rw [if_neg (show ¬ ((Value.ref l == Value.none) = true) from Bool.false_ne_true)]
  show wpAny _ _ (field (.ref it) 1 >>= _) _ _ _
  refine wpAny_bind (wpAny_field hit rfl (x := .int k 0) rfl ?_)
  show wpAny _ _ (seqItems? (.ref l) >>= _) _ _ _
  refine wpAny_bind (wpAny_seqItems hl rfl ?_)
  simp only [Int.toNat_natCast, hx]
  refine wpAny_bind (wpAny_rule (wpAny_bind (wpAny_setField hit rfl (by simp) ?_)))
  show wpAny _ _ (newExc (.type "StopIteration") [] >>= _) _ _ _
  refine wpAny_bind ?_
  simp only [newExc, newTuple]
  refine wpAny_bind (wpAny_newObj_type ?_ (by size_fits))
  refine wpAny_bind (m := firstArgMember _ _) (wpAny_of_eq (a := Value.none) (by first | rfl | (simp only [firstArgMember]; rfl)) ?_)
  refine wpAny_newObj_type ?_ (by size_fits)
  simp only [raiseNew]
  refine wpAny_bind (wpAny_handled ?_)
  rw [show A.in1.in1.handled = none from hh]
  refine wpAny_bind (wpAny_pure (wpAny_throw ?_))
  refine h _ _ ⟨fun b o e => Heap.get?_push_of_some _ (Heap.get?_push_of_some _ e), ?_, ?_⟩
  · cases q : (hp.update it (Obj.mapFields (·.setIfInBounds 0 .none))).get? _ with
    | none => rfl
    | some o =>
      have := Heap.lt_size q
      exact absurd this (by rw [Heap.size_push]; exact Nat.not_lt.mpr (Nat.le_succ _))
  · exact ⟨_, _, Heap.get?_push_size _ rfl, rfl, rfl⟩

theorem next_N {it l : Addr} {k : Nat} {items : Array Value} {c : Nat} {x : Value} {Q : Value → Shared → Prop} {rest : List (Addr × Obj)}
    (F : Fr h₀ L s.heap m) (N : News h₀ L s.heap ((it, liObj l k) :: rest)) (hl : (l, listOf items c) ∈ rest) (hne : ∀ p ∈ rest, p.1 ≠ it) (hx : items[k]? = some x)
    (h : ∀ h', Fr h₀ L h' m → News h₀ L h' ((it, liObj l (k + 1)) :: rest) → Q x { s with heap := h' }) :
    wpAny (model prog w) A (call (.builtin "next") [.ref it]) Q E s := by
  obtain ⟨hp, g, d, tk, os⟩ := s
  have hm := N (it, liObj l k) (.head _)
  refine next_item hm.1 (N (l, listOf items c) (.tail _ hl)).1 hx (h _ (F.change (Heap.SameBut.update ..) hm.2.1 hm.2.2) ?_)
  exact News.setIn (own := []) N (fun _ h => nomatch h) hne (Heap.SameBut.update ..) (by rw [Heap.get?_update_self _ hm.1 rfl]; rfl)

theorem next_E {it l : Addr} {k : Nat} {items : Array Value} {c : Nat} {Q : Value → Shared → Prop} {rest : List (Addr × Obj)} (hh : A.handled = none)
    (F : Fr h₀ L s.heap m) (N : News h₀ L s.heap ((it, liObj l k) :: rest)) (hl : (l, listOf items c) ∈ rest) (hne : ∀ p ∈ rest, p.1 ≠ it) (hx : items[k]? = none)
    (h : ∀ h₁ h' e, Fr h₀ L h₁ m → News h₀ L h₁ rest → Heap.NewExc h₁ h' e "StopIteration" → E (.ref e) { s with heap := h' }) :
    wpAny (model prog w) A (call (.builtin "next") [.ref it]) Q E s := by
  obtain ⟨hp, g, d, tk, os⟩ := s
  have hm := N (it, liObj l k) (.head _)
  refine next_end hh hm.1 (N (l, listOf items c) (.tail _ hl)).1 hx fun h' e he => h _ h' e (F.change (Heap.SameBut.update ..) hm.2.1 hm.2.2) (fun p hp' => ?_) he
  have := N p (.tail _ hp')
  exact ⟨(Heap.get?_update_ne _ _ _ _ (hne p hp')).trans this.1, this.2⟩
theorem iter_N {l : Addr} {items : Array Value} {c : Nat} {Q : Value → Shared → Prop}
    (F : Fr h₀ L s.heap m) (N : News h₀ L s.heap news) (hl : (l, listOf items c) ∈ news)
    (h : ∀ it h', Fr h₀ L h' m → News h₀ L h' ((it, liObj l 0) :: news) → (∀ p ∈ news, p.1 < it) → Q (.ref it) { s with heap := h' }) :
    wpAny (model prog w) A (call (.builtin "iter") [.ref l]) Q E s := by
  refine call_function_entry (by decide +kernel) (by decide +kernel) kdk_entry_iter (kdk_args_iter _) ?_
  unfold Builtin.«iter»
  refine wpAny_bind (m := someArgs "iter" 1 2 _) (wpAny_of_eq (a := [Value.ref l]) (by first | rfl | kernel_rfl!) ?_)
  show wpAny _ _ (pyIter (.ref l) >>= _) _ _ _
  refine wpAny_bind (wpAny_pyIter_list ⟨_, (N _ hl).1, rfl, _, rfl⟩ ?_)
  exact wpAny_pure ⟨_, rfl, h _ _ (F.push _) (News.push F N _ rfl) (fun q hq => Heap.lt_size (N q hq).1)⟩
theorem fr_put1 {h : Heap} {x : Str} {v : Value} (F : Fr h₀ L h m) (e0 : m x = some v) : Fr h₀ L h (fun q => if q = x then some v else m q) := by
  have : (fun q => if q = x then some v else m q) = m := by
    funext q
    (repeat' split) <;> simp_all
  rw [this]
  exact F
theorem fr_put2 {h : Heap} {x y : Str} {v u : Value} (F : Fr h₀ L h m) (e0 : m x = some v) (e1 : m y = some u) : Fr h₀ L h (fun q => if q = x then some v else if q = y then some u else m q) := by
  have : (fun q => if q = x then some v else if q = y then some u else m q) = m := by
    funext q
    (repeat' split) <;> simp_all
  rw [this]
  exact F
theorem fr_put3 {h : Heap} {x y z : Str} {v u t : Value} (F : Fr h₀ L h m) (e0 : m x = some v) (e1 : m y = some u) (e2 : m z = some t) : Fr h₀ L h (fun q => if q = x then some v else if q = y then some u else if q = z then some t else m q) := by
  have : (fun q => if q = x then some v else if q = y then some u else if q = z then some t else m q) = m := by
    funext q
    (repeat' split) <;> simp_all
  rw [this]
  exact F
theorem fr_put4 {h : Heap} {x y z a : Str} {v u t i : Value} (F : Fr h₀ L h m) (e0 : m x = some v) (e1 : m y = some u) (e2 : m z = some t) (e3 : m a = some i) : Fr h₀ L h (fun q => if q = x then some v else if q = y then some u else if q = z then some t else if q = a then some i else m q) := by
  have : (fun q => if q = x then some v else if q = y then some u else if q = z then some t else if q = a then some i else m q) = m := by
    funext q
    (repeat' split) <;> simp_all
  rw [this]
  exact F
theorem fr_put5 {h : Heap} {x y z a b : Str} {v u t i j : Value} (F : Fr h₀ L h m) (e0 : m x = some v) (e1 : m y = some u) (e2 : m z = some t) (e3 : m a = some i) (e4 : m b = some j) : Fr h₀ L h (fun q => if q = x then some v else if q = y then some u else if q = z then some t else if q = a then some i else if q = b then some j else m q) := by
  have : (fun q => if q = x then some v else if q = y then some u else if q = z then some t else if q = a then some i else if q = b then some j else m q) = m := by
    funext q
    (repeat' split) <;> simp_all
  rw [this]
  exact F
theorem fr_put6 {h : Heap} {x y z a b c : Str} {v u t i j k : Value} (F : Fr h₀ L h m) (e0 : m x = some v) (e1 : m y = some u) (e2 : m z = some t) (e3 : m a = some i) (e4 : m b = some j) (e5 : m c = some k) : Fr h₀ L h (fun q => if q = x then some v else if q = y then some u else if q = z then some t else if q = a then some i else if q = b then some j else if q = c then some k else m q) := by
  have : (fun q => if q = x then some v else if q = y then some u else if q = z then some t else if q = a then some i else if q = b then some j else if q = c then some k else m q) = m := by
    funext q
    (repeat' split) <;> simp_all
  rw [this]
  exact F
theorem fr_put7 {h : Heap} {x y z a b c d : Str} {v u t i j k l : Value} (F : Fr h₀ L h m) (e0 : m x = some v) (e1 : m y = some u) (e2 : m z = some t) (e3 : m a = some i) (e4 : m b = some j) (e5 : m c = some k) (e6 : m d = some l) : Fr h₀ L h (fun q => if q = x then some v else if q = y then some u else if q = z then some t else if q = a then some i else if q = b then some j else if q = c then some k else if q = d then some l else m q) := by
  have : (fun q => if q = x then some v else if q = y then some u else if q = z then some t else if q = a then some i else if q = b then some j else if q = c then some k else if q = d then some l else m q) = m := by
    funext q
    (repeat' split) <;> simp_all
  rw [this]
  exact F
end
end
section
example (P : Params) : (PySem.Challenge.rw_kl0478_01, Mine.hd.heap_39 P) = (PySem.Challenge.rw_kl0478_01, Mine.hd.heap_39 P) := by
  k_fill
  rfl
theorem bits_tab : ∀ b : Fin 256, Builtin.bitAnd ((b.val : Nat) : Int) 63 = ((b.val % 64 : Nat) : Int) ∧ Builtin.bitAnd ((b.val : Nat) : Int) 64 = ((b.val / 64 % 2 * 64 : Nat) : Int) := by decide +kernel
theorem and63 {b : Int} (h0 : 0 ≤ b) (h1 : b < 256) : Builtin.bitAnd b 63 = b % 64 := by
  have := (bits_tab ⟨b.toNat, by omega⟩).1
  simp only at this
  rw [show ((b.toNat : Nat) : Int) = b from by omega] at this
  rw [this]; omega
theorem and64 {b : Int} (h0 : 0 ≤ b) (h1 : b < 256) : Builtin.bitAnd b 64 = b / 64 % 2 * 64 := by
  have := (bits_tab ⟨b.toNat, by omega⟩).2
  simp only at this
  rw [show ((b.toNat : Nat) : Int) = b from by omega] at this
  rw [this]; omega
theorem bitOr_nat (x y : Nat) : Builtin.bitOr (x : Int) (y : Int) = ((x ||| y : Nat) : Int) := by
  unfold Builtin.bitOr Builtin.bitAnd Builtin.bitNot
  have h1 : decide (0 ≤ -(x : Int) - 1) = false := decide_eq_false (by omega)
  have h2 : decide (0 ≤ -(y : Int) - 1) = false := decide_eq_false (by omega)
  rw [h1, h2]
  simp only
  have e1 : (-(-(x : Int) - 1) - 1).toNat = x := by omega
  have e2 : (-(-(y : Int) - 1) - 1).toNat = y := by omega
  rw [e1, e2]
  omega
theorem or6 {v d : Int} (hv : 0 ≤ v) (h0 : 0 ≤ d) (h1 : d < 256) : Builtin.bitOr (v * 2 ^ Int.toNat 6) (Builtin.bitAnd d 63) = v * 64 + d % 64 := by
  rw [and63 h0 h1, show (2 : Int) ^ Int.toNat 6 = 64 from rfl]
  obtain ⟨x, rfl⟩ : ∃ x : Nat, v = x := ⟨v.toNat, by omega⟩
  obtain ⟨y, rfl⟩ : ∃ y : Nat, d = y := ⟨d.toNat, by omega⟩
  rw [show ((x : Int) * 64) = ((2 ^ 6 * x : Nat) : Int) from by omega, show ((y : Int) % 64) = ((y % 64 : Nat) : Int) from by omega, bitOr_nat, ← Nat.two_pow_add_eq_or_of_lt (by omega : y % 64 < 2 ^ 6)]
  omega
/-- a number's octets are read on: v so far, b the last one, R what is left -/
inductive Vi : Int → Int → List Int → Int → List Int → Prop
  | done {v b : Int} {R : List Int} : 0 ≤ b → b < 256 → b / 64 % 2 = 0 → Vi v b R v R
  | more {v b d res : Int} {R r : List Int} : 0 ≤ b → b < 256 → b / 64 % 2 = 1 → 0 ≤ v → v < 2 ^ 40 → 0 ≤ d → d < 256 → Vi (v * 64 + d % 64) d R res r → Vi v b (d :: R) res r

theorem varint (w : World) (p : Program) (loose : List Str) (mean : ExcName → Option Value) (mg mb : Str → Option Value) (news : List (Addr × Obj)) (it l : Addr) (c0 k : Nat) (vs : List Value) (ns : List Int) (hi : IntsAre vs ns) 
   (b res : Int) (R r : List Int) (hR : ns.drop k = b :: R) (hv : Vi (b % 64) b R res r) (hb0 : 0 ≤ b) (hb1 : b < 256)
   (hne : ∀ p ∈ ((l, listOf vs.toArray c0) :: news), p.1 ≠ it) :
    Gives w p loose mean mg mb 201 9 99 ((it, liObj l k) :: (l, listOf vs.toArray c0) :: news) [.ref it] (fun v nx => ∃ t, v = .int res t ∧ nx = (it, liObj l (ns.length - r.length)) :: (l, listOf vs.toArray c0) :: news) := by
  w_on
  intro dp un gd cn cs a ccd cl outer A₀ base h₀ L m s Q E B F X N T hk hd hu hret
  refine wpAny_call ?_
  k_dflt cell_enter
  have hx0 : ns[k]? = some b := by rw [← List.head?_drop, hR]; rfl
  obtain ⟨tx, hx1⟩ := hi.get k b hx0
  have hx : vs.toArray[k]? = some (.int b tx) := by simpa using hx1
  repeat' (first | (k_unfold; (try dsimp only)) | ((fail_if_success (with_reducible show wpAny _ _ (exec (Stmt.While _ _ _ _) _) _ _ _)); (first | ((fail_if_success (fail_if_success (with_reducible show wpAny _ _ (call (Value.builtin _) _ _) _ _ _))); k_here; ((with_reducible show wpAny _ _ (call (Value.builtin "next") [Value.ref _]) _ _ _); refine' next_N (by k_asm) (by k_asm) (by k_mem) (by assumption) (by assumption) ?_; k_whole; intro _ _ _)) | walk1)) | (leave1; try dsimp only))
  clear hx hx1 hx0
  have hkl : k + 1 ≤ ns.length := by
    have := congrArg List.length hR
    simp only [List.length_drop, List.length_cons] at this
    omega
  rename Fr _ _ _ _ => lF'
  rename News _ _ _ _ => lN'
  refine' While_inv2 (fun n m nx => ∃ (v b : Int) (R : List Int) (tv tb : Tok) (j : Nat), m (Str.ofString "val") = some (.int v tv) ∧ m (Str.ofString "b") = some (.int b tb) ∧ m (Str.ofString "iterator") = some (.ref it) ∧ nx = ((it, liObj l j) :: (l, listOf vs.toArray c0) :: news) ∧ n = R.length ∧ ns.drop j = R ∧ j ≤ ns.length ∧ Vi v b R res r) ?kF ?kN ?kJ ?kT ?kE
  case kE => passes_own
  case kF => exact lF'
  case kN => exact lN'
  case kJ => exact ⟨_, b, R, _, _, _, by rw [← and63 hb0 hb1]; rfl, rfl, rfl, rfl, rfl, by rw [← List.drop_drop, hR]; rfl, hkl, hv⟩
  clear lF' lN' hv hR R hb0 hb1
  rintro n m₁ nx h₁ tk₁ F₁ N₁ ⟨v, b, R, tv, tb, j, e1, e2, e3, rfl, rfl, hR, hj, hv⟩
  have F₂ := fr_put3 F₁ e1 e2 e3
  clear F₁
  cases hv with
  | done hb0 hb1 hb =>
    repeat' (first | (k_unfold; (try dsimp only); (try (clear ek)); (try (clear qk))) | ((fail_if_success (fail_if_success (with_reducible show wpAny _ _ (execs (_ :: _) _) _ _ _))); k_fold) | (k_end; wrow_close) | ((fail_if_success (fail_if_success (with_reducible show wpAny _ _ (call (Value.builtin _) _ _) _ _ _))); k_here; ((with_reducible show wpAny _ _ (call (Value.builtin "next") [Value.ref _]) _ _ _); refine' next_N (by k_asm) (by k_asm) (by k_mem) (by assumption) (by assumption) ?_; k_whole; intro _ _ _)) | walk1 | (dsimp only; (first | ((fail_if_success (fail_if_success (with_reducible show wpAny _ _ (call (Value.builtin _) _ _) _ _ _))); k_here; ((with_reducible show wpAny _ _ (call (Value.builtin "next") [Value.ref _]) _ _ _); refine' next_N (by k_asm) (by k_asm) (by k_mem) (by assumption) (by assumption) ?_; k_whole; intro _ _ _)) | walk1)) | (leave1; (try dsimp only)) | fail "no step")
    · exact absurd (by rw [and64 hb0 hb1, hb]; rfl) ‹Builtin.bitAnd b 64 ≠ 0›
    · refine hret _ _ _ _ (by k_asm) (by k_asm) ⟨_, rfl, ?_⟩
      have := congrArg List.length hR
      rw [List.length_drop] at this
      rw [show ns.length - r.length = j from by omega]
  | @more _ _ d _ R' _ hb0 hb1 hb hv0 hv1 hd0 hd1 hv =>
    have hx0 : ns[j]? = some d := by rw [← List.head?_drop, hR]; rfl
    obtain ⟨tx, hx1⟩ := hi.get j d hx0
    have hx : vs.toArray[j]? = some (.int d tx) := by simpa using hx1
    repeat' (first | (k_unfold; (try dsimp only); (try (clear ek)); (try (clear qk))) | ((fail_if_success (fail_if_success (with_reducible show wpAny _ _ (execs (_ :: _) _) _ _ _))); k_fold) | (k_end; wrow_close) | ((fail_if_success (fail_if_success (with_reducible show wpAny _ _ (call (Value.builtin _) _ _) _ _ _))); k_here; ((with_reducible show wpAny _ _ (call (Value.builtin "next") [Value.ref _]) _ _ _); refine' next_N (by k_asm) (by k_asm) (by k_mem) (by assumption) (by assumption) ?_; k_whole; intro _ _ _)) | walk1 | (dsimp only; (first | ((fail_if_success (fail_if_success (with_reducible show wpAny _ _ (call (Value.builtin _) _ _) _ _ _))); k_here; ((with_reducible show wpAny _ _ (call (Value.builtin "next") [Value.ref _]) _ _ _); refine' next_N (by k_asm) (by k_asm) (by k_mem) (by assumption) (by assumption) ?_; k_whole; intro _ _ _)) | walk1)) | (leave1; (try dsimp only)) | fail "no step")
    · refine ⟨_, _, _, _, R'.length, rfl, by k_asm, by k_asm, Nat.lt_succ_self _, _, d, R', _, _, j + 1, rfl, rfl, rfl, rfl, rfl, ?_, ?_, ?_⟩
      · rw [← List.drop_drop, hR]; rfl
      · have := congrArg List.length hR
        simp only [List.length_drop, List.length_cons] at this
        omega
      · rw [or6 hv0 hd0 hd1]
        exact hv
    · exact absurd ‹Builtin.bitAnd b 64 = 0› (by rw [and64 hb0 hb1, hb]; decide)
/-- a call that raises a built-in exception -/
abbrev Throws (w : World) (p : Program) (loose : List Str) (mean : ExcName → Option Value) (mg mb : Str → Option Value) (f : Addr) (D U : Nat)
    (news : List (Addr × Obj)) (vs : List Value) (cls : String) (news' : List (Addr × Obj)) : Prop :=
  ∀ (dp un : Nat) (gd : Option (List Code)) (cn : Str) (cs : Scope) (a : Addr) (ccd : Value) (cl : List (Str × Addr)) (outer : List Env) (A₀ : Around) (base h₀ : Heap) (L : Addr) (m : Str → Option Value) (s : Shared) (Q E : Value → Shared → Prop),
    Below A₀ base outer h₀ → Fr h₀ L s.heap m → (Mine.hd.heap_39 w.params).In h₀ → News h₀ L s.heap news → Top p loose mean mg mb h₀ → cs.kind = .function →
    dp + D < recursionLimit → un + U < cLine →
    (∀ (e : Addr) (g h' : Heap) (tk' : Nat), Fr h₀ L g m → g.UpToSlots h' → RaisedSN base g (envX cn cs L a ccd cl :: outer) e (.type cls) news' h' → E (.ref e) { s with heap := h', toks := tk' }) →
    wpAny (model PR w) (ktrTop dp un gd cn cs L a ccd cl outer) (call (.ref f) vs) Q E s
theorem varint_end (w : World) (p : Program) (loose : List Str) (mean : ExcName → Option Value) (mg mb : Str → Option Value) (news : List (Addr × Obj)) (it l : Addr) (c0 k : Nat) (vs : List Value) (hR : vs.toArray[k]? = none)
   (hne : ∀ p ∈ ((l, listOf vs.toArray c0) :: news), p.1 ≠ it) :
    Throws w p loose mean mg mb 201 9 99 ((it, liObj l k) :: (l, listOf vs.toArray c0) :: news) [.ref it] "StopIteration" ((l, listOf vs.toArray c0) :: news) := by
  w_on
  intro dp un gd cn cs a ccd cl outer A₀ base h₀ L m s Q E B F X N T hk hd hu hret
  refine wpAny_call ?_
  k_dflt cell_enter
  repeat' (first | (k_unfold; (try dsimp only); (try (clear ek)); (try (clear qk))) | ((fail_if_success (fail_if_success (with_reducible show wpAny _ _ (execs (_ :: _) _) _ _ _))); k_fold) | (k_end; wrow_close) | ((fail_if_success (fail_if_success (with_reducible show wpAny _ _ (call (Value.builtin _) _ _) _ _ _))); k_here; ((with_reducible show wpAny _ _ (call (Value.builtin "next") [Value.ref _]) _ _ _); refine' next_N (by k_asm) (by k_asm) (by k_mem) (by assumption) (by assumption) ?_; k_whole; intro _ _ _)) | walk1 | (dsimp only; (first | ((fail_if_success (fail_if_success (with_reducible show wpAny _ _ (call (Value.builtin _) _ _) _ _ _))); k_here; ((with_reducible show wpAny _ _ (call (Value.builtin "next") [Value.ref _]) _ _ _); refine' next_N (by k_asm) (by k_asm) (by k_mem) (by assumption) (by assumption) ?_; k_whole; intro _ _ _)) | walk1)) | (leave1; (try dsimp only)) | fail "no step")
  rename Fr _ _ _ _ => lF'
  rename News _ _ _ _ => lN'
  refine next_E rfl lF' lN' (by k_mem) hne hR fun h₁ h' e F₁ N₁ he => ?_
  clear lF' lN'
  k_unfold
  dsimp only
  refine leave_newS (by assumption) he F₁ N₁ fun h'' R' _ U' => ?_
  exact hret _ _ _ _ (by assumption) U' R'
end
section
open PySem.Calls PySem.Spec
section
variable {w : World} {A : Around} {E : Value → Shared → Prop} {s : Shared} {h₀ : Heap} {L : Addr} {m : Str → Option Value} {news : List (Addr × Obj)}
theorem meta_tuple : typeOf (.type "tuple") = pure (.type "type") := by kernel_rfl
/-- what a class over tuple makes -/
abbrev entObj (d : Addr) (vs : Array Value) : Obj := { cls := .ref 191, dict := some d, data := .seq vs 0, slots := #[] }
theorem tnew_N {T : Addr} {vs : Array Value} {c : Nat} {Q : Value → Shared → Prop} (F : Fr h₀ L s.heap m) (N : News h₀ L s.heap news) (X : (Mine.hd.heap_39 w.params).In h₀)
    (hT : (T, ({ cls := .type "tuple", data := .seq vs c } : Obj)) ∈ news) (hz : vs.size ≤ 100)
    (h : ∀ x d h', Fr h₀ L h' m → News h₀ L h' ((x, entObj d vs) :: (d, emptyDict) :: news) → (∀ p ∈ news, p.1 < d) → d < x → Q (.ref x) { s with heap := h' }) :
    wpAny (model PR w) A (call (.builtin "tuple.__new__") [.ref 191, .ref T]) Q E s := by
  have X' := X.keeps F.keep
  have l0 : Looks (model PR w) s.heap (checkBuiltinCall "tuple.__new__" ⟨[.ref 191, .ref T], []⟩) () := Looks.of_peek X' (by kernel_rfl)
  have l1 : Looks (model PR w) s.heap (isType (.ref 191)) true := Looks.of_peek X' (by kernel_rfl)
  have l2 : Looks (model PR w) s.heap (isSubtype (.ref 191) (.type "tuple")) true := Looks.of_peek X' (by kernel_rfl)
  have l3 : Looks (model PR w) s.heap (Bind.madeHere "tuple.__new__" (.ref 191)) () := Looks.of_peek X' (by kernel_rfl)
  have l4 : Looks (model PR w) s.heap (typeLookup (.ref 191) "__init__") (some (.builtin "object.__init__")) := Looks.of_peek X' (by kernel_rfl)
  refine wpAny_call (codeAny_call_builtin (by decide +kernel) PySem.F.entry_tuple_new ?_)
  refine l0.here ?_
  unfold Builtin.«tuple.__new__»
  dsimp only
  iterate 18 (first | simp only [Bool.not_true, Bool.false_eq_true, if_false] | lk)
  refine wpAny_of_eq (a := ()) rfl ?_
  rw [if_neg (show ¬ ((Value.ref 191 == Value.type "tuple") = true) from Bool.false_ne_true)]
  refine wpAny_bind (wpAny_collect_seq T (.inr rfl) (N _ hT).1 rfl rfl (fun h' k => ?_) (by rw [sizeLine_eq]; omega))
  refine wpAny_bind (wpAny_pure (wpAny_bind (wpAny_alloc (wpAny_bind ?_))))
  have e191 : ∃ oc od cd sl, s.heap.get? 191 = some ⟨oc, od, .cls cd, sl⟩ ∧ cd.hasDel = false := ⟨_, _, _, _, X' 191 _ (by k_is), rfl⟩
  obtain ⟨oc, od, cd, sl, e1, e2⟩ := e191
  show wpAny _ _ (newObj _ _ _) _ _ _
  unfold newObj
  dsimp only
  rw [if_neg (by rw [List.size_toArray, Array.length_toList, sizeLine_eq]; omega)]
  unfold newObjAsIs classHasDel
  refine wpAny_bind (wpAny_alloc (wpAny_bind (wpAny_bind (wpAny_load (Heap.get?_push_of_some _ (Heap.get?_push_of_some _ (k _ _ e1))) (wpAny_pure ?_)))))
  rw [e2]
  refine wpAny_pure (wpAny_pure ?_)
  have F1 := F.keeps k
  have N1 : News h₀ L h' news := fun p hp => ⟨k _ _ (N p hp).1, (N p hp).2⟩
  have N2 := (N1.push F1 emptyDict).push (F1.push _) (entObj h'.objs.size vs)
  have e3 : vs.toList.toArray = vs := by simp
  rw [e3]
  refine h _ _ _ ((F1.push _).push _) N2 (fun p hp => Heap.lt_size (N1 p hp).1) (by rw [Heap.size_push]; exact Nat.lt_succ_self _)
end

theorem allLt_out {d : Addr} : ∀ {l : List (Addr × Obj)}, AllLt d l → ∀ p ∈ l, p.1 < d
  | [], _, _, h => nomatch h
  | q :: r, h, p, hp => by
    rcases List.mem_cons.mp hp with rfl | hp
    · exact h.1
    · exact allLt_out h.2 p hp
theorem drop3 {α : Type} {a b c p : α} {l : List α} (h : p ∈ a :: b :: l) : p ∈ a :: b :: c :: l := by
  simp only [List.mem_cons] at h ⊢
  rcases h with h | h | h <;> simp [h]
theorem new_spec (w : World) (p : Program) (loose : List Str) (mean : ExcName → Option Value) (mg mb : Str → Option Value) (a1 a2 a3 a4 : Int) (b5 : Bool) (t1 t2 t3 t4 : Tok) (news : List (Addr × Obj)) :
    Gives w p loose mean mg mb 119 3 20 news [.ref 191, .int a1 t1, .int a2 t2, .int a3 t3, .int a4 t4, .bool b5]
      (fun r nx => ∃ x d, r = .ref x ∧ nx = (x, entObj d #[.int a1 t1, .int a2 t2, .int a3 t3, .int a4 t4, .bool b5]) :: (d, emptyDict) :: news ∧ (∀ p ∈ news, p.1 < d) ∧ d < x) := by
  w_on
  intro dp un gd cn cs a ccd cl outer A₀ base h₀ L m s Q E B F X N T hk hd hu hret
  refine wpAny_call ?_
  k_dflt cell_enter
  repeat' (first | (k_unfold; (try dsimp only); (try (clear ek)); (try (clear qk))) | ((fail_if_success (fail_if_success (with_reducible show wpAny _ _ (execs (_ :: _) _) _ _ _))); k_fold) | (k_end; wrow_close) | ((fail_if_success (fail_if_success (with_reducible show wpAny _ _ (getMethod _ _ _) _ _ _))); k_here; ((with_reducible show wpAny _ _ (getMethod (Value.type "tuple") _ _) _ _ _); with_reducible (refine' method_type (by k_asm) (by k_asm) (by exact meta_tuple) (by decide +kernel) (by k_dflt k_is) (by k_handed) ?_))) | ((fail_if_success (fail_if_success (with_reducible show wpAny _ _ (call (Value.builtin _) _ _) _ _ _))); k_here; ((with_reducible show wpAny _ _ (call (Value.builtin "tuple.__new__") _ _) _ _ _); refine' tnew_N (by k_asm) (by k_asm) (by k_asm) (by k_mem) (by exact Nat.le_of_ble_eq_true rfl) ?_; k_whole; intro _ _ _ _ _ zl1 zl2; (try k_lt zl1); (try k_lt2 zl2); (try (revert zl1; intro _)); (try (revert zl2; intro _)))) | walk1 | (dsimp only; (first | ((fail_if_success (fail_if_success (with_reducible show wpAny _ _ (getMethod _ _ _) _ _ _))); k_here; ((with_reducible show wpAny _ _ (getMethod (Value.type "tuple") _ _) _ _ _); with_reducible (refine' method_type (by k_asm) (by k_asm) (by exact meta_tuple) (by decide +kernel) (by k_dflt k_is) (by k_handed) ?_))) | ((fail_if_success (fail_if_success (with_reducible show wpAny _ _ (call (Value.builtin _) _ _) _ _ _))); k_here; ((with_reducible show wpAny _ _ (call (Value.builtin "tuple.__new__") _ _) _ _ _); refine' tnew_N (by k_asm) (by k_asm) (by k_asm) (by k_mem) (by exact Nat.le_of_ble_eq_true rfl) ?_; k_whole; intro _ _ _ _ _ zl1 zl2; (try k_lt zl1); (try k_lt2 zl2); (try (revert zl1; intro _)); (try (revert zl2; intro _)))) | walk1)) | (leave1; (try dsimp only)) | fail "no step")
  exact hret _ _ _ _ (by assumption) (fun p hp => (by assumption : News h₀ L _ (_ :: _ :: _ :: news)) p (drop3 hp)) ⟨_, _, rfl, rfl, allLt_out (by assumption : _ < _ ∧ AllLt _ news).2, by assumption⟩
theorem cls_spec (w : World) (p : Program) (loose : List Str) (mean : ExcName → Option Value) (mg mb : Str → Option Value) (a1 a2 a3 a4 : Int) (b5 : Bool) (t1 t2 t3 t4 : Tok) (news : List (Addr × Obj)) :
    Gives w p loose mean mg mb 191 6 60 news [.int a1 t1, .int a2 t2, .int a3 t3, .int a4 t4, .bool b5]
      (fun r nx => ∃ x d, r = .ref x ∧ nx = (x, entObj d #[.int a1 t1, .int a2 t2, .int a3 t3, .int a4 t4, .bool b5]) :: (d, emptyDict) :: news ∧ (∀ p ∈ news, p.1 < d) ∧ d < x) := by
  w_on
  intro dp un gd cn cs a ccd cl outer A₀ base h₀ L m s Q E B F X N T hk hd hu hret
  have X' := X.keeps F.keep
  have e191 : ∃ oc od cd sl, s.heap.get? 191 = some ⟨oc, od, .cls cd, sl⟩ ∧ cd.mro.isEmpty = false := ⟨_, _, _, _, X' 191 _ (by k_is), rfl⟩
  obtain ⟨oc, od, cd, sl, hC, e4⟩ := e191
  have call : Looks (model PR w) s.heap (specialOf (.ref 191) "__call__") (some (.builtin "type.__call__")) := Looks.of_peek X' (by kernel_rfl)
  have typ : Looks (model PR w) s.heap (isInstance (.ref 191) (.type "type")) true := Looks.of_peek X' (by kernel_rfl)
  have made : Looks (model PR w) s.heap (Bind.madeBy (.ref 191)) none := Looks.of_peek X' (by kernel_rfl)
  have hm : Looks (model PR w) s.heap (mroOf (.ref 191)) cd.mro := ((Looks.ld (part := none) hC).andThen .now).andThen .now
  refine wpAny_call (codeAny_of_tree ?_)
  show wpAny _ _ (callAny (.ref 191) _) _ _ _
  refine nd_load hC ?_
  show wpAny _ _ (callAny.viaDunder (.ref 191) _) _ _ _
  unfold callAny.viaDunder
  refine wpAny_bind (call.here ?_)
  dsimp only
  rw [tc_bind]
  refine wpAny_bind (wpAny_pure (wpAny_bind (wpAny_pure ?_)))
  refine wpAny_pure (a := Fin.again (.call (.builtin "type.__call__") ⟨.ref 191 :: [.int a1 t1, .int a2 t2, .int a3 t3, .int a4 t4, .bool b5], []⟩)) (And.intro rfl ?_)
  refine codeAny_call_builtin_at (Code.quiet_builtin _ (by decide +kernel)) entry_typeCall (check_slot tc_kind tc_split typ (tc_args _ _ _) ?_)
  unfold Builtin.«type.__call__»
  dsimp only
  iterate 8 (first | simp only [e4, Bool.false_eq_true, if_false] | lk)
  show wpAny _ _ (getAttr (.ref 191) "__new__") _ _ _
  refine' cls_sm ?k1 ?k2 ?k3 ?k4 ?k5 ?k6 ?k7 ?_; (case k1 => k_asm); (case k2 => k_asm); (case k3 => k_is); (case k4 => k_is); (case k5 => k_is); (case k6 => k_is); (case k7 => k_handed)
  iterate 1 lk
  refine wpAny_holding ?_
  refine' new_spec w p loose mean mg mb a1 a2 a3 a4 b5 t1 t2 t3 t4 news _ _ _ _ _ _ _ _ _ _ _ _ _ _ _ _ _ B F X N T hk ?hd ?hu ?_
  case hd => show dp + 1 + 3 < recursionLimit; omega
  case hu => show un + 1 + 20 < cLine; omega
  rintro r nx h' tk' F1 N1 ⟨x, d, rfl, rfl, l1, l2⟩
  have X1 := X.keeps F1.keep
  have y1 : Looks (model PR w) h' (typeOf (.ref x)) (.ref 191) := (Looks.ld (N1 _ (.head _)).1).andThen .now
  have s1 : Looks (model PR w) h' (isSubtype (.ref 191) (.ref 191)) true := Looks.of_peek X1 (by kernel_rfl)
  have s2 : Looks (model PR w) h' (isSubtype (.ref 191) (.type "object")) true := Looks.of_peek X1 (by kernel_rfl)
  have i1 : Looks (model PR w) h' (typeLookup (.ref 191) "__init__") (some (.builtin "object.__init__")) := Looks.of_peek X1 (by kernel_rfl)
  have m1 : Looks (model PR w) h' (Bind.madeBy (.ref 191)) none := Looks.of_peek X1 (by kernel_rfl)
  have b1 : Looks (model PR w) h' (bindSpecial (.builtin "object.__init__") (.ref x)) (.builtin "object.__init__", [.ref x]) := Looks.of_pure (oi_bind _)
  clear call typ made hm
  unfold isInstance callSpecial? specialOf
  repeat (first | (with_reducible refine wpAny_call ?_) | lk)
  have y2 : Looks (model PR w) h' (isInstance (.ref x) (.type "object")) true := y1.andThen s2
  refine codeAny_call_builtin oi_plain entry_oi (@check_slot (model PR w) _ _ _ "object.__init__" "object" "__init__" (.ref x) [.int a1 t1, .int a2 t2, .int a3 t3, .int a4 t4, .bool b5] [] _ oi_kind oi_split y2 (by unfold argsOk; kernel_rfl) ?_)
  unfold Builtin.«object.__init__»
  repeat lk
  exact hret _ _ _ _ F1 N1 ⟨x, d, rfl, rfl, l1, l2⟩
end
section
/-- octets and the numbers that they spell -/
inductive Enc : List Int → List Int → Prop
  | nil : Enc [] []
  | cons {b res : Int} {R r nums : List Int} : 0 ≤ b → b < 256 → 0 ≤ res → res < 2 ^ 46 → Vi (b % 64) b R res r → Enc r nums → Enc (b :: R) (res :: nums)
theorem Vi.len {v b res : Int} {R r : List Int} (h : Vi v b R res r) : ∃ k, R.drop k = r ∧ k + r.length = R.length := by
  induction h with
  | done => exact ⟨0, rfl, by omega⟩
  | more _ _ _ _ _ _ _ _ ih =>
    obtain ⟨k, e1, e2⟩ := ih
    exact ⟨k + 1, e1, by simp only [List.length_cons]; omega⟩
theorem vi_drop {ns R r : List Int} {b v res : Int} {k : Nat} (hR : ns.drop k = b :: R) (h : Vi v b R res r) : ns.drop (ns.length - r.length) = r := by
  obtain ⟨j, e1, e2⟩ := h.len
  have h1 : ns.drop (k + 1) = R := by rw [← List.drop_drop, hR]; rfl
  have h2 : ns.drop (k + 1 + j) = r := by rw [← List.drop_drop, h1, e1]
  have h3 := congrArg List.length h1
  have h4 := congrArg List.length hR
  simp only [List.length_drop, List.length_cons] at h3 h4
  rw [show ns.length - r.length = k + 1 + j from by omega]
  exact h2
noncomputable def rows4 : List Int → List (Int × Int × Int × Int)
  | a :: b :: c :: d :: r => (a, b, c, d) :: rows4 r
  | _ => []
/-- what one row's object holds -/
noncomputable def entVals (r : Int × Int × Int × Int) (v : Array Value) : Prop :=
  ∃ t1 t2 t3 t4, v = #[.int (r.1 * 2) t1, .int (r.1 * 2 + r.2.1 * 2) t2, .int (r.2.2.1 * 2) t3, .int (r.2.2.2 / 2) t4, .bool (decide (r.2.2.2 % 2 = 1))]
/-- the list's places stand for the rows -/
inductive EntsAre (tl : List (Addr × Obj)) : List Value → List (Int × Int × Int × Int) → Prop
  | nil : EntsAre tl [] []
  | snoc {refs : List Value} {rows : List (Int × Int × Int × Int)} {x d : Addr} {v : Array Value} {r : Int × Int × Int × Int} : EntsAre tl refs rows → (x, entObj d v) ∈ tl → entVals r v → EntsAre tl (refs ++ [.ref x]) (rows ++ [r])
theorem EntsAre.mono {tl tl' : List (Addr × Obj)} {refs : List Value} {rows : List (Int × Int × Int × Int)} (h : EntsAre tl refs rows) (hs : ∀ p ∈ tl, p ∈ tl') : EntsAre tl' refs rows := by
  induction h with
  | nil => exact .nil
  | snoc _ hm hv ih => exact .snoc ih (hs _ hm) hv

/-- what a call gives whose frames may be turned (an exception flew below it) -/
abbrev GivesS (w : World) (p : Program) (loose : List Str) (mean : ExcName → Option Value) (mg mb : Str → Option Value) (f : Addr) (D U : Nat)
    (news : List (Addr × Obj)) (vs : List Value) (Ret : Value → List (Addr × Obj) → Prop) : Prop :=
  ∀ (dp un : Nat) (gd : Option (List Code)) (cn : Str) (cs : Scope) (a : Addr) (ccd : Value) (outer : List Env) (A₀ : Around) (base h₀ : Heap) (L : Addr) (m : Str → Option Value) (s : Shared) (Q E : Value → Shared → Prop),
    Below A₀ base outer h₀ → Fr h₀ L s.heap m → (Mine.hd.heap_39 w.params).In h₀ → News h₀ L s.heap news → Top p loose mean mg mb h₀ → cs.kind = .function →
    dp + D < recursionLimit → un + U < cLine → (Mine.hd.heap_39 w.params).In base → Top p loose mean mg mb base → KtsDicts (outer.filterMap (·.frame)) h₀ →
    (∀ (r : Value) (news' : List (Addr × Obj)) (h' : Heap) (tk' : Nat) (g : Heap), KtsTurn (outer.filterMap (·.frame)) h₀ g → Fr g L h' m → News g L h' news' → Below A₀ base outer g → (Mine.hd.heap_39 w.params).In g → Top p loose mean mg mb g →
      KtsDicts (outer.filterMap (·.frame)) g → Ret r news' → Q r { s with heap := h', toks := tk' }) →
    wpAny (model PR w) (ktrTop dp un gd cn cs L a ccd [] outer) (call (.ref f) vs) Q E s
section
variable {w : World} {p : Program} {loose : List Str} {mean : ExcName → Option Value} {mg mb : Str → Option Value}
  {dp un : Nat} {gd : Option (List Code)} {cn : Str} {cs : Scope} {a : Addr} {ccd : Value} {cl : List (Str × Addr)} {outer : List Env} {A₀ : Around} {base h₀ : Heap} {L : Addr} {m : Str → Option Value} {s : Shared} {Q E : Value → Shared → Prop}
theorem varint_use {rest : List (Addr × Obj)} {it l : Addr} {c0 k : Nat} {vs : List Value} {ns : List Int} {b res : Int} {R r : List Int}
    (B : Below A₀ base outer h₀) (F : Fr h₀ L s.heap m) (X : (Mine.hd.heap_39 w.params).In h₀) (N : News h₀ L s.heap ((it, liObj l k) :: (l, listOf vs.toArray c0) :: rest)) (T : Top p loose mean mg mb h₀) (hk : cs.kind = .function)
    (hd : dp + 9 < recursionLimit) (hu : un + 99 < cLine) (hi : IntsAre vs ns) (hR : ns.drop k = b :: R) (hv : Vi (b % 64) b R res r) (hb0 : 0 ≤ b) (hb1 : b < 256) (hne : ∀ p ∈ ((l, listOf vs.toArray c0) :: rest), p.1 ≠ it)
    (ret : ∀ t h' tk', Fr h₀ L h' m → News h₀ L h' ((it, liObj l (ns.length - r.length)) :: (l, listOf vs.toArray c0) :: rest) → Q (.int res t) { s with heap := h', toks := tk' }) :
    wpAny (model PR w) (ktrTop dp un gd cn cs L a ccd cl outer) (call (.ref 201) [.ref it]) Q E s :=
  varint w p loose mean mg mb rest it l c0 k vs ns hi b res R r hR hv hb0 hb1 hne dp un gd cn cs a ccd cl outer A₀ base h₀ L m s Q E B F X N T hk hd hu (by
    rintro v nx h' tk' F' N' ⟨t, rfl, rfl⟩
    exact ret t h' tk' F' N')
theorem varint_end_use {rest : List (Addr × Obj)} {it l : Addr} {c0 k : Nat} {vs : List Value}
    (B : Below A₀ base outer h₀) (F : Fr h₀ L s.heap m) (X : (Mine.hd.heap_39 w.params).In h₀) (N : News h₀ L s.heap ((it, liObj l k) :: (l, listOf vs.toArray c0) :: rest)) (T : Top p loose mean mg mb h₀) (hk : cs.kind = .function)
    (hd : dp + 9 < recursionLimit) (hu : un + 99 < cLine) (hR : vs.toArray[k]? = none) (hne : ∀ p ∈ ((l, listOf vs.toArray c0) :: rest), p.1 ≠ it)
    (ret : ∀ (e : Addr) (g h' : Heap) (tk' : Nat), Fr h₀ L g m → g.UpToSlots h' → RaisedSN base g (envX cn cs L a ccd cl :: outer) e (.type "StopIteration") ((l, listOf vs.toArray c0) :: rest) h' → E (.ref e) { s with heap := h', toks := tk' }) :
    wpAny (model PR w) (ktrTop dp un gd cn cs L a ccd cl outer) (call (.ref 201) [.ref it]) Q E s :=
  varint_end w p loose mean mg mb rest it l c0 k vs hR hne dp un gd cn cs a ccd cl outer A₀ base h₀ L m s Q E B F X N T hk hd hu ret
theorem cls_use {a1 a2 a3 a4 : Int} {b5 : Bool} {t1 t2 t3 t4 : Tok} {news : List (Addr × Obj)}
    (B : Below A₀ base outer h₀) (F : Fr h₀ L s.heap m) (X : (Mine.hd.heap_39 w.params).In h₀) (N : News h₀ L s.heap news) (T : Top p loose mean mg mb h₀) (hk : cs.kind = .function)
    (hd : dp + 6 < recursionLimit) (hu : un + 60 < cLine)
    (ret : ∀ x d h' tk', Fr h₀ L h' m → News h₀ L h' ((x, entObj d #[.int a1 t1, .int a2 t2, .int a3 t3, .int a4 t4, .bool b5]) :: (d, emptyDict) :: news) → (∀ p ∈ news, p.1 < d) → d < x → Q (.ref x) { s with heap := h', toks := tk' }) :
    wpAny (model PR w) (ktrTop dp un gd cn cs L a ccd cl outer) (call (.ref 191) [.int a1 t1, .int a2 t2, .int a3 t3, .int a4 t4, .bool b5]) Q E s :=
  cls_spec w p loose mean mg mb a1 a2 a3 a4 b5 t1 t2 t3 t4 news dp un gd cn cs a ccd cl outer A₀ base h₀ L m s Q E B F X N T hk hd hu (by
    rintro r nx h' tk' F' N' ⟨x, d, rfl, rfl, l1, l2⟩
    exact ret x d h' tk' F' N' l1 l2)
end
local macro_rules | `(tactic| k_all) => `(tactic| assumption)
theorem stop_exc : isSubtype (.type "StopIteration") (.type "BaseException") = pure true := by rw [isSubtype_type]; kernel_rfl
theorem stop_ntup : isSubtype (.type ((Manifest.find? "StopIteration").elim "type" fun x => x.metatype)) (.type "tuple") = pure false := by
  rw [show ((Manifest.find? "StopIteration").elim "type" fun x => x.metatype) = "type" from by kernel_rfl, isSubtype_type]; kernel_rfl
theorem stop_self : isSubtype (.type "StopIteration") (.type "StopIteration") = pure true := by rw [isSubtype_type]; kernel_rfl
theorem enc_len {S R : List Int} (h : Enc S R) : R.length ≤ S.length := by
  induction h with
  | nil => exact Nat.le_refl _
  | cons _ _ _ _ hv _ ih =>
    obtain ⟨k, _, e⟩ := hv.len
    simp only [List.length_cons]
    omega
theorem drop_end {vs : List Value} {ns : List Int} (hi : IntsAre vs ns) {k : Nat} (h : ns.drop k = []) : vs.toArray[k]? = none := by
  have h1 := congrArg List.length h
  simp only [List.length_drop, List.length_nil] at h1
  have h2 := hi.length
  exact Array.getElem?_eq_none (by simp only [List.size_toArray]; omega)
theorem reorder5 {α : Type} {a b c d x q : α} {r : List α} (h : q ∈ c :: d :: x :: a :: b :: r) : q ∈ a :: b :: c :: d :: x :: r := by
  simp only [List.mem_cons] at h ⊢
  rcases h with h | h | h | h | h | h <;> simp [h]
theorem half {n : Int} : n.fdiv (2 ^ Int.toNat 1) = n / 2 := by
  rw [show (2 : Int) ^ Int.toNat 1 = 2 from rfl, Int.fdiv_eq_ediv_of_nonneg _ (by omega)]
theorem ent_vals {n1 n2 n3 n4 : Int} {t1 t2 t3 t4 : Tok} (h : 0 ≤ n4) : entVals (n1, n2, n3, n4) #[Value.int (n1 * 2) t1, Value.int (n1 * 2 + n2 * 2) t2, Value.int (n3 * 2) t3, Value.int (n4.fdiv (2 ^ Int.toNat 1)) t4, Value.bool (Builtin.bitAnd n4 1 != 0)] := by
  refine ⟨t1, t2, t3, t4, ?_⟩
  have e : (Builtin.bitAnd n4 1 != 0) = decide (n4 % 2 = 1) := by
    rw [bitAnd_m1]
    rcases (show n4 % 2 = 0 ∨ n4 % 2 = 1 from by omega) with h | h <;> rw [h] <;> rfl
  rw [half, e]
theorem parse_spec (w : World) (p : Program) (loose : List Str) (mean : ExcName → Option Value) (mg mb : Str → Option Value) (x d l : Addr) (c0 : Nat) (tk : Tok) (vs : List Value) (ns nums : List Int) (hi : IntsAre vs ns) (he : Enc ns nums) (hlen : ns.length ≤ 400) (news : List (Addr × Obj)) :
    GivesS w p loose mean mg mb 208 14 140 ((x, instObj 97 d) :: (d, dictOf [{ hash := PyData.keyHash w.params (Str.ofString "co_exceptiontable"), key := Value.str (Str.ofString "co_exceptiontable") tk, val := Value.ref l }] 1) :: (l, listOf vs.toArray c0) :: news) [.ref x]
      (fun r nx => ∃ e refs c tl, r = .ref e ∧ (e, listOf refs.toArray c) ∈ nx ∧ (∀ p ∈ news, p ∈ nx) ∧ (∀ p ∈ tl, p ∈ nx) ∧ EntsAre tl refs (rows4 nums)) := by
  w_on
  intro dp un gd cn cs a ccd outer A₀ base h₀ L m s Q E B F X N T hk hd hu XB TB KD hret
  refine wpAny_call ?_
  refine' code_defS ?k1 ?k2 ?k3 ?k4 ?k5 ?XB ?TB ?D ?T0 ?kA ?k6 ?k7 ?k8 ?k9 ?kB ?_ ?cK ?c2 ?c3 ?c4 ?c5
  case kA => exact rfl
  case k2 => exact F
  case k1 => exact B
  case XB => exact XB
  case TB => exact TB
  case D => exact KD
  case T0 => exact KtsTurn.refl
  case k3 => exact X
  case k4 => exact N
  case k5 => exact T
  case k6 => k_dflt k_is
  case k7 => k_dflt k_is
  case k8 => ktr_room
  case k9 => exact BindsTo.of_eq rfl
  case kB => exact locs rfl
  case cK => exact hk
  case c2 => exact rfl
  case c3 => exact rfl
  case c4 => exact rfl
  case c5 => decide
  intro g' L' h' FG' F' N' B' X' T' D'
  dsimp only
  k_fold
  repeat' (first | (k_unfold; (try dsimp only)) | ((fail_if_success (with_reducible show wpAny _ _ (exec (Stmt.While _ _ _ _) _) _ _ _)); (first | ((fail_if_success (fail_if_success (with_reducible show wpAny _ _ (noteFrame _ _) _ _ _))); k_here; ((rename RaisedSN _ _ _ _ _ _ _ => zrs); (with_reducible show wpAny _ _ (noteFrame _ _) (fun _ s₂ => wpAny _ _ (setFlight _ none) (fun _ s₃ => wpAny _ _ (handleBy _ _ (ExceptHandler.ExceptHandler (some (Expr.Name ("StopIteration" : Str) _)) none _ _ :: _)) _ _ s₃) _ s₂) _ _); k_dflt (refine' caught_SN0 (T' := "StopIteration") (by assumption) (by assumption) (by assumption) (by assumption) (by assumption) (by assumption) (by assumption) (by first | assumption | exact KtsTurn.refl) (by k_is) PyProof.Rows.Boot.«StopIteration» (by decide) stop_exc stop_ntup stop_self ?_; k_whole); (revert zrs; intro _); intro _ _ _ _ _ _ _ _ _; (try k_sweep))) | ((fail_if_success (fail_if_success (with_reducible show wpAny _ _ (call (Value.ref _) _ _) _ _ _))); k_here; first | ((with_reducible show wpAny _ _ (call (Value.ref 191) _) _ _ _); refine' cls_use (by k_asm) (by k_asm) (by k_asm) (by k_asm) (by k_asm) (by exact rfl) (by ktr_room) (by ktr_units) ?_; k_whole; intro _ _ _ _ _ _ zl1 zl2; (try k_lt zl1); (try k_lt2 zl2); (try (revert zl1; intro _)); (try (revert zl2; intro _)); (try dsimp only)) | ((with_reducible show wpAny _ _ (call (Value.ref 201) [Value.ref _]) _ _ _); refine' varint_end_use (by k_asm) (by k_asm) (by k_asm) (by k_asm) (by k_asm) (by exact rfl) (by ktr_room) (by ktr_units) (by assumption) (by assumption) ?_; k_whole; intro _ _ _ _ _ _ _; (try dsimp only)) | ((with_reducible show wpAny _ _ (call (Value.ref 201) [Value.ref _]) _ _ _); refine' varint_use (by k_asm) (by k_asm) (by k_asm) (by k_asm) (by k_asm) (by exact rfl) (by ktr_room) (by ktr_units) (by assumption) (by assumption) (by assumption) (by assumption) (by assumption) (by assumption) ?_; k_whole; intro _ _ _ _ _; (try dsimp only))) | ((fail_if_success (fail_if_success (with_reducible show wpAny _ _ (call (Value.builtin _) _ _) _ _ _))); k_here; ((with_reducible show wpAny _ _ (call (Value.builtin "iter") [Value.ref _]) _ _ _); refine' iter_N (by k_asm) (by k_asm) (by k_mem) ?_; k_whole; intro _ _ _ _ zl1; (try k_lt zl1); (try (revert zl1; intro _)))) | walk1)) | (leave1; try dsimp only))
  rename_i it _h1 l1 _h2 e _h3 l2 hp FF NN
  have hwE : ∀ q ∈ ([] ++ news : List (Addr × Obj)), q.1 ≠ e ∧ q.1 ≠ it := fun q hq => by
    have a1 := allLt_out l1.2.2.2 q hq
    have a2 := allLt_out l2.2.2.2.2 q hq
    exact ⟨Nat.ne_of_lt a2, Nat.ne_of_lt a1⟩
  refine' While_inv2 (fun n m nx => ∃ (j : Nat) (S R : List Int) (refs : List Value) (c : Nat) (tl : List (Addr × Obj)) (done : List (Int × Int × Int × Int)), m (Str.ofString "iterator") = some (.ref it) ∧ m (Str.ofString "entries") = some (.ref e) ∧
    nx = (it, liObj l j) :: (l, listOf vs.toArray c0) :: (e, listOf refs.toArray c) :: (tl ++ news) ∧ (∀ p ∈ tl ++ news, p.1 ≠ e ∧ p.1 ≠ it) ∧ ns.drop j = S ∧ Enc S R ∧ rows4 nums = done ++ rows4 R ∧ EntsAre tl refs done ∧ refs.length + R.length ≤ 400 ∧ n = R.length) ?kF ?kN ?kJ ?kT ?kE
  case kE => passes_own
  case kF => exact FF
  case kJ => exact ⟨0, ns, nums, [], 0, [], [], rfl, rfl, rfl, hwE, rfl, he, rfl, .nil, by have := enc_len he; simp only [List.length_nil]; omega, rfl⟩
  case kN => exact fun q hq => NN q (by
    simp only [List.nil_append, List.mem_cons] at hq ⊢
    rcases hq with h | h | h | h <;> simp [h])
  clear hwE FF NN he
  rintro n m₁ nx h₁ tk₁ F₁ N₁ ⟨j, S, R, refs, c, tl, done, e1, e2, rfl, hoff, hS, hE, hrows, hents, hsz, rfl⟩
  have F₂ := fr_put2 F₁ e1 e2
  clear F₁
  have hne : ∀ p ∈ ((l, listOf vs.toArray c0) :: (e, listOf refs.toArray c) :: (tl ++ news) : List (Addr × Obj)), p.1 ≠ it := fun q hq => by
    simp only [List.mem_cons] at hq
    rcases hq with rfl | rfl | hq
    · exact Nat.ne_of_lt l1.2.2.1
    · exact Nat.ne_of_gt l2.1
    · exact (hoff q hq).2
  have hoffe : ∀ p ∈ (tl ++ news), p.1 ≠ e := fun q hq => (hoff q hq).1
  repeat' (first | (k_unfold; (try dsimp only); (try (clear ek)); (try (clear qk))) | ((fail_if_success (fail_if_success (with_reducible show wpAny _ _ (execs (_ :: _) _) _ _ _))); k_fold) | ((fail_if_success (with_reducible show wpAny _ _ (call (Value.ref 201) _) _ _ _)); first | ((fail_if_success (fail_if_success (with_reducible show wpAny _ _ (noteFrame _ _) _ _ _))); k_here; ((rename RaisedSN _ _ _ _ _ _ _ => zrs); (with_reducible show wpAny _ _ (noteFrame _ _) (fun _ s₂ => wpAny _ _ (setFlight _ none) (fun _ s₃ => wpAny _ _ (handleBy _ _ (ExceptHandler.ExceptHandler (some (Expr.Name ("StopIteration" : Str) _)) none _ _ :: _)) _ _ s₃) _ s₂) _ _); k_dflt (refine' caught_SN0 (T' := "StopIteration") (by assumption) (by assumption) (by assumption) (by assumption) (by assumption) (by assumption) (by assumption) (by first | assumption | exact KtsTurn.refl) (by k_is) PyProof.Rows.Boot.«StopIteration» (by decide) stop_exc stop_ntup stop_self ?_; k_whole); (revert zrs; intro _); intro _ _ _ _ _ _ _ _ _; (try k_sweep))) | ((fail_if_success (fail_if_success (with_reducible show wpAny _ _ (call (Value.ref _) _ _) _ _ _))); k_here; first | ((with_reducible show wpAny _ _ (call (Value.ref 191) _) _ _ _); refine' cls_use (by k_asm) (by k_asm) (by k_asm) (by k_asm) (by k_asm) (by exact rfl) (by ktr_room) (by ktr_units) ?_; k_whole; intro _ _ _ _ _ _ zl1 zl2; (try k_lt zl1); (try k_lt2 zl2); (try (revert zl1; intro _)); (try (revert zl2; intro _)); (try dsimp only)) | ((with_reducible show wpAny _ _ (call (Value.ref 201) [Value.ref _]) _ _ _); refine' varint_end_use (by k_asm) (by k_asm) (by k_asm) (by k_asm) (by k_asm) (by exact rfl) (by ktr_room) (by ktr_units) (by assumption) (by assumption) ?_; k_whole; intro _ _ _ _ _ _ _; (try dsimp only)) | ((with_reducible show wpAny _ _ (call (Value.ref 201) [Value.ref _]) _ _ _); refine' varint_use (by k_asm) (by k_asm) (by k_asm) (by k_asm) (by k_asm) (by exact rfl) (by ktr_room) (by ktr_units) (by assumption) (by assumption) (by assumption) (by assumption) (by assumption) (by assumption) ?_; k_whole; intro _ _ _ _ _; (try dsimp only))) | ((fail_if_success (fail_if_success (with_reducible show wpAny _ _ (call (Value.builtin _) _ _) _ _ _))); k_here; ((with_reducible show wpAny _ _ (call (Value.builtin "iter") [Value.ref _]) _ _ _); refine' iter_N (by k_asm) (by k_asm) (by k_mem) ?_; k_whole; intro _ _ _ _ zl1; (try k_lt zl1); (try (revert zl1; intro _)))) | walk1) | (leave1; (try dsimp only)))
  cases hE with
  | nil =>
    have hend := drop_end hi hS
    repeat' (first | (k_unfold; (try dsimp only); (try (clear ek)); (try (clear qk))) | ((fail_if_success (fail_if_success (with_reducible show wpAny _ _ (execs (_ :: _) _) _ _ _))); k_fold) | (k_end; wrow_close) | ((fail_if_success (fail_if_success (with_reducible show wpAny _ _ (noteFrame _ _) _ _ _))); k_here; ((rename RaisedSN _ _ _ _ _ _ _ => zrs); (with_reducible show wpAny _ _ (noteFrame _ _) (fun _ s₂ => wpAny _ _ (setFlight _ none) (fun _ s₃ => wpAny _ _ (handleBy _ _ (ExceptHandler.ExceptHandler (some (Expr.Name ("StopIteration" : Str) _)) none _ _ :: _)) _ _ s₃) _ s₂) _ _); k_dflt (refine' caught_SN0 (T' := "StopIteration") (by assumption) (by assumption) (by assumption) (by assumption) (by assumption) (by assumption) (by assumption) (by first | assumption | exact KtsTurn.refl) (by k_is) PyProof.Rows.Boot.«StopIteration» (by decide) stop_exc stop_ntup stop_self ?_; k_whole); (revert zrs; intro _); intro _ _ _ _ _ _ _ _ _; (try k_sweep))) | ((fail_if_success (fail_if_success (with_reducible show wpAny _ _ (call (Value.ref _) _ _) _ _ _))); k_here; first | ((with_reducible show wpAny _ _ (call (Value.ref 191) _) _ _ _); refine' cls_use (by k_asm) (by k_asm) (by k_asm) (by k_asm) (by k_asm) (by exact rfl) (by ktr_room) (by ktr_units) ?_; k_whole; intro _ _ _ _ _ _ zl1 zl2; (try k_lt zl1); (try k_lt2 zl2); (try (revert zl1; intro _)); (try (revert zl2; intro _)); (try dsimp only)) | ((with_reducible show wpAny _ _ (call (Value.ref 201) [Value.ref _]) _ _ _); refine' varint_end_use (by k_asm) (by k_asm) (by k_asm) (by k_asm) (by k_asm) (by exact rfl) (by ktr_room) (by ktr_units) (by assumption) (by assumption) ?_; k_whole; intro _ _ _ _ _ _ _; (try dsimp only)) | ((with_reducible show wpAny _ _ (call (Value.ref 201) [Value.ref _]) _ _ _); refine' varint_use (by k_asm) (by k_asm) (by k_asm) (by k_asm) (by k_asm) (by exact rfl) (by ktr_room) (by ktr_units) (by assumption) (by assumption) (by assumption) (by assumption) (by assumption) (by assumption) ?_; k_whole; intro _ _ _ _ _; (try dsimp only))) | ((fail_if_success (fail_if_success (with_reducible show wpAny _ _ (call (Value.builtin _) _ _) _ _ _))); k_here; ((with_reducible show wpAny _ _ (call (Value.builtin "iter") [Value.ref _]) _ _ _); refine' iter_N (by k_asm) (by k_asm) (by k_mem) ?_; k_whole; intro _ _ _ _ zl1; (try k_lt zl1); (try (revert zl1; intro _)))) | walk1 | (dsimp only; (first | ((fail_if_success (fail_if_success (with_reducible show wpAny _ _ (noteFrame _ _) _ _ _))); k_here; ((rename RaisedSN _ _ _ _ _ _ _ => zrs); (with_reducible show wpAny _ _ (noteFrame _ _) (fun _ s₂ => wpAny _ _ (setFlight _ none) (fun _ s₃ => wpAny _ _ (handleBy _ _ (ExceptHandler.ExceptHandler (some (Expr.Name ("StopIteration" : Str) _)) none _ _ :: _)) _ _ s₃) _ s₂) _ _); k_dflt (refine' caught_SN0 (T' := "StopIteration") (by assumption) (by assumption) (by assumption) (by assumption) (by assumption) (by assumption) (by assumption) (by first | assumption | exact KtsTurn.refl) (by k_is) PyProof.Rows.Boot.«StopIteration» (by decide) stop_exc stop_ntup stop_self ?_; k_whole); (revert zrs; intro _); intro _ _ _ _ _ _ _ _ _; (try k_sweep))) | ((fail_if_success (fail_if_success (with_reducible show wpAny _ _ (call (Value.ref _) _ _) _ _ _))); k_here; first | ((with_reducible show wpAny _ _ (call (Value.ref 191) _) _ _ _); refine' cls_use (by k_asm) (by k_asm) (by k_asm) (by k_asm) (by k_asm) (by exact rfl) (by ktr_room) (by ktr_units) ?_; k_whole; intro _ _ _ _ _ _ zl1 zl2; (try k_lt zl1); (try k_lt2 zl2); (try (revert zl1; intro _)); (try (revert zl2; intro _)); (try dsimp only)) | ((with_reducible show wpAny _ _ (call (Value.ref 201) [Value.ref _]) _ _ _); refine' varint_end_use (by k_asm) (by k_asm) (by k_asm) (by k_asm) (by k_asm) (by exact rfl) (by ktr_room) (by ktr_units) (by assumption) (by assumption) ?_; k_whole; intro _ _ _ _ _ _ _; (try dsimp only)) | ((with_reducible show wpAny _ _ (call (Value.ref 201) [Value.ref _]) _ _ _); refine' varint_use (by k_asm) (by k_asm) (by k_asm) (by k_asm) (by k_asm) (by exact rfl) (by ktr_room) (by ktr_units) (by assumption) (by assumption) (by assumption) (by assumption) (by assumption) (by assumption) ?_; k_whole; intro _ _ _ _ _; (try dsimp only))) | ((fail_if_success (fail_if_success (with_reducible show wpAny _ _ (call (Value.builtin _) _ _) _ _ _))); k_here; ((with_reducible show wpAny _ _ (call (Value.builtin "iter") [Value.ref _]) _ _ _); refine' iter_N (by k_asm) (by k_asm) (by k_mem) ?_; k_whole; intro _ _ _ _ zl1; (try k_lt zl1); (try (revert zl1; intro _)))) | walk1)) | (leave1; (try dsimp only)) | fail "no step")
    exact hret _ _ _ _ _ (by assumption) (by assumption) (by assumption) (by assumption) (by assumption) (by assumption) (by assumption) ⟨e, refs, c, tl, rfl, .tail _ (.head _), fun q hq => .tail _ (.tail _ (List.mem_append_right _ hq)), fun q hq => .tail _ (.tail _ (List.mem_append_left _ hq)), by rw [hrows]; exact (List.append_nil done).symm ▸ hents⟩
  | @cons b1 n1 R1 r1 R' hb0 hb1 hr0 hr1 hv hE =>
    have hd1 := vi_drop hS hv
    (first | ((fail_if_success (fail_if_success (with_reducible show wpAny _ _ (noteFrame _ _) _ _ _))); k_here; ((rename RaisedSN _ _ _ _ _ _ _ => zrs); (with_reducible show wpAny _ _ (noteFrame _ _) (fun _ s₂ => wpAny _ _ (setFlight _ none) (fun _ s₃ => wpAny _ _ (handleBy _ _ (ExceptHandler.ExceptHandler (some (Expr.Name ("StopIteration" : Str) _)) none _ _ :: _)) _ _ s₃) _ s₂) _ _); k_dflt (refine' caught_SN0 (T' := "StopIteration") (by assumption) (by assumption) (by assumption) (by assumption) (by assumption) (by assumption) (by assumption) (by first | assumption | exact KtsTurn.refl) (by k_is) PyProof.Rows.Boot.«StopIteration» (by decide) stop_exc stop_ntup stop_self ?_; k_whole); (revert zrs; intro _); intro _ _ _ _ _ _ _ _ _; (try k_sweep))) | ((fail_if_success (fail_if_success (with_reducible show wpAny _ _ (call (Value.ref _) _ _) _ _ _))); k_here; first | ((with_reducible show wpAny _ _ (call (Value.ref 191) _) _ _ _); refine' cls_use (by k_asm) (by k_asm) (by k_asm) (by k_asm) (by k_asm) (by exact rfl) (by ktr_room) (by ktr_units) ?_; k_whole; intro _ _ _ _ _ _ zl1 zl2; (try k_lt zl1); (try k_lt2 zl2); (try (revert zl1; intro _)); (try (revert zl2; intro _)); (try dsimp only)) | ((with_reducible show wpAny _ _ (call (Value.ref 201) [Value.ref _]) _ _ _); refine' varint_end_use (by k_asm) (by k_asm) (by k_asm) (by k_asm) (by k_asm) (by exact rfl) (by ktr_room) (by ktr_units) (by assumption) (by assumption) ?_; k_whole; intro _ _ _ _ _ _ _; (try dsimp only)) | ((with_reducible show wpAny _ _ (call (Value.ref 201) [Value.ref _]) _ _ _); refine' varint_use (by k_asm) (by k_asm) (by k_asm) (by k_asm) (by k_asm) (by exact rfl) (by ktr_room) (by ktr_units) (by assumption) (by assumption) (by assumption) (by assumption) (by assumption) (by assumption) ?_; k_whole; intro _ _ _ _ _; (try dsimp only))) | ((fail_if_success (fail_if_success (with_reducible show wpAny _ _ (call (Value.builtin _) _ _) _ _ _))); k_here; ((with_reducible show wpAny _ _ (call (Value.builtin "iter") [Value.ref _]) _ _ _); refine' iter_N (by k_asm) (by k_asm) (by k_mem) ?_; k_whole; intro _ _ _ _ zl1; (try k_lt zl1); (try (revert zl1; intro _)))))
    repeat' (first | (k_unfold; (try dsimp only); (try (clear ek)); (try (clear qk))) | ((fail_if_success (fail_if_success (with_reducible show wpAny _ _ (execs (_ :: _) _) _ _ _))); k_fold) | ((fail_if_success (with_reducible show wpAny _ _ (call (Value.ref 201) _) _ _ _)); first | ((fail_if_success (fail_if_success (with_reducible show wpAny _ _ (noteFrame _ _) _ _ _))); k_here; ((rename RaisedSN _ _ _ _ _ _ _ => zrs); (with_reducible show wpAny _ _ (noteFrame _ _) (fun _ s₂ => wpAny _ _ (setFlight _ none) (fun _ s₃ => wpAny _ _ (handleBy _ _ (ExceptHandler.ExceptHandler (some (Expr.Name ("StopIteration" : Str) _)) none _ _ :: _)) _ _ s₃) _ s₂) _ _); k_dflt (refine' caught_SN0 (T' := "StopIteration") (by assumption) (by assumption) (by assumption) (by assumption) (by assumption) (by assumption) (by assumption) (by first | assumption | exact KtsTurn.refl) (by k_is) PyProof.Rows.Boot.«StopIteration» (by decide) stop_exc stop_ntup stop_self ?_; k_whole); (revert zrs; intro _); intro _ _ _ _ _ _ _ _ _; (try k_sweep))) | ((fail_if_success (fail_if_success (with_reducible show wpAny _ _ (call (Value.ref _) _ _) _ _ _))); k_here; first | ((with_reducible show wpAny _ _ (call (Value.ref 191) _) _ _ _); refine' cls_use (by k_asm) (by k_asm) (by k_asm) (by k_asm) (by k_asm) (by exact rfl) (by ktr_room) (by ktr_units) ?_; k_whole; intro _ _ _ _ _ _ zl1 zl2; (try k_lt zl1); (try k_lt2 zl2); (try (revert zl1; intro _)); (try (revert zl2; intro _)); (try dsimp only)) | ((with_reducible show wpAny _ _ (call (Value.ref 201) [Value.ref _]) _ _ _); refine' varint_end_use (by k_asm) (by k_asm) (by k_asm) (by k_asm) (by k_asm) (by exact rfl) (by ktr_room) (by ktr_units) (by assumption) (by assumption) ?_; k_whole; intro _ _ _ _ _ _ _; (try dsimp only)) | ((with_reducible show wpAny _ _ (call (Value.ref 201) [Value.ref _]) _ _ _); refine' varint_use (by k_asm) (by k_asm) (by k_asm) (by k_asm) (by k_asm) (by exact rfl) (by ktr_room) (by ktr_units) (by assumption) (by assumption) (by assumption) (by assumption) (by assumption) (by assumption) ?_; k_whole; intro _ _ _ _ _; (try dsimp only))) | ((fail_if_success (fail_if_success (with_reducible show wpAny _ _ (call (Value.builtin _) _ _) _ _ _))); k_here; ((with_reducible show wpAny _ _ (call (Value.builtin "iter") [Value.ref _]) _ _ _); refine' iter_N (by k_asm) (by k_asm) (by k_mem) ?_; k_whole; intro _ _ _ _ zl1; (try k_lt zl1); (try (revert zl1; intro _)))) | walk1) | (leave1; (try dsimp only)))
    cases hE with
    | nil =>
      have hend := drop_end hi hd1
      repeat' (first | (k_unfold; (try dsimp only); (try (clear ek)); (try (clear qk))) | ((fail_if_success (fail_if_success (with_reducible show wpAny _ _ (execs (_ :: _) _) _ _ _))); k_fold) | (k_end; wrow_close) | ((fail_if_success (fail_if_success (with_reducible show wpAny _ _ (noteFrame _ _) _ _ _))); k_here; ((rename RaisedSN _ _ _ _ _ _ _ => zrs); (with_reducible show wpAny _ _ (noteFrame _ _) (fun _ s₂ => wpAny _ _ (setFlight _ none) (fun _ s₃ => wpAny _ _ (handleBy _ _ (ExceptHandler.ExceptHandler (some (Expr.Name ("StopIteration" : Str) _)) none _ _ :: _)) _ _ s₃) _ s₂) _ _); k_dflt (refine' caught_SN0 (T' := "StopIteration") (by assumption) (by assumption) (by assumption) (by assumption) (by assumption) (by assumption) (by assumption) (by first | assumption | exact KtsTurn.refl) (by k_is) PyProof.Rows.Boot.«StopIteration» (by decide) stop_exc stop_ntup stop_self ?_; k_whole); (revert zrs; intro _); intro _ _ _ _ _ _ _ _ _; (try k_sweep))) | ((fail_if_success (fail_if_success (with_reducible show wpAny _ _ (call (Value.ref _) _ _) _ _ _))); k_here; first | ((with_reducible show wpAny _ _ (call (Value.ref 191) _) _ _ _); refine' cls_use (by k_asm) (by k_asm) (by k_asm) (by k_asm) (by k_asm) (by exact rfl) (by ktr_room) (by ktr_units) ?_; k_whole; intro _ _ _ _ _ _ zl1 zl2; (try k_lt zl1); (try k_lt2 zl2); (try (revert zl1; intro _)); (try (revert zl2; intro _)); (try dsimp only)) | ((with_reducible show wpAny _ _ (call (Value.ref 201) [Value.ref _]) _ _ _); refine' varint_end_use (by k_asm) (by k_asm) (by k_asm) (by k_asm) (by k_asm) (by exact rfl) (by ktr_room) (by ktr_units) (by assumption) (by assumption) ?_; k_whole; intro _ _ _ _ _ _ _; (try dsimp only)) | ((with_reducible show wpAny _ _ (call (Value.ref 201) [Value.ref _]) _ _ _); refine' varint_use (by k_asm) (by k_asm) (by k_asm) (by k_asm) (by k_asm) (by exact rfl) (by ktr_room) (by ktr_units) (by assumption) (by assumption) (by assumption) (by assumption) (by assumption) (by assumption) ?_; k_whole; intro _ _ _ _ _; (try dsimp only))) | ((fail_if_success (fail_if_success (with_reducible show wpAny _ _ (call (Value.builtin _) _ _) _ _ _))); k_here; ((with_reducible show wpAny _ _ (call (Value.builtin "iter") [Value.ref _]) _ _ _); refine' iter_N (by k_asm) (by k_asm) (by k_mem) ?_; k_whole; intro _ _ _ _ zl1; (try k_lt zl1); (try (revert zl1; intro _)))) | walk1 | (dsimp only; (first | ((fail_if_success (fail_if_success (with_reducible show wpAny _ _ (noteFrame _ _) _ _ _))); k_here; ((rename RaisedSN _ _ _ _ _ _ _ => zrs); (with_reducible show wpAny _ _ (noteFrame _ _) (fun _ s₂ => wpAny _ _ (setFlight _ none) (fun _ s₃ => wpAny _ _ (handleBy _ _ (ExceptHandler.ExceptHandler (some (Expr.Name ("StopIteration" : Str) _)) none _ _ :: _)) _ _ s₃) _ s₂) _ _); k_dflt (refine' caught_SN0 (T' := "StopIteration") (by assumption) (by assumption) (by assumption) (by assumption) (by assumption) (by assumption) (by assumption) (by first | assumption | exact KtsTurn.refl) (by k_is) PyProof.Rows.Boot.«StopIteration» (by decide) stop_exc stop_ntup stop_self ?_; k_whole); (revert zrs; intro _); intro _ _ _ _ _ _ _ _ _; (try k_sweep))) | ((fail_if_success (fail_if_success (with_reducible show wpAny _ _ (call (Value.ref _) _ _) _ _ _))); k_here; first | ((with_reducible show wpAny _ _ (call (Value.ref 191) _) _ _ _); refine' cls_use (by k_asm) (by k_asm) (by k_asm) (by k_asm) (by k_asm) (by exact rfl) (by ktr_room) (by ktr_units) ?_; k_whole; intro _ _ _ _ _ _ zl1 zl2; (try k_lt zl1); (try k_lt2 zl2); (try (revert zl1; intro _)); (try (revert zl2; intro _)); (try dsimp only)) | ((with_reducible show wpAny _ _ (call (Value.ref 201) [Value.ref _]) _ _ _); refine' varint_end_use (by k_asm) (by k_asm) (by k_asm) (by k_asm) (by k_asm) (by exact rfl) (by ktr_room) (by ktr_units) (by assumption) (by assumption) ?_; k_whole; intro _ _ _ _ _ _ _; (try dsimp only)) | ((with_reducible show wpAny _ _ (call (Value.ref 201) [Value.ref _]) _ _ _); refine' varint_use (by k_asm) (by k_asm) (by k_asm) (by k_asm) (by k_asm) (by exact rfl) (by ktr_room) (by ktr_units) (by assumption) (by assumption) (by assumption) (by assumption) (by assumption) (by assumption) ?_; k_whole; intro _ _ _ _ _; (try dsimp only))) | ((fail_if_success (fail_if_success (with_reducible show wpAny _ _ (call (Value.builtin _) _ _) _ _ _))); k_here; ((with_reducible show wpAny _ _ (call (Value.builtin "iter") [Value.ref _]) _ _ _); refine' iter_N (by k_asm) (by k_asm) (by k_mem) ?_; k_whole; intro _ _ _ _ zl1; (try k_lt zl1); (try (revert zl1; intro _)))) | walk1)) | (leave1; (try dsimp only)) | fail "no step")
      exact hret _ _ _ _ _ (by assumption) (by assumption) (by assumption) (by assumption) (by assumption) (by assumption) (by assumption) ⟨e, refs, c, tl, rfl, .tail _ (.head _), fun q hq => .tail _ (.tail _ (List.mem_append_right _ hq)), fun q hq => .tail _ (.tail _ (List.mem_append_left _ hq)), by rw [hrows]; exact (List.append_nil done).symm ▸ hents⟩
    | @cons b2 n2 R2 r2 R' hb2 hb3 hr2 hr3 hv2 hE =>
      have hd2 := vi_drop hd1 hv2
      (first | ((fail_if_success (fail_if_success (with_reducible show wpAny _ _ (noteFrame _ _) _ _ _))); k_here; ((rename RaisedSN _ _ _ _ _ _ _ => zrs); (with_reducible show wpAny _ _ (noteFrame _ _) (fun _ s₂ => wpAny _ _ (setFlight _ none) (fun _ s₃ => wpAny _ _ (handleBy _ _ (ExceptHandler.ExceptHandler (some (Expr.Name ("StopIteration" : Str) _)) none _ _ :: _)) _ _ s₃) _ s₂) _ _); k_dflt (refine' caught_SN0 (T' := "StopIteration") (by assumption) (by assumption) (by assumption) (by assumption) (by assumption) (by assumption) (by assumption) (by first | assumption | exact KtsTurn.refl) (by k_is) PyProof.Rows.Boot.«StopIteration» (by decide) stop_exc stop_ntup stop_self ?_; k_whole); (revert zrs; intro _); intro _ _ _ _ _ _ _ _ _; (try k_sweep))) | ((fail_if_success (fail_if_success (with_reducible show wpAny _ _ (call (Value.ref _) _ _) _ _ _))); k_here; first | ((with_reducible show wpAny _ _ (call (Value.ref 191) _) _ _ _); refine' cls_use (by k_asm) (by k_asm) (by k_asm) (by k_asm) (by k_asm) (by exact rfl) (by ktr_room) (by ktr_units) ?_; k_whole; intro _ _ _ _ _ _ zl1 zl2; (try k_lt zl1); (try k_lt2 zl2); (try (revert zl1; intro _)); (try (revert zl2; intro _)); (try dsimp only)) | ((with_reducible show wpAny _ _ (call (Value.ref 201) [Value.ref _]) _ _ _); refine' varint_end_use (by k_asm) (by k_asm) (by k_asm) (by k_asm) (by k_asm) (by exact rfl) (by ktr_room) (by ktr_units) (by assumption) (by assumption) ?_; k_whole; intro _ _ _ _ _ _ _; (try dsimp only)) | ((with_reducible show wpAny _ _ (call (Value.ref 201) [Value.ref _]) _ _ _); refine' varint_use (by k_asm) (by k_asm) (by k_asm) (by k_asm) (by k_asm) (by exact rfl) (by ktr_room) (by ktr_units) (by assumption) (by assumption) (by assumption) (by assumption) (by assumption) (by assumption) ?_; k_whole; intro _ _ _ _ _; (try dsimp only))) | ((fail_if_success (fail_if_success (with_reducible show wpAny _ _ (call (Value.builtin _) _ _) _ _ _))); k_here; ((with_reducible show wpAny _ _ (call (Value.builtin "iter") [Value.ref _]) _ _ _); refine' iter_N (by k_asm) (by k_asm) (by k_mem) ?_; k_whole; intro _ _ _ _ zl1; (try k_lt zl1); (try (revert zl1; intro _)))))
      repeat' (first | (k_unfold; (try dsimp only); (try (clear ek)); (try (clear qk))) | ((fail_if_success (fail_if_success (with_reducible show wpAny _ _ (execs (_ :: _) _) _ _ _))); k_fold) | ((fail_if_success (with_reducible show wpAny _ _ (call (Value.ref 201) _) _ _ _)); first | ((fail_if_success (fail_if_success (with_reducible show wpAny _ _ (noteFrame _ _) _ _ _))); k_here; ((rename RaisedSN _ _ _ _ _ _ _ => zrs); (with_reducible show wpAny _ _ (noteFrame _ _) (fun _ s₂ => wpAny _ _ (setFlight _ none) (fun _ s₃ => wpAny _ _ (handleBy _ _ (ExceptHandler.ExceptHandler (some (Expr.Name ("StopIteration" : Str) _)) none _ _ :: _)) _ _ s₃) _ s₂) _ _); k_dflt (refine' caught_SN0 (T' := "StopIteration") (by assumption) (by assumption) (by assumption) (by assumption) (by assumption) (by assumption) (by assumption) (by first | assumption | exact KtsTurn.refl) (by k_is) PyProof.Rows.Boot.«StopIteration» (by decide) stop_exc stop_ntup stop_self ?_; k_whole); (revert zrs; intro _); intro _ _ _ _ _ _ _ _ _; (try k_sweep))) | ((fail_if_success (fail_if_success (with_reducible show wpAny _ _ (call (Value.ref _) _ _) _ _ _))); k_here; first | ((with_reducible show wpAny _ _ (call (Value.ref 191) _) _ _ _); refine' cls_use (by k_asm) (by k_asm) (by k_asm) (by k_asm) (by k_asm) (by exact rfl) (by ktr_room) (by ktr_units) ?_; k_whole; intro _ _ _ _ _ _ zl1 zl2; (try k_lt zl1); (try k_lt2 zl2); (try (revert zl1; intro _)); (try (revert zl2; intro _)); (try dsimp only)) | ((with_reducible show wpAny _ _ (call (Value.ref 201) [Value.ref _]) _ _ _); refine' varint_end_use (by k_asm) (by k_asm) (by k_asm) (by k_asm) (by k_asm) (by exact rfl) (by ktr_room) (by ktr_units) (by assumption) (by assumption) ?_; k_whole; intro _ _ _ _ _ _ _; (try dsimp only)) | ((with_reducible show wpAny _ _ (call (Value.ref 201) [Value.ref _]) _ _ _); refine' varint_use (by k_asm) (by k_asm) (by k_asm) (by k_asm) (by k_asm) (by exact rfl) (by ktr_room) (by ktr_units) (by assumption) (by assumption) (by assumption) (by assumption) (by assumption) (by assumption) ?_; k_whole; intro _ _ _ _ _; (try dsimp only))) | ((fail_if_success (fail_if_success (with_reducible show wpAny _ _ (call (Value.builtin _) _ _) _ _ _))); k_here; ((with_reducible show wpAny _ _ (call (Value.builtin "iter") [Value.ref _]) _ _ _); refine' iter_N (by k_asm) (by k_asm) (by k_mem) ?_; k_whole; intro _ _ _ _ zl1; (try k_lt zl1); (try (revert zl1; intro _)))) | walk1) | (leave1; (try dsimp only)))
      cases hE with
      | nil =>
        have hend := drop_end hi hd2
        repeat' (first | (k_unfold; (try dsimp only); (try (clear ek)); (try (clear qk))) | ((fail_if_success (fail_if_success (with_reducible show wpAny _ _ (execs (_ :: _) _) _ _ _))); k_fold) | (k_end; wrow_close) | ((fail_if_success (fail_if_success (with_reducible show wpAny _ _ (noteFrame _ _) _ _ _))); k_here; ((rename RaisedSN _ _ _ _ _ _ _ => zrs); (with_reducible show wpAny _ _ (noteFrame _ _) (fun _ s₂ => wpAny _ _ (setFlight _ none) (fun _ s₃ => wpAny _ _ (handleBy _ _ (ExceptHandler.ExceptHandler (some (Expr.Name ("StopIteration" : Str) _)) none _ _ :: _)) _ _ s₃) _ s₂) _ _); k_dflt (refine' caught_SN0 (T' := "StopIteration") (by assumption) (by assumption) (by assumption) (by assumption) (by assumption) (by assumption) (by assumption) (by first | assumption | exact KtsTurn.refl) (by k_is) PyProof.Rows.Boot.«StopIteration» (by decide) stop_exc stop_ntup stop_self ?_; k_whole); (revert zrs; intro _); intro _ _ _ _ _ _ _ _ _; (try k_sweep))) | ((fail_if_success (fail_if_success (with_reducible show wpAny _ _ (call (Value.ref _) _ _) _ _ _))); k_here; first | ((with_reducible show wpAny _ _ (call (Value.ref 191) _) _ _ _); refine' cls_use (by k_asm) (by k_asm) (by k_asm) (by k_asm) (by k_asm) (by exact rfl) (by ktr_room) (by ktr_units) ?_; k_whole; intro _ _ _ _ _ _ zl1 zl2; (try k_lt zl1); (try k_lt2 zl2); (try (revert zl1; intro _)); (try (revert zl2; intro _)); (try dsimp only)) | ((with_reducible show wpAny _ _ (call (Value.ref 201) [Value.ref _]) _ _ _); refine' varint_end_use (by k_asm) (by k_asm) (by k_asm) (by k_asm) (by k_asm) (by exact rfl) (by ktr_room) (by ktr_units) (by assumption) (by assumption) ?_; k_whole; intro _ _ _ _ _ _ _; (try dsimp only)) | ((with_reducible show wpAny _ _ (call (Value.ref 201) [Value.ref _]) _ _ _); refine' varint_use (by k_asm) (by k_asm) (by k_asm) (by k_asm) (by k_asm) (by exact rfl) (by ktr_room) (by ktr_units) (by assumption) (by assumption) (by assumption) (by assumption) (by assumption) (by assumption) ?_; k_whole; intro _ _ _ _ _; (try dsimp only))) | ((fail_if_success (fail_if_success (with_reducible show wpAny _ _ (call (Value.builtin _) _ _) _ _ _))); k_here; ((with_reducible show wpAny _ _ (call (Value.builtin "iter") [Value.ref _]) _ _ _); refine' iter_N (by k_asm) (by k_asm) (by k_mem) ?_; k_whole; intro _ _ _ _ zl1; (try k_lt zl1); (try (revert zl1; intro _)))) | walk1 | (dsimp only; (first | ((fail_if_success (fail_if_success (with_reducible show wpAny _ _ (noteFrame _ _) _ _ _))); k_here; ((rename RaisedSN _ _ _ _ _ _ _ => zrs); (with_reducible show wpAny _ _ (noteFrame _ _) (fun _ s₂ => wpAny _ _ (setFlight _ none) (fun _ s₃ => wpAny _ _ (handleBy _ _ (ExceptHandler.ExceptHandler (some (Expr.Name ("StopIteration" : Str) _)) none _ _ :: _)) _ _ s₃) _ s₂) _ _); k_dflt (refine' caught_SN0 (T' := "StopIteration") (by assumption) (by assumption) (by assumption) (by assumption) (by assumption) (by assumption) (by assumption) (by first | assumption | exact KtsTurn.refl) (by k_is) PyProof.Rows.Boot.«StopIteration» (by decide) stop_exc stop_ntup stop_self ?_; k_whole); (revert zrs; intro _); intro _ _ _ _ _ _ _ _ _; (try k_sweep))) | ((fail_if_success (fail_if_success (with_reducible show wpAny _ _ (call (Value.ref _) _ _) _ _ _))); k_here; first | ((with_reducible show wpAny _ _ (call (Value.ref 191) _) _ _ _); refine' cls_use (by k_asm) (by k_asm) (by k_asm) (by k_asm) (by k_asm) (by exact rfl) (by ktr_room) (by ktr_units) ?_; k_whole; intro _ _ _ _ _ _ zl1 zl2; (try k_lt zl1); (try k_lt2 zl2); (try (revert zl1; intro _)); (try (revert zl2; intro _)); (try dsimp only)) | ((with_reducible show wpAny _ _ (call (Value.ref 201) [Value.ref _]) _ _ _); refine' varint_end_use (by k_asm) (by k_asm) (by k_asm) (by k_asm) (by k_asm) (by exact rfl) (by ktr_room) (by ktr_units) (by assumption) (by assumption) ?_; k_whole; intro _ _ _ _ _ _ _; (try dsimp only)) | ((with_reducible show wpAny _ _ (call (Value.ref 201) [Value.ref _]) _ _ _); refine' varint_use (by k_asm) (by k_asm) (by k_asm) (by k_asm) (by k_asm) (by exact rfl) (by ktr_room) (by ktr_units) (by assumption) (by assumption) (by assumption) (by assumption) (by assumption) (by assumption) ?_; k_whole; intro _ _ _ _ _; (try dsimp only))) | ((fail_if_success (fail_if_success (with_reducible show wpAny _ _ (call (Value.builtin _) _ _) _ _ _))); k_here; ((with_reducible show wpAny _ _ (call (Value.builtin "iter") [Value.ref _]) _ _ _); refine' iter_N (by k_asm) (by k_asm) (by k_mem) ?_; k_whole; intro _ _ _ _ zl1; (try k_lt zl1); (try (revert zl1; intro _)))) | walk1)) | (leave1; (try dsimp only)) | fail "no step")
        exact hret _ _ _ _ _ (by assumption) (by assumption) (by assumption) (by assumption) (by assumption) (by assumption) (by assumption) ⟨e, refs, c, tl, rfl, .tail _ (.head _), fun q hq => .tail _ (.tail _ (List.mem_append_right _ hq)), fun q hq => .tail _ (.tail _ (List.mem_append_left _ hq)), by rw [hrows]; exact (List.append_nil done).symm ▸ hents⟩
      | @cons b3 n3 R3 r3 R' hb4 hb5 hr4 hr5 hv3 hE =>
        have hd3 := vi_drop hd2 hv3
        (first | ((fail_if_success (fail_if_success (with_reducible show wpAny _ _ (noteFrame _ _) _ _ _))); k_here; ((rename RaisedSN _ _ _ _ _ _ _ => zrs); (with_reducible show wpAny _ _ (noteFrame _ _) (fun _ s₂ => wpAny _ _ (setFlight _ none) (fun _ s₃ => wpAny _ _ (handleBy _ _ (ExceptHandler.ExceptHandler (some (Expr.Name ("StopIteration" : Str) _)) none _ _ :: _)) _ _ s₃) _ s₂) _ _); k_dflt (refine' caught_SN0 (T' := "StopIteration") (by assumption) (by assumption) (by assumption) (by assumption) (by assumption) (by assumption) (by assumption) (by first | assumption | exact KtsTurn.refl) (by k_is) PyProof.Rows.Boot.«StopIteration» (by decide) stop_exc stop_ntup stop_self ?_; k_whole); (revert zrs; intro _); intro _ _ _ _ _ _ _ _ _; (try k_sweep))) | ((fail_if_success (fail_if_success (with_reducible show wpAny _ _ (call (Value.ref _) _ _) _ _ _))); k_here; first | ((with_reducible show wpAny _ _ (call (Value.ref 191) _) _ _ _); refine' cls_use (by k_asm) (by k_asm) (by k_asm) (by k_asm) (by k_asm) (by exact rfl) (by ktr_room) (by ktr_units) ?_; k_whole; intro _ _ _ _ _ _ zl1 zl2; (try k_lt zl1); (try k_lt2 zl2); (try (revert zl1; intro _)); (try (revert zl2; intro _)); (try dsimp only)) | ((with_reducible show wpAny _ _ (call (Value.ref 201) [Value.ref _]) _ _ _); refine' varint_end_use (by k_asm) (by k_asm) (by k_asm) (by k_asm) (by k_asm) (by exact rfl) (by ktr_room) (by ktr_units) (by assumption) (by assumption) ?_; k_whole; intro _ _ _ _ _ _ _; (try dsimp only)) | ((with_reducible show wpAny _ _ (call (Value.ref 201) [Value.ref _]) _ _ _); refine' varint_use (by k_asm) (by k_asm) (by k_asm) (by k_asm) (by k_asm) (by exact rfl) (by ktr_room) (by ktr_units) (by assumption) (by assumption) (by assumption) (by assumption) (by assumption) (by assumption) ?_; k_whole; intro _ _ _ _ _; (try dsimp only))) | ((fail_if_success (fail_if_success (with_reducible show wpAny _ _ (call (Value.builtin _) _ _) _ _ _))); k_here; ((with_reducible show wpAny _ _ (call (Value.builtin "iter") [Value.ref _]) _ _ _); refine' iter_N (by k_asm) (by k_asm) (by k_mem) ?_; k_whole; intro _ _ _ _ zl1; (try k_lt zl1); (try (revert zl1; intro _)))))
        repeat' (first | (k_unfold; (try dsimp only); (try (clear ek)); (try (clear qk))) | ((fail_if_success (fail_if_success (with_reducible show wpAny _ _ (execs (_ :: _) _) _ _ _))); k_fold) | ((fail_if_success (with_reducible show wpAny _ _ (call (Value.ref 201) _) _ _ _)); first | ((fail_if_success (fail_if_success (with_reducible show wpAny _ _ (noteFrame _ _) _ _ _))); k_here; ((rename RaisedSN _ _ _ _ _ _ _ => zrs); (with_reducible show wpAny _ _ (noteFrame _ _) (fun _ s₂ => wpAny _ _ (setFlight _ none) (fun _ s₃ => wpAny _ _ (handleBy _ _ (ExceptHandler.ExceptHandler (some (Expr.Name ("StopIteration" : Str) _)) none _ _ :: _)) _ _ s₃) _ s₂) _ _); k_dflt (refine' caught_SN0 (T' := "StopIteration") (by assumption) (by assumption) (by assumption) (by assumption) (by assumption) (by assumption) (by assumption) (by first | assumption | exact KtsTurn.refl) (by k_is) PyProof.Rows.Boot.«StopIteration» (by decide) stop_exc stop_ntup stop_self ?_; k_whole); (revert zrs; intro _); intro _ _ _ _ _ _ _ _ _; (try k_sweep))) | ((fail_if_success (fail_if_success (with_reducible show wpAny _ _ (call (Value.ref _) _ _) _ _ _))); k_here; first | ((with_reducible show wpAny _ _ (call (Value.ref 191) _) _ _ _); refine' cls_use (by k_asm) (by k_asm) (by k_asm) (by k_asm) (by k_asm) (by exact rfl) (by ktr_room) (by ktr_units) ?_; k_whole; intro _ _ _ _ _ _ zl1 zl2; (try k_lt zl1); (try k_lt2 zl2); (try (revert zl1; intro _)); (try (revert zl2; intro _)); (try dsimp only)) | ((with_reducible show wpAny _ _ (call (Value.ref 201) [Value.ref _]) _ _ _); refine' varint_end_use (by k_asm) (by k_asm) (by k_asm) (by k_asm) (by k_asm) (by exact rfl) (by ktr_room) (by ktr_units) (by assumption) (by assumption) ?_; k_whole; intro _ _ _ _ _ _ _; (try dsimp only)) | ((with_reducible show wpAny _ _ (call (Value.ref 201) [Value.ref _]) _ _ _); refine' varint_use (by k_asm) (by k_asm) (by k_asm) (by k_asm) (by k_asm) (by exact rfl) (by ktr_room) (by ktr_units) (by assumption) (by assumption) (by assumption) (by assumption) (by assumption) (by assumption) ?_; k_whole; intro _ _ _ _ _; (try dsimp only))) | ((fail_if_success (fail_if_success (with_reducible show wpAny _ _ (call (Value.builtin _) _ _) _ _ _))); k_here; ((with_reducible show wpAny _ _ (call (Value.builtin "iter") [Value.ref _]) _ _ _); refine' iter_N (by k_asm) (by k_asm) (by k_mem) ?_; k_whole; intro _ _ _ _ zl1; (try k_lt zl1); (try (revert zl1; intro _)))) | walk1) | (leave1; (try dsimp only)))
        cases hE with
        | nil =>
          have hend := drop_end hi hd3
          repeat' (first | (k_unfold; (try dsimp only); (try (clear ek)); (try (clear qk))) | ((fail_if_success (fail_if_success (with_reducible show wpAny _ _ (execs (_ :: _) _) _ _ _))); k_fold) | (k_end; wrow_close) | ((fail_if_success (fail_if_success (with_reducible show wpAny _ _ (noteFrame _ _) _ _ _))); k_here; ((rename RaisedSN _ _ _ _ _ _ _ => zrs); (with_reducible show wpAny _ _ (noteFrame _ _) (fun _ s₂ => wpAny _ _ (setFlight _ none) (fun _ s₃ => wpAny _ _ (handleBy _ _ (ExceptHandler.ExceptHandler (some (Expr.Name ("StopIteration" : Str) _)) none _ _ :: _)) _ _ s₃) _ s₂) _ _); k_dflt (refine' caught_SN0 (T' := "StopIteration") (by assumption) (by assumption) (by assumption) (by assumption) (by assumption) (by assumption) (by assumption) (by first | assumption | exact KtsTurn.refl) (by k_is) PyProof.Rows.Boot.«StopIteration» (by decide) stop_exc stop_ntup stop_self ?_; k_whole); (revert zrs; intro _); intro _ _ _ _ _ _ _ _ _; (try k_sweep))) | ((fail_if_success (fail_if_success (with_reducible show wpAny _ _ (call (Value.ref _) _ _) _ _ _))); k_here; first | ((with_reducible show wpAny _ _ (call (Value.ref 191) _) _ _ _); refine' cls_use (by k_asm) (by k_asm) (by k_asm) (by k_asm) (by k_asm) (by exact rfl) (by ktr_room) (by ktr_units) ?_; k_whole; intro _ _ _ _ _ _ zl1 zl2; (try k_lt zl1); (try k_lt2 zl2); (try (revert zl1; intro _)); (try (revert zl2; intro _)); (try dsimp only)) | ((with_reducible show wpAny _ _ (call (Value.ref 201) [Value.ref _]) _ _ _); refine' varint_end_use (by k_asm) (by k_asm) (by k_asm) (by k_asm) (by k_asm) (by exact rfl) (by ktr_room) (by ktr_units) (by assumption) (by assumption) ?_; k_whole; intro _ _ _ _ _ _ _; (try dsimp only)) | ((with_reducible show wpAny _ _ (call (Value.ref 201) [Value.ref _]) _ _ _); refine' varint_use (by k_asm) (by k_asm) (by k_asm) (by k_asm) (by k_asm) (by exact rfl) (by ktr_room) (by ktr_units) (by assumption) (by assumption) (by assumption) (by assumption) (by assumption) (by assumption) ?_; k_whole; intro _ _ _ _ _; (try dsimp only))) | ((fail_if_success (fail_if_success (with_reducible show wpAny _ _ (call (Value.builtin _) _ _) _ _ _))); k_here; ((with_reducible show wpAny _ _ (call (Value.builtin "iter") [Value.ref _]) _ _ _); refine' iter_N (by k_asm) (by k_asm) (by k_mem) ?_; k_whole; intro _ _ _ _ zl1; (try k_lt zl1); (try (revert zl1; intro _)))) | walk1 | (dsimp only; (first | ((fail_if_success (fail_if_success (with_reducible show wpAny _ _ (noteFrame _ _) _ _ _))); k_here; ((rename RaisedSN _ _ _ _ _ _ _ => zrs); (with_reducible show wpAny _ _ (noteFrame _ _) (fun _ s₂ => wpAny _ _ (setFlight _ none) (fun _ s₃ => wpAny _ _ (handleBy _ _ (ExceptHandler.ExceptHandler (some (Expr.Name ("StopIteration" : Str) _)) none _ _ :: _)) _ _ s₃) _ s₂) _ _); k_dflt (refine' caught_SN0 (T' := "StopIteration") (by assumption) (by assumption) (by assumption) (by assumption) (by assumption) (by assumption) (by assumption) (by first | assumption | exact KtsTurn.refl) (by k_is) PyProof.Rows.Boot.«StopIteration» (by decide) stop_exc stop_ntup stop_self ?_; k_whole); (revert zrs; intro _); intro _ _ _ _ _ _ _ _ _; (try k_sweep))) | ((fail_if_success (fail_if_success (with_reducible show wpAny _ _ (call (Value.ref _) _ _) _ _ _))); k_here; first | ((with_reducible show wpAny _ _ (call (Value.ref 191) _) _ _ _); refine' cls_use (by k_asm) (by k_asm) (by k_asm) (by k_asm) (by k_asm) (by exact rfl) (by ktr_room) (by ktr_units) ?_; k_whole; intro _ _ _ _ _ _ zl1 zl2; (try k_lt zl1); (try k_lt2 zl2); (try (revert zl1; intro _)); (try (revert zl2; intro _)); (try dsimp only)) | ((with_reducible show wpAny _ _ (call (Value.ref 201) [Value.ref _]) _ _ _); refine' varint_end_use (by k_asm) (by k_asm) (by k_asm) (by k_asm) (by k_asm) (by exact rfl) (by ktr_room) (by ktr_units) (by assumption) (by assumption) ?_; k_whole; intro _ _ _ _ _ _ _; (try dsimp only)) | ((with_reducible show wpAny _ _ (call (Value.ref 201) [Value.ref _]) _ _ _); refine' varint_use (by k_asm) (by k_asm) (by k_asm) (by k_asm) (by k_asm) (by exact rfl) (by ktr_room) (by ktr_units) (by assumption) (by assumption) (by assumption) (by assumption) (by assumption) (by assumption) ?_; k_whole; intro _ _ _ _ _; (try dsimp only))) | ((fail_if_success (fail_if_success (with_reducible show wpAny _ _ (call (Value.builtin _) _ _) _ _ _))); k_here; ((with_reducible show wpAny _ _ (call (Value.builtin "iter") [Value.ref _]) _ _ _); refine' iter_N (by k_asm) (by k_asm) (by k_mem) ?_; k_whole; intro _ _ _ _ zl1; (try k_lt zl1); (try (revert zl1; intro _)))) | walk1)) | (leave1; (try dsimp only)) | fail "no step")
          exact hret _ _ _ _ _ (by assumption) (by assumption) (by assumption) (by assumption) (by assumption) (by assumption) (by assumption) ⟨e, refs, c, tl, rfl, .tail _ (.head _), fun q hq => .tail _ (.tail _ (List.mem_append_right _ hq)), fun q hq => .tail _ (.tail _ (List.mem_append_left _ hq)), by rw [hrows]; exact (List.append_nil done).symm ▸ hents⟩
        | @cons b4 n4 R4 r4 R' hb6 hb7 hr6 hr7 hv4 hE =>
          have hd4 := vi_drop hd3 hv4
          have hz : refs.length ≤ 1000 := by simp only [List.length_cons] at hsz; omega
          repeat' (first | (k_unfold; (try dsimp only); (try (clear ek)); (try (clear qk))) | ((fail_if_success (fail_if_success (with_reducible show wpAny _ _ (execs (_ :: _) _) _ _ _))); k_fold) | (k_end; wrow_close) | ((fail_if_success (fail_if_success (with_reducible show wpAny _ _ (noteFrame _ _) _ _ _))); k_here; ((rename RaisedSN _ _ _ _ _ _ _ => zrs); (with_reducible show wpAny _ _ (noteFrame _ _) (fun _ s₂ => wpAny _ _ (setFlight _ none) (fun _ s₃ => wpAny _ _ (handleBy _ _ (ExceptHandler.ExceptHandler (some (Expr.Name ("StopIteration" : Str) _)) none _ _ :: _)) _ _ s₃) _ s₂) _ _); k_dflt (refine' caught_SN0 (T' := "StopIteration") (by assumption) (by assumption) (by assumption) (by assumption) (by assumption) (by assumption) (by assumption) (by first | assumption | exact KtsTurn.refl) (by k_is) PyProof.Rows.Boot.«StopIteration» (by decide) stop_exc stop_ntup stop_self ?_; k_whole); (revert zrs; intro _); intro _ _ _ _ _ _ _ _ _; (try k_sweep))) | ((fail_if_success (fail_if_success (with_reducible show wpAny _ _ (call (Value.ref _) _ _) _ _ _))); k_here; first | ((with_reducible show wpAny _ _ (call (Value.ref 191) _) _ _ _); refine' cls_use (by k_asm) (by k_asm) (by k_asm) (by k_asm) (by k_asm) (by exact rfl) (by ktr_room) (by ktr_units) ?_; k_whole; intro _ _ _ _ _ _ zl1 zl2; (try k_lt zl1); (try k_lt2 zl2); (try (revert zl1; intro _)); (try (revert zl2; intro _)); (try dsimp only)) | ((with_reducible show wpAny _ _ (call (Value.ref 201) [Value.ref _]) _ _ _); refine' varint_end_use (by k_asm) (by k_asm) (by k_asm) (by k_asm) (by k_asm) (by exact rfl) (by ktr_room) (by ktr_units) (by assumption) (by assumption) ?_; k_whole; intro _ _ _ _ _ _ _; (try dsimp only)) | ((with_reducible show wpAny _ _ (call (Value.ref 201) [Value.ref _]) _ _ _); refine' varint_use (by k_asm) (by k_asm) (by k_asm) (by k_asm) (by k_asm) (by exact rfl) (by ktr_room) (by ktr_units) (by assumption) (by assumption) (by assumption) (by assumption) (by assumption) (by assumption) ?_; k_whole; intro _ _ _ _ _; (try dsimp only))) | ((fail_if_success (fail_if_success (with_reducible show wpAny _ _ (call (Value.builtin _) _ _) _ _ _))); k_here; ((with_reducible show wpAny _ _ (call (Value.builtin "iter") [Value.ref _]) _ _ _); refine' iter_N (by k_asm) (by k_asm) (by k_mem) ?_; k_whole; intro _ _ _ _ zl1; (try k_lt zl1); (try (revert zl1; intro _)))) | walk1 | (dsimp only; (first | ((fail_if_success (fail_if_success (with_reducible show wpAny _ _ (noteFrame _ _) _ _ _))); k_here; ((rename RaisedSN _ _ _ _ _ _ _ => zrs); (with_reducible show wpAny _ _ (noteFrame _ _) (fun _ s₂ => wpAny _ _ (setFlight _ none) (fun _ s₃ => wpAny _ _ (handleBy _ _ (ExceptHandler.ExceptHandler (some (Expr.Name ("StopIteration" : Str) _)) none _ _ :: _)) _ _ s₃) _ s₂) _ _); k_dflt (refine' caught_SN0 (T' := "StopIteration") (by assumption) (by assumption) (by assumption) (by assumption) (by assumption) (by assumption) (by assumption) (by first | assumption | exact KtsTurn.refl) (by k_is) PyProof.Rows.Boot.«StopIteration» (by decide) stop_exc stop_ntup stop_self ?_; k_whole); (revert zrs; intro _); intro _ _ _ _ _ _ _ _ _; (try k_sweep))) | ((fail_if_success (fail_if_success (with_reducible show wpAny _ _ (call (Value.ref _) _ _) _ _ _))); k_here; first | ((with_reducible show wpAny _ _ (call (Value.ref 191) _) _ _ _); refine' cls_use (by k_asm) (by k_asm) (by k_asm) (by k_asm) (by k_asm) (by exact rfl) (by ktr_room) (by ktr_units) ?_; k_whole; intro _ _ _ _ _ _ zl1 zl2; (try k_lt zl1); (try k_lt2 zl2); (try (revert zl1; intro _)); (try (revert zl2; intro _)); (try dsimp only)) | ((with_reducible show wpAny _ _ (call (Value.ref 201) [Value.ref _]) _ _ _); refine' varint_end_use (by k_asm) (by k_asm) (by k_asm) (by k_asm) (by k_asm) (by exact rfl) (by ktr_room) (by ktr_units) (by assumption) (by assumption) ?_; k_whole; intro _ _ _ _ _ _ _; (try dsimp only)) | ((with_reducible show wpAny _ _ (call (Value.ref 201) [Value.ref _]) _ _ _); refine' varint_use (by k_asm) (by k_asm) (by k_asm) (by k_asm) (by k_asm) (by exact rfl) (by ktr_room) (by ktr_units) (by assumption) (by assumption) (by assumption) (by assumption) (by assumption) (by assumption) ?_; k_whole; intro _ _ _ _ _; (try dsimp only))) | ((fail_if_success (fail_if_success (with_reducible show wpAny _ _ (call (Value.builtin _) _ _) _ _ _))); k_here; ((with_reducible show wpAny _ _ (call (Value.builtin "iter") [Value.ref _]) _ _ _); refine' iter_N (by k_asm) (by k_asm) (by k_mem) ?_; k_whole; intro _ _ _ _ zl1; (try k_lt zl1); (try (revert zl1; intro _)))) | walk1)) | (leave1; (try dsimp only)) | fail "no step")
          rename Fr _ _ _ _ => FF
          rename News _ _ _ _ => NN
          rename_i x9 d9 h9 tk9 q1 q2 hh
          have ew : ∀ q ∈ ((it, liObj l (ns.length - r4.length)) :: (l, listOf vs.toArray c0) :: (e, listOf (refs ++ [Value.ref x9]).toArray (c + 1)) ::
              (((x9, entObj d9 #[Value.int (n1 * 2) _, Value.int (n1 * 2 + n2 * 2) _, Value.int (n3 * 2) _, Value.int (n4.fdiv (2 ^ Int.toNat 1)) _, Value.bool (Builtin.bitAnd n4 1 != 0)]) :: (d9, emptyDict) :: tl) ++ news) : List (Addr × Obj)), _ := fun q hq => NN q (by
            rw [List.push_toArray]
            exact reorder5 (r := tl ++ news) hq)
          refine ⟨_, _, _, _, R'.length, rfl, FF, ew, by simp only [List.length_cons]; omega, ns.length - r4.length, r4, R', refs ++ [.ref x9], c + 1, _, done ++ [(n1, n2, n3, n4)], rfl, rfl, rfl, ?_, hd4, hE, ?_, ?_, ?_, rfl⟩
          · intro q hq
            simp only [List.cons_append, List.mem_cons] at hq
            rcases hq with rfl | rfl | hq
            · exact ⟨Nat.ne_of_gt (Nat.lt_trans q1.2.2.1 q2), Nat.ne_of_gt (Nat.lt_trans q1.1 q2)⟩
            · exact ⟨Nat.ne_of_gt q1.2.2.1, Nat.ne_of_gt q1.1⟩
            · exact hoff q hq
          · rw [hrows, List.append_assoc]; rfl
          · exact .snoc (hents.mono fun q hq => .tail _ (.tail _ hq)) (.head _) (ent_vals hr6)
          · simp only [List.length_append, List.length_cons, List.length_nil] at hsz ⊢
            omega
end
section
section
variable {w : World} {p : Program} {loose : List Str} {mean : ExcName → Option Value} {mg mb : Str → Option Value}
  {dp un : Nat} {gd : Option (List Code)} {cn : Str} {cs : Scope} {a : Addr} {ccd : Value} {outer : List Env} {A₀ : Around} {base h₀ : Heap} {L : Addr} {m : Str → Option Value} {s : Shared} {Q E : Value → Shared → Prop}
theorem parse_use {x d l : Addr} {c0 : Nat} {tk : Tok} {vs : List Value} {ns nums : List Int} {news : List (Addr × Obj)}
    (B : Below A₀ base outer h₀) (F : Fr h₀ L s.heap m) (X : (Mine.hd.heap_39 w.params).In h₀) (N : News h₀ L s.heap ((x, instObj 97 d) :: (d, dictOf [{ hash := PyData.keyHash w.params (Str.ofString "co_exceptiontable"), key := Value.str (Str.ofString "co_exceptiontable") tk, val := Value.ref l }] 1) :: (l, listOf vs.toArray c0) :: news)) (T : Top p loose mean mg mb h₀) (hk : cs.kind = .function)
    (hd : dp + 14 < recursionLimit) (hu : un + 140 < cLine) (XB : (Mine.hd.heap_39 w.params).In base) (TB : Top p loose mean mg mb base) (D : KtsDicts (outer.filterMap (·.frame)) h₀) (hi : IntsAre vs ns) (he : Enc ns nums) (hlen : ns.length ≤ 400)
    (ret : ∀ e refs c tl nx h' tk' g, KtsTurn (outer.filterMap (·.frame)) h₀ g → Fr g L h' m → News g L h' nx → Below A₀ base outer g → (Mine.hd.heap_39 w.params).In g → Top p loose mean mg mb g → KtsDicts (outer.filterMap (·.frame)) g →
      (e, listOf refs.toArray c) ∈ nx → (∀ p ∈ news, p ∈ nx) → (∀ p ∈ tl, p ∈ nx) → EntsAre tl refs (rows4 nums) → Q (.ref e) { s with heap := h', toks := tk' }) :
    wpAny (model PR w) (ktrTop dp un gd cn cs L a ccd [] outer) (call (.ref 208) [.ref x]) Q E s :=
  parse_spec w p loose mean mg mb x d l c0 tk vs ns nums hi he hlen news dp un gd cn cs a ccd outer A₀ base h₀ L m s Q E B F X N T hk hd hu XB TB D (by
    rintro r nx h' tk' g T' F' N' B' X' P' D' ⟨e, refs, c, tl, rfl, h1, h2, h3, h4⟩
    exact ret e refs c tl nx h' tk' g T' F' N' B' X' P' D' h1 h2 h3 h4)
end
theorem entries_spec (w : World) (p : Program) (loose : List Str) (mean : ExcName → Option Value) (mg mb : Str → Option Value) (l : Addr) (c0 : Nat) (vs : List Value) (ns nums : List Int) (hi : IntsAre vs ns) (he : Enc ns nums) (hlen : ns.length ≤ 400) (news : List (Addr × Obj)) :
    GivesS w p loose mean mg mb 292 18 180 ((l, listOf vs.toArray c0) :: news) [.ref l]
      (fun r nx => ∃ e refs c tl, r = .ref e ∧ (e, listOf refs.toArray c) ∈ nx ∧ (∀ p ∈ news, p ∈ nx) ∧ (∀ p ∈ tl, p ∈ nx) ∧ EntsAre tl refs (rows4 nums)) := by
  w_on
  intro dp un gd cn cs a ccd outer A₀ base h₀ L m s Q E B F X N T hk hd hu XB TB KD hret
  refine wpAny_call ?_
  refine' code_defS ?k1 ?k2 ?k3 ?k4 ?k5 ?XB ?TB ?D ?T0 ?kA ?k6 ?k7 ?k8 ?k9 ?kB ?_ ?cK ?c2 ?c3 ?c4 ?c5
  case kA => exact rfl
  case k2 => exact F
  case k1 => exact B
  case XB => exact XB
  case TB => exact TB
  case D => exact KD
  case T0 => exact KtsTurn.refl
  case k3 => exact X
  case k4 => exact N
  case k5 => exact T
  case k6 => k_dflt k_is
  case k7 => k_dflt k_is
  case k8 => ktr_room
  case k9 => exact BindsTo.of_eq rfl
  case kB => exact locs rfl
  case cK => exact hk
  case c2 => exact rfl
  case c3 => exact rfl
  case c4 => exact rfl
  case c5 => decide
  intro g' L' h' FG' F' N' B' X' T' D'
  dsimp only
  k_fold
  repeat' (first | (k_unfold; (try dsimp only); (try (clear ek)); (try (clear qk))) | ((fail_if_success (fail_if_success (with_reducible show wpAny _ _ (execs (_ :: _) _) _ _ _))); k_fold) | (k_end; wrow_close) | ((fail_if_success (fail_if_success (with_reducible show wpAny _ _ (call (Value.ref _) _ _) _ _ _))); k_here; ((with_reducible show wpAny _ _ (call (Value.ref 208) _) _ _ _); refine' parse_use (by k_asm) (by k_asm) (by k_asm) (by k_asm) (by k_asm) (by exact rfl) (by ktr_room) (by ktr_units) (by assumption) (by assumption) (by assumption) (by assumption) (by assumption) (by assumption) ?_; k_whole; intro _ _ _ _ _ _ _ _ _ _ _ _ _ _ _ _ _ _ _; (try dsimp only))) | walk1 | (dsimp only; (first | ((fail_if_success (fail_if_success (with_reducible show wpAny _ _ (call (Value.ref _) _ _) _ _ _))); k_here; ((with_reducible show wpAny _ _ (call (Value.ref 208) _) _ _ _); refine' parse_use (by k_asm) (by k_asm) (by k_asm) (by k_asm) (by k_asm) (by exact rfl) (by ktr_room) (by ktr_units) (by assumption) (by assumption) (by assumption) (by assumption) (by assumption) (by assumption) ?_; k_whole; intro _ _ _ _ _ _ _ _ _ _ _ _ _ _ _ _ _ _ _; (try dsimp only))) | walk1)) | (leave1; (try dsimp only)) | fail "no step")
  exact hret _ _ _ _ _ (by assumption) (by assumption) (by assumption) (by assumption) (by assumption) (by assumption) (by assumption) ⟨_, _, _, _, rfl, by assumption, by assumption, by assumption, by assumption⟩
end
section
/-- the further figures of a number, the lowest first -/
noncomputable def moreFigs : Nat → Nat → List Int
  | 0, _ => []
  | k + 1, n => if n > 63 then ((n / 64 % 64 + 64 : Nat) : Int) :: moreFigs k (n / 64) else []
noncomputable def figsOf (n : Nat) : List Int := ((n % 64 : Nat) : Int) :: moreFigs n n
noncomputable def octsOf (ns : List Nat) : List Int := ns.flatMap fun n => (figsOf n).reverse
theorem moreFigs_fuel : ∀ (n k j : Nat), n ≤ k → n ≤ j → moreFigs k n = moreFigs j n := by
  intro n
  induction n using Nat.strongRecOn with
  | ind n ih =>
    intro k j hk hj
    cases k with
    | zero => cases j with
      | zero => rfl
      | succ j => have : n = 0 := by omega
                  subst this; rfl
    | succ k => cases j with
      | zero => have : n = 0 := by omega
                subst this; rfl
      | succ j =>
        unfold moreFigs
        by_cases h : n > 63
        · rw [if_pos h, if_pos h, ih (n / 64) (by omega) k j (by omega) (by omega)]
        · rw [if_neg h, if_neg h]
theorem moreFigs_step {n : Nat} (h : n > 63) : moreFigs n n = ((n / 64 % 64 + 64 : Nat) : Int) :: moreFigs (n / 64) (n / 64) := by
  cases n with
  | zero => omega
  | succ k =>
    rw [moreFigs, if_pos h, moreFigs_fuel ((k + 1) / 64) k _ (by omega) (Nat.le_refl _)]
theorem moreFigs_stop {n : Nat} (h : ¬ n > 63) : moreFigs n n = [] := by
  cases n with
  | zero => rfl
  | succ k => rw [moreFigs, if_neg h]
theorem moreFigs_len : ∀ (k n : Nat), n < 64 ^ (k + 1) → ∀ f, (moreFigs f n).length ≤ k := by
  intro k
  induction k with
  | zero => intro n h f; cases f with
    | zero => exact Nat.le_refl _
    | succ f => rw [moreFigs, if_neg (by omega)]; exact Nat.le_refl _
  | succ k ih => intro n h f; cases f with
    | zero => exact Nat.zero_le _
    | succ f =>
      rw [moreFigs]
      split
      · have := ih (n / 64) (by rw [Nat.pow_succ] at h; omega) f
        simp only [List.length_cons]; omega
      · exact Nat.zero_le _
theorem figs_len {n : Nat} (h : n < 64 ^ 6) : (figsOf n).length ≤ 6 := by
  have := moreFigs_len 5 n h n
  simp only [figsOf, List.length_cons]; omega
theorem octs_len : ∀ (ns : List Nat), (∀ n ∈ ns, n < 64 ^ 6) → (octsOf ns).length ≤ 6 * ns.length
  | [], _ => Nat.le_refl _
  | n :: r, h => by
    have h1 := figs_len (h n (.head _))
    have h2 := octs_len r fun m hm => h m (.tail _ hm)
    simp only [octsOf, List.flatMap_cons, List.length_append, List.length_reverse, List.length_cons] at *
    omega
theorem octs_snoc (ns : List Nat) (n : Nat) : octsOf (ns ++ [n]) = octsOf ns ++ (figsOf n).reverse := by
  simp [octsOf]
theorem fmod64 (n : Nat) : ((n : Nat) : Int).fmod 64 = ((n % 64 : Nat) : Int) := by rw [Int.fmod_eq_emod_of_nonneg _ (by omega)]; omega
theorem fdiv64 (n : Nat) : ((n : Nat) : Int).fdiv 64 = ((n / 64 : Nat) : Int) := by rw [Int.fdiv_eq_ediv_of_nonneg _ (by omega)]; omega
noncomputable def mark128 : List Int → List Int
  | b :: r => (b + 128) :: r
  | [] => []
local macro_rules | `(tactic| k_all) => `(tactic| assumption)
theorem oct_spec (w : World) (p : Program) (loose : List Str) (mean : ExcName → Option Value) (mg mb : Str → Option Value) (l : Addr) (c0 : Nat) (vs : List Value) (ns : List Nat) (hi : IntsAre vs (ns.map (fun n : Nat => (n : Int)))) (hb : ∀ n ∈ ns, n < 64 ^ 6) (hl8 : ns.length ≤ 8) (hne : ns ≠ []) (news : List (Addr × Obj)) :
    Gives w p loose mean mg mb 285 3 30 ((l, listOf vs.toArray c0) :: news) [.ref l] (fun r nx => ∃ o vs' c, r = .ref o ∧ nx = (o, listOf vs'.toArray c) :: (l, listOf vs.toArray c0) :: news ∧ IntsAre vs' (mark128 (octsOf ns)) ∧ l < o ∧ (∀ p ∈ news, p.1 < o)) := by
  w_on
  intro dp un gd cn cs a ccd cl outer A₀ base h₀ L m s Q E B F X N T hk hd hu hret
  refine wpAny_call ?_
  k_dflt cell_enter
  repeat' (first | (k_unfold; (try dsimp only)) | ((fail_if_success (with_reducible show wpAny _ _ (pyIter _) _ _ _)); (first | ((fail_if_success (fail_if_success (with_reducible show wpAny _ _ (call (Value.builtin _) _ _) _ _ _))); k_here; ((with_reducible show wpAny _ _ (call (Value.builtin _) ([Value.ref _] ++ [_])) _ _ _); (simp only [List.cons_append, List.nil_append]); walk1)) | walk1)) | (leave1; try dsimp only))
  rename Fr _ _ _ _ => FF
  rename News _ _ _ _ => NN
  rename IntsAre _ _ => hi
  rename_i o _h1 l1 _h2
  refine' kdl_iter (fun i m nx => ∃ (c : Nat) (vs' : List Value), m (Str.ofString "octets") = some (.ref o) ∧ nx = (o, listOf vs'.toArray c) :: (l, listOf vs.toArray c0) :: news ∧ IntsAre vs' (octsOf (ns.take i))) ?hh ?hl ?F ?N ?hj ?turn ?done
  case hh => exact rfl
  case F => exact FF
  case N => exact NN
  case hl => exact .tail _ (.head _)
  case hj => exact ⟨0, [], rfl, rfl, .nil⟩
  case done =>
    rintro m₁ nx h tk ⟨c, vs', e1, rfl, hvs⟩ F₁ N₁
    have F₂ := fr_put1 F₁ e1
    clear F₁ FF NN
    rw [List.take_of_length_le (by have := hi.length; rw [List.length_map] at this; omega)] at hvs
    obtain ⟨b, bs, hbs⟩ : ∃ b bs, octsOf ns = b :: bs := by
      cases ns with
      | nil => exact absurd rfl hne
      | cons n r =>
        cases q : octsOf (n :: r) with
        | nil => simp [octsOf, figsOf] at q
        | cons b bs => exact ⟨b, bs, rfl⟩
    rw [hbs] at hvs
    obtain ⟨tb, vs2, rfl, hvs2⟩ := IntsAre.cons_inv hvs
    repeat' (first | (k_unfold; (try dsimp only); (try (clear ek)); (try (clear qk))) | ((fail_if_success (fail_if_success (with_reducible show wpAny _ _ (execs (_ :: _) _) _ _ _))); k_fold) | (k_end; wrow_close) | ((fail_if_success (fail_if_success (with_reducible show wpAny _ _ (call (Value.builtin _) _ _) _ _ _))); k_here; ((with_reducible show wpAny _ _ (call (Value.builtin _) ([Value.ref _] ++ [_])) _ _ _); (simp only [List.cons_append, List.nil_append]); walk1)) | walk1 | (dsimp only; (first | ((fail_if_success (fail_if_success (with_reducible show wpAny _ _ (call (Value.builtin _) _ _) _ _ _))); k_here; ((with_reducible show wpAny _ _ (call (Value.builtin _) ([Value.ref _] ++ [_])) _ _ _); (simp only [List.cons_append, List.nil_append]); walk1)) | walk1)) | (leave1; (try dsimp only)) | fail "no step")
    refine hret _ _ _ _ (by assumption) (by assumption) ⟨o, _, _, rfl, rfl, ?_, l1.1, allLt_out l1.2⟩
    rw [hbs]
    exact .cons _ _ hvs2
  case turn =>
    rintro i v m₁ nx h tk own hv hoff hmem ⟨c, vs', e1, rfl, hvs⟩ F₁ N₁
    obtain ⟨n', t, rfl, hn⟩ := hi.at i v hv
    obtain ⟨n, hn0, rfl⟩ : ∃ n : Nat, ns[i]? = some n ∧ n' = (n : Int) := by
      rw [List.getElem?_map] at hn
      cases q : ns[i]? with
      | none => rw [q] at hn; cases hn
      | some k => rw [q] at hn; cases hn; exact ⟨k, rfl, rfl⟩
    have hz3 : (octsOf (ns.take i)).length ≤ 48 := by
      have h1 := octs_len (ns.take i) fun q hq => hb q (List.mem_of_mem_take hq)
      rw [List.length_take] at h1
      omega
    have hz4 : vs'.length ≤ 48 := by rw [hvs.length]; exact hz3
    obtain ⟨ov, hov⟩ : ∃ ov, ov = octsOf (ns.take i) := ⟨_, rfl⟩
    rw [← hov] at hvs hz3
    have hov' := PySem.Flt.Hid.mk hov
    clear hov
    have hb' := PySem.Flt.Hid.mk hb
    have F₂ := fr_put2 (v := .int (n : Int) t) (u := .ref o) F₁ (if_pos rfl) (by show (if Str.ofString "octets" = Str.ofString "number" then _ else _) = _; rw [if_neg (by decide)]; exact e1)
    clear F₁ FF NN
    repeat' (first | (k_unfold; (try dsimp only)) | ((fail_if_success (with_reducible show wpAny _ _ (exec (Stmt.While _ _ _ _) _) _ _ _)); (first | ((fail_if_success (fail_if_success (with_reducible show wpAny _ _ (call (Value.builtin _) _ _) _ _ _))); k_here; ((with_reducible show wpAny _ _ (call (Value.builtin _) ([Value.ref _] ++ [_])) _ _ _); (simp only [List.cons_append, List.nil_append]); walk1)) | walk1)) | (leave1; try dsimp only))
    rename Fr _ _ _ _ => FF
    rename News _ _ _ _ => NN
    rename_i f _h1 _F _N l2 _h2
    have hf : f ≠ o ∧ f ≠ l ∧ ∀ p ∈ news ++ own, p.1 ≠ f := ⟨Nat.ne_of_gt (l2 _ (.head _)), Nat.ne_of_gt (l2 _ (.tail _ (.head _))), fun p hp => Nat.ne_of_lt (l2 p (.tail _ (.tail _ hp)))⟩
    have hoffo : ∀ p ∈ news ++ own, p.1 ≠ o := fun p hp => (List.mem_append.mp hp).elim (fun h => Nat.ne_of_lt (allLt_out l1.2 p h)) fun h => hoff p h o (.head _)
    obtain ⟨hf1, hf2, hf3⟩ := hf
    replace hf1 := neN hf1
    replace hf2 := neN hf2
    have hlo := neN (Nat.ne_of_lt l1.1)
    clear l2 _F _N
    refine' While_inv2 (fun n' m nx => ∃ (k : Nat) (fs : List Int) (ws : List Value) (c' : Nat) (t : Tok), m (Str.ofString "number") = some (.int (k : Int) t) ∧ m (Str.ofString "figures") = some (.ref f) ∧ m (Str.ofString "octets") = some (.ref o) ∧
      nx = (f, listOf ws.toArray c') :: (o, listOf vs'.toArray c) :: (l, listOf vs.toArray c0) :: (news ++ own) ∧ IntsAre ws fs ∧ fs ++ moreFigs k k = figsOf n ∧ n' = k) ?kF ?kN ?kJ ?kT ?kE
    case kE => passes_own
    case kF => exact FF
    case kN => exact NN
    case kJ => exact ⟨n, _, _, _, _, rfl, rfl, rfl, rfl, .cons _ _ .nil, by rw [fmod64]; rfl, rfl⟩
    clear FF NN hb
    rintro n' m₂ nx h₂ tk₂ F₁ N₁ ⟨k, fs, ws, c', t', e1, e2, e3, rfl, hws, hfs, rfl⟩
    have F₂ := fr_put3 F₁ e1 e2 e3
    clear F₁
    have hz1 : fs.length ≤ 6 := by
      have h1 := congrArg List.length hfs
      have h2 := figs_len (hb'.out n (List.mem_of_getElem? hn0))
      rw [List.length_append] at h1
      omega
    have hz2 : ws.length ≤ 6 := by rw [hws.length]; exact hz1
    have hfs' := PySem.Flt.Hid.mk hfs
    clear hfs
    repeat' (first | (k_unfold; (try dsimp only); (try (clear ek)); (try (clear qk))) | ((fail_if_success (fail_if_success (with_reducible show wpAny _ _ (execs (_ :: _) _) _ _ _))); k_fold) | (k_end; wrow_close) | ((fail_if_success (fail_if_success (with_reducible show wpAny _ _ (call (Value.builtin _) _ _) _ _ _))); k_here; ((with_reducible show wpAny _ _ (call (Value.builtin _) ([Value.ref _] ++ [_])) _ _ _); (simp only [List.cons_append, List.nil_append]); walk1)) | walk1 | (dsimp only; (first | ((fail_if_success (fail_if_success (with_reducible show wpAny _ _ (call (Value.builtin _) _ _) _ _ _))); k_here; ((with_reducible show wpAny _ _ (call (Value.builtin _) ([Value.ref _] ++ [_])) _ _ _); (simp only [List.cons_append, List.nil_append]); walk1)) | walk1)) | (leave1; (try dsimp only)) | fail "no step")
    · rename News _ _ _ _ => NN
      rename Fr _ _ _ _ => FF
      have hk63 : n' > 63 := by omega
      rw [List.push_toArray] at NN
      refine ⟨_, _, _, _, n' / 64, rfl, FF, NN, by omega, n' / 64, fs ++ [((n' : Int).fdiv 64).fmod 64 + 64], _, _, _, congrArg (fun z => some (Value.int z _)) (fdiv64 n'), rfl, rfl, rfl, hws.append (.cons _ _ .nil), ?_, rfl⟩
      have hfs := hfs'.out
      rw [moreFigs_step hk63] at hfs
      rw [← hfs, fdiv64, fmod64, List.append_assoc]
      rfl
    · rename News _ _ _ _ => NN
      rename Fr _ _ _ _ => FF
      have hnk : ¬ n' > 63 := by omega
      have hfs := hfs'.out
      rw [moreFigs_stop hnk, List.append_nil] at hfs
      refine extend_in (own := [_, _]) FF NN ?_ ?_ (NN _ (.head _)).1 (fun h4 c4 F4 N4 => ?_) ?_
      · intro q hq
        simp only [List.mem_cons, List.not_mem_nil, or_false] at hq
        rcases hq with rfl | rfl
        · exact Nat.ne_of_gt (by assumption : _ < _ ∧ _ < _ ∧ _ < _ ∧ AllLt _ (news ++ own)).2.1
        · exact hf1
      · intro q hq
        rcases List.mem_cons.mp hq with rfl | hq
        · exact hlo
        · exact hoffo q hq
      · clear NN FF
        repeat' (first | (k_unfold; (try dsimp only); (try (clear ek)); (try (clear qk))) | ((fail_if_success (fail_if_success (with_reducible show wpAny _ _ (execs (_ :: _) _) _ _ _))); k_fold) | (k_end; wrow_close) | ((fail_if_success (fail_if_success (with_reducible show wpAny _ _ (call (Value.builtin _) _ _) _ _ _))); k_here; ((with_reducible show wpAny _ _ (call (Value.builtin _) ([Value.ref _] ++ [_])) _ _ _); (simp only [List.cons_append, List.nil_append]); walk1)) | walk1 | (dsimp only; (first | ((fail_if_success (fail_if_success (with_reducible show wpAny _ _ (call (Value.builtin _) _ _) _ _ _))); k_here; ((with_reducible show wpAny _ _ (call (Value.builtin _) ([Value.ref _] ++ [_])) _ _ _); (simp only [List.cons_append, List.nil_append]); walk1)) | walk1)) | (leave1; (try dsimp only)) | fail "no step")
        have hints := hvs.append (by assumption : IntsAre _ fs.reverse)
        rw [show ov ++ fs.reverse = octsOf (ns.take (i + 1)) from by
          have ht : ns.take (i + 1) = ns.take i ++ [n] := by rw [List.take_add_one, hn0]; rfl
          rw [ht, octs_snoc, ← hfs, ← hov'.out]] at hints
        refine InvEndG.intro F4 N4 ⟨.tail _ (.head _), c4, _, rfl, rfl, hints⟩ ?_ ?_ ?_
        · exact hoff
        · exact fun q hq => List.mem_append_right _ (by
            rcases List.mem_cons.mp hq with rfl | hq
            · exact .head _
            · rcases List.mem_cons.mp hq with rfl | hq
              · exact .tail _ (.head _)
              · exact .tail _ (.tail _ (List.mem_append_left _ hq)))
        · exact fun q hq => List.mem_append_right _ (.tail _ (.tail _ (List.mem_append_right _ hq)))
      · have h1 := (by assumption : IntsAre _ fs.reverse).length
        rw [List.length_reverse] at h1
        rw [List.size_toArray, sizeLine_eq]
        omega
end
section
/-- a number that is told in full ahead of one more figure -/
noncomputable def lead (n : Nat) : List Int := (moreFigs n n).reverse ++ [((n % 64 + 64 : Nat) : Int)]
theorem lead_small {n : Nat} (h : ¬ n > 63) : lead n = [((n + 64 : Nat) : Int)] := by
  unfold lead
  rw [moreFigs_stop h, Nat.mod_eq_of_lt (by omega)]; rfl
theorem lead_big {n : Nat} (h : n > 63) : lead n = lead (n / 64) ++ [((n % 64 + 64 : Nat) : Int)] := by
  unfold lead
  rw [moreFigs_step h, List.reverse_cons]
theorem figs_small {n : Nat} (h : ¬ n > 63) : (figsOf n).reverse = [((n : Nat) : Int)] := by
  unfold figsOf
  rw [moreFigs_stop h, Nat.mod_eq_of_lt (by omega)]; rfl
theorem figs_big {n : Nat} (h : n > 63) : (figsOf n).reverse = lead (n / 64) ++ [((n % 64 : Nat) : Int)] := by
  unfold figsOf lead
  rw [moreFigs_step h, List.reverse_cons, List.reverse_cons]
theorem lead_vi : ∀ (n : Nat), n < 2 ^ 34 → ∃ b R, lead n = b :: R ∧ 64 ≤ b ∧ b < 128 ∧ ∀ d rest res r, 0 ≤ d → d < 256 → Vi ((n : Int) * 64 + d % 64) d rest res r → Vi (b % 64) b (R ++ d :: rest) res r := by
  intro n
  induction n using Nat.strongRecOn with
  | ind n ih =>
    intro hn
    by_cases h : n > 63
    · obtain ⟨b, R, e, h0, h1, hv⟩ := ih (n / 64) (by omega) (by omega)
      refine ⟨b, R ++ [((n % 64 + 64 : Nat) : Int)], by rw [lead_big h, e]; rfl, h0, h1, fun d rest res r hd0 hd1 V => ?_⟩
      rw [List.append_assoc]
      refine hv _ (d :: rest) res r (by omega) (by omega) ?_
      have e1 : ((n / 64 : Nat) : Int) * 64 + ((n % 64 + 64 : Nat) : Int) % 64 = (n : Int) := by omega
      rw [e1]
      exact .more (by omega) (by omega) (by omega) (by omega) (by omega) hd0 hd1 V
    · refine ⟨_, _, lead_small h, by omega, by omega, fun d rest res r hd0 hd1 V => ?_⟩
      have e1 : ((n + 64 : Nat) : Int) % 64 = (n : Int) := by omega
      rw [e1]
      exact .more (by omega) (by omega) (by omega) (by omega) (by omega) hd0 hd1 V
theorem num_vi (n : Nat) (hn : n < 64 ^ 6) : ∃ b R, (figsOf n).reverse = b :: R ∧ 0 ≤ b ∧ b < 128 ∧ ∀ rest, Vi (b % 64) b (R ++ rest) (n : Int) rest := by
  by_cases h : n > 63
  · obtain ⟨b, R, e, h0, h1, hv⟩ := lead_vi (n / 64) (by omega)
    refine ⟨b, R ++ [((n % 64 : Nat) : Int)], by rw [figs_big h, e]; rfl, by omega, h1, fun rest => ?_⟩
    rw [List.append_assoc]
    refine hv _ rest _ rest (by omega) (by omega) ?_
    have e1 : ((n / 64 : Nat) : Int) * 64 + ((n % 64 : Nat) : Int) % 64 = (n : Int) := by omega
    rw [e1]
    exact .done (by omega) (by omega) (by omega)
  · refine ⟨_, _, figs_small h, by omega, by omega, fun rest => ?_⟩
    have e1 : (n : Int) % 64 = (n : Int) := by omega
    rw [e1]
    exact .done (by omega) (by omega) (by omega)
theorem Vi.mark {b v res : Int} {R r : List Int} (h1 : b < 128) (h : Vi v b R res r) : Vi v (b + 128) R res r := by
  cases h with
  | done a b c => exact .done (by omega) (by omega) (by omega)
  | more a b c d e f g k => exact .more (by omega) (by omega) (by omega) d e f g k
theorem enc_octs : ∀ (ns : List Nat), (∀ n ∈ ns, n < 64 ^ 6) → ∀ rest nums, Enc rest nums → Enc (octsOf ns ++ rest) (ns.map (fun n : Nat => (n : Int)) ++ nums)
  | [], _, _, _, h => h
  | n :: r, hb, rest, nums, h => by
    have ih := enc_octs r (fun m hm => hb m (.tail _ hm)) rest nums h
    obtain ⟨b, R, e, h0, h1, hv⟩ := num_vi n (hb n (.head _))
    have hn := hb n (.head _)
    have e2 : octsOf (n :: r) ++ rest = b :: (R ++ (octsOf r ++ rest)) := by
      rw [show octsOf (n :: r) = (figsOf n).reverse ++ octsOf r from rfl, e, List.append_assoc]; rfl
    rw [e2]
    exact .cons h0 (by omega) (show (0 : Int) ≤ (n : Int) by omega) (show (n : Int) < 2 ^ 46 by omega) (hv _) ih
theorem enc_marked {ns : List Nat} (hne : ns ≠ []) (hb : ∀ n ∈ ns, n < 64 ^ 6) (rest nums : List Int) (h : Enc rest nums) : Enc (mark128 (octsOf ns) ++ rest) (ns.map (fun n : Nat => (n : Int)) ++ nums) := by
  have h := enc_octs ns hb rest nums h
  obtain ⟨n, r, rfl⟩ := List.exists_cons_of_ne_nil hne
  obtain ⟨b, R, e, h0, h1, -⟩ := num_vi n (hb n (.head _))
  have e2 : octsOf (n :: r) = b :: (R ++ octsOf r) := by
    rw [show octsOf (n :: r) = (figsOf n).reverse ++ octsOf r from rfl, e]; rfl
  rw [e2] at h ⊢
  cases h with
  | cons a1 a2 a3 a4 a5 a6 =>
    refine .cons (by omega) (by omega) a3 a4 ?_ a6
    rw [show (b + 128) % 64 = b % 64 from by omega]
    exact a5.mark h1
theorem toNat_map : ∀ {zs : List Int}, (∀ z ∈ zs, 0 ≤ z) → (zs.map Int.toNat).map (fun n : Nat => (n : Int)) = zs
  | [], _ => rfl
  | z :: r, h => by
    have h1 := h z (.head _)
    rw [List.map_cons, List.map_cons, toNat_map fun q hq => h q (.tail _ hq), Int.toNat_of_nonneg h1]
noncomputable def octRows (zss : List (List Int)) : List Int := zss.flatMap fun zs => mark128 (octsOf (zs.map Int.toNat))
/-- rows that the coding holds -/
noncomputable def RowOk (zs : List Int) : Prop := zs ≠ [] ∧ zs.length ≤ 4 ∧ ∀ z ∈ zs, 0 ≤ z ∧ z < 68719476736
theorem enc_rows : ∀ {zss : List (List Int)}, (∀ zs ∈ zss, RowOk zs) → Enc (octRows zss) zss.flatten
  | [], _ => .nil
  | zs :: r, h => by
    have ih := enc_rows fun z hz => h z (.tail _ hz)
    obtain ⟨h1, _, h3⟩ := h zs (.head _)
    have := enc_marked (ns := zs.map Int.toNat) (by intro e; exact h1 (List.map_eq_nil_iff.mp e)) (fun n hn => by
      obtain ⟨z, hz, rfl⟩ := List.mem_map.mp hn
      have := h3 z hz
      omega) _ _ ih
    rw [toNat_map fun z hz => (h3 z hz).1] at this
    exact this
theorem mark_len : ∀ l : List Int, (mark128 l).length = l.length
  | [] => rfl
  | _ :: _ => rfl
theorem octRows_len : ∀ {zss : List (List Int)}, (∀ zs ∈ zss, RowOk zs) → (octRows zss).length ≤ 24 * zss.length
  | [], _ => Nat.le_refl _
  | zs :: r, h => by
    have ih := octRows_len fun z hz => h z (.tail _ hz)
    obtain ⟨_, h2, h3⟩ := h zs (.head _)
    have h4 := octs_len (zs.map Int.toNat) fun n hn => by
      obtain ⟨z, hz, rfl⟩ := List.mem_map.mp hn
      have := h3 z hz
      omega
    rw [List.length_map] at h4
    rw [show octRows (zs :: r) = mark128 (octsOf (zs.map Int.toNat)) ++ octRows r from rfl, List.length_append, mark_len, List.length_cons]
    omega
theorem octRows_snoc (zss : List (List Int)) (zs : List Int) : octRows (zss ++ [zs]) = octRows zss ++ mark128 (octsOf (zs.map Int.toNat)) := by simp [octRows]
end
section
section
variable {w : World} {p : Program} {loose : List Str} {mean : ExcName → Option Value} {mg mb : Str → Option Value}
  {dp un : Nat} {gd : Option (List Code)} {cn : Str} {cs : Scope} {a : Addr} {ccd : Value} {cl : List (Str × Addr)} {outer : List Env} {A₀ : Around} {base h₀ : Heap} {L : Addr} {m : Str → Option Value} {s : Shared} {Q E : Value → Shared → Prop}
theorem oct_use {news : List (Addr × Obj)} {l : Addr} {c0 : Nat} {vs : List Value} {zs : List Int}
    (B : Below A₀ base outer h₀) (F : Fr h₀ L s.heap m) (X : (Mine.hd.heap_39 w.params).In h₀) (N : News h₀ L s.heap news) (T : Top p loose mean mg mb h₀) (hk : cs.kind = .function)
    (hd : dp + 3 < recursionLimit) (hu : un + 30 < cLine) (hl : (l, listOf vs.toArray c0) ∈ news) (hi : IntsAre vs zs) (hz : ∀ z ∈ zs, 0 ≤ z ∧ z < 68719476736) (h8 : zs.length ≤ 8) (hne : zs ≠ [])
    (ret : ∀ o vs' c t h' , Fr h₀ L h' m → News h₀ L h' ((o, listOf vs'.toArray c) :: news) → IntsAre vs' (mark128 (octsOf (zs.map Int.toNat))) → (∀ p ∈ news, p.1 < o) → Q (.ref o) { s with heap := h', toks := t }) :
    wpAny (model PR w) (ktrTop dp un gd cn cs L a ccd cl outer) (call (.ref 285) [.ref l]) Q E s :=
  oct_spec w p loose mean mg mb l c0 vs (zs.map Int.toNat) (by rw [toNat_map fun z h => (hz z h).1]; exact hi) (fun n hn => by
      obtain ⟨z, hz1, rfl⟩ := List.mem_map.mp hn
      have := hz z hz1
      omega) (by rw [List.length_map]; exact h8) (by intro h; exact hne (List.map_eq_nil_iff.mp h)) news dp un gd cn cs a ccd cl outer A₀ base h₀ L m s Q E B F X
    (fun q hq => (List.mem_cons.mp hq).elim (fun e => e ▸ N _ hl) (N q)) T hk hd hu (by
    rintro r nx h' tk' F' N' ⟨o, vs', c, rfl, rfl, h1, h2, h3⟩
    exact ret o vs' c tk' h' F' (fun q hq => N' q ((List.mem_cons.mp hq).elim (fun e => e ▸ .head _) fun h => .tail _ (.tail _ h))) h1 h3)
theorem entries_use {l : Addr} {c0 : Nat} {vs : List Value} {ns nums : List Int} {news : List (Addr × Obj)}
    (B : Below A₀ base outer h₀) (F : Fr h₀ L s.heap m) (X : (Mine.hd.heap_39 w.params).In h₀) (N : News h₀ L s.heap news) (T : Top p loose mean mg mb h₀) (hk : cs.kind = .function)
    (hd : dp + 18 < recursionLimit) (hu : un + 180 < cLine) (XB : (Mine.hd.heap_39 w.params).In base) (TB : Top p loose mean mg mb base) (D : KtsDicts (outer.filterMap (·.frame)) h₀) (hl : (l, listOf vs.toArray c0) ∈ news) (hi : IntsAre vs ns) (he : Enc ns nums) (hlen : ns.length ≤ 400)
    (ret : ∀ e refs c tl nx h' tk' g, KtsTurn (outer.filterMap (·.frame)) h₀ g → Fr g L h' m → News g L h' nx → Below A₀ base outer g → (Mine.hd.heap_39 w.params).In g → Top p loose mean mg mb g → KtsDicts (outer.filterMap (·.frame)) g →
      (e, listOf refs.toArray c) ∈ nx → (∀ p ∈ news, p ∈ nx) → (∀ p ∈ tl, p ∈ nx) → EntsAre tl refs (rows4 nums) → Q (.ref e) { s with heap := h', toks := tk' }) :
    wpAny (model PR w) (ktrTop dp un gd cn cs L a ccd [] outer) (call (.ref 292) [.ref l]) Q E s :=
  entries_spec w p loose mean mg mb l c0 vs ns nums hi he hlen news dp un gd cn cs a ccd outer A₀ base h₀ L m s Q E B F X (fun q hq => (List.mem_cons.mp hq).elim (fun e => e ▸ N _ hl) (N q)) T hk hd hu XB TB D (by
    rintro r nx h' tk' g T' F' N' B' X' P' D' ⟨e, refs, c, tl, rfl, h1, h2, h3, h4⟩
    exact ret e refs c tl nx h' tk' g T' F' N' B' X' P' D' h1 h2 h3 h4)
end
theorem pick_from {l : List Value} {n : Nat} (h : n ≤ l.length) : kms_pick l (some (n : Int)) none = l.drop n := by
  have h1 : ¬ ((n : Int) < 0) := by omega
  simp only [kms_pick, kms_lo, kms_hi, if_neg h1, Int.toNat_natCast, Nat.min_eq_left h]
  exact List.take_of_length_le (by rw [List.length_drop]; exact Nat.le_refl _)
theorem pick_to {l : List Value} {n : Nat} (h : n ≤ l.length) : kms_pick l none (some (n : Int)) = l.take n := by
  have h1 : ¬ ((n : Int) < 0) := by omega
  simp only [kms_pick, kms_lo, kms_hi, if_neg h1, Int.toNat_natCast, Nat.min_eq_left h]
  rfl
noncomputable def rot {α : Type} (n : Nat) (l : List α) : List α := l.drop n ++ l.take n
/-- lists of whole numbers that lie on the ledger -/
noncomputable def RowsOn (news : List (Addr × Obj)) (vs : List Value) (zss : List (List Int)) : Prop :=
  ∀ (i : Nat) (v : Value), vs[i]? = some v → ∃ (r : Addr) (ws : List Value) (zs : List Int), v = Value.ref r ∧ (r, listOf (List.toArray ws) 0) ∈ news ∧ IntsAre ws zs ∧ zss[i]? = some zs ∧ RowOk zs
theorem RowsOn.rot {news : List (Addr × Obj)} {r1 r2 r3 : Addr} {w1 w2 w3 : List Value} {z1 z2 z3 : List Int} {n : Nat} (hn : n < 3)
    (m1 : (r1, listOf (List.toArray w1) 0) ∈ news) (m2 : (r2, listOf (List.toArray w2) 0) ∈ news) (m3 : (r3, listOf (List.toArray w3) 0) ∈ news)
    (i1 : IntsAre w1 z1) (i2 : IntsAre w2 z2) (i3 : IntsAre w3 z3) (h1 : RowOk z1) (h2 : RowOk z2) (h3 : RowOk z3) :
    RowsOn news (Mine.rot n [Value.ref r1, Value.ref r2, Value.ref r3]) (Mine.rot n [z1, z2, z3]) := by
  have e1 : ∃ (r : Addr) (ws : List Value) (zs : List Int), Value.ref r1 = Value.ref r ∧ (r, listOf (List.toArray ws) 0) ∈ news ∧ IntsAre ws zs ∧ z1 = zs ∧ RowOk zs := ⟨r1, w1, z1, rfl, m1, i1, rfl, h1⟩
  have e2 : ∃ (r : Addr) (ws : List Value) (zs : List Int), Value.ref r2 = Value.ref r ∧ (r, listOf (List.toArray ws) 0) ∈ news ∧ IntsAre ws zs ∧ z2 = zs ∧ RowOk zs := ⟨r2, w2, z2, rfl, m2, i2, rfl, h2⟩
  have e3 : ∃ (r : Addr) (ws : List Value) (zs : List Int), Value.ref r3 = Value.ref r ∧ (r, listOf (List.toArray ws) 0) ∈ news ∧ IntsAre ws zs ∧ z3 = zs ∧ RowOk zs := ⟨r3, w3, z3, rfl, m3, i3, rfl, h3⟩
  intro i v hv
  match n, hn, i, hv with
  | 0, _, 0, hv | 1, _, 2, hv | 2, _, 1, hv => cases hv; obtain ⟨r, ws, zs, a, b, c, d, e⟩ := e1; exact ⟨r, ws, zs, a, b, c, congrArg some d, e⟩
  | 0, _, 1, hv | 1, _, 0, hv | 2, _, 2, hv => cases hv; obtain ⟨r, ws, zs, a, b, c, d, e⟩ := e2; exact ⟨r, ws, zs, a, b, c, congrArg some d, e⟩
  | 0, _, 2, hv | 1, _, 1, hv | 2, _, 0, hv => cases hv; obtain ⟨r, ws, zs, a, b, c, d, e⟩ := e3; exact ⟨r, ws, zs, a, b, c, congrArg some d, e⟩
  | 0, _, k + 3, hv => exact nomatch (show (none : Option Value) = some v from hv)
  | 1, _, k + 3, hv => exact nomatch (show (none : Option Value) = some v from hv)
  | 2, _, k + 3, hv => exact nomatch (show (none : Option Value) = some v from hv)
theorem rot_len {α : Type} {n : Nat} {l : List α} (h : n ≤ l.length) : (rot n l).length = l.length := by
  unfold rot; rw [List.length_append, List.length_drop, List.length_take]; omega
theorem pickRR {h₀ h : Heap} {L : Addr} {q1 q2 q3 q4 q5 : Addr × Obj} {r : List (Addr × Obj)} (N : News h₀ L h (q1 :: q2 :: q3 :: q4 :: q5 :: r)) : News h₀ L h (q4 :: q1 :: r) := fun p hp => N p (by
  rcases List.mem_cons.mp hp with rfl | hp
  · exact .tail _ (.tail _ (.tail _ (.head _)))
  · rcases List.mem_cons.mp hp with rfl | hp
    · exact .head _
    · exact .tail _ (.tail _ (.tail _ (.tail _ (.tail _ hp)))))
theorem rot_in {α : Type} {n : Nat} {l : List α} {x : α} (_h : n < 3) (h : x ∈ l) : x ∈ l.drop n ++ l.take n := by
  rw [← List.take_append_drop n l] at h
  rcases List.mem_append.mp h with h | h
  · exact List.mem_append_right _ h
  · exact List.mem_append_left _ h
theorem rot_mem {α : Type} {n : Nat} {l : List α} {x : α} (h : x ∈ rot n l) : x ∈ l := by
  rcases List.mem_append.mp h with h | h
  · exact List.mem_of_mem_drop h
  · exact List.mem_of_mem_take h
/-- the three rows of a table -/
noncomputable def rows3 (a b c : Int) : List (List Int) := [[0, a, b + c, 2 * (b + c)], [a, b, c, (2 * if c - a < 0 then -(c - a) else c - a) + (if c < a then 1 else 0)], [a + b, c, 0, 2 * (a + b) + 1]]
theorem rowOk4 {a b c d : Int} (ha : 0 ≤ a ∧ a < 68719476736) (hb : 0 ≤ b ∧ b < 68719476736) (hc : 0 ≤ c ∧ c < 68719476736) (hd : 0 ≤ d ∧ d < 68719476736) : RowOk [a, b, c, d] := by
  refine ⟨List.cons_ne_nil _ _, Nat.le_refl _, ?_⟩
  simp only [List.forall_mem_cons, List.not_mem_nil, false_implies, implies_true, and_true]
  exact ⟨ha, hb, hc, hd⟩
theorem table_spec (w : World) (p : Program) (loose : List Str) (mean : ExcName → Option Value) (mg mb : Str → Option Value) (l : Addr) (c0 : Nat) (a b c : Int) (t1 t2 t3 tt : Tok) (turn : Nat) (h3 : turn < 3) (ha : 0 ≤ a ∧ a < 100000000) (hb : 0 ≤ b ∧ b < 100000000) (hc : 0 ≤ c ∧ c < 100000000) (news : List (Addr × Obj)) :
    GivesS w p loose mean mg mb 299 22 220 ((l, listOf [.int a t1, .int b t2, .int c t3].toArray c0) :: news) [.ref l, .int (turn : Int) tt] (fun r nx => ∃ e refs c' tl, r = .ref e ∧ (e, listOf refs.toArray c') ∈ nx ∧ (∀ p ∈ (l, listOf [.int a t1, .int b t2, .int c t3].toArray c0) :: news, p ∈ nx) ∧ (∀ p ∈ tl, p ∈ nx) ∧ EntsAre tl refs (rows4 (rot turn (rows3 a b c)).flatten)) := by
  w_on
  intro dp un gd cn cs ad ccd outer A₀ base h₀ L m s Q E B F X N T hk hd hu XB TB KD hret
  refine wpAny_call ?_
  refine' code_defS ?k1 ?k2 ?k3 ?k4 ?k5 ?XB ?TB ?D ?T0 ?kA ?k6 ?k7 ?k8 ?k9 ?kB ?_ ?cK ?c2 ?c3 ?c4 ?c5
  case kA => exact rfl
  case k2 => exact F
  case k1 => exact B
  case XB => exact XB
  case TB => exact TB
  case D => exact KD
  case T0 => exact KtsTurn.refl
  case k3 => exact X
  case k4 => exact N
  case k5 => exact T
  case k6 => k_dflt k_is
  case k7 => k_dflt k_is
  case k8 => ktr_room
  case k9 => exact BindsTo.of_eq rfl
  case kB => exact locs rfl
  case cK => exact hk
  case c2 => exact rfl
  case c3 => exact rfl
  case c4 => exact rfl
  case c5 => decide
  intro g' L' h' FG' F' N' B' X' T' D'
  dsimp only
  k_fold
  repeat' (first | (k_unfold; (try dsimp only)) | ((fail_if_success (with_reducible show wpAny _ _ (exec (Stmt.If _ _ _ _) _) _ _ _)); (first | ((fail_if_success (fail_if_success (with_reducible show wpAny _ _ (binaryOp _ _ _) _ _ _))); k_here; ((with_reducible show wpAny _ _ (binaryOp Operator.Add (Value.ref _) (Value.ref _)) _ _ _); k_dflt (refine' kmk_add_lit (by k_asm) (by k_asm) (by kmk_list) (by kmk_list) (by exact rfl) ?_ (by kmk_size)); intro _ _ _ _ zl1; (try k_lt zl1); (try (revert zl1; intro _)))) | ((fail_if_success (fail_if_success (with_reducible show wpAny _ _ (subscriptTail _ _ _ _) _ _ _))); k_here; ((with_reducible show wpAny _ _ (subscriptTail (PySem.Expr.Name _ _) (PySem.Expr.Slice _ _ _ _) (Value.ref _) (Value.ref _)) _ _ _); k_dflt (refine' kms_slice_lit (by k_asm) (by k_asm) (by kmk_list) (by kmk_part) (by kmk_part) (by first | exact pick_from (Nat.le_of_lt (by assumption)) | exact pick_to (Nat.le_of_lt (by assumption))) ?_ (by with_unfolding_all rfl) (by kmk_pure) (by kmk_size)); intro _ _ _ _ zl1; (try k_lt zl1); (try (revert zl1; intro _)))) | ((fail_if_success (fail_if_success (with_reducible show wpAny _ _ (call (Value.ref _) _ _) _ _ _))); k_here; first | ((with_reducible show wpAny _ _ (call (Value.ref 292) _) _ _ _); refine' entries_use (by k_asm) (by k_asm) (by k_asm) (by k_asm) (by k_asm) (by exact rfl) (by ktr_room) (by ktr_units) (by assumption) (by assumption) (by assumption) (by exact .head _) (by assumption) (by assumption) (by assumption) ?_; k_whole; intro _ _ _ _ _ _ _ _ _ _ _ _ _ _ _ _ _ _ _; (try dsimp only)) | ((with_reducible show wpAny _ _ (call (Value.ref 285) _) _ _ _); refine' oct_use (by k_asm) (by k_asm) (by k_asm) (by k_asm) (by k_asm) (by exact rfl) (by ktr_room) (by ktr_units) (by exact .head _) (by assumption) (by assumption) (by omega) (by assumption) ?_; k_whole; intro _ _ _ _ _ _ _ _ zl1; (try k_lt zl1); (try (revert zl1; intro _)); (try dsimp only))) | walk1)) | (leave1; try dsimp only))
  rename Fr _ _ _ _ => FF
  rename News _ _ _ _ => NN
  refine wpAny_mono (Q := fun f s' => PySem.Flt.Hid (f = .next ∧ ∃ (x : Int) (t9 : Tok) (h9 : Heap) (tk9 : Nat) (m9 : Str → Option Value), s' = { s with heap := h9, toks := tk9 } ∧ Fr g' L' h9 m9 ∧ m9 (Str.ofString "mark") = some (.int x t9) ∧ m9 (Str.ofString "c") = some (.int c t3) ∧ m9 (Str.ofString "b") = some (.int b t2) ∧ m9 (Str.ofString "a") = some (.int a t1) ∧ m9 (Str.ofString "turn") = some (.int (turn : Int) tt) ∧ News g' L' h9 ((l, listOf [.int a t1, .int b t2, .int c t3].toArray c0) :: news) ∧ (x = if c < a then 1 else 0))) ?_ ?_ (fun _ _ z => z)
  · repeat' (first | (k_unfold; (try dsimp only); (try (clear ek)); (try (clear qk))) | ((fail_if_success (fail_if_success (with_reducible show wpAny _ _ (execs (_ :: _) _) _ _ _))); k_fold) | (k_end; wrow_close) | ((fail_if_success (fail_if_success (with_reducible show wpAny _ _ (binaryOp _ _ _) _ _ _))); k_here; ((with_reducible show wpAny _ _ (binaryOp Operator.Add (Value.ref _) (Value.ref _)) _ _ _); k_dflt (refine' kmk_add_lit (by k_asm) (by k_asm) (by kmk_list) (by kmk_list) (by exact rfl) ?_ (by kmk_size)); intro _ _ _ _ zl1; (try k_lt zl1); (try (revert zl1; intro _)))) | ((fail_if_success (fail_if_success (with_reducible show wpAny _ _ (subscriptTail _ _ _ _) _ _ _))); k_here; ((with_reducible show wpAny _ _ (subscriptTail (PySem.Expr.Name _ _) (PySem.Expr.Slice _ _ _ _) (Value.ref _) (Value.ref _)) _ _ _); k_dflt (refine' kms_slice_lit (by k_asm) (by k_asm) (by kmk_list) (by kmk_part) (by kmk_part) (by first | exact pick_from (Nat.le_of_lt (by assumption)) | exact pick_to (Nat.le_of_lt (by assumption))) ?_ (by with_unfolding_all rfl) (by kmk_pure) (by kmk_size)); intro _ _ _ _ zl1; (try k_lt zl1); (try (revert zl1; intro _)))) | ((fail_if_success (fail_if_success (with_reducible show wpAny _ _ (call (Value.ref _) _ _) _ _ _))); k_here; first | ((with_reducible show wpAny _ _ (call (Value.ref 292) _) _ _ _); refine' entries_use (by k_asm) (by k_asm) (by k_asm) (by k_asm) (by k_asm) (by exact rfl) (by ktr_room) (by ktr_units) (by assumption) (by assumption) (by assumption) (by exact .head _) (by assumption) (by assumption) (by assumption) ?_; k_whole; intro _ _ _ _ _ _ _ _ _ _ _ _ _ _ _ _ _ _ _; (try dsimp only)) | ((with_reducible show wpAny _ _ (call (Value.ref 285) _) _ _ _); refine' oct_use (by k_asm) (by k_asm) (by k_asm) (by k_asm) (by k_asm) (by exact rfl) (by ktr_room) (by ktr_units) (by exact .head _) (by assumption) (by assumption) (by omega) (by assumption) ?_; k_whole; intro _ _ _ _ _ _ _ _ zl1; (try k_lt zl1); (try (revert zl1; intro _)); (try dsimp only))) | walk1 | (dsimp only; (first | ((fail_if_success (fail_if_success (with_reducible show wpAny _ _ (binaryOp _ _ _) _ _ _))); k_here; ((with_reducible show wpAny _ _ (binaryOp Operator.Add (Value.ref _) (Value.ref _)) _ _ _); k_dflt (refine' kmk_add_lit (by k_asm) (by k_asm) (by kmk_list) (by kmk_list) (by exact rfl) ?_ (by kmk_size)); intro _ _ _ _ zl1; (try k_lt zl1); (try (revert zl1; intro _)))) | ((fail_if_success (fail_if_success (with_reducible show wpAny _ _ (subscriptTail _ _ _ _) _ _ _))); k_here; ((with_reducible show wpAny _ _ (subscriptTail (PySem.Expr.Name _ _) (PySem.Expr.Slice _ _ _ _) (Value.ref _) (Value.ref _)) _ _ _); k_dflt (refine' kms_slice_lit (by k_asm) (by k_asm) (by kmk_list) (by kmk_part) (by kmk_part) (by first | exact pick_from (Nat.le_of_lt (by assumption)) | exact pick_to (Nat.le_of_lt (by assumption))) ?_ (by with_unfolding_all rfl) (by kmk_pure) (by kmk_size)); intro _ _ _ _ zl1; (try k_lt zl1); (try (revert zl1; intro _)))) | ((fail_if_success (fail_if_success (with_reducible show wpAny _ _ (call (Value.ref _) _ _) _ _ _))); k_here; first | ((with_reducible show wpAny _ _ (call (Value.ref 292) _) _ _ _); refine' entries_use (by k_asm) (by k_asm) (by k_asm) (by k_asm) (by k_asm) (by exact rfl) (by ktr_room) (by ktr_units) (by assumption) (by assumption) (by assumption) (by exact .head _) (by assumption) (by assumption) (by assumption) ?_; k_whole; intro _ _ _ _ _ _ _ _ _ _ _ _ _ _ _ _ _ _ _; (try dsimp only)) | ((with_reducible show wpAny _ _ (call (Value.ref 285) _) _ _ _); refine' oct_use (by k_asm) (by k_asm) (by k_asm) (by k_asm) (by k_asm) (by exact rfl) (by ktr_room) (by ktr_units) (by exact .head _) (by assumption) (by assumption) (by omega) (by assumption) ?_; k_whole; intro _ _ _ _ _ _ _ _ zl1; (try k_lt zl1); (try (revert zl1; intro _)); (try dsimp only))) | walk1)) | (leave1; (try dsimp only)) | fail "no step")
    · exact .mk ⟨rfl, _, _, _, _, _, rfl, by assumption, rfl, rfl, rfl, rfl, rfl, by assumption, (if_pos (by assumption)).symm⟩
    · exact .mk ⟨rfl, _, _, _, _, _, rfl, by assumption, rfl, rfl, rfl, rfl, rfl, by assumption, (if_neg (by assumption)).symm⟩
  intro f s9 hid9
  obtain ⟨rfl, x, t9, h9, tk9, m9, rfl, F9, e1, e2, e3, e4, e5, N9, hx⟩ := hid9.out
  clear hid9
  clear FF NN
  have F9' := fr_put5 F9 e1 e2 e3 e4 e5
  clear F9 e1 e2 e3 e4 e5
  (try dsimp only)
  iterate 78 (first | (k_unfold; (try dsimp only)) | ((first | ((fail_if_success (fail_if_success (with_reducible show wpAny _ _ (binaryOp _ _ _) _ _ _))); k_here; ((with_reducible show wpAny _ _ (binaryOp Operator.Add (Value.ref _) (Value.ref _)) _ _ _); k_dflt (refine' kmk_add_lit (by k_asm) (by k_asm) (by kmk_list) (by kmk_list) (by exact rfl) ?_ (by kmk_size)); intro _ _ _ _ zl1; (try k_lt zl1); (try (revert zl1; intro _)))) | ((fail_if_success (fail_if_success (with_reducible show wpAny _ _ (subscriptTail _ _ _ _) _ _ _))); k_here; ((with_reducible show wpAny _ _ (subscriptTail (PySem.Expr.Name _ _) (PySem.Expr.Slice _ _ _ _) (Value.ref _) (Value.ref _)) _ _ _); k_dflt (refine' kms_slice_lit (by k_asm) (by k_asm) (by kmk_list) (by kmk_part) (by kmk_part) (by first | exact pick_from (Nat.le_of_lt (by assumption)) | exact pick_to (Nat.le_of_lt (by assumption))) ?_ (by with_unfolding_all rfl) (by kmk_pure) (by kmk_size)); intro _ _ _ _ zl1; (try k_lt zl1); (try (revert zl1; intro _)))) | ((fail_if_success (fail_if_success (with_reducible show wpAny _ _ (call (Value.ref _) _ _) _ _ _))); k_here; first | ((with_reducible show wpAny _ _ (call (Value.ref 292) _) _ _ _); refine' entries_use (by k_asm) (by k_asm) (by k_asm) (by k_asm) (by k_asm) (by exact rfl) (by ktr_room) (by ktr_units) (by assumption) (by assumption) (by assumption) (by exact .head _) (by assumption) (by assumption) (by assumption) ?_; k_whole; intro _ _ _ _ _ _ _ _ _ _ _ _ _ _ _ _ _ _ _; (try dsimp only)) | ((with_reducible show wpAny _ _ (call (Value.ref 285) _) _ _ _); refine' oct_use (by k_asm) (by k_asm) (by k_asm) (by k_asm) (by k_asm) (by exact rfl) (by ktr_room) (by ktr_units) (by exact .head _) (by assumption) (by assumption) (by omega) (by assumption) ?_; k_whole; intro _ _ _ _ _ _ _ _ zl1; (try k_lt zl1); (try (revert zl1; intro _)); (try dsimp only))) | walk1); (try dsimp only)) | (dsimp only; (first | ((fail_if_success (fail_if_success (with_reducible show wpAny _ _ (binaryOp _ _ _) _ _ _))); k_here; ((with_reducible show wpAny _ _ (binaryOp Operator.Add (Value.ref _) (Value.ref _)) _ _ _); k_dflt (refine' kmk_add_lit (by k_asm) (by k_asm) (by kmk_list) (by kmk_list) (by exact rfl) ?_ (by kmk_size)); intro _ _ _ _ zl1; (try k_lt zl1); (try (revert zl1; intro _)))) | ((fail_if_success (fail_if_success (with_reducible show wpAny _ _ (subscriptTail _ _ _ _) _ _ _))); k_here; ((with_reducible show wpAny _ _ (subscriptTail (PySem.Expr.Name _ _) (PySem.Expr.Slice _ _ _ _) (Value.ref _) (Value.ref _)) _ _ _); k_dflt (refine' kms_slice_lit (by k_asm) (by k_asm) (by kmk_list) (by kmk_part) (by kmk_part) (by first | exact pick_from (Nat.le_of_lt (by assumption)) | exact pick_to (Nat.le_of_lt (by assumption))) ?_ (by with_unfolding_all rfl) (by kmk_pure) (by kmk_size)); intro _ _ _ _ zl1; (try k_lt zl1); (try (revert zl1; intro _)))) | ((fail_if_success (fail_if_success (with_reducible show wpAny _ _ (call (Value.ref _) _ _) _ _ _))); k_here; first | ((with_reducible show wpAny _ _ (call (Value.ref 292) _) _ _ _); refine' entries_use (by k_asm) (by k_asm) (by k_asm) (by k_asm) (by k_asm) (by exact rfl) (by ktr_room) (by ktr_units) (by assumption) (by assumption) (by assumption) (by exact .head _) (by assumption) (by assumption) (by assumption) ?_; k_whole; intro _ _ _ _ _ _ _ _ _ _ _ _ _ _ _ _ _ _ _; (try dsimp only)) | ((with_reducible show wpAny _ _ (call (Value.ref 285) _) _ _ _); refine' oct_use (by k_asm) (by k_asm) (by k_asm) (by k_asm) (by k_asm) (by exact rfl) (by ktr_room) (by ktr_units) (by exact .head _) (by assumption) (by assumption) (by omega) (by assumption) ?_; k_whole; intro _ _ _ _ _ _ _ _ zl1; (try k_lt zl1); (try (revert zl1; intro _)); (try dsimp only))) | walk1)) | (leave1; try dsimp only))
  (try dsimp only)
  refine wpAny_execs_cons ?_
  iterate 5 (first | (k_unfold; (try dsimp only)) | ((first | ((fail_if_success (fail_if_success (with_reducible show wpAny _ _ (binaryOp _ _ _) _ _ _))); k_here; ((with_reducible show wpAny _ _ (binaryOp Operator.Add (Value.ref _) (Value.ref _)) _ _ _); k_dflt (refine' kmk_add_lit (by k_asm) (by k_asm) (by kmk_list) (by kmk_list) (by exact rfl) ?_ (by kmk_size)); intro _ _ _ _ zl1; (try k_lt zl1); (try (revert zl1; intro _)))) | ((fail_if_success (fail_if_success (with_reducible show wpAny _ _ (subscriptTail _ _ _ _) _ _ _))); k_here; ((with_reducible show wpAny _ _ (subscriptTail (PySem.Expr.Name _ _) (PySem.Expr.Slice _ _ _ _) (Value.ref _) (Value.ref _)) _ _ _); k_dflt (refine' kms_slice_lit (by k_asm) (by k_asm) (by kmk_list) (by kmk_part) (by kmk_part) (by first | exact pick_from (Nat.le_of_lt (by assumption)) | exact pick_to (Nat.le_of_lt (by assumption))) ?_ (by with_unfolding_all rfl) (by kmk_pure) (by kmk_size)); intro _ _ _ _ zl1; (try k_lt zl1); (try (revert zl1; intro _)))) | ((fail_if_success (fail_if_success (with_reducible show wpAny _ _ (call (Value.ref _) _ _) _ _ _))); k_here; first | ((with_reducible show wpAny _ _ (call (Value.ref 292) _) _ _ _); refine' entries_use (by k_asm) (by k_asm) (by k_asm) (by k_asm) (by k_asm) (by exact rfl) (by ktr_room) (by ktr_units) (by assumption) (by assumption) (by assumption) (by exact .head _) (by assumption) (by assumption) (by assumption) ?_; k_whole; intro _ _ _ _ _ _ _ _ _ _ _ _ _ _ _ _ _ _ _; (try dsimp only)) | ((with_reducible show wpAny _ _ (call (Value.ref 285) _) _ _ _); refine' oct_use (by k_asm) (by k_asm) (by k_asm) (by k_asm) (by k_asm) (by exact rfl) (by ktr_room) (by ktr_units) (by exact .head _) (by assumption) (by assumption) (by omega) (by assumption) ?_; k_whole; intro _ _ _ _ _ _ _ _ zl1; (try k_lt zl1); (try (revert zl1; intro _)); (try dsimp only))) | walk1); (try dsimp only)) | (dsimp only; (first | ((fail_if_success (fail_if_success (with_reducible show wpAny _ _ (binaryOp _ _ _) _ _ _))); k_here; ((with_reducible show wpAny _ _ (binaryOp Operator.Add (Value.ref _) (Value.ref _)) _ _ _); k_dflt (refine' kmk_add_lit (by k_asm) (by k_asm) (by kmk_list) (by kmk_list) (by exact rfl) ?_ (by kmk_size)); intro _ _ _ _ zl1; (try k_lt zl1); (try (revert zl1; intro _)))) | ((fail_if_success (fail_if_success (with_reducible show wpAny _ _ (subscriptTail _ _ _ _) _ _ _))); k_here; ((with_reducible show wpAny _ _ (subscriptTail (PySem.Expr.Name _ _) (PySem.Expr.Slice _ _ _ _) (Value.ref _) (Value.ref _)) _ _ _); k_dflt (refine' kms_slice_lit (by k_asm) (by k_asm) (by kmk_list) (by kmk_part) (by kmk_part) (by first | exact pick_from (Nat.le_of_lt (by assumption)) | exact pick_to (Nat.le_of_lt (by assumption))) ?_ (by with_unfolding_all rfl) (by kmk_pure) (by kmk_size)); intro _ _ _ _ zl1; (try k_lt zl1); (try (revert zl1; intro _)))) | ((fail_if_success (fail_if_success (with_reducible show wpAny _ _ (call (Value.ref _) _ _) _ _ _))); k_here; first | ((with_reducible show wpAny _ _ (call (Value.ref 292) _) _ _ _); refine' entries_use (by k_asm) (by k_asm) (by k_asm) (by k_asm) (by k_asm) (by exact rfl) (by ktr_room) (by ktr_units) (by assumption) (by assumption) (by assumption) (by exact .head _) (by assumption) (by assumption) (by assumption) ?_; k_whole; intro _ _ _ _ _ _ _ _ _ _ _ _ _ _ _ _ _ _ _; (try dsimp only)) | ((with_reducible show wpAny _ _ (call (Value.ref 285) _) _ _ _); refine' oct_use (by k_asm) (by k_asm) (by k_asm) (by k_asm) (by k_asm) (by exact rfl) (by ktr_room) (by ktr_units) (by exact .head _) (by assumption) (by assumption) (by omega) (by assumption) ?_; k_whole; intro _ _ _ _ _ _ _ _ zl1; (try k_lt zl1); (try (revert zl1; intro _)); (try dsimp only))) | walk1)) | (leave1; try dsimp only))
  (try dsimp only)
  refine wpAny_execs_cons ?_
  (rename Fr _ _ _ _ => lF'); (with_unfolding_all refine' For_invVF lF' ?k1 ?k2 ?_; (case k1 => exact rfl); (case k2 => exact rfl); k_whole)
  repeat' (first | (k_unfold; (try dsimp only)) | ((fail_if_success (with_reducible show wpAny _ _ (pyIter _) _ _ _)); (first | ((fail_if_success (fail_if_success (with_reducible show wpAny _ _ (binaryOp _ _ _) _ _ _))); k_here; ((with_reducible show wpAny _ _ (binaryOp Operator.Add (Value.ref _) (Value.ref _)) _ _ _); k_dflt (refine' kmk_add_lit (by k_asm) (by k_asm) (by kmk_list) (by kmk_list) (by exact rfl) ?_ (by kmk_size)); intro _ _ _ _ zl1; (try k_lt zl1); (try (revert zl1; intro _)))) | ((fail_if_success (fail_if_success (with_reducible show wpAny _ _ (subscriptTail _ _ _ _) _ _ _))); k_here; ((with_reducible show wpAny _ _ (subscriptTail (PySem.Expr.Name _ _) (PySem.Expr.Slice _ _ _ _) (Value.ref _) (Value.ref _)) _ _ _); k_dflt (refine' kms_slice_lit (by k_asm) (by k_asm) (by kmk_list) (by kmk_part) (by kmk_part) (by first | exact pick_from (Nat.le_of_lt (by assumption)) | exact pick_to (Nat.le_of_lt (by assumption))) ?_ (by with_unfolding_all rfl) (by kmk_pure) (by kmk_size)); intro _ _ _ _ zl1; (try k_lt zl1); (try (revert zl1; intro _)))) | ((fail_if_success (fail_if_success (with_reducible show wpAny _ _ (call (Value.ref _) _ _) _ _ _))); k_here; first | ((with_reducible show wpAny _ _ (call (Value.ref 292) _) _ _ _); refine' entries_use (by k_asm) (by k_asm) (by k_asm) (by k_asm) (by k_asm) (by exact rfl) (by ktr_room) (by ktr_units) (by assumption) (by assumption) (by assumption) (by exact .head _) (by assumption) (by assumption) (by assumption) ?_; k_whole; intro _ _ _ _ _ _ _ _ _ _ _ _ _ _ _ _ _ _ _; (try dsimp only)) | ((with_reducible show wpAny _ _ (call (Value.ref 285) _) _ _ _); refine' oct_use (by k_asm) (by k_asm) (by k_asm) (by k_asm) (by k_asm) (by exact rfl) (by ktr_room) (by ktr_units) (by exact .head _) (by assumption) (by assumption) (by omega) (by assumption) ?_; k_whole; intro _ _ _ _ _ _ _ _ zl1; (try k_lt zl1); (try (revert zl1; intro _)); (try dsimp only))) | walk1)) | (leave1; try dsimp only))
  rename_i r1 _h1 k1 _u _tk r2 _h2 k2 r3 _h3 k3 rw _h4 k4 _h5 o _h6 k5 _h7 _N0 d1 _h8 _F1 _N1 k6 d2 _h9 FF NN k7
  refine kmk_add_lit (its := (List.drop turn [Value.ref r1, Value.ref r2, Value.ref r3]).toArray) (its2 := (List.take turn [Value.ref r1, Value.ref r2, Value.ref r3]).toArray) (zs := rot turn [Value.ref r1, Value.ref r2, Value.ref r3]) FF NN ?a ?b rfl ?_ ?z
  case a => kmk_list
  case b => kmk_list
  case z =>
    rw [sizeLine_eq]
    simp only [List.length_drop, List.length_take, List.length_cons, List.length_nil]
    omega
  intro D h8 F8 N8 k8
  have ok : ∀ zs ∈ rot turn (rows3 a b c), RowOk zs := by
    intro zs hz
    have hz := rot_mem hz
    simp only [rows3, List.mem_cons, List.not_mem_nil, or_false] at hz
    rcases hz with rfl | rfl | rfl
    · exact rowOk4 (by omega) (by omega) (by omega) (by omega)
    · refine rowOk4 (by omega) (by omega) (by omega) ?_
      split <;> split <;> omega
    · exact rowOk4 (by omega) (by omega) (by omega) (by omega)
  have hlen3 : (rot turn (rows3 a b c)).length = 3 := rot_len (Nat.le_of_lt h3)
  subst hx
  obtain ⟨RR, N9, rows, hD, hRo, hsub⟩ : ∃ RR, News g' L' h8 ((o, listOf ([] : List Value).toArray 0) :: RR) ∧ RowsOn RR (rot turn [Value.ref r1, Value.ref r2, Value.ref r3]) (rot turn (rows3 a b c)) ∧
      (D, listOf (rot turn [Value.ref r1, Value.ref r2, Value.ref r3]).toArray 0) ∈ RR ∧ (∀ p ∈ RR, p.1 ≠ o) ∧ ∀ p ∈ (l, listOf [Value.int a t1, Value.int b t2, Value.int c t3].toArray c0) :: news, p ∈ RR := by
    refine ⟨_, pickRR N8, RowsOn.rot h3 (.tail _ (.tail _ (.tail _ (.head _)))) (.tail _ (.tail _ (.head _))) (.tail _ (.head _)) (.cons _ _ (.cons _ _ (.cons _ _ (.cons _ _ .nil)))) (.cons _ _ (.cons _ _ (.cons _ _ (.cons _ _ .nil)))) (.cons _ _ (.cons _ _ (.cons _ _ (.cons _ _ .nil)))) ?_ ?_ ?_, .head _, ?_, fun p hp => .tail _ (.tail _ (.tail _ (.tail _ hp)))⟩
    · exact ok _ (by unfold rot; exact rot_in h3 (.head _))
    · exact ok _ (by unfold rot; exact rot_in h3 (.tail _ (.head _)))
    · exact ok _ (by unfold rot; exact rot_in h3 (.tail _ (.tail _ (.head _))))
    · intro p hp
      rcases List.mem_cons.mp hp with rfl | hp
      · exact Nat.ne_of_gt (k8 _ (.tail _ (.tail _ (.head _))))
      · exact Nat.ne_of_lt (allLt_out (l := (r3, _) :: (r2, _) :: (r1, _) :: (l, _) :: news) k5.2 p hp)
  clear NN N8 k1 k2 k3 k4 k5 k6 k7 k8 _N0 _F1 _N1 FF
  obtain ⟨V3, hV3⟩ : ∃ v, v = rot turn [Value.ref r1, Value.ref r2, Value.ref r3] := ⟨_, rfl⟩
  have hVl : V3.length = 3 := by rw [hV3]; exact rot_len (Nat.le_of_lt h3)
  obtain ⟨Z3, hZ3⟩ : ∃ z, z = rot turn (rows3 a b c) := ⟨_, rfl⟩
  rw [← hV3, ← hZ3] at rows
  rw [← hV3] at hD
  rw [← hZ3] at ok hlen3 hret
  clear hV3 hZ3
  refine' kdl_iter (fun i m nx => ∃ (c' : Nat) (ws : List Value), m (Str.ofString "octets") = some (.ref o) ∧ nx = (o, listOf ws.toArray c') :: RR ∧ IntsAre ws (octRows (Z3.take i))) ?hh ?hl ?F ?N ?hj ?turn ?done
  case hh => exact rfl
  case F => exact F8
  case N => exact N9
  case hl => exact .tail _ hD
  case hj => exact ⟨0, [], rfl, rfl, by rw [List.take_zero]; exact .nil⟩
  case done =>
    rintro m₁ nx h tk ⟨c', ws, e1, rfl, hws⟩ F₁ N₁
    have F₂ := fr_put1 F₁ e1
    rw [hVl, List.take_of_length_le (by rw [hlen3]; exact Nat.le_refl _)] at hws
    have he := enc_rows ok
    have hle : (octRows Z3).length ≤ 400 := by have := octRows_len ok; omega
    obtain ⟨O3, hO3⟩ : ∃ z, z = octRows Z3 := ⟨_, rfl⟩
    rw [← hO3] at hws he hle
    clear F₁ F8 N9 rows hD hRo hO3 ok lF'
    repeat' (first | (k_unfold; (try dsimp only); (try (clear ek)); (try (clear qk))) | ((fail_if_success (fail_if_success (with_reducible show wpAny _ _ (execs (_ :: _) _) _ _ _))); k_fold) | (k_end; wrow_close) | ((fail_if_success (fail_if_success (with_reducible show wpAny _ _ (binaryOp _ _ _) _ _ _))); k_here; ((with_reducible show wpAny _ _ (binaryOp Operator.Add (Value.ref _) (Value.ref _)) _ _ _); k_dflt (refine' kmk_add_lit (by k_asm) (by k_asm) (by kmk_list) (by kmk_list) (by exact rfl) ?_ (by kmk_size)); intro _ _ _ _ zl1; (try k_lt zl1); (try (revert zl1; intro _)))) | ((fail_if_success (fail_if_success (with_reducible show wpAny _ _ (subscriptTail _ _ _ _) _ _ _))); k_here; ((with_reducible show wpAny _ _ (subscriptTail (PySem.Expr.Name _ _) (PySem.Expr.Slice _ _ _ _) (Value.ref _) (Value.ref _)) _ _ _); k_dflt (refine' kms_slice_lit (by k_asm) (by k_asm) (by kmk_list) (by kmk_part) (by kmk_part) (by first | exact pick_from (Nat.le_of_lt (by assumption)) | exact pick_to (Nat.le_of_lt (by assumption))) ?_ (by with_unfolding_all rfl) (by kmk_pure) (by kmk_size)); intro _ _ _ _ zl1; (try k_lt zl1); (try (revert zl1; intro _)))) | ((fail_if_success (fail_if_success (with_reducible show wpAny _ _ (call (Value.ref _) _ _) _ _ _))); k_here; first | ((with_reducible show wpAny _ _ (call (Value.ref 292) _) _ _ _); refine' entries_use (by k_asm) (by k_asm) (by k_asm) (by k_asm) (by k_asm) (by exact rfl) (by ktr_room) (by ktr_units) (by assumption) (by assumption) (by assumption) (by exact .head _) (by assumption) (by assumption) (by assumption) ?_; k_whole; intro _ _ _ _ _ _ _ _ _ _ _ _ _ _ _ _ _ _ _; (try dsimp only)) | ((with_reducible show wpAny _ _ (call (Value.ref 285) _) _ _ _); refine' oct_use (by k_asm) (by k_asm) (by k_asm) (by k_asm) (by k_asm) (by exact rfl) (by ktr_room) (by ktr_units) (by exact .head _) (by assumption) (by assumption) (by omega) (by assumption) ?_; k_whole; intro _ _ _ _ _ _ _ _ zl1; (try k_lt zl1); (try (revert zl1; intro _)); (try dsimp only))) | walk1 | (dsimp only; (first | ((fail_if_success (fail_if_success (with_reducible show wpAny _ _ (binaryOp _ _ _) _ _ _))); k_here; ((with_reducible show wpAny _ _ (binaryOp Operator.Add (Value.ref _) (Value.ref _)) _ _ _); k_dflt (refine' kmk_add_lit (by k_asm) (by k_asm) (by kmk_list) (by kmk_list) (by exact rfl) ?_ (by kmk_size)); intro _ _ _ _ zl1; (try k_lt zl1); (try (revert zl1; intro _)))) | ((fail_if_success (fail_if_success (with_reducible show wpAny _ _ (subscriptTail _ _ _ _) _ _ _))); k_here; ((with_reducible show wpAny _ _ (subscriptTail (PySem.Expr.Name _ _) (PySem.Expr.Slice _ _ _ _) (Value.ref _) (Value.ref _)) _ _ _); k_dflt (refine' kms_slice_lit (by k_asm) (by k_asm) (by kmk_list) (by kmk_part) (by kmk_part) (by first | exact pick_from (Nat.le_of_lt (by assumption)) | exact pick_to (Nat.le_of_lt (by assumption))) ?_ (by with_unfolding_all rfl) (by kmk_pure) (by kmk_size)); intro _ _ _ _ zl1; (try k_lt zl1); (try (revert zl1; intro _)))) | ((fail_if_success (fail_if_success (with_reducible show wpAny _ _ (call (Value.ref _) _ _) _ _ _))); k_here; first | ((with_reducible show wpAny _ _ (call (Value.ref 292) _) _ _ _); refine' entries_use (by k_asm) (by k_asm) (by k_asm) (by k_asm) (by k_asm) (by exact rfl) (by ktr_room) (by ktr_units) (by assumption) (by assumption) (by assumption) (by exact .head _) (by assumption) (by assumption) (by assumption) ?_; k_whole; intro _ _ _ _ _ _ _ _ _ _ _ _ _ _ _ _ _ _ _; (try dsimp only)) | ((with_reducible show wpAny _ _ (call (Value.ref 285) _) _ _ _); refine' oct_use (by k_asm) (by k_asm) (by k_asm) (by k_asm) (by k_asm) (by exact rfl) (by ktr_room) (by ktr_units) (by exact .head _) (by assumption) (by assumption) (by omega) (by assumption) ?_; k_whole; intro _ _ _ _ _ _ _ _ zl1; (try k_lt zl1); (try (revert zl1; intro _)); (try dsimp only))) | walk1)) | (leave1; (try dsimp only)) | fail "no step")
    exact hret _ _ _ _ _ (by assumption) (by assumption) (by assumption) (by assumption) (by assumption) (by assumption) (by assumption) ⟨_, _, _, _, rfl, by assumption, fun p hp => (by assumption : ∀ p ∈ (o, _) :: RR, p ∈ _) p (.tail _ (hsub p hp)), by assumption, by assumption⟩
  case turn =>
    rintro i v m₁ nx h tk own hv hoff hmem ⟨c', ws, e1, rfl, hws⟩ F₁ N₁
    obtain ⟨r, wr, zr, rfl, hr, hir, hzi, hzne, hz4, hzb⟩ := rows i v hv
    have hro := neN (hRo _ hr)
    have hi3 : i < 3 := by rw [← hVl]; exact (List.getElem?_eq_some_iff.mp hv).1
    have hwl : ws.length ≤ 72 := by
      rw [hws.length]
      have := octRows_len (zss := Z3.take i) fun z hz => ok z (List.mem_of_mem_take hz)
      rw [List.length_take] at this
      omega
    have F₂ := fr_put2 (v := .ref r) (u := .ref o) F₁ (if_pos rfl) (by show (if Str.ofString "octets" = Str.ofString "row" then _ else _) = _; rw [if_neg (by decide)]; exact e1)
    have N₂ : News g' L' h ((r, listOf (List.toArray wr) 0) :: (o, listOf ws.toArray c') :: (RR ++ own)) := fun q hq => N₁ q (by
      rcases List.mem_cons.mp hq with rfl | hq
      · exact .tail _ (List.mem_append_left _ hr)
      · exact hq)
    have hoffo : ∀ p ∈ RR ++ own, p.1 ≠ o := fun p hp => (List.mem_append.mp hp).elim (fun h => hRo p h) fun h => hoff p h o (.head _)
    have hnext : octRows (Z3.take (i + 1)) = octRows (Z3.take i) ++ mark128 (octsOf (zr.map Int.toNat)) := by
      rw [List.take_add_one, hzi]
      exact octRows_snoc _ _
    obtain ⟨O3, hO3⟩ : ∃ z, z = octRows (Z3.take i) := ⟨_, rfl⟩
    rw [← hO3] at hws hnext
    have hnext := PySem.Flt.Hid.mk hnext
    clear F₁ F8 N9 rows hRo hO3 ok lF' N₁ hzi hret hsub
    repeat' (first | (k_unfold; (try dsimp only); (try (clear ek)); (try (clear qk))) | ((fail_if_success (fail_if_success (with_reducible show wpAny _ _ (execs (_ :: _) _) _ _ _))); k_fold) | (k_end; wrow_close) | ((fail_if_success (fail_if_success (with_reducible show wpAny _ _ (binaryOp _ _ _) _ _ _))); k_here; ((with_reducible show wpAny _ _ (binaryOp Operator.Add (Value.ref _) (Value.ref _)) _ _ _); k_dflt (refine' kmk_add_lit (by k_asm) (by k_asm) (by kmk_list) (by kmk_list) (by exact rfl) ?_ (by kmk_size)); intro _ _ _ _ zl1; (try k_lt zl1); (try (revert zl1; intro _)))) | ((fail_if_success (fail_if_success (with_reducible show wpAny _ _ (subscriptTail _ _ _ _) _ _ _))); k_here; ((with_reducible show wpAny _ _ (subscriptTail (PySem.Expr.Name _ _) (PySem.Expr.Slice _ _ _ _) (Value.ref _) (Value.ref _)) _ _ _); k_dflt (refine' kms_slice_lit (by k_asm) (by k_asm) (by kmk_list) (by kmk_part) (by kmk_part) (by first | exact pick_from (Nat.le_of_lt (by assumption)) | exact pick_to (Nat.le_of_lt (by assumption))) ?_ (by with_unfolding_all rfl) (by kmk_pure) (by kmk_size)); intro _ _ _ _ zl1; (try k_lt zl1); (try (revert zl1; intro _)))) | ((fail_if_success (fail_if_success (with_reducible show wpAny _ _ (call (Value.ref _) _ _) _ _ _))); k_here; first | ((with_reducible show wpAny _ _ (call (Value.ref 292) _) _ _ _); refine' entries_use (by k_asm) (by k_asm) (by k_asm) (by k_asm) (by k_asm) (by exact rfl) (by ktr_room) (by ktr_units) (by assumption) (by assumption) (by assumption) (by exact .head _) (by assumption) (by assumption) (by assumption) ?_; k_whole; intro _ _ _ _ _ _ _ _ _ _ _ _ _ _ _ _ _ _ _; (try dsimp only)) | ((with_reducible show wpAny _ _ (call (Value.ref 285) _) _ _ _); refine' oct_use (by k_asm) (by k_asm) (by k_asm) (by k_asm) (by k_asm) (by exact rfl) (by ktr_room) (by ktr_units) (by exact .head _) (by assumption) (by assumption) (by omega) (by assumption) ?_; k_whole; intro _ _ _ _ _ _ _ _ zl1; (try k_lt zl1); (try (revert zl1; intro _)); (try dsimp only))) | walk1 | (dsimp only; (first | ((fail_if_success (fail_if_success (with_reducible show wpAny _ _ (binaryOp _ _ _) _ _ _))); k_here; ((with_reducible show wpAny _ _ (binaryOp Operator.Add (Value.ref _) (Value.ref _)) _ _ _); k_dflt (refine' kmk_add_lit (by k_asm) (by k_asm) (by kmk_list) (by kmk_list) (by exact rfl) ?_ (by kmk_size)); intro _ _ _ _ zl1; (try k_lt zl1); (try (revert zl1; intro _)))) | ((fail_if_success (fail_if_success (with_reducible show wpAny _ _ (subscriptTail _ _ _ _) _ _ _))); k_here; ((with_reducible show wpAny _ _ (subscriptTail (PySem.Expr.Name _ _) (PySem.Expr.Slice _ _ _ _) (Value.ref _) (Value.ref _)) _ _ _); k_dflt (refine' kms_slice_lit (by k_asm) (by k_asm) (by kmk_list) (by kmk_part) (by kmk_part) (by first | exact pick_from (Nat.le_of_lt (by assumption)) | exact pick_to (Nat.le_of_lt (by assumption))) ?_ (by with_unfolding_all rfl) (by kmk_pure) (by kmk_size)); intro _ _ _ _ zl1; (try k_lt zl1); (try (revert zl1; intro _)))) | ((fail_if_success (fail_if_success (with_reducible show wpAny _ _ (call (Value.ref _) _ _) _ _ _))); k_here; first | ((with_reducible show wpAny _ _ (call (Value.ref 292) _) _ _ _); refine' entries_use (by k_asm) (by k_asm) (by k_asm) (by k_asm) (by k_asm) (by exact rfl) (by ktr_room) (by ktr_units) (by assumption) (by assumption) (by assumption) (by exact .head _) (by assumption) (by assumption) (by assumption) ?_; k_whole; intro _ _ _ _ _ _ _ _ _ _ _ _ _ _ _ _ _ _ _; (try dsimp only)) | ((with_reducible show wpAny _ _ (call (Value.ref 285) _) _ _ _); refine' oct_use (by k_asm) (by k_asm) (by k_asm) (by k_asm) (by k_asm) (by exact rfl) (by ktr_room) (by ktr_units) (by exact .head _) (by assumption) (by assumption) (by omega) (by assumption) ?_; k_whole; intro _ _ _ _ _ _ _ _ zl1; (try k_lt zl1); (try (revert zl1; intro _)); (try dsimp only))) | walk1)) | (leave1; (try dsimp only)) | fail "no step")
    rename_i o9 vs9 c9 t9 h9 F9 N9 I9 l9
    have hl9 : vs9.length ≤ 24 := by
      rw [I9.length, mark_len]
      have := octs_len (zr.map Int.toNat) fun n hn => by
        obtain ⟨z, hz, rfl⟩ := List.mem_map.mp hn
        have := hzb z hz
        omega
      rw [List.length_map] at this
      omega
    refine extend_in (own := [_, _]) F9 N9 ?_ hoffo (N9 _ (.head _)).1 (fun h4 c4 F4 N4 => ?_) ?_
    · intro q hq
      simp only [List.mem_cons, List.not_mem_nil, or_false] at hq
      rcases hq with rfl | rfl
      · exact Nat.ne_of_gt l9.2.1
      · exact hro
    · clear N9 F9
      repeat' (first | (k_unfold; (try dsimp only); (try (clear ek)); (try (clear qk))) | ((fail_if_success (fail_if_success (with_reducible show wpAny _ _ (execs (_ :: _) _) _ _ _))); k_fold) | (k_end; wrow_close) | ((fail_if_success (fail_if_success (with_reducible show wpAny _ _ (binaryOp _ _ _) _ _ _))); k_here; ((with_reducible show wpAny _ _ (binaryOp Operator.Add (Value.ref _) (Value.ref _)) _ _ _); k_dflt (refine' kmk_add_lit (by k_asm) (by k_asm) (by kmk_list) (by kmk_list) (by exact rfl) ?_ (by kmk_size)); intro _ _ _ _ zl1; (try k_lt zl1); (try (revert zl1; intro _)))) | ((fail_if_success (fail_if_success (with_reducible show wpAny _ _ (subscriptTail _ _ _ _) _ _ _))); k_here; ((with_reducible show wpAny _ _ (subscriptTail (PySem.Expr.Name _ _) (PySem.Expr.Slice _ _ _ _) (Value.ref _) (Value.ref _)) _ _ _); k_dflt (refine' kms_slice_lit (by k_asm) (by k_asm) (by kmk_list) (by kmk_part) (by kmk_part) (by first | exact pick_from (Nat.le_of_lt (by assumption)) | exact pick_to (Nat.le_of_lt (by assumption))) ?_ (by with_unfolding_all rfl) (by kmk_pure) (by kmk_size)); intro _ _ _ _ zl1; (try k_lt zl1); (try (revert zl1; intro _)))) | ((fail_if_success (fail_if_success (with_reducible show wpAny _ _ (call (Value.ref _) _ _) _ _ _))); k_here; first | ((with_reducible show wpAny _ _ (call (Value.ref 292) _) _ _ _); refine' entries_use (by k_asm) (by k_asm) (by k_asm) (by k_asm) (by k_asm) (by exact rfl) (by ktr_room) (by ktr_units) (by assumption) (by assumption) (by assumption) (by exact .head _) (by assumption) (by assumption) (by assumption) ?_; k_whole; intro _ _ _ _ _ _ _ _ _ _ _ _ _ _ _ _ _ _ _; (try dsimp only)) | ((with_reducible show wpAny _ _ (call (Value.ref 285) _) _ _ _); refine' oct_use (by k_asm) (by k_asm) (by k_asm) (by k_asm) (by k_asm) (by exact rfl) (by ktr_room) (by ktr_units) (by exact .head _) (by assumption) (by assumption) (by omega) (by assumption) ?_; k_whole; intro _ _ _ _ _ _ _ _ zl1; (try k_lt zl1); (try (revert zl1; intro _)); (try dsimp only))) | walk1 | (dsimp only; (first | ((fail_if_success (fail_if_success (with_reducible show wpAny _ _ (binaryOp _ _ _) _ _ _))); k_here; ((with_reducible show wpAny _ _ (binaryOp Operator.Add (Value.ref _) (Value.ref _)) _ _ _); k_dflt (refine' kmk_add_lit (by k_asm) (by k_asm) (by kmk_list) (by kmk_list) (by exact rfl) ?_ (by kmk_size)); intro _ _ _ _ zl1; (try k_lt zl1); (try (revert zl1; intro _)))) | ((fail_if_success (fail_if_success (with_reducible show wpAny _ _ (subscriptTail _ _ _ _) _ _ _))); k_here; ((with_reducible show wpAny _ _ (subscriptTail (PySem.Expr.Name _ _) (PySem.Expr.Slice _ _ _ _) (Value.ref _) (Value.ref _)) _ _ _); k_dflt (refine' kms_slice_lit (by k_asm) (by k_asm) (by kmk_list) (by kmk_part) (by kmk_part) (by first | exact pick_from (Nat.le_of_lt (by assumption)) | exact pick_to (Nat.le_of_lt (by assumption))) ?_ (by with_unfolding_all rfl) (by kmk_pure) (by kmk_size)); intro _ _ _ _ zl1; (try k_lt zl1); (try (revert zl1; intro _)))) | ((fail_if_success (fail_if_success (with_reducible show wpAny _ _ (call (Value.ref _) _ _) _ _ _))); k_here; first | ((with_reducible show wpAny _ _ (call (Value.ref 292) _) _ _ _); refine' entries_use (by k_asm) (by k_asm) (by k_asm) (by k_asm) (by k_asm) (by exact rfl) (by ktr_room) (by ktr_units) (by assumption) (by assumption) (by assumption) (by exact .head _) (by assumption) (by assumption) (by assumption) ?_; k_whole; intro _ _ _ _ _ _ _ _ _ _ _ _ _ _ _ _ _ _ _; (try dsimp only)) | ((with_reducible show wpAny _ _ (call (Value.ref 285) _) _ _ _); refine' oct_use (by k_asm) (by k_asm) (by k_asm) (by k_asm) (by k_asm) (by exact rfl) (by ktr_room) (by ktr_units) (by exact .head _) (by assumption) (by assumption) (by omega) (by assumption) ?_; k_whole; intro _ _ _ _ _ _ _ _ zl1; (try k_lt zl1); (try (revert zl1; intro _)); (try dsimp only))) | walk1)) | (leave1; (try dsimp only)) | fail "no step")
      have hints := hws.append I9
      rw [← hnext.out] at hints
      refine InvEndG.intro F4 N4 ⟨.tail _ hD, c4, _, ?_, rfl, hints⟩ ?_ ?_ ?_
      · rfl
      · exact hoff
      · exact fun q hq => List.mem_append_right _ (by
            rcases List.mem_cons.mp hq with rfl | hq
            · exact .head _
            · exact .tail _ (List.mem_append_left _ hq))
      · exact fun q hq => List.mem_append_right _ (.tail _ (List.mem_append_right _ hq))
    · rw [List.size_toArray, sizeLine_eq]
      omega
end
section
section
variable {w : World} {A : Around} {E : Value → Shared → Prop} {s : Shared} {h₀ : Heap} {L : Addr} {m : Str → Option Value} {news : List (Addr × Obj)}
abbrev tiObj (x : Addr) (k : Nat) : Obj := { cls := .type "tuple_iterator", dict := none, data := .fields #[.ref x, .int k 0], slots := #[] }
theorem ti_type {hp : Heap} {g : Array GenState} {d : Drawn} {tk : Nat} {os : OsState} {it x : Addr} {k : Nat} (hit : hp.get? it = some (tiObj x k)) : Shared.TypeIs ⟨hp, g, d, tk, os⟩ (.ref it) "tuple_iterator" := ⟨_, hit, rfl⟩
theorem tnext_item {it x : Addr} {k : Nat} {o : Obj} {items : Array Value} {c : Nat} {v : Value} {Q : Option Value → Shared → Prop} {hp : Heap} {g : Array GenState} {d : Drawn} {tk : Nat} {os : OsState}
    (hit : hp.get? it = some (tiObj x k)) (hl : hp.get? x = some o) (ho : o.data = .seq items c) (hx : items[k]? = some v)
    (h : Q (some v) ⟨hp.update it (Obj.mapFields (·.setIfInBounds 1 (rawInt ((k : Int) + 1)))), g, d, tk, os⟩) :
    wpAny (model PR w) A (pyNext (.ref it)) Q E ⟨hp, g, d, tk, os⟩ := by
  unfold pyNext
  refine wpAny_bind (wpAny_attempt (wpAny_callSpecial?_slot (s := ⟨hp, g, d, tk, os⟩) (name := Str.ofString "__next__") (ti_type hit) PySem.F.slot_tuple_iterator_next
    (wpAny_call_entry PySem.F.slot_tuple_iterator_next (ti_type hit) PySem.F.entry_tuple_iterator_next ?_ (PySem.F.args_tuple_iterator_next_1 _))))
  show wpAny _ _ (field (.ref it) 0 >>= _) _ _ _
  refine wpAny_bind (wpAny_field hit rfl (x := .ref x) rfl ?_)
  show wpAny _ _ (if (Value.ref x == Value.none) = true then _ else _) _ _ _
  rw [if_neg (show ¬ ((Value.ref x == Value.none) = true) from Bool.false_ne_true)]
  show wpAny _ _ (field (.ref it) 1 >>= _) _ _ _
  refine wpAny_bind (wpAny_field hit rfl (x := .int k 0) rfl ?_)
  show wpAny _ _ (seqItems? (.ref x) >>= _) _ _ _
  refine wpAny_bind (wpAny_seqItems hl ho ?_)
  simp only [Int.toNat_natCast, hx]
  refine wpAny_bind (wpAny_setField hit rfl (by simp) (wpAny_pure ⟨v, rfl, wpAny_pure h⟩))
theorem tnext_end {it x : Addr} {k : Nat} {o : Obj} {items : Array Value} {c : Nat} {Q : Option Value → Shared → Prop} {hp : Heap} {g : Array GenState} {d : Drawn} {tk : Nat} {os : OsState} (hh : A.handled = none)
    (hit : hp.get? it = some (tiObj x k)) (hl : hp.get? x = some o) (ho : o.data = .seq items c) (hx : items[k]? = none)
    (h : ∀ h', Heap.ExtBut it hp h' → Q none ⟨h', g, d, tk, os⟩) :
    wpAny (model PR w) A (pyNext (.ref it)) Q E ⟨hp, g, d, tk, os⟩ := by
  unfold pyNext
  refine wpAny_bind (wpAny_attempt (wpAny_callSpecial?_slot (s := ⟨hp, g, d, tk, os⟩) (name := Str.ofString "__next__") (ti_type hit) PySem.F.slot_tuple_iterator_next
    (wpAny_call_entry PySem.F.slot_tuple_iterator_next (ti_type hit) PySem.F.entry_tuple_iterator_next ?_ (PySem.F.args_tuple_iterator_next_1 _))))
  show wpAny _ _ (field (.ref it) 0 >>= _) _ _ _
  refine wpAny_bind (wpAny_field hit rfl (x := .ref x) rfl ?_)
  show wpAny _ _ (if (Value.ref x == Value.none) = true then _ else _) _ _ _
  rw [if_neg (show ¬ ((Value.ref x == Value.none) = true) from Bool.false_ne_true)]
  show wpAny _ _ (field (.ref it) 1 >>= _) _ _ _
  refine wpAny_bind (wpAny_field hit rfl (x := .int k 0) rfl ?_)
  show wpAny _ _ (seqItems? (.ref x) >>= _) _ _ _
  refine wpAny_bind (wpAny_seqItems hl ho ?_)
  simp only [Int.toNat_natCast, hx]
  refine wpAny_bind (wpAny_rule (wpAny_bind (wpAny_setField hit rfl (by simp) ?_)))
  show wpAny _ _ (newExc (.type "StopIteration") [] >>= _) _ _ _
  refine wpAny_bind ?_
  simp only [newExc, newTuple]
  refine wpAny_bind (wpAny_newObj_type ?_ (by size_fits))
  refine wpAny_bind (m := firstArgMember _ _) (wpAny_of_eq (a := Value.none) (by first | rfl | (simp only [firstArgMember]; rfl)) ?_)
  refine wpAny_newObj_type ?_ (by size_fits)
  simp only [raiseNew]
  refine wpAny_bind (wpAny_handled ?_)
  first | rw [show A.in1.handled = none from hh] | rw [hh]
  refine wpAny_bind (wpAny_pure (wpAny_throw ?_))
  refine wpAny_bind (wpAny_isInstance (T := "StopIteration") (b := true) ⟨_, Heap.get?_push_size _ rfl, rfl⟩ isSubtype_stop ?_)
  exact wpAny_pure (h _ (((Heap.SameBut.update ..).extBut.push _).push _))
theorem tnext_N {it x d : Addr} {k : Nat} {vs : Array Value} {v : Value} {Q : Option Value → Shared → Prop} {rest : List (Addr × Obj)}
    (F : Fr h₀ L s.heap m) (N : News h₀ L s.heap ((it, tiObj x k) :: rest)) (hl : (x, entObj d vs) ∈ rest) (hne : ∀ p ∈ rest, p.1 ≠ it) (hx : vs[k]? = some v)
    (h : ∀ h', Fr h₀ L h' m → News h₀ L h' ((it, tiObj x (k + 1)) :: rest) → Q (some v) { s with heap := h' }) : wpAny (model PR w) A (pyNext (.ref it)) Q E s := by
  obtain ⟨hp, g, d, tk, os⟩ := s
  have hm := N (it, tiObj x k) (.head _)
  refine tnext_item hm.1 (N _ (.tail _ hl)).1 rfl hx (h _ (F.change (Heap.SameBut.update ..) hm.2.1 hm.2.2) ?_)
  exact News.setIn (own := []) N (fun _ h => nomatch h) hne (Heap.SameBut.update ..) (by rw [Heap.get?_update_self _ hm.1 rfl]; rfl)
theorem tnext_E {it x d : Addr} {k : Nat} {vs : Array Value} {Q : Option Value → Shared → Prop} {rest : List (Addr × Obj)} (hh : A.handled = none)
    (F : Fr h₀ L s.heap m) (N : News h₀ L s.heap ((it, tiObj x k) :: rest)) (hl : (x, entObj d vs) ∈ rest) (hne : ∀ p ∈ rest, p.1 ≠ it) (hx : vs[k]? = none)
    (h : ∀ h', Fr h₀ L h' m → News h₀ L h' rest → Q none { s with heap := h' }) : wpAny (model PR w) A (pyNext (.ref it)) Q E s := by
  obtain ⟨hp, g, d, tk, os⟩ := s
  have hm := N (it, tiObj x k) (.head _)
  refine tnext_end hh hm.1 (N _ (.tail _ hl)).1 rfl hx fun h' he => h h' ?_ fun p hp' => ⟨he _ _ (hne p hp') (N p (.tail _ hp')).1, (N p (.tail _ hp')).2⟩
  exact ⟨F.ns.at' fun o e => he _ o (Ne.symm hm.2.1) e, fun b o e => he b o (fun hb => by subst hb; rw [hm.2.2] at e; cases e) (F.keep b o e), F.above⟩
theorem ent_iter {x d : Addr} {vs : Array Value} {Q : Value → Shared → Prop} (F : Fr h₀ L s.heap m) (N : News h₀ L s.heap news) (X : (Mine.hd.heap_39 w.params).In h₀) (hx : (x, entObj d vs) ∈ news)
    (h : ∀ it h', Fr h₀ L h' m → News h₀ L h' ((it, tiObj x 0) :: news) → (∀ p ∈ news, p.1 < it) → Q (.ref it) { s with heap := h' }) : wpAny (model PR w) A (pyIter (.ref x)) Q E s := by
  have X' := X.keeps F.keep
  have y1 : Looks (model PR w) s.heap (typeOf (.ref x)) (.ref 191) := (Looks.ld (N _ hx).1).andThen .now
  have y2 : Looks (model PR w) s.heap (typeLookup (.ref 191) "__iter__") (some (.builtin "tuple.__iter__")) := Looks.of_peek X' (by kernel_rfl)
  have y3 : Looks (model PR w) s.heap (isSubtype (.ref 191) (.type "tuple")) true := Looks.of_peek X' (by kernel_rfl)
  have y4 : Looks (model PR w) s.heap (specialOf (.ref x) "__iter__") (some (.builtin "tuple.__iter__")) := y1.andThen y2
  have y5 : Looks (model PR w) s.heap (isInstance (.ref x) (.type "tuple")) true := y1.andThen y3
  have y6 : Looks (model PR w) s.heap (bindSpecial (.builtin "tuple.__iter__") (.ref x)) (.builtin "tuple.__iter__", [.ref x]) := Looks.of_pure (PySem.F.slot_tuple_iter.bind _)
  unfold pyIter callSpecialIfBoundUnlessNone? bindSpecialIfBound?
  refine wpAny_bind (y4.here ?_)
  dsimp only
  refine wpAny_bind (wpAny_holding (wpAny_bind (wpAny_bind (y4.here ?_))))
  dsimp only
  refine wpAny_bind (wpAny_askSetting (wpAny_ite ?_))
  split
  · repeat (first | (with_reducible refine wpAny_call ?_) | lk)
    refine codeAny_call_builtin (by decide +kernel) PySem.F.entry_tuple_iter (@check_slot (model PR w) _ _ _ "tuple.__iter__" "tuple" "__iter__" (.ref x) [] [] _ (by decide +kernel) (by decide +kernel) y5 (by unfold argsOk; kernel_rfl) ?_)
    show wpAny _ _ (do ret (← newFields "tuple_iterator" [.ref x, rawInt 0])) _ _ s
    refine wpAny_bind (wpAny_newObj_type (wpAny_pure (wpAny_pure ?_)))
    dsimp only
    refine wpAny_bind (wpAny_specialOf (s := { s with heap := s.heap.push _ }) ⟨_, Heap.get?_push_size _ rfl, rfl⟩ PySem.F.slot_tuple_iterator_next.lookup ?_)
    exact wpAny_pure (h _ _ (F.push _) (News.push F N _ rfl) (fun q hq => Heap.lt_size (N q hq).1))
  · refine wpAny_tryCatch ?_
    repeat (first | (with_reducible refine wpAny_call ?_) | lk)
    refine codeAny_call_builtin (by decide +kernel) PySem.F.entry_tuple_iter (@check_slot (model PR w) _ _ _ "tuple.__iter__" "tuple" "__iter__" (.ref x) [] [] _ (by decide +kernel) (by decide +kernel) y5 (by unfold argsOk; kernel_rfl) ?_)
    show wpAny _ _ (do ret (← newFields "tuple_iterator" [.ref x, rawInt 0])) _ _ s
    refine wpAny_bind (wpAny_newObj_type (wpAny_pure (wpAny_pure ?_)))
    dsimp only
    refine wpAny_bind (wpAny_specialOf (s := { s with heap := s.heap.push _ }) ⟨_, Heap.get?_push_size _ rfl, rfl⟩ PySem.F.slot_tuple_iterator_next.lookup ?_)
    exact wpAny_pure (h _ _ (F.push _) (News.push F N _ rfl) (fun q hq => Heap.lt_size (N q hq).1))
theorem ent_unpack {x d : Addr} {a b c e f : Value} {Q : List Value → Shared → Prop} (hh : A.handled = none) (F : Fr h₀ L s.heap m) (N : News h₀ L s.heap news) (X : (Mine.hd.heap_39 w.params).In h₀) (hx : (x, entObj d #[a, b, c, e, f]) ∈ news)
    (h : ∀ h', Fr h₀ L h' m → News h₀ L h' news → Q [a, b, c, e, f] { s with heap := h' }) : wpAny (model PR w) A (unpackItems (.ref x) 5 none) Q E s := by
  have X' := X.keeps F.keep
  have y1 : Looks (model PR w) s.heap (typeOf (.ref x)) (.ref 191) := (Looks.ld (N _ hx).1).andThen .now
  have y2 : Looks (model PR w) s.heap (typeLookup (.ref 191) "__iter__") (some (.builtin "tuple.__iter__")) := Looks.of_peek X' (by kernel_rfl)
  have y4 : Looks (model PR w) s.heap (specialOf (.ref x) "__iter__") (some (.builtin "tuple.__iter__")) := y1.andThen y2
  unfold unpackItems notIterableAtAll
  refine wpAny_bind (wpAny_bind (y4.here ?_))
  refine wpAny_pure ?_
  simp only [Bool.false_eq_true, if_false]
  refine wpAny_bind (wpAny_holding (ent_iter F N X hx fun it h1 F1 N1 l1 => ?_))
  have hne : ∀ p ∈ news, p.1 ≠ it := fun p hp => Nat.ne_of_lt (l1 p hp)
  refine wpAny_bind (wpAny_holding ?_)
  unfold draw
  refine wpAny_bind (tnext_N F1 N1 hx hne (v := a) rfl fun h2 F2 N2 => ?_)
  refine wpAny_bind (wpAny_holding ?_)
  unfold draw
  refine wpAny_bind (tnext_N F2 N2 hx hne (v := b) rfl fun h3 F3 N3 => ?_)
  refine wpAny_bind (wpAny_holding ?_)
  unfold draw
  refine wpAny_bind (tnext_N F3 N3 hx hne (v := c) rfl fun h4 F4 N4 => ?_)
  refine wpAny_bind (wpAny_holding ?_)
  unfold draw
  refine wpAny_bind (tnext_N F4 N4 hx hne (v := e) rfl fun h5 F5 N5 => ?_)
  refine wpAny_bind (wpAny_holding ?_)
  unfold draw
  refine wpAny_bind (tnext_N F5 N5 hx hne (v := f) rfl fun h6 F6 N6 => ?_)
  refine wpAny_bind (wpAny_holding ?_)
  unfold draw
  refine wpAny_pure (wpAny_pure (wpAny_pure (wpAny_pure (wpAny_pure (wpAny_pure ?_)))))
  rw [if_neg (by simp)]
  refine wpAny_bind (wpAny_holding (tnext_E hh F6 N6 hx hne rfl fun h7 F7 N7 => ?_))
  simp only [Option.isSome_none, Bool.false_eq_true, if_false]
  exact wpAny_pure (h h7 F7 N7)
theorem unpackE_ {env : Env} {elts : List Expr} {k} {pos : Pos} {x d : Addr} {a b c e f : Value} {Q : Unit → Shared → Prop} (F : Fr h₀ L s.heap m) (N : News h₀ L s.heap news) (X : (Mine.hd.heap_39 w.params).In h₀) (hx : (x, entObj d #[a, b, c, e, f]) ∈ news)
    (hh : A.handled = none) (hn : (assignEach elts env).length = 5) (hstar : (assignEach elts env).findIdx? (·.1) = none)
    (h : ∀ h', Fr h₀ L h' m → News h₀ L h' news → wpAny (model PR w) A (assignInOrder ((assignEach elts env).map (·.2)) [a, b, c, e, f]) Q E { s with heap := h' }) :
    wpAny (model PR w) A (assign (.Tuple elts k pos) env (.ref x)) Q E s := by
  show wpAny _ _ (standAt pos >>= fun _ => unpack (.ref x) (assignEach elts env)) Q E s
  refine wpAny_bind (wpAny_standAt ?_)
  unfold unpack
  rw [hn, hstar]
  exact wpAny_bind (wpAny_holding (ent_unpack hh F N X hx h))
/-- for over a ledger list, whatever the target -/
theorem kdl_iterT {env : Env} {target : Expr} {body : List Stmt} {Q : Flow → Shared → Prop} {l : Addr} {vs : List Value} {nn : Nat} {m₀ : Str → Option Value} (J : Nat → (Str → Option Value) → List (Addr × Obj) → Prop)
    (hh : A.handled = none) (hl : (l, listOf vs.toArray nn) ∈ news) (F : Fr h₀ env.locals s.heap m₀) (N : News h₀ env.locals s.heap news) (hj : J 0 m₀ news)
    (turn : ∀ i v m₁ news₁ h tk own, vs[i]? = some v → OwnOff own (news₁.map (·.1)) → (l, listOf vs.toArray nn) ∈ news₁ → J i m₁ news₁ → Fr h₀ env.locals h m₁ → News h₀ env.locals h (news₁ ++ own) →
      wpAny (model PR w) A (assign target env v) (fun _ s₃ => wpAny (model PR w) A (execs body env) (InvPostG h₀ env.locals (fun m' nx => (l, listOf vs.toArray nn) ∈ nx ∧ J (i + 1) m' nx) own { s with heap := h, toks := tk } Q) E s₃) E { s with heap := h, toks := tk })
    (done : ∀ m₁ news₁ h tk, J vs.length m₁ news₁ → Fr h₀ env.locals h m₁ → News h₀ env.locals h news₁ → Q .next { s with heap := h, toks := tk }) :
    wpAny (model PR w) A (pyIter (.ref l)) (fun it s₂ => TurnsAt PR w A h₀ env target body Q E it s₂) E s := by
  have hol : s.heap.get? l = some (listOf vs.toArray nn) := (N _ hl).1
  have hls : s.heap.IsList l vs.toArray := ⟨_, hol, rfl, nn, rfl⟩
  have hne : l ≠ s.heap.objs.size := Nat.ne_of_lt (Heap.lt_size hol)
  refine wpAny_pyIter_list hls ?_
  have W := Walks.list (prog := PR) (w := w) hh s.heap.objs.size l hne vs.toArray
  rw [show vs.toArray.size = vs.length from by simp] at W
  refine ⟨_, _, _, vs.length, _, _, _, m₀, news, (fun i m nx => (l, listOf vs.toArray nn) ∈ nx ∧ J i m nx), rfl, KTurns.ofWalks W (fun i v s Q E st q => letGo_listiter st.1 q), ?_, ?_, ?_, ⟨⟨_, Heap.get?_push_size _ rfl, rfl, rfl⟩, hls.at fun o e => Heap.get?_push_of_some _ e⟩, F.push _, (fun p hp => ⟨Heap.get?_push_of_some _ (N p hp).1, (N p hp).2⟩), ⟨hl, hj⟩, ?_, ?_⟩
  · intro hm
    rcases List.mem_cons.mp hm with e | hm
    · exact absurd F.ns.lt (e ▸ Nat.lt_irrefl _)
    · exact (N _ hl).2.1 ((List.mem_singleton.mp hm).symm)
  · intro b hb
    rw [List.mem_singleton.mp hb]
    exact next_is_new F
  · intro p hp hI
    exact absurd (Heap.lt_size (N p hp).1) ((List.mem_singleton.mp hI) ▸ Nat.lt_irrefl _)
  · rintro i v m₁ news₁ hh' tk' own hin hP ⟨hl₁, hJ⟩ hoff hown hget hfp hst F₁ N₁
    have hP' : vs[i]? = some v := by simpa using hP
    have hI0 : h₀.get? s.heap.objs.size = none := next_is_new F
    obtain ⟨⟨oI, hoI, _⟩, _⟩ := id hst
    have hIown : (s.heap.objs.size, oI) ∈ own.filter fun p => decide (p.1 = s.heap.objs.size) := List.mem_filter.mpr ⟨hfp _ (List.mem_cons.mpr (.inl rfl)) hI0 _ hoI, by simp⟩
    have hsep : OwnOff (own.filter fun p => decide (p.1 = s.heap.objs.size)) (news₁.map (·.1)) := by
      intro p hp b hb e
      obtain ⟨q, hq, rfl⟩ := List.mem_map.mp hb
      have h1 : p.1 = s.heap.objs.size := by simpa using (List.mem_filter.mp hp).2
      exact hoff q hq (List.mem_singleton.mpr (e ▸ h1))
    have N₂ : News h₀ env.locals hh' (news₁ ++ own.filter fun p => decide (p.1 = s.heap.objs.size)) := fun p hp => N₁ p ((List.mem_append.mp hp).elim (fun h => List.mem_append.mpr (.inr h)) fun h => List.mem_append.mpr (.inl ((List.mem_filter.mp h).1)))
    have hlo : hh'.get? l = some (listOf vs.toArray nn) := (N₁ _ (List.mem_append.mpr (.inr hl₁))).1
    refine wpAny_mono (turn i v m₁ news₁ hh' tk' _ hP' hsep hl₁ hJ F₁ N₂) (fun _ s₄ p₄ => wpAny_mono p₄ (fun f s₂ p => ?_) fun _ _ e => e) fun _ _ e => e
    have fin : InvEndG h₀ env.locals (fun m' nx => (l, listOf vs.toArray nn) ∈ nx ∧ J (i + 1) m' nx) (own.filter fun p => decide (p.1 = s.heap.objs.size)) { s with heap := hh', toks := tk' } s₂ →
        LoopStepU h₀ env.locals [s.heap.objs.size] own (fun m nx => (l, listOf vs.toArray nn) ∈ nx ∧ J (i + 1) m nx) { s with heap := hh', toks := tk' } .next s₂ := by
      rintro ⟨h', tk, m', news', nx, e, F', N', hn, ho, ha, hm⟩
      refine ⟨rfl, h', tk, m', nx, e, F', fun p hp => ?_, fun p hp hq => ?_, hm⟩
      · rcases List.mem_append.mp hp with h | h
        · by_cases hI : p.1 = s.heap.objs.size
          · exact N' p (ho p (List.mem_filter.mpr ⟨h, by simpa using hI⟩))
          · have h1 : p.1 = l := by
              rcases List.mem_cons.mp (hown p h) with h2 | h2
              · exact absurd h2 hI
              · exact List.mem_singleton.mp h2
            have h2 : hh'.get? p.1 = some p.2 := hget p h
            rw [h1, hlo] at h2
            have h3 : p = (l, listOf vs.toArray nn) := Prod.ext h1 (Option.some.inj h2).symm
            rw [h3]
            exact N' _ (hn _ hm.1)
        · exact N' p (hn p h)
      · exact ha _ hIown p.1 (List.mem_map.mpr ⟨p, hp, rfl⟩) (List.mem_singleton.mp hq).symm
    cases f with
    | ret v => exact p
    | brk => exact p
    | next => exact fin p
    | cont => exact fin p
  · rintro h' tk m' news' F' N' _ ⟨_, hJ⟩
    exact done m' news' h' tk hJ F' N'
end
end
section
/-- what a call gives, the tokens told: they never fall -/
abbrev GivesT (w : World) (p : Program) (loose : List Str) (mean : ExcName → Option Value) (mg mb : Str → Option Value) (f : Addr) (D U : Nat)
    (news : List (Addr × Obj)) (vs : List Value) (Ret : Value → List (Addr × Obj) → Nat → Nat → Prop) : Prop :=
  ∀ (dp un : Nat) (gd : Option (List Code)) (cn : Str) (cs : Scope) (a : Addr) (ccd : Value) (cl : List (Str × Addr)) (outer : List Env) (A₀ : Around) (base h₀ : Heap) (L : Addr) (m : Str → Option Value) (s : Shared) (Q E : Value → Shared → Prop),
    Below A₀ base outer h₀ → Fr h₀ L s.heap m → (Mine.hd.heap_39 w.params).In h₀ → News h₀ L s.heap news → Top p loose mean mg mb h₀ → cs.kind = .function →
    dp + D < recursionLimit → un + U < cLine →
    (∀ (r : Value) (news' : List (Addr × Obj)) (h' : Heap) (tk' : Nat), Fr h₀ L h' m → News h₀ L h' news' → s.toks ≤ tk' → Ret r news' s.toks tk' → Q r { s with heap := h', toks := tk' }) →
    wpAny (model PR w) (ktrTop dp un gd cn cs L a ccd cl outer) (call (.ref f) vs) Q E s
noncomputable def TokBase (_ : Nat) : Prop := True
theorem gen_tok {α : Type} {M : Model} {A : Around} {t : Sem α} {Q : α → Shared → Prop} {E : Value → Shared → Prop} {hp : Heap} {g : Array GenState} {d : Drawn} {os : OsState} {y z n : Nat} (_ : TokBase n) (hn : n ≤ y + z)
    (h : ∀ tk, n ≤ tk → wpAny M A t Q E ⟨hp, g, d, tk, os⟩) : wpAny M A t Q E ⟨hp, g, d, y + z, os⟩ := h _ hn
theorem gen_tok0 {α : Type} {M : Model} {A : Around} {t : Sem α} {Q : α → Shared → Prop} {E : Value → Shared → Prop} {hp : Heap} {g : Array GenState} {d : Drawn} {os : OsState} {y : Shared} {n : Nat} (_ : TokBase n) (hn : n ≤ y.toks)
    (h : ∀ tk, n ≤ tk → wpAny M A t Q E ⟨hp, g, d, tk, os⟩) : wpAny M A t Q E ⟨hp, g, d, y.toks, os⟩ := h _ hn
section
variable {w : World} {p : Program} {loose : List Str} {mean : ExcName → Option Value} {mg mb : Str → Option Value} {f : Addr} {D U : Nat} {news nw : List (Addr × Obj)} {vs : List Value} {v : Value} {vt : Tok → Value}
  {dp un : Nat} {gd : Option (List Code)} {cn : Str} {cs : Scope} {a : Addr} {ccd : Value} {cl : List (Str × Addr)} {outer : List Env} {A₀ : Around} {base h₀ : Heap} {L : Addr} {m : Str → Option Value} {s : Shared} {Q E : Value → Shared → Prop}
theorem GivesT.val (G : GivesT w p loose mean mg mb f D U news vs fun r nx _ _ => r = v ∧ nx = nw)
    (B : Below A₀ base outer h₀) (F : Fr h₀ L s.heap m) (X : (Mine.hd.heap_39 w.params).In h₀) (N : News h₀ L s.heap news) (T : Top p loose mean mg mb h₀) (hk : cs.kind = .function) (hd : dp + D < recursionLimit) (hu : un + U < cLine)
    (ret : ∀ h' tk', Fr h₀ L h' m → s.toks ≤ tk' → News h₀ L h' nw → Q v { s with heap := h', toks := tk' }) :
    wpAny (model PR w) (ktrTop dp un gd cn cs L a ccd cl outer) (call (.ref f) vs) Q E s :=
  G dp un gd cn cs a ccd cl outer A₀ base h₀ L m s Q E B F X N T hk hd hu (by
    rintro _ _ h' tk' F' N' le ⟨rfl, rfl⟩
    exact ret h' tk' F' le N')
theorem GivesT.val0 (G : GivesT w p loose mean mg mb f D U news vs fun r nx _ _ => r = v ∧ nx = nw)
    (B : Below A₀ base outer h₀) (F : Fr h₀ L s.heap m) (X : (Mine.hd.heap_39 w.params).In h₀) (N : News h₀ L s.heap news) (T : Top p loose mean mg mb h₀) (hk : cs.kind = .function) (hd : dp + D < recursionLimit) (hu : un + U < cLine)
    (ret : ∀ h' tk', Fr h₀ L h' m → News h₀ L h' nw → Q v { s with heap := h', toks := tk' }) :
    wpAny (model PR w) (ktrTop dp un gd cn cs L a ccd cl outer) (call (.ref f) vs) Q E s :=
  GivesT.val G B F X N T hk hd hu fun h' tk' F' _ N' => ret h' tk' F' N'
theorem GivesT.some (G : GivesT w p loose mean mg mb f D U news vs fun r nx k0 _ => (∃ t, r = vt t ∧ k0 ≤ t) ∧ nx = nw)
    (B : Below A₀ base outer h₀) (F : Fr h₀ L s.heap m) (X : (Mine.hd.heap_39 w.params).In h₀) (N : News h₀ L s.heap news) (T : Top p loose mean mg mb h₀) (hk : cs.kind = .function) (hd : dp + D < recursionLimit) (hu : un + U < cLine)
    (ret : ∀ h' tk', Fr h₀ L h' m → s.toks ≤ tk' → ∀ t, s.toks ≤ t → News h₀ L h' nw → Q (vt t) { s with heap := h', toks := tk' }) :
    wpAny (model PR w) (ktrTop dp un gd cn cs L a ccd cl outer) (call (.ref f) vs) Q E s :=
  G dp un gd cn cs a ccd cl outer A₀ base h₀ L m s Q E B F X N T hk hd hu (by
    rintro _ _ h' tk' F' N' le ⟨⟨t, rfl, lt⟩, rfl⟩
    exact ret h' tk' F' le t lt N')
theorem GivesT.some0 (G : GivesT w p loose mean mg mb f D U news vs fun r nx k0 _ => (∃ t, r = vt t ∧ k0 ≤ t) ∧ nx = nw)
    (B : Below A₀ base outer h₀) (F : Fr h₀ L s.heap m) (X : (Mine.hd.heap_39 w.params).In h₀) (N : News h₀ L s.heap news) (T : Top p loose mean mg mb h₀) (hk : cs.kind = .function) (hd : dp + D < recursionLimit) (hu : un + U < cLine)
    (ret : ∀ h' tk', Fr h₀ L h' m → ∀ t, News h₀ L h' nw → Q (vt t) { s with heap := h', toks := tk' }) :
    wpAny (model PR w) (ktrTop dp un gd cn cs L a ccd cl outer) (call (.ref f) vs) Q E s :=
  GivesT.some G B F X N T hk hd hu fun h' tk' F' _ t _ N' => ret h' tk' F' t N'
theorem Gives.some (G : Gives w p loose mean mg mb f D U news vs fun r nx => (∃ t, r = vt t) ∧ nx = nw)
    (B : Below A₀ base outer h₀) (F : Fr h₀ L s.heap m) (X : (Mine.hd.heap_39 w.params).In h₀) (N : News h₀ L s.heap news) (T : Top p loose mean mg mb h₀) (hk : cs.kind = .function) (hd : dp + D < recursionLimit) (hu : un + U < cLine)
    (ret : ∀ h' tk', Fr h₀ L h' m → ∀ t, News h₀ L h' nw → Q (vt t) { s with heap := h', toks := tk' }) :
    wpAny (model PR w) (ktrTop dp un gd cn cs L a ccd cl outer) (call (.ref f) vs) Q E s :=
  G dp un gd cn cs a ccd cl outer A₀ base h₀ L m s Q E B F X N T hk hd hu (by
    rintro _ _ h' tk' F' N' ⟨⟨t, rfl⟩, rfl⟩
    exact ret h' tk' F' t N')
end
theorem lt_t {w : World} {p : Program} {loose : List Str} {mean : ExcName → Option Value} {mg mb : Str → Option Value} {a b : Int} {ta tb : Tok} {news : List (Addr × Obj)} :
    GivesT w p loose mean mg mb 215 2 20 news [.int a ta, .int b tb] (fun r nx _ _ => r = .bool (decide (a < b)) ∧ nx = news) := by
  w_on
  intro dp un gd cn cs a ccd cl outer A₀ base h₀ L m s Q E B F X N T hk hd hu hret
  have hTB : TokBase s.toks := True.intro
  refine wpAny_call ?_
  k_dflt cell_enter
  repeat' (first | (k_unfold; (try dsimp only); (try (clear ek)); (try (clear qk))) | ((fail_if_success (fail_if_success (with_reducible show wpAny _ _ (execs (_ :: _) _) _ _ _))); k_fold) | (k_end; wrow_close) | ((fail_if_success (fail_if_success (with_reducible show wpAny _ _ (execs _ _) _ _ _))); k_here; ((refine' gen_tok (by assumption) (by first | omega | ((try dsimp only at *); omega)) ?_); intro _ _)) | walk1 | (dsimp only; (first | ((fail_if_success (fail_if_success (with_reducible show wpAny _ _ (execs _ _) _ _ _))); k_here; ((refine' gen_tok (by assumption) (by first | omega | ((try dsimp only at *); omega)) ?_); intro _ _)) | walk1)) | (leave1; (try dsimp only)) | fail "no step")
  exact hret _ _ _ _ (by assumption) (by assumption) (by (try dsimp only at *); omega) ⟨rfl, rfl⟩
theorem le_t {w : World} {p : Program} {loose : List Str} {mean : ExcName → Option Value} {mg mb : Str → Option Value} {a b : Int} {ta tb : Tok} {news : List (Addr × Obj)} :
    GivesT w p loose mean mg mb 222 2 20 news [.int a ta, .int b tb] (fun r nx _ _ => r = .bool (decide (a ≤ b)) ∧ nx = news) := by
  w_on
  intro dp un gd cn cs a ccd cl outer A₀ base h₀ L m s Q E B F X N T hk hd hu hret
  have hTB : TokBase s.toks := True.intro
  refine wpAny_call ?_
  k_dflt cell_enter
  repeat' (first | (k_unfold; (try dsimp only); (try (clear ek)); (try (clear qk))) | ((fail_if_success (fail_if_success (with_reducible show wpAny _ _ (execs (_ :: _) _) _ _ _))); k_fold) | (k_end; wrow_close) | ((fail_if_success (fail_if_success (with_reducible show wpAny _ _ (execs _ _) _ _ _))); k_here; ((refine' gen_tok (by assumption) (by first | omega | ((try dsimp only at *); omega)) ?_); intro _ _)) | walk1 | (dsimp only; (first | ((fail_if_success (fail_if_success (with_reducible show wpAny _ _ (execs _ _) _ _ _))); k_here; ((refine' gen_tok (by assumption) (by first | omega | ((try dsimp only at *); omega)) ?_); intro _ _)) | walk1)) | (leave1; (try dsimp only)) | fail "no step")
  exact hret _ _ _ _ (by assumption) (by assumption) (by (try dsimp only at *); omega) ⟨rfl, rfl⟩
theorem eq_t {w : World} {p : Program} {loose : List Str} {mean : ExcName → Option Value} {mg mb : Str → Option Value} {a b : Int} {ta tb : Tok} {news : List (Addr × Obj)} :
    GivesT w p loose mean mg mb 229 2 20 news [.int a ta, .int b tb] (fun r nx _ _ => r = .bool (decide (a = b)) ∧ nx = news) := by
  w_on
  intro dp un gd cn cs a ccd cl outer A₀ base h₀ L m s Q E B F X N T hk hd hu hret
  have hTB : TokBase s.toks := True.intro
  refine wpAny_call ?_
  k_dflt cell_enter
  repeat' (first | (k_unfold; (try dsimp only); (try (clear ek)); (try (clear qk))) | ((fail_if_success (fail_if_success (with_reducible show wpAny _ _ (execs (_ :: _) _) _ _ _))); k_fold) | (k_end; wrow_close) | ((fail_if_success (fail_if_success (with_reducible show wpAny _ _ (execs _ _) _ _ _))); k_here; ((refine' gen_tok (by assumption) (by first | omega | ((try dsimp only at *); omega)) ?_); intro _ _)) | walk1 | (dsimp only; (first | ((fail_if_success (fail_if_success (with_reducible show wpAny _ _ (execs _ _) _ _ _))); k_here; ((refine' gen_tok (by assumption) (by first | omega | ((try dsimp only at *); omega)) ?_); intro _ _)) | walk1)) | (leave1; (try dsimp only)) | fail "no step")
  exact hret _ _ _ _ (by assumption) (by assumption) (by (try dsimp only at *); omega) ⟨rfl, rfl⟩
theorem add_t {w : World} {p : Program} {loose : List Str} {mean : ExcName → Option Value} {mg mb : Str → Option Value} {a b : Int} {ta tb : Tok} {news : List (Addr × Obj)} :
    GivesT w p loose mean mg mb 236 2 20 news [.int a ta, .int b tb] (fun r nx k0 _ => (∃ t, r = .int (a + b) t ∧ k0 ≤ t) ∧ nx = news) := by
  w_on
  intro dp un gd cn cs a ccd cl outer A₀ base h₀ L m s Q E B F X N T hk hd hu hret
  have hTB : TokBase s.toks := True.intro
  refine wpAny_call ?_
  k_dflt cell_enter
  repeat' (first | (k_unfold; (try dsimp only); (try (clear ek)); (try (clear qk))) | ((fail_if_success (fail_if_success (with_reducible show wpAny _ _ (execs (_ :: _) _) _ _ _))); k_fold) | (k_end; wrow_close) | ((fail_if_success (fail_if_success (with_reducible show wpAny _ _ (execs _ _) _ _ _))); k_here; ((refine' gen_tok (by assumption) (by first | omega | ((try dsimp only at *); omega)) ?_); intro _ _)) | walk1 | (dsimp only; (first | ((fail_if_success (fail_if_success (with_reducible show wpAny _ _ (execs _ _) _ _ _))); k_here; ((refine' gen_tok (by assumption) (by first | omega | ((try dsimp only at *); omega)) ?_); intro _ _)) | walk1)) | (leave1; (try dsimp only)) | fail "no step")
  exact hret _ _ _ _ (by assumption) (by assumption) (by (try dsimp only at *); omega) ⟨⟨_, rfl, by (try dsimp only at *); omega⟩, rfl⟩
theorem sub_t {w : World} {p : Program} {loose : List Str} {mean : ExcName → Option Value} {mg mb : Str → Option Value} {a b : Int} {ta tb : Tok} {news : List (Addr × Obj)} :
    GivesT w p loose mean mg mb 257 2 20 news [.int a ta, .int b tb] (fun r nx k0 _ => (∃ t, r = .int (a - b) t ∧ k0 ≤ t) ∧ nx = news) := by
  w_on
  intro dp un gd cn cs a ccd cl outer A₀ base h₀ L m s Q E B F X N T hk hd hu hret
  have hTB : TokBase s.toks := True.intro
  refine wpAny_call ?_
  k_dflt cell_enter
  repeat' (first | (k_unfold; (try dsimp only); (try (clear ek)); (try (clear qk))) | ((fail_if_success (fail_if_success (with_reducible show wpAny _ _ (execs (_ :: _) _) _ _ _))); k_fold) | (k_end; wrow_close) | ((fail_if_success (fail_if_success (with_reducible show wpAny _ _ (execs _ _) _ _ _))); k_here; ((refine' gen_tok (by assumption) (by first | omega | ((try dsimp only at *); omega)) ?_); intro _ _)) | walk1 | (dsimp only; (first | ((fail_if_success (fail_if_success (with_reducible show wpAny _ _ (execs _ _) _ _ _))); k_here; ((refine' gen_tok (by assumption) (by first | omega | ((try dsimp only at *); omega)) ?_); intro _ _)) | walk1)) | (leave1; (try dsimp only)) | fail "no step")
  exact hret _ _ _ _ (by assumption) (by assumption) (by (try dsimp only at *); omega) ⟨⟨_, rfl, by (try dsimp only at *); omega⟩, rfl⟩
theorem mul2_t {w : World} {p : Program} {loose : List Str} {mean : ExcName → Option Value} {mg mb : Str → Option Value} {b : Int} {ta tb : Tok} {news : List (Addr × Obj)} :
    GivesT w p loose mean mg mb 250 2 20 news [.int 2 ta, .int b tb] (fun r nx k0 _ => (∃ t, r = .int (2 * b) t ∧ k0 ≤ t) ∧ nx = news) := by
  w_on
  intro dp un gd cn cs a ccd cl outer A₀ base h₀ L m s Q E B F X N T hk hd hu hret
  have hTB : TokBase s.toks := True.intro
  refine wpAny_call ?_
  k_dflt cell_enter
  repeat' (first | (k_unfold; (try dsimp only); (try (clear ek)); (try (clear qk))) | ((fail_if_success (fail_if_success (with_reducible show wpAny _ _ (execs (_ :: _) _) _ _ _))); k_fold) | (k_end; wrow_close) | ((fail_if_success (fail_if_success (with_reducible show wpAny _ _ (execs _ _) _ _ _))); k_here; ((refine' gen_tok (by assumption) (by first | omega | ((try dsimp only at *); omega)) ?_); intro _ _)) | walk1 | (dsimp only; (first | ((fail_if_success (fail_if_success (with_reducible show wpAny _ _ (execs _ _) _ _ _))); k_here; ((refine' gen_tok (by assumption) (by first | omega | ((try dsimp only at *); omega)) ?_); intro _ _)) | walk1)) | (leave1; (try dsimp only)) | fail "no step")
  exact hret _ _ _ _ (by assumption) (by assumption) (by (try dsimp only at *); omega) ⟨⟨_, rfl, by (try dsimp only at *); omega⟩, rfl⟩
theorem div2_t {w : World} {p : Program} {loose : List Str} {mean : ExcName → Option Value} {mg mb : Str → Option Value} {a : Int} {ta tb : Tok} {news : List (Addr × Obj)} :
    GivesT w p loose mean mg mb 243 2 20 news [.int a ta, .int 2 tb] (fun r nx k0 _ => (∃ t, r = .int (a / 2) t ∧ k0 ≤ t) ∧ nx = news) := by
  w_on
  intro dp un gd cn cs a ccd cl outer A₀ base h₀ L m s Q E B F X N T hk hd hu hret
  have hTB : TokBase s.toks := True.intro
  refine wpAny_call ?_
  k_dflt cell_enter
  repeat' (first | (k_unfold; (try dsimp only); (try (clear ek)); (try (clear qk))) | ((fail_if_success (fail_if_success (with_reducible show wpAny _ _ (execs (_ :: _) _) _ _ _))); k_fold) | (k_end; wrow_close) | ((fail_if_success (fail_if_success (with_reducible show wpAny _ _ (execs _ _) _ _ _))); k_here; ((refine' gen_tok (by assumption) (by first | omega | ((try dsimp only at *); omega)) ?_); intro _ _)) | walk1 | (dsimp only; (first | ((fail_if_success (fail_if_success (with_reducible show wpAny _ _ (execs _ _) _ _ _))); k_here; ((refine' gen_tok (by assumption) (by first | omega | ((try dsimp only at *); omega)) ?_); intro _ _)) | walk1)) | (leave1; (try dsimp only)) | fail "no step")
  exact hret _ _ _ _ (by assumption) (by assumption) (by (try dsimp only at *); omega) ⟨⟨_, congrArg (fun z => Value.int z _) (Int.fdiv_eq_ediv_of_nonneg _ (by omega)), by (try dsimp only at *); omega⟩, rfl⟩
theorem div64_t {w : World} {p : Program} {loose : List Str} {mean : ExcName → Option Value} {mg mb : Str → Option Value} {a : Int} {ta tb : Tok} {news : List (Addr × Obj)} :
    GivesT w p loose mean mg mb 243 2 20 news [.int a ta, .int 64 tb] (fun r nx k0 _ => (∃ t, r = .int (a / 64) t ∧ k0 ≤ t) ∧ nx = news) := by
  w_on
  intro dp un gd cn cs a ccd cl outer A₀ base h₀ L m s Q E B F X N T hk hd hu hret
  have hTB : TokBase s.toks := True.intro
  refine wpAny_call ?_
  k_dflt cell_enter
  repeat' (first | (k_unfold; (try dsimp only); (try (clear ek)); (try (clear qk))) | ((fail_if_success (fail_if_success (with_reducible show wpAny _ _ (execs (_ :: _) _) _ _ _))); k_fold) | (k_end; wrow_close) | ((fail_if_success (fail_if_success (with_reducible show wpAny _ _ (execs _ _) _ _ _))); k_here; ((refine' gen_tok (by assumption) (by first | omega | ((try dsimp only at *); omega)) ?_); intro _ _)) | walk1 | (dsimp only; (first | ((fail_if_success (fail_if_success (with_reducible show wpAny _ _ (execs _ _) _ _ _))); k_here; ((refine' gen_tok (by assumption) (by first | omega | ((try dsimp only at *); omega)) ?_); intro _ _)) | walk1)) | (leave1; (try dsimp only)) | fail "no step")
  exact hret _ _ _ _ (by assumption) (by assumption) (by (try dsimp only at *); omega) ⟨⟨_, congrArg (fun z => Value.int z _) (Int.fdiv_eq_ediv_of_nonneg _ (by omega)), by (try dsimp only at *); omega⟩, rfl⟩
theorem mul3_spec (w : World) (p : Program) (loose : List Str) (mean : ExcName → Option Value) (mg mb : Str → Option Value) (ta tb : Tok) (news : List (Addr × Obj)) (x : Str) (hx : x.length ≤ 100) : Gives w p loose mean mg mb 250 2 20 news [.str x ta, .int 3 tb] (fun r nx => (∃ t, r = .str (Txt.mul x 3) t) ∧ nx = news) := by
  w_on
  intro dp un gd cn cs a ccd cl outer A₀ base h₀ L m s Q E B F X N T hk hd hu hret
  refine wpAny_call ?_
  k_dflt cell_enter
  repeat' (first | (k_unfold; (try dsimp only); (try (clear ek)); (try (clear qk))) | ((fail_if_success (fail_if_success (with_reducible show wpAny _ _ (execs (_ :: _) _) _ _ _))); k_fold) | (k_end; wrow_close) | ((fail_if_success (fail_if_success (with_reducible show wpAny _ _ (execs _ _) _ _ _))); k_here; ((refine' gen_tok (by assumption) (by first | omega | ((try dsimp only at *); omega)) ?_); intro _ _)) | walk1 | (dsimp only; (first | ((fail_if_success (fail_if_success (with_reducible show wpAny _ _ (execs _ _) _ _ _))); k_here; ((refine' gen_tok (by assumption) (by first | omega | ((try dsimp only at *); omega)) ?_); intro _ _)) | walk1)) | (leave1; (try dsimp only)) | fail "no step")
  exact hret _ _ _ _ (by assumption) (by assumption) ⟨⟨_, rfl⟩, rfl⟩
end
section
noncomputable def nextOf : List (Int × Int × Int × Int) → Int → Int
  | [], _ => -1
  | r :: rs, p =>
    if r.1 * 2 ≤ p ∧ p < r.1 * 2 + r.2.1 * 2 then
      if (if r.2.2.2 % 2 = 1 then p - 2 * (r.2.2.2 / 2) else p + 2 * (r.2.2.2 / 2)) = p + (r.2.2.1 * 2 - r.1 * 2) then (if r.2.2.2 % 2 = 1 then p - 2 * (r.2.2.2 / 2) else p + 2 * (r.2.2.2 / 2)) else nextOf rs p
    else nextOf rs p
theorem nextOf_cons (r : Int × Int × Int × Int) (rs : List (Int × Int × Int × Int)) (p : Int) : nextOf (r :: rs) p =
    if r.1 * 2 ≤ p ∧ p < r.1 * 2 + r.2.1 * 2 then
      if (if r.2.2.2 % 2 = 1 then p - 2 * (r.2.2.2 / 2) else p + 2 * (r.2.2.2 / 2)) = p + (r.2.2.1 * 2 - r.1 * 2) then (if r.2.2.2 % 2 = 1 then p - 2 * (r.2.2.2 / 2) else p + 2 * (r.2.2.2 / 2)) else nextOf rs p
    else nextOf rs p := rfl
theorem EntsAre.len {tl : List (Addr × Obj)} {refs : List Value} {rows : List (Int × Int × Int × Int)} (h : EntsAre tl refs rows) : refs.length = rows.length := by
  induction h with
  | nil => rfl
  | snoc _ _ _ ih => rw [List.length_append, List.length_append, ih]; rfl
theorem EntsAre.at {tl : List (Addr × Obj)} {refs : List Value} {rows : List (Int × Int × Int × Int)} (h : EntsAre tl refs rows) : ∀ (i : Nat) (v : Value), refs[i]? = some v → ∃ x d vs r, v = .ref x ∧ (x, entObj d vs) ∈ tl ∧ rows[i]? = some r ∧ entVals r vs := by
  induction h with
  | nil => intro i v hv; cases hv
  | @snoc refs rows x d vs r h hm he ih =>
    intro i v hv
    by_cases hi : i < refs.length
    · rw [List.getElem?_append_left hi] at hv
      obtain ⟨x', d', vs', r', a, b, c, e⟩ := ih i v hv
      exact ⟨x', d', vs', r', a, b, by rw [List.getElem?_append_left (by rw [← h.len]; exact hi)]; exact c, e⟩
    · have hi' : i = refs.length := by
        have := (List.getElem?_eq_some_iff.mp hv).1
        rw [List.length_append, List.length_singleton] at this
        omega
      subst hi'
      rw [List.getElem?_append_right (Nat.le_refl _), Nat.sub_self] at hv
      cases hv
      exact ⟨x, d, vs, r, rfl, hm, by rw [h.len, List.getElem?_append_right (Nat.le_refl _), Nat.sub_self]; rfl, he⟩
theorem drop_at {α : Type} {l : List α} {i : Nat} {x : α} (h : l[i]? = some x) : l.drop i = x :: l.drop (i + 1) := by
  obtain ⟨h1, h2⟩ := List.getElem?_eq_some_iff.mp h
  rw [List.drop_eq_getElem_cons h1, h2]
end
section
theorem kdr_iter {prog : Program} {w : World} {A : Around} {E : Value → Shared → Prop} {s : Shared} {env : Env} {h₀ : Heap} {x : Str} {body : List Stmt} {Q : Flow → Shared → Prop} {r : Addr} {a₀ b₀ : Int} {t₀ u₀ v₀ : Tok} {n : Nat} {m₀ : Str → Option Value} {news : List (Addr × Obj)} (J : Nat → (Str → Option Value) → List (Addr × Obj) → Prop)
    (hh : A.handled = none) (hr : IsRange s.heap r a₀ b₀ 1 t₀ u₀ v₀) (hsmall : Builtin.Range.small a₀ b₀ 1 = true) (hsz : Builtin.Range.rangeSize a₀ b₀ 1 = (n : Int)) (F : Fr h₀ env.locals s.heap m₀) (N : News h₀ env.locals s.heap news) (hj : J 0 m₀ news)
    (turn : ∀ i t m₁ nx h tk own, i < n → OwnOff own (nx.map (·.1)) → J i m₁ nx → Fr h₀ env.locals h (fun y => if y = x then some (.int (a₀ + (i : Nat)) t) else m₁ y) → News h₀ env.locals h (nx ++ own) →
      wpAny (model prog w) A (execs body env) (InvPostG h₀ env.locals (J (i + 1)) own { s with heap := h, toks := tk } Q) E { s with heap := h, toks := tk })
    (done : ∀ m₁ nx h tk, J n m₁ nx → Fr h₀ env.locals h m₁ → News h₀ env.locals h nx → Q .next { s with heap := h, toks := tk }) :
    wpAny (model prog w) A (pyIter (.ref r)) (fun it s₂ => LoopAtV prog w A h₀ env x body Q E it s₂) E s := by
  refine wpAny_pyIter_range hr hsmall ?_
  have W : Walks prog w A s.heap.objs.size [s.heap.objs.size] [s.heap.objs.size] n (fun i v => i < n ∧ ∃ t, v = .int (a₀ + i * 1) t)
      (fun i h => IsRangeIter h s.heap.objs.size (a₀ + (i : Nat) * 1) ((n : Int) - (i : Nat)) 1) := (Walks.range hh _ a₀ 1 n).bound
  refine kdr_loop J W (fun _ h => h) (fun _ h => h) ?_ ?_ ?_ ?_ (by show IsRangeIter _ _ _ _ _; rw [hsz]; simpa using Heap.get?_push_size _ rfl) (F.push _) (fun p hp => ⟨Heap.get?_push_of_some _ (N p hp).1, (N p hp).2⟩) hj ?_ done
  · intro i h hi b hb
    rw [List.mem_singleton.mp hb]
    exact ⟨_, hi⟩
  · intro hm
    exact absurd F.ns.lt ((List.mem_singleton.mp hm) ▸ Nat.lt_irrefl _)
  · intro b hb
    rw [List.mem_singleton.mp hb]
    exact next_is_new F
  · intro p hp hI
    exact absurd (Heap.lt_size (N p hp).1) ((List.mem_singleton.mp hI) ▸ Nat.lt_irrefl _)
  · rintro i v m₁ nx h tk own hi ⟨_, t, rfl⟩ hoff hJ F₁ N₁
    rw [Int.mul_one] at F₁
    exact turn i t m₁ nx h tk own hi hoff hJ F₁ N₁
noncomputable def chain (f : Int → Int) (p : Int) : Nat → Int → List Int
  | 0, _ => []
  | k + 1, q => if f q = p then [] else f q :: chain f p k (f q)
noncomputable def ringOf (f : Int → Int) (p : Int) : List Int := p :: chain f p 20 p
theorem chain_step {f : Int → Int} {p q : Int} {i : Nat} (h : i < 20) : chain f p (20 - i) q = if f q = p then [] else f q :: chain f p (20 - (i + 1)) (f q) := by
  rw [show 20 - i = (20 - (i + 1)) + 1 from by omega]; rfl
theorem cons_in {α : Type} {a q : α} {l k : List α} (h : q ∈ a :: l) : q ∈ a :: (l ++ k) := (List.mem_cons.mp h).elim (fun h => h ▸ .head _) fun h => .tail _ (List.mem_append_left _ h)
theorem last_idx (vs : List Value) (v : Value) : seqIndex? (-1) (vs ++ [v]).length = some vs.length := by
  unfold seqIndex?
  rw [List.length_append, List.length_singleton]
  have h1 : ((-1 : Int) + ((vs.length + 1 : Nat) : Int)) = (vs.length : Int) := by omega
  simp only [show ((-1 : Int) < 0) from by decide, if_true, h1]
  simp
  omega
theorem last_at (vs : List Value) (v : Value) : (vs ++ [v])[vs.length]? = some v := by simp
end
section
/-- the places of a text as whole numbers -/
noncomputable def codes (x : Str) : List Int := x.cps.toList.map fun c : Nat => (c : Int)
theorem codes_append (x y : Str) : codes (x ++ y) = codes x ++ codes y := by
  show ((x.cps ++ y.cps).toList.map _) = _
  rw [Array.toList_append, List.map_append]; rfl
theorem codes_len (x : Str) : (codes x).length = x.length := by
  unfold codes
  rw [List.length_map, Array.length_toList]; rfl
noncomputable def leadZ (n : Nat) : List Int := if n = 0 then [] else lead n
theorem leadZ_step {n : Nat} (h : 0 < n) : leadZ n = leadZ (n / 64) ++ [((n % 64 + 64 : Nat) : Int)] := by
  unfold leadZ
  rw [if_neg (by omega)]
  by_cases h6 : n > 63
  · rw [if_neg (by omega), lead_big h6]
  · rw [if_pos (by omega), lead_small h6]
    rw [show n % 64 = n from Nat.mod_eq_of_lt (by omega)]; rfl
theorem leadZ_len {n : Nat} (h : n < 64 ^ 6) : (leadZ n).length ≤ 6 := by
  unfold leadZ
  split
  · exact Nat.zero_le _
  · have := moreFigs_len 5 n h n
    unfold lead
    rw [List.length_append, List.length_reverse, List.length_singleton]
    omega
theorem word_spec (w : World) (p : Program) (loose : List Str) (mean : ExcName → Option Value) (mg mb : Str → Option Value) (n : Nat) (tn : Tok) (hn : n < 68719476736) (news : List (Addr × Obj)) :
    Gives w p loose mean mg mb 320 3 30 news [.int (n : Int) tn] (fun r nx => (∃ x t, r = .str x t ∧ codes x = leadZ n) ∧ nx = news) := by
  w_on
  intro dp un gd cn cs a ccd cl outer A₀ base h₀ L m s Q E B F X N T hk hd hu hret
  refine wpAny_call ?_
  k_dflt cell_enter
  repeat' (first | (k_unfold; (try dsimp only)) | ((fail_if_success (with_reducible show wpAny _ _ (exec (Stmt.While _ _ _ _) _) _ _ _)); (fail_if_success (with_reducible show wpAny _ _ (execs (Stmt.While _ _ _ _ :: _) _) _ _ _)); (first | ((fail_if_success (fail_if_success (with_reducible show wpAny _ _ (call (Value.ref _) _ _) _ _ _))); k_here; first | ((with_reducible show wpAny _ _ (call (Value.ref 243) _) _ _ _); refine' GivesT.some0 div64_t (by k_asm) (by k_asm) (by k_asm) (by k_asm) (by k_asm) (by exact rfl) (by ktr_room) (by ktr_units) ?_; k_whole; intro _ _ _ _ _; (try dsimp only)) | ((with_reducible show wpAny _ _ (call (Value.ref 243) _) _ _ _); refine' GivesT.some0 div2_t (by k_asm) (by k_asm) (by k_asm) (by k_asm) (by k_asm) (by exact rfl) (by ktr_room) (by ktr_units) ?_; k_whole; intro _ _ _ _ _; (try dsimp only)) | ((with_reducible show wpAny _ _ (call (Value.ref 250) _) _ _ _); refine' GivesT.some0 mul2_t (by k_asm) (by k_asm) (by k_asm) (by k_asm) (by k_asm) (by exact rfl) (by ktr_room) (by ktr_units) ?_; k_whole; intro _ _ _ _ _; (try dsimp only)) | ((with_reducible show wpAny _ _ (call (Value.ref 257) _) _ _ _); refine' GivesT.some0 sub_t (by k_asm) (by k_asm) (by k_asm) (by k_asm) (by k_asm) (by exact rfl) (by ktr_room) (by ktr_units) ?_; k_whole; intro _ _ _ _ _; (try dsimp only)) | ((with_reducible show wpAny _ _ (call (Value.ref 236) _) _ _ _); refine' GivesT.some0 add_t (by k_asm) (by k_asm) (by k_asm) (by k_asm) (by k_asm) (by exact rfl) (by ktr_room) (by ktr_units) ?_; k_whole; intro _ _ _ _ _; (try dsimp only)) | ((with_reducible show wpAny _ _ (call (Value.ref 229) _) _ _ _); refine' GivesT.val0 eq_t (by k_asm) (by k_asm) (by k_asm) (by k_asm) (by k_asm) (by exact rfl) (by ktr_room) (by ktr_units) ?_; k_whole; intro _ _ _ _; (try dsimp only)) | ((with_reducible show wpAny _ _ (call (Value.ref 222) _) _ _ _); refine' GivesT.val0 le_t (by k_asm) (by k_asm) (by k_asm) (by k_asm) (by k_asm) (by exact rfl) (by ktr_room) (by ktr_units) ?_; k_whole; intro _ _ _ _; (try dsimp only)) | ((with_reducible show wpAny _ _ (call (Value.ref 215) _) _ _ _); refine' GivesT.val0 lt_t (by k_asm) (by k_asm) (by k_asm) (by k_asm) (by k_asm) (by exact rfl) (by ktr_room) (by ktr_units) ?_; k_whole; intro _ _ _ _; (try dsimp only))) | walk1)) | (leave1; try dsimp only))
  refine wpAny_execs_cons ?_
  rename Fr _ _ _ _ => FF
  rename News _ _ _ _ => NN
  refine' While_inv2 (fun n' m nx => ∃ (k : Nat) (t t' : Tok) (x : Str), m (Str.ofString "number") = some (.int (k : Int) t) ∧ m (Str.ofString "signs") = some (.str x t') ∧ nx = news ∧ leadZ k ++ codes x = leadZ n ∧ n' = k) ?kF ?kN ?kJ ?kT ?kE
  case kE => passes_own
  case kF => exact FF
  case kN => exact NN
  case kJ => exact ⟨n, _, _, _, rfl, rfl, rfl, by show leadZ n ++ [] = _; rw [List.append_nil], rfl⟩
  clear FF NN
  rintro n' m₂ nx h₂ tk₂ F₁ N₁ ⟨k, t, t', x, e1, e2, rfl, hx, rfl⟩
  have F₂ := fr_put2 F₁ e1 e2
  have hl : x.length ≤ 6 := by
    have h1 := congrArg List.length hx
    have h2 := leadZ_len (n := n) (by omega)
    rw [List.length_append, codes_len] at h1
    omega
  have hx := PySem.Flt.Hid.mk hx
  clear F₁
  repeat' (first | (k_unfold; (try dsimp only); (try (clear ek)); (try (clear qk))) | ((fail_if_success (fail_if_success (with_reducible show wpAny _ _ (execs (_ :: _) _) _ _ _))); k_fold) | (k_end; wrow_close) | ((fail_if_success (fail_if_success (with_reducible show wpAny _ _ (call (Value.ref _) _ _) _ _ _))); k_here; first | ((with_reducible show wpAny _ _ (call (Value.ref 243) _) _ _ _); refine' GivesT.some0 div64_t (by k_asm) (by k_asm) (by k_asm) (by k_asm) (by k_asm) (by exact rfl) (by ktr_room) (by ktr_units) ?_; k_whole; intro _ _ _ _ _; (try dsimp only)) | ((with_reducible show wpAny _ _ (call (Value.ref 243) _) _ _ _); refine' GivesT.some0 div2_t (by k_asm) (by k_asm) (by k_asm) (by k_asm) (by k_asm) (by exact rfl) (by ktr_room) (by ktr_units) ?_; k_whole; intro _ _ _ _ _; (try dsimp only)) | ((with_reducible show wpAny _ _ (call (Value.ref 250) _) _ _ _); refine' GivesT.some0 mul2_t (by k_asm) (by k_asm) (by k_asm) (by k_asm) (by k_asm) (by exact rfl) (by ktr_room) (by ktr_units) ?_; k_whole; intro _ _ _ _ _; (try dsimp only)) | ((with_reducible show wpAny _ _ (call (Value.ref 257) _) _ _ _); refine' GivesT.some0 sub_t (by k_asm) (by k_asm) (by k_asm) (by k_asm) (by k_asm) (by exact rfl) (by ktr_room) (by ktr_units) ?_; k_whole; intro _ _ _ _ _; (try dsimp only)) | ((with_reducible show wpAny _ _ (call (Value.ref 236) _) _ _ _); refine' GivesT.some0 add_t (by k_asm) (by k_asm) (by k_asm) (by k_asm) (by k_asm) (by exact rfl) (by ktr_room) (by ktr_units) ?_; k_whole; intro _ _ _ _ _; (try dsimp only)) | ((with_reducible show wpAny _ _ (call (Value.ref 229) _) _ _ _); refine' GivesT.val0 eq_t (by k_asm) (by k_asm) (by k_asm) (by k_asm) (by k_asm) (by exact rfl) (by ktr_room) (by ktr_units) ?_; k_whole; intro _ _ _ _; (try dsimp only)) | ((with_reducible show wpAny _ _ (call (Value.ref 222) _) _ _ _); refine' GivesT.val0 le_t (by k_asm) (by k_asm) (by k_asm) (by k_asm) (by k_asm) (by exact rfl) (by ktr_room) (by ktr_units) ?_; k_whole; intro _ _ _ _; (try dsimp only)) | ((with_reducible show wpAny _ _ (call (Value.ref 215) _) _ _ _); refine' GivesT.val0 lt_t (by k_asm) (by k_asm) (by k_asm) (by k_asm) (by k_asm) (by exact rfl) (by ktr_room) (by ktr_units) ?_; k_whole; intro _ _ _ _; (try dsimp only))) | walk1 | (dsimp only; (first | ((fail_if_success (fail_if_success (with_reducible show wpAny _ _ (call (Value.ref _) _ _) _ _ _))); k_here; first | ((with_reducible show wpAny _ _ (call (Value.ref 243) _) _ _ _); refine' GivesT.some0 div64_t (by k_asm) (by k_asm) (by k_asm) (by k_asm) (by k_asm) (by exact rfl) (by ktr_room) (by ktr_units) ?_; k_whole; intro _ _ _ _ _; (try dsimp only)) | ((with_reducible show wpAny _ _ (call (Value.ref 243) _) _ _ _); refine' GivesT.some0 div2_t (by k_asm) (by k_asm) (by k_asm) (by k_asm) (by k_asm) (by exact rfl) (by ktr_room) (by ktr_units) ?_; k_whole; intro _ _ _ _ _; (try dsimp only)) | ((with_reducible show wpAny _ _ (call (Value.ref 250) _) _ _ _); refine' GivesT.some0 mul2_t (by k_asm) (by k_asm) (by k_asm) (by k_asm) (by k_asm) (by exact rfl) (by ktr_room) (by ktr_units) ?_; k_whole; intro _ _ _ _ _; (try dsimp only)) | ((with_reducible show wpAny _ _ (call (Value.ref 257) _) _ _ _); refine' GivesT.some0 sub_t (by k_asm) (by k_asm) (by k_asm) (by k_asm) (by k_asm) (by exact rfl) (by ktr_room) (by ktr_units) ?_; k_whole; intro _ _ _ _ _; (try dsimp only)) | ((with_reducible show wpAny _ _ (call (Value.ref 236) _) _ _ _); refine' GivesT.some0 add_t (by k_asm) (by k_asm) (by k_asm) (by k_asm) (by k_asm) (by exact rfl) (by ktr_room) (by ktr_units) ?_; k_whole; intro _ _ _ _ _; (try dsimp only)) | ((with_reducible show wpAny _ _ (call (Value.ref 229) _) _ _ _); refine' GivesT.val0 eq_t (by k_asm) (by k_asm) (by k_asm) (by k_asm) (by k_asm) (by exact rfl) (by ktr_room) (by ktr_units) ?_; k_whole; intro _ _ _ _; (try dsimp only)) | ((with_reducible show wpAny _ _ (call (Value.ref 222) _) _ _ _); refine' GivesT.val0 le_t (by k_asm) (by k_asm) (by k_asm) (by k_asm) (by k_asm) (by exact rfl) (by ktr_room) (by ktr_units) ?_; k_whole; intro _ _ _ _; (try dsimp only)) | ((with_reducible show wpAny _ _ (call (Value.ref 215) _) _ _ _); refine' GivesT.val0 lt_t (by k_asm) (by k_asm) (by k_asm) (by k_asm) (by k_asm) (by exact rfl) (by ktr_room) (by ktr_units) ?_; k_whole; intro _ _ _ _; (try dsimp only))) | walk1)) | (leave1; (try dsimp only)) | fail "no step")
  · rename News _ _ _ _ => NN
    rename Fr _ _ _ _ => FF
    have hp : 0 < n' := by omega
    refine ⟨_, _, _, _, n' / 64, rfl, FF, NN, by omega, n' / 64, _, _, _, congrArg (fun z => some (Value.int z _)) (fdiv64 n'), rfl, rfl, ?_, rfl⟩
    rw [codes_append, ← hx.out, leadZ_step hp, List.append_assoc]
    show _ ++ ([(((64 + ((n' : Nat) : Int).fmod 64).toNat : Nat) : Int)] ++ _) = _
    rw [fmod64, show (((64 + ((n' % 64 : Nat) : Int)).toNat : Nat) : Int) = ((n' % 64 + 64 : Nat) : Int) from by omega]
  · refine hret _ _ _ _ (by assumption) (by assumption) ⟨⟨_, _, rfl, ?_⟩, rfl⟩
    have h0 : n' = 0 := by omega
    subst h0
    exact hx.out
end
section
theorem fmod_nat (x y : Nat) : ((x : Nat) : Int).fmod (y : Int) = ((x % y : Nat) : Int) := by rw [Int.fmod_eq_emod_of_nonneg _ (by omega)]; omega
theorem common_spec (w : World) (p : Program) (loose : List Str) (mean : ExcName → Option Value) (mg mb : Str → Option Value) (a b : Nat) (ta tb : Tok) (ha : a < 1000000000) (hb : b < 1000000000) (news : List (Addr × Obj)) :
    Gives w p loose mean mg mb 341 3 30 news [.int (a : Int) ta, .int (b : Int) tb] (fun r nx => (∃ t, r = .int ((Nat.gcd a b : Nat) : Int) t) ∧ nx = news) := by
  w_on
  intro dp un gd cn cs ad ccd cl outer A₀ base h₀ L m s Q E B F X N T hk hd hu hret
  refine wpAny_call ?_
  k_dflt cell_enter
  repeat' (first | (k_unfold; (try dsimp only)) | ((fail_if_success (with_reducible show wpAny _ _ (exec (Stmt.While _ _ _ _) _) _ _ _)); (fail_if_success (with_reducible show wpAny _ _ (execs (Stmt.While _ _ _ _ :: _) _) _ _ _)); (first | ((fail_if_success (fail_if_success (with_reducible show wpAny _ _ (call (Value.ref _) _ _) _ _ _))); k_here; first | ((with_reducible show wpAny _ _ (call (Value.ref 243) _) _ _ _); refine' GivesT.some0 div64_t (by k_asm) (by k_asm) (by k_asm) (by k_asm) (by k_asm) (by exact rfl) (by ktr_room) (by ktr_units) ?_; k_whole; intro _ _ _ _ _; (try dsimp only)) | ((with_reducible show wpAny _ _ (call (Value.ref 243) _) _ _ _); refine' GivesT.some0 div2_t (by k_asm) (by k_asm) (by k_asm) (by k_asm) (by k_asm) (by exact rfl) (by ktr_room) (by ktr_units) ?_; k_whole; intro _ _ _ _ _; (try dsimp only)) | ((with_reducible show wpAny _ _ (call (Value.ref 250) _) _ _ _); refine' GivesT.some0 mul2_t (by k_asm) (by k_asm) (by k_asm) (by k_asm) (by k_asm) (by exact rfl) (by ktr_room) (by ktr_units) ?_; k_whole; intro _ _ _ _ _; (try dsimp only)) | ((with_reducible show wpAny _ _ (call (Value.ref 257) _) _ _ _); refine' GivesT.some0 sub_t (by k_asm) (by k_asm) (by k_asm) (by k_asm) (by k_asm) (by exact rfl) (by ktr_room) (by ktr_units) ?_; k_whole; intro _ _ _ _ _; (try dsimp only)) | ((with_reducible show wpAny _ _ (call (Value.ref 236) _) _ _ _); refine' GivesT.some0 add_t (by k_asm) (by k_asm) (by k_asm) (by k_asm) (by k_asm) (by exact rfl) (by ktr_room) (by ktr_units) ?_; k_whole; intro _ _ _ _ _; (try dsimp only)) | ((with_reducible show wpAny _ _ (call (Value.ref 229) _) _ _ _); refine' GivesT.val0 eq_t (by k_asm) (by k_asm) (by k_asm) (by k_asm) (by k_asm) (by exact rfl) (by ktr_room) (by ktr_units) ?_; k_whole; intro _ _ _ _; (try dsimp only)) | ((with_reducible show wpAny _ _ (call (Value.ref 222) _) _ _ _); refine' GivesT.val0 le_t (by k_asm) (by k_asm) (by k_asm) (by k_asm) (by k_asm) (by exact rfl) (by ktr_room) (by ktr_units) ?_; k_whole; intro _ _ _ _; (try dsimp only)) | ((with_reducible show wpAny _ _ (call (Value.ref 215) _) _ _ _); refine' GivesT.val0 lt_t (by k_asm) (by k_asm) (by k_asm) (by k_asm) (by k_asm) (by exact rfl) (by ktr_room) (by ktr_units) ?_; k_whole; intro _ _ _ _; (try dsimp only))) | walk1)) | (leave1; try dsimp only))
  refine wpAny_execs_cons ?_
  rename Fr _ _ _ _ => FF
  rename News _ _ _ _ => NN
  refine' While_inv2 (fun n' m nx => ∃ (x y : Nat) (t t' : Tok), m (Str.ofString "one") = some (.int (x : Int) t) ∧ m (Str.ofString "other") = some (.int (y : Int) t') ∧ nx = news ∧ Nat.gcd x y = Nat.gcd a b ∧ n' = y) ?kF ?kN ?kJ ?kT ?kE
  case kE => passes_own
  case kF => exact FF
  case kN => exact NN
  case kJ => exact ⟨a, b, _, _, rfl, rfl, rfl, rfl, rfl⟩
  clear FF NN
  rintro n' m₂ nx h₂ tk₂ F₁ N₁ ⟨x, y, t, t', e1, e2, rfl, hx, rfl⟩
  have F₂ := fr_put2 F₁ e1 e2
  have hx := PySem.Flt.Hid.mk hx
  clear F₁
  repeat' (first | (k_unfold; (try dsimp only); (try (clear ek)); (try (clear qk))) | ((fail_if_success (fail_if_success (with_reducible show wpAny _ _ (execs (_ :: _) _) _ _ _))); k_fold) | (k_end; wrow_close) | ((fail_if_success (fail_if_success (with_reducible show wpAny _ _ (call (Value.ref _) _ _) _ _ _))); k_here; first | ((with_reducible show wpAny _ _ (call (Value.ref 243) _) _ _ _); refine' GivesT.some0 div64_t (by k_asm) (by k_asm) (by k_asm) (by k_asm) (by k_asm) (by exact rfl) (by ktr_room) (by ktr_units) ?_; k_whole; intro _ _ _ _ _; (try dsimp only)) | ((with_reducible show wpAny _ _ (call (Value.ref 243) _) _ _ _); refine' GivesT.some0 div2_t (by k_asm) (by k_asm) (by k_asm) (by k_asm) (by k_asm) (by exact rfl) (by ktr_room) (by ktr_units) ?_; k_whole; intro _ _ _ _ _; (try dsimp only)) | ((with_reducible show wpAny _ _ (call (Value.ref 250) _) _ _ _); refine' GivesT.some0 mul2_t (by k_asm) (by k_asm) (by k_asm) (by k_asm) (by k_asm) (by exact rfl) (by ktr_room) (by ktr_units) ?_; k_whole; intro _ _ _ _ _; (try dsimp only)) | ((with_reducible show wpAny _ _ (call (Value.ref 257) _) _ _ _); refine' GivesT.some0 sub_t (by k_asm) (by k_asm) (by k_asm) (by k_asm) (by k_asm) (by exact rfl) (by ktr_room) (by ktr_units) ?_; k_whole; intro _ _ _ _ _; (try dsimp only)) | ((with_reducible show wpAny _ _ (call (Value.ref 236) _) _ _ _); refine' GivesT.some0 add_t (by k_asm) (by k_asm) (by k_asm) (by k_asm) (by k_asm) (by exact rfl) (by ktr_room) (by ktr_units) ?_; k_whole; intro _ _ _ _ _; (try dsimp only)) | ((with_reducible show wpAny _ _ (call (Value.ref 229) _) _ _ _); refine' GivesT.val0 eq_t (by k_asm) (by k_asm) (by k_asm) (by k_asm) (by k_asm) (by exact rfl) (by ktr_room) (by ktr_units) ?_; k_whole; intro _ _ _ _; (try dsimp only)) | ((with_reducible show wpAny _ _ (call (Value.ref 222) _) _ _ _); refine' GivesT.val0 le_t (by k_asm) (by k_asm) (by k_asm) (by k_asm) (by k_asm) (by exact rfl) (by ktr_room) (by ktr_units) ?_; k_whole; intro _ _ _ _; (try dsimp only)) | ((with_reducible show wpAny _ _ (call (Value.ref 215) _) _ _ _); refine' GivesT.val0 lt_t (by k_asm) (by k_asm) (by k_asm) (by k_asm) (by k_asm) (by exact rfl) (by ktr_room) (by ktr_units) ?_; k_whole; intro _ _ _ _; (try dsimp only))) | walk1 | (dsimp only; (first | ((fail_if_success (fail_if_success (with_reducible show wpAny _ _ (call (Value.ref _) _ _) _ _ _))); k_here; first | ((with_reducible show wpAny _ _ (call (Value.ref 243) _) _ _ _); refine' GivesT.some0 div64_t (by k_asm) (by k_asm) (by k_asm) (by k_asm) (by k_asm) (by exact rfl) (by ktr_room) (by ktr_units) ?_; k_whole; intro _ _ _ _ _; (try dsimp only)) | ((with_reducible show wpAny _ _ (call (Value.ref 243) _) _ _ _); refine' GivesT.some0 div2_t (by k_asm) (by k_asm) (by k_asm) (by k_asm) (by k_asm) (by exact rfl) (by ktr_room) (by ktr_units) ?_; k_whole; intro _ _ _ _ _; (try dsimp only)) | ((with_reducible show wpAny _ _ (call (Value.ref 250) _) _ _ _); refine' GivesT.some0 mul2_t (by k_asm) (by k_asm) (by k_asm) (by k_asm) (by k_asm) (by exact rfl) (by ktr_room) (by ktr_units) ?_; k_whole; intro _ _ _ _ _; (try dsimp only)) | ((with_reducible show wpAny _ _ (call (Value.ref 257) _) _ _ _); refine' GivesT.some0 sub_t (by k_asm) (by k_asm) (by k_asm) (by k_asm) (by k_asm) (by exact rfl) (by ktr_room) (by ktr_units) ?_; k_whole; intro _ _ _ _ _; (try dsimp only)) | ((with_reducible show wpAny _ _ (call (Value.ref 236) _) _ _ _); refine' GivesT.some0 add_t (by k_asm) (by k_asm) (by k_asm) (by k_asm) (by k_asm) (by exact rfl) (by ktr_room) (by ktr_units) ?_; k_whole; intro _ _ _ _ _; (try dsimp only)) | ((with_reducible show wpAny _ _ (call (Value.ref 229) _) _ _ _); refine' GivesT.val0 eq_t (by k_asm) (by k_asm) (by k_asm) (by k_asm) (by k_asm) (by exact rfl) (by ktr_room) (by ktr_units) ?_; k_whole; intro _ _ _ _; (try dsimp only)) | ((with_reducible show wpAny _ _ (call (Value.ref 222) _) _ _ _); refine' GivesT.val0 le_t (by k_asm) (by k_asm) (by k_asm) (by k_asm) (by k_asm) (by exact rfl) (by ktr_room) (by ktr_units) ?_; k_whole; intro _ _ _ _; (try dsimp only)) | ((with_reducible show wpAny _ _ (call (Value.ref 215) _) _ _ _); refine' GivesT.val0 lt_t (by k_asm) (by k_asm) (by k_asm) (by k_asm) (by k_asm) (by exact rfl) (by ktr_room) (by ktr_units) ?_; k_whole; intro _ _ _ _; (try dsimp only))) | walk1)) | (leave1; (try dsimp only)) | fail "no step")
  · rename News _ _ _ _ => NN
    rename Fr _ _ _ _ => FF
    have hp : 0 < n' := by omega
    refine ⟨_, _, _, _, x % n', rfl, FF, fun q hq => NN q (.tail _ hq), Nat.mod_lt _ hp, n', x % n', _, _, rfl, congrArg (fun z => some (Value.int z _)) (fmod_nat x n'), rfl, ?_, rfl⟩
    rw [← hx.out, Nat.gcd_comm x n', Nat.gcd_rec n' x, Nat.gcd_comm]
  · refine hret _ _ _ _ (by assumption) (by assumption) ⟨⟨_, congrArg (fun z => Value.int z _) ?_⟩, rfl⟩
    have h0 : n' = 0 := by omega
    subst h0
    rw [← hx.out, Nat.gcd_zero_right]
end
section
theorem safe_str (w : World) (p : Program) (loose : List Str) (mean : ExcName → Option Value) (mg mb : Str → Option Value) (x u : Str) (tx tu : Tok) (news : List (Addr × Obj)) :
    Gives w p loose mean mg mb 37 4 40 news [.str x tx, .str u tu] (fun r nx => (∃ t, r = .str x t) ∧ nx = news) := by
  w_on
  intro dp un gd cn cs ad ccd cl outer A₀ base h₀ L m s Q E B F X N T hk hd hu hret
  refine wpAny_call ?_
  k_dflt (refine' code_def ?k1 ?k2 ?k3 ?k4 ?k5 ?kA ?kF ?kK ?k6 ?k7 ?k8 ?k9 ?kB ?_ ?c2 ?c3 ?c4 ?c5; (case kA => exact rfl); (case kF => exact rfl); (case kK => assumption); (case k1 => k_asm); (case k2 => k_asm); (case k3 => k_asm); (case k4 => k_asm); (case k5 => k_asm); (case k6 => k_is); (case k7 => k_is); (case k8 => ktr_room); (case k9 => first | exact BindsTo.of_eq rfl | exact binds_K (by k_in) rfl (by k_is) rfl rfl rfl | exact kp_binds (by k_in) (fun S => by with_unfolding_all rfl)); (case c5 => decide); (case kB => exact locs rfl); (case c2 => exact rfl); (case c3 => exact rfl); (case c4 => exact rfl); k_whole; intro g' L' h' FG' F' N' B' X' T'; (try dsimp only); (try k_lift B'); (try k_fold))
  k_steps
  exact hret _ _ _ _ (by assumption) (by assumption) ⟨⟨_, rfl⟩, rfl⟩
theorem safe_none (w : World) (p : Program) (loose : List Str) (mean : ExcName → Option Value) (mg mb : Str → Option Value) (u : Str) (tu : Tok) (news : List (Addr × Obj)) :
    Gives w p loose mean mg mb 37 4 40 news [.none, .str u tu] (fun r nx => (∃ t, r = .str (Str.ofString "None") t) ∧ nx = news) := by
  w_on
  intro dp un gd cn cs ad ccd cl outer A₀ base h₀ L m s Q E B F X N T hk hd hu hret
  refine wpAny_call ?_
  k_dflt (refine' code_def ?k1 ?k2 ?k3 ?k4 ?k5 ?kA ?kF ?kK ?k6 ?k7 ?k8 ?k9 ?kB ?_ ?c2 ?c3 ?c4 ?c5; (case kA => exact rfl); (case kF => exact rfl); (case kK => assumption); (case k1 => k_asm); (case k2 => k_asm); (case k3 => k_asm); (case k4 => k_asm); (case k5 => k_asm); (case k6 => k_is); (case k7 => k_is); (case k8 => ktr_room); (case k9 => first | exact BindsTo.of_eq rfl | exact binds_K (by k_in) rfl (by k_is) rfl rfl rfl | exact kp_binds (by k_in) (fun S => by with_unfolding_all rfl)); (case c5 => decide); (case kB => exact locs rfl); (case c2 => exact rfl); (case c3 => exact rfl); (case c4 => exact rfl); k_whole; intro g' L' h' FG' F' N' B' X' T'; (try dsimp only); (try k_lift B'); (try k_fold))
  k_steps
  exact hret _ _ _ _ (by assumption) (by assumption) ⟨⟨_, rfl⟩, rfl⟩
abbrev GivesK (w : World) (p : Program) (loose : List Str) (mean : ExcName → Option Value) (mg mb : Str → Option Value) (f : Addr) (D U : Nat)
    (news : List (Addr × Obj)) (vs : List Value) (kw : List (Str × Value)) (Ret : Value → List (Addr × Obj) → Prop) : Prop :=
  ∀ (dp un : Nat) (gd : Option (List Code)) (cn : Str) (cs : Scope) (a : Addr) (ccd : Value) (cl : List (Str × Addr)) (outer : List Env) (A₀ : Around) (base h₀ : Heap) (L : Addr) (m : Str → Option Value) (s : Shared) (Q E : Value → Shared → Prop),
    Below A₀ base outer h₀ → Fr h₀ L s.heap m → (Mine.hd.heap_39 w.params).In h₀ → News h₀ L s.heap news → Top p loose mean mg mb h₀ → cs.kind = .function →
    dp + D < recursionLimit → un + U < cLine →
    (∀ (r : Value) (news' : List (Addr × Obj)) (h' : Heap) (tk' : Nat), Fr h₀ L h' m → News h₀ L h' news' → Ret r news' → Q r { s with heap := h', toks := tk' }) →
    wpAny (model PR w) (ktrTop dp un gd cn cs L a ccd cl outer) (call (.ref f) vs kw) Q E s
noncomputable def tailOf (y : Str) : List Int := if codes y = [] then [] else 58 :: 32 :: codes y
theorem codes_nil {y : Str} (h : y.length = 0) : codes y = [] := List.eq_nil_of_length_eq_zero (by rw [codes_len]; exact h)
theorem codes_ne {y : Str} (h : y.length ≠ 0) : codes y ≠ [] := fun e => h (by rw [← codes_len, e]; rfl)
theorem codes_empty : codes Str.empty = [] := rfl
theorem codes_nl : codes (Str.ofString "\n") = [10] := by decide
theorem codes_sep : codes (Str.ofString ": ") = [58, 32] := by decide
theorem fmt_none (w : World) (p : Program) (loose : List Str) (mean : ExcName → Option Value) (mg mb : Str → Option Value) (x : Str) (tx : Tok) (hx : x.length ≤ 100) (news : List (Addr × Obj)) :
    Gives w p loose mean mg mb 29 8 80 news [.str x tx, .none] (fun r nx => (∃ z t, r = .str z t ∧ codes z = codes x ++ [10]) ∧ nx = news) := by
  w_on
  intro dp un gd cn cs ad ccd cl outer A₀ base h₀ L m s Q E B F X N T hk hd hu hret
  refine wpAny_call ?_
  k_dflt (refine' code_def ?k1 ?k2 ?k3 ?k4 ?k5 ?kA ?kF ?kK ?k6 ?k7 ?k8 ?k9 ?kB ?_ ?c2 ?c3 ?c4 ?c5; (case kA => exact rfl); (case kF => exact rfl); (case kK => assumption); (case k1 => k_asm); (case k2 => k_asm); (case k3 => k_asm); (case k4 => k_asm); (case k5 => k_asm); (case k6 => k_is); (case k7 => k_is); (case k8 => ktr_room); (case k9 => first | exact BindsTo.of_eq rfl | exact binds_K (by k_in) rfl (by k_is) rfl rfl rfl | exact kp_binds (by k_in) (fun S => by with_unfolding_all rfl)); (case c5 => decide); (case kB => exact locs rfl); (case c2 => exact rfl); (case c3 => exact rfl); (case c4 => exact rfl); k_whole; intro g' L' h' FG' F' N' B' X' T'; (try dsimp only); (try k_lift B'); (try k_fold))
  repeat' (first | (k_unfold; (try dsimp only); (try (clear ek)); (try (clear qk))) | ((fail_if_success (fail_if_success (with_reducible show wpAny _ _ (execs (_ :: _) _) _ _ _))); k_fold) | (k_end; wrow_close) | ((fail_if_success (fail_if_success (with_reducible show wpAny _ _ (call (Value.ref _) _ _) _ _ _))); k_here; first | ((with_reducible show wpAny _ _ (call (Value.ref 37) [Value.none, _]) _ _ _); refine' Gives.some (safe_none _ _ _ _ _ _ _ _ _) (by k_asm) (by k_asm) (by k_asm) (by k_asm) (by k_asm) (by exact rfl) (by ktr_room) (by ktr_units) ?_; k_whole; intro _ _ _ _ _; (try dsimp only)) | ((with_reducible show wpAny _ _ (call (Value.ref 37) [Value.str _ _, _]) _ _ _); refine' Gives.some (safe_str _ _ _ _ _ _ _ _ _ _ _) (by k_asm) (by k_asm) (by k_asm) (by k_asm) (by k_asm) (by exact rfl) (by ktr_room) (by ktr_units) ?_; k_whole; intro _ _ _ _ _; (try dsimp only))) | walk1 | (dsimp only; (first | ((fail_if_success (fail_if_success (with_reducible show wpAny _ _ (call (Value.ref _) _ _) _ _ _))); k_here; first | ((with_reducible show wpAny _ _ (call (Value.ref 37) [Value.none, _]) _ _ _); refine' Gives.some (safe_none _ _ _ _ _ _ _ _ _) (by k_asm) (by k_asm) (by k_asm) (by k_asm) (by k_asm) (by exact rfl) (by ktr_room) (by ktr_units) ?_; k_whole; intro _ _ _ _ _; (try dsimp only)) | ((with_reducible show wpAny _ _ (call (Value.ref 37) [Value.str _ _, _]) _ _ _); refine' Gives.some (safe_str _ _ _ _ _ _ _ _ _ _ _) (by k_asm) (by k_asm) (by k_asm) (by k_asm) (by k_asm) (by exact rfl) (by ktr_room) (by ktr_units) ?_; k_whole; intro _ _ _ _ _; (try dsimp only))) | walk1)) | (leave1; (try dsimp only)) | fail "no step")
  exact hret _ _ _ _ (by assumption) (by assumption) ⟨⟨_, _, rfl, by rw [codes_append, codes_append, codes_nl, codes_empty]; rfl⟩, rfl⟩
theorem fmt_str (w : World) (p : Program) (loose : List Str) (mean : ExcName → Option Value) (mg mb : Str → Option Value) (x y : Str) (tx ty : Tok) (hx : x.length ≤ 100) (hy : y.length ≤ 400) (news : List (Addr × Obj)) :
    Gives w p loose mean mg mb 29 8 80 news [.str x tx, .str y ty] (fun r nx => (∃ z t, r = .str z t ∧ codes z = codes x ++ tailOf y ++ [10]) ∧ nx = news) := by
  w_on
  intro dp un gd cn cs ad ccd cl outer A₀ base h₀ L m s Q E B F X N T hk hd hu hret
  refine wpAny_call ?_
  k_dflt (refine' code_def ?k1 ?k2 ?k3 ?k4 ?k5 ?kA ?kF ?kK ?k6 ?k7 ?k8 ?k9 ?kB ?_ ?c2 ?c3 ?c4 ?c5; (case kA => exact rfl); (case kF => exact rfl); (case kK => assumption); (case k1 => k_asm); (case k2 => k_asm); (case k3 => k_asm); (case k4 => k_asm); (case k5 => k_asm); (case k6 => k_is); (case k7 => k_is); (case k8 => ktr_room); (case k9 => first | exact BindsTo.of_eq rfl | exact binds_K (by k_in) rfl (by k_is) rfl rfl rfl | exact kp_binds (by k_in) (fun S => by with_unfolding_all rfl)); (case c5 => decide); (case kB => exact locs rfl); (case c2 => exact rfl); (case c3 => exact rfl); (case c4 => exact rfl); k_whole; intro g' L' h' FG' F' N' B' X' T'; (try dsimp only); (try k_lift B'); (try k_fold))
  repeat' (first | (k_unfold; (try dsimp only); (try (clear ek)); (try (clear qk))) | ((fail_if_success (fail_if_success (with_reducible show wpAny _ _ (execs (_ :: _) _) _ _ _))); k_fold) | (k_end; wrow_close) | ((fail_if_success (fail_if_success (with_reducible show wpAny _ _ (call (Value.ref _) _ _) _ _ _))); k_here; first | ((with_reducible show wpAny _ _ (call (Value.ref 37) [Value.none, _]) _ _ _); refine' Gives.some (safe_none _ _ _ _ _ _ _ _ _) (by k_asm) (by k_asm) (by k_asm) (by k_asm) (by k_asm) (by exact rfl) (by ktr_room) (by ktr_units) ?_; k_whole; intro _ _ _ _ _; (try dsimp only)) | ((with_reducible show wpAny _ _ (call (Value.ref 37) [Value.str _ _, _]) _ _ _); refine' Gives.some (safe_str _ _ _ _ _ _ _ _ _ _ _) (by k_asm) (by k_asm) (by k_asm) (by k_asm) (by k_asm) (by exact rfl) (by ktr_room) (by ktr_units) ?_; k_whole; intro _ _ _ _ _; (try dsimp only))) | walk1 | (dsimp only; (first | ((fail_if_success (fail_if_success (with_reducible show wpAny _ _ (call (Value.ref _) _ _) _ _ _))); k_here; first | ((with_reducible show wpAny _ _ (call (Value.ref 37) [Value.none, _]) _ _ _); refine' Gives.some (safe_none _ _ _ _ _ _ _ _ _) (by k_asm) (by k_asm) (by k_asm) (by k_asm) (by k_asm) (by exact rfl) (by ktr_room) (by ktr_units) ?_; k_whole; intro _ _ _ _ _; (try dsimp only)) | ((with_reducible show wpAny _ _ (call (Value.ref 37) [Value.str _ _, _]) _ _ _); refine' Gives.some (safe_str _ _ _ _ _ _ _ _ _ _ _) (by k_asm) (by k_asm) (by k_asm) (by k_asm) (by k_asm) (by exact rfl) (by ktr_room) (by ktr_units) ?_; k_whole; intro _ _ _ _ _; (try dsimp only))) | walk1)) | (leave1; (try dsimp only)) | fail "no step")
  · refine hret _ _ _ _ (by assumption) (by assumption) ⟨⟨_, _, rfl, ?_⟩, rfl⟩
    rw [codes_append, codes_append, codes_append, codes_append, codes_nl, codes_empty, codes_sep, tailOf, if_neg (codes_ne (by omega))]
    simp
  · refine hret _ _ _ _ (by assumption) (by assumption) ⟨⟨_, _, rfl, ?_⟩, rfl⟩
    rw [codes_append, codes_append, codes_nl, codes_empty, tailOf, if_pos (codes_nil (by omega))]
    simp
theorem fmt_none_k (w : World) (p : Program) (loose : List Str) (mean : ExcName → Option Value) (mg mb : Str → Option Value) (x : Str) (tx : Tok) (hx : x.length ≤ 100) (news : List (Addr × Obj)) :
    GivesK w p loose mean mg mb 29 8 80 news [.str x tx, .none] [(Str.ofString "insert_final_newline", .bool false)] (fun r nx => (∃ z t, r = .str z t ∧ codes z = codes x) ∧ nx = news) := by
  w_on
  intro dp un gd cn cs ad ccd cl outer A₀ base h₀ L m s Q E B F X N T hk hd hu hret
  refine wpAny_call ?_
  k_dflt (refine' code_def ?k1 ?k2 ?k3 ?k4 ?k5 ?kA ?kF ?kK ?k6 ?k7 ?k8 ?k9 ?kB ?_ ?c2 ?c3 ?c4 ?c5; (case kA => exact rfl); (case kF => exact rfl); (case kK => assumption); (case k1 => k_asm); (case k2 => k_asm); (case k3 => k_asm); (case k4 => k_asm); (case k5 => k_asm); (case k6 => k_is); (case k7 => k_is); (case k8 => ktr_room); (case k9 => first | exact BindsTo.of_eq rfl | exact binds_K (by k_in) rfl (by k_is) rfl rfl rfl | exact kp_binds (by k_in) (fun S => by with_unfolding_all rfl)); (case c5 => decide); (case kB => exact locs rfl); (case c2 => exact rfl); (case c3 => exact rfl); (case c4 => exact rfl); k_whole; intro g' L' h' FG' F' N' B' X' T'; (try dsimp only); (try k_lift B'); (try k_fold))
  repeat' (first | (k_unfold; (try dsimp only); (try (clear ek)); (try (clear qk))) | ((fail_if_success (fail_if_success (with_reducible show wpAny _ _ (execs (_ :: _) _) _ _ _))); k_fold) | (k_end; wrow_close) | ((fail_if_success (fail_if_success (with_reducible show wpAny _ _ (call (Value.ref _) _ _) _ _ _))); k_here; first | ((with_reducible show wpAny _ _ (call (Value.ref 37) [Value.none, _]) _ _ _); refine' Gives.some (safe_none _ _ _ _ _ _ _ _ _) (by k_asm) (by k_asm) (by k_asm) (by k_asm) (by k_asm) (by exact rfl) (by ktr_room) (by ktr_units) ?_; k_whole; intro _ _ _ _ _; (try dsimp only)) | ((with_reducible show wpAny _ _ (call (Value.ref 37) [Value.str _ _, _]) _ _ _); refine' Gives.some (safe_str _ _ _ _ _ _ _ _ _ _ _) (by k_asm) (by k_asm) (by k_asm) (by k_asm) (by k_asm) (by exact rfl) (by ktr_room) (by ktr_units) ?_; k_whole; intro _ _ _ _ _; (try dsimp only))) | walk1 | (dsimp only; (first | ((fail_if_success (fail_if_success (with_reducible show wpAny _ _ (call (Value.ref _) _ _) _ _ _))); k_here; first | ((with_reducible show wpAny _ _ (call (Value.ref 37) [Value.none, _]) _ _ _); refine' Gives.some (safe_none _ _ _ _ _ _ _ _ _) (by k_asm) (by k_asm) (by k_asm) (by k_asm) (by k_asm) (by exact rfl) (by ktr_room) (by ktr_units) ?_; k_whole; intro _ _ _ _ _; (try dsimp only)) | ((with_reducible show wpAny _ _ (call (Value.ref 37) [Value.str _ _, _]) _ _ _); refine' Gives.some (safe_str _ _ _ _ _ _ _ _ _ _ _) (by k_asm) (by k_asm) (by k_asm) (by k_asm) (by k_asm) (by exact rfl) (by ktr_room) (by ktr_units) ?_; k_whole; intro _ _ _ _ _; (try dsimp only))) | walk1)) | (leave1; (try dsimp only)) | fail "no step")
  refine hret _ _ _ _ (by assumption) (by assumption) ⟨⟨_, _, rfl, ?_⟩, rfl⟩
  rw [codes_append, codes_append, codes_empty, show codes (Str.ofString "") = [] from rfl]
  simp
theorem fmt_str_k (w : World) (p : Program) (loose : List Str) (mean : ExcName → Option Value) (mg mb : Str → Option Value) (x y : Str) (tx ty : Tok) (hx : x.length ≤ 100) (hy : y.length ≤ 400) (news : List (Addr × Obj)) :
    GivesK w p loose mean mg mb 29 8 80 news [.str x tx, .str y ty] [(Str.ofString "insert_final_newline", .bool false)] (fun r nx => (∃ z t, r = .str z t ∧ codes z = codes x ++ tailOf y) ∧ nx = news) := by
  w_on
  intro dp un gd cn cs ad ccd cl outer A₀ base h₀ L m s Q E B F X N T hk hd hu hret
  refine wpAny_call ?_
  k_dflt (refine' code_def ?k1 ?k2 ?k3 ?k4 ?k5 ?kA ?kF ?kK ?k6 ?k7 ?k8 ?k9 ?kB ?_ ?c2 ?c3 ?c4 ?c5; (case kA => exact rfl); (case kF => exact rfl); (case kK => assumption); (case k1 => k_asm); (case k2 => k_asm); (case k3 => k_asm); (case k4 => k_asm); (case k5 => k_asm); (case k6 => k_is); (case k7 => k_is); (case k8 => ktr_room); (case k9 => first | exact BindsTo.of_eq rfl | exact binds_K (by k_in) rfl (by k_is) rfl rfl rfl | exact kp_binds (by k_in) (fun S => by with_unfolding_all rfl)); (case c5 => decide); (case kB => exact locs rfl); (case c2 => exact rfl); (case c3 => exact rfl); (case c4 => exact rfl); k_whole; intro g' L' h' FG' F' N' B' X' T'; (try dsimp only); (try k_lift B'); (try k_fold))
  repeat' (first | (k_unfold; (try dsimp only); (try (clear ek)); (try (clear qk))) | ((fail_if_success (fail_if_success (with_reducible show wpAny _ _ (execs (_ :: _) _) _ _ _))); k_fold) | (k_end; wrow_close) | ((fail_if_success (fail_if_success (with_reducible show wpAny _ _ (call (Value.ref _) _ _) _ _ _))); k_here; first | ((with_reducible show wpAny _ _ (call (Value.ref 37) [Value.none, _]) _ _ _); refine' Gives.some (safe_none _ _ _ _ _ _ _ _ _) (by k_asm) (by k_asm) (by k_asm) (by k_asm) (by k_asm) (by exact rfl) (by ktr_room) (by ktr_units) ?_; k_whole; intro _ _ _ _ _; (try dsimp only)) | ((with_reducible show wpAny _ _ (call (Value.ref 37) [Value.str _ _, _]) _ _ _); refine' Gives.some (safe_str _ _ _ _ _ _ _ _ _ _ _) (by k_asm) (by k_asm) (by k_asm) (by k_asm) (by k_asm) (by exact rfl) (by ktr_room) (by ktr_units) ?_; k_whole; intro _ _ _ _ _; (try dsimp only))) | walk1 | (dsimp only; (first | ((fail_if_success (fail_if_success (with_reducible show wpAny _ _ (call (Value.ref _) _ _) _ _ _))); k_here; first | ((with_reducible show wpAny _ _ (call (Value.ref 37) [Value.none, _]) _ _ _); refine' Gives.some (safe_none _ _ _ _ _ _ _ _ _) (by k_asm) (by k_asm) (by k_asm) (by k_asm) (by k_asm) (by exact rfl) (by ktr_room) (by ktr_units) ?_; k_whole; intro _ _ _ _ _; (try dsimp only)) | ((with_reducible show wpAny _ _ (call (Value.ref 37) [Value.str _ _, _]) _ _ _); refine' Gives.some (safe_str _ _ _ _ _ _ _ _ _ _ _) (by k_asm) (by k_asm) (by k_asm) (by k_asm) (by k_asm) (by exact rfl) (by ktr_room) (by ktr_units) ?_; k_whole; intro _ _ _ _ _; (try dsimp only))) | walk1)) | (leave1; (try dsimp only)) | fail "no step")
  · refine hret _ _ _ _ (by assumption) (by assumption) ⟨⟨_, _, rfl, ?_⟩, rfl⟩
    rw [codes_append, codes_append, codes_append, codes_append, codes_empty, codes_sep, show codes (Str.ofString "") = [] from rfl, tailOf, if_neg (codes_ne (by omega))]
    simp
  · refine hret _ _ _ _ (by assumption) (by assumption) ⟨⟨_, _, rfl, ?_⟩, rfl⟩
    rw [codes_append, codes_append, codes_empty, show codes (Str.ofString "") = [] from rfl, tailOf, if_pos (codes_nil (by omega))]
    simp
end
section
/-- lists that lie on the ledger -/
inductive ListsAre (D : List (Addr × Obj)) : List Value → List (List Int) → Prop
  | nil : ListsAre D [] []
  | snoc {refs : List Value} {zss : List (List Int)} {r : Addr} {ws : List Value} {zs : List Int} {c : Nat} : ListsAre D refs zss → (r, listOf (List.toArray ws) c) ∈ D → IntsAre ws zs → ListsAre D (refs ++ [Value.ref r]) (zss ++ [zs])
theorem ListsAre.mono {D D' : List (Addr × Obj)} {refs : List Value} {zss : List (List Int)} (h : ListsAre D refs zss) (hs : ∀ p ∈ D, p ∈ D') : ListsAre D' refs zss := by
  induction h with
  | nil => exact .nil
  | snoc _ hm hi ih => exact .snoc ih (hs _ hm) hi
theorem ListsAre.len {D : List (Addr × Obj)} {refs : List Value} {zss : List (List Int)} (h : ListsAre D refs zss) : refs.length = zss.length := by
  induction h with
  | nil => rfl
  | snoc _ _ _ ih => rw [List.length_append, List.length_append, ih]; rfl
noncomputable def readStep (σ : List (List Int) × List Int) (n : Int) : List (List Int) × List Int :=
  if n > 63 then (if n % 64 = 10 then (σ.1 ++ [σ.2 ++ [n / 64 - 1]], []) else (σ.1, σ.2 ++ [n / 64 - 1])) else σ
noncomputable def rowNums (r : Int × Int × Int × Int) : List Int := [r.1, r.2.1, r.2.2.1, 2 * (r.2.2.2 / 2)]
noncomputable def readFrom (σ : List (List Int) × List Int) (rows : List (Int × Int × Int × Int)) : List (List Int) × List Int := rows.foldl (fun s r => (rowNums r).foldl readStep s) σ
noncomputable def readOf (rows : List (Int × Int × Int × Int)) : List (List Int) := (readFrom ([], []) rows).1 ++ [(readFrom ([], []) rows).2]
noncomputable def rowsSize (σ : List (List Int) × List Int) : Nat := σ.1.length + σ.2.length
theorem readStep_size (σ : List (List Int) × List Int) (n : Int) : rowsSize (readStep σ n) ≤ rowsSize σ + 1 := by
  unfold readStep rowsSize
  split
  · split
    · simp only [List.length_append, List.length_singleton, List.length_nil]; omega
    · simp only [List.length_append, List.length_singleton]; omega
  · omega
/-- what the reader's ledger holds: the rings' list at R, its last list at rc -/
noncomputable def ReadAt (R : Addr) (news : List (Addr × Obj)) (σ : List (List Int) × List Int) (nx : List (Addr × Obj)) : Prop :=
  ∃ (D : List (Addr × Obj)) (refs : List Value) (rc : Addr) (vc : List Value) (c cR : Nat),
    nx = (rc, listOf vc.toArray c) :: (R, listOf (refs ++ [Value.ref rc]).toArray cR) :: (D ++ news) ∧ IntsAre vc σ.2 ∧ ListsAre D refs σ.1 ∧ rc ≠ R ∧ (∀ p ∈ D ++ news, p.1 ≠ rc) ∧ (∀ p ∈ D ++ news, p.1 ≠ R) ∧ (∀ p ∈ D, ∀ q ∈ news, q.1 ≠ p.1)
local macro_rules | `(tactic| k_all) => `(tactic| assumption)
theorem read_spec (w : World) (p : Program) (loose : List Str) (mean : ExcName → Option Value) (mg mb : Str → Option Value) (e : Addr) (c : Nat) (refs : List Value) (tl : List (Addr × Obj)) (rows : List (Int × Int × Int × Int)) (he : EntsAre tl refs rows) (hlen : rows.length ≤ 400)
   (news : List (Addr × Obj)) (hm : (e, listOf refs.toArray c) ∈ news) (ht : ∀ p ∈ tl, p ∈ news) :
    Gives w p loose mean mg mb 334 9 90 news [.ref e] (fun r nx => ∃ R rs c', r = .ref R ∧ (R, listOf rs.toArray c') ∈ nx ∧ (∀ p ∈ news, p ∈ nx) ∧ ListsAre nx rs (readOf rows)) := by
  w_on
  intro dp un gd cn cs a ccd cl outer A₀ base h₀ L m s Q E B F X N T hk hd hu hret
  refine wpAny_call ?_
  k_dflt cell_enter
  repeat' (first | (k_unfold; (try dsimp only)) | ((fail_if_success (with_reducible show wpAny _ _ (exec (Stmt.For _ _ _ _ _) _) _ _ _)); (fail_if_success (with_reducible show wpAny _ _ (execs (Stmt.For _ _ _ _ _ :: _) _) _ _ _)); (fail_if_success (with_reducible show wpAny _ _ (execs (_ :: Stmt.For _ _ _ _ _ :: _) _) _ _ _)); (first | ((fail_if_success (fail_if_success (with_reducible show wpAny _ _ (subscriptTail _ _ _ _) _ _ _))); k_here; ((with_reducible show wpAny _ _ (subscriptTail _ (PySem.Expr.UnaryOp _ _ _) (Value.ref _) (Value.int _ _)) _ _ _); (with_unfolding_all refine' kde_neg (by is_list) (by decide) (by decide) (by exact last_idx _ _) (by exact last_at _ _) ?_ (by with_unfolding_all rfl); k_whole))) | ((fail_if_success (fail_if_success (with_reducible show wpAny _ _ (call (Value.builtin _) _ _) _ _ _))); k_here; ((with_reducible show wpAny _ _ (call (Value.builtin _) ([Value.ref _] ++ [_])) _ _ _); (simp only [List.cons_append, List.nil_append]); walk1)) | ((fail_if_success (fail_if_success (with_reducible show wpAny _ _ (call (Value.ref _) _ _) _ _ _))); k_here; first | ((with_reducible show wpAny _ _ (call (Value.ref 243) _) _ _ _); refine' GivesT.some0 div64_t (by k_asm) (by k_asm) (by k_asm) (by k_asm) (by k_asm) (by exact rfl) (by ktr_room) (by ktr_units) ?_; k_whole; intro _ _ _ _ _; (try dsimp only)) | ((with_reducible show wpAny _ _ (call (Value.ref 243) _) _ _ _); refine' GivesT.some0 div2_t (by k_asm) (by k_asm) (by k_asm) (by k_asm) (by k_asm) (by exact rfl) (by ktr_room) (by ktr_units) ?_; k_whole; intro _ _ _ _ _; (try dsimp only)) | ((with_reducible show wpAny _ _ (call (Value.ref 250) _) _ _ _); refine' GivesT.some0 mul2_t (by k_asm) (by k_asm) (by k_asm) (by k_asm) (by k_asm) (by exact rfl) (by ktr_room) (by ktr_units) ?_; k_whole; intro _ _ _ _ _; (try dsimp only)) | ((with_reducible show wpAny _ _ (call (Value.ref 257) _) _ _ _); refine' GivesT.some0 sub_t (by k_asm) (by k_asm) (by k_asm) (by k_asm) (by k_asm) (by exact rfl) (by ktr_room) (by ktr_units) ?_; k_whole; intro _ _ _ _ _; (try dsimp only)) | ((with_reducible show wpAny _ _ (call (Value.ref 236) _) _ _ _); refine' GivesT.some0 add_t (by k_asm) (by k_asm) (by k_asm) (by k_asm) (by k_asm) (by exact rfl) (by ktr_room) (by ktr_units) ?_; k_whole; intro _ _ _ _ _; (try dsimp only)) | ((with_reducible show wpAny _ _ (call (Value.ref 229) _) _ _ _); refine' GivesT.val0 eq_t (by k_asm) (by k_asm) (by k_asm) (by k_asm) (by k_asm) (by exact rfl) (by ktr_room) (by ktr_units) ?_; k_whole; intro _ _ _ _; (try dsimp only)) | ((with_reducible show wpAny _ _ (call (Value.ref 222) _) _ _ _); refine' GivesT.val0 le_t (by k_asm) (by k_asm) (by k_asm) (by k_asm) (by k_asm) (by exact rfl) (by ktr_room) (by ktr_units) ?_; k_whole; intro _ _ _ _; (try dsimp only)) | ((with_reducible show wpAny _ _ (call (Value.ref 215) _) _ _ _); refine' GivesT.val0 lt_t (by k_asm) (by k_asm) (by k_asm) (by k_asm) (by k_asm) (by exact rfl) (by ktr_room) (by ktr_units) ?_; k_whole; intro _ _ _ _; (try dsimp only))) | walk1)) | (leave1; try dsimp only))
  refine wpAny_execs_cons ?_
  repeat' (first | (k_unfold; (try dsimp only)) | ((fail_if_success (with_reducible show wpAny _ _ (exec (Stmt.For _ _ _ _ _) _) _ _ _)); (fail_if_success (with_reducible show wpAny _ _ (execs (Stmt.For _ _ _ _ _ :: _) _) _ _ _)); (fail_if_success (with_reducible show wpAny _ _ (execs (_ :: Stmt.For _ _ _ _ _ :: _) _) _ _ _)); (first | ((fail_if_success (fail_if_success (with_reducible show wpAny _ _ (subscriptTail _ _ _ _) _ _ _))); k_here; ((with_reducible show wpAny _ _ (subscriptTail _ (PySem.Expr.UnaryOp _ _ _) (Value.ref _) (Value.int _ _)) _ _ _); (with_unfolding_all refine' kde_neg (by is_list) (by decide) (by decide) (by exact last_idx _ _) (by exact last_at _ _) ?_ (by with_unfolding_all rfl); k_whole))) | ((fail_if_success (fail_if_success (with_reducible show wpAny _ _ (call (Value.builtin _) _ _) _ _ _))); k_here; ((with_reducible show wpAny _ _ (call (Value.builtin _) ([Value.ref _] ++ [_])) _ _ _); (simp only [List.cons_append, List.nil_append]); walk1)) | ((fail_if_success (fail_if_success (with_reducible show wpAny _ _ (call (Value.ref _) _ _) _ _ _))); k_here; first | ((with_reducible show wpAny _ _ (call (Value.ref 243) _) _ _ _); refine' GivesT.some0 div64_t (by k_asm) (by k_asm) (by k_asm) (by k_asm) (by k_asm) (by exact rfl) (by ktr_room) (by ktr_units) ?_; k_whole; intro _ _ _ _ _; (try dsimp only)) | ((with_reducible show wpAny _ _ (call (Value.ref 243) _) _ _ _); refine' GivesT.some0 div2_t (by k_asm) (by k_asm) (by k_asm) (by k_asm) (by k_asm) (by exact rfl) (by ktr_room) (by ktr_units) ?_; k_whole; intro _ _ _ _ _; (try dsimp only)) | ((with_reducible show wpAny _ _ (call (Value.ref 250) _) _ _ _); refine' GivesT.some0 mul2_t (by k_asm) (by k_asm) (by k_asm) (by k_asm) (by k_asm) (by exact rfl) (by ktr_room) (by ktr_units) ?_; k_whole; intro _ _ _ _ _; (try dsimp only)) | ((with_reducible show wpAny _ _ (call (Value.ref 257) _) _ _ _); refine' GivesT.some0 sub_t (by k_asm) (by k_asm) (by k_asm) (by k_asm) (by k_asm) (by exact rfl) (by ktr_room) (by ktr_units) ?_; k_whole; intro _ _ _ _ _; (try dsimp only)) | ((with_reducible show wpAny _ _ (call (Value.ref 236) _) _ _ _); refine' GivesT.some0 add_t (by k_asm) (by k_asm) (by k_asm) (by k_asm) (by k_asm) (by exact rfl) (by ktr_room) (by ktr_units) ?_; k_whole; intro _ _ _ _ _; (try dsimp only)) | ((with_reducible show wpAny _ _ (call (Value.ref 229) _) _ _ _); refine' GivesT.val0 eq_t (by k_asm) (by k_asm) (by k_asm) (by k_asm) (by k_asm) (by exact rfl) (by ktr_room) (by ktr_units) ?_; k_whole; intro _ _ _ _; (try dsimp only)) | ((with_reducible show wpAny _ _ (call (Value.ref 222) _) _ _ _); refine' GivesT.val0 le_t (by k_asm) (by k_asm) (by k_asm) (by k_asm) (by k_asm) (by exact rfl) (by ktr_room) (by ktr_units) ?_; k_whole; intro _ _ _ _; (try dsimp only)) | ((with_reducible show wpAny _ _ (call (Value.ref 215) _) _ _ _); refine' GivesT.val0 lt_t (by k_asm) (by k_asm) (by k_asm) (by k_asm) (by k_asm) (by exact rfl) (by ktr_room) (by ktr_units) ?_; k_whole; intro _ _ _ _; (try dsimp only))) | walk1)) | (leave1; try dsimp only))
  refine wpAny_execs_cons ?_
  rename Fr _ _ _ _ => lF'
  (with_unfolding_all refine' For_turns lF' ?_; k_whole)
  repeat' (first | (k_unfold; (try dsimp only)) | ((fail_if_success (with_reducible show wpAny _ _ (pyIter _) _ _ _)); (first | ((fail_if_success (fail_if_success (with_reducible show wpAny _ _ (subscriptTail _ _ _ _) _ _ _))); k_here; ((with_reducible show wpAny _ _ (subscriptTail _ (PySem.Expr.UnaryOp _ _ _) (Value.ref _) (Value.int _ _)) _ _ _); (with_unfolding_all refine' kde_neg (by is_list) (by decide) (by decide) (by exact last_idx _ _) (by exact last_at _ _) ?_ (by with_unfolding_all rfl); k_whole))) | ((fail_if_success (fail_if_success (with_reducible show wpAny _ _ (call (Value.builtin _) _ _) _ _ _))); k_here; ((with_reducible show wpAny _ _ (call (Value.builtin _) ([Value.ref _] ++ [_])) _ _ _); (simp only [List.cons_append, List.nil_append]); walk1)) | ((fail_if_success (fail_if_success (with_reducible show wpAny _ _ (call (Value.ref _) _ _) _ _ _))); k_here; first | ((with_reducible show wpAny _ _ (call (Value.ref 243) _) _ _ _); refine' GivesT.some0 div64_t (by k_asm) (by k_asm) (by k_asm) (by k_asm) (by k_asm) (by exact rfl) (by ktr_room) (by ktr_units) ?_; k_whole; intro _ _ _ _ _; (try dsimp only)) | ((with_reducible show wpAny _ _ (call (Value.ref 243) _) _ _ _); refine' GivesT.some0 div2_t (by k_asm) (by k_asm) (by k_asm) (by k_asm) (by k_asm) (by exact rfl) (by ktr_room) (by ktr_units) ?_; k_whole; intro _ _ _ _ _; (try dsimp only)) | ((with_reducible show wpAny _ _ (call (Value.ref 250) _) _ _ _); refine' GivesT.some0 mul2_t (by k_asm) (by k_asm) (by k_asm) (by k_asm) (by k_asm) (by exact rfl) (by ktr_room) (by ktr_units) ?_; k_whole; intro _ _ _ _ _; (try dsimp only)) | ((with_reducible show wpAny _ _ (call (Value.ref 257) _) _ _ _); refine' GivesT.some0 sub_t (by k_asm) (by k_asm) (by k_asm) (by k_asm) (by k_asm) (by exact rfl) (by ktr_room) (by ktr_units) ?_; k_whole; intro _ _ _ _ _; (try dsimp only)) | ((with_reducible show wpAny _ _ (call (Value.ref 236) _) _ _ _); refine' GivesT.some0 add_t (by k_asm) (by k_asm) (by k_asm) (by k_asm) (by k_asm) (by exact rfl) (by ktr_room) (by ktr_units) ?_; k_whole; intro _ _ _ _ _; (try dsimp only)) | ((with_reducible show wpAny _ _ (call (Value.ref 229) _) _ _ _); refine' GivesT.val0 eq_t (by k_asm) (by k_asm) (by k_asm) (by k_asm) (by k_asm) (by exact rfl) (by ktr_room) (by ktr_units) ?_; k_whole; intro _ _ _ _; (try dsimp only)) | ((with_reducible show wpAny _ _ (call (Value.ref 222) _) _ _ _); refine' GivesT.val0 le_t (by k_asm) (by k_asm) (by k_asm) (by k_asm) (by k_asm) (by exact rfl) (by ktr_room) (by ktr_units) ?_; k_whole; intro _ _ _ _; (try dsimp only)) | ((with_reducible show wpAny _ _ (call (Value.ref 215) _) _ _ _); refine' GivesT.val0 lt_t (by k_asm) (by k_asm) (by k_asm) (by k_asm) (by k_asm) (by exact rfl) (by ktr_room) (by ktr_units) ?_; k_whole; intro _ _ _ _; (try dsimp only))) | walk1)) | (leave1; try dsimp only))
  rename_i g0 L0 _h0 FG0 B0 X0 T0 rc0 _h1 l1 R _h2 l2 _h3 NN
  obtain ⟨Fin, hFin⟩ : ∃ z, z = readFrom ([], []) rows := ⟨_, rfl⟩
  refine' kdl_iterT (fun i m nx => ∃ σ, m (Str.ofString "rings") = some (.ref R) ∧ ReadAt R news σ nx ∧ readFrom σ (rows.drop i) = Fin ∧ rowsSize σ ≤ 4 * i) ?hh ?hl ?F ?N ?hj ?turn ?done
  case hh => exact rfl
  case F => exact lF'
  case N => exact fun q hq => NN q (by
    rcases List.mem_cons.mp hq with rfl | hq
    · exact .tail _ (.head _)
    · rcases List.mem_cons.mp hq with rfl | hq
      · exact .head _
      · exact .tail _ (.tail _ hq) : q ∈ _)
  case hl => exact .tail _ (.tail _ hm)
  case hj => exact ⟨([], []), rfl, ⟨[], [], rc0, [], 0, 0, rfl, .nil, .nil, Nat.ne_of_lt l2.1, fun p hp => Nat.ne_of_lt (l1 p hp), fun p hp => Nat.ne_of_lt (allLt_out l2.2 p hp), fun _ h => nomatch h⟩, hFin.symm, Nat.zero_le _⟩
  case done =>
    rintro m₁ nx h tk ⟨σ, e1, ⟨D, rs, rc, vc, c1, cR, rfl, hvc, hL, a1, a2, a3, a4⟩, hf, hs⟩ F₁ N₁
    have F₂ := fr_put1 F₁ e1
    rw [he.len, List.drop_length] at hf
    have hf : σ = Fin := hf
    clear F₁ lF' NN
    have hL' := PySem.Flt.Hid.mk hL
    clear hL
    repeat' (first | (k_unfold; (try dsimp only); (try (clear ek)); (try (clear qk))) | ((fail_if_success (fail_if_success (with_reducible show wpAny _ _ (execs (_ :: _) _) _ _ _))); k_fold) | (k_end; wrow_close) | ((fail_if_success (fail_if_success (with_reducible show wpAny _ _ (subscriptTail _ _ _ _) _ _ _))); k_here; ((with_reducible show wpAny _ _ (subscriptTail _ (PySem.Expr.UnaryOp _ _ _) (Value.ref _) (Value.int _ _)) _ _ _); (with_unfolding_all refine' kde_neg (by is_list) (by decide) (by decide) (by exact last_idx _ _) (by exact last_at _ _) ?_ (by with_unfolding_all rfl); k_whole))) | ((fail_if_success (fail_if_success (with_reducible show wpAny _ _ (call (Value.builtin _) _ _) _ _ _))); k_here; ((with_reducible show wpAny _ _ (call (Value.builtin _) ([Value.ref _] ++ [_])) _ _ _); (simp only [List.cons_append, List.nil_append]); walk1)) | ((fail_if_success (fail_if_success (with_reducible show wpAny _ _ (call (Value.ref _) _ _) _ _ _))); k_here; first | ((with_reducible show wpAny _ _ (call (Value.ref 243) _) _ _ _); refine' GivesT.some0 div64_t (by k_asm) (by k_asm) (by k_asm) (by k_asm) (by k_asm) (by exact rfl) (by ktr_room) (by ktr_units) ?_; k_whole; intro _ _ _ _ _; (try dsimp only)) | ((with_reducible show wpAny _ _ (call (Value.ref 243) _) _ _ _); refine' GivesT.some0 div2_t (by k_asm) (by k_asm) (by k_asm) (by k_asm) (by k_asm) (by exact rfl) (by ktr_room) (by ktr_units) ?_; k_whole; intro _ _ _ _ _; (try dsimp only)) | ((with_reducible show wpAny _ _ (call (Value.ref 250) _) _ _ _); refine' GivesT.some0 mul2_t (by k_asm) (by k_asm) (by k_asm) (by k_asm) (by k_asm) (by exact rfl) (by ktr_room) (by ktr_units) ?_; k_whole; intro _ _ _ _ _; (try dsimp only)) | ((with_reducible show wpAny _ _ (call (Value.ref 257) _) _ _ _); refine' GivesT.some0 sub_t (by k_asm) (by k_asm) (by k_asm) (by k_asm) (by k_asm) (by exact rfl) (by ktr_room) (by ktr_units) ?_; k_whole; intro _ _ _ _ _; (try dsimp only)) | ((with_reducible show wpAny _ _ (call (Value.ref 236) _) _ _ _); refine' GivesT.some0 add_t (by k_asm) (by k_asm) (by k_asm) (by k_asm) (by k_asm) (by exact rfl) (by ktr_room) (by ktr_units) ?_; k_whole; intro _ _ _ _ _; (try dsimp only)) | ((with_reducible show wpAny _ _ (call (Value.ref 229) _) _ _ _); refine' GivesT.val0 eq_t (by k_asm) (by k_asm) (by k_asm) (by k_asm) (by k_asm) (by exact rfl) (by ktr_room) (by ktr_units) ?_; k_whole; intro _ _ _ _; (try dsimp only)) | ((with_reducible show wpAny _ _ (call (Value.ref 222) _) _ _ _); refine' GivesT.val0 le_t (by k_asm) (by k_asm) (by k_asm) (by k_asm) (by k_asm) (by exact rfl) (by ktr_room) (by ktr_units) ?_; k_whole; intro _ _ _ _; (try dsimp only)) | ((with_reducible show wpAny _ _ (call (Value.ref 215) _) _ _ _); refine' GivesT.val0 lt_t (by k_asm) (by k_asm) (by k_asm) (by k_asm) (by k_asm) (by exact rfl) (by ktr_room) (by ktr_units) ?_; k_whole; intro _ _ _ _; (try dsimp only))) | walk1 | (dsimp only; (first | ((fail_if_success (fail_if_success (with_reducible show wpAny _ _ (subscriptTail _ _ _ _) _ _ _))); k_here; ((with_reducible show wpAny _ _ (subscriptTail _ (PySem.Expr.UnaryOp _ _ _) (Value.ref _) (Value.int _ _)) _ _ _); (with_unfolding_all refine' kde_neg (by is_list) (by decide) (by decide) (by exact last_idx _ _) (by exact last_at _ _) ?_ (by with_unfolding_all rfl); k_whole))) | ((fail_if_success (fail_if_success (with_reducible show wpAny _ _ (call (Value.builtin _) _ _) _ _ _))); k_here; ((with_reducible show wpAny _ _ (call (Value.builtin _) ([Value.ref _] ++ [_])) _ _ _); (simp only [List.cons_append, List.nil_append]); walk1)) | ((fail_if_success (fail_if_success (with_reducible show wpAny _ _ (call (Value.ref _) _ _) _ _ _))); k_here; first | ((with_reducible show wpAny _ _ (call (Value.ref 243) _) _ _ _); refine' GivesT.some0 div64_t (by k_asm) (by k_asm) (by k_asm) (by k_asm) (by k_asm) (by exact rfl) (by ktr_room) (by ktr_units) ?_; k_whole; intro _ _ _ _ _; (try dsimp only)) | ((with_reducible show wpAny _ _ (call (Value.ref 243) _) _ _ _); refine' GivesT.some0 div2_t (by k_asm) (by k_asm) (by k_asm) (by k_asm) (by k_asm) (by exact rfl) (by ktr_room) (by ktr_units) ?_; k_whole; intro _ _ _ _ _; (try dsimp only)) | ((with_reducible show wpAny _ _ (call (Value.ref 250) _) _ _ _); refine' GivesT.some0 mul2_t (by k_asm) (by k_asm) (by k_asm) (by k_asm) (by k_asm) (by exact rfl) (by ktr_room) (by ktr_units) ?_; k_whole; intro _ _ _ _ _; (try dsimp only)) | ((with_reducible show wpAny _ _ (call (Value.ref 257) _) _ _ _); refine' GivesT.some0 sub_t (by k_asm) (by k_asm) (by k_asm) (by k_asm) (by k_asm) (by exact rfl) (by ktr_room) (by ktr_units) ?_; k_whole; intro _ _ _ _ _; (try dsimp only)) | ((with_reducible show wpAny _ _ (call (Value.ref 236) _) _ _ _); refine' GivesT.some0 add_t (by k_asm) (by k_asm) (by k_asm) (by k_asm) (by k_asm) (by exact rfl) (by ktr_room) (by ktr_units) ?_; k_whole; intro _ _ _ _ _; (try dsimp only)) | ((with_reducible show wpAny _ _ (call (Value.ref 229) _) _ _ _); refine' GivesT.val0 eq_t (by k_asm) (by k_asm) (by k_asm) (by k_asm) (by k_asm) (by exact rfl) (by ktr_room) (by ktr_units) ?_; k_whole; intro _ _ _ _; (try dsimp only)) | ((with_reducible show wpAny _ _ (call (Value.ref 222) _) _ _ _); refine' GivesT.val0 le_t (by k_asm) (by k_asm) (by k_asm) (by k_asm) (by k_asm) (by exact rfl) (by ktr_room) (by ktr_units) ?_; k_whole; intro _ _ _ _; (try dsimp only)) | ((with_reducible show wpAny _ _ (call (Value.ref 215) _) _ _ _); refine' GivesT.val0 lt_t (by k_asm) (by k_asm) (by k_asm) (by k_asm) (by k_asm) (by exact rfl) (by ktr_room) (by ktr_units) ?_; k_whole; intro _ _ _ _; (try dsimp only))) | walk1)) | (leave1; (try dsimp only)) | fail "no step")
    refine hret _ _ _ _ (by assumption) (by assumption) ⟨R, _, _, rfl, .tail _ (.head _), fun q hq => .tail _ (.tail _ (List.mem_append_right _ hq)), ?_⟩
    unfold readOf
    rw [← hFin, ← hf]
    exact .snoc (hL'.out.mono fun q hq => .tail _ (.tail _ (List.mem_append_left _ hq))) (.head _) hvc
  case turn =>
    rintro i v m₁ nx h tk own hv hoff hmem ⟨σ, e1, ⟨D, rs, rc, vc, c1, cR, rfl, hvc, hL, a1, a2, a3, a4⟩, hf, hs⟩ F₁ N₁
    obtain ⟨x, d, vs, r, rfl, hx, hr, t1, t2, t3, t4, rfl⟩ := he.at i v hv
    have hi4 : i < 400 := by
      have := (List.getElem?_eq_some_iff.mp hr).1
      omega
    rw [drop_at hr] at hf
    have hf := PySem.Flt.Hid.mk hf
    have hL := PySem.Flt.Hid.mk hL
    have F₂ := fr_put1 F₁ e1
    clear F₁ lF' NN
    have hx' := ht _ hx
    refine unpackE_ F₂ N₁ (by assumption) (.tail _ (.tail _ (List.mem_append_left _ (List.mem_append_right _ hx')))) rfl rfl rfl fun h2 F3 N3 => ?_
    clear F₂ N₁
    k_fold
    repeat' (first | (k_unfold; (try dsimp only)) | ((fail_if_success (with_reducible show wpAny _ _ (exec (Stmt.For _ _ _ _ _) _) _ _ _)); (fail_if_success (with_reducible show wpAny _ _ (execs (Stmt.For _ _ _ _ _ :: _) _) _ _ _)); (first | ((fail_if_success (fail_if_success (with_reducible show wpAny _ _ (subscriptTail _ _ _ _) _ _ _))); k_here; ((with_reducible show wpAny _ _ (subscriptTail _ (PySem.Expr.UnaryOp _ _ _) (Value.ref _) (Value.int _ _)) _ _ _); (with_unfolding_all refine' kde_neg (by is_list) (by decide) (by decide) (by exact last_idx _ _) (by exact last_at _ _) ?_ (by with_unfolding_all rfl); k_whole))) | ((fail_if_success (fail_if_success (with_reducible show wpAny _ _ (call (Value.builtin _) _ _) _ _ _))); k_here; ((with_reducible show wpAny _ _ (call (Value.builtin _) ([Value.ref _] ++ [_])) _ _ _); (simp only [List.cons_append, List.nil_append]); walk1)) | ((fail_if_success (fail_if_success (with_reducible show wpAny _ _ (call (Value.ref _) _ _) _ _ _))); k_here; first | ((with_reducible show wpAny _ _ (call (Value.ref 243) _) _ _ _); refine' GivesT.some0 div64_t (by k_asm) (by k_asm) (by k_asm) (by k_asm) (by k_asm) (by exact rfl) (by ktr_room) (by ktr_units) ?_; k_whole; intro _ _ _ _ _; (try dsimp only)) | ((with_reducible show wpAny _ _ (call (Value.ref 243) _) _ _ _); refine' GivesT.some0 div2_t (by k_asm) (by k_asm) (by k_asm) (by k_asm) (by k_asm) (by exact rfl) (by ktr_room) (by ktr_units) ?_; k_whole; intro _ _ _ _ _; (try dsimp only)) | ((with_reducible show wpAny _ _ (call (Value.ref 250) _) _ _ _); refine' GivesT.some0 mul2_t (by k_asm) (by k_asm) (by k_asm) (by k_asm) (by k_asm) (by exact rfl) (by ktr_room) (by ktr_units) ?_; k_whole; intro _ _ _ _ _; (try dsimp only)) | ((with_reducible show wpAny _ _ (call (Value.ref 257) _) _ _ _); refine' GivesT.some0 sub_t (by k_asm) (by k_asm) (by k_asm) (by k_asm) (by k_asm) (by exact rfl) (by ktr_room) (by ktr_units) ?_; k_whole; intro _ _ _ _ _; (try dsimp only)) | ((with_reducible show wpAny _ _ (call (Value.ref 236) _) _ _ _); refine' GivesT.some0 add_t (by k_asm) (by k_asm) (by k_asm) (by k_asm) (by k_asm) (by exact rfl) (by ktr_room) (by ktr_units) ?_; k_whole; intro _ _ _ _ _; (try dsimp only)) | ((with_reducible show wpAny _ _ (call (Value.ref 229) _) _ _ _); refine' GivesT.val0 eq_t (by k_asm) (by k_asm) (by k_asm) (by k_asm) (by k_asm) (by exact rfl) (by ktr_room) (by ktr_units) ?_; k_whole; intro _ _ _ _; (try dsimp only)) | ((with_reducible show wpAny _ _ (call (Value.ref 222) _) _ _ _); refine' GivesT.val0 le_t (by k_asm) (by k_asm) (by k_asm) (by k_asm) (by k_asm) (by exact rfl) (by ktr_room) (by ktr_units) ?_; k_whole; intro _ _ _ _; (try dsimp only)) | ((with_reducible show wpAny _ _ (call (Value.ref 215) _) _ _ _); refine' GivesT.val0 lt_t (by k_asm) (by k_asm) (by k_asm) (by k_asm) (by k_asm) (by exact rfl) (by ktr_room) (by ktr_units) ?_; k_whole; intro _ _ _ _; (try dsimp only))) | walk1)) | (leave1; try dsimp only))
    refine wpAny_execs_cons ?_
    rename Fr _ _ _ _ => lF'
    (with_unfolding_all refine' For_invVF lF' ?k1 ?k2 ?_; (case k1 => exact rfl); (case k2 => exact rfl); k_whole)
    repeat' (first | (k_unfold; (try dsimp only)) | ((fail_if_success (with_reducible show wpAny _ _ (pyIter _) _ _ _)); (first | ((fail_if_success (fail_if_success (with_reducible show wpAny _ _ (subscriptTail _ _ _ _) _ _ _))); k_here; ((with_reducible show wpAny _ _ (subscriptTail _ (PySem.Expr.UnaryOp _ _ _) (Value.ref _) (Value.int _ _)) _ _ _); (with_unfolding_all refine' kde_neg (by is_list) (by decide) (by decide) (by exact last_idx _ _) (by exact last_at _ _) ?_ (by with_unfolding_all rfl); k_whole))) | ((fail_if_success (fail_if_success (with_reducible show wpAny _ _ (call (Value.builtin _) _ _) _ _ _))); k_here; ((with_reducible show wpAny _ _ (call (Value.builtin _) ([Value.ref _] ++ [_])) _ _ _); (simp only [List.cons_append, List.nil_append]); walk1)) | ((fail_if_success (fail_if_success (with_reducible show wpAny _ _ (call (Value.ref _) _ _) _ _ _))); k_here; first | ((with_reducible show wpAny _ _ (call (Value.ref 243) _) _ _ _); refine' GivesT.some0 div64_t (by k_asm) (by k_asm) (by k_asm) (by k_asm) (by k_asm) (by exact rfl) (by ktr_room) (by ktr_units) ?_; k_whole; intro _ _ _ _ _; (try dsimp only)) | ((with_reducible show wpAny _ _ (call (Value.ref 243) _) _ _ _); refine' GivesT.some0 div2_t (by k_asm) (by k_asm) (by k_asm) (by k_asm) (by k_asm) (by exact rfl) (by ktr_room) (by ktr_units) ?_; k_whole; intro _ _ _ _ _; (try dsimp only)) | ((with_reducible show wpAny _ _ (call (Value.ref 250) _) _ _ _); refine' GivesT.some0 mul2_t (by k_asm) (by k_asm) (by k_asm) (by k_asm) (by k_asm) (by exact rfl) (by ktr_room) (by ktr_units) ?_; k_whole; intro _ _ _ _ _; (try dsimp only)) | ((with_reducible show wpAny _ _ (call (Value.ref 257) _) _ _ _); refine' GivesT.some0 sub_t (by k_asm) (by k_asm) (by k_asm) (by k_asm) (by k_asm) (by exact rfl) (by ktr_room) (by ktr_units) ?_; k_whole; intro _ _ _ _ _; (try dsimp only)) | ((with_reducible show wpAny _ _ (call (Value.ref 236) _) _ _ _); refine' GivesT.some0 add_t (by k_asm) (by k_asm) (by k_asm) (by k_asm) (by k_asm) (by exact rfl) (by ktr_room) (by ktr_units) ?_; k_whole; intro _ _ _ _ _; (try dsimp only)) | ((with_reducible show wpAny _ _ (call (Value.ref 229) _) _ _ _); refine' GivesT.val0 eq_t (by k_asm) (by k_asm) (by k_asm) (by k_asm) (by k_asm) (by exact rfl) (by ktr_room) (by ktr_units) ?_; k_whole; intro _ _ _ _; (try dsimp only)) | ((with_reducible show wpAny _ _ (call (Value.ref 222) _) _ _ _); refine' GivesT.val0 le_t (by k_asm) (by k_asm) (by k_asm) (by k_asm) (by k_asm) (by exact rfl) (by ktr_room) (by ktr_units) ?_; k_whole; intro _ _ _ _; (try dsimp only)) | ((with_reducible show wpAny _ _ (call (Value.ref 215) _) _ _ _); refine' GivesT.val0 lt_t (by k_asm) (by k_asm) (by k_asm) (by k_asm) (by k_asm) (by exact rfl) (by ktr_room) (by ktr_units) ?_; k_whole; intro _ _ _ _; (try dsimp only))) | walk1)) | (leave1; try dsimp only))
    rename_i q4 _h9 FF NN l4
    have en : [r.1 * 2 / 2, (r.1 * 2 + r.2.1 * 2 - r.1 * 2) / 2, r.2.2.1 * 2 / 2, 2 * (r.2.2.2 / 2)] = rowNums r := by
      unfold rowNums
      rw [show r.1 * 2 / 2 = r.1 from by omega, show (r.1 * 2 + r.2.1 * 2 - r.1 * 2) / 2 = r.2.1 from by omega, show r.2.2.1 * 2 / 2 = r.2.2.1 from by omega]
    obtain ⟨V4, N4, i4⟩ : ∃ V4, News g0 L0 _h9 ((q4, listOf (List.toArray V4) 0) :: ((rc, listOf vc.toArray c1) :: (R, listOf (rs ++ [Value.ref rc]).toArray cR) :: (D ++ news) ++ own)) ∧ IntsAre V4 (rowNums r) := ⟨_, NN, by rw [← en]; exact .cons _ _ (.cons _ _ (.cons _ _ (.cons _ _ .nil)))⟩
    have hV4 : V4.length = 4 := i4.length
    have hq4 : ∀ p ∈ (rc, listOf vc.toArray c1) :: (R, listOf (rs ++ [Value.ref rc]).toArray cR) :: (D ++ news) ++ own, p.1 < q4 := l4
    clear NN l4
    obtain ⟨BB, hBB⟩ : ∃ z, z = (q4, listOf (List.toArray V4) 0) :: (news ++ own) := ⟨_, rfl⟩
    have hB4 : (q4, listOf (List.toArray V4) 0) ∈ BB := by rw [hBB]; exact .head _
    have hBn : ∀ p ∈ news, p ∈ BB := fun p hp => by rw [hBB]; exact .tail _ (List.mem_append_left _ hp)
    have hBo : ∀ p ∈ own, p ∈ BB := fun p hp => by rw [hBB]; exact .tail _ (List.mem_append_right _ hp)
    have NB : News g0 L0 _h9 ((rc, listOf vc.toArray c1) :: (R, listOf (rs ++ [Value.ref rc]).toArray cR) :: (D ++ BB)) := fun q hq => N4 q (by
      rcases List.mem_cons.mp hq with rfl | hq
      · exact .tail _ (.head _)
      · rcases List.mem_cons.mp hq with rfl | hq
        · exact .tail _ (.tail _ (.head _))
        · rcases List.mem_append.mp hq with hq | hq
          · exact .tail _ (.tail _ (.tail _ (List.mem_append_left _ (List.mem_append_left _ hq))))
          · rw [hBB] at hq
            rcases List.mem_cons.mp hq with rfl | hq
            · exact .head _
            · rcases List.mem_append.mp hq with hq | hq
              · exact .tail _ (.tail _ (.tail _ (List.mem_append_left _ (List.mem_append_right _ hq))))
              · exact .tail _ (.tail _ (.tail _ (List.mem_append_right _ hq))))
    have R0 : ReadAt R BB σ ((rc, listOf vc.toArray c1) :: (R, listOf (rs ++ [Value.ref rc]).toArray cR) :: (D ++ BB)) := by
      refine ⟨D, rs, rc, vc, c1, cR, rfl, hvc, hL.out, a1, ?_, ?_, ?_⟩
      · intro p hp
        rcases List.mem_append.mp hp with hp | hp
        · exact a2 p (List.mem_append_left _ hp)
        · rw [hBB] at hp
          rcases List.mem_cons.mp hp with rfl | hp
          · exact Nat.ne_of_gt (hq4 _ (.head _))
          · rcases List.mem_append.mp hp with hp | hp
            · exact a2 p (List.mem_append_right _ hp)
            · exact hoff p hp rc (.head _)
      · intro p hp
        rcases List.mem_append.mp hp with hp | hp
        · exact a3 p (List.mem_append_left _ hp)
        · rw [hBB] at hp
          rcases List.mem_cons.mp hp with rfl | hp
          · exact Nat.ne_of_gt (hq4 _ (.tail _ (.head _)))
          · rcases List.mem_append.mp hp with hp | hp
            · exact a3 p (List.mem_append_right _ hp)
            · exact hoff p hp R (.tail _ (.head _))
      · intro p hp q hq
        rw [hBB] at hq
        rcases List.mem_cons.mp hq with rfl | hq
        · exact Nat.ne_of_gt (hq4 _ (.tail _ (.tail _ (List.mem_append_left _ (List.mem_append_left _ hp)))))
        · rcases List.mem_append.mp hq with hq | hq
          · exact a4 p hp q hq
          · exact hoff q hq p.1 (.tail _ (.tail _ (List.mem_map.mpr ⟨p, List.mem_append_left _ hp, rfl⟩)))
    have hoffn : ∀ p ∈ own, ∀ q ∈ news, p.1 ≠ q.1 := fun p hp q hq => hoff p hp q.1 (.tail _ (.tail _ (List.mem_map.mpr ⟨q, List.mem_append_right _ hq, rfl⟩)))
    clear hBB N4 hq4 hoff a2 a3 a4 hL F3 N3
    refine' kdl_iter (fun j m nx => ∃ σ', m (Str.ofString "rings") = some (.ref R) ∧ ReadAt R BB σ' nx ∧ ((rowNums r).drop j).foldl readStep σ' = (rowNums r).foldl readStep σ ∧ rowsSize σ' ≤ 4 * i + j) ?hh ?hl ?F ?N ?hj ?turn ?done
    case hh => exact rfl
    case F => exact FF
    case N => exact NB
    case hl => exact .tail _ (.tail _ (List.mem_append_right _ hB4))
    case hj => exact ⟨σ, rfl, R0, rfl, hs⟩
    case done =>
      clear R0 FF NB hvc
      rintro m₂ nx h tk ⟨σ', e2, ⟨D', rs', rc', vc', c2, cR', rfl, hvc', hL', b1, b2, b3, b4⟩, hf', hs'⟩ F₁ N₁
      rw [hV4] at hf' hs'
      have hf' : σ' = (rowNums r).foldl readStep σ := hf'
      have hf2 := hf.out
      rw [show readFrom σ (r :: rows.drop (i + 1)) = readFrom ((rowNums r).foldl readStep σ) (rows.drop (i + 1)) from rfl, ← hf'] at hf2
      have hL' := PySem.Flt.Hid.mk hL'
      have hf2 := PySem.Flt.Hid.mk hf2
      repeat' (first | (k_unfold; (try dsimp only); (try (clear ek)); (try (clear qk))) | ((fail_if_success (fail_if_success (with_reducible show wpAny _ _ (execs (_ :: _) _) _ _ _))); k_fold) | (k_end; wrow_close) | ((fail_if_success (fail_if_success (with_reducible show wpAny _ _ (subscriptTail _ _ _ _) _ _ _))); k_here; ((with_reducible show wpAny _ _ (subscriptTail _ (PySem.Expr.UnaryOp _ _ _) (Value.ref _) (Value.int _ _)) _ _ _); (with_unfolding_all refine' kde_neg (by is_list) (by decide) (by decide) (by exact last_idx _ _) (by exact last_at _ _) ?_ (by with_unfolding_all rfl); k_whole))) | ((fail_if_success (fail_if_success (with_reducible show wpAny _ _ (call (Value.builtin _) _ _) _ _ _))); k_here; ((with_reducible show wpAny _ _ (call (Value.builtin _) ([Value.ref _] ++ [_])) _ _ _); (simp only [List.cons_append, List.nil_append]); walk1)) | ((fail_if_success (fail_if_success (with_reducible show wpAny _ _ (call (Value.ref _) _ _) _ _ _))); k_here; first | ((with_reducible show wpAny _ _ (call (Value.ref 243) _) _ _ _); refine' GivesT.some0 div64_t (by k_asm) (by k_asm) (by k_asm) (by k_asm) (by k_asm) (by exact rfl) (by ktr_room) (by ktr_units) ?_; k_whole; intro _ _ _ _ _; (try dsimp only)) | ((with_reducible show wpAny _ _ (call (Value.ref 243) _) _ _ _); refine' GivesT.some0 div2_t (by k_asm) (by k_asm) (by k_asm) (by k_asm) (by k_asm) (by exact rfl) (by ktr_room) (by ktr_units) ?_; k_whole; intro _ _ _ _ _; (try dsimp only)) | ((with_reducible show wpAny _ _ (call (Value.ref 250) _) _ _ _); refine' GivesT.some0 mul2_t (by k_asm) (by k_asm) (by k_asm) (by k_asm) (by k_asm) (by exact rfl) (by ktr_room) (by ktr_units) ?_; k_whole; intro _ _ _ _ _; (try dsimp only)) | ((with_reducible show wpAny _ _ (call (Value.ref 257) _) _ _ _); refine' GivesT.some0 sub_t (by k_asm) (by k_asm) (by k_asm) (by k_asm) (by k_asm) (by exact rfl) (by ktr_room) (by ktr_units) ?_; k_whole; intro _ _ _ _ _; (try dsimp only)) | ((with_reducible show wpAny _ _ (call (Value.ref 236) _) _ _ _); refine' GivesT.some0 add_t (by k_asm) (by k_asm) (by k_asm) (by k_asm) (by k_asm) (by exact rfl) (by ktr_room) (by ktr_units) ?_; k_whole; intro _ _ _ _ _; (try dsimp only)) | ((with_reducible show wpAny _ _ (call (Value.ref 229) _) _ _ _); refine' GivesT.val0 eq_t (by k_asm) (by k_asm) (by k_asm) (by k_asm) (by k_asm) (by exact rfl) (by ktr_room) (by ktr_units) ?_; k_whole; intro _ _ _ _; (try dsimp only)) | ((with_reducible show wpAny _ _ (call (Value.ref 222) _) _ _ _); refine' GivesT.val0 le_t (by k_asm) (by k_asm) (by k_asm) (by k_asm) (by k_asm) (by exact rfl) (by ktr_room) (by ktr_units) ?_; k_whole; intro _ _ _ _; (try dsimp only)) | ((with_reducible show wpAny _ _ (call (Value.ref 215) _) _ _ _); refine' GivesT.val0 lt_t (by k_asm) (by k_asm) (by k_asm) (by k_asm) (by k_asm) (by exact rfl) (by ktr_room) (by ktr_units) ?_; k_whole; intro _ _ _ _; (try dsimp only))) | walk1 | (dsimp only; (first | ((fail_if_success (fail_if_success (with_reducible show wpAny _ _ (subscriptTail _ _ _ _) _ _ _))); k_here; ((with_reducible show wpAny _ _ (subscriptTail _ (PySem.Expr.UnaryOp _ _ _) (Value.ref _) (Value.int _ _)) _ _ _); (with_unfolding_all refine' kde_neg (by is_list) (by decide) (by decide) (by exact last_idx _ _) (by exact last_at _ _) ?_ (by with_unfolding_all rfl); k_whole))) | ((fail_if_success (fail_if_success (with_reducible show wpAny _ _ (call (Value.builtin _) _ _) _ _ _))); k_here; ((with_reducible show wpAny _ _ (call (Value.builtin _) ([Value.ref _] ++ [_])) _ _ _); (simp only [List.cons_append, List.nil_append]); walk1)) | ((fail_if_success (fail_if_success (with_reducible show wpAny _ _ (call (Value.ref _) _ _) _ _ _))); k_here; first | ((with_reducible show wpAny _ _ (call (Value.ref 243) _) _ _ _); refine' GivesT.some0 div64_t (by k_asm) (by k_asm) (by k_asm) (by k_asm) (by k_asm) (by exact rfl) (by ktr_room) (by ktr_units) ?_; k_whole; intro _ _ _ _ _; (try dsimp only)) | ((with_reducible show wpAny _ _ (call (Value.ref 243) _) _ _ _); refine' GivesT.some0 div2_t (by k_asm) (by k_asm) (by k_asm) (by k_asm) (by k_asm) (by exact rfl) (by ktr_room) (by ktr_units) ?_; k_whole; intro _ _ _ _ _; (try dsimp only)) | ((with_reducible show wpAny _ _ (call (Value.ref 250) _) _ _ _); refine' GivesT.some0 mul2_t (by k_asm) (by k_asm) (by k_asm) (by k_asm) (by k_asm) (by exact rfl) (by ktr_room) (by ktr_units) ?_; k_whole; intro _ _ _ _ _; (try dsimp only)) | ((with_reducible show wpAny _ _ (call (Value.ref 257) _) _ _ _); refine' GivesT.some0 sub_t (by k_asm) (by k_asm) (by k_asm) (by k_asm) (by k_asm) (by exact rfl) (by ktr_room) (by ktr_units) ?_; k_whole; intro _ _ _ _ _; (try dsimp only)) | ((with_reducible show wpAny _ _ (call (Value.ref 236) _) _ _ _); refine' GivesT.some0 add_t (by k_asm) (by k_asm) (by k_asm) (by k_asm) (by k_asm) (by exact rfl) (by ktr_room) (by ktr_units) ?_; k_whole; intro _ _ _ _ _; (try dsimp only)) | ((with_reducible show wpAny _ _ (call (Value.ref 229) _) _ _ _); refine' GivesT.val0 eq_t (by k_asm) (by k_asm) (by k_asm) (by k_asm) (by k_asm) (by exact rfl) (by ktr_room) (by ktr_units) ?_; k_whole; intro _ _ _ _; (try dsimp only)) | ((with_reducible show wpAny _ _ (call (Value.ref 222) _) _ _ _); refine' GivesT.val0 le_t (by k_asm) (by k_asm) (by k_asm) (by k_asm) (by k_asm) (by exact rfl) (by ktr_room) (by ktr_units) ?_; k_whole; intro _ _ _ _; (try dsimp only)) | ((with_reducible show wpAny _ _ (call (Value.ref 215) _) _ _ _); refine' GivesT.val0 lt_t (by k_asm) (by k_asm) (by k_asm) (by k_asm) (by k_asm) (by exact rfl) (by ktr_room) (by ktr_units) ?_; k_whole; intro _ _ _ _; (try dsimp only))) | walk1)) | (leave1; (try dsimp only)) | fail "no step")
      refine InvEndG.intro (nx := (rc', listOf vc'.toArray c2) :: (R, listOf (rs' ++ [Value.ref rc']).toArray cR') :: (D' ++ news)) (by assumption) (by assumption) ⟨.tail _ (.tail _ (List.mem_append_right _ hm)), σ', e2, ⟨D', rs', rc', vc', c2, cR', rfl, hvc', hL'.out, b1, ?_, ?_, ?_⟩, hf2.out, by omega⟩ ?_ ?_ ?_
      · intro p hp
        exact b2 p ((List.mem_append.mp hp).elim (List.mem_append_left _) fun h => List.mem_append_right _ (hBn p h))
      · intro p hp
        exact b3 p ((List.mem_append.mp hp).elim (List.mem_append_left _) fun h => List.mem_append_right _ (hBn p h))
      · intro p hp q hq
        exact b4 p hp q (hBn q hq)
      · intro p hp b hb
        rcases List.mem_cons.mp hb with rfl | hb
        · exact b2 p (List.mem_append_right _ (hBo p hp))
        · rcases List.mem_cons.mp hb with rfl | hb
          · exact b3 p (List.mem_append_right _ (hBo p hp))
          · obtain ⟨q, hq, rfl⟩ := List.mem_map.mp hb
            rcases List.mem_append.mp hq with hq | hq
            · exact b4 q hq p (hBo p hp)
            · exact hoffn p hp q hq
      · intro q hq
        rcases List.mem_cons.mp hq with rfl | hq
        · exact .head _
        · rcases List.mem_cons.mp hq with rfl | hq
          · exact .tail _ (.head _)
          · exact .tail _ (.tail _ ((List.mem_append.mp hq).elim (List.mem_append_left _) fun h => List.mem_append_right _ (hBn q h)))
      · exact fun q hq => .tail _ (.tail _ (List.mem_append_right _ (hBo q hq)))
    case turn =>
      clear R0 FF NB hvc
      rintro j v m₂ nx h tk own2 hv2 hoff2 hmem2 ⟨σ', e2, ⟨D', rs', rc', vc', c2, cR', rfl, hvc', hL', b1, b2, b3, b4⟩, hf', hs'⟩ F₁ N₁
      obtain ⟨n, tn, rfl, hn⟩ := i4.at j v hv2
      have hj4 : j < 4 := by rw [← hV4]; exact (List.getElem?_eq_some_iff.mp hv2).1
      rw [drop_at hn] at hf'
      have hf' : ((rowNums r).drop (j + 1)).foldl readStep (readStep σ' n) = (rowNums r).foldl readStep σ := hf'
      have hf' := PySem.Flt.Hid.mk hf'
      have hz1 : vc'.length ≤ 1700 := by rw [hvc'.length]; unfold rowsSize at hs'; omega
      have hz2 : rs'.length ≤ 1700 := by rw [hL'.len]; unfold rowsSize at hs'; omega
      have hL' := PySem.Flt.Hid.mk hL'
      have hbb := PySem.Flt.Hid.mk (And.intro b2 (And.intro b3 b4))
      obtain ⟨TT, hTT⟩ : ∃ z, z = (D' ++ BB) ++ own2 := ⟨_, rfl⟩
      have g1 : ∀ p ∈ TT, p.1 ≠ rc' := by
        rw [hTT]; intro p hp
        exact (List.mem_append.mp hp).elim (b2 p) fun h => hoff2 p h rc' (.head _)
      have g2 : ∀ p ∈ TT, p.1 ≠ R := by
        rw [hTT]; intro p hp
        exact (List.mem_append.mp hp).elim (b3 p) fun h => hoff2 p h R (.tail _ (.head _))
      have N₂ : News g0 L0 h ((rc', listOf vc'.toArray c2) :: (R, listOf (rs' ++ [Value.ref rc']).toArray cR') :: TT) := by rw [hTT]; exact N₁
      have F₂ := fr_put2 (v := .int n tn) (u := .ref R) F₁ (if_pos rfl) (by show (if Str.ofString "rings" = Str.ofString "number" then _ else _) = _; rw [if_neg (by decide)]; exact e2)
      have b1' := neN b1
      have b1'' := neN (Ne.symm b1)
      have hTT := PySem.Flt.Hid.mk hTT
      have hs' := PySem.Flt.Hid.mk hs'
      have hoff2 := PySem.Flt.Hid.mk hoff2
      clear N₁ F₁ b1 b2 b3 b4 hmem2 hmem
      repeat' (first | (k_unfold; (try dsimp only); (try (clear ek)); (try (clear qk))) | ((fail_if_success (fail_if_success (with_reducible show wpAny _ _ (execs (_ :: _) _) _ _ _))); k_fold) | (k_end; wrow_close) | ((fail_if_success (fail_if_success (with_reducible show wpAny _ _ (subscriptTail _ _ _ _) _ _ _))); k_here; ((with_reducible show wpAny _ _ (subscriptTail _ (PySem.Expr.UnaryOp _ _ _) (Value.ref _) (Value.int _ _)) _ _ _); (with_unfolding_all refine' kde_neg (by is_list) (by decide) (by decide) (by exact last_idx _ _) (by exact last_at _ _) ?_ (by with_unfolding_all rfl); k_whole))) | ((fail_if_success (fail_if_success (with_reducible show wpAny _ _ (call (Value.builtin _) _ _) _ _ _))); k_here; ((with_reducible show wpAny _ _ (call (Value.builtin _) ([Value.ref _] ++ [_])) _ _ _); (simp only [List.cons_append, List.nil_append]); walk1)) | ((fail_if_success (fail_if_success (with_reducible show wpAny _ _ (call (Value.ref _) _ _) _ _ _))); k_here; first | ((with_reducible show wpAny _ _ (call (Value.ref 243) _) _ _ _); refine' GivesT.some0 div64_t (by k_asm) (by k_asm) (by k_asm) (by k_asm) (by k_asm) (by exact rfl) (by ktr_room) (by ktr_units) ?_; k_whole; intro _ _ _ _ _; (try dsimp only)) | ((with_reducible show wpAny _ _ (call (Value.ref 243) _) _ _ _); refine' GivesT.some0 div2_t (by k_asm) (by k_asm) (by k_asm) (by k_asm) (by k_asm) (by exact rfl) (by ktr_room) (by ktr_units) ?_; k_whole; intro _ _ _ _ _; (try dsimp only)) | ((with_reducible show wpAny _ _ (call (Value.ref 250) _) _ _ _); refine' GivesT.some0 mul2_t (by k_asm) (by k_asm) (by k_asm) (by k_asm) (by k_asm) (by exact rfl) (by ktr_room) (by ktr_units) ?_; k_whole; intro _ _ _ _ _; (try dsimp only)) | ((with_reducible show wpAny _ _ (call (Value.ref 257) _) _ _ _); refine' GivesT.some0 sub_t (by k_asm) (by k_asm) (by k_asm) (by k_asm) (by k_asm) (by exact rfl) (by ktr_room) (by ktr_units) ?_; k_whole; intro _ _ _ _ _; (try dsimp only)) | ((with_reducible show wpAny _ _ (call (Value.ref 236) _) _ _ _); refine' GivesT.some0 add_t (by k_asm) (by k_asm) (by k_asm) (by k_asm) (by k_asm) (by exact rfl) (by ktr_room) (by ktr_units) ?_; k_whole; intro _ _ _ _ _; (try dsimp only)) | ((with_reducible show wpAny _ _ (call (Value.ref 229) _) _ _ _); refine' GivesT.val0 eq_t (by k_asm) (by k_asm) (by k_asm) (by k_asm) (by k_asm) (by exact rfl) (by ktr_room) (by ktr_units) ?_; k_whole; intro _ _ _ _; (try dsimp only)) | ((with_reducible show wpAny _ _ (call (Value.ref 222) _) _ _ _); refine' GivesT.val0 le_t (by k_asm) (by k_asm) (by k_asm) (by k_asm) (by k_asm) (by exact rfl) (by ktr_room) (by ktr_units) ?_; k_whole; intro _ _ _ _; (try dsimp only)) | ((with_reducible show wpAny _ _ (call (Value.ref 215) _) _ _ _); refine' GivesT.val0 lt_t (by k_asm) (by k_asm) (by k_asm) (by k_asm) (by k_asm) (by exact rfl) (by ktr_room) (by ktr_units) ?_; k_whole; intro _ _ _ _; (try dsimp only))) | walk1 | (dsimp only; (first | ((fail_if_success (fail_if_success (with_reducible show wpAny _ _ (subscriptTail _ _ _ _) _ _ _))); k_here; ((with_reducible show wpAny _ _ (subscriptTail _ (PySem.Expr.UnaryOp _ _ _) (Value.ref _) (Value.int _ _)) _ _ _); (with_unfolding_all refine' kde_neg (by is_list) (by decide) (by decide) (by exact last_idx _ _) (by exact last_at _ _) ?_ (by with_unfolding_all rfl); k_whole))) | ((fail_if_success (fail_if_success (with_reducible show wpAny _ _ (call (Value.builtin _) _ _) _ _ _))); k_here; ((with_reducible show wpAny _ _ (call (Value.builtin _) ([Value.ref _] ++ [_])) _ _ _); (simp only [List.cons_append, List.nil_append]); walk1)) | ((fail_if_success (fail_if_success (with_reducible show wpAny _ _ (call (Value.ref _) _ _) _ _ _))); k_here; first | ((with_reducible show wpAny _ _ (call (Value.ref 243) _) _ _ _); refine' GivesT.some0 div64_t (by k_asm) (by k_asm) (by k_asm) (by k_asm) (by k_asm) (by exact rfl) (by ktr_room) (by ktr_units) ?_; k_whole; intro _ _ _ _ _; (try dsimp only)) | ((with_reducible show wpAny _ _ (call (Value.ref 243) _) _ _ _); refine' GivesT.some0 div2_t (by k_asm) (by k_asm) (by k_asm) (by k_asm) (by k_asm) (by exact rfl) (by ktr_room) (by ktr_units) ?_; k_whole; intro _ _ _ _ _; (try dsimp only)) | ((with_reducible show wpAny _ _ (call (Value.ref 250) _) _ _ _); refine' GivesT.some0 mul2_t (by k_asm) (by k_asm) (by k_asm) (by k_asm) (by k_asm) (by exact rfl) (by ktr_room) (by ktr_units) ?_; k_whole; intro _ _ _ _ _; (try dsimp only)) | ((with_reducible show wpAny _ _ (call (Value.ref 257) _) _ _ _); refine' GivesT.some0 sub_t (by k_asm) (by k_asm) (by k_asm) (by k_asm) (by k_asm) (by exact rfl) (by ktr_room) (by ktr_units) ?_; k_whole; intro _ _ _ _ _; (try dsimp only)) | ((with_reducible show wpAny _ _ (call (Value.ref 236) _) _ _ _); refine' GivesT.some0 add_t (by k_asm) (by k_asm) (by k_asm) (by k_asm) (by k_asm) (by exact rfl) (by ktr_room) (by ktr_units) ?_; k_whole; intro _ _ _ _ _; (try dsimp only)) | ((with_reducible show wpAny _ _ (call (Value.ref 229) _) _ _ _); refine' GivesT.val0 eq_t (by k_asm) (by k_asm) (by k_asm) (by k_asm) (by k_asm) (by exact rfl) (by ktr_room) (by ktr_units) ?_; k_whole; intro _ _ _ _; (try dsimp only)) | ((with_reducible show wpAny _ _ (call (Value.ref 222) _) _ _ _); refine' GivesT.val0 le_t (by k_asm) (by k_asm) (by k_asm) (by k_asm) (by k_asm) (by exact rfl) (by ktr_room) (by ktr_units) ?_; k_whole; intro _ _ _ _; (try dsimp only)) | ((with_reducible show wpAny _ _ (call (Value.ref 215) _) _ _ _); refine' GivesT.val0 lt_t (by k_asm) (by k_asm) (by k_asm) (by k_asm) (by k_asm) (by exact rfl) (by ktr_room) (by ktr_units) ?_; k_whole; intro _ _ _ _; (try dsimp only))) | walk1)) | (leave1; (try dsimp only)) | fail "no step")
      · rename_i h63 _y0 _y1 tk9 _y2 _y3 _y4 h10 _y5 rn _y6 lz _y7 FF NN
        rw [Int.fmod_eq_emod_of_nonneg _ (by omega)] at h10
        rw [List.push_toArray, List.push_toArray] at NN
        have hstep : readStep σ' n = (σ'.1 ++ [σ'.2 ++ [n / 64 - 1]], []) := by
          unfold readStep
          rw [if_pos h63, if_pos h10]
        have hsz := readStep_size σ' n
        have hs' := hs'.out
        obtain ⟨b2, b3, b4⟩ := hbb.out
        have hT := hTT.out
        have lT := allLt_out lz.2.2
        have hd : ∀ p ∈ D' ++ BB, p ∈ TT := fun p hp => by rw [hT]; exact List.mem_append_left _ hp
        have ho2 : ∀ p ∈ own2, p ∈ TT := fun p hp => by rw [hT]; exact List.mem_append_right _ hp
        refine InvEndG.intro (nx := (rn, listOf ([] : List Value).toArray 0) :: (R, listOf ((rs' ++ [Value.ref rc']) ++ [Value.ref rn]).toArray (cR' + 1)) :: ((D' ++ [(rc', listOf (vc' ++ [Value.int (n / 64 - 1) (tk9 + 1)]).toArray (c2 + 1))]) ++ BB)) FF NN ⟨.tail _ (.tail _ (List.mem_append_right _ hB4)), readStep σ' n, rfl, ⟨_, _, _, _, _, _, rfl, ?_, ?_, ?_, ?_, ?_, ?_⟩, hf'.out, by omega⟩ ?_ ?_ ?_
        · rw [hstep]; exact .nil
        · rw [hstep]
          exact .snoc (hL'.out.mono fun q hq => List.mem_append_left _ hq) (List.mem_append_right _ (.head _)) (hvc'.append (.cons _ _ .nil))
        · exact Nat.ne_of_gt lz.2.1
        · intro p hp
          rcases List.mem_append.mp hp with hp | hp
          · rcases List.mem_append.mp hp with hp | hp
            · exact Nat.ne_of_lt (lT p (hd p (List.mem_append_left _ hp)))
            · rw [List.mem_singleton.mp hp]; exact Nat.ne_of_lt lz.1
          · exact Nat.ne_of_lt (lT p (hd p (List.mem_append_right _ hp)))
        · intro p hp
          rcases List.mem_append.mp hp with hp | hp
          · rcases List.mem_append.mp hp with hp | hp
            · exact b3 p (List.mem_append_left _ hp)
            · rw [List.mem_singleton.mp hp]; exact b1'
          · exact b3 p (List.mem_append_right _ hp)
        · intro p hp q hq
          rcases List.mem_append.mp hp with hp | hp
          · exact b4 p hp q hq
          · rw [List.mem_singleton.mp hp]; exact b2 q (List.mem_append_right _ hq)
        · intro p hp b hb
          rcases List.mem_cons.mp hb with rfl | hb
          · exact Nat.ne_of_lt (lT p (ho2 p hp))
          · rcases List.mem_cons.mp hb with rfl | hb
            · exact g2 p (ho2 p hp)
            · obtain ⟨q, hq, rfl⟩ := List.mem_map.mp hb
              rcases List.mem_append.mp hq with hq | hq
              · rcases List.mem_append.mp hq with hq | hq
                · exact hoff2.out p hp _ (.tail _ (.tail _ (List.mem_map.mpr ⟨q, List.mem_append_left _ hq, rfl⟩)))
                · rw [List.mem_singleton.mp hq]; exact g1 p (ho2 p hp)
              · exact hoff2.out p hp _ (.tail _ (.tail _ (List.mem_map.mpr ⟨q, List.mem_append_right _ hq, rfl⟩)))
        · intro q hq
          rcases List.mem_cons.mp hq with rfl | hq
          · exact .head _
          · rcases List.mem_cons.mp hq with rfl | hq
            · exact .tail _ (.tail _ (.head _))
            · rcases List.mem_append.mp hq with hq | hq
              · rcases List.mem_append.mp hq with hq | hq
                · exact .tail _ (.tail _ (.tail _ (hd q (List.mem_append_left _ hq))))
                · rw [List.mem_singleton.mp hq]; exact .tail _ (.head _)
              · exact .tail _ (.tail _ (.tail _ (hd q (List.mem_append_right _ hq))))
        · exact fun q hq => .tail _ (.tail _ (.tail _ (ho2 q hq)))
      · rename_i h63 _y0 _y1 tk9 _y2 _y3 FF NN _y4 h10
        rw [Int.fmod_eq_emod_of_nonneg _ (by omega)] at h10
        rw [List.push_toArray] at NN
        have hstep : readStep σ' n = (σ'.1, σ'.2 ++ [n / 64 - 1]) := by
          unfold readStep
          rw [if_pos h63, if_neg h10]
        have hsz := readStep_size σ' n
        have hs' := hs'.out
        obtain ⟨b2, b3, b4⟩ := hbb.out
        have hT := hTT.out
        refine InvEndG.intro (nx := (rc', listOf (vc' ++ [Value.int (n / 64 - 1) (tk9 + 1)]).toArray (c2 + 1)) :: (R, listOf (rs' ++ [Value.ref rc']).toArray cR') :: (D' ++ BB)) FF NN ⟨.tail _ (.tail _ (List.mem_append_right _ hB4)), readStep σ' n, rfl, ⟨_, _, _, _, _, _, rfl, ?_, ?_, b1', b2, b3, b4⟩, hf'.out, by omega⟩ hoff2.out ?_ ?_
        · rw [hstep]; exact hvc'.append (.cons _ _ .nil)
        · rw [hstep]; exact hL'.out
        · intro q hq
          rw [hT]
          rcases List.mem_cons.mp hq with rfl | hq
          · exact .head _
          · rcases List.mem_cons.mp hq with rfl | hq
            · exact .tail _ (.head _)
            · exact .tail _ (.tail _ (List.mem_append_left _ hq))
        · intro q hq
          rw [hT]
          exact .tail _ (.tail _ (List.mem_append_right _ hq))
      · rename (¬ 63 < n) => h63
        rename News _ _ _ _ => NN
        rename Fr _ _ _ _ => FF
        have hstep : readStep σ' n = σ' := by
          unfold readStep
          rw [if_neg h63]
        have hsz := readStep_size σ' n
        have hs' := hs'.out
        obtain ⟨b2, b3, b4⟩ := hbb.out
        have hT := hTT.out
        refine InvEndG.intro (nx := (rc', listOf vc'.toArray c2) :: (R, listOf (rs' ++ [Value.ref rc']).toArray cR') :: (D' ++ BB)) FF NN ⟨.tail _ (.tail _ (List.mem_append_right _ hB4)), readStep σ' n, rfl, ⟨_, _, _, _, _, _, rfl, ?_, ?_, b1', b2, b3, b4⟩, hf'.out, by omega⟩ hoff2.out ?_ ?_
        · rw [hstep]; exact hvc'
        · rw [hstep]; exact hL'.out
        · intro q hq
          rw [hT]
          rcases List.mem_cons.mp hq with rfl | hq
          · exact .head _
          · rcases List.mem_cons.mp hq with rfl | hq
            · exact .tail _ (.head _)
            · exact .tail _ (.tail _ (List.mem_append_left _ hq))
        · intro q hq
          rw [hT]
          exact .tail _ (.tail _ (List.mem_append_right _ hq))
end
section
/-- texts, told by their codes -/
inductive StrsAre : List Value → List (List Int) → Prop
  | nil : StrsAre [] []
  | cons {x : Str} {t : Tok} {vs : List Value} {cs : List (List Int)} : x.length ≤ 6 → StrsAre vs cs → StrsAre (Value.str x t :: vs) (codes x :: cs)
theorem StrsAre.len {vs : List Value} {cs : List (List Int)} (h : StrsAre vs cs) : vs.length = cs.length := by
  induction h with
  | nil => rfl
  | cons _ _ ih => rw [List.length_cons, List.length_cons, ih]
theorem StrsAre.at {vs : List Value} {cs : List (List Int)} (h : StrsAre vs cs) : ∀ (i : Nat) (v : Value), vs[i]? = some v → ∃ x t, v = .str x t ∧ x.length ≤ 6 ∧ cs[i]? = some (codes x) := by
  induction h with
  | nil => intro i v hv; cases hv
  | @cons x t vs cs hl _ ih =>
    intro i v hv
    cases i with
    | zero => cases hv; exact ⟨x, t, rfl, hl, rfl⟩
    | succ i => exact ih i v hv
noncomputable def tailC (c : List Int) : List Int := if c = [] then [] else 58 :: 32 :: c
theorem tailC_len (c : List Int) : (tailC c).length ≤ c.length + 2 := by
  unfold tailC
  split
  · exact Nat.zero_le _
  · simp only [List.length_cons]; omega
noncomputable def RestIs (v : Value) (c : List Int) : Prop := (v = .none ∧ c = []) ∨ ∃ x t, v = .str x t ∧ codes x = c
/-- words put ahead of a rest, the last one first -/
noncomputable def ahead (ws : List (List Int)) (c : List Int) : List Int := ws.foldl (fun r w => w ++ tailC r) c
noncomputable def lineOf (w : List Int) (ws : List (List Int)) (c : List Int) : List Int := w ++ tailC (ahead ws.reverse c) ++ [10]
theorem fmt_any (w : World) (p : Program) (loose : List Str) (mean : ExcName → Option Value) (mg mb : Str → Option Value) (x : Str) (tx : Tok) (hx : x.length ≤ 100) (v : Value) (c : List Int) (hv : RestIs v c) (hc : c.length ≤ 400) (news : List (Addr × Obj)) :
    Gives w p loose mean mg mb 29 8 80 news [.str x tx, v] (fun r nx => (∃ z t, r = .str z t ∧ codes z = codes x ++ tailC c ++ [10]) ∧ nx = news) := by
  rcases hv with ⟨rfl, rfl⟩ | ⟨y, t, rfl, rfl⟩
  · intro dp un gd cn cs ad ccd cl outer A₀ base h₀ L m s Q E B F X N T hk hd hu hret
    refine fmt_none w p loose mean mg mb x tx hx news dp un gd cn cs ad ccd cl outer A₀ base h₀ L m s Q E B F X N T hk hd hu fun r nx h' tk' F' N' e => hret r nx h' tk' F' N' ?_
    obtain ⟨⟨z, t, e1, e2⟩, e3⟩ := e
    exact ⟨⟨z, t, e1, by rw [e2, tailC, if_pos rfl, List.append_nil]⟩, e3⟩
  · intro dp un gd cn cs ad ccd cl outer A₀ base h₀ L m s Q E B F X N T hk hd hu hret
    exact fmt_str w p loose mean mg mb x y tx t hx (by rw [← codes_len]; exact hc) news dp un gd cn cs ad ccd cl outer A₀ base h₀ L m s Q E B F X N T hk hd hu hret
theorem fmt_any_k (w : World) (p : Program) (loose : List Str) (mean : ExcName → Option Value) (mg mb : Str → Option Value) (x : Str) (tx : Tok) (hx : x.length ≤ 100) (v : Value) (c : List Int) (hv : RestIs v c) (hc : c.length ≤ 400) (news : List (Addr × Obj)) :
    GivesK w p loose mean mg mb 29 8 80 news [.str x tx, v] [(Str.ofString "insert_final_newline", .bool false)] (fun r nx => (∃ z t, r = .str z t ∧ codes z = codes x ++ tailC c) ∧ nx = news) := by
  rcases hv with ⟨rfl, rfl⟩ | ⟨y, t, rfl, rfl⟩
  · intro dp un gd cn cs ad ccd cl outer A₀ base h₀ L m s Q E B F X N T hk hd hu hret
    refine fmt_none_k w p loose mean mg mb x tx hx news dp un gd cn cs ad ccd cl outer A₀ base h₀ L m s Q E B F X N T hk hd hu fun r nx h' tk' F' N' e => hret r nx h' tk' F' N' ?_
    obtain ⟨⟨z, t, e1, e2⟩, e3⟩ := e
    exact ⟨⟨z, t, e1, by rw [e2, tailC, if_pos rfl, List.append_nil]⟩, e3⟩
  · intro dp un gd cn cs ad ccd cl outer A₀ base h₀ L m s Q E B F X N T hk hd hu hret
    exact fmt_str_k w p loose mean mg mb x y tx t hx (by rw [← codes_len]; exact hc) news dp un gd cn cs ad ccd cl outer A₀ base h₀ L m s Q E B F X N T hk hd hu hret
section
variable {w : World} {p : Program} {loose : List Str} {mean : ExcName → Option Value} {mg mb : Str → Option Value} {news : List (Addr × Obj)}
  {dp un : Nat} {gd : Option (List Code)} {cn : Str} {cs : Scope} {a : Addr} {ccd : Value} {cl : List (Str × Addr)} {outer : List Env} {A₀ : Around} {base h₀ : Heap} {L : Addr} {m : Str → Option Value} {s : Shared} {Q E : Value → Shared → Prop}
theorem fmt_any_use {x : Str} {tx : Tok} {v : Value} {c : List Int} (hx : x.length ≤ 100) (hv : RestIs v c) (hc : c.length ≤ 400)
    (B : Below A₀ base outer h₀) (F : Fr h₀ L s.heap m) (X : (Mine.hd.heap_39 w.params).In h₀) (N : News h₀ L s.heap news) (T : Top p loose mean mg mb h₀) (hk : cs.kind = .function) (hd : dp + 8 < recursionLimit) (hu : un + 80 < cLine)
    (ret : ∀ h' tk', Fr h₀ L h' m → ∀ z t, codes z = codes x ++ tailC c ++ [10] → News h₀ L h' news → Q (.str z t) { s with heap := h', toks := tk' }) :
    wpAny (model PR w) (ktrTop dp un gd cn cs L a ccd cl outer) (call (.ref 29) [.str x tx, v]) Q E s :=
  fmt_any w p loose mean mg mb x tx hx v c hv hc news dp un gd cn cs a ccd cl outer A₀ base h₀ L m s Q E B F X N T hk hd hu (by
    rintro _ _ h' tk' F' N' ⟨⟨z, t, rfl, e⟩, rfl⟩
    exact ret h' tk' F' z t e N')
theorem fmt_any_k_use {x : Str} {tx : Tok} {v : Value} {c : List Int} (hx : x.length ≤ 100) (hv : RestIs v c) (hc : c.length ≤ 400)
    (B : Below A₀ base outer h₀) (F : Fr h₀ L s.heap m) (X : (Mine.hd.heap_39 w.params).In h₀) (N : News h₀ L s.heap news) (T : Top p loose mean mg mb h₀) (hk : cs.kind = .function) (hd : dp + 8 < recursionLimit) (hu : un + 80 < cLine)
    (ret : ∀ h' tk', Fr h₀ L h' m → ∀ z t, codes z = codes x ++ tailC c → News h₀ L h' news → Q (.str z t) { s with heap := h', toks := tk' }) :
    wpAny (model PR w) (ktrTop dp un gd cn cs L a ccd cl outer) (call (.ref 29) [.str x tx, v] [(Str.ofString "insert_final_newline", .bool false)]) Q E s :=
  fmt_any_k w p loose mean mg mb x tx hx v c hv hc news dp un gd cn cs a ccd cl outer A₀ base h₀ L m s Q E B F X N T hk hd hu (by
    rintro _ _ h' tk' F' N' ⟨⟨z, t, rfl, e⟩, rfl⟩
    exact ret h' tk' F' z t e N')
end
theorem pick1 (x : Value) (vs : List Value) : kms_pick (x :: vs) (some 1) none = vs := pick_from (l := x :: vs) (n := 1) (by simp)
theorem StrsAre.rev_at {vs : List Value} {cs : List (List Int)} (h : StrsAre vs cs) (i : Nat) (v : Value) (hv : vs.reverse[i]? = some v) : ∃ x t, v = .str x t ∧ x.length ≤ 6 ∧ cs.reverse[i]? = some (codes x) := by
  have hi : i < vs.length := by
    have := (List.getElem?_eq_some_iff.mp hv).1
    rwa [List.length_reverse] at this
  rw [List.getElem?_reverse hi] at hv
  obtain ⟨x, t, a, b, e⟩ := h.at _ v hv
  exact ⟨x, t, a, b, by rw [List.getElem?_reverse (by rw [← h.len]; exact hi), ← h.len]; exact e⟩
theorem line_spec (w : World) (p : Program) (loose : List Str) (mean : ExcName → Option Value) (mg mb : Str → Option Value) (l : Addr) (c0 : Nat) (x0 : Str) (t0 : Tok) (vs : List Value) (cws : List (List Int)) (hx0 : x0.length ≤ 6) (hvs : StrsAre vs cws) (hl20 : vs.length ≤ 20) (v : Value) (c : List Int) (hv : RestIs v c) (hc : c = []) (news : List (Addr × Obj)) (hm : (l, listOf (Value.str x0 t0 :: vs).toArray c0) ∈ news) :
    Gives w p loose mean mg mb 327 12 120 news [.ref l, v] (fun r nx => (∃ z t, r = .str z t ∧ codes z = lineOf (codes x0) cws c) ∧ nx = news) := by
  w_on
  intro dp un gd cn cs a ccd cl outer A₀ base h₀ L m s Q E B F X N T hk hd hu hret
  refine wpAny_call ?_
  k_dflt cell_enter
  repeat' (first | (k_unfold; (try dsimp only)) | ((fail_if_success (with_reducible show wpAny _ _ (exec (Stmt.For _ _ _ _ _) _) _ _ _)); (fail_if_success (with_reducible show wpAny _ _ (execs (Stmt.For _ _ _ _ _ :: _) _) _ _ _)); (fail_if_success (with_reducible show wpAny _ _ (execs (_ :: Stmt.For _ _ _ _ _ :: _) _) _ _ _)); (first | ((fail_if_success (fail_if_success (with_reducible show wpAny _ _ (call (Value.ref _) _ _) _ _ _))); k_here; first | ((with_reducible show wpAny _ _ (call (Value.ref 29) [Value.str _ _, _] []) _ _ _); refine' fmt_any_use (by omega) (by assumption) (by assumption) (by k_asm) (by k_asm) (by k_asm) (by k_asm) (by k_asm) (by exact rfl) (by ktr_room) (by ktr_units) ?_; k_whole; intro _ _ _ _ _ _ _; (try dsimp only)) | ((with_reducible show wpAny _ _ (call (Value.ref 29) [Value.str _ _, _] (List.zip _ _)) _ _ _); (show wpAny _ _ (call (Value.ref 29) [Value.str _ _, _] [(Str.ofString "insert_final_newline", Value.bool false)]) _ _ _); refine' fmt_any_k_use (by omega) (by assumption) (by assumption) (by k_asm) (by k_asm) (by k_asm) (by k_asm) (by k_asm) (by exact rfl) (by ktr_room) (by ktr_units) ?_; k_whole; intro _ _ _ _ _ _ _; (try dsimp only))) | ((fail_if_success (fail_if_success (with_reducible show wpAny _ _ (subscriptTail _ _ _ _) _ _ _))); k_here; first | ((with_reducible show wpAny _ _ (subscriptTail (PySem.Expr.Subscript _ _ _) (PySem.Expr.Slice _ _ _ _) (Value.ref _) (Value.ref _)) _ _ _); k_dflt (refine' krv_lit (by k_asm) (by k_asm) (by exact News.isList (by k_asm) (.head _)) (by kmk_part) (by exact rfl) ?_ (by with_unfolding_all rfl) (by kmk_pure) (by (rw [List.size_toArray, sizeLine_eq]; omega))); intro _ _ _ _ zl1; (try k_lt zl1); (try (revert zl1; intro _))) | ((with_reducible show wpAny _ _ (subscriptTail _ _ (Value.ref _) (Value.int 0 _)) _ _ _); (with_unfolding_all refine' item_litK (v := Value.str _ _) (by exact News.isList (by k_asm) (by assumption)) (by decide) (by decide) (by exact rfl) ?_ (by with_unfolding_all rfl); k_whole)) | ((with_reducible show wpAny _ _ (subscriptTail (PySem.Expr.Name _ _) (PySem.Expr.Slice _ _ _ _) (Value.ref _) (Value.ref _)) _ _ _); k_dflt (refine' kms_slice_lit (by k_asm) (by k_asm) (by exact News.isList (by k_asm) (by assumption)) (by kmk_part) (by kmk_part) (by exact pick1 _ _) ?_ (by with_unfolding_all rfl) (by kmk_pure) (by (rw [List.size_toArray, sizeLine_eq, List.length_cons]; omega))); intro _ _ _ _ zl1; (try k_lt zl1); (try (revert zl1; intro _)))) | walk1)) | (leave1; try dsimp only))
  refine wpAny_execs_cons ?_
  rename Fr _ _ _ _ => lF'
  (with_unfolding_all refine' For_invVF lF' ?k1 ?k2 ?_; (case k1 => exact rfl); (case k2 => exact rfl); k_whole)
  repeat' (first | (k_unfold; (try dsimp only)) | ((fail_if_success (with_reducible show wpAny _ _ (pyIter _) _ _ _)); (first | ((fail_if_success (fail_if_success (with_reducible show wpAny _ _ (call (Value.ref _) _ _) _ _ _))); k_here; first | ((with_reducible show wpAny _ _ (call (Value.ref 29) [Value.str _ _, _] []) _ _ _); refine' fmt_any_use (by omega) (by assumption) (by assumption) (by k_asm) (by k_asm) (by k_asm) (by k_asm) (by k_asm) (by exact rfl) (by ktr_room) (by ktr_units) ?_; k_whole; intro _ _ _ _ _ _ _; (try dsimp only)) | ((with_reducible show wpAny _ _ (call (Value.ref 29) [Value.str _ _, _] (List.zip _ _)) _ _ _); (show wpAny _ _ (call (Value.ref 29) [Value.str _ _, _] [(Str.ofString "insert_final_newline", Value.bool false)]) _ _ _); refine' fmt_any_k_use (by omega) (by assumption) (by assumption) (by k_asm) (by k_asm) (by k_asm) (by k_asm) (by k_asm) (by exact rfl) (by ktr_room) (by ktr_units) ?_; k_whole; intro _ _ _ _ _ _ _; (try dsimp only))) | ((fail_if_success (fail_if_success (with_reducible show wpAny _ _ (subscriptTail _ _ _ _) _ _ _))); k_here; first | ((with_reducible show wpAny _ _ (subscriptTail (PySem.Expr.Subscript _ _ _) (PySem.Expr.Slice _ _ _ _) (Value.ref _) (Value.ref _)) _ _ _); k_dflt (refine' krv_lit (by k_asm) (by k_asm) (by exact News.isList (by k_asm) (.head _)) (by kmk_part) (by exact rfl) ?_ (by with_unfolding_all rfl) (by kmk_pure) (by (rw [List.size_toArray, sizeLine_eq]; omega))); intro _ _ _ _ zl1; (try k_lt zl1); (try (revert zl1; intro _))) | ((with_reducible show wpAny _ _ (subscriptTail _ _ (Value.ref _) (Value.int 0 _)) _ _ _); (with_unfolding_all refine' item_litK (v := Value.str _ _) (by exact News.isList (by k_asm) (by assumption)) (by decide) (by decide) (by exact rfl) ?_ (by with_unfolding_all rfl); k_whole)) | ((with_reducible show wpAny _ _ (subscriptTail (PySem.Expr.Name _ _) (PySem.Expr.Slice _ _ _ _) (Value.ref _) (Value.ref _)) _ _ _); k_dflt (refine' kms_slice_lit (by k_asm) (by k_asm) (by exact News.isList (by k_asm) (by assumption)) (by kmk_part) (by kmk_part) (by exact pick1 _ _) ?_ (by with_unfolding_all rfl) (by kmk_pure) (by (rw [List.size_toArray, sizeLine_eq, List.length_cons]; omega))); intro _ _ _ _ zl1; (try k_lt zl1); (try (revert zl1; intro _)))) | walk1)) | (leave1; try dsimp only))
  rename_i g0 L0 _h0 FG0 _N0 B0 X0 T0 D1 _h1 _F1 _N1 l1 _h2 FF NN
  rw [krv_pick] at NN
  obtain ⟨D2, hD2⟩ : ∃ z, z = _h1.objs.size + 1 := ⟨_, rfl⟩
  rw [← hD2] at NN ⊢
  have N2 : News g0 L0 _h2 ((D2, listOf vs.reverse.toArray 0) :: news) := fun q hq => NN q ((List.mem_cons.mp hq).elim (fun h => h ▸ .head _) fun h => .tail _ (.tail _ h))
  clear NN _F1 _N1 hD2
  refine' kdl_iter (fun i m nx => ∃ v' c', m (Str.ofString "rest") = some v' ∧ m (Str.ofString "words") = some (.ref l) ∧ RestIs v' c' ∧ c' = ahead (cws.reverse.take i) c ∧ c'.length ≤ 8 * i ∧ nx = (D2, listOf vs.reverse.toArray 0) :: news) ?hh ?hl ?F ?N ?hj ?turn ?done
  case hh => exact rfl
  case F => exact FF
  case N => exact N2
  case hl => exact .head _
  case hj => exact ⟨v, c, rfl, rfl, hv, rfl, by rw [hc]; exact Nat.le_refl _, rfl⟩
  case done =>
    rintro m₁ nx h tk ⟨v', c', e1, e2, hr, hcc, hlc, rfl⟩ F₁ N₁
    have F₂ := fr_put2 F₁ e1 e2
    have hfull : cws.reverse.take vs.reverse.length = cws.reverse := List.take_of_length_le (by rw [List.length_reverse, List.length_reverse, hvs.len]; exact Nat.le_refl _)
    rw [hfull] at hcc
    have hc4 : c'.length ≤ 400 := by rw [List.length_reverse] at hlc; omega
    have hm2 : (l, listOf (Value.str x0 t0 :: vs).toArray c0) ∈ (D2, listOf vs.reverse.toArray 0) :: news := .tail _ hm
    clear F₁ FF N2 hfull
    repeat' (first | (k_unfold; (try dsimp only); (try (clear ek)); (try (clear qk))) | ((fail_if_success (fail_if_success (with_reducible show wpAny _ _ (execs (_ :: _) _) _ _ _))); k_fold) | (k_end; wrow_close) | ((fail_if_success (fail_if_success (with_reducible show wpAny _ _ (call (Value.ref _) _ _) _ _ _))); k_here; first | ((with_reducible show wpAny _ _ (call (Value.ref 29) [Value.str _ _, _] []) _ _ _); refine' fmt_any_use (by omega) (by assumption) (by assumption) (by k_asm) (by k_asm) (by k_asm) (by k_asm) (by k_asm) (by exact rfl) (by ktr_room) (by ktr_units) ?_; k_whole; intro _ _ _ _ _ _ _; (try dsimp only)) | ((with_reducible show wpAny _ _ (call (Value.ref 29) [Value.str _ _, _] (List.zip _ _)) _ _ _); (show wpAny _ _ (call (Value.ref 29) [Value.str _ _, _] [(Str.ofString "insert_final_newline", Value.bool false)]) _ _ _); refine' fmt_any_k_use (by omega) (by assumption) (by assumption) (by k_asm) (by k_asm) (by k_asm) (by k_asm) (by k_asm) (by exact rfl) (by ktr_room) (by ktr_units) ?_; k_whole; intro _ _ _ _ _ _ _; (try dsimp only))) | ((fail_if_success (fail_if_success (with_reducible show wpAny _ _ (subscriptTail _ _ _ _) _ _ _))); k_here; first | ((with_reducible show wpAny _ _ (subscriptTail (PySem.Expr.Subscript _ _ _) (PySem.Expr.Slice _ _ _ _) (Value.ref _) (Value.ref _)) _ _ _); k_dflt (refine' krv_lit (by k_asm) (by k_asm) (by exact News.isList (by k_asm) (.head _)) (by kmk_part) (by exact rfl) ?_ (by with_unfolding_all rfl) (by kmk_pure) (by (rw [List.size_toArray, sizeLine_eq]; omega))); intro _ _ _ _ zl1; (try k_lt zl1); (try (revert zl1; intro _))) | ((with_reducible show wpAny _ _ (subscriptTail _ _ (Value.ref _) (Value.int 0 _)) _ _ _); (with_unfolding_all refine' item_litK (v := Value.str _ _) (by exact News.isList (by k_asm) (by assumption)) (by decide) (by decide) (by exact rfl) ?_ (by with_unfolding_all rfl); k_whole)) | ((with_reducible show wpAny _ _ (subscriptTail (PySem.Expr.Name _ _) (PySem.Expr.Slice _ _ _ _) (Value.ref _) (Value.ref _)) _ _ _); k_dflt (refine' kms_slice_lit (by k_asm) (by k_asm) (by exact News.isList (by k_asm) (by assumption)) (by kmk_part) (by kmk_part) (by exact pick1 _ _) ?_ (by with_unfolding_all rfl) (by kmk_pure) (by (rw [List.size_toArray, sizeLine_eq, List.length_cons]; omega))); intro _ _ _ _ zl1; (try k_lt zl1); (try (revert zl1; intro _)))) | walk1 | (dsimp only; (first | ((fail_if_success (fail_if_success (with_reducible show wpAny _ _ (call (Value.ref _) _ _) _ _ _))); k_here; first | ((with_reducible show wpAny _ _ (call (Value.ref 29) [Value.str _ _, _] []) _ _ _); refine' fmt_any_use (by omega) (by assumption) (by assumption) (by k_asm) (by k_asm) (by k_asm) (by k_asm) (by k_asm) (by exact rfl) (by ktr_room) (by ktr_units) ?_; k_whole; intro _ _ _ _ _ _ _; (try dsimp only)) | ((with_reducible show wpAny _ _ (call (Value.ref 29) [Value.str _ _, _] (List.zip _ _)) _ _ _); (show wpAny _ _ (call (Value.ref 29) [Value.str _ _, _] [(Str.ofString "insert_final_newline", Value.bool false)]) _ _ _); refine' fmt_any_k_use (by omega) (by assumption) (by assumption) (by k_asm) (by k_asm) (by k_asm) (by k_asm) (by k_asm) (by exact rfl) (by ktr_room) (by ktr_units) ?_; k_whole; intro _ _ _ _ _ _ _; (try dsimp only))) | ((fail_if_success (fail_if_success (with_reducible show wpAny _ _ (subscriptTail _ _ _ _) _ _ _))); k_here; first | ((with_reducible show wpAny _ _ (subscriptTail (PySem.Expr.Subscript _ _ _) (PySem.Expr.Slice _ _ _ _) (Value.ref _) (Value.ref _)) _ _ _); k_dflt (refine' krv_lit (by k_asm) (by k_asm) (by exact News.isList (by k_asm) (.head _)) (by kmk_part) (by exact rfl) ?_ (by with_unfolding_all rfl) (by kmk_pure) (by (rw [List.size_toArray, sizeLine_eq]; omega))); intro _ _ _ _ zl1; (try k_lt zl1); (try (revert zl1; intro _))) | ((with_reducible show wpAny _ _ (subscriptTail _ _ (Value.ref _) (Value.int 0 _)) _ _ _); (with_unfolding_all refine' item_litK (v := Value.str _ _) (by exact News.isList (by k_asm) (by assumption)) (by decide) (by decide) (by exact rfl) ?_ (by with_unfolding_all rfl); k_whole)) | ((with_reducible show wpAny _ _ (subscriptTail (PySem.Expr.Name _ _) (PySem.Expr.Slice _ _ _ _) (Value.ref _) (Value.ref _)) _ _ _); k_dflt (refine' kms_slice_lit (by k_asm) (by k_asm) (by exact News.isList (by k_asm) (by assumption)) (by kmk_part) (by kmk_part) (by exact pick1 _ _) ?_ (by with_unfolding_all rfl) (by kmk_pure) (by (rw [List.size_toArray, sizeLine_eq, List.length_cons]; omega))); intro _ _ _ _ zl1; (try k_lt zl1); (try (revert zl1; intro _)))) | walk1)) | (leave1; (try dsimp only)) | fail "no step")
    rename_i h9 tk9 F9 z9 t9 e94 N9 kF kN Tc kX
    refine hret _ _ _ _ kF (fun q hq => kN q (.tail _ hq)) ⟨⟨z9, _, rfl, ?_⟩, rfl⟩
    rw [e94, hcc]
    rfl
  case turn =>
    rintro i u m₁ nx h tk own hu' hoff hmem ⟨v', c', e1, e2, hr, hcc, hlc, rfl⟩ F₁ N₁
    obtain ⟨x, t, rfl, hx6, hxi⟩ := hvs.rev_at i u hu'
    have hi20 : i < 20 := by
      have := (List.getElem?_eq_some_iff.mp hu').1
      rw [List.length_reverse] at this
      omega
    have hc4 : c'.length ≤ 400 := by omega
    have hne : ∀ z : Str, Str.ofString "word" ≠ z → (fun y => if y = Str.ofString "word" then some (Value.str x t) else m₁ y) z = m₁ z := fun z hz => if_neg (Ne.symm hz)
    have F₂ := fr_put3 F₁ (if_pos rfl : (fun y => if y = Str.ofString "word" then some (Value.str x t) else m₁ y) (Str.ofString "word") = _) ((hne _ (by decide)).trans e1) ((hne _ (by decide)).trans e2)
    clear F₁ FF N2 hne
    repeat' (first | (k_unfold; (try dsimp only); (try (clear ek)); (try (clear qk))) | ((fail_if_success (fail_if_success (with_reducible show wpAny _ _ (execs (_ :: _) _) _ _ _))); k_fold) | (k_end; wrow_close) | ((fail_if_success (fail_if_success (with_reducible show wpAny _ _ (call (Value.ref _) _ _) _ _ _))); k_here; first | ((with_reducible show wpAny _ _ (call (Value.ref 29) [Value.str _ _, _] []) _ _ _); refine' fmt_any_use (by omega) (by assumption) (by assumption) (by k_asm) (by k_asm) (by k_asm) (by k_asm) (by k_asm) (by exact rfl) (by ktr_room) (by ktr_units) ?_; k_whole; intro _ _ _ _ _ _ _; (try dsimp only)) | ((with_reducible show wpAny _ _ (call (Value.ref 29) [Value.str _ _, _] (List.zip _ _)) _ _ _); (show wpAny _ _ (call (Value.ref 29) [Value.str _ _, _] [(Str.ofString "insert_final_newline", Value.bool false)]) _ _ _); refine' fmt_any_k_use (by omega) (by assumption) (by assumption) (by k_asm) (by k_asm) (by k_asm) (by k_asm) (by k_asm) (by exact rfl) (by ktr_room) (by ktr_units) ?_; k_whole; intro _ _ _ _ _ _ _; (try dsimp only))) | ((fail_if_success (fail_if_success (with_reducible show wpAny _ _ (subscriptTail _ _ _ _) _ _ _))); k_here; first | ((with_reducible show wpAny _ _ (subscriptTail (PySem.Expr.Subscript _ _ _) (PySem.Expr.Slice _ _ _ _) (Value.ref _) (Value.ref _)) _ _ _); k_dflt (refine' krv_lit (by k_asm) (by k_asm) (by exact News.isList (by k_asm) (.head _)) (by kmk_part) (by exact rfl) ?_ (by with_unfolding_all rfl) (by kmk_pure) (by (rw [List.size_toArray, sizeLine_eq]; omega))); intro _ _ _ _ zl1; (try k_lt zl1); (try (revert zl1; intro _))) | ((with_reducible show wpAny _ _ (subscriptTail _ _ (Value.ref _) (Value.int 0 _)) _ _ _); (with_unfolding_all refine' item_litK (v := Value.str _ _) (by exact News.isList (by k_asm) (by assumption)) (by decide) (by decide) (by exact rfl) ?_ (by with_unfolding_all rfl); k_whole)) | ((with_reducible show wpAny _ _ (subscriptTail (PySem.Expr.Name _ _) (PySem.Expr.Slice _ _ _ _) (Value.ref _) (Value.ref _)) _ _ _); k_dflt (refine' kms_slice_lit (by k_asm) (by k_asm) (by exact News.isList (by k_asm) (by assumption)) (by kmk_part) (by kmk_part) (by exact pick1 _ _) ?_ (by with_unfolding_all rfl) (by kmk_pure) (by (rw [List.size_toArray, sizeLine_eq, List.length_cons]; omega))); intro _ _ _ _ zl1; (try k_lt zl1); (try (revert zl1; intro _)))) | walk1 | (dsimp only; (first | ((fail_if_success (fail_if_success (with_reducible show wpAny _ _ (call (Value.ref _) _ _) _ _ _))); k_here; first | ((with_reducible show wpAny _ _ (call (Value.ref 29) [Value.str _ _, _] []) _ _ _); refine' fmt_any_use (by omega) (by assumption) (by assumption) (by k_asm) (by k_asm) (by k_asm) (by k_asm) (by k_asm) (by exact rfl) (by ktr_room) (by ktr_units) ?_; k_whole; intro _ _ _ _ _ _ _; (try dsimp only)) | ((with_reducible show wpAny _ _ (call (Value.ref 29) [Value.str _ _, _] (List.zip _ _)) _ _ _); (show wpAny _ _ (call (Value.ref 29) [Value.str _ _, _] [(Str.ofString "insert_final_newline", Value.bool false)]) _ _ _); refine' fmt_any_k_use (by omega) (by assumption) (by assumption) (by k_asm) (by k_asm) (by k_asm) (by k_asm) (by k_asm) (by exact rfl) (by ktr_room) (by ktr_units) ?_; k_whole; intro _ _ _ _ _ _ _; (try dsimp only))) | ((fail_if_success (fail_if_success (with_reducible show wpAny _ _ (subscriptTail _ _ _ _) _ _ _))); k_here; first | ((with_reducible show wpAny _ _ (subscriptTail (PySem.Expr.Subscript _ _ _) (PySem.Expr.Slice _ _ _ _) (Value.ref _) (Value.ref _)) _ _ _); k_dflt (refine' krv_lit (by k_asm) (by k_asm) (by exact News.isList (by k_asm) (.head _)) (by kmk_part) (by exact rfl) ?_ (by with_unfolding_all rfl) (by kmk_pure) (by (rw [List.size_toArray, sizeLine_eq]; omega))); intro _ _ _ _ zl1; (try k_lt zl1); (try (revert zl1; intro _))) | ((with_reducible show wpAny _ _ (subscriptTail _ _ (Value.ref _) (Value.int 0 _)) _ _ _); (with_unfolding_all refine' item_litK (v := Value.str _ _) (by exact News.isList (by k_asm) (by assumption)) (by decide) (by decide) (by exact rfl) ?_ (by with_unfolding_all rfl); k_whole)) | ((with_reducible show wpAny _ _ (subscriptTail (PySem.Expr.Name _ _) (PySem.Expr.Slice _ _ _ _) (Value.ref _) (Value.ref _)) _ _ _); k_dflt (refine' kms_slice_lit (by k_asm) (by k_asm) (by exact News.isList (by k_asm) (by assumption)) (by kmk_part) (by kmk_part) (by exact pick1 _ _) ?_ (by with_unfolding_all rfl) (by kmk_pure) (by (rw [List.size_toArray, sizeLine_eq, List.length_cons]; omega))); intro _ _ _ _ zl1; (try k_lt zl1); (try (revert zl1; intro _)))) | walk1)) | (leave1; (try dsimp only)) | fail "no step")
    rename_i h9 tk9 z9 t9 e94 h' F' N'
    refine InvEndG.intro (nx := (D2, listOf vs.reverse.toArray 0) :: news) F' N' ⟨.head _, Value.str z9 t9, codes z9, rfl, rfl, .inr ⟨z9, t9, rfl, rfl⟩, ?_, ?_, rfl⟩ hoff (fun q hq => List.mem_append_left _ hq) (fun q hq => List.mem_append_right _ hq)
    · rw [e94, hcc, List.take_add_one, hxi]
      unfold ahead
      rw [List.foldl_append]
      rfl
    · rw [e94, List.length_append, codes_len]
      have := tailC_len c'
      omega
end
section
theorem contains_spec (w : World) (p : Program) (loose : List Str) (mean : ExcName → Option Value) (mg mb : Str → Option Value) (l : Addr) (c0 : Nat) (vs : List Value) (ns : List Int) (hi : IntsAre vs ns) (hz : ns.length ≤ 400) (n : Int) (tn : Tok) (news : List (Addr × Obj)) :
    Gives w p loose mean mg mb 271 2 20 ((l, listOf vs.toArray c0) :: news) [.ref l, .int n tn] (fun r nx => r = .bool (ns.any fun x => x == n) ∧ nx = (l, listOf vs.toArray c0) :: news) := by
  w_on
  intro dp un gd cn cs a ccd cl outer A₀ base h₀ L m s Q E B F X N T hk hd hu hret
  refine wpAny_call ?_
  k_dflt cell_enter
  k_steps
  exact hret _ _ _ _ (by assumption) (by assumption) ⟨rfl, rfl⟩
end
section
section
variable {prog : Program} {w : World} {A : Around} {E : Value → Shared → Prop} {s : Shared} {env : Env} {h₀ : Heap} {target : Expr} {body orelse : List Stmt} {Q : Flow → Shared → Prop}
/-- a loop that never comes to its end, so that the else clause is never reached -/
theorem ktu_loopE {R : Result → Shared → Prop} {I : Addr} {fp wr : List Addr} {n : Nat} {P Md : Nat → Value → Heap → Prop} {St : Nat → Heap → Prop} {m : Str → Option Value} {news : List (Addr × Obj)} (W : KTurns prog w A target I fp wr n P Md St)
    (hLf : env.locals ∉ fp) (hwr : ∀ b ∈ wr, h₀.get? b = none) (hnw : ∀ p ∈ news, p.1 ∉ wr) (hst : St 0 s.heap) (F : Fr h₀ env.locals s.heap m) (N : News h₀ env.locals s.heap news)
    (J : Nat → (Str → Option Value) → List (Addr × Obj) → Prop) (h0 : J 0 m news)
    (step : ∀ i v m₁ news₁ h₁ tk₁ own, i < n → P i v h₁ → J i m₁ news₁ → (∀ p ∈ news₁, p.1 ∉ wr) → (∀ p ∈ own, p.1 ∈ fp) → (∀ p ∈ own, h₁.get? p.1 = some p.2) → (∀ b ∈ fp, h₀.get? b = none → ∀ o, h₁.get? b = some o → (b, o) ∈ own) → St (i + 1) h₁ →
      Fr h₀ env.locals h₁ m₁ → News h₀ env.locals h₁ (own ++ news₁) →
      wpAny (model prog w) A (assign target env v) (fun _ s₂ => wpAny (model prog w) A (execs body env)
        (LoopStepV h₀ env.locals wr own (J (i + 1)) { s with heap := h₁, toks := tk₁ } (fun v s' => R (.ok (.ret v)) s') fun _ => False) (notedBy (model prog w) A env fun e s' => R (.error e) s') s₂) (notedBy (model prog w) A env fun e s' => R (.error e) s') { s with heap := h₁, toks := tk₁ })
    (hR : ∀ h' tk m' news', Fr h₀ env.locals h' m' → News h₀ env.locals h' news' → (∀ p ∈ news', p.1 ∉ wr) → J n m' news' → (fun (_ : Heap) (_ : Nat) => False) h' tk) :
    codeAny (model prog w) A (.forLoop target (.ref I) body orelse env) R s := by
  have hLw : env.locals ∉ wr := fun h => hLf (W.sub _ h)
  have old : ∀ b o, h₀.get? b = some o → b ∉ wr := fun b o e hb => by rw [hwr b hb] at e; cases e
  refine codeAny_forLoop_any
    (fun k s' => ∃ h' tk m' news' i, s' = { s with heap := h', toks := tk } ∧ St i h' ∧ Fr h₀ env.locals h' m' ∧ News h₀ env.locals h' news' ∧ (∀ p ∈ news', p.1 ∉ wr) ∧ J i m' news' ∧ i ≤ n ∧ k = n + 1 - i) ?_ (n + 1)
    ⟨s.heap, s.toks, m, news, 0, rfl, hst, F, N, hnw, h0, Nat.zero_le _, rfl⟩
  rintro k s' ⟨h', tk, m', news', i, rfl, hst', F', N', hnw', hJ, hi, rfl⟩
  have next : ∀ h₁ : Heap, (∀ b o, b ∉ wr → h'.get? b = some o → h₁.get? b = some o) → Fr h₀ env.locals h₁ m' ∧ News h₀ env.locals h₁ news' := fun h₁ hk₁ =>
    ⟨⟨F'.ns.at' fun o e => hk₁ _ o hLw e, fun b o e => hk₁ b o (old b o e) (F'.keep b o e), F'.above⟩, fun p hp => ⟨hk₁ _ _ (hnw' p hp) (N' p hp).1, (N' p hp).2⟩⟩
  have hlt : i < n := by
    rcases Nat.lt_or_ge i n with h | h
    · exact h
    · have hin : i = n := by omega
      subst hin
      exact (hR h' tk m' news' F' N' hnw' hJ).elim
  refine W.item i _ _ _ hlt hst' fun v h₁ tk₁ hMd hk₁ => ?_
  refine W.go i v _ _ _ hMd fun h₂ hP hst₂ hk₂ => ?_
  obtain ⟨F₂, N₂⟩ := next h₂ fun b o hb x => hk₂ b o hb (hk₁ b o hb x)
  have Nown : News h₀ env.locals h₂ (PyProof.Rows.ownOf h₀ fp h₂) := news_ownOf hLf
  refine wpAny_mono (step i v m' news' h₂ tk₁ (PyProof.Rows.ownOf h₀ fp h₂) hlt hP hJ hnw' ownOf_sub (fun p hp => (Nown p hp).1) (fun b hb hn o e => mem_ownOf hb hn e) hst₂ F₂ (Nown.append N₂)) (fun _ s₂ h₂' => wpAny_mono h₂' (fun f s₃ h₃ => ?_) fun _ _ e => e) fun _ _ e => e
  have fin : ∀ {s₃ : Shared}, (∃ h' tk m₂ news₂, s₃ = { s with heap := h', toks := tk } ∧ Fr h₀ env.locals h' m₂ ∧ News h₀ env.locals h' (PyProof.Rows.ownOf h₀ fp h₂ ++ news₂) ∧ (∀ p ∈ news₂, p.1 ∉ wr) ∧ J (i + 1) m₂ news₂) →
      ∃ m, m < n + 1 - i ∧ ∃ h' tk m' news' i, s₃ = { s with heap := h', toks := tk } ∧ St i h' ∧ Fr h₀ env.locals h' m' ∧ News h₀ env.locals h' news' ∧ (∀ p ∈ news', p.1 ∉ wr) ∧ J i m' news' ∧ i ≤ n ∧ m = n + 1 - i := by
    rintro s₃ ⟨h₃', tk₃, m₂, news₂, rfl, F₃, N₃, ha₃, hJ₃⟩
    refine ⟨n + 1 - (i + 1), by omega, h₃', tk₃, m₂, news₂, i + 1, rfl, ?_, F₃, N₃.right, ha₃, hJ₃, hlt, rfl⟩
    refine W.frame _ _ _ hst₂ fun b hb o e => ?_
    cases hn : h₀.get? b with
    | some o₀ =>
      have : o₀ = o := by have q := F₂.keep b o₀ hn; rw [e] at q; exact (Option.some.inj q).symm
      exact this ▸ F₃.keep b o₀ hn
    | none => exact (N₃ _ (List.mem_append_left _ (mem_ownOf hb hn e))).1
  cases f with
  | ret v => exact h₃
  | brk => exact (show False from h₃).elim
  | cont => exact fin h₃.2
  | next => exact fin h₃.2
theorem For_turnsE {iter : Expr} {pos : Pos}
    (h : wpAny (model prog w) A (eval iter env) (fun xv s₁ => wpAny (model prog w) A (pyIter xv) (fun it s₂ => TurnsAt prog w A h₀ env target body (fun f s' => match f with | .ret v => Q (.ret v) s' | _ => False) E it s₂) E s₁) E s)
    (hs : ∀ x, foldedSetIterable iter env x = pure x := by intro _; rfl)
    (hE : PassesOwn (model prog w) A env E := by passes_own) :
    wpAny (model prog w) A (exec (.For target iter body orelse pos) env) Q E s := by
  refine wpAny_For (wpAny_mono h (fun xv s₁ h₁ => wpAny_mono h₁ (fun it s₂ h₂ => ?_) fun _ _ e => e) fun _ _ e => e) hs
  obtain ⟨I, fp, wr, n, P, Md, St, m, news, J, rfl, W, hLf, hwr, hnw, hst, F, N, h0, step, hQ⟩ := h₂
  exact ktu_loopE (R := fun r s' => match r with | .ok f => Q f s' | .error e => cameBackBy (model prog w) A env E e s') W hLf hwr hnw hst F N J h0
    (fun i v m₁ news₁ h₁ tk₁ own a b c d e f g st F₁ N₁ => wpAny_mono (step i v m₁ news₁ h₁ tk₁ own a b c d e f g st F₁ N₁) (fun _ _ x => wpAny_passesOwn hE x) hE) hQ
end
end
section
/-- tokens never fall: one may take it for granted at the end of any tree -/
theorem any_toks {α : Type} {M : Model} {A : Around} {t : Sem α} {Q : α → Shared → Prop} {E : Value → Shared → Prop} {s : Shared}
    (h : wpAny M A t (fun a s' => s.toks ≤ s'.toks → Q a s') (fun e s' => s.toks ≤ s'.toks → E e s') s) : wpAny M A t Q E s :=
  wpAny_mono (wpAny_toks_of (Nat.le_refl s.toks) h) (fun _ _ q => q.2 q.1) fun _ _ q => q.2 q.1
end
section
section
variable {prog : Program} {w : World} {A : Around} {E : Value → Shared → Prop} {s : Shared} {env : Env} {h₀ : Heap} {target : Expr} {body : List Stmt} {Q : Flow → Shared → Prop}
noncomputable def InvEndT (h₀ : Heap) (L : Addr) (J : Nat → (Str → Option Value) → List (Addr × Obj) → Prop) (own : List (Addr × Obj)) (s₁ s₂ : Shared) : Prop :=
  ∃ h' tk m' news' nx, s₂ = { s₁ with heap := h', toks := tk } ∧ Fr h₀ L h' m' ∧ News h₀ L h' news' ∧ (∀ p ∈ nx, p ∈ news') ∧ (∀ p ∈ own, p ∈ news') ∧ OwnOff own (nx.map (·.1)) ∧ J tk m' nx
/-- for over a ledger list; what is kept may speak of the tokens -/
theorem for_listT {iter : Expr} {pos : Pos} {l : Addr} {vs : List Value} {nn : Nat} (J : Nat → Nat → (Str → Option Value) → List (Addr × Obj) → Prop)
    (hh : A.handled = none)
    (h : wpAny (model prog w) A (eval iter env) (fun xv s₁ => PySem.Flt.Hid (xv = .ref l ∧ ∃ m₀ news, (l, listOf vs.toArray nn) ∈ news ∧ Fr h₀ env.locals s₁.heap m₀ ∧ News h₀ env.locals s₁.heap news ∧ J 0 s₁.toks m₀ news ∧ s₁ = { s with heap := s₁.heap, toks := s₁.toks })) E s)
    (turn : ∀ i v m₁ news₁ h tk own, vs[i]? = some v → OwnOff own (news₁.map (·.1)) → (l, listOf vs.toArray nn) ∈ news₁ → J i tk m₁ news₁ → Fr h₀ env.locals h m₁ → News h₀ env.locals h (news₁ ++ own) →
      wpAny (model prog w) A (assign target env v) (fun _ s₃ => wpAny (model prog w) A (execs body env) (fun f s₄ => match f with
        | .ret v => Q (.ret v) s₄
        | .brk => Q .next s₄
        | _ => InvEndT h₀ env.locals (fun tk m' nx => (l, listOf vs.toArray nn) ∈ nx ∧ J (i + 1) tk m' nx) own { s with heap := h, toks := tk } s₄) E s₃) E { s with heap := h, toks := tk })
    (done : ∀ m₁ news₁ h tk, J vs.length tk m₁ news₁ → Fr h₀ env.locals h m₁ → News h₀ env.locals h news₁ → Q .next { s with heap := h, toks := tk })
    (hs : ∀ x, foldedSetIterable iter env x = pure x := by intro _; rfl)
    (hE : PassesOwn (model prog w) A env E := by passes_own) :
    wpAny (model prog w) A (exec (.For target iter body [] pos) env) Q E s := by
  refine wpAny_For (wpAny_mono h (fun xv s₁ h₁ => ?_) fun _ _ e => e) hs
  obtain ⟨rfl, m₀, news, hl, F, N, hj, hs₁⟩ := h₁.out
  have hol : s₁.heap.get? l = some (listOf vs.toArray nn) := (N _ hl).1
  refine wpAny_pyIter_list ⟨_, hol, rfl, nn, rfl⟩ ?_
  have hne : l ≠ s₁.heap.objs.size := Nat.ne_of_lt (Heap.lt_size hol)
  obtain ⟨I, hI⟩ : ∃ I, I = s₁.heap.objs.size := ⟨_, rfl⟩
  rw [← hI] at hne ⊢
  have hI0 : h₀.get? I = none := by rw [hI]; exact next_is_new F
  have hIL : I ≠ env.locals := by rw [hI]; exact Nat.ne_of_gt F.ns.lt
  refine codeAny_forLoop_any (R := fun r s' => match r with | .ok f => Q f s' | .error e => cameBackBy (model prog w) A env E e s')
    (fun k s' => ∃ h' tk m' nx i, s' = { s with heap := h', toks := tk } ∧ h'.IsListIter I l i ∧ Fr h₀ env.locals h' m' ∧ News h₀ env.locals h' nx ∧ (l, listOf vs.toArray nn) ∈ nx ∧ (∀ p ∈ nx, p.1 ≠ I) ∧ J i tk m' nx ∧ i ≤ vs.length ∧ k = vs.length + 1 - i) ?_ (vs.length + 1)
    ⟨_, s₁.toks, m₀, news, 0, by rw [hs₁], ⟨_, by rw [hI]; exact Heap.get?_push_size _ rfl, rfl, rfl⟩, F.push _, fun p hp => ⟨Heap.get?_push_of_some _ (N p hp).1, (N p hp).2⟩, hl, fun p hp => by rw [hI]; exact Nat.ne_of_lt (Heap.lt_size (N p hp).1), hj, Nat.zero_le _, rfl⟩
  rintro k s' ⟨h', tk, m', nx, i, rfl, hit, F', N', hl', hnI, hJ, hi, rfl⟩
  have hls : h'.IsList l vs.toArray := ⟨_, (N' _ hl').1, rfl, nn, rfl⟩
  have next : ∀ h₁ : Heap, Heap.ExtBut I h' h₁ → Fr h₀ env.locals h₁ m' ∧ News h₀ env.locals h₁ nx := fun h₁ hk =>
    ⟨⟨F'.ns.at' fun o e => hk _ o (Ne.symm hIL) e, fun b o e => hk b o (fun hb => by rw [hb, hI0] at e; cases e) (F'.keep b o e), F'.above⟩, fun p hp => ⟨hk _ _ (hnI p hp) (N' p hp).1, (N' p hp).2⟩⟩
  cases hv : vs[i]? with
  | none =>
    have hsz : i = vs.length := Nat.le_antisymm hi (by simpa using hv)
    refine wpAny_pyNext_list_end hh hit hls (by simpa using hv) fun h₁ he => wpAny_execs_nil ?_
    obtain ⟨F₁, N₁⟩ := next h₁ he
    exact done m' nx h₁ tk (hsz ▸ hJ) F₁ N₁
  | some v =>
    have hlt : i < vs.length := (List.getElem?_eq_some_iff.mp hv).1
    refine wpAny_pyNext_list_item hit hls (by simpa using hv) fun h₁ hit₁ hs₁' => ?_
    refine letGo_listiter hit₁ ?_
    obtain ⟨F₁, N₁⟩ := next h₁ hs₁'.extBut
    obtain ⟨oI, hoI, hic, hid⟩ := id hit₁
    have Nall : News h₀ env.locals h₁ (nx ++ [(I, oI)]) := fun p hp => by
      rcases List.mem_append.mp hp with hp | hp
      · exact N₁ p hp
      · rw [List.mem_singleton.mp hp]; exact ⟨hoI, hIL, hI0⟩
    refine wpAny_mono (turn i v m' nx h₁ tk [(I, oI)] hv (fun p hp b hb e => ?_) hl' hJ F₁ Nall) (fun _ s₃ y => wpAny_mono (wpAny_passesOwn hE y) (fun f s₄ z => ?_) fun _ _ x => x) hE
    · obtain ⟨q, hq, rfl⟩ := List.mem_map.mp hb
      rw [List.mem_singleton.mp hp] at e
      exact hnI q hq e.symm
    have fin : InvEndT h₀ env.locals (fun tk m' nx => (l, listOf vs.toArray nn) ∈ nx ∧ J (i + 1) tk m' nx) [(I, oI)] { s with heap := h₁, toks := tk } s₄ → ∃ m, m < vs.length + 1 - i ∧ ∃ h' tk m' nx i, s₄ = { s with heap := h', toks := tk } ∧ h'.IsListIter I l i ∧ Fr h₀ env.locals h' m' ∧ News h₀ env.locals h' nx ∧ (l, listOf vs.toArray nn) ∈ nx ∧ (∀ p ∈ nx, p.1 ≠ I) ∧ J i tk m' nx ∧ i ≤ vs.length ∧ m = vs.length + 1 - i := by
      rintro ⟨h₂, tk₂, m₂, all, nx₂, rfl, F₂, N₂, hn, ho, hoff, hl₂, hJ₂⟩
      exact ⟨vs.length + 1 - (i + 1), by omega, h₂, tk₂, m₂, nx₂, i + 1, rfl, ⟨oI, (N₂ _ (ho _ (.head _))).1, hic, hid⟩, F₂, fun p hp => N₂ p (hn p hp), hl₂, fun p hp e => hoff (I, oI) (.head _) p.1 (List.mem_map.mpr ⟨p, hp, rfl⟩) e.symm, hJ₂, hlt, rfl⟩
    cases f with
    | ret v => exact z
    | brk => exact z
    | cont => exact fin z
    | next => exact fin z
end
end
section
theorem next_t (w : World) (p : Program) (loose : List Str) (mean : ExcName → Option Value) (mg mb : Str → Option Value) (e : Addr) (c : Nat) (refs : List Value) (tl : List (Addr × Obj)) (rows : List (Int × Int × Int × Int)) (place : Int) (tp : Tok) (he : EntsAre tl refs rows)
   (news : List (Addr × Obj)) (hm : (e, listOf refs.toArray c) ∈ news) (ht : ∀ p ∈ tl, p ∈ news) :
    GivesT w p loose mean mg mb 306 6 60 news [.ref e, .int place tp] (fun r nx k0 _ => (∃ t, r = .int (nextOf rows place) t ∧ k0 ≤ t) ∧ nx = news) := by
  w_on
  intro dp un gd cn cs a ccd cl outer A₀ base h₀ L m s Q E B F X N T hk hd hu hret
  have hTB : TokBase s.toks := True.intro
  refine wpAny_call ?_
  k_dflt cell_enter
  repeat' (first | (k_unfold; (try dsimp only)) | ((fail_if_success (with_reducible show wpAny _ _ (exec (Stmt.For _ _ _ _ _) _) _ _ _)); (fail_if_success (with_reducible show wpAny _ _ (execs _ _) _ _ _)); (first | ((fail_if_success (fail_if_success (with_reducible show wpAny _ _ (execs _ _) _ _ _))); k_here; ((refine' gen_tok (by assumption) (by first | omega | ((try dsimp only at *); omega)) ?_); intro _ _)) | ((fail_if_success (fail_if_success (with_reducible show wpAny _ _ (call (Value.ref _) _ _) _ _ _))); k_here; first | ((with_reducible show wpAny _ _ (call (Value.ref 250) _) _ _ _); refine' GivesT.some mul2_t (by k_asm) (by k_asm) (by k_asm) (by k_asm) (by k_asm) (by exact rfl) (by ktr_room) (by ktr_units) ?_; k_whole; intro _ _ _ _ _ _ _; (try dsimp only)) | ((with_reducible show wpAny _ _ (call (Value.ref 257) _) _ _ _); refine' GivesT.some sub_t (by k_asm) (by k_asm) (by k_asm) (by k_asm) (by k_asm) (by exact rfl) (by ktr_room) (by ktr_units) ?_; k_whole; intro _ _ _ _ _ _ _; (try dsimp only)) | ((with_reducible show wpAny _ _ (call (Value.ref 236) _) _ _ _); refine' GivesT.some add_t (by k_asm) (by k_asm) (by k_asm) (by k_asm) (by k_asm) (by exact rfl) (by ktr_room) (by ktr_units) ?_; k_whole; intro _ _ _ _ _ _ _; (try dsimp only)) | ((with_reducible show wpAny _ _ (call (Value.ref 229) _) _ _ _); refine' GivesT.val eq_t (by k_asm) (by k_asm) (by k_asm) (by k_asm) (by k_asm) (by exact rfl) (by ktr_room) (by ktr_units) ?_; k_whole; intro _ _ _ _ _; (try dsimp only)) | ((with_reducible show wpAny _ _ (call (Value.ref 222) _) _ _ _); refine' GivesT.val le_t (by k_asm) (by k_asm) (by k_asm) (by k_asm) (by k_asm) (by exact rfl) (by ktr_room) (by ktr_units) ?_; k_whole; intro _ _ _ _ _; (try dsimp only)) | ((with_reducible show wpAny _ _ (call (Value.ref 215) _) _ _ _); refine' GivesT.val lt_t (by k_asm) (by k_asm) (by k_asm) (by k_asm) (by k_asm) (by exact rfl) (by ktr_room) (by ktr_units) ?_; k_whole; intro _ _ _ _ _; (try dsimp only))) | walk1)) | (leave1; try dsimp only))
  rename_i g0 L0 _h0 FG0 FF NN B0 X0 T0
  refine wpAny_execs_cons ?_
  refine for_listT (h₀ := g0) (l := e) (vs := refs) (nn := c) (fun i tk m nx => s.toks ≤ tk ∧ m (Str.ofString "place") = some (.int place tp) ∧ nx = news ∧ nextOf (rows.drop i) place = nextOf rows place) rfl ?hev ?turn ?done
  case hev =>
    repeat' (first | (k_unfold; (try dsimp only)) | (first | ((fail_if_success (fail_if_success (with_reducible show wpAny _ _ (execs _ _) _ _ _))); k_here; ((refine' gen_tok (by assumption) (by first | omega | ((try dsimp only at *); omega)) ?_); intro _ _)) | ((fail_if_success (fail_if_success (with_reducible show wpAny _ _ (call (Value.ref _) _ _) _ _ _))); k_here; first | ((with_reducible show wpAny _ _ (call (Value.ref 250) _) _ _ _); refine' GivesT.some mul2_t (by k_asm) (by k_asm) (by k_asm) (by k_asm) (by k_asm) (by exact rfl) (by ktr_room) (by ktr_units) ?_; k_whole; intro _ _ _ _ _ _ _; (try dsimp only)) | ((with_reducible show wpAny _ _ (call (Value.ref 257) _) _ _ _); refine' GivesT.some sub_t (by k_asm) (by k_asm) (by k_asm) (by k_asm) (by k_asm) (by exact rfl) (by ktr_room) (by ktr_units) ?_; k_whole; intro _ _ _ _ _ _ _; (try dsimp only)) | ((with_reducible show wpAny _ _ (call (Value.ref 236) _) _ _ _); refine' GivesT.some add_t (by k_asm) (by k_asm) (by k_asm) (by k_asm) (by k_asm) (by exact rfl) (by ktr_room) (by ktr_units) ?_; k_whole; intro _ _ _ _ _ _ _; (try dsimp only)) | ((with_reducible show wpAny _ _ (call (Value.ref 229) _) _ _ _); refine' GivesT.val eq_t (by k_asm) (by k_asm) (by k_asm) (by k_asm) (by k_asm) (by exact rfl) (by ktr_room) (by ktr_units) ?_; k_whole; intro _ _ _ _ _; (try dsimp only)) | ((with_reducible show wpAny _ _ (call (Value.ref 222) _) _ _ _); refine' GivesT.val le_t (by k_asm) (by k_asm) (by k_asm) (by k_asm) (by k_asm) (by exact rfl) (by ktr_room) (by ktr_units) ?_; k_whole; intro _ _ _ _ _; (try dsimp only)) | ((with_reducible show wpAny _ _ (call (Value.ref 215) _) _ _ _); refine' GivesT.val lt_t (by k_asm) (by k_asm) (by k_asm) (by k_asm) (by k_asm) (by exact rfl) (by ktr_room) (by ktr_units) ?_; k_whole; intro _ _ _ _ _; (try dsimp only))) | walk1) | (leave1; try dsimp only))
    exact .mk ⟨rfl, _, _, hm, FF, NN, ⟨by (try dsimp only at *); omega, rfl, rfl, rfl⟩, rfl⟩
  case done =>
    rintro m₁ nx h tk ⟨le0, e1, rfl, hn⟩ F₁ N₁
    have F₂ := fr_put1 F₁ e1
    clear F₁ FF NN
    rw [he.len, List.drop_length] at hn
    have hn : -1 = nextOf rows place := hn
    repeat' (first | (k_unfold; (try dsimp only); (try (clear ek)); (try (clear qk))) | ((fail_if_success (fail_if_success (with_reducible show wpAny _ _ (execs (_ :: _) _) _ _ _))); k_fold) | (k_end; wrow_close) | ((fail_if_success (fail_if_success (with_reducible show wpAny _ _ (execs _ _) _ _ _))); k_here; ((refine' gen_tok (by assumption) (by first | omega | ((try dsimp only at *); omega)) ?_); intro _ _)) | ((fail_if_success (fail_if_success (with_reducible show wpAny _ _ (call (Value.ref _) _ _) _ _ _))); k_here; first | ((with_reducible show wpAny _ _ (call (Value.ref 250) _) _ _ _); refine' GivesT.some mul2_t (by k_asm) (by k_asm) (by k_asm) (by k_asm) (by k_asm) (by exact rfl) (by ktr_room) (by ktr_units) ?_; k_whole; intro _ _ _ _ _ _ _; (try dsimp only)) | ((with_reducible show wpAny _ _ (call (Value.ref 257) _) _ _ _); refine' GivesT.some sub_t (by k_asm) (by k_asm) (by k_asm) (by k_asm) (by k_asm) (by exact rfl) (by ktr_room) (by ktr_units) ?_; k_whole; intro _ _ _ _ _ _ _; (try dsimp only)) | ((with_reducible show wpAny _ _ (call (Value.ref 236) _) _ _ _); refine' GivesT.some add_t (by k_asm) (by k_asm) (by k_asm) (by k_asm) (by k_asm) (by exact rfl) (by ktr_room) (by ktr_units) ?_; k_whole; intro _ _ _ _ _ _ _; (try dsimp only)) | ((with_reducible show wpAny _ _ (call (Value.ref 229) _) _ _ _); refine' GivesT.val eq_t (by k_asm) (by k_asm) (by k_asm) (by k_asm) (by k_asm) (by exact rfl) (by ktr_room) (by ktr_units) ?_; k_whole; intro _ _ _ _ _; (try dsimp only)) | ((with_reducible show wpAny _ _ (call (Value.ref 222) _) _ _ _); refine' GivesT.val le_t (by k_asm) (by k_asm) (by k_asm) (by k_asm) (by k_asm) (by exact rfl) (by ktr_room) (by ktr_units) ?_; k_whole; intro _ _ _ _ _; (try dsimp only)) | ((with_reducible show wpAny _ _ (call (Value.ref 215) _) _ _ _); refine' GivesT.val lt_t (by k_asm) (by k_asm) (by k_asm) (by k_asm) (by k_asm) (by exact rfl) (by ktr_room) (by ktr_units) ?_; k_whole; intro _ _ _ _ _; (try dsimp only))) | walk1 | (dsimp only; (first | ((fail_if_success (fail_if_success (with_reducible show wpAny _ _ (execs _ _) _ _ _))); k_here; ((refine' gen_tok (by assumption) (by first | omega | ((try dsimp only at *); omega)) ?_); intro _ _)) | ((fail_if_success (fail_if_success (with_reducible show wpAny _ _ (call (Value.ref _) _ _) _ _ _))); k_here; first | ((with_reducible show wpAny _ _ (call (Value.ref 250) _) _ _ _); refine' GivesT.some mul2_t (by k_asm) (by k_asm) (by k_asm) (by k_asm) (by k_asm) (by exact rfl) (by ktr_room) (by ktr_units) ?_; k_whole; intro _ _ _ _ _ _ _; (try dsimp only)) | ((with_reducible show wpAny _ _ (call (Value.ref 257) _) _ _ _); refine' GivesT.some sub_t (by k_asm) (by k_asm) (by k_asm) (by k_asm) (by k_asm) (by exact rfl) (by ktr_room) (by ktr_units) ?_; k_whole; intro _ _ _ _ _ _ _; (try dsimp only)) | ((with_reducible show wpAny _ _ (call (Value.ref 236) _) _ _ _); refine' GivesT.some add_t (by k_asm) (by k_asm) (by k_asm) (by k_asm) (by k_asm) (by exact rfl) (by ktr_room) (by ktr_units) ?_; k_whole; intro _ _ _ _ _ _ _; (try dsimp only)) | ((with_reducible show wpAny _ _ (call (Value.ref 229) _) _ _ _); refine' GivesT.val eq_t (by k_asm) (by k_asm) (by k_asm) (by k_asm) (by k_asm) (by exact rfl) (by ktr_room) (by ktr_units) ?_; k_whole; intro _ _ _ _ _; (try dsimp only)) | ((with_reducible show wpAny _ _ (call (Value.ref 222) _) _ _ _); refine' GivesT.val le_t (by k_asm) (by k_asm) (by k_asm) (by k_asm) (by k_asm) (by exact rfl) (by ktr_room) (by ktr_units) ?_; k_whole; intro _ _ _ _ _; (try dsimp only)) | ((with_reducible show wpAny _ _ (call (Value.ref 215) _) _ _ _); refine' GivesT.val lt_t (by k_asm) (by k_asm) (by k_asm) (by k_asm) (by k_asm) (by exact rfl) (by ktr_room) (by ktr_units) ?_; k_whole; intro _ _ _ _ _; (try dsimp only))) | walk1)) | (leave1; (try dsimp only)) | fail "no step")
    refine hret _ _ _ _ (by assumption) (by assumption) (by (try dsimp only at *); omega) ⟨⟨_, by rw [← hn], by (try dsimp only at *); omega⟩, rfl⟩
  case turn =>
    rintro i v m₁ nx h tk own hv hoff hmem ⟨le0, e1, rfl, hn⟩ F₁ N₁
    obtain ⟨x, d, vs, r, rfl, hx, hr, t1, t2, t3, t4, rfl⟩ := he.at i v hv
    rw [drop_at hr] at hn
    have hn := PySem.Flt.Hid.mk hn
    have F₂ := fr_put1 F₁ e1
    clear F₁ FF NN
    have hx' := ht _ hx
    refine unpackE_ F₂ N₁ (by assumption) (List.mem_append_left _ hx') rfl rfl rfl fun h2 F3 N3 => ?_
    clear F₂ N₁
    obtain ⟨bb, hb⟩ : ∃ bb, bb = decide (r.2.2.2 % 2 = 1) := ⟨_, rfl⟩
    rw [← hb]
    repeat' (first | (k_unfold; (try dsimp only); (try (clear ek)); (try (clear qk))) | ((fail_if_success (fail_if_success (with_reducible show wpAny _ _ (execs (_ :: _) _) _ _ _))); k_fold) | ((fail_if_success (with_reducible show wpAny _ _ (compareOp _ _ _) _ _ _)); first | ((fail_if_success (fail_if_success (with_reducible show wpAny _ _ (execs _ _) _ _ _))); k_here; ((refine' gen_tok (by assumption) (by first | omega | ((try dsimp only at *); omega)) ?_); intro _ _)) | ((fail_if_success (fail_if_success (with_reducible show wpAny _ _ (call (Value.ref _) _ _) _ _ _))); k_here; first | ((with_reducible show wpAny _ _ (call (Value.ref 250) _) _ _ _); refine' GivesT.some mul2_t (by k_asm) (by k_asm) (by k_asm) (by k_asm) (by k_asm) (by exact rfl) (by ktr_room) (by ktr_units) ?_; k_whole; intro _ _ _ _ _ _ _; (try dsimp only)) | ((with_reducible show wpAny _ _ (call (Value.ref 257) _) _ _ _); refine' GivesT.some sub_t (by k_asm) (by k_asm) (by k_asm) (by k_asm) (by k_asm) (by exact rfl) (by ktr_room) (by ktr_units) ?_; k_whole; intro _ _ _ _ _ _ _; (try dsimp only)) | ((with_reducible show wpAny _ _ (call (Value.ref 236) _) _ _ _); refine' GivesT.some add_t (by k_asm) (by k_asm) (by k_asm) (by k_asm) (by k_asm) (by exact rfl) (by ktr_room) (by ktr_units) ?_; k_whole; intro _ _ _ _ _ _ _; (try dsimp only)) | ((with_reducible show wpAny _ _ (call (Value.ref 229) _) _ _ _); refine' GivesT.val eq_t (by k_asm) (by k_asm) (by k_asm) (by k_asm) (by k_asm) (by exact rfl) (by ktr_room) (by ktr_units) ?_; k_whole; intro _ _ _ _ _; (try dsimp only)) | ((with_reducible show wpAny _ _ (call (Value.ref 222) _) _ _ _); refine' GivesT.val le_t (by k_asm) (by k_asm) (by k_asm) (by k_asm) (by k_asm) (by exact rfl) (by ktr_room) (by ktr_units) ?_; k_whole; intro _ _ _ _ _; (try dsimp only)) | ((with_reducible show wpAny _ _ (call (Value.ref 215) _) _ _ _); refine' GivesT.val lt_t (by k_asm) (by k_asm) (by k_asm) (by k_asm) (by k_asm) (by exact rfl) (by ktr_room) (by ktr_units) ?_; k_whole; intro _ _ _ _ _; (try dsimp only))) | walk1) | (leave1; (try dsimp only)))
    · cases bb
      · have hd : ¬ r.2.2.2 % 2 = 1 := fun h => by rw [decide_eq_true h] at hb; cases hb
        repeat' (first | (k_unfold; (try dsimp only); (try (clear ek)); (try (clear qk))) | ((fail_if_success (fail_if_success (with_reducible show wpAny _ _ (execs (_ :: _) _) _ _ _))); k_fold) | (k_end; wrow_close) | ((fail_if_success (fail_if_success (with_reducible show wpAny _ _ (execs _ _) _ _ _))); k_here; ((refine' gen_tok (by assumption) (by first | omega | ((try dsimp only at *); omega)) ?_); intro _ _)) | ((fail_if_success (fail_if_success (with_reducible show wpAny _ _ (call (Value.ref _) _ _) _ _ _))); k_here; first | ((with_reducible show wpAny _ _ (call (Value.ref 250) _) _ _ _); refine' GivesT.some mul2_t (by k_asm) (by k_asm) (by k_asm) (by k_asm) (by k_asm) (by exact rfl) (by ktr_room) (by ktr_units) ?_; k_whole; intro _ _ _ _ _ _ _; (try dsimp only)) | ((with_reducible show wpAny _ _ (call (Value.ref 257) _) _ _ _); refine' GivesT.some sub_t (by k_asm) (by k_asm) (by k_asm) (by k_asm) (by k_asm) (by exact rfl) (by ktr_room) (by ktr_units) ?_; k_whole; intro _ _ _ _ _ _ _; (try dsimp only)) | ((with_reducible show wpAny _ _ (call (Value.ref 236) _) _ _ _); refine' GivesT.some add_t (by k_asm) (by k_asm) (by k_asm) (by k_asm) (by k_asm) (by exact rfl) (by ktr_room) (by ktr_units) ?_; k_whole; intro _ _ _ _ _ _ _; (try dsimp only)) | ((with_reducible show wpAny _ _ (call (Value.ref 229) _) _ _ _); refine' GivesT.val eq_t (by k_asm) (by k_asm) (by k_asm) (by k_asm) (by k_asm) (by exact rfl) (by ktr_room) (by ktr_units) ?_; k_whole; intro _ _ _ _ _; (try dsimp only)) | ((with_reducible show wpAny _ _ (call (Value.ref 222) _) _ _ _); refine' GivesT.val le_t (by k_asm) (by k_asm) (by k_asm) (by k_asm) (by k_asm) (by exact rfl) (by ktr_room) (by ktr_units) ?_; k_whole; intro _ _ _ _ _; (try dsimp only)) | ((with_reducible show wpAny _ _ (call (Value.ref 215) _) _ _ _); refine' GivesT.val lt_t (by k_asm) (by k_asm) (by k_asm) (by k_asm) (by k_asm) (by exact rfl) (by ktr_room) (by ktr_units) ?_; k_whole; intro _ _ _ _ _; (try dsimp only))) | walk1 | (dsimp only; (first | ((fail_if_success (fail_if_success (with_reducible show wpAny _ _ (execs _ _) _ _ _))); k_here; ((refine' gen_tok (by assumption) (by first | omega | ((try dsimp only at *); omega)) ?_); intro _ _)) | ((fail_if_success (fail_if_success (with_reducible show wpAny _ _ (call (Value.ref _) _ _) _ _ _))); k_here; first | ((with_reducible show wpAny _ _ (call (Value.ref 250) _) _ _ _); refine' GivesT.some mul2_t (by k_asm) (by k_asm) (by k_asm) (by k_asm) (by k_asm) (by exact rfl) (by ktr_room) (by ktr_units) ?_; k_whole; intro _ _ _ _ _ _ _; (try dsimp only)) | ((with_reducible show wpAny _ _ (call (Value.ref 257) _) _ _ _); refine' GivesT.some sub_t (by k_asm) (by k_asm) (by k_asm) (by k_asm) (by k_asm) (by exact rfl) (by ktr_room) (by ktr_units) ?_; k_whole; intro _ _ _ _ _ _ _; (try dsimp only)) | ((with_reducible show wpAny _ _ (call (Value.ref 236) _) _ _ _); refine' GivesT.some add_t (by k_asm) (by k_asm) (by k_asm) (by k_asm) (by k_asm) (by exact rfl) (by ktr_room) (by ktr_units) ?_; k_whole; intro _ _ _ _ _ _ _; (try dsimp only)) | ((with_reducible show wpAny _ _ (call (Value.ref 229) _) _ _ _); refine' GivesT.val eq_t (by k_asm) (by k_asm) (by k_asm) (by k_asm) (by k_asm) (by exact rfl) (by ktr_room) (by ktr_units) ?_; k_whole; intro _ _ _ _ _; (try dsimp only)) | ((with_reducible show wpAny _ _ (call (Value.ref 222) _) _ _ _); refine' GivesT.val le_t (by k_asm) (by k_asm) (by k_asm) (by k_asm) (by k_asm) (by exact rfl) (by ktr_room) (by ktr_units) ?_; k_whole; intro _ _ _ _ _; (try dsimp only)) | ((with_reducible show wpAny _ _ (call (Value.ref 215) _) _ _ _); refine' GivesT.val lt_t (by k_asm) (by k_asm) (by k_asm) (by k_asm) (by k_asm) (by exact rfl) (by ktr_room) (by ktr_units) ?_; k_whole; intro _ _ _ _ _; (try dsimp only))) | walk1)) | (leave1; (try dsimp only)) | fail "no step")
        all_goals (
        have hq := hn.out
        rw [nextOf_cons] at hq
        try simp only [if_neg hd] at hq
        first
          | (refine hret _ _ _ _ (by assumption) (fun q hq => (by assumption : News h₀ L _ (nx ++ own)) q (List.mem_append_left _ hq)) (by (try dsimp only at *); omega) ⟨⟨_, congrArg (fun z => Value.int z _) ?_, by (try dsimp only at *); omega⟩, rfl⟩
             rw [if_pos ⟨by assumption, by assumption⟩, if_pos (by assumption)] at hq
             exact hq)
          | (refine ⟨_, _, _, nx ++ own, nx, rfl, by assumption, by assumption, (fun q hq => List.mem_append_left _ hq), (fun q hq => List.mem_append_right _ hq), hoff, hmem, by (try dsimp only at *); omega, rfl, rfl, ?_⟩
             first
               | (rw [if_pos ⟨by assumption, by assumption⟩, if_neg (by assumption)] at hq; exact hq)
               | (rw [if_neg (by omega)] at hq; exact hq)))
      · have hd : r.2.2.2 % 2 = 1 := of_decide_eq_true hb.symm
        repeat' (first | (k_unfold; (try dsimp only); (try (clear ek)); (try (clear qk))) | ((fail_if_success (fail_if_success (with_reducible show wpAny _ _ (execs (_ :: _) _) _ _ _))); k_fold) | (k_end; wrow_close) | ((fail_if_success (fail_if_success (with_reducible show wpAny _ _ (execs _ _) _ _ _))); k_here; ((refine' gen_tok (by assumption) (by first | omega | ((try dsimp only at *); omega)) ?_); intro _ _)) | ((fail_if_success (fail_if_success (with_reducible show wpAny _ _ (call (Value.ref _) _ _) _ _ _))); k_here; first | ((with_reducible show wpAny _ _ (call (Value.ref 250) _) _ _ _); refine' GivesT.some mul2_t (by k_asm) (by k_asm) (by k_asm) (by k_asm) (by k_asm) (by exact rfl) (by ktr_room) (by ktr_units) ?_; k_whole; intro _ _ _ _ _ _ _; (try dsimp only)) | ((with_reducible show wpAny _ _ (call (Value.ref 257) _) _ _ _); refine' GivesT.some sub_t (by k_asm) (by k_asm) (by k_asm) (by k_asm) (by k_asm) (by exact rfl) (by ktr_room) (by ktr_units) ?_; k_whole; intro _ _ _ _ _ _ _; (try dsimp only)) | ((with_reducible show wpAny _ _ (call (Value.ref 236) _) _ _ _); refine' GivesT.some add_t (by k_asm) (by k_asm) (by k_asm) (by k_asm) (by k_asm) (by exact rfl) (by ktr_room) (by ktr_units) ?_; k_whole; intro _ _ _ _ _ _ _; (try dsimp only)) | ((with_reducible show wpAny _ _ (call (Value.ref 229) _) _ _ _); refine' GivesT.val eq_t (by k_asm) (by k_asm) (by k_asm) (by k_asm) (by k_asm) (by exact rfl) (by ktr_room) (by ktr_units) ?_; k_whole; intro _ _ _ _ _; (try dsimp only)) | ((with_reducible show wpAny _ _ (call (Value.ref 222) _) _ _ _); refine' GivesT.val le_t (by k_asm) (by k_asm) (by k_asm) (by k_asm) (by k_asm) (by exact rfl) (by ktr_room) (by ktr_units) ?_; k_whole; intro _ _ _ _ _; (try dsimp only)) | ((with_reducible show wpAny _ _ (call (Value.ref 215) _) _ _ _); refine' GivesT.val lt_t (by k_asm) (by k_asm) (by k_asm) (by k_asm) (by k_asm) (by exact rfl) (by ktr_room) (by ktr_units) ?_; k_whole; intro _ _ _ _ _; (try dsimp only))) | walk1 | (dsimp only; (first | ((fail_if_success (fail_if_success (with_reducible show wpAny _ _ (execs _ _) _ _ _))); k_here; ((refine' gen_tok (by assumption) (by first | omega | ((try dsimp only at *); omega)) ?_); intro _ _)) | ((fail_if_success (fail_if_success (with_reducible show wpAny _ _ (call (Value.ref _) _ _) _ _ _))); k_here; first | ((with_reducible show wpAny _ _ (call (Value.ref 250) _) _ _ _); refine' GivesT.some mul2_t (by k_asm) (by k_asm) (by k_asm) (by k_asm) (by k_asm) (by exact rfl) (by ktr_room) (by ktr_units) ?_; k_whole; intro _ _ _ _ _ _ _; (try dsimp only)) | ((with_reducible show wpAny _ _ (call (Value.ref 257) _) _ _ _); refine' GivesT.some sub_t (by k_asm) (by k_asm) (by k_asm) (by k_asm) (by k_asm) (by exact rfl) (by ktr_room) (by ktr_units) ?_; k_whole; intro _ _ _ _ _ _ _; (try dsimp only)) | ((with_reducible show wpAny _ _ (call (Value.ref 236) _) _ _ _); refine' GivesT.some add_t (by k_asm) (by k_asm) (by k_asm) (by k_asm) (by k_asm) (by exact rfl) (by ktr_room) (by ktr_units) ?_; k_whole; intro _ _ _ _ _ _ _; (try dsimp only)) | ((with_reducible show wpAny _ _ (call (Value.ref 229) _) _ _ _); refine' GivesT.val eq_t (by k_asm) (by k_asm) (by k_asm) (by k_asm) (by k_asm) (by exact rfl) (by ktr_room) (by ktr_units) ?_; k_whole; intro _ _ _ _ _; (try dsimp only)) | ((with_reducible show wpAny _ _ (call (Value.ref 222) _) _ _ _); refine' GivesT.val le_t (by k_asm) (by k_asm) (by k_asm) (by k_asm) (by k_asm) (by exact rfl) (by ktr_room) (by ktr_units) ?_; k_whole; intro _ _ _ _ _; (try dsimp only)) | ((with_reducible show wpAny _ _ (call (Value.ref 215) _) _ _ _); refine' GivesT.val lt_t (by k_asm) (by k_asm) (by k_asm) (by k_asm) (by k_asm) (by exact rfl) (by ktr_room) (by ktr_units) ?_; k_whole; intro _ _ _ _ _; (try dsimp only))) | walk1)) | (leave1; (try dsimp only)) | fail "no step")
        all_goals (
        have hq := hn.out
        rw [nextOf_cons] at hq
        try simp only [if_pos hd] at hq
        first
          | (refine hret _ _ _ _ (by assumption) (fun q hq => (by assumption : News h₀ L _ (nx ++ own)) q (List.mem_append_left _ hq)) (by (try dsimp only at *); omega) ⟨⟨_, congrArg (fun z => Value.int z _) ?_, by (try dsimp only at *); omega⟩, rfl⟩
             rw [if_pos ⟨by assumption, by assumption⟩, if_pos (by assumption)] at hq
             exact hq)
          | (refine ⟨_, _, _, nx ++ own, nx, rfl, by assumption, by assumption, (fun q hq => List.mem_append_left _ hq), (fun q hq => List.mem_append_right _ hq), hoff, hmem, by (try dsimp only at *); omega, rfl, rfl, ?_⟩
             first
               | (rw [if_pos ⟨by assumption, by assumption⟩, if_neg (by assumption)] at hq; exact hq)
               | (rw [if_neg (by omega)] at hq; exact hq)))
    all_goals (
        have hq := hn.out
        rw [nextOf_cons] at hq
        refine ⟨_, _, _, nx ++ own, nx, rfl, by assumption, by assumption, (fun q hq => List.mem_append_left _ hq), (fun q hq => List.mem_append_right _ hq), hoff, hmem, by (try dsimp only at *); omega, rfl, rfl, ?_⟩
        (rw [if_neg (by omega)] at hq; exact hq))
section
variable {w : World} {p : Program} {loose : List Str} {mean : ExcName → Option Value} {mg mb : Str → Option Value} {news : List (Addr × Obj)}
  {dp un : Nat} {gd : Option (List Code)} {cn : Str} {cs : Scope} {a : Addr} {ccd : Value} {cl : List (Str × Addr)} {outer : List Env} {A₀ : Around} {base h₀ : Heap} {L : Addr} {m : Str → Option Value} {s : Shared} {Q E : Value → Shared → Prop}
theorem next_use {e : Addr} {c : Nat} {refs : List Value} {tl : List (Addr × Obj)} {rows : List (Int × Int × Int × Int)} {place : Int} {tp : Tok}
    (B : Below A₀ base outer h₀) (F : Fr h₀ L s.heap m) (X : (Mine.hd.heap_39 w.params).In h₀) (N : News h₀ L s.heap news) (T : Top p loose mean mg mb h₀) (hk : cs.kind = .function) (hd : dp + 6 < recursionLimit) (hu : un + 60 < cLine) (he : EntsAre tl refs rows) (hm : (e, listOf refs.toArray c) ∈ news) (ht : ∀ p ∈ tl, p ∈ news)
    (ret : ∀ h' tk', Fr h₀ L h' m → s.toks ≤ tk' → ∀ t, s.toks ≤ t → News h₀ L h' news → Q (.int (nextOf rows place) t) { s with heap := h', toks := tk' }) :
    wpAny (model PR w) (ktrTop dp un gd cn cs L a ccd cl outer) (call (.ref 306) [.ref e, .int place tp]) Q E s :=
  GivesT.some (vt := fun t => .int (nextOf rows place) t) (next_t w p loose mean mg mb e c refs tl rows place tp he news hm ht) B F X N T hk hd hu ret
end
end
section
section
variable {prog : Program} {w : World} {A : Around} {E : Value → Shared → Prop} {s : Shared} {env : Env} {h₀ : Heap} {target : Expr} {body : List Stmt} {Q : Flow → Shared → Prop}
/-- for over range(n); what is kept may speak of the tokens -/
theorem for_rangeT {iter : Expr} {pos : Pos} {x : Str} {px : Pos} {n : Nat} (J : Nat → Nat → (Str → Option Value) → List (Addr × Obj) → Prop)
    (hh : A.handled = none) (hsm : Builtin.Range.small 0 (n : Int) 1 = true) (hsz : Builtin.Range.rangeSize 0 (n : Int) 1 = (n : Int)) (ht : target = .Name x px)
    (h : wpAny (model prog w) A (eval iter env) (fun xv s₁ => PySem.Flt.Hid (∃ (r : Addr) (t0 u0 v0 : Tok), xv = .ref r ∧ ∃ m₀ news, IsRange s₁.heap r 0 (n : Int) 1 t0 u0 v0 ∧ Fr h₀ env.locals s₁.heap m₀ ∧ News h₀ env.locals s₁.heap news ∧ J 0 s₁.toks m₀ news ∧ s₁ = { s with heap := s₁.heap, toks := s₁.toks })) E s)
    (turn : ∀ i tv m₁ news₁ h tk own, i < n → OwnOff own (news₁.map (·.1)) → J i tk m₁ news₁ → Fr h₀ env.locals h m₁ → News h₀ env.locals h (news₁ ++ own) →
      wpAny (model prog w) A (assign target env (.int (i : Int) tv)) (fun _ s₃ => wpAny (model prog w) A (execs body env) (fun f s₄ => match f with
        | .ret v => Q (.ret v) s₄
        | .brk => Q .next s₄
        | _ => InvEndT h₀ env.locals (fun tk m' nx => J (i + 1) tk m' nx) own { s with heap := h, toks := tk + 1 } s₄) E s₃) E { s with heap := h, toks := tk + 1 })
    (done : ∀ m₁ news₁ h tk, J n tk m₁ news₁ → Fr h₀ env.locals h m₁ → News h₀ env.locals h news₁ → Q .next { s with heap := h, toks := tk })
    (hs : ∀ x, foldedSetIterable iter env x = pure x := by intro _; rfl)
    (hE : PassesOwn (model prog w) A env E := by passes_own) :
    wpAny (model prog w) A (exec (.For target iter body [] pos) env) Q E s := by
  refine wpAny_For (wpAny_mono h (fun xv s₁ h₁ => ?_) fun _ _ e => e) hs
  obtain ⟨r, t0, u0, v0, rfl, m₀, news, hr, F, N, hj, hs₁⟩ := h₁.out
  refine wpAny_pyIter_range hr hsm ?_
  obtain ⟨I, hI⟩ : ∃ I, I = s₁.heap.objs.size := ⟨_, rfl⟩
  rw [← hI]
  have hI0 : h₀.get? I = none := by rw [hI]; exact next_is_new F
  have hIL : I ≠ env.locals := by rw [hI]; exact Nat.ne_of_gt F.ns.lt
  refine codeAny_forLoop_any (R := fun r s' => match r with | .ok f => Q f s' | .error e => cameBackBy (model prog w) A env E e s')
    (fun k s' => ∃ h' tk m' nx i, s' = { s with heap := h', toks := tk } ∧ IsRangeIter h' I ((i : Nat) : Int) ((n : Int) - (i : Nat)) 1 ∧ Fr h₀ env.locals h' m' ∧ News h₀ env.locals h' nx ∧ (∀ p ∈ nx, p.1 ≠ I) ∧ J i tk m' nx ∧ i ≤ n ∧ k = n + 1 - i) ?_ (n + 1)
    ⟨_, s₁.toks, m₀, news, 0, by rw [hs₁], (by show IsRangeIter _ _ _ _ _; rw [hsz, hI]; simpa using Heap.get?_push_size _ rfl), F.push _, fun p hp => ⟨Heap.get?_push_of_some _ (N p hp).1, (N p hp).2⟩, fun p hp => by rw [hI]; exact Nat.ne_of_lt (Heap.lt_size (N p hp).1), hj, Nat.zero_le _, rfl⟩
  rintro k s' ⟨h', tk, m', nx, i, rfl, hit, F', N', hnI, hJ, hi, rfl⟩
  have next : ∀ h₁ : Heap, Heap.ExtBut I h' h₁ → Fr h₀ env.locals h₁ m' ∧ News h₀ env.locals h₁ nx := fun h₁ hk =>
    ⟨⟨F'.ns.at' fun o e => hk _ o (Ne.symm hIL) e, fun b o e => hk b o (fun hb => by rw [hb, hI0] at e; cases e) (F'.keep b o e), F'.above⟩, fun p hp => ⟨hk _ _ (hnI p hp) (N' p hp).1, (N' p hp).2⟩⟩
  rcases Nat.lt_or_ge i n with hlt | hge
  rotate_left
  · have hsz' : i = n := Nat.le_antisymm hi hge
    refine wpAny_pyNext_range_end hh hit (by omega) fun h₁ he => wpAny_execs_nil ?_
    obtain ⟨F₁, N₁⟩ := next h₁ he
    exact done m' nx h₁ tk (hsz' ▸ hJ) F₁ N₁
  · refine wpAny_pyNext_range_item hit (by omega) fun h₁ hit₁ hs₁' => ?_
    subst ht
    unfold letOwnedTupleGo
    refine wpAny_pure ?_
    obtain ⟨F₁, N₁⟩ := next h₁ hs₁'.extBut
    obtain ⟨oI, hoI⟩ : ∃ oI, h₁.get? I = some oI := ⟨_, hit₁⟩
    have Nall : News h₀ env.locals h₁ (nx ++ [(I, oI)]) := fun p hp => by
      rcases List.mem_append.mp hp with hp | hp
      · exact N₁ p hp
      · rw [List.mem_singleton.mp hp]; exact ⟨hoI, hIL, hI0⟩
    refine wpAny_mono (turn i tk m' nx h₁ tk [(I, oI)] hlt (fun p hp b hb e => ?_) hJ F₁ Nall) (fun _ s₃ y => wpAny_mono (wpAny_passesOwn hE y) (fun f s₄ z => ?_) fun _ _ x => x) hE
    · obtain ⟨q, hq, rfl⟩ := List.mem_map.mp hb
      rw [List.mem_singleton.mp hp] at e
      exact hnI q hq e.symm
    have fin : InvEndT h₀ env.locals (fun tk m' nx => J (i + 1) tk m' nx) [(I, oI)] { s with heap := h₁, toks := tk + 1 } s₄ → ∃ m, m < n + 1 - i ∧ ∃ h' tk m' nx i, s₄ = { s with heap := h', toks := tk } ∧ IsRangeIter h' I ((i : Nat) : Int) ((n : Int) - (i : Nat)) 1 ∧ Fr h₀ env.locals h' m' ∧ News h₀ env.locals h' nx ∧ (∀ p ∈ nx, p.1 ≠ I) ∧ J i tk m' nx ∧ i ≤ n ∧ m = n + 1 - i := by
      rintro ⟨h₂, tk₂, m₂, all, nx₂, rfl, F₂, N₂, hn, ho, hoff, hJ₂⟩
      refine ⟨n + 1 - (i + 1), by omega, h₂, tk₂, m₂, nx₂, i + 1, rfl, ?_, F₂, fun p hp => N₂ p (hn p hp), fun p hp e => hoff (I, oI) (.head _) p.1 (List.mem_map.mpr ⟨p, hp, rfl⟩) e.symm, hJ₂, hlt, rfl⟩
      have e1 : h₂.get? I = some oI := (N₂ _ (ho _ (.head _))).1
      have e2 : h₁.get? I = h₂.get? I := hoI.trans e1.symm
      unfold IsRangeIter at hit₁ ⊢
      rw [← e2, hit₁]
      have e4 : (n : Int) - ((i + 1 : Nat) : Int) = (n : Int) - (i : Nat) - 1 := by omega
      have e3 : ((i + 1 : Nat) : Int) = (i : Int) + 1 := by omega
      rw [e4, e3]
    cases f with
    | ret v => exact z
    | brk => exact z
    | cont => exact fin z
    | next => exact fin z
end
end
section
local macro_rules | `(tactic| k_all) => `(tactic| assumption)
theorem ring_t (w : World) (p : Program) (loose : List Str) (mean : ExcName → Option Value) (mg mb : Str → Option Value) (e : Addr) (c : Nat) (refs : List Value) (tl : List (Addr × Obj)) (rows : List (Int × Int × Int × Int)) (place : Int) (tp : Tok) (he : EntsAre tl refs rows)
   (news : List (Addr × Obj)) (hm : (e, listOf refs.toArray c) ∈ news) (ht : ∀ p ∈ tl, p ∈ news) :
    GivesT w p loose mean mg mb 313 9 90 news [.ref e, .int place tp] (fun r nx k0 _ => ∃ g rs c', r = .ref g ∧ nx = (g, listOf rs.toArray c') :: news ∧ IntsAre rs (ringOf (nextOf rows) place) ∧ (∀ p ∈ news, p.1 < g) ∧ ∃ tl, rs = Value.int place tp :: tl ∧ ∀ u ∈ tl, ∃ z t, u = Value.int z t ∧ k0 ≤ t) := by
  w_on
  intro dp un gd cn cs a ccd cl outer A₀ base h₀ L m s Q E B F X N T hk hd hu hret
  have hTB : TokBase s.toks := True.intro
  refine wpAny_call ?_
  k_dflt cell_enter
  repeat' (first | (k_unfold; (try dsimp only)) | ((fail_if_success (with_reducible show wpAny _ _ (exec (Stmt.For _ _ _ _ _) _) _ _ _)); (fail_if_success (with_reducible show wpAny _ _ (execs (Stmt.For _ _ _ _ _ :: _) _) _ _ _)); (fail_if_success (with_reducible show wpAny _ _ (execs (_ :: Stmt.For _ _ _ _ _ :: _) _) _ _ _)); (first | ((fail_if_success (fail_if_success (with_reducible show wpAny _ _ (execs _ _) _ _ _))); k_here; first | ((refine' gen_tok (by assumption) (by first | omega | ((try dsimp only at *); omega)) ?_); intro _ _) | ((refine' gen_tok0 (by assumption) (by first | omega | ((try dsimp only at *); omega)) ?_); intro _ _)) | ((fail_if_success (fail_if_success (with_reducible show wpAny _ _ (call (Value.ref _) _ _) _ _ _))); k_here; first | ((with_reducible show wpAny _ _ (call (Value.ref 306) _) _ _ _); refine' next_use (by k_asm) (by k_asm) (by k_asm) (by k_asm) (by k_asm) (by exact rfl) (by ktr_room) (by ktr_units) (by assumption) (by assumption) (by assumption) ?_; k_whole; intro _ _ _ _ _ _ _; (try dsimp only)) | ((with_reducible show wpAny _ _ (call (Value.ref 250) _) _ _ _); refine' GivesT.some mul2_t (by k_asm) (by k_asm) (by k_asm) (by k_asm) (by k_asm) (by exact rfl) (by ktr_room) (by ktr_units) ?_; k_whole; intro _ _ _ _ _ _ _; (try dsimp only)) | ((with_reducible show wpAny _ _ (call (Value.ref 257) _) _ _ _); refine' GivesT.some sub_t (by k_asm) (by k_asm) (by k_asm) (by k_asm) (by k_asm) (by exact rfl) (by ktr_room) (by ktr_units) ?_; k_whole; intro _ _ _ _ _ _ _; (try dsimp only)) | ((with_reducible show wpAny _ _ (call (Value.ref 236) _) _ _ _); refine' GivesT.some add_t (by k_asm) (by k_asm) (by k_asm) (by k_asm) (by k_asm) (by exact rfl) (by ktr_room) (by ktr_units) ?_; k_whole; intro _ _ _ _ _ _ _; (try dsimp only)) | ((with_reducible show wpAny _ _ (call (Value.ref 229) _) _ _ _); refine' GivesT.val eq_t (by k_asm) (by k_asm) (by k_asm) (by k_asm) (by k_asm) (by exact rfl) (by ktr_room) (by ktr_units) ?_; k_whole; intro _ _ _ _ _; (try dsimp only)) | ((with_reducible show wpAny _ _ (call (Value.ref 222) _) _ _ _); refine' GivesT.val le_t (by k_asm) (by k_asm) (by k_asm) (by k_asm) (by k_asm) (by exact rfl) (by ktr_room) (by ktr_units) ?_; k_whole; intro _ _ _ _ _; (try dsimp only)) | ((with_reducible show wpAny _ _ (call (Value.ref 215) _) _ _ _); refine' GivesT.val lt_t (by k_asm) (by k_asm) (by k_asm) (by k_asm) (by k_asm) (by exact rfl) (by ktr_room) (by ktr_units) ?_; k_whole; intro _ _ _ _ _; (try dsimp only))) | ((fail_if_success (fail_if_success (with_reducible show wpAny _ _ (subscriptTail _ _ _ _) _ _ _))); k_here; ((with_reducible show wpAny _ _ (subscriptTail _ (PySem.Expr.UnaryOp _ _ _) (Value.ref _) (Value.int _ _)) _ _ _); (with_unfolding_all refine' kde_neg (by is_list) (by decide) (by decide) (by exact last_idx _ _) (by exact last_at _ _) ?_ (by with_unfolding_all rfl); k_whole))) | ((fail_if_success (fail_if_success (with_reducible show wpAny _ _ (call (Value.builtin _) _ _) _ _ _))); k_here; ((with_reducible show wpAny _ _ (call (Value.builtin _) ([Value.ref _] ++ [_])) _ _ _); (simp only [List.cons_append, List.nil_append]); walk1)) | walk1)) | (leave1; try dsimp only))
  refine wpAny_execs_cons ?_
  repeat' (first | (k_unfold; (try dsimp only)) | ((fail_if_success (with_reducible show wpAny _ _ (exec (Stmt.For _ _ _ _ _) _) _ _ _)); (fail_if_success (with_reducible show wpAny _ _ (execs (Stmt.For _ _ _ _ _ :: _) _) _ _ _)); (fail_if_success (with_reducible show wpAny _ _ (execs (_ :: Stmt.For _ _ _ _ _ :: _) _) _ _ _)); (first | ((fail_if_success (fail_if_success (with_reducible show wpAny _ _ (execs _ _) _ _ _))); k_here; first | ((refine' gen_tok (by assumption) (by first | omega | ((try dsimp only at *); omega)) ?_); intro _ _) | ((refine' gen_tok0 (by assumption) (by first | omega | ((try dsimp only at *); omega)) ?_); intro _ _)) | ((fail_if_success (fail_if_success (with_reducible show wpAny _ _ (call (Value.ref _) _ _) _ _ _))); k_here; first | ((with_reducible show wpAny _ _ (call (Value.ref 306) _) _ _ _); refine' next_use (by k_asm) (by k_asm) (by k_asm) (by k_asm) (by k_asm) (by exact rfl) (by ktr_room) (by ktr_units) (by assumption) (by assumption) (by assumption) ?_; k_whole; intro _ _ _ _ _ _ _; (try dsimp only)) | ((with_reducible show wpAny _ _ (call (Value.ref 250) _) _ _ _); refine' GivesT.some mul2_t (by k_asm) (by k_asm) (by k_asm) (by k_asm) (by k_asm) (by exact rfl) (by ktr_room) (by ktr_units) ?_; k_whole; intro _ _ _ _ _ _ _; (try dsimp only)) | ((with_reducible show wpAny _ _ (call (Value.ref 257) _) _ _ _); refine' GivesT.some sub_t (by k_asm) (by k_asm) (by k_asm) (by k_asm) (by k_asm) (by exact rfl) (by ktr_room) (by ktr_units) ?_; k_whole; intro _ _ _ _ _ _ _; (try dsimp only)) | ((with_reducible show wpAny _ _ (call (Value.ref 236) _) _ _ _); refine' GivesT.some add_t (by k_asm) (by k_asm) (by k_asm) (by k_asm) (by k_asm) (by exact rfl) (by ktr_room) (by ktr_units) ?_; k_whole; intro _ _ _ _ _ _ _; (try dsimp only)) | ((with_reducible show wpAny _ _ (call (Value.ref 229) _) _ _ _); refine' GivesT.val eq_t (by k_asm) (by k_asm) (by k_asm) (by k_asm) (by k_asm) (by exact rfl) (by ktr_room) (by ktr_units) ?_; k_whole; intro _ _ _ _ _; (try dsimp only)) | ((with_reducible show wpAny _ _ (call (Value.ref 222) _) _ _ _); refine' GivesT.val le_t (by k_asm) (by k_asm) (by k_asm) (by k_asm) (by k_asm) (by exact rfl) (by ktr_room) (by ktr_units) ?_; k_whole; intro _ _ _ _ _; (try dsimp only)) | ((with_reducible show wpAny _ _ (call (Value.ref 215) _) _ _ _); refine' GivesT.val lt_t (by k_asm) (by k_asm) (by k_asm) (by k_asm) (by k_asm) (by exact rfl) (by ktr_room) (by ktr_units) ?_; k_whole; intro _ _ _ _ _; (try dsimp only))) | ((fail_if_success (fail_if_success (with_reducible show wpAny _ _ (subscriptTail _ _ _ _) _ _ _))); k_here; ((with_reducible show wpAny _ _ (subscriptTail _ (PySem.Expr.UnaryOp _ _ _) (Value.ref _) (Value.int _ _)) _ _ _); (with_unfolding_all refine' kde_neg (by is_list) (by decide) (by decide) (by exact last_idx _ _) (by exact last_at _ _) ?_ (by with_unfolding_all rfl); k_whole))) | ((fail_if_success (fail_if_success (with_reducible show wpAny _ _ (call (Value.builtin _) _ _) _ _ _))); k_here; ((with_reducible show wpAny _ _ (call (Value.builtin _) ([Value.ref _] ++ [_])) _ _ _); (simp only [List.cons_append, List.nil_append]); walk1)) | walk1)) | (leave1; try dsimp only))
  refine wpAny_execs_cons ?_
  rename Fr _ _ _ _ => lF'
  rename_i g0 L0 _h0 FG0 B0 X0 T0 g _h1 l1 _h2 NN
  refine for_rangeT (h₀ := g0) (n := 20) (fun i tk m nx => ∃ (vp : List Value) (pre : List Int) (q : Int) (t : Tok) (c' : Nat), s.toks ≤ tk ∧ m (Str.ofString "ring") = some (.ref g) ∧ m (Str.ofString "rows") = some (.ref e) ∧ m (Str.ofString "place") = some (.int place tp) ∧
      nx = (g, listOf (vp ++ [Value.int q t]).toArray c') :: news ∧ IntsAre vp pre ∧ pre.length ≤ i ∧ pre ++ q :: chain (nextOf rows) place (20 - i) q = ringOf (nextOf rows) place ∧ ∃ tl, vp ++ [Value.int q t] = Value.int place tp :: tl ∧ ∀ u ∈ tl, ∃ z t, u = Value.int z t ∧ s.toks ≤ t) rfl (by decide) (by decide) rfl ?hev ?turn ?done
  case hev =>
    refine any_toks ?_
    repeat' (first | (k_unfold; (try dsimp only)) | (first | ((fail_if_success (fail_if_success (with_reducible show wpAny _ _ (execs _ _) _ _ _))); k_here; first | ((refine' gen_tok (by assumption) (by first | omega | ((try dsimp only at *); omega)) ?_); intro _ _) | ((refine' gen_tok0 (by assumption) (by first | omega | ((try dsimp only at *); omega)) ?_); intro _ _)) | ((fail_if_success (fail_if_success (with_reducible show wpAny _ _ (call (Value.ref _) _ _) _ _ _))); k_here; first | ((with_reducible show wpAny _ _ (call (Value.ref 306) _) _ _ _); refine' next_use (by k_asm) (by k_asm) (by k_asm) (by k_asm) (by k_asm) (by exact rfl) (by ktr_room) (by ktr_units) (by assumption) (by assumption) (by assumption) ?_; k_whole; intro _ _ _ _ _ _ _; (try dsimp only)) | ((with_reducible show wpAny _ _ (call (Value.ref 250) _) _ _ _); refine' GivesT.some mul2_t (by k_asm) (by k_asm) (by k_asm) (by k_asm) (by k_asm) (by exact rfl) (by ktr_room) (by ktr_units) ?_; k_whole; intro _ _ _ _ _ _ _; (try dsimp only)) | ((with_reducible show wpAny _ _ (call (Value.ref 257) _) _ _ _); refine' GivesT.some sub_t (by k_asm) (by k_asm) (by k_asm) (by k_asm) (by k_asm) (by exact rfl) (by ktr_room) (by ktr_units) ?_; k_whole; intro _ _ _ _ _ _ _; (try dsimp only)) | ((with_reducible show wpAny _ _ (call (Value.ref 236) _) _ _ _); refine' GivesT.some add_t (by k_asm) (by k_asm) (by k_asm) (by k_asm) (by k_asm) (by exact rfl) (by ktr_room) (by ktr_units) ?_; k_whole; intro _ _ _ _ _ _ _; (try dsimp only)) | ((with_reducible show wpAny _ _ (call (Value.ref 229) _) _ _ _); refine' GivesT.val eq_t (by k_asm) (by k_asm) (by k_asm) (by k_asm) (by k_asm) (by exact rfl) (by ktr_room) (by ktr_units) ?_; k_whole; intro _ _ _ _ _; (try dsimp only)) | ((with_reducible show wpAny _ _ (call (Value.ref 222) _) _ _ _); refine' GivesT.val le_t (by k_asm) (by k_asm) (by k_asm) (by k_asm) (by k_asm) (by exact rfl) (by ktr_room) (by ktr_units) ?_; k_whole; intro _ _ _ _ _; (try dsimp only)) | ((with_reducible show wpAny _ _ (call (Value.ref 215) _) _ _ _); refine' GivesT.val lt_t (by k_asm) (by k_asm) (by k_asm) (by k_asm) (by k_asm) (by exact rfl) (by ktr_room) (by ktr_units) ?_; k_whole; intro _ _ _ _ _; (try dsimp only))) | ((fail_if_success (fail_if_success (with_reducible show wpAny _ _ (subscriptTail _ _ _ _) _ _ _))); k_here; ((with_reducible show wpAny _ _ (subscriptTail _ (PySem.Expr.UnaryOp _ _ _) (Value.ref _) (Value.int _ _)) _ _ _); (with_unfolding_all refine' kde_neg (by is_list) (by decide) (by decide) (by exact last_idx _ _) (by exact last_at _ _) ?_ (by with_unfolding_all rfl); k_whole))) | ((fail_if_success (fail_if_success (with_reducible show wpAny _ _ (call (Value.builtin _) _ _) _ _ _))); k_here; ((with_reducible show wpAny _ _ (call (Value.builtin _) ([Value.ref _] ++ [_])) _ _ _); (simp only [List.cons_append, List.nil_append]); walk1)) | walk1) | (leave1; try dsimp only))
    rename_i h9 tk9 t9 u9 v9 hr9 F9 N9 k9 hle
    exact .mk ⟨_, _, _, _, rfl, _, _, hr9, F9, N9, ⟨[], [], place, tp, 0, by (try dsimp only at *); omega, rfl, rfl, rfl, rfl, .nil, Nat.le_refl _, rfl, [], rfl, fun u hu => nomatch hu⟩, rfl⟩
  case done =>
    rintro m₁ nx h tk ⟨vp, pre, q, t, c', le0, e1, e2, e3, rfl, hvp, hl, hch, tl', htl, hal⟩ F₁ N₁
    have F₂ := fr_put3 F₁ e1 e2 e3
    have hch' : pre ++ [q] = ringOf (nextOf rows) place := hch
    clear F₁ NN hch
    have hch := PySem.Flt.Hid.mk hch'
    have htl := PySem.Flt.Hid.mk htl
    clear hch'
    repeat' (first | (k_unfold; (try dsimp only); (try (clear ek)); (try (clear qk))) | ((fail_if_success (fail_if_success (with_reducible show wpAny _ _ (execs (_ :: _) _) _ _ _))); k_fold) | (k_end; wrow_close) | ((fail_if_success (fail_if_success (with_reducible show wpAny _ _ (execs _ _) _ _ _))); k_here; first | ((refine' gen_tok (by assumption) (by first | omega | ((try dsimp only at *); omega)) ?_); intro _ _) | ((refine' gen_tok0 (by assumption) (by first | omega | ((try dsimp only at *); omega)) ?_); intro _ _)) | ((fail_if_success (fail_if_success (with_reducible show wpAny _ _ (call (Value.ref _) _ _) _ _ _))); k_here; first | ((with_reducible show wpAny _ _ (call (Value.ref 306) _) _ _ _); refine' next_use (by k_asm) (by k_asm) (by k_asm) (by k_asm) (by k_asm) (by exact rfl) (by ktr_room) (by ktr_units) (by assumption) (by assumption) (by assumption) ?_; k_whole; intro _ _ _ _ _ _ _; (try dsimp only)) | ((with_reducible show wpAny _ _ (call (Value.ref 250) _) _ _ _); refine' GivesT.some mul2_t (by k_asm) (by k_asm) (by k_asm) (by k_asm) (by k_asm) (by exact rfl) (by ktr_room) (by ktr_units) ?_; k_whole; intro _ _ _ _ _ _ _; (try dsimp only)) | ((with_reducible show wpAny _ _ (call (Value.ref 257) _) _ _ _); refine' GivesT.some sub_t (by k_asm) (by k_asm) (by k_asm) (by k_asm) (by k_asm) (by exact rfl) (by ktr_room) (by ktr_units) ?_; k_whole; intro _ _ _ _ _ _ _; (try dsimp only)) | ((with_reducible show wpAny _ _ (call (Value.ref 236) _) _ _ _); refine' GivesT.some add_t (by k_asm) (by k_asm) (by k_asm) (by k_asm) (by k_asm) (by exact rfl) (by ktr_room) (by ktr_units) ?_; k_whole; intro _ _ _ _ _ _ _; (try dsimp only)) | ((with_reducible show wpAny _ _ (call (Value.ref 229) _) _ _ _); refine' GivesT.val eq_t (by k_asm) (by k_asm) (by k_asm) (by k_asm) (by k_asm) (by exact rfl) (by ktr_room) (by ktr_units) ?_; k_whole; intro _ _ _ _ _; (try dsimp only)) | ((with_reducible show wpAny _ _ (call (Value.ref 222) _) _ _ _); refine' GivesT.val le_t (by k_asm) (by k_asm) (by k_asm) (by k_asm) (by k_asm) (by exact rfl) (by ktr_room) (by ktr_units) ?_; k_whole; intro _ _ _ _ _; (try dsimp only)) | ((with_reducible show wpAny _ _ (call (Value.ref 215) _) _ _ _); refine' GivesT.val lt_t (by k_asm) (by k_asm) (by k_asm) (by k_asm) (by k_asm) (by exact rfl) (by ktr_room) (by ktr_units) ?_; k_whole; intro _ _ _ _ _; (try dsimp only))) | ((fail_if_success (fail_if_success (with_reducible show wpAny _ _ (subscriptTail _ _ _ _) _ _ _))); k_here; ((with_reducible show wpAny _ _ (subscriptTail _ (PySem.Expr.UnaryOp _ _ _) (Value.ref _) (Value.int _ _)) _ _ _); (with_unfolding_all refine' kde_neg (by is_list) (by decide) (by decide) (by exact last_idx _ _) (by exact last_at _ _) ?_ (by with_unfolding_all rfl); k_whole))) | ((fail_if_success (fail_if_success (with_reducible show wpAny _ _ (call (Value.builtin _) _ _) _ _ _))); k_here; ((with_reducible show wpAny _ _ (call (Value.builtin _) ([Value.ref _] ++ [_])) _ _ _); (simp only [List.cons_append, List.nil_append]); walk1)) | walk1 | (dsimp only; (first | ((fail_if_success (fail_if_success (with_reducible show wpAny _ _ (execs _ _) _ _ _))); k_here; first | ((refine' gen_tok (by assumption) (by first | omega | ((try dsimp only at *); omega)) ?_); intro _ _) | ((refine' gen_tok0 (by assumption) (by first | omega | ((try dsimp only at *); omega)) ?_); intro _ _)) | ((fail_if_success (fail_if_success (with_reducible show wpAny _ _ (call (Value.ref _) _ _) _ _ _))); k_here; first | ((with_reducible show wpAny _ _ (call (Value.ref 306) _) _ _ _); refine' next_use (by k_asm) (by k_asm) (by k_asm) (by k_asm) (by k_asm) (by exact rfl) (by ktr_room) (by ktr_units) (by assumption) (by assumption) (by assumption) ?_; k_whole; intro _ _ _ _ _ _ _; (try dsimp only)) | ((with_reducible show wpAny _ _ (call (Value.ref 250) _) _ _ _); refine' GivesT.some mul2_t (by k_asm) (by k_asm) (by k_asm) (by k_asm) (by k_asm) (by exact rfl) (by ktr_room) (by ktr_units) ?_; k_whole; intro _ _ _ _ _ _ _; (try dsimp only)) | ((with_reducible show wpAny _ _ (call (Value.ref 257) _) _ _ _); refine' GivesT.some sub_t (by k_asm) (by k_asm) (by k_asm) (by k_asm) (by k_asm) (by exact rfl) (by ktr_room) (by ktr_units) ?_; k_whole; intro _ _ _ _ _ _ _; (try dsimp only)) | ((with_reducible show wpAny _ _ (call (Value.ref 236) _) _ _ _); refine' GivesT.some add_t (by k_asm) (by k_asm) (by k_asm) (by k_asm) (by k_asm) (by exact rfl) (by ktr_room) (by ktr_units) ?_; k_whole; intro _ _ _ _ _ _ _; (try dsimp only)) | ((with_reducible show wpAny _ _ (call (Value.ref 229) _) _ _ _); refine' GivesT.val eq_t (by k_asm) (by k_asm) (by k_asm) (by k_asm) (by k_asm) (by exact rfl) (by ktr_room) (by ktr_units) ?_; k_whole; intro _ _ _ _ _; (try dsimp only)) | ((with_reducible show wpAny _ _ (call (Value.ref 222) _) _ _ _); refine' GivesT.val le_t (by k_asm) (by k_asm) (by k_asm) (by k_asm) (by k_asm) (by exact rfl) (by ktr_room) (by ktr_units) ?_; k_whole; intro _ _ _ _ _; (try dsimp only)) | ((with_reducible show wpAny _ _ (call (Value.ref 215) _) _ _ _); refine' GivesT.val lt_t (by k_asm) (by k_asm) (by k_asm) (by k_asm) (by k_asm) (by exact rfl) (by ktr_room) (by ktr_units) ?_; k_whole; intro _ _ _ _ _; (try dsimp only))) | ((fail_if_success (fail_if_success (with_reducible show wpAny _ _ (subscriptTail _ _ _ _) _ _ _))); k_here; ((with_reducible show wpAny _ _ (subscriptTail _ (PySem.Expr.UnaryOp _ _ _) (Value.ref _) (Value.int _ _)) _ _ _); (with_unfolding_all refine' kde_neg (by is_list) (by decide) (by decide) (by exact last_idx _ _) (by exact last_at _ _) ?_ (by with_unfolding_all rfl); k_whole))) | ((fail_if_success (fail_if_success (with_reducible show wpAny _ _ (call (Value.builtin _) _ _) _ _ _))); k_here; ((with_reducible show wpAny _ _ (call (Value.builtin _) ([Value.ref _] ++ [_])) _ _ _); (simp only [List.cons_append, List.nil_append]); walk1)) | walk1)) | (leave1; (try dsimp only)) | fail "no step")
    refine hret _ _ _ _ (by assumption) (by assumption) (by (try dsimp only at *); omega) ⟨g, _, _, rfl, rfl, ?_, l1, tl', htl.out, hal⟩
    rw [← hch.out]
    exact hvp.append (.cons _ _ .nil)
  case turn =>
    rintro i t₀ m₁ nx h tk own hi hoff ⟨vp, pre, q, t, c', le0, e1, e2, e3, rfl, hvp, hl, hch, tl', htl, hal⟩ F₁ N₁
    have F₂ := fr_put3 F₁ e1 e2 e3
    rw [chain_step hi] at hch
    have hch := PySem.Flt.Hid.mk hch
    have htl := PySem.Flt.Hid.mk htl
    have hm2 : (e, listOf refs.toArray c) ∈ (g, listOf (vp ++ [Value.int q t]).toArray c') :: (news ++ own) := .tail _ (List.mem_append_left _ hm)
    have ht2 : ∀ p ∈ tl, p ∈ (g, listOf (vp ++ [Value.int q t]).toArray c') :: (news ++ own) := fun p hp => .tail _ (List.mem_append_left _ (ht p hp))
    have hvl : vp.length ≤ 20 := by rw [hvp.length]; omega
    have N₂ : News _ _ _ ((g, listOf (vp ++ [Value.int q t]).toArray c') :: (news ++ own)) := N₁
    have hg : ∀ p ∈ news ++ own, p.1 ≠ g := fun p hp => (List.mem_append.mp hp).elim (fun h => Nat.ne_of_lt (l1 p h)) fun h => hoff p h g (.head _)
    clear F₁ NN N₁ hm ht
    repeat' (first | (k_unfold; (try dsimp only); (try (clear ek)); (try (clear qk))) | ((fail_if_success (fail_if_success (with_reducible show wpAny _ _ (execs (_ :: _) _) _ _ _))); k_fold) | (k_end; wrow_close) | ((fail_if_success (fail_if_success (with_reducible show wpAny _ _ (execs _ _) _ _ _))); k_here; first | ((refine' gen_tok (by assumption) (by first | omega | ((try dsimp only at *); omega)) ?_); intro _ _) | ((refine' gen_tok0 (by assumption) (by first | omega | ((try dsimp only at *); omega)) ?_); intro _ _)) | ((fail_if_success (fail_if_success (with_reducible show wpAny _ _ (call (Value.ref _) _ _) _ _ _))); k_here; first | ((with_reducible show wpAny _ _ (call (Value.ref 306) _) _ _ _); refine' next_use (by k_asm) (by k_asm) (by k_asm) (by k_asm) (by k_asm) (by exact rfl) (by ktr_room) (by ktr_units) (by assumption) (by assumption) (by assumption) ?_; k_whole; intro _ _ _ _ _ _ _; (try dsimp only)) | ((with_reducible show wpAny _ _ (call (Value.ref 250) _) _ _ _); refine' GivesT.some mul2_t (by k_asm) (by k_asm) (by k_asm) (by k_asm) (by k_asm) (by exact rfl) (by ktr_room) (by ktr_units) ?_; k_whole; intro _ _ _ _ _ _ _; (try dsimp only)) | ((with_reducible show wpAny _ _ (call (Value.ref 257) _) _ _ _); refine' GivesT.some sub_t (by k_asm) (by k_asm) (by k_asm) (by k_asm) (by k_asm) (by exact rfl) (by ktr_room) (by ktr_units) ?_; k_whole; intro _ _ _ _ _ _ _; (try dsimp only)) | ((with_reducible show wpAny _ _ (call (Value.ref 236) _) _ _ _); refine' GivesT.some add_t (by k_asm) (by k_asm) (by k_asm) (by k_asm) (by k_asm) (by exact rfl) (by ktr_room) (by ktr_units) ?_; k_whole; intro _ _ _ _ _ _ _; (try dsimp only)) | ((with_reducible show wpAny _ _ (call (Value.ref 229) _) _ _ _); refine' GivesT.val eq_t (by k_asm) (by k_asm) (by k_asm) (by k_asm) (by k_asm) (by exact rfl) (by ktr_room) (by ktr_units) ?_; k_whole; intro _ _ _ _ _; (try dsimp only)) | ((with_reducible show wpAny _ _ (call (Value.ref 222) _) _ _ _); refine' GivesT.val le_t (by k_asm) (by k_asm) (by k_asm) (by k_asm) (by k_asm) (by exact rfl) (by ktr_room) (by ktr_units) ?_; k_whole; intro _ _ _ _ _; (try dsimp only)) | ((with_reducible show wpAny _ _ (call (Value.ref 215) _) _ _ _); refine' GivesT.val lt_t (by k_asm) (by k_asm) (by k_asm) (by k_asm) (by k_asm) (by exact rfl) (by ktr_room) (by ktr_units) ?_; k_whole; intro _ _ _ _ _; (try dsimp only))) | ((fail_if_success (fail_if_success (with_reducible show wpAny _ _ (subscriptTail _ _ _ _) _ _ _))); k_here; ((with_reducible show wpAny _ _ (subscriptTail _ (PySem.Expr.UnaryOp _ _ _) (Value.ref _) (Value.int _ _)) _ _ _); (with_unfolding_all refine' kde_neg (by is_list) (by decide) (by decide) (by exact last_idx _ _) (by exact last_at _ _) ?_ (by with_unfolding_all rfl); k_whole))) | ((fail_if_success (fail_if_success (with_reducible show wpAny _ _ (call (Value.builtin _) _ _) _ _ _))); k_here; ((with_reducible show wpAny _ _ (call (Value.builtin _) ([Value.ref _] ++ [_])) _ _ _); (simp only [List.cons_append, List.nil_append]); walk1)) | walk1 | (dsimp only; (first | ((fail_if_success (fail_if_success (with_reducible show wpAny _ _ (execs _ _) _ _ _))); k_here; first | ((refine' gen_tok (by assumption) (by first | omega | ((try dsimp only at *); omega)) ?_); intro _ _) | ((refine' gen_tok0 (by assumption) (by first | omega | ((try dsimp only at *); omega)) ?_); intro _ _)) | ((fail_if_success (fail_if_success (with_reducible show wpAny _ _ (call (Value.ref _) _ _) _ _ _))); k_here; first | ((with_reducible show wpAny _ _ (call (Value.ref 306) _) _ _ _); refine' next_use (by k_asm) (by k_asm) (by k_asm) (by k_asm) (by k_asm) (by exact rfl) (by ktr_room) (by ktr_units) (by assumption) (by assumption) (by assumption) ?_; k_whole; intro _ _ _ _ _ _ _; (try dsimp only)) | ((with_reducible show wpAny _ _ (call (Value.ref 250) _) _ _ _); refine' GivesT.some mul2_t (by k_asm) (by k_asm) (by k_asm) (by k_asm) (by k_asm) (by exact rfl) (by ktr_room) (by ktr_units) ?_; k_whole; intro _ _ _ _ _ _ _; (try dsimp only)) | ((with_reducible show wpAny _ _ (call (Value.ref 257) _) _ _ _); refine' GivesT.some sub_t (by k_asm) (by k_asm) (by k_asm) (by k_asm) (by k_asm) (by exact rfl) (by ktr_room) (by ktr_units) ?_; k_whole; intro _ _ _ _ _ _ _; (try dsimp only)) | ((with_reducible show wpAny _ _ (call (Value.ref 236) _) _ _ _); refine' GivesT.some add_t (by k_asm) (by k_asm) (by k_asm) (by k_asm) (by k_asm) (by exact rfl) (by ktr_room) (by ktr_units) ?_; k_whole; intro _ _ _ _ _ _ _; (try dsimp only)) | ((with_reducible show wpAny _ _ (call (Value.ref 229) _) _ _ _); refine' GivesT.val eq_t (by k_asm) (by k_asm) (by k_asm) (by k_asm) (by k_asm) (by exact rfl) (by ktr_room) (by ktr_units) ?_; k_whole; intro _ _ _ _ _; (try dsimp only)) | ((with_reducible show wpAny _ _ (call (Value.ref 222) _) _ _ _); refine' GivesT.val le_t (by k_asm) (by k_asm) (by k_asm) (by k_asm) (by k_asm) (by exact rfl) (by ktr_room) (by ktr_units) ?_; k_whole; intro _ _ _ _ _; (try dsimp only)) | ((with_reducible show wpAny _ _ (call (Value.ref 215) _) _ _ _); refine' GivesT.val lt_t (by k_asm) (by k_asm) (by k_asm) (by k_asm) (by k_asm) (by exact rfl) (by ktr_room) (by ktr_units) ?_; k_whole; intro _ _ _ _ _; (try dsimp only))) | ((fail_if_success (fail_if_success (with_reducible show wpAny _ _ (subscriptTail _ _ _ _) _ _ _))); k_here; ((with_reducible show wpAny _ _ (subscriptTail _ (PySem.Expr.UnaryOp _ _ _) (Value.ref _) (Value.int _ _)) _ _ _); (with_unfolding_all refine' kde_neg (by is_list) (by decide) (by decide) (by exact last_idx _ _) (by exact last_at _ _) ?_ (by with_unfolding_all rfl); k_whole))) | ((fail_if_success (fail_if_success (with_reducible show wpAny _ _ (call (Value.builtin _) _ _) _ _ _))); k_here; ((with_reducible show wpAny _ _ (call (Value.builtin _) ([Value.ref _] ++ [_])) _ _ _); (simp only [List.cons_append, List.nil_append]); walk1)) | walk1)) | (leave1; (try dsimp only)) | fail "no step")
    · refine hret _ _ _ _ (by assumption) (fun q hq => (by assumption : News h₀ L _ ((g, _) :: (news ++ own))) q (cons_in hq)) (by (try dsimp only at *); omega) ⟨g, _, _, rfl, rfl, ?_, l1, tl', htl.out, hal⟩
      rw [← hch.out, if_pos (by assumption)]
      exact hvp.append (.cons _ _ .nil)
    · rename News _ _ _ _ => NN
      rename Fr _ _ _ _ => FF
      rw [List.push_toArray] at NN
      refine ⟨_, _, _, (g, _) :: (news ++ own), (g, _) :: news, rfl, FF, NN, (fun q hq => cons_in hq), (fun q hq => .tail _ (List.mem_append_right _ hq)), hoff, _, _, _, _, _, by (try dsimp only at *); omega, rfl, rfl, rfl, rfl, hvp.append (.cons _ _ .nil), ?_, ?_, tl' ++ [_], by rw [htl.out]; rfl, ?_⟩
      · rw [List.length_append, List.length_singleton]; omega
      · rw [← hch.out, if_neg (by assumption), List.append_assoc]; rfl
      · intro u hu
        rcases List.mem_append.mp hu with hu | hu
        · exact hal u hu
        · rw [List.mem_singleton.mp hu]
          exact ⟨_, _, rfl, by (try dsimp only at *); omega⟩
end
section
section
variable {prog : Program} {w : World} {A : Around} {E : Value → Shared → Prop} {s : Shared}
theorem not_told {t : Tok} {Q : Bool → Shared → Prop} (X : (Mine.hd.heap_39 w.params).In s.heap) (h : Q false s) : wpAny (model prog w) A (sharingNotTold t) Q E s :=
  (Looks.of_peek (M := model prog w) (r := false) X (by kernel_rfl)).here h
theorem is_ints {z n : Int} {tz tn : Tok} {Q : Value → Shared → Prop} (X : (Mine.hd.heap_39 w.params).In s.heap) (hz : tz ≠ 0) (hn : tn ≠ 0) (hd : z ≠ n → tz ≠ tn)
    (h1 : z = n → Q (.bool true) s) (h2 : Q (.bool false) s) : wpAny (model prog w) A (compareOp .Is (.int z tz) (.int n tn)) Q E s := by
  have e0 : (tz == 0 || tn == 0) = false := by simp [hz, hn]
  have key : wpAny (model prog w) A (isSame (.int z tz) (.int n tn)) (fun b s => Q (.bool b) s) E s := by
    show wpAny (model prog w) A (if z == n && smallInt z then isSame.cachedInt tz tn else isSame.created (z == n) tz tn) _ E s
    refine wpAny_ite ?_
    split
    · rename_i h
      unfold isSame.cachedInt
      refine wpAny_ite ?_
      rw [if_neg (by rw [e0]; exact Bool.false_ne_true)]
      refine wpAny_bind (wpAny_rule (wpAny_pure (h1 ?_)))
      simp only [Bool.and_eq_true, beq_iff_eq] at h
      exact h.1
    · unfold isSame.created
      refine wpAny_ite ?_
      rw [if_neg (by rw [e0]; exact Bool.false_ne_true)]
      refine wpAny_ite ?_
      split
      · rename_i h
        have h := eq_of_beq h
        exact wpAny_pure (h1 (Decidable.byContradiction fun hne => hd hne h))
      refine wpAny_ite ?_
      split
      · exact wpAny_pure h2
      rename_i hne
      have hzn : z = n := by simpa using hne
      refine wpAny_bind (not_told X ?_)
      first | rw [if_neg Bool.false_ne_true] | simp only [Bool.false_eq_true, if_false]
      refine wpAny_bind (not_told X ?_)
      first | rw [if_neg Bool.false_ne_true] | simp only [Bool.false_eq_true, if_false]
      have key2 : ∀ b : Bool, Q (.bool b) s := fun b => by
        cases b with
        | true => exact h1 hzn
        | false => exact h2
      exact wpAny_bind (wpAny_rule (wpAny_bind (wpAny_askSetting (wpAny_pure (key2 _)))))
  unfold compareOp
  wp_step
  refine wpAny_mono key (fun b s' q => ?_) fun _ _ e => e
  exact wpAny_pure q
end
section
variable {prog : Program} {w : World} {A : Around} {E : Value → Shared → Prop} {s : Shared} {env : Env} {h₀ : Heap} {target : Expr} {body : List Stmt} {Q : Flow → Shared → Prop}
theorem AllObj.mono : ∀ {ws : List (Addr × String)} {k k' : List (Addr × Obj) → Prop}, (∀ its, k its → k' its) → AllObj ws k → AllObj ws k'
  | [], _, _, h, x => h _ x
  | _ :: _, _, _, h, x => fun o ho => AllObj.mono (fun its y => h _ y) (x o ho)
theorem ItemsRest.byIdx {ws : List (Addr × String)} {keep : List (Addr × Obj)} {xs : List Itm} {m : Str → Option Value} {nx : List (Addr × Obj)} (P : Nat → (Str → Option Value) → List (Addr × Obj) → Prop)
    (hP : P 0 m nx)
    (hend : ∀ k m nx, xs[k]? = none → P k m nx → ∀ h tk, Fr h₀ env.locals h m → News h₀ env.locals h nx → Q .next { s with heap := h, toks := tk })
    (hstep : ∀ k a m nx, xs[k]? = some a → P k m nx → ∀ v h tk, a.Is v h → Fr h₀ env.locals h m → AllObj ws (fun its => News h₀ env.locals h (its ++ nx) →
      wpAny (model prog w) A (assign target env v) (fun _ s₂ => wpAny (model prog w) A (execs body env) (UnrPostW h₀ env.locals { s with heap := h, toks := tk } its (fun m' n' => SubL keep n' ∧ P (k + 1) m' n') Q) E s₂) E { s with heap := h, toks := tk })) :
    ItemsRest prog w A E h₀ env target body Q s ws keep xs m nx := by
  have go : ∀ (suf : List Itm) (k : Nat) (m : Str → Option Value) (nx : List (Addr × Obj)), (∀ j, suf[j]? = xs[k + j]?) → P k m nx → ItemsRest prog w A E h₀ env target body Q s ws keep suf m nx := by
    intro suf
    induction suf with
    | nil => intro k m nx hx hP; exact ItemsRest.zero (hend k m nx (by have := hx 0; simpa using this.symm) hP)
    | cons a r ih =>
      intro k m nx hx hP v h tk hv F
      refine AllObj.mono (fun its y N => ?_) (hstep k a m nx (by have := hx 0; simpa using this.symm) hP v h tk hv F)
      refine wpAny_mono (y N) (fun _ s₂ z => wpAny_mono z (fun f s₃ q => ?_) fun _ _ e => e) fun _ _ e => e
      have fin : UnrEndW h₀ env.locals { s with heap := h, toks := tk } its (fun m' n' => SubL keep n' ∧ P (k + 1) m' n') s₃ → UnrEndW h₀ env.locals { s with heap := h, toks := tk } its (fun m' n' => SubL keep n' ∧ ItemsRest prog w A E h₀ env target body Q s ws keep r m' n') s₃ := by
        rintro ⟨h', tk', m', n', a1, a2, a3, a4, a5, a6⟩
        refine ⟨h', tk', m', n', a1, a2, a3, a4, a5, ih (k + 1) m' n' (fun j => ?_) a6⟩
        have := hx (j + 1)
        rw [List.getElem?_cons_succ] at this
        rw [this, show k + (j + 1) = k + 1 + j from by omega]
      cases f with
      | ret v => exact q
      | brk => exact q
      | cont => exact fin q
      | next => exact fin q
  exact go xs 0 m nx (fun j => by rw [Nat.zero_add]) hP
end
theorem indexOf_spec (w : World) (p : Program) (loose : List Str) (mean : ExcName → Option Value) (mg mb : Str → Option Value) (l : Addr) (c0 : Nat) (vs : List Value) (ns : List Int) (hi : IntsAre vs ns) (hz : ns.length ≤ 400) (n : Int) (hn : n ∈ ns) (tn : Tok) (h0 : tn ≠ 0) (htk : ∀ v ∈ vs, ∀ z t, v = Value.int z t → t ≠ 0 ∧ (z ≠ n → t ≠ tn)) (news : List (Addr × Obj)) :
    Gives w p loose mean mg mb 278 3 30 ((l, listOf vs.toArray c0) :: news) [.ref l, .int n tn] (fun r nx => (∃ t, r = .int ((ns.idxOf n : Nat) : Int) t) ∧ nx = (l, listOf vs.toArray c0) :: news) := by
  w_on
  intro dp un gd cn cs a ccd cl outer A₀ base h₀ L m s Q E B F X N T hk hd hu hret
  refine wpAny_call ?_
  k_dflt cell_enter
  repeat' (first | (k_unfold; (try dsimp only)) | ((fail_if_success (with_reducible show wpAny _ _ (exec (Stmt.For _ _ _ _ _) _) _ _ _)); (fail_if_success (with_reducible show wpAny _ _ (execs (Stmt.For _ _ _ _ _ :: _) _) _ _ _)); (first | ((fail_if_success (fail_if_success (with_reducible show wpAny _ _ (compareOp _ _ _) _ _ _))); k_here; ((with_reducible show wpAny _ _ (compareOp CmpOp.Is (Value.int _ _) (Value.int _ _)) _ _ _); refine' is_ints (by k_in) (by assumption) (by assumption) (by assumption) (fun _ => ?_) ?_; k_whole)) | walk1)) | (leave1; try dsimp only))
  refine wpAny_execs_cons ?_
  rename_i g0 L0 _h0 FG0 FF NN B0 X0 T0
  (with_unfolding_all refine' For_turnsE (h₀ := g0) ?_; k_whole)
  repeat' (first | (k_unfold; (try dsimp only)) | ((fail_if_success (with_reducible show wpAny _ _ (call _ _) _ _ _)); (fail_if_success (with_reducible show wpAny _ _ (pyIter _) _ _ _)); (first | ((fail_if_success (fail_if_success (with_reducible show wpAny _ _ (compareOp _ _ _) _ _ _))); k_here; ((with_reducible show wpAny _ _ (compareOp CmpOp.Is (Value.int _ _) (Value.int _ _)) _ _ _); refine' is_ints (by k_in) (by assumption) (by assumption) (by assumption) (fun _ => ?_) ?_; k_whole)) | walk1)) | (leave1; try dsimp only))
  refine ktu_enum rfl FF NN (.head _) rfl rfl rfl fun I hI => ?_
  refine ItemsRest.byIdx (fun k m nx => m (Str.ofString "b") = some (.int n tn) ∧ nx = (l, listOf vs.toArray c0) :: news ∧ n ∈ ns.drop k ∧ k + (ns.drop k).idxOf n = ns.idxOf n) ?_ ?_ ?_
  · exact ⟨rfl, rfl, hn, Nat.zero_add _⟩
  · rintro k m₁ nx hk' ⟨_, _, h3, _⟩ h tk _ _
    have h4 : ns.length ≤ k := by
      have h5 := List.getElem?_eq_none_iff.mp hk'
      rw [enumItems_length, hi.length] at h5
      exact h5
    rw [List.drop_eq_nil_of_le h4] at h3
    cases h3
  · rintro k a m₁ nx hk' ⟨e1, rfl, h3, h4⟩ u h tk hu' F₁
    have hkl : k < ns.length := by
      rcases Nat.lt_or_ge k ns.length with h | h
      · exact h
      · rw [List.drop_eq_nil_of_le h] at h3; cases h3
    obtain ⟨z, hz1⟩ : ∃ z, ns[k]? = some z := ⟨_, List.getElem?_eq_getElem hkl⟩
    obtain ⟨tz, hv1⟩ := hi.get k z hz1
    have ha := (enumItems_get vs 0 k hv1).symm.trans hk'
    cases ha
    obtain ⟨hq1, hq2⟩ := htk _ (List.mem_of_getElem? hv1) _ _ rfl
    obtain ⟨T9, t9, rfl, hT9⟩ := hu'
    rw [drop_at hz1] at h3 h4
    have h3 := PySem.Flt.Hid.mk h3
    have h4 := PySem.Flt.Hid.mk h4
    have F₂ := fr_put1 F₁ e1
    refine AllObj.cons fun o1 c1 => AllObj.cons fun o2 c2 => AllObj.nil fun N₁ => ?_
    have N₂ : News g0 L0 h ((I + 1, o1) :: (I, o2) :: (l, listOf vs.toArray c0) :: news) := N₁
    clear F₁ FF NN N₁ hk' hv1 hz1
    repeat' (first | (k_unfold; (try dsimp only); (try (clear ek)); (try (clear qk))) | ((fail_if_success (fail_if_success (with_reducible show wpAny _ _ (execs (_ :: _) _) _ _ _))); k_fold) | (k_end; wrow_close) | ((fail_if_success (fail_if_success (with_reducible show wpAny _ _ (compareOp _ _ _) _ _ _))); k_here; ((with_reducible show wpAny _ _ (compareOp CmpOp.Is (Value.int _ _) (Value.int _ _)) _ _ _); refine' is_ints (by k_in) (by assumption) (by assumption) (by assumption) (fun _ => ?_) ?_; k_whole)) | walk1 | (dsimp only; (first | ((fail_if_success (fail_if_success (with_reducible show wpAny _ _ (compareOp _ _ _) _ _ _))); k_here; ((with_reducible show wpAny _ _ (compareOp CmpOp.Is (Value.int _ _) (Value.int _ _)) _ _ _); refine' is_ints (by k_in) (by assumption) (by assumption) (by assumption) (fun _ => ?_) ?_; k_whole)) | walk1)) | (leave1; (try dsimp only)) | fail "no step")
    · rename z = n => ez
      have e5 := h4.out
      rw [ez, List.idxOf_cons_self] at e5
      refine hret _ _ _ _ (by assumption) (fun q hq => (by assumption : News h₀ L _ ((I + 1, o1) :: (I, o2) :: (l, listOf vs.toArray c0) :: news)) q (.tail _ (.tail _ hq))) ⟨⟨_, congrArg (fun x => Value.int x _) ?_⟩, rfl⟩
      omega
    · rename z = n => ez
      have e5 := h4.out
      rw [ez, List.idxOf_cons_self] at e5
      refine hret _ _ _ _ (by assumption) (fun q hq => (by assumption : News h₀ L _ ((I + 1, o1) :: (I, o2) :: (l, listOf vs.toArray c0) :: news)) q (.tail _ (.tail _ hq))) ⟨⟨_, congrArg (fun x => Value.int x _) ?_⟩, rfl⟩
      omega
    · rename z ≠ n => ez
      have e5 := h4.out
      have e3 := h3.out
      rw [List.idxOf_cons, show (z == n) = false from by simpa using ez] at e5
      simp only [cond_false] at e5
      refine ⟨_, _, _, (l, listOf vs.toArray c0) :: news, rfl, by assumption, by assumption, ?_, ⟨.head _, trivial⟩, rfl, rfl, ?_, ?_⟩
      · intro p hp q hq
        have hp := hI p hp
        rcases List.mem_cons.mp hq with rfl | hq
        · exact Nat.ne_of_lt (Nat.lt_succ_of_lt hp)
        · rw [List.mem_singleton.mp hq]; exact Nat.ne_of_lt hp
      · exact (List.mem_cons.mp e3).resolve_left (fun h => ez h.symm)
      · omega
end
section
noncomputable def recOf {q : Program} {loose : List Str} {XP : (Str → Option Value) → Heap → Prop} {YP : World → Heap → Prop} {r : RowW} {d : DefRec} {kwd : List (Str × PySem.Expr)} {run : Value → List Value → Sem Value} {R : Prop}
    (_ : WalkO q loose XP YP r d kwd run → R) : DefRec := d
noncomputable abbrev lawDef : DefRec := recOf hd
/-- the law's body from its k-th statement on, whatever follows -/
abbrev LawGo (w : World) (p : Program) (loose : List Str) (mean : ExcName → Option Value) (mg mb : Str → Option Value) (k : Nat) (Pre : Heap → (Str → Option Value) → List (Addr × Obj) → Nat → Prop) : Prop :=
  ∀ (dp un : Nat) (gd : Option (List Code)) (a : Addr) (ccd : Value) (A₀ : Around) (h₀ : Heap) (L : Addr) (m : Str → Option Value) (news : List (Addr × Obj)) (s : Shared) (Q : Flow → Shared → Prop) (E : Value → Shared → Prop),
    Below A₀ h₀ [] h₀ → Fr h₀ L s.heap m → (Mine.hd.heap_39 w.params).In h₀ → News h₀ L s.heap news → Top p loose mean mg mb h₀ → dp + 60 < recursionLimit → un + 600 < cLine → Pre h₀ m news s.toks →
    (∀ (h' : Heap) (tk' : Nat) (m' : Str → Option Value), Fr h₀ L h' m' → Q (.ret (.bool true)) { s with heap := h', toks := tk' }) →
    wpAny (model PR w) (ktrTop dp un gd lawDef.name lawDef.scope L a ccd [] []) (execs (lawDef.body.drop k) (envX lawDef.name lawDef.scope L a ccd [])) Q E s
theorem law_holds (main : ∀ w p loose mean mg mb, LawGo w p loose mean mg mb 0 (fun h₀ m news tk => news = [] ∧ 0 < tk ∧ ∃ l vs ns, m (Str.ofString "script") = some (.ref l) ∧ h₀.IsList l vs.toArray ∧ IntsAre vs ns ∧ ns.length ≤ 63)) : PySem.Challenge.rw_kl0478_01.Holds := hd (by
  k_go0
  (all_goals try k_fold)
  rename Below callerA _ _ _ => BB
  rename Fr _ _ _ _ => FF
  rename News _ _ _ _ => NN
  rename Top _ _ _ _ _ _ => TT
  rename Frag.In _ _ => XX
  rename IntsAre _ _ => II
  rename Heap.IsList _ _ _ => LL
  refine main _ _ _ _ _ _ _ _ _ _ _ _ _ _ _ _ _ _ _ BB FF XX NN TT ?hd ?hu ⟨rfl, ?ht, _, _, _, rfl, LL, II, ?hl⟩ ?hq
  case hd => decide
  case hu =>
    have := cLine_is
    show callerA.units + 3 + 600 < cLine
    rw [show callerA.units = 4 from rfl]
    omega
  case ht => exact Nat.succ_pos _
  case hl => omega
  case hq =>
    intro h' tk' m' F'
    clear main FF NN
    show GoodW _ _ _ _ _ (.ok (.ret (.bool true))) _
    (try dsimp only)
    k_steps)
end
section
theorem eight {l : List Int} (h : l.length = 8) : ∃ a b c d e f g i, l = [a, b, c, d, e, f, g, i] := by
  match l, h with
  | [a, b, c, d, e, f, g, i], _ => exact ⟨a, b, c, d, e, f, g, i, rfl⟩
theorem take8 (ns : List Int) : (List.take 8 (ns ++ [4, 2, 1, 2, 5, 6, 0, 1])).length = 8 := by
  rw [List.length_take, List.length_append]
  exact Nat.min_eq_left (Nat.le_add_left 8 _)
noncomputable def Cells8 (C : Addr) (h : (Addr × Obj)) (n0 n1 n2 n3 n4 n5 n6 n7 : Int) : Prop := ∃ c vs, h = (C, listOf (List.toArray vs) c) ∧ IntsAre vs [n0, n1, n2, n3, n4, n5, n6, n7]
theorem cells8 {vs : List Value} {ns : List Int} (h : IntsAre vs (List.take 8 (ns ++ [4, 2, 1, 2, 5, 6, 0, 1]))) : ∃ n0 n1 n2 n3 n4 n5 n6 n7, IntsAre vs [n0, n1, n2, n3, n4, n5, n6, n7] := by
  obtain ⟨n0, n1, n2, n3, n4, n5, n6, n7, e8⟩ := eight (take8 ns)
  rw [e8] at h
  exact ⟨n0, n1, n2, n3, n4, n5, n6, n7, h⟩
theorem law_1 (w : World) (p : Program) (loose : List Str) (mean : ExcName → Option Value) (mg mb : Str → Option Value)
    (rest : LawGo w p loose mean mg mb 1 (fun h₀ m news tk => 0 < tk ∧ ∃ C c vs, m (Str.ofString "cells") = some (.ref C) ∧ news = [(C, listOf (List.toArray vs) c)] ∧ ∃ n0 n1 n2 n3 n4 n5 n6 n7, IntsAre vs [n0, n1, n2, n3, n4, n5, n6, n7])) :
    LawGo w p loose mean mg mb 0 (fun h₀ m news tk => news = [] ∧ 0 < tk ∧ ∃ l vs ns, m (Str.ofString "script") = some (.ref l) ∧ h₀.IsList l vs.toArray ∧ IntsAre vs ns ∧ ns.length ≤ 63) := by
  w_on
  intro dp un gd a ccd A₀ h₀ L m news s Q E B F X N T hd hu hpre hret
  obtain ⟨rfl, ht, l, vs, ns, e1, hl, hi, hn⟩ := hpre
  have F₂ := fr_put1 F e1
  have hl2 : s.heap.IsList l vs.toArray := by
    obtain ⟨o, ho, h2⟩ := hl
    exact ⟨o, F.keep _ _ ho, h2⟩
  clear F
  show wpAny _ _ (execs (_ :: _) _) _ _ _
  refine wpAny_execs_cons ?_
  repeat' (first | (k_unfold; (try dsimp only)) | ((fail_if_success (with_reducible show wpAny _ _ (execs _ _) _ _ _)); (first | ((fail_if_success (fail_if_success (with_reducible show wpAny _ _ (subscriptTail _ _ _ _) _ _ _))); k_here; ((with_reducible show wpAny _ _ (subscriptTail (PySem.Expr.Name _ _) (PySem.Expr.Slice _ _ _ _) (Value.ref _) (Value.ref _)) _ _ _); k_dflt (refine' kms_slice_lit (by k_asm) (by k_asm) (by kmk_list) (by kmk_part) (by kmk_part) (by exact pick_to (n := 8) (by (have := IntsAre.length (by assumption)); simp only [List.length_append, List.length_cons, List.length_nil] at this; omega)) ?_ (by with_unfolding_all rfl) (by kmk_pure) (by kmk_size)); intro _ _ _ _ zl1; (try k_lt zl1); (try (revert zl1; intro _)))) | walk1)) | (leave1; try dsimp only))
  rename Fr _ _ _ _ => FF
  rename News _ _ _ _ => NN
  rename IntsAre _ _ => II
  have I8 := cells8 II
  clear II
  exact rest _ _ _ _ _ _ _ _ _ _ _ _ _ B FF X (fun q hq => NN q (by rw [List.mem_singleton.mp hq]; exact .head _)) T hd hu ⟨Nat.lt_of_lt_of_le ht (by (try dsimp only); omega), _, _, _, rfl, rfl, I8⟩ hret
end
section
theorem ints8 {vs : List Value} {n0 n1 n2 n3 n4 n5 n6 n7 : Int} (h : IntsAre vs [n0, n1, n2, n3, n4, n5, n6, n7]) : ∃ t0 t1 t2 t3 t4 t5 t6 t7, vs = [.int n0 t0, .int n1 t1, .int n2 t2, .int n3 t3, .int n4 t4, .int n5 t5, .int n6 t6, .int n7 t7] := by
  cases h with | cons _ t0 h => cases h with | cons _ t1 h => cases h with | cons _ t2 h => cases h with | cons _ t3 h => cases h with | cons _ t4 h => cases h with | cons _ t5 h => cases h with | cons _ t6 h => cases h with | cons _ t7 h => cases h; exact ⟨t0, t1, t2, t3, t4, t5, t6, t7, rfl⟩
noncomputable def CellsOn (C : Addr) (o : Obj) (n0 n1 n2 n3 n4 n5 n6 n7 : Int) : Prop := ∃ c t0 t1 t2 t3 t4 t5 t6 t7, o = listOf #[.int n0 t0, .int n1 t1, .int n2 t2, .int n3 t3, .int n4 t4, .int n5 t5, .int n6 t6, .int n7 t7] c
theorem law_2 (w : World) (p : Program) (loose : List Str) (mean : ExcName → Option Value) (mg mb : Str → Option Value)
    (rest : LawGo w p loose mean mg mb 2 (fun h₀ m news tk => 0 < tk ∧ ∃ C o U tU n0 n1 n2 n4 n5 n6 n7, m (Str.ofString "cells") = some (.ref C) ∧ news = [(C, o)] ∧ (∃ n3, CellsOn C o n0 n1 n2 n3 n4 n5 n6 n7) ∧ m (Str.ofString "unit") = some (.int U tU) ∧ 1 ≤ U ∧ U ≤ 1000000)) :
    LawGo w p loose mean mg mb 1 (fun h₀ m news tk => 0 < tk ∧ ∃ C c vs, m (Str.ofString "cells") = some (.ref C) ∧ news = [(C, listOf (List.toArray vs) c)] ∧ ∃ n0 n1 n2 n3 n4 n5 n6 n7, IntsAre vs [n0, n1, n2, n3, n4, n5, n6, n7]) := by
  w_on
  intro dp un gd a ccd A₀ h₀ L m news s Q E B F X N T hd hu hpre hret
  obtain ⟨ht, C, c, vs, e1, rfl, n0, n1, n2, n3, n4, n5, n6, n7, hi⟩ := hpre
  obtain ⟨t0, t1, t2, t3, t4, t5, t6, t7, rfl⟩ := ints8 hi
  have F₂ := fr_put1 F e1
  clear F hi
  show wpAny _ _ (execs (_ :: _) _) _ _ _
  refine wpAny_execs_cons ?_
  repeat' (first | (k_unfold; (try dsimp only)) | ((fail_if_success (with_reducible show wpAny _ _ (execs _ _) _ _ _)); walk1) | (leave1; try dsimp only))
  rename Fr _ _ _ _ => FF
  rename News _ _ _ _ => NN
  have b1 : 1 ≤ n3.fmod 1000000 + 1 := Int.le_add_of_nonneg_left (fmod_lo n3 (by decide))
  have b2 : n3.fmod 1000000 + 1 ≤ 1000000 := fmod_hi n3 (by decide)
  exact rest _ _ _ _ _ _ _ _ _ _ _ _ _ B FF X NN T hd hu ⟨Nat.lt_of_lt_of_le ht (by (try dsimp only); omega), C, _, _, _, n0, n1, n2, n4, n5, n6, n7, rfl, rfl, ⟨n3, c, t0, t1, t2, t3, t4, t5, t6, t7, rfl⟩, rfl, b1, b2⟩ hret
noncomputable def LensOn (oL : Obj) (u x y z : Nat) : Prop := ∃ c t1 t2 t3, oL = listOf #[.int ((u * x : Nat) : Int) t1, .int ((u * y : Nat) : Int) t2, .int ((u * z : Nat) : Int) t3] c
noncomputable def Geo (u x y z : Nat) : Prop := 1 ≤ u ∧ u ≤ 1000000 ∧ x < 7 ∧ y < 7 ∧ 1 ≤ z ∧ z ≤ 6
theorem lens_nat {U a b c : Int} {cc : Nat} {t1 t2 t3 : Tok} (h1 : 1 ≤ U) (h2 : U ≤ 1000000) : ∃ u x y z : Nat, LensOn (listOf #[.int (U * a.fmod 7) t1, .int (U * b.fmod 7) t2, .int (U * (c.fmod 6 + 1)) t3] cc) u x y z ∧ Geo u x y z := by
  have a1 := fmod_lo a (n := 7) (by decide)
  have a2 := fmod_hi a (n := 7) (by decide)
  have a3 := fmod_lo b (n := 7) (by decide)
  have a4 := fmod_hi b (n := 7) (by decide)
  have a5 := fmod_lo c (n := 6) (by decide)
  have a6 := fmod_hi c (n := 6) (by decide)
  generalize a.fmod 7 = x at *
  generalize b.fmod 7 = y at *
  generalize c.fmod 6 = z at *
  refine ⟨U.toNat, x.toNat, y.toNat, (z + 1).toNat, ⟨cc, t1, t2, t3, ?_⟩, by omega, by omega, by omega, by omega, by omega, by omega⟩
  rw [Int.natCast_mul, Int.natCast_mul, Int.natCast_mul, Int.toNat_of_nonneg (by omega), Int.toNat_of_nonneg a1, Int.toNat_of_nonneg a3, Int.toNat_of_nonneg (by omega)]
/-- the unit and the three cells that make the lengths -/
theorem law_3 (w : World) (p : Program) (loose : List Str) (mean : ExcName → Option Value) (mg mb : Str → Option Value)
    (rest : LawGo w p loose mean mg mb 3 (fun h₀ m news tk => 0 < tk ∧ ∃ (C : Addr) (o : Obj) (Ln : Addr) (oL : Obj) (u x y z : Nat) (n4 n5 n6 n7 : Int), m (Str.ofString "cells") = some (.ref C) ∧ m (Str.ofString "lengths") = some (.ref Ln) ∧ news = [(Ln, oL), (C, o)] ∧ (∃ n0 n1 n2 n3, CellsOn C o n0 n1 n2 n3 n4 n5 n6 n7) ∧ LensOn oL u x y z ∧ Geo u x y z)) :
    LawGo w p loose mean mg mb 2 (fun h₀ m news tk => 0 < tk ∧ ∃ C o U tU n0 n1 n2 n4 n5 n6 n7, m (Str.ofString "cells") = some (.ref C) ∧ news = [(C, o)] ∧ (∃ n3, CellsOn C o n0 n1 n2 n3 n4 n5 n6 n7) ∧ m (Str.ofString "unit") = some (.int U tU) ∧ 1 ≤ U ∧ U ≤ 1000000) := by
  w_on
  intro dp un gd a ccd A₀ h₀ L m news s Q E B F X N T hd hu hpre hret
  obtain ⟨ht, C, o, U, tU, n0, n1, n2, n4, n5, n6, n7, e1, rfl, ⟨n3, c, t0, t1, t2, t3, t4, t5, t6, t7, rfl⟩, e2, b1, b2⟩ := hpre
  have F₂ := fr_put2 F e1 e2
  clear F
  show wpAny _ _ (execs (_ :: _) _) _ _ _
  refine wpAny_execs_cons ?_
  repeat' (first | (k_unfold; (try dsimp only)) | ((fail_if_success (with_reducible show wpAny _ _ (execs _ _) _ _ _)); walk1) | (leave1; try dsimp only))
  rename Fr _ _ _ _ => FF
  rename News _ _ _ _ => NN
  dsimp only
  obtain ⟨u, x, y, z, hL, hG⟩ := lens_nat (cc := 0) (t1 := s.toks + 1 + 1 + 1) (t2 := s.toks + 1 + 1 + 1 + 1 + 1 + 1 + 1) (t3 := s.toks + 1 + 1 + 1 + 1 + 1 + 1 + 1 + 1 + 1 + 1 + 1 + 1 + 1) (a := n0) (b := n1) (c := n2) b1 b2
  exact rest _ _ _ _ _ _ _ _ _ _ _ _ _ B FF X NN T hd hu ⟨Nat.lt_of_lt_of_le ht (by (try dsimp only); omega), C, _, _, _, u, x, y, z, n4, n5, n6, n7, rfl, rfl, rfl, ⟨n0, n1, n2, n3, c, t0, t1, t2, t3, t4, t5, t6, t7, rfl⟩, hL, hG⟩ hret
end
section
section
variable {w : World} {p : Program} {loose : List Str} {mean : ExcName → Option Value} {mg mb : Str → Option Value} {f : Addr} {D U : Nat} {news : List (Addr × Obj)} {vs : List Value}
  {dp un : Nat} {gd : Option (List Code)} {cn : Str} {cs : Scope} {a : Addr} {ccd : Value} {cl : List (Str × Addr)} {outer : List Env} {A₀ : Around} {base h₀ : Heap} {L : Addr} {m : Str → Option Value} {s : Shared} {Q E : Value → Shared → Prop}
theorem use_t {Ret : Value → List (Addr × Obj) → Prop} (g : Gives w p loose mean mg mb f D U news vs Ret) (B : Below A₀ base outer h₀) (F : Fr h₀ L s.heap m) (X : (Mine.hd.heap_39 w.params).In h₀) (N : News h₀ L s.heap news) (T : Top p loose mean mg mb h₀) (hk : cs.kind = .function)
    (hd : dp + D < recursionLimit) (hu : un + U < cLine)
    (ret : ∀ (r : Value) (news' : List (Addr × Obj)) (h' : Heap) (tk' : Nat), Fr h₀ L h' m → News h₀ L h' news' → s.toks ≤ tk' → Ret r news' → Q r { s with heap := h', toks := tk' }) :
    wpAny (model PR w) (ktrTop dp un gd cn cs L a ccd cl outer) (call (.ref f) vs) Q E s :=
  any_toks (g dp un gd cn cs a ccd cl outer A₀ base h₀ L m s _ _ B F X N T hk hd hu fun r n h t F' N' R hle => ret r n h t F' N' hle R)
theorem use_tT {Ret : Value → List (Addr × Obj) → Nat → Nat → Prop} (g : GivesT w p loose mean mg mb f D U news vs Ret) (B : Below A₀ base outer h₀) (F : Fr h₀ L s.heap m) (X : (Mine.hd.heap_39 w.params).In h₀) (N : News h₀ L s.heap news) (T : Top p loose mean mg mb h₀) (hk : cs.kind = .function)
    (hd : dp + D < recursionLimit) (hu : un + U < cLine)
    (ret : ∀ (r : Value) (news' : List (Addr × Obj)) (h' : Heap) (tk' : Nat), Fr h₀ L h' m → News h₀ L h' news' → s.toks ≤ tk' → Ret r news' s.toks tk' → Q r { s with heap := h', toks := tk' }) :
    wpAny (model PR w) (ktrTop dp un gd cn cs L a ccd cl outer) (call (.ref f) vs) Q E s :=
  g dp un gd cn cs a ccd cl outer A₀ base h₀ L m s _ _ B F X N T hk hd hu ret
theorem turn_nil {g g' : Heap} (T : KtsTurn [] g g') : ∀ b o, g.get? b = some o → g'.get? b = some o := fun b o e => T.other b o e (fun h => nomatch h)
theorem use_S {Ret : Value → List (Addr × Obj) → Prop} (g : GivesS w p loose mean mg mb f D U news vs Ret) (B : Below A₀ h₀ [] h₀) (F : Fr h₀ L s.heap m) (X : (Mine.hd.heap_39 w.params).In h₀) (N : News h₀ L s.heap news) (T : Top p loose mean mg mb h₀) (hk : cs.kind = .function)
    (hd : dp + D < recursionLimit) (hu : un + U < cLine)
    (ret : ∀ (r : Value) (news' : List (Addr × Obj)) (h' : Heap) (tk' : Nat), Fr h₀ L h' m → News h₀ L h' news' → s.toks ≤ tk' → Ret r news' → Q r { s with heap := h', toks := tk' }) :
    wpAny (model PR w) (ktrTop dp un gd cn cs L a ccd [] []) (call (.ref f) vs) Q E s :=
  any_toks (g dp un gd cn cs a ccd [] A₀ h₀ h₀ L m s _ _ B F X N T hk hd hu X T ktsDicts_nil fun r n h t g' tu F' N' _ _ _ _ R hle =>
    ret r n h t ⟨F'.ns, fun b o e => F'.keep b o (turn_nil tu b o e), F.above⟩ (fun q hq => ⟨(N' q hq).1, (N' q hq).2.1, kts_none (turn_nil tu) (N' q hq).2.2⟩) hle R)
end
end
section
theorem geo_sizes {u x y z : Nat} (h : Geo u x y z) : u * x ≤ 6000000 ∧ u * y ≤ 6000000 ∧ u * z ≤ 6000000 := by
  obtain ⟨_, h2, h3, h4, _, h6⟩ := h
  exact ⟨Nat.le_trans (Nat.mul_le_mul h2 (Nat.le_of_lt_succ h3)) (by decide), Nat.le_trans (Nat.mul_le_mul h2 (Nat.le_of_lt_succ h4)) (by decide), Nat.le_trans (Nat.mul_le_mul h2 h6) (by decide)⟩
theorem gcd_le_add (m n : Nat) : Nat.gcd m n ≤ m + n := by
  rcases Nat.eq_zero_or_pos n with rfl | h
  · simp
  · exact Nat.le_trans (Nat.gcd_le_right m h) (Nat.le_add_left _ _)
theorem geo_room {u x y z a b d : Nat} (ha : a = u * x) (hb : b = u * y) (hd : d = u * z) : (2 * ((a : Int) + ((b : Int) + ((d : Int) + 0)))) = ((2 * (u * (x + y + z)) : Nat) : Int) := by
  subst ha hb hd
  have e : u * (x + y + z) = u * x + u * y + u * z := by rw [Nat.mul_add, Nat.mul_add]
  rw [e]; omega
theorem geo_step {u x y z a b d : Nat} (ha : a = u * x) (hb : b = u * y) (hd : d = u * z) : (2 * ((Nat.gcd (a + b) (b + d) : Nat) : Int)) = ((2 * (u * Nat.gcd (x + y) (y + z)) : Nat) : Int) := by
  subst ha hb hd
  rw [← Nat.mul_add, ← Nat.mul_add, Nat.gcd_mul_left]; omega
theorem law_4 (w : World) (p : Program) (loose : List Str) (mean : ExcName → Option Value) (mg mb : Str → Option Value)
    (rest : LawGo w p loose mean mg mb 5 (fun h₀ m news tk => 0 < tk ∧ ∃ (C : Addr) (o : Obj) (Ln : Addr) (oL : Obj) (u x y z : Nat) (n4 n5 n6 n7 : Int) (tr ts : Tok), m (Str.ofString "cells") = some (.ref C) ∧ m (Str.ofString "lengths") = some (.ref Ln) ∧ m (Str.ofString "room") = some (.int ((2 * (u * (x + y + z)) : Nat) : Int) tr) ∧ m (Str.ofString "step") = some (.int ((2 * (u * Nat.gcd (x + y) (y + z)) : Nat) : Int) ts) ∧ news = [(Ln, oL), (C, o)] ∧ (∃ n0 n1 n2 n3, CellsOn C o n0 n1 n2 n3 n4 n5 n6 n7) ∧ LensOn oL u x y z ∧ Geo u x y z)) :
    LawGo w p loose mean mg mb 3 (fun h₀ m news tk => 0 < tk ∧ ∃ (C : Addr) (o : Obj) (Ln : Addr) (oL : Obj) (u x y z : Nat) (n4 n5 n6 n7 : Int), m (Str.ofString "cells") = some (.ref C) ∧ m (Str.ofString "lengths") = some (.ref Ln) ∧ news = [(Ln, oL), (C, o)] ∧ (∃ n0 n1 n2 n3, CellsOn C o n0 n1 n2 n3 n4 n5 n6 n7) ∧ LensOn oL u x y z ∧ Geo u x y z) := by
  w_on
  intro dp un gd a ccd A₀ h₀ L m news s Q E B F X N T hd hu hpre hret
  obtain ⟨ht, C, o, Ln, oL, u, x, y, z, n4, n5, n6, n7, e1, e2, rfl, hC, ⟨c, t1, t2, t3, rfl⟩, hG⟩ := hpre
  have F₂ := fr_put2 F e1 e2
  obtain ⟨a, ha⟩ : ∃ a, a = u * x := ⟨_, rfl⟩
  obtain ⟨b, hb⟩ : ∃ b, b = u * y := ⟨_, rfl⟩
  obtain ⟨d, hd'⟩ : ∃ d, d = u * z := ⟨_, rfl⟩
  rw [← ha, ← hb, ← hd'] at N
  have hz := geo_sizes hG
  rw [← ha, ← hb, ← hd'] at hz
  have q1 : (a : Int) ≤ 6000000 := by omega
  have q2 : (b : Int) ≤ 6000000 := by omega
  have q3 : (d : Int) ≤ 6000000 := by omega
  clear F
  show wpAny _ _ (execs (_ :: _) _) _ _ _
  refine wpAny_execs_cons (any_toks ?_)
  repeat' (first | (k_unfold; (try dsimp only)) | ((fail_if_success (with_reducible show wpAny _ _ (execs _ _) _ _ _)); walk1) | (leave1; try dsimp only))
  dsimp only
  refine wpAny_execs_cons ?_
  repeat' (first | (k_unfold; (try dsimp only)) | ((fail_if_success (with_reducible show wpAny _ _ (execs _ _) _ _ _)); (fail_if_success (with_reducible show wpAny _ _ (call (Value.ref 341) _) _ _ _)); walk1) | (leave1; try dsimp only))
  rename Fr _ _ _ _ => FF
  rename News _ _ _ _ => NN
  rename _ ≤ _ => hle
  show wpAny _ _ (call _ [.int ((a + b : Nat) : Int) _, .int ((b + d : Nat) : Int) _]) _ _ _
  refine use_t (common_spec w p loose mean mg mb (a + b) (b + d) _ _ (by omega) (by omega) _) B FF X NN T rfl (by omega) (by omega) ?_
  rintro r news' h' tk' F' N' hle2 ⟨⟨t, rfl⟩, rfl⟩
  clear FF NN
  have hg1 : ((Nat.gcd (a + b) (b + d) : Nat) : Int) ≤ 24000000 := by
    have := gcd_le_add (a + b) (b + d)
    omega
  obtain ⟨gg, hgg⟩ : ∃ gg, gg = ((Nat.gcd (a + b) (b + d) : Nat) : Int) := ⟨_, rfl⟩
  have hg0 : 0 ≤ gg := by omega
  rw [← hgg] at hg1 ⊢
  repeat' (first | (k_unfold; (try dsimp only)) | ((fail_if_success (with_reducible show wpAny _ _ (execs _ _) _ _ _)); walk1) | (leave1; try dsimp only))
  dsimp only
  rename Fr _ _ _ _ => FF
  rename News _ _ _ _ => NN
  subst hgg
  rw [ha, hb, hd'] at NN
  exact rest _ _ _ _ _ _ _ _ _ _ _ _ _ B FF X NN T hd hu ⟨by (try dsimp only at *); omega, C, o, Ln, _, u, x, y, z, n4, n5, n6, n7, _, _, rfl, rfl, congrArg (fun v => some (Value.int v _)) (geo_room ha hb hd'), congrArg (fun v => some (Value.int v _)) (geo_step ha hb hd'), rfl, hC, ⟨c, t1, t2, t3, rfl⟩, hG⟩ hret
end
section
/-- what a list made of a range holds, the tokens told -/
noncomputable def RangeVals (a c : Int) (k0 k1 : Nat) (acc : Array Value) (n : Nat) : Prop := acc.size = n ∧ ∀ (j : Nat) (v : Value), acc[j]? = some v → ∃ t, v = .int (a + (j : Nat) * c) t ∧ k0 ≤ t ∧ t < k1
theorem RangeVals.push {a c : Int} {k0 k1 : Nat} {acc : Array Value} {n : Nat} (h : RangeVals a c k0 k1 acc n) {t : Tok} (h1 : k0 ≤ t) (h2 : k1 ≤ t) : RangeVals a c k0 (t + 1) (acc.push (.int (a + (n : Nat) * c) t)) (n + 1) := by
  refine ⟨by rw [Array.size_push, h.1], fun j v hv => ?_⟩
  rw [Array.getElem?_push] at hv
  split at hv
  · rename_i e
    cases hv
    exact ⟨t, by rw [e, h.1], h1, Nat.lt_succ_self _⟩
  · obtain ⟨u, rfl, b1, b2⟩ := h.2 j v hv
    exact ⟨u, rfl, b1, Nat.lt_succ_of_lt (Nat.lt_of_lt_of_le b2 h2)⟩
section
variable {prog : Program} {w : World} {A : Around} {E : Value → Shared → Prop}
theorem ext_loopT {R : Result → Shared → Prop} (hh : A.handled = none) {I S : Addr} (hSI : S ≠ I) {a c : Int} {n : Nat} {res : Value} {k0 : Nat} (hn : n ≤ sizeLine) : ∀ (k i : Nat) (s : Shared) (acc : Array Value) (c0 : Nat), n - i = k → i ≤ n → IsRangeIter s.heap I (a + (i : Nat) * c) ((n : Int) - (i : Nat)) c →
    s.heap.get? S = some { cls := .type "list", dict := none, data := .seq acc c0, slots := #[] } → RangeVals a c k0 s.toks acc i → k0 ≤ s.toks →
    (∀ h' tk acc' c', (∀ b o, b ≠ S → b ≠ I → s.heap.get? b = some o → h'.get? b = some o) → h'.get? S = some { cls := .type "list", dict := none, data := .seq acc' c', slots := #[] } → RangeVals a c k0 tk acc' n → R (.ok (.ret res)) { s with heap := h', toks := tk }) →
    codeAny (model prog w) A (.builtin "list.extend.loop" ⟨[.ref S, .ref I, res], []⟩) R s := by
  intro k
  induction k with
  | zero =>
    intro i s acc c0 hk hi hit hS hacc h0 hR
    have hin : i = n := by omega
    subst hin
    refine codeAny_builtin F.entry_extend_loop ?_
    rw [Around.under_plainId F.plain_extend_loop _]
    show wpAny _ A.in1 (pyNext (.ref I) >>= _) _ _ s
    refine wpAny_bind (wpAny_pyNext_range_end (A := A.in1) hh hit (by omega) fun h' he => ?_)
    exact wpAny_pure (hR h' s.toks acc c0 (fun b o _ hb e => he b o hb e) (he S _ hSI hS) hacc)
  | succ k ih =>
    intro i s acc c0 hk hi hit hS hacc h0 hR
    refine codeAny_builtin F.entry_extend_loop ?_
    rw [Around.under_plainId F.plain_extend_loop _]
    show wpAny _ A.in1 (pyNext (.ref I) >>= _) _ _ s
    refine wpAny_bind (wpAny_pyNext_range_item (A := A.in1) hit (by omega) fun h' hit' he' => ?_)
    have he := he'.extBut
    have hS' : h'.get? S = _ := he S _ hSI hS
    show wpAny _ A.in1 (updateSeq S (·.push _) >>= _) _ _ _
    refine wpAny_bind ?_
    refine wpAny_updateSeq (s := { s with heap := h', toks := s.toks + 1 }) hS' rfl (wpAny_pure ⟨plainId_quiet F.plain_extend_loop _, ih (i + 1) _ (acc.push (.int (a + (i : Nat) * c) s.toks)) _ (by omega) (by omega) ?_ (Heap.get?_update_self _ hS' rfl) (hacc.push h0 (Nat.le_refl _)) (Nat.le_succ_of_le h0) fun h2 tk acc' c' hk2 hS2 hacc2 => ?_⟩)
      (by rw [hacc.1]; omega) (by show (acc.push _).size ≤ sizeLine + 1; rw [Array.size_push, hacc.1]; omega)
    · have e1 : (a + ((i + 1 : Nat) : Int) * c) = a + (i : Nat) * c + c := by rw [Int.natCast_add, Int.add_mul]; simp [Int.add_assoc]
      have e2 : (n : Int) - ((i + 1 : Nat) : Int) = (n : Int) - (i : Nat) - 1 := by omega
      rw [e1, e2]
      show Heap.get? _ _ = _
      exact (Heap.get?_update_other _ _ hSI).trans hit'
    · exact hR h2 tk acc' c' (fun b o hb hbI e => hk2 b o hb hbI ((Heap.get?_update_other _ _ (Ne.symm hb)).trans (he b o hbI e))) hS2 hacc2

theorem list_of_rangeT {s : Shared} {Q : Value → Shared → Prop} {r : Addr} {a b c : Int} {t u v : Tok} {n : Nat} (hh : A.handled = none) (hr : IsRange s.heap r a b c t u v) (hsm : Builtin.Range.small a b c = true) (hn : Builtin.Range.rangeSize a b c = (n : Int)) (hlen : n ≤ 2 ^ 24)
    (hQ : ∀ h' tk acc' c', (∀ b o, s.heap.get? b = some o → h'.get? b = some o) → h'.get? s.heap.objs.size = some { cls := .type "list", dict := none, data := .seq acc' c', slots := #[] } → RangeVals a c s.toks tk acc' n → Q (.ref s.heap.objs.size) { s with heap := h', toks := tk }) :
    wpAny (model prog w) A (call (.type "list") [.ref r]) Q E s := by
  obtain ⟨S, hSd⟩ : ∃ S, S = s.heap.objs.size := ⟨_, rfl⟩
  refine callType_codes (Q₁ := fun obj s₁ => obj = .ref s.heap.objs.size ∧ s₁ = { s with heap := s.heap.push { cls := .type "list", data := .seq #[] } }) F.called_list (F.typeCall_list_1 _) F.entry_list_init (code_list_new _ ⟨rfl, rfl⟩) fun obj s₁ h₁ => ?_
  obtain ⟨rfl, rfl⟩ := h₁
  have hS : (s.heap.push { cls := .type "list", data := .seq #[] }).get? s.heap.objs.size = some { cls := .type "list", data := .seq #[] } := Heap.get?_push_size _ rfl
  refine ⟨⟨_, hS, rfl⟩, F.args_list_init_2 _ _, ?_⟩
  rw [← hSd] at hS hQ ⊢
  have hr1 : IsRange (s.heap.push { cls := .type "list", data := .seq #[] }) r a b c t u v := Heap.get?_push_of_some _ hr
  have hSr : S ≠ r := fun e => by rw [e, hr1] at hS; simp at hS
  show wpAny _ _ (do let old ← Builtin.List.listItems (.ref S); Builtin.List.listUpdate (.ref S) (fun _ => #[]); letGo old.toList.reverse; Builtin.List.listExtendWith (.ref S) (.ref r) .none) _ _ _
  refine wpAny_bind ?_
  unfold Builtin.List.listItems
  refine wpAny_bind (wpAny_seqItems hS rfl (wpAny_pure ?_))
  show wpAny _ _ (updateSeq S (fun _ => #[]) >>= fun _ => letGo (#[] : Array Value).toList.reverse >>= fun _ => Builtin.List.listExtendWith (.ref S) (.ref r) .none) _ _ _
  refine wpAny_bind (wpAny_updateSeq hS rfl ?_)
  have hS₂ := Heap.get?_update_self (Obj.mapSeq (fun _ => (#[] : Array Value))) hS rfl
  have oth : ∀ b o, b ≠ S → (s.heap.push { cls := .type "list", data := .seq #[] }).get? b = some o → ((s.heap.push { cls := .type "list", data := .seq #[] }).update S (Obj.mapSeq (fun _ => (#[] : Array Value)))).get? b = some o :=
    fun b o hb e => (Heap.get?_update_other _ _ (Ne.symm hb)).trans e
  refine wpAny_bind (wpAny_letGo ?_)
  have hr2 := oth r _ (Ne.symm hSr) hr1
  have all : ∀ b o, s.heap.get? b = some o → ((s.heap.push { cls := .type "list", data := .seq #[] }).update S (Obj.mapSeq (fun _ => (#[] : Array Value)))).get? b = some o :=
    fun b o e => oth b o (by rw [hSd]; exact Nat.ne_of_lt (Heap.lt_size e)) (Heap.get?_push_of_some _ e)
  generalize (s.heap.push { cls := .type "list", data := .seq #[] }).update S (Obj.mapSeq (fun _ => (#[] : Array Value))) = h2 at hS₂ hr2 all ⊢
  unfold Builtin.List.listExtendWith
  refine wpAny_bind (wpAny_typeOf (T := "range") ⟨_, hr2, rfl⟩ ?_)
  have h1 : Builtin.List.listSameRef (.ref S) (.ref r) = false := by simp [Builtin.List.listSameRef, hSr]
  have h2' : (Value.type "range" == Value.type "list") = false := by decide
  have h3 : (Value.type "range" == Value.type "tuple") = false := by decide
  simp only [h1, h2', h3, Bool.or_false, Bool.false_eq_true, if_false]
  obtain ⟨I, hI⟩ : ∃ I, I = h2.objs.size := ⟨_, rfl⟩
  have hSI : S ≠ I := fun e => by
    have := Heap.lt_size hS₂
    rw [e, hI] at this
    exact Nat.lt_irrefl _ this
  refine wpAny_bind (wpAny_pyIter_range (s := { s with heap := h2 }) hr2 hsm ?_)
  refine wpAny_bind (wpAny_holding (wpAny_hint_range (n := n) (Heap.get?_push_of_some _ hr2) hn hlen ?_))
  have hit₁ : IsRangeIter (h2.push { cls := .type "range_iterator", data := .fields #[rawInt a, rawInt (Builtin.Range.rangeSize a b c), rawInt c] }) I (a + ((0 : Nat) : Int) * c) ((n : Int) - ((0 : Nat) : Int)) c := by
    show IsRangeIter _ _ _ _ _; rw [hn, hI]; simpa using Heap.get?_push_size _ rfl
  have hS₁ := Heap.get?_push_of_some { cls := .type "range_iterator", data := .fields #[rawInt a, rawInt (Builtin.Range.rangeSize a b c), rawInt c] } hS₂
  have all2 : ∀ q o, s.heap.get? q = some o → q ≠ I → (h2.push { cls := .type "range_iterator", data := .fields #[rawInt a, rawInt (Builtin.Range.rangeSize a b c), rawInt c] }).get? q = some o := fun b o e _ => Heap.get?_push_of_some _ (all b o e)
  have hlI : ∀ b o, s.heap.get? b = some o → b ≠ I := fun b o e => by rw [hI]; exact Nat.ne_of_lt (Heap.lt_size (all b o e))
  have hlS : ∀ b o, s.heap.get? b = some o → b ≠ S := fun b o e => by rw [hSd]; exact Nat.ne_of_lt (Heap.lt_size e)
  have hsz : n ≤ sizeLine := by rw [sizeLine_eq]; omega
  generalize h2.push { cls := .type "range_iterator", data := .fields #[rawInt a, rawInt (Builtin.Range.rangeSize a b c), rawInt c] } = h3' at hit₁ hS₁ all2 ⊢
  rw [← hI]
  refine wpAny_ite_split (fun _ => ?_) (fun _ => wpAny_pure ⟨plainId_quiet F.plain_extend_loop _, ?_⟩)
  · refine wpAny_bind (wpAny_rule ?_)
    refine wpAny_bind ?_
    show wpAny _ _ (updateSeq S (·.push .none) >>= fun _ => updateSeq S (·.pop)) _ _ _
    refine wpAny_bind (wpAny_updateSeq hS₁ rfl ?_)
    have hS₂' := Heap.get?_update_self (Obj.mapSeq (·.push Value.none)) hS₁ rfl
    refine wpAny_updateSeq (hz := by seq_fits) hS₂' rfl ?_
    have hS₃ := Heap.get?_update_self (Obj.mapSeq (·.pop)) hS₂' rfl
    refine wpAny_pure ⟨plainId_quiet F.plain_extend_loop _, ?_⟩
    refine' ext_loopT (A := A.in1) (a := a) (c := c) (k0 := s.toks) hh hSI hsz n 0 _ #[] ?c0 rfl (Nat.zero_le _) ?h1 ?h2 ?h3 ?h4 ?h5
    case h2 => exact hS₃
    case h1 => exact (Heap.get?_update_other _ _ hSI).trans ((Heap.get?_update_other _ _ hSI).trans hit₁)
    case h3 => exact ⟨rfl, fun j v hv => by simp at hv⟩
    case h4 => exact Nat.le_succ_of_le (Nat.le_succ _)
    intro h' tk acc' c' hk hS' hacc
    exact ⟨rfl, hQ h' tk acc' c' (fun b o e => hk b o (hlS b o e) (hlI b o e) ((Heap.get?_update_other _ _ (Ne.symm (hlS b o e))).trans ((Heap.get?_update_other _ _ (Ne.symm (hlS b o e))).trans (all2 b o e (hlI b o e))))) hS' hacc⟩
  · refine' ext_loopT (A := A.in1) (a := a) (c := c) (k0 := s.toks) hh hSI hsz n 0 _ #[] ?gc0 rfl (Nat.zero_le _) ?gh1 ?gh2 ?gh3 ?gh4 ?gh5
    case gh2 =>
      exact hS₁
    case gh1 => exact hit₁
    case gh3 => exact ⟨rfl, fun j v hv => by simp at hv⟩
    case gh4 => exact Nat.le_succ_of_le (Nat.le_succ _)
    intro h' tk acc' c' hk hS' hacc
    exact ⟨rfl, hQ h' tk acc' c' (fun b o e => hk b o (hlS b o e) (hlI b o e) (all2 b o e (hlI b o e))) hS' hacc⟩
theorem list_of_rangeN {s : Shared} {Q : Value → Shared → Prop} {h₀ : Heap} {L : Addr} {m : Str → Option Value} {news : List (Addr × Obj)} {r : Addr} {a b c : Int} {t u v : Tok} {n : Nat} (hh : A.handled = none) (F : Fr h₀ L s.heap m) (N : News h₀ L s.heap news)
    (hr : IsRange s.heap r a b c t u v) (hsm : Builtin.Range.small a b c = true) (hn : Builtin.Range.rangeSize a b c = (n : Int)) (hlen : n ≤ 2 ^ 24)
    (hQ : ∀ D ys c' h' tk, Fr h₀ L h' m → News h₀ L h' ((D, listOf ys c') :: news) → (∀ p ∈ news, p.1 < D) → RangeVals a c s.toks tk ys n → Q (.ref D) { s with heap := h', toks := tk }) :
    wpAny (model prog w) A (call (.type "list") [.ref r]) Q E s := by
  refine list_of_rangeT hh hr hsm hn hlen fun h' tk acc' c' hk hS hv => ?_
  refine hQ _ acc' c' h' tk (F.keeps hk) (fun p hp => ?_) (fun p hp => Heap.lt_size (N p hp).1) hv
  rcases List.mem_cons.mp hp with rfl | hp
  · exact ⟨hS, Nat.ne_of_gt F.ns.lt, next_is_new F⟩
  · exact ⟨hk _ _ (N p hp).1, (N p hp).2⟩
end
end
section
abbrev Pre5 (_ : Heap) (m : Str → Option Value) (news : List (Addr × Obj)) (tk : Nat) : Prop := 0 < tk ∧ ∃ (C : Addr) (o : Obj) (Ln : Addr) (oL : Obj) (u x y z : Nat) (n4 n5 n6 n7 : Int) (tr ts : Tok), m (Str.ofString "cells") = some (.ref C) ∧ m (Str.ofString "lengths") = some (.ref Ln) ∧ m (Str.ofString "room") = some (.int ((2 * (u * (x + y + z)) : Nat) : Int) tr) ∧ m (Str.ofString "step") = some (.int ((2 * (u * Nat.gcd (x + y) (y + z)) : Nat) : Int) ts) ∧ news = [(Ln, oL), (C, o)] ∧ (∃ n0 n1 n2 n3, CellsOn C o n0 n1 n2 n3 n4 n5 n6 n7) ∧ LensOn oL u x y z ∧ Geo u x y z
/-- all places, and the step: halves -/
noncomputable def Mof (u x y z : Nat) : Nat := u * (x + y + z)
noncomputable def Gof (u x y z : Nat) : Nat := u * Nat.gcd (x + y) (y + z)
theorem geo_M {u x y z : Nat} (h : Geo u x y z) : 0 < Mof u x y z ∧ Mof u x y z ≤ 18000000 ∧ 0 < Gof u x y z ∧ Gof u x y z ≤ 12000000 ∧ Mof u x y z ≤ 18 * Gof u x y z ∧ Gof u x y z ≤ Mof u x y z := by
  obtain ⟨h1, h2, h3, h4, h5, h6⟩ := h
  have g0 : 0 < Nat.gcd (x + y) (y + z) := Nat.gcd_pos_of_pos_right _ (by omega)
  have g1 : Nat.gcd (x + y) (y + z) ≤ y + z := Nat.gcd_le_right _ (by omega)
  unfold Mof Gof
  refine ⟨Nat.mul_pos h1 (by omega), Nat.le_trans (Nat.mul_le_mul h2 (show x + y + z ≤ 18 by omega)) (by decide), Nat.mul_pos h1 g0, Nat.le_trans (Nat.mul_le_mul h2 (show _ ≤ 12 by omega)) (by decide), ?_, Nat.mul_le_mul_left _ (by omega)⟩
  rw [Nat.mul_comm 18, Nat.mul_assoc]
  exact Nat.mul_le_mul_left _ (by omega)
theorem half_mod (n : Int) {M : Nat} (hM : 0 < M) : ∃ i : Nat, (2 * n).fmod ((2 * M : Nat) : Int) = ((2 * i : Nat) : Int) ∧ i < M := by
  refine ⟨(n % (M : Int)).toNat, ?_, ?_⟩
  · rw [Int.fmod_eq_emod_of_nonneg _ (by omega)]
    have h1 : ((2 * M : Nat) : Int) = 2 * (M : Int) := by omega
    have h2 : 0 ≤ n % (M : Int) := Int.emod_nonneg _ (by omega)
    rw [h1, Int.mul_emod_mul_of_pos _ _ (by decide)]
    omega
  · have h2 : 0 ≤ n % (M : Int) := Int.emod_nonneg _ (by omega)
    have h3 : n % (M : Int) < (M : Int) := Int.emod_lt_of_pos _ (by omega)
    omega
abbrev Pre6 (_ : Heap) (m : Str → Option Value) (news : List (Addr × Obj)) (tk : Nat) : Prop := ∃ (C : Addr) (o : Obj) (Ln : Addr) (oL : Obj) (u x y z i : Nat) (n5 n6 n7 : Int) (tr ts th : Nat), m (Str.ofString "cells") = some (.ref C) ∧ m (Str.ofString "lengths") = some (.ref Ln) ∧ m (Str.ofString "room") = some (.int ((2 * Mof u x y z : Nat) : Int) tr) ∧ m (Str.ofString "step") = some (.int ((2 * Gof u x y z : Nat) : Int) ts) ∧ m (Str.ofString "here") = some (.int ((2 * i : Nat) : Int) th) ∧ news = [(Ln, oL), (C, o)] ∧ (∃ n0 n1 n2 n3 n4, CellsOn C o n0 n1 n2 n3 n4 n5 n6 n7) ∧ LensOn oL u x y z ∧ Geo u x y z ∧ i < Mof u x y z ∧ 0 < th ∧ th < tk
theorem law_5 (w : World) (p : Program) (loose : List Str) (mean : ExcName → Option Value) (mg mb : Str → Option Value)
    (rest : LawGo w p loose mean mg mb 6 Pre6) :
    LawGo w p loose mean mg mb 5 Pre5 := by
  w_on
  intro dp un gd a ccd A₀ h₀ L m news s Q E B F X N T hd hu hpre hret
  obtain ⟨ht, C, o, Ln, oL, u, x, y, z, n4, n5, n6, n7, tr, ts, e1, e2, e3, e4, rfl, ⟨n0, n1, n2, n3, c, t0, t1, t2, t3, t4, t5, t6, t7, rfl⟩, hL, hG⟩ := hpre
  obtain ⟨M0, M1, _, _, _, _⟩ := geo_M hG
  obtain ⟨i, hi, hi2⟩ := half_mod n4 M0
  have e3 : m (Str.ofString "room") = some (.int ((2 * Mof u x y z : Nat) : Int) tr) := e3
  generalize hR : Mof u x y z = R at e3 M0 M1 hi hi2
  have r1 : (0 : Int) < ((2 * R : Nat) : Int) := by omega
  have r3 : ((2 * R : Nat) : Int) ≤ 100000000 := by omega
  have F₂ := fr_put4 F e1 e2 e3 e4
  clear F
  show wpAny _ _ (execs (_ :: _) _) _ _ _
  refine wpAny_execs_cons ?_
  repeat' (first | (k_unfold; (try dsimp only)) | ((fail_if_success (with_reducible show wpAny _ _ (execs _ _) _ _ _)); walk1) | (leave1; try dsimp only))
  dsimp only
  rename Fr _ _ _ _ => FF
  rename News _ _ _ _ => NN
  subst hR
  refine rest _ _ _ _ _ _ _ _ _ _ _ _ _ B FF X NN T hd hu ⟨C, _, Ln, _, u, x, y, z, i, n5, n6, n7, _, _, s.toks + 1 + 1 + 1, rfl, rfl, rfl, rfl, congrArg (fun v => some (Value.int v _)) hi, rfl, ⟨n0, n1, n2, n3, n4, c, t0, t1, t2, t3, t4, t5, t6, t7, rfl⟩, hL, hG, hi2, ?_, ?_⟩ hret
  all_goals (try dsimp only)
  all_goals omega
theorem half_fmod (i : Nat) {g : Nat} : ((2 * i : Nat) : Int).fmod ((2 * g : Nat) : Int) = ((2 * (i % g) : Nat) : Int) := by
  rw [fmod_nat, Nat.mul_mod_mul_left]
/-- how many places there are behind i % g by g below M -/
noncomputable def cntOf (M g i : Nat) : Nat := (M - i % g - 1) / g + 1
theorem cnt_range {M g i : Nat} (hg : 0 < g) (hgM : g ≤ M) : Builtin.Range.rangeSize ((2 * (i % g) : Nat) : Int) ((2 * M : Nat) : Int) ((2 * g : Nat) : Int) = ((cntOf M g i : Nat) : Int) := by
  have h1 : i % g < g := Nat.mod_lt _ hg
  unfold Builtin.Range.rangeSize cntOf
  rw [if_pos (by omega), if_pos (by omega)]
  obtain ⟨k, hk⟩ : ∃ k, k = M - i % g - 1 := ⟨_, rfl⟩
  have e : ((2 * M : Nat) : Int) - ((2 * (i % g) : Nat) : Int) - 1 = ((2 * k + 1 : Nat) : Int) := by omega
  rw [e, ← hk, ← Int.natCast_ediv]
  have e2 : (2 * k + 1) / (2 * g) = k / g := by
    rw [← Nat.div_div_eq_div_mul]
    congr 1
    omega
  rw [e2]; omega
theorem cnt_le {M g i : Nat} (hg : 0 < g) (h : M ≤ 18 * g) : cntOf M g i ≤ 18 := by
  unfold cntOf
  have : (M - i % g - 1) / g < 18 := by
    rw [Nat.div_lt_iff_lt_mul hg]
    omega
  omega
theorem cnt_small {M g i : Nat} (hg : 0 < g) (hgM : g ≤ M) (hM : M ≤ 18000000) (h18 : M ≤ 18 * g) : Builtin.Range.small ((2 * (i % g) : Nat) : Int) ((2 * M : Nat) : Int) ((2 * g : Nat) : Int) = true := by
  have h1 : i % g < g := Nat.mod_lt _ hg
  have h2 := cnt_le (i := i) hg h18
  have fit : ∀ x : Int, 0 ≤ x → x < 1000000000 → Builtin.Range.rangeFitsLong x = true := fun x a b => by
    simp only [Builtin.Range.rangeFitsLong, Bool.and_eq_true, decide_eq_true_eq]
    omega
  unfold Builtin.Range.small
  rw [cnt_range hg hgM, fit _ (by omega) (by omega), fit _ (by omega) (by omega), fit _ (by omega) (by omega), fit _ (by omega) (by omega), if_pos (by omega), fit _ (by omega) (by omega)]
  simp
end
section
abbrev Pre7 (_ : Heap) (m : Str → Option Value) (news : List (Addr × Obj)) (tk : Nat) : Prop := ∃ (C : Addr) (o : Obj) (Ln : Addr) (oL : Obj) (Al : Addr) (ys : Array Value) (cA : Nat) (u x y z i : Nat) (n5 n6 n7 : Int) (tr ts th k0 k1 : Nat), m (Str.ofString "cells") = some (.ref C) ∧ m (Str.ofString "lengths") = some (.ref Ln) ∧ m (Str.ofString "room") = some (.int ((2 * Mof u x y z : Nat) : Int) tr) ∧ m (Str.ofString "step") = some (.int ((2 * Gof u x y z : Nat) : Int) ts) ∧ m (Str.ofString "here") = some (.int ((2 * i : Nat) : Int) th) ∧ m (Str.ofString "alike") = some (.ref Al) ∧ news = [(Al, listOf ys cA), (Ln, oL), (C, o)] ∧ (∃ n0 n1 n2 n3 n4, CellsOn C o n0 n1 n2 n3 n4 n5 n6 n7) ∧ LensOn oL u x y z ∧ Geo u x y z ∧ i < Mof u x y z ∧ 0 < th ∧ th < k0 ∧ k1 ≤ tk ∧ RangeVals ((2 * (i % Gof u x y z) : Nat) : Int) ((2 * Gof u x y z : Nat) : Int) k0 k1 ys (cntOf (Mof u x y z) (Gof u x y z) i)
theorem RangeVals.le {a c : Int} {k0 k1 : Nat} {acc : Array Value} {n : Nat} (h : RangeVals a c k0 k1 acc n) (hn : 0 < n) : k0 ≤ k1 := by
  have h1 : 0 < acc.size := by rw [h.1]; exact hn
  obtain ⟨t, _, b1, b2⟩ := h.2 0 acc[0] (Array.getElem?_eq_getElem h1)
  exact Nat.le_of_lt (Nat.lt_of_le_of_lt b1 b2)
theorem cnt_pos (M g i : Nat) : 0 < cntOf M g i := Nat.succ_pos _
theorem law_6 (w : World) (p : Program) (loose : List Str) (mean : ExcName → Option Value) (mg mb : Str → Option Value)
    (rest : LawGo w p loose mean mg mb 7 Pre7) :
    LawGo w p loose mean mg mb 6 Pre6 := by
  w_on
  intro dp un gd a ccd A₀ h₀ L m news s Q E B F X N T hd hu hpre hret
  refine use1 hpre (ex8 fun C o Ln oL u x y z => ex7 fun i n5 n6 n7 tr ts th => an8 fun e1 e2 e3 e4 e5 zr5 hC => an5 fun hL hG hi ht1 ht2 => ?_)
  clear hpre
  subst zr5
  obtain ⟨M0, M1, G0, G1, MG, GM⟩ := geo_M hG
  generalize hR : Mof u x y z = R at e3 M0 M1 hi MG GM
  generalize hS : Gof u x y z = S at e4 G0 G1 MG GM
  have r1 : (0 : Int) < ((2 * R : Nat) : Int) := by omega
  have r2 : (0 : Int) < ((2 * S : Nat) : Int) := by omega
  have r3 : ((2 * R : Nat) : Int) ≤ 100000000 := by omega
  have F₂ := fr_put5 F e1 e2 e3 e4 e5
  clear F
  show wpAny _ _ (execs (_ :: _) _) _ _ _
  refine wpAny_execs_cons ?_
  refine wpAny_mono (Q := fun f s' => PySem.Flt.Hid (f = .next ∧ ∃ h' tk, s.toks ≤ tk ∧ s' = { s with heap := h', toks := tk } ∧ ∃ Al ys cA k0 k1, Fr h₀ L h' (fun y => if y = Str.ofString "alike" then some (.ref Al) else if y = Str.ofString "cells" then some (.ref C) else if y = Str.ofString "lengths" then some (.ref Ln) else if y = Str.ofString "room" then some (.int ((2 * R : Nat) : Int) tr) else if y = Str.ofString "step" then some (.int ((2 * S : Nat) : Int) ts) else if y = Str.ofString "here" then some (.int ((2 * i : Nat) : Int) th) else m y) ∧ News h₀ L h' [(Al, listOf ys cA), (Ln, oL), (C, o)] ∧ RangeVals ((2 * (i % S) : Nat) : Int) ((2 * S : Nat) : Int) k0 k1 ys (cntOf R S i) ∧ s.toks ≤ k0 ∧ k1 ≤ tk)) (E := E) ?_ ?_ (fun _ _ e => e)
  · repeat' (first | (k_unfold; (try dsimp only)) | ((fail_if_success (with_reducible show wpAny _ _ (execs _ _) _ _ _)); (fail_if_success (with_reducible show wpAny _ _ (call (Value.type "range") _) _ _ _)); walk1) | (leave1; try dsimp only))
    refine any_toks ?_
    repeat' (first | (k_unfold; (try dsimp only)) | ((fail_if_success (with_reducible show wpAny _ _ (execs _ _) _ _ _)); (fail_if_success (with_reducible show wpAny _ _ (call (Value.type "list") _) _ _ _)); walk1) | (leave1; try dsimp only))
    rename IsRange _ _ _ _ _ _ _ _ => hr
    rename Fr _ _ _ _ => FF
    rename News _ _ _ _ => NN
    rename _ ≤ _ => hle
    rw [half_fmod] at hr
    refine list_of_rangeN rfl FF NN hr (cnt_small G0 GM M1 MG) (cnt_range G0 GM) (Nat.le_trans (cnt_le G0 MG) (by decide)) fun D ys c' h' tk F' N' hD hv => ?_
    have htk : _ ≤ tk := hv.le (cnt_pos _ _ _)
    clear FF NN hr
    repeat' (first | (k_unfold; (try dsimp only)) | ((fail_if_success (with_reducible show wpAny _ _ (execs _ _) _ _ _)); walk1) | (leave1; try dsimp only))
    rename Fr _ _ _ _ => FF
    rename News _ _ _ _ => NN
    refine .mk ⟨rfl, _, _, ?_, rfl, D, ys, c', _, _, FF, NN, hv, Nat.le_of_succ_le hle, ?_⟩
    all_goals ((try dsimp only at *); omega)
  · intro f s' hid
    obtain ⟨rfl, h', tk, hle, rfl, Al, ys, cA, k0, k1, FF, NN, hv, hk0, hk1⟩ := hid.out
    subst hR hS
    refine rest _ _ _ _ _ _ _ _ _ _ _ _ _ B FF X NN T hd hu ⟨C, _, Ln, _, Al, ys, cA, u, x, y, z, i, n5, n6, n7, _, _, th, k0, k1, rfl, rfl, rfl, rfl, rfl, rfl, rfl, hC, hL, hG, hi, ht1, ?_, hk1, hv⟩ hret
    omega
end
section
abbrev Pre8 (_ : Heap) (m : Str → Option Value) (news : List (Addr × Obj)) (tk : Nat) : Prop := ∃ (C : Addr) (o : Obj) (Ln : Addr) (oL : Obj) (Al : Addr) (ys : Array Value) (cA : Nat) (u x y z i j : Nat) (n5 n6 n7 : Int) (tr ts th to k0 k1 : Nat), m (Str.ofString "cells") = some (.ref C) ∧ m (Str.ofString "lengths") = some (.ref Ln) ∧ m (Str.ofString "room") = some (.int ((2 * Mof u x y z : Nat) : Int) tr) ∧ m (Str.ofString "step") = some (.int ((2 * Gof u x y z : Nat) : Int) ts) ∧ m (Str.ofString "here") = some (.int ((2 * i : Nat) : Int) th) ∧ m (Str.ofString "alike") = some (.ref Al) ∧ m (Str.ofString "other") = some (.int ((2 * j : Nat) : Int) to) ∧ news = [(Al, listOf ys cA), (Ln, oL), (C, o)] ∧ (∃ n0 n1 n2 n3 n4, CellsOn C o n0 n1 n2 n3 n4 n5 n6 n7) ∧ LensOn oL u x y z ∧ Geo u x y z ∧ i < Mof u x y z ∧ j < Mof u x y z ∧ 0 < th ∧ th < k0 ∧ k1 ≤ tk ∧ th < to ∧ to < tk ∧ RangeVals ((2 * (i % Gof u x y z) : Nat) : Int) ((2 * Gof u x y z : Nat) : Int) k0 k1 ys (cntOf (Mof u x y z) (Gof u x y z) i)
theorem law_7 (w : World) (p : Program) (loose : List Str) (mean : ExcName → Option Value) (mg mb : Str → Option Value)
    (rest : LawGo w p loose mean mg mb 8 Pre8) :
    LawGo w p loose mean mg mb 7 Pre7 := by
  w_on
  intro dp un gd a ccd A₀ h₀ L m news s Q E B F X N T hd hu hpre hret
  refine use1 hpre (ex8 fun C o Ln oL Al ys cA u => ex6 fun x y z i n5 n6 => ex6 fun n7 tr ts th k0 k1 => an8 fun e1 e2 e3 e4 e5 e6 zr6 => an8 fun zn7 hL hG hi ht1 ht2 ht3 hv => ?_)
  clear hpre
  subst zr6
  obtain ⟨n0, n1, n2, n3, n4, c, t0, t1, t2, t3, t4, t5, t6, t7, rfl⟩ := zn7
  obtain ⟨M0, M1, G0, G1, MG, GM⟩ := geo_M hG
  obtain ⟨j, hj, hj2⟩ := half_mod n5 M0
  have hv1 := PySem.Flt.Hid.mk hv
  have hkk := hv.le (cnt_pos _ _ _)
  clear hv
  generalize hR : Mof u x y z = R at e3 M0 M1 hi hj hj2
  have r1 : (0 : Int) < ((2 * R : Nat) : Int) := by omega
  have r3 : ((2 * R : Nat) : Int) ≤ 100000000 := by omega
  have F₂ := fr_put6 F e1 e2 e3 e4 e5 e6
  clear F
  show wpAny _ _ (execs (_ :: _) _) _ _ _
  refine wpAny_execs_cons ?_
  repeat' (first | (k_unfold; (try dsimp only)) | ((fail_if_success (with_reducible show wpAny _ _ (execs _ _) _ _ _)); walk1) | (leave1; try dsimp only))
  dsimp only
  rename Fr _ _ _ _ => FF
  rename News _ _ _ _ => NN
  subst hR
  refine rest _ _ _ _ _ _ _ _ _ _ _ _ _ B FF X NN T hd hu ⟨C, _, Ln, _, Al, ys, cA, u, x, y, z, i, j, n5, n6, n7, tr, ts, th, s.toks + 1 + 1 + 1, k0, k1, rfl, rfl, rfl, rfl, rfl, rfl, congrArg (fun v => some (Value.int v _)) hj, rfl, ⟨n0, n1, n2, n3, n4, c, t0, t1, t2, t3, t4, t5, t6, t7, rfl⟩, hL, hG, hi, hj2, ht1, ht2, ?_, ?_, ?_, hv1.out⟩ hret
  all_goals ((try dsimp only); omega)
abbrev Pre9 (_ : Heap) (m : Str → Option Value) (news : List (Addr × Obj)) (tk : Nat) : Prop := ∃ (C : Addr) (o : Obj) (Ln : Addr) (oL : Obj) (Al : Addr) (vs : List Value) (cA : Nat) (u x y z i j : Nat) (n5 n6 n7 : Int) (tr ts th to : Nat), m (Str.ofString "cells") = some (.ref C) ∧ m (Str.ofString "lengths") = some (.ref Ln) ∧ m (Str.ofString "room") = some (.int ((2 * Mof u x y z : Nat) : Int) tr) ∧ m (Str.ofString "step") = some (.int ((2 * Gof u x y z : Nat) : Int) ts) ∧ m (Str.ofString "here") = some (.int ((2 * i : Nat) : Int) th) ∧ m (Str.ofString "alike") = some (.ref Al) ∧ m (Str.ofString "other") = some (.int ((2 * j : Nat) : Int) to) ∧ news = [(Al, listOf (List.toArray vs) cA), (Ln, oL), (C, o)] ∧ (∃ n0 n1 n2 n3 n4, CellsOn C o n0 n1 n2 n3 n4 n5 n6 n7) ∧ LensOn oL u x y z ∧ Geo u x y z ∧ i < Mof u x y z ∧ j < Mof u x y z ∧ 0 < th ∧ th < to ∧ to < tk ∧ IntsAre vs ((List.range (cntOf (Mof u x y z) (Gof u x y z) i)).map fun k => ((2 * (i % Gof u x y z + k * Gof u x y z) : Nat) : Int))
theorem RangeVals.at {a g : Nat} {k0 k1 : Nat} {acc : Array Value} {n : Nat} (h : RangeVals ((2 * a : Nat) : Int) ((2 * g : Nat) : Int) k0 k1 acc n) {k : Nat} (hk : k < n) : ∃ t : Nat, acc[k]? = some (.int ((2 * (a + k * g) : Nat) : Int) t) ∧ k0 ≤ t ∧ t < k1 := by
  have h1 : k < acc.size := by rw [h.1]; exact hk
  obtain ⟨t, e, b1, b2⟩ := h.2 k acc[k] (Array.getElem?_eq_getElem h1)
  refine ⟨t, ?_, b1, b2⟩
  rw [Array.getElem?_eq_getElem h1, e]
  have e2 : ((2 * a : Nat) : Int) + (k : Nat) * ((2 * g : Nat) : Int) = ((2 * (a + k * g) : Nat) : Int) := by
    have : k * (2 * g) = 2 * (k * g) := by rw [Nat.mul_left_comm]
    rw [← Int.natCast_mul, this]
    omega
  rw [e2]
theorem ints_at : ∀ {vs : List Value} {ns : List Int}, vs.length = ns.length → (∀ (k : Nat) (n : Int), ns[k]? = some n → ∃ t, vs[k]? = some (.int n t)) → IntsAre vs ns
  | [], [], _, _ => .nil
  | v :: vs, n :: ns, h, hk => by
    obtain ⟨t, e⟩ := hk 0 n rfl
    have e : some v = some (Value.int n t) := e
    cases e
    exact .cons _ _ (ints_at (Nat.succ.inj h) fun k m hm => hk (k + 1) m hm)
  | [], _ :: _, h, _ => nomatch h
  | _ :: _, [], h, _ => nomatch h
theorem RangeVals.ints {a g : Nat} {k0 k1 : Nat} {acc : Array Value} {n : Nat} (h : RangeVals ((2 * a : Nat) : Int) ((2 * g : Nat) : Int) k0 k1 acc n) : IntsAre acc.toList ((List.range n).map fun k => ((2 * (a + k * g) : Nat) : Int)) := by
  refine ints_at (by rw [Array.length_toList, h.1, List.length_map, List.length_range]) fun k m hm => ?_
  rw [List.getElem?_map] at hm
  cases hr : (List.range n)[k]? with
  | none => rw [hr] at hm; cases hm
  | some q =>
    rw [hr] at hm
    cases hm
    have hk : k < n := by
      have := (List.getElem?_eq_some_iff.mp hr).1
      rwa [List.length_range] at this
    have hq : q = k := by
      rw [List.getElem?_range hk] at hr
      exact (Option.some.inj hr).symm
    obtain ⟨t, e, _⟩ := h.at hk
    exact ⟨t, by rw [Array.getElem?_toList, e, hq]⟩
theorem cnt_lt {M g i k : Nat} (hg : 0 < g) (hgM : g ≤ M) (hk : k < cntOf M g i) : i % g + k * g < M := by
  have h1 : i % g < g := Nat.mod_lt _ hg
  unfold cntOf at hk
  have h2 : k ≤ (M - i % g - 1) / g := by omega
  have h3 := (Nat.le_div_iff_mul_le hg).mp h2
  omega
theorem law_8 (w : World) (p : Program) (loose : List Str) (mean : ExcName → Option Value) (mg mb : Str → Option Value)
    (rest : LawGo w p loose mean mg mb 9 Pre9) :
    LawGo w p loose mean mg mb 8 Pre8 := by
  w_on
  intro dp un gd a ccd A₀ h₀ L m news s Q E B F X N T hd hu hpre hret
  refine use1 hpre (ex8 fun C o Ln oL Al ys cA u => ex8 fun x y z i j n5 n6 n7 => ex6 fun tr ts th to k0 k1 => an8 fun e1 e2 e3 e4 e5 e6 e7 => an8 fun zr7 zn8 hL hG hi hj ht1 => an5 fun ht2 ht3 ht4 ht5 hv => ?_)
  clear hpre
  subst zr7
  obtain ⟨n0, n1, n2, n3, n4, c, t0, t1, t2, t3, t4, t5, t6, t7, rfl⟩ := zn8
  obtain ⟨M0, M1, G0, G1, MG, GM⟩ := geo_M hG
  have hI := hv.ints
  obtain ⟨vs, rfl⟩ : ∃ vs : List Value, ys = vs.toArray := ⟨ys.toList, by simp⟩
  obtain ⟨ns, hns⟩ : ∃ ns : List Int, ns = (List.range (cntOf (Mof u x y z) (Gof u x y z) i)).map fun k => ((2 * (i % Gof u x y z + k * Gof u x y z) : Nat) : Int) := ⟨_, rfl⟩
  have hnl : ns.length = cntOf (Mof u x y z) (Gof u x y z) i := by rw [hns, List.length_map, List.length_range]
  rw [List.toList_toArray] at hI
  have hvl : vs.length = cntOf (Mof u x y z) (Gof u x y z) i := hv.1
  have h18 := cnt_le (i := i) G0 MG
  have hcp := cnt_pos (Mof u x y z) (Gof u x y z) i
  have hv1 := PySem.Flt.Hid.mk hv
  rw [← hns] at hI
  have hns := PySem.Flt.Hid.mk hns
  clear hv
  obtain ⟨cn, hcn⟩ : ∃ cn, cn = cntOf (Mof u x y z) (Gof u x y z) i := ⟨_, rfl⟩
  rw [← hcn] at hvl h18 hcp hnl
  have F₂ := fr_put7 F e1 e2 e3 e4 e5 e6 e7
  clear F
  show wpAny _ _ (execs (_ :: _) _) _ _ _
  refine wpAny_execs_cons (any_toks ?_)
  repeat' (first | (k_unfold; (try dsimp only)) | ((fail_if_success (with_reducible show wpAny _ _ (execs _ _) _ _ _)); walk1) | (leave1; try dsimp only))
  · refine wpAny_execs_cons ?_
    repeat' (first | (k_unfold; (try dsimp only)) | ((fail_if_success (with_reducible show wpAny _ _ (execs _ _) _ _ _)); (fail_if_success (with_reducible show wpAny _ _ (subscriptTail _ _ (Value.ref _) (Value.int (Int.fmod _ _) _)) _ _ _)); walk1) | (leave1; try dsimp only))
    rename Fr _ _ _ _ => FF
    rename News _ _ _ _ => NN
    rw [hnl]
    have b1 := fmod_lo n5 (n := (cn : Int)) (by omega)
    have b2 := fmod_hi n5 (n := (cn : Int)) (by omega)
    obtain ⟨k, hk⟩ : ∃ k : Nat, n5.fmod (cn : Int) = (k : Int) := ⟨(n5.fmod (cn : Int)).toNat, by omega⟩
    have hkc : k < cn := by omega
    obtain ⟨t, et, q1, q2⟩ := hv1.out.at (k := k) (by rw [← hcn]; exact hkc)
    show wpAny _ _ (subscriptTail _ _ _ (.int (n5.fmod (cn : Int)) _)) _ _ _
    rw [hk]
    have hjl := cnt_lt (i := i) G0 GM (by rw [← hcn]; exact hkc)
    refine item_list (k := (k : Int)) (x := .int ((2 * (i % Gof u x y z + k * Gof u x y z) : Nat) : Int) t) (by is_list) (by omega) (by omega) (by rw [Int.toNat_natCast]; exact et) ?_
    repeat' (first | (k_unfold; (try dsimp only)) | ((fail_if_success (with_reducible show wpAny _ _ (execs (_ :: _) _) _ _ _)); walk1) | (leave1; try dsimp only))
    (try dsimp only)
    rename _ ≤ _ => hle
    (try dsimp only at hle)
    rename Fr _ _ _ _ => FF
    rename News _ _ _ _ => NN
    have hI := hI
    rw [hns.out] at hI
    refine rest _ _ _ _ _ _ _ _ _ _ _ _ _ B FF X NN T hd hu ⟨C, _, Ln, _, Al, vs, cA, u, x, y, z, i, i % Gof u x y z + k * Gof u x y z, n5, n6, n7, tr, ts, th, t, rfl, rfl, rfl, rfl, rfl, rfl, rfl, rfl, ⟨n0, n1, n2, n3, n4, c, t0, t1, t2, t3, t4, t5, t6, t7, rfl⟩, hL, hG, hi, hjl, ht1, ?_, ?_, hI⟩ hret
    all_goals ((try dsimp only); omega)
  · repeat' (first | (k_unfold; (try dsimp only)) | ((fail_if_success (with_reducible show wpAny _ _ (execs (_ :: _) _) _ _ _)); walk1) | (leave1; try dsimp only))
    (try dsimp only)
    rename _ ≤ _ => hle
    (try dsimp only at hle)
    rename Fr _ _ _ _ => FF
    rename News _ _ _ _ => NN
    have hI := hI
    rw [hns.out] at hI
    exact rest _ _ _ _ _ _ _ _ _ _ _ _ _ B FF X NN T hd hu ⟨C, _, Ln, _, Al, vs, cA, u, x, y, z, i, j, n5, n6, n7, tr, ts, th, to, rfl, rfl, rfl, rfl, rfl, rfl, rfl, rfl, ⟨n0, n1, n2, n3, n4, c, t0, t1, t2, t3, t4, t5, t6, t7, rfl⟩, hL, hG, hi, hj, ht1, ht4, Nat.lt_of_lt_of_le ht5 hle, hI⟩ hret
end
section
theorem fr_put8 {h₀ : Heap} {L : Addr} {m : Str → Option Value} {h : Heap} {x y z a b c d e : Str} {v u t i j k l n : Value} (F : Fr h₀ L h m) (e0 : m x = some v) (e1 : m y = some u) (e2 : m z = some t) (e3 : m a = some i) (e4 : m b = some j) (e5 : m c = some k) (e6 : m d = some l) (e7 : m e = some n) : Fr h₀ L h (fun q => if q = x then some v else if q = y then some u else if q = z then some t else if q = a then some i else if q = b then some j else if q = c then some k else if q = d then some l else if q = e then some n else m q) := by
  have e : m = (fun q => if q = x then some v else if q = y then some u else if q = z then some t else if q = a then some i else if q = b then some j else if q = c then some k else if q = d then some l else if q = e then some n else m q) := by
    funext q
    repeat' split
    all_goals (try subst q)
    all_goals (first | assumption | rfl)
  rw [← e]; exact F
/-- the rows of a table, for a, b, c and the turn -/
noncomputable def rowsOf (a b c : Nat) (turn : Nat) : List (Int × Int × Int × Int) := rows4 (rot turn (rows3 (a : Int) (b : Int) (c : Int))).flatten
abbrev Pre11 (_ : Heap) (m : Str → Option Value) (news : List (Addr × Obj)) (tk : Nat) : Prop := ∃ (Al : Addr) (vs : List Value) (cA : Nat) (u x y z i j turn : Nat) (tr ts th to : Nat) (e1 e2 : Addr) (refs1 refs2 : List Value) (c1 c2 : Nat) (tl1 tl2 : List (Addr × Obj)), m (Str.ofString "room") = some (.int ((2 * Mof u x y z : Nat) : Int) tr) ∧ m (Str.ofString "step") = some (.int ((2 * Gof u x y z : Nat) : Int) ts) ∧ m (Str.ofString "here") = some (.int ((2 * i : Nat) : Int) th) ∧ m (Str.ofString "alike") = some (.ref Al) ∧ m (Str.ofString "other") = some (.int ((2 * j : Nat) : Int) to) ∧ m (Str.ofString "there") = some (.ref e1) ∧ m (Str.ofString "back") = some (.ref e2) ∧ news = (Al, listOf (List.toArray vs) cA) :: (e1, listOf refs1.toArray c1) :: (e2, listOf refs2.toArray c2) :: (tl1 ++ tl2) ∧ Geo u x y z ∧ i < Mof u x y z ∧ j < Mof u x y z ∧ 0 < th ∧ th < to ∧ to < tk ∧ turn < 3 ∧ EntsAre tl1 refs1 (rowsOf (u * x) (u * y) (u * z) turn) ∧ EntsAre tl2 refs2 (rowsOf (u * z) (u * y) (u * x) turn) ∧ IntsAre vs ((List.range (cntOf (Mof u x y z) (Gof u x y z) i)).map fun k => ((2 * (i % Gof u x y z + k * Gof u x y z) : Nat) : Int))
theorem mod3 (n : Int) : ∃ t : Nat, n.fmod 3 = (t : Int) ∧ t < 3 := by
  have a1 := fmod_lo n (n := 3) (by decide)
  have a2 := fmod_hi n (n := 3) (by decide)
  exact ⟨(n.fmod 3).toNat, by omega, by omega⟩
theorem law_9 (w : World) (p : Program) (loose : List Str) (mean : ExcName → Option Value) (mg mb : Str → Option Value)
    (rest : LawGo w p loose mean mg mb 11 Pre11) :
    LawGo w p loose mean mg mb 9 Pre9 := by
  w_on
  intro dp un gd a ccd A₀ h₀ L m news s Q E B F X N T hd hu hpre hret
  refine use1 hpre (ex8 fun C o Ln oL Al vs cA u => ex6 fun x y z i j n5 => ex6 fun n6 n7 tr ts th to => an8 fun e1 e2 e3 e4 e5 e6 e7 => an8 fun zr7 zn8 zn9 hG hi hj ht1 => an3 fun ht2 ht3 hI => ?_)
  clear hpre
  subst zr7
  obtain ⟨n0, n1, n2, n3, n4, c, t0, t1, t2, t3, t4, t5, t6, t7, rfl⟩ := zn8
  obtain ⟨cL, s1, s2, s3, rfl⟩ := zn9
  have hsz := geo_sizes hG
  obtain ⟨turn, hturn, hturn3⟩ := mod3 n7
  have hI := PySem.Flt.Hid.mk hI
  obtain ⟨la, hla⟩ : ∃ la, la = u * x := ⟨_, rfl⟩
  obtain ⟨lb, hlb⟩ : ∃ lb, lb = u * y := ⟨_, rfl⟩
  obtain ⟨lc, hlc⟩ : ∃ lc, lc = u * z := ⟨_, rfl⟩
  rw [← hla, ← hlb, ← hlc] at N hsz
  have F₂ := fr_put7 F e1 e2 e3 e4 e5 e6 e7
  clear F
  show wpAny _ _ (execs (_ :: _) _) _ _ _
  refine wpAny_execs_cons (any_toks ?_)
  repeat' (first | (k_unfold; (try dsimp only)) | ((fail_if_success (with_reducible show wpAny _ _ (execs _ _) _ _ _)); (fail_if_success (with_reducible show wpAny _ _ (call (Value.ref 299) _) _ _ _)); walk1) | (leave1; try dsimp only))
  rename Fr _ _ _ _ => FF
  rename News _ _ _ _ => NN
  show wpAny _ _ (call _ [_, .int (n7.fmod 3) _]) _ _ _
  rw [hturn]
  have N2 : News h₀ L _ ((Ln, listOf [Value.int (la : Int) s1, Value.int (lb : Int) s2, Value.int (lc : Int) s3].toArray cL) :: [(Al, listOf vs.toArray cA), (C, listOf #[.int n0 t0, .int n1 t1, .int n2 t2, .int n3 t3, .int n4 t4, .int n5 t5, .int n6 t6, .int n7 t7] c)]) := fun q hq => NN q (by
    rcases List.mem_cons.mp hq with rfl | hq
    · exact .tail _ (.head _)
    · rcases List.mem_cons.mp hq with rfl | hq
      · exact .head _
      · exact .tail _ (.tail _ hq))
  refine use_S (table_spec w p loose mean mg mb Ln cL la lb lc s1 s2 s3 _ turn hturn3 (by omega) (by omega) (by omega) _) B FF X N2 T rfl (by omega) (by omega) ?_
  rintro r nx1 h1 tk1 F1 N1 hle1 ⟨e1, refs1, c1, tl1, rfl, m1, sub1, sub1', ent1⟩
  clear FF NN N2
  have q1 := sub1 _ (.head _)
  have q2 := sub1 _ (.tail _ (.head _))
  have q3 := sub1 _ (.tail _ (.tail _ (.head _)))
  have N3 : News h₀ L h1 ((Ln, listOf #[Value.int (la : Int) s1, Value.int (lb : Int) s2, Value.int (lc : Int) s3] cL) :: (C, listOf #[.int n0 t0, .int n1 t1, .int n2 t2, .int n3 t3, .int n4 t4, .int n5 t5, .int n6 t6, .int n7 t7] c) :: nx1) := fun q hq => N1 q (by
    rcases List.mem_cons.mp hq with rfl | hq
    · exact q1
    · rcases List.mem_cons.mp hq with rfl | hq
      · exact q3
      · exact hq)
  clear N1
  repeat' (first | (k_unfold; (try dsimp only)) | ((fail_if_success (with_reducible show wpAny _ _ (execs _ _) _ _ _)); walk1) | (leave1; try dsimp only))
  (try dsimp only)
  refine wpAny_execs_cons (any_toks ?_)
  repeat' (first | (k_unfold; (try dsimp only)) | ((fail_if_success (with_reducible show wpAny _ _ (execs _ _) _ _ _)); (fail_if_success (with_reducible show wpAny _ _ (call (Value.ref 299) _) _ _ _)); walk1) | (leave1; try dsimp only))
  rename Fr _ _ _ _ => FF
  rename News _ _ _ _ => NN
  show wpAny _ _ (call _ [_, .int (n7.fmod 3) _]) _ _ _
  rw [hturn]
  refine use_S (table_spec w p loose mean mg mb _ 0 lc lb la s3 s2 s1 _ turn hturn3 (by omega) (by omega) (by omega) _) B FF X NN T rfl (by omega) (by omega) ?_
  rintro r nx2 h2 tk2 F2 N2 hle2 ⟨e2, refs2, c2, tl2, rfl, m2, sub2, sub2', ent2⟩
  clear FF NN
  have k1 := sub2 _ (.tail _ (.tail _ (.tail _ q2)))
  have k2 := sub2 _ (.tail _ (.tail _ (.tail _ m1)))
  have k3 : ∀ q ∈ tl1, q ∈ nx2 := fun q hq => sub2 _ (.tail _ (.tail _ (.tail _ (sub1' q hq))))
  have N4 : News h₀ L h2 ((Al, listOf (List.toArray vs) cA) :: (e1, listOf refs1.toArray c1) :: (e2, listOf refs2.toArray c2) :: (tl1 ++ tl2)) := fun q hq => N2 q (by
    rcases List.mem_cons.mp hq with rfl | hq
    · exact k1
    · rcases List.mem_cons.mp hq with rfl | hq
      · exact k2
      · rcases List.mem_cons.mp hq with rfl | hq
        · exact m2
        · rcases List.mem_append.mp hq with hq | hq
          · exact k3 q hq
          · exact sub2' q hq)
  clear N2
  repeat' (first | (k_unfold; (try dsimp only)) | ((fail_if_success (with_reducible show wpAny _ _ (execs _ _) _ _ _)); walk1) | (leave1; try dsimp only))
  (try dsimp only)
  rename Fr _ _ _ _ => FF
  rename News _ _ _ _ => NN
  subst hla hlb hlc
  refine rest _ _ _ _ _ _ _ _ _ _ _ _ _ B FF X NN T hd hu ⟨Al, vs, cA, u, x, y, z, i, j, turn, tr, ts, th, to, e1, e2, refs1, refs2, c1, c2, tl1, tl2, rfl, rfl, rfl, rfl, rfl, rfl, rfl, rfl, hG, hi, hj, ht1, ht2, ?_, hturn3, ent1, ent2, hI.out⟩ hret
  (try dsimp only at *)
  omega
end
section
noncomputable def RingP (u x y z turn i : Nat) : List Int := ringOf (nextOf (rowsOf (u * x) (u * y) (u * z) turn)) ((2 * i : Nat) : Int)
noncomputable def TokOff (vs : List Value) (to : Nat) : Prop := ∀ v ∈ vs, ∀ z t, v = Value.int z t → t ≠ 0 ∧ t ≠ to
theorem chain_len (f : Int → Int) (p : Int) : ∀ k q, (chain f p k q).length ≤ k
  | 0, _ => Nat.le_refl _
  | k + 1, q => by
    rw [chain]
    split
    · exact Nat.zero_le _
    · rw [List.length_cons]; exact Nat.succ_le_succ (chain_len f p k _)
theorem ring_len (f : Int → Int) (p : Int) : (ringOf f p).length ≤ 21 := by
  unfold ringOf
  rw [List.length_cons]
  exact Nat.succ_le_succ (chain_len f p 20 p)
abbrev Pre13 (_ : Heap) (m : Str → Option Value) (news : List (Addr × Obj)) (tk : Nat) : Prop := ∃ (Al gR gA : Addr) (vs rs as : List Value) (cA cR cG : Nat) (u x y z i j turn : Nat) (tr ts th to : Nat) (e2 : Addr) (refs2 : List Value) (c2 : Nat) (tl2 : List (Addr × Obj)), m (Str.ofString "room") = some (.int ((2 * Mof u x y z : Nat) : Int) tr) ∧ m (Str.ofString "step") = some (.int ((2 * Gof u x y z : Nat) : Int) ts) ∧ m (Str.ofString "here") = some (.int ((2 * i : Nat) : Int) th) ∧ m (Str.ofString "alike") = some (.ref Al) ∧ m (Str.ofString "other") = some (.int ((2 * j : Nat) : Int) to) ∧ m (Str.ofString "back") = some (.ref e2) ∧ m (Str.ofString "ring") = some (.ref gR) ∧ m (Str.ofString "again") = some (.ref gA) ∧ news = (gA, listOf as.toArray cG) :: (gR, listOf rs.toArray cR) :: (Al, listOf (List.toArray vs) cA) :: (e2, listOf refs2.toArray c2) :: tl2 ∧ Geo u x y z ∧ i < Mof u x y z ∧ j < Mof u x y z ∧ 0 < to ∧ turn < 3 ∧ TokOff rs to ∧ IntsAre rs (RingP u x y z turn i) ∧ IntsAre as (RingP u x y z turn j) ∧ EntsAre tl2 refs2 (rowsOf (u * z) (u * y) (u * x) turn) ∧ IntsAre vs ((List.range (cntOf (Mof u x y z) (Gof u x y z) i)).map fun k => ((2 * (i % Gof u x y z + k * Gof u x y z) : Nat) : Int))
theorem law_12 (w : World) (p : Program) (loose : List Str) (mean : ExcName → Option Value) (mg mb : Str → Option Value)
    (rest : LawGo w p loose mean mg mb 13 Pre13) :
    LawGo w p loose mean mg mb 11 Pre11 := by
  w_on
  intro dp un gd a ccd A₀ h₀ L m news s Q E B F X N T hd hu hpre hret
  refine use1 hpre (ex8 fun Al vs cA u x y z i => ex8 fun j turn tr ts th to e1 e2 => ex6 fun refs1 refs2 c1 c2 tl1 tl2 => an8 fun q1 q2 q3 q4 q5 q6 q7 => an8 fun zr7 hG hi hj ht1 ht2 ht3 => an4 fun hturn3 ent1 ent2 hI => ?_)
  clear hpre
  subst zr7
  have hI := PySem.Flt.Hid.mk hI
  have F₂ := fr_put7 F q1 q2 q3 q4 q5 q6 q7
  clear F
  show wpAny _ _ (execs (_ :: _) _) _ _ _
  refine wpAny_execs_cons (any_toks ?_)
  repeat' (first | (k_unfold; (try dsimp only)) | ((fail_if_success (with_reducible show wpAny _ _ (execs _ _) _ _ _)); (fail_if_success (with_reducible show wpAny _ _ (call (Value.ref 313) _) _ _ _)); walk1) | (leave1; try dsimp only))
  rename Fr _ _ _ _ => FF
  rename News _ _ _ _ => NN
  refine use_tT (ring_t w p loose mean mg mb e1 c1 refs1 tl1 _ ((2 * i : Nat) : Int) th ent1 _ (.tail _ (.head _)) (fun q hq => .tail _ (.tail _ (.tail _ (List.mem_append_left _ hq))))) B FF X NN T rfl (by omega) (by omega) ?_
  rintro r nx1 h1 tk1 F1 N1 hle1 ⟨gR, rs, cR, rfl, rfl, hR, hRl, tlR, htlR, htokR⟩
  clear FF NN
  have htl0 : (gR, listOf rs.toArray cR).1 = gR := rfl
  repeat' (first | (k_unfold; (try dsimp only)) | ((fail_if_success (with_reducible show wpAny _ _ (execs _ _) _ _ _)); walk1) | (leave1; try dsimp only))
  (try dsimp only)
  refine wpAny_execs_cons (any_toks ?_)
  repeat' (first | (k_unfold; (try dsimp only)) | ((fail_if_success (with_reducible show wpAny _ _ (execs _ _) _ _ _)); (fail_if_success (with_reducible show wpAny _ _ (call (Value.ref 313) _) _ _ _)); walk1) | (leave1; try dsimp only))
  rename Fr _ _ _ _ => FF
  rename News _ _ _ _ => NN
  refine use_tT (ring_t w p loose mean mg mb e1 c1 refs1 tl1 _ ((2 * j : Nat) : Int) to ent1 _ (.tail _ (.tail _ (.head _))) (fun q hq => .tail _ (.tail _ (.tail _ (.tail _ (List.mem_append_left _ hq)))))) B FF X NN T rfl (by omega) (by omega) ?_
  rintro r nx2 h2 tk2 F2 N2 hle2 ⟨gA, as, cG, rfl, rfl, hA, hAl, tlA, htlA, htokA⟩
  clear FF NN
  repeat' (first | (k_unfold; (try dsimp only)) | ((fail_if_success (with_reducible show wpAny _ _ (execs _ _) _ _ _)); walk1) | (leave1; try dsimp only))
  (try dsimp only)
  rename Fr _ _ _ _ => FF
  rename News _ _ _ _ => NN
  have N4 : News h₀ L _ ((gA, listOf as.toArray cG) :: (gR, listOf rs.toArray cR) :: (Al, listOf (List.toArray vs) cA) :: (e2, listOf refs2.toArray c2) :: tl2) := fun q hq => NN q (by
    rcases List.mem_cons.mp hq with rfl | hq
    · exact .head _
    · rcases List.mem_cons.mp hq with rfl | hq
      · exact .tail _ (.head _)
      · rcases List.mem_cons.mp hq with rfl | hq
        · exact .tail _ (.tail _ (.head _))
        · rcases List.mem_cons.mp hq with rfl | hq
          · exact .tail _ (.tail _ (.tail _ (.tail _ (.head _))))
          · exact .tail _ (.tail _ (.tail _ (.tail _ (.tail _ (List.mem_append_right _ hq))))))
  have hoff : TokOff rs to := by
    rw [htlR]
    intro v hv z t e
    rcases List.mem_cons.mp hv with rfl | hv
    · cases e
      refine ⟨Nat.ne_of_gt ht1, Nat.ne_of_lt ht2⟩
    · obtain ⟨z', t', rfl, hk⟩ := htokR v hv
      cases e
      have hk : s.toks ≤ t := hk
      exact ⟨Nat.ne_of_gt (by omega), Nat.ne_of_gt (by omega)⟩
  exact rest _ _ _ _ _ _ _ _ _ _ _ _ _ B FF X N4 T hd hu ⟨Al, gR, gA, vs, rs, as, cA, cR, cG, u, x, y, z, i, j, turn, tr, ts, th, to, e2, refs2, c2, tl2, rfl, rfl, rfl, rfl, rfl, rfl, rfl, rfl, rfl, hG, hi, hj, by omega, hturn3, hoff, hR, hA, ent2, hI.out⟩ hret
end
section
noncomputable def AlikeP (u x y z i : Nat) : List Int := (List.range (cntOf (Mof u x y z) (Gof u x y z) i)).map fun k => ((2 * (i % Gof u x y z + k * Gof u x y z) : Nat) : Int)
noncomputable def RingB (u x y z turn i : Nat) : List Int := ringOf (nextOf (rowsOf (u * z) (u * y) (u * x) turn)) ((2 * i : Nat) : Int)
theorem sorted_eq : ∀ {a b : List Int}, a.Perm b → a.Pairwise (· ≤ ·) → b.Pairwise (· ≤ ·) → a = b := fun h ha hb =>
  h.eq_of_pairwise (fun x y _ _ h1 h2 => Int.le_antisymm h1 h2) ha hb
theorem alike_sorted (u x y z i : Nat) : (AlikeP u x y z i).Pairwise (· ≤ ·) := by
  unfold AlikeP
  rw [List.pairwise_map]
  refine List.pairwise_lt_range.imp fun {a b} h => ?_
  have : a * Gof u x y z ≤ b * Gof u x y z := Nat.mul_le_mul_right _ (Nat.le_of_lt h)
  omega
abbrev Pre14 (_ : Heap) (m : Str → Option Value) (news : List (Addr × Obj)) (_ : Nat) : Prop := ∃ (gR gA : Addr) (rs as : List Value) (cR cG : Nat) (u x y z i j turn : Nat) (tr ts th to : Nat), m (Str.ofString "room") = some (.int ((2 * Mof u x y z : Nat) : Int) tr) ∧ m (Str.ofString "step") = some (.int ((2 * Gof u x y z : Nat) : Int) ts) ∧ m (Str.ofString "here") = some (.int ((2 * i : Nat) : Int) th) ∧ m (Str.ofString "other") = some (.int ((2 * j : Nat) : Int) to) ∧ m (Str.ofString "ring") = some (.ref gR) ∧ m (Str.ofString "again") = some (.ref gA) ∧ news = (gA, listOf as.toArray cG) :: (gR, listOf rs.toArray cR) :: [] ∧ Geo u x y z ∧ i < Mof u x y z ∧ j < Mof u x y z ∧ 0 < to ∧ turn < 3 ∧ TokOff rs to ∧ IntsAre rs (RingP u x y z turn i) ∧ IntsAre as (RingP u x y z turn j)
theorem law_14 (w : World) (p : Program) (loose : List Str) (mean : ExcName → Option Value) (mg mb : Str → Option Value)
    (plain1 : ∀ u x y z i turn, Geo u x y z → i < Mof u x y z → turn < 3 → (AlikeP u x y z i).Perm (RingP u x y z turn i))
    (plain2 : ∀ u x y z i turn, Geo u x y z → i < Mof u x y z → turn < 3 → RingB u x y z turn i = (RingP u x y z turn i).take 1 ++ ((RingP u x y z turn i).drop 1).reverse)
    (rest : LawGo w p loose mean mg mb 14 Pre14) :
    LawGo w p loose mean mg mb 13 Pre13 := by
  w_on
  intro dp un gd a ccd A₀ h₀ L m news s Q E B F X N T hd hu hpre hret
  refine use1 hpre (ex8 fun Al gR gA vs rs as cA cR => ex8 fun cG u x y z i j turn => ex8 fun tr ts th to e2 refs2 c2 tl2 => an8 fun q1 q2 q3 q4 q5 q6 q7 => an8 fun q8 zr8 hG hi hj ht0 hturn3 => an5 fun hoff hR hA ent2 hI => ?_)
  clear hpre
  subst zr8
  obtain ⟨M0, M1, G0, G1, MG, GM⟩ := geo_M hG
  have h18 := cnt_le (i := i) G0 MG
  have hRl : (RingP u x y z turn i).length ≤ 21 := ring_len _ _
  obtain ⟨R, hRd⟩ : ∃ R, R = RingP u x y z turn i := ⟨_, rfl⟩
  obtain ⟨al, had⟩ : ∃ al : List Int, al = ((List.range (cntOf (Mof u x y z) (Gof u x y z) i)).map fun k => ((2 * (i % Gof u x y z + k * Gof u x y z) : Nat) : Int)) := ⟨_, rfl⟩
  have hall : al.length ≤ 18 := by rw [had, List.length_map, List.length_range]; exact h18
  rw [← hRd] at hR hRl
  rw [← had] at hI
  have hA := PySem.Flt.Hid.mk hA
  have had := PySem.Flt.Hid.mk had
  have hRd := PySem.Flt.Hid.mk hRd
  have F₂ := fr_put8 F q1 q2 q3 q4 q5 q6 q7 q8
  clear F
  show wpAny _ _ (execs (_ :: _) _) _ _ _
  refine wpAny_execs_cons ?_
  repeat' (first | (k_unfold; (try dsimp only)) | ((fail_if_success (with_reducible show wpAny _ _ (execs _ _) _ _ _)); (fail_if_success (with_reducible show wpAny _ _ (call (Value.ref 313) _) _ _ _)); (fail_if_success (with_reducible show wpAny _ _ (compareOp _ _ _) _ _ _)); walk1) | (leave1; try dsimp only))

  rename List.Perm _ _ => pp
  rename List.Pairwise _ _ => oo
  have en := sorted_eq (pp.trans (by rw [hRd.out]; exact (plain1 u x y z i turn hG hi hturn3).symm)) oo (alike_sorted u x y z i)
  rw [← show al = AlikeP u x y z i from had.out] at en
  subst en
  clear oo pp
  repeat' (first | (k_unfold; (try dsimp only)) | ((fail_if_success (with_reducible show wpAny _ _ (execs _ _) _ _ _)); (fail_if_success (with_reducible show wpAny _ _ (call (Value.ref 313) _) _ _ _)); walk1) | (leave1; try dsimp only))
  rename Fr _ _ _ _ => FF
  rename News _ _ _ _ => NN
  refine use_tT (ring_t w p loose mean mg mb e2 c2 refs2 tl2 _ ((2 * i : Nat) : Int) th ent2 _ (by simp) (fun q hq => (by simp [hq]))) B FF X NN T rfl (by omega) (by omega) ?_
  rintro r nx1 h1 tk1 F1 N1 hle1 ⟨gB, bs, cB, rfl, rfl, hB, hBl, _⟩
  clear FF NN
  have eB : _ = R.take 1 ++ (R.drop 1).reverse := (plain2 u x y z i turn hG hi hturn3).trans (by rw [hRd.out])
  have hB : IntsAre bs (RingB u x y z turn i) := hB
  rw [eB] at hB
  have N2 : News h₀ L h1 ((gB, listOf bs.toArray cB) :: (gA, listOf as.toArray cG) :: (gR, listOf rs.toArray cR) :: []) := fun q hq => N1 q (by
    rcases List.mem_cons.mp hq with rfl | hq
    · exact .head _
    · exact .tail _ (.tail _ (by rcases List.mem_cons.mp hq with rfl | hq
                                 · exact .head _
                                 · rcases List.mem_cons.mp hq with rfl | hq
                                   · exact .tail _ (.head _)
                                   · cases hq)))
  clear N1
  repeat' (first | (k_unfold; (try dsimp only)) | ((fail_if_success (with_reducible show wpAny _ _ (execs _ _) _ _ _)); (fail_if_success (with_reducible show wpAny _ _ (compareOp _ _ _) _ _ _)); walk1) | (leave1; try dsimp only))
  repeat' (first | (k_unfold; (try dsimp only)) | ((fail_if_success (with_reducible show wpAny _ _ (execs (_ :: _) _) _ _ _)); walk1) | (leave1; try dsimp only))
  (try dsimp only)
  rename Fr _ _ _ _ => FF
  rename News _ _ _ _ => NN
  have N4 : News h₀ L _ ((gA, listOf as.toArray cG) :: (gR, listOf rs.toArray cR) :: []) := fun q hq => NN q (by
    rcases List.mem_cons.mp hq with rfl | hq
    · exact .tail _ (.tail _ (.tail _ (.tail _ (.tail _ (.head _)))))
    · rcases List.mem_cons.mp hq with rfl | hq
      · exact .tail _ (.tail _ (.tail _ (.tail _ (.tail _ (.tail _ (.head _))))))
      · cases hq)
  clear NN
  have hR2 := hR
  rw [hRd.out] at hR2
  exact rest _ _ _ _ _ _ _ _ _ _ _ _ _ B FF X N4 T hd hu ⟨gR, gA, rs, as, cR, cG, u, x, y, z, i, j, turn, tr, ts, th, to, rfl, rfl, rfl, rfl, rfl, rfl, rfl, hG, hi, hj, ht0, hturn3, hoff, hR2, hA.out⟩ hret
end
section
abbrev Pre16 (_ : Heap) (m : Str → Option Value) (news : List (Addr × Obj)) (_ : Nat) : Prop := ∃ (gR gA : Addr) (rs as : List Value) (cR cG : Nat) (u x y z i j turn : Nat) (tr ts th to : Nat), m (Str.ofString "room") = some (.int ((2 * Mof u x y z : Nat) : Int) tr) ∧ m (Str.ofString "step") = some (.int ((2 * Gof u x y z : Nat) : Int) ts) ∧ m (Str.ofString "here") = some (.int ((2 * i : Nat) : Int) th) ∧ m (Str.ofString "other") = some (.int ((2 * j : Nat) : Int) to) ∧ m (Str.ofString "ring") = some (.ref gR) ∧ m (Str.ofString "again") = some (.ref gA) ∧ m (Str.ofString "found") = some (.bool (decide (j % Gof u x y z = i % Gof u x y z))) ∧ news = (gA, listOf as.toArray cG) :: (gR, listOf rs.toArray cR) :: [] ∧ Geo u x y z ∧ i < Mof u x y z ∧ j < Mof u x y z ∧ 0 < to ∧ turn < 3 ∧ TokOff rs to ∧ IntsAre rs (RingP u x y z turn i) ∧ IntsAre as (RingP u x y z turn j)
theorem same_mod (i j : Nat) {g : Nat} : (((2 * j : Nat) : Int).fmod ((2 * g : Nat) : Int) == ((2 * i : Nat) : Int).fmod ((2 * g : Nat) : Int)) = decide (j % g = i % g) := by
  rw [half_fmod, half_fmod]
  by_cases h : j % g = i % g
  · rw [h]; simp
  · rw [decide_eq_false h]
    apply beq_eq_false_iff_ne.mpr
    omega
theorem law_15 (w : World) (p : Program) (loose : List Str) (mean : ExcName → Option Value) (mg mb : Str → Option Value)
    (plain3 : ∀ u x y z i j turn, Geo u x y z → i < Mof u x y z → j < Mof u x y z → turn < 3 → (RingP u x y z turn i).any (fun q => q == ((2 * j : Nat) : Int)) = decide (j % Gof u x y z = i % Gof u x y z))
    (rest : LawGo w p loose mean mg mb 16 Pre16) :
    LawGo w p loose mean mg mb 14 Pre14 := by
  w_on
  intro dp un gd a ccd A₀ h₀ L m news s Q E B F X N T hd hu hpre hret
  refine use1 hpre (ex6 fun gR gA rs as cR cG => ex6 fun u x y z i j => ex5 fun turn tr ts th to => an8 fun q1 q2 q3 q4 q5 q6 zr6 => an8 fun hG hi hj ht0 hturn3 hoff hR hA => ?_)
  clear hpre
  subst zr6
  obtain ⟨M0, M1, G0, G1, MG, GM⟩ := geo_M hG
  have hRl : (RingP u x y z turn i).length ≤ 21 := ring_len _ _
  have hp3 := plain3 u x y z i j turn hG hi hj hturn3
  have hR1 := PySem.Flt.Hid.mk hR
  have hA := PySem.Flt.Hid.mk hA
  have r2 : (0 : Int) < ((2 * Gof u x y z : Nat) : Int) := by omega
  have F₂ := fr_put6 F q1 q2 q3 q4 q5 q6
  clear F
  show wpAny _ _ (execs (_ :: _) _) _ _ _
  refine wpAny_execs_cons ?_
  repeat' (first | (k_unfold; (try dsimp only)) | ((fail_if_success (with_reducible show wpAny _ _ (execs _ _) _ _ _)); (fail_if_success (with_reducible show wpAny _ _ (call (Value.ref 271) _) _ _ _)); walk1) | (leave1; try dsimp only))
  rename Fr _ _ _ _ => FF
  rename News _ _ _ _ => NN
  have N2 : News h₀ L _ ((gR, listOf rs.toArray cR) :: [(gA, listOf as.toArray cG)]) := fun q hq => NN q (by
    rcases List.mem_cons.mp hq with rfl | hq
    · exact .tail _ (.head _)
    · rcases List.mem_cons.mp hq with rfl | hq
      · exact .head _
      · cases hq)
  refine use_t (contains_spec w p loose mean mg mb gR cR rs _ hR (by omega) ((2 * j : Nat) : Int) to _) B FF X N2 T rfl (by omega) (by omega) ?_
  rintro r nx h1 tk1 F1 N1 hle1 ⟨rfl, rfl⟩
  clear FF NN N2 hR
  rw [hp3]
  repeat' (first | (k_unfold; (try dsimp only)) | ((fail_if_success (with_reducible show wpAny _ _ (execs _ _) _ _ _)); walk1) | (leave1; try dsimp only))
  (try dsimp only)
  refine wpAny_execs_cons ?_
  repeat' (first | (k_unfold; (try dsimp only)) | ((fail_if_success (with_reducible show wpAny _ _ (execs _ _) _ _ _)); (fail_if_success (with_reducible show wpAny _ _ (compareOp CmpOp.IsNot _ _) _ _ _)); walk1) | (leave1; try dsimp only))
  rw [same_mod i j]
  refine wpAny_isNot_self (by rfl) ?_
  repeat' (first | (k_unfold; (try dsimp only)) | ((fail_if_success (with_reducible show wpAny _ _ (execs (_ :: _) _) _ _ _)); walk1) | (leave1; try dsimp only))
  (try dsimp only)
  rename Fr _ _ _ _ => FF
  rename News _ _ _ _ => NN
  have N4 : News h₀ L _ ((gA, listOf as.toArray cG) :: (gR, listOf rs.toArray cR) :: []) := fun q hq => NN q (by
    rcases List.mem_cons.mp hq with rfl | hq
    · exact .tail _ (.head _)
    · rcases List.mem_cons.mp hq with rfl | hq
      · exact .head _
      · cases hq)
  clear NN
  exact rest _ _ _ _ _ _ _ _ _ _ _ _ _ B FF X N4 T hd hu ⟨gR, gA, rs, as, cR, cG, u, x, y, z, i, j, turn, tr, ts, th, to, rfl, rfl, rfl, rfl, rfl, rfl, rfl, rfl, hG, hi, hj, ht0, hturn3, hoff, hR1.out, hA.out⟩ hret
end
section
open PySem.Calls PySem.Spec
section
variable {prog : Program} {w : World} {A : Around} {E : Value → Shared → Prop} {s : Shared} {h₀ : Heap} {L : Addr} {m : Str → Option Value} {news : List (Addr × Obj)}
theorem entry_hasattr : entryFor table "hasattr" = some Builtin.«hasattr» := entryFor_of_fast (by kernel_rfl)
theorem args_hasattr (a b : Value) : argsOk "hasattr" ⟨[a, b], []⟩ := by unfold argsOk; kernel_rfl
theorem slot_list_ga : Slot "list" "__getattribute__" "list.__getattribute__" := .of (owner := "list") (n := "__getattribute__") (by rw [typeLookup_type, builtinLookup_eq_fast]; kernel_rfl) (by decide +kernel) (by decide +kernel) (by decide +kernel)
  (by first | exact .inl (by decide +kernel) | exact .inr (by decide +kernel)) (by rw [isSubtype_type]; kernel_rfl)
theorem entry_list_ga : entryFor table "list.__getattribute__" = some Builtin.«object.__getattribute__» := entryFor_alias (id' := "object.__getattribute__") (by rw [fastTable_eq_tree]; kernel_rfl) (by first | rfl | decide +kernel) (by decide +kernel) (by rw [fastTable_eq_tree]; kernel_rfl)
theorem args_list_ga (o a : Value) : argsOk "list.__getattribute__" ⟨[o, a], []⟩ := by unfold argsOk; kernel_rfl
theorem sp_get : specialOf (.builtin "list.__getitem__") "__get__" = pure (some (.builtin "method_descriptor.__get__")) := by
  show typeLookup (.type "method_descriptor") "__get__" = _
  rw [typeLookup_type, builtinLookup_eq_fast]; kernel_rfl
theorem sp_set : specialOf (.builtin "list.__getitem__") "__set__" = pure none := by
  show typeLookup (.type "method_descriptor") "__set__" = _
  rw [typeLookup_type, builtinLookup_eq_fast]; kernel_rfl
theorem sp_delete : specialOf (.builtin "list.__getitem__") "__delete__" = pure none := by
  show typeLookup (.type "method_descriptor") "__delete__" = _
  rw [typeLookup_type, builtinLookup_eq_fast]; kernel_rfl
theorem slot_md_get : Slot "method_descriptor" "__get__" "method_descriptor.__get__" := .of (owner := "method_descriptor") (n := "__get__") (by rw [typeLookup_type, builtinLookup_eq_fast]; kernel_rfl) (by decide +kernel) (by decide +kernel) (by decide +kernel)
  (by first | exact .inl (by decide +kernel) | exact .inr (by decide +kernel)) (by rw [isSubtype_type]; kernel_rfl)
theorem entry_md_get : entryFor table "method_descriptor.__get__" = some Builtin.«method_descriptor.__get__» := entryFor_of_tree (by kernel_rfl)
theorem args_md_get (a b c : Value) : argsOk "method_descriptor.__get__" ⟨[a, b, c], []⟩ := by unfold argsOk; kernel_rfl
theorem slot_wd_get : Slot "wrapper_descriptor" "__get__" "wrapper_descriptor.__get__" := .of (owner := "wrapper_descriptor") (n := "__get__") (by rw [typeLookup_type, builtinLookup_eq_fast]; kernel_rfl) (by decide +kernel) (by decide +kernel) (by decide +kernel)
  (by first | exact .inl (by decide +kernel) | exact .inr (by decide +kernel)) (by rw [isSubtype_type]; kernel_rfl)
theorem entry_wd_get : entryFor table "wrapper_descriptor.__get__" = some Builtin.«wrapper_descriptor.__get__» := entryFor_of_tree (by kernel_rfl)
theorem args_wd_get (a b c : Value) : argsOk "wrapper_descriptor.__get__" ⟨[a, b, c], []⟩ := by unfold argsOk; kernel_rfl
theorem hasattr_list {l : Addr} {items : Array Value} {c : Nat} {t : Tok} {Q : Value → Shared → Prop} {hp : Heap} {g : Array GenState} {d : Drawn} {tk : Nat} {os : OsState} 
    (hl : hp.get? l = some (listOf items c)) 
    (h : ∀ h' tk', (∀ b o, hp.get? b = some o → h'.get? b = some o) → Q (.bool true) ⟨h', g, d, tk', os⟩) :
    wpAny (model prog w) A (call (.builtin "hasattr") [.ref l, .str "__getitem__" t]) Q E ⟨hp, g, d, tk, os⟩ := by
  refine call_function_entry (by decide +kernel) (by decide +kernel) entry_hasattr (args_hasattr _ _) ?_
  unfold Builtin.«hasattr»
  refine wpAny_bind (m := someArgs "hasattr" 2 2 _) (wpAny_of_eq (a := [Value.ref l, .str "__getitem__" t]) (by first | rfl | kernel_rfl!) ?_)
  dsimp only
  have ht : Shared.TypeIs ⟨hp, g, d, tk, os⟩ (.ref l) "list" := ⟨_, hl, rfl⟩
  have e1 : typeLookup (.type "list") "__getitem__" = pure (some (.builtin "list.__getitem__")) := by rw [typeLookup_type, builtinLookup_eq_fast]; kernel_rfl
  have e2 : typeLookup (.type "list") "__getattribute__" = pure (some (.builtin "list.__getattribute__")) := by rw [typeLookup_type, builtinLookup_eq_fast]; kernel_rfl
  have e3 : isSubtype (.type "list") (.type "module") = pure false := by rw [isSubtype_type]; kernel_rfl
  have sp1 := sp_get
  have sp2 := sp_set
  have sp3 := sp_delete
  iterate 51 wp_step
  refine wpAny_of_eq (slot_list_ga.bind _) ?_
  refine (wpAny_call_entry slot_list_ga ht entry_list_ga ?_ (args_list_ga _ _))
  unfold Builtin.«object.__getattribute__»
  iterate 59 wp_step
  refine (wpAny_call_entry slot_md_get (by first | rfl | kernel_rfl) entry_md_get ?_ (args_md_get _ _ _))
  unfold Builtin.«method_descriptor.__get__»
  have ho : isSubtype (.type "list") (.type (".".intercalate ("list.__getitem__".cutAt '.').dropLast)) = pure true := by rw [isSubtype_type]; kernel_rfl
  iterate 31 wp_step
  refine ⟨_, rfl, ?_⟩
  refine wpAny_pure ?_
  refine ⟨_, rfl, ?_⟩
  iterate 7 wp_step
  exact ⟨_, rfl, h _ _ fun b o e => Heap.get?_push_of_some _ e⟩
theorem slot_str_ga : Slot "str" "__getattribute__" "object.__getattribute__" := .of (owner := "object") (n := "__getattribute__") (by rw [typeLookup_type, builtinLookup_eq_fast]; kernel_rfl) (by decide +kernel) (by decide +kernel) (by decide +kernel)
  (by first | exact .inl (by decide +kernel) | exact .inr (by decide +kernel)) (by rw [isSubtype_type]; kernel_rfl)
theorem entry_obj_ga : entryFor table "object.__getattribute__" = some Builtin.«object.__getattribute__» := entryFor_of_tree (by kernel_rfl)
theorem args_obj_ga (o a : Value) : argsOk "object.__getattribute__" ⟨[o, a], []⟩ := by unfold argsOk; kernel_rfl
theorem st_get : specialOf (.builtin "str.__getitem__") "__get__" = pure (some (.builtin "wrapper_descriptor.__get__")) := by
  show typeLookup (.type "wrapper_descriptor") "__get__" = _
  rw [typeLookup_type, builtinLookup_eq_fast]; kernel_rfl
theorem st_set : specialOf (.builtin "str.__getitem__") "__set__" = pure none := by
  show typeLookup (.type "wrapper_descriptor") "__set__" = _
  rw [typeLookup_type, builtinLookup_eq_fast]; kernel_rfl
theorem st_delete : specialOf (.builtin "str.__getitem__") "__delete__" = pure none := by
  show typeLookup (.type "wrapper_descriptor") "__delete__" = _
  rw [typeLookup_type, builtinLookup_eq_fast]; kernel_rfl
theorem ty_getitem : typeOf (.builtin "str.__getitem__") = pure (.type "wrapper_descriptor") := by show builtinType _ = _; rw [builtinType_eq_fast]; kernel_rfl
theorem hasattr_str {x : Str} {u t : Tok} {Q : Value → Shared → Prop} {hp : Heap} {g : Array GenState} {d : Drawn} {tk : Nat} {os : OsState} 
    (h : ∀ h' tk', (∀ b o, hp.get? b = some o → h'.get? b = some o) → Q (.bool true) ⟨h', g, d, tk', os⟩) :
    wpAny (model prog w) A (call (.builtin "hasattr") [.str x u, .str "__getitem__" t]) Q E ⟨hp, g, d, tk, os⟩ := by
  refine call_function_entry (by decide +kernel) (by decide +kernel) entry_hasattr (args_hasattr _ _) ?_
  unfold Builtin.«hasattr»
  refine wpAny_bind (m := someArgs "hasattr" 2 2 _) (wpAny_of_eq (a := [Value.str x u, .str "__getitem__" t]) (by first | rfl | kernel_rfl!) ?_)
  dsimp only
  have ht : Shared.TypeIs ⟨hp, g, d, tk, os⟩ (.str x u) "str" := rfl
  have e1 : typeLookup (.type "str") "__getitem__" = pure (some (.builtin "str.__getitem__")) := by rw [typeLookup_type, builtinLookup_eq_fast]; kernel_rfl
  have e2 : typeLookup (.type "str") "__getattribute__" = pure (some (.builtin "object.__getattribute__")) := by rw [typeLookup_type, builtinLookup_eq_fast]; kernel_rfl
  have e3 : isSubtype (.type "str") (.type "module") = pure false := by rw [isSubtype_type]; kernel_rfl
  have sp1 := st_get
  have sp2 := st_set
  have sp3 := st_delete
  iterate 45 wp_step
  refine wpAny_of_eq (slot_str_ga.bind _) ?_
  refine (wpAny_call_entry slot_str_ga ht entry_obj_ga ?_ (args_obj_ga _ _))
  unfold Builtin.«object.__getattribute__»
  iterate 46 wp_step
  refine (wpAny_call_entry slot_wd_get ty_getitem entry_wd_get ?_ (args_wd_get _ _ _))
  unfold Builtin.«wrapper_descriptor.__get__»
  have ho : isSubtype (.type "str") (.type (".".intercalate ("str.__getitem__".cutAt '.').dropLast)) = pure true := by rw [isSubtype_type]; kernel_rfl
  iterate 29 wp_step
  refine ⟨_, rfl, ?_⟩
  refine wpAny_pure ?_
  refine ⟨_, rfl, ?_⟩
  iterate 7 wp_step
  exact ⟨_, rfl, h _ _ fun b o e => Heap.get?_push_of_some _ e⟩
end
end
section
section
variable {prog : Program} {w : World} {A : Around} {E : Value → Shared → Prop} {s : Shared} {h₀ : Heap} {L : Addr} {m : Str → Option Value} {news : List (Addr × Obj)}
theorem hasattr_lN {l : Addr} {vs : List Value} {c : Nat} {t : Tok} {Q : Value → Shared → Prop} (F : Fr h₀ L s.heap m) (N : News h₀ L s.heap news) (hl : (l, listOf vs.toArray c) ∈ news)
    (h : ∀ h' tk', Fr h₀ L h' m → News h₀ L h' news → Q (.bool true) { s with heap := h', toks := tk' }) : wpAny (model prog w) A (call (.builtin "hasattr") [.ref l, .str (Str.ofString "__getitem__") t]) Q E s := by
  obtain ⟨hp, g, d, tk, os⟩ := s
  exact hasattr_list (N _ hl).1 fun h' tk' hk => h h' tk' (F.keeps hk) fun p hp => ⟨hk _ _ (N p hp).1, (N p hp).2⟩
theorem hasattr_sN {x : Str} {u t : Tok} {Q : Value → Shared → Prop} (F : Fr h₀ L s.heap m) (N : News h₀ L s.heap news)
    (h : ∀ h' tk', Fr h₀ L h' m → News h₀ L h' news → Q (.bool true) { s with heap := h', toks := tk' }) : wpAny (model prog w) A (call (.builtin "hasattr") [.str x u, .str (Str.ofString "__getitem__") t]) Q E s := by
  obtain ⟨hp, g, d, tk, os⟩ := s
  exact hasattr_str fun h' tk' hk => h h' tk' (F.keeps hk) fun p hp => ⟨hk _ _ (N p hp).1, (N p hp).2⟩
end
theorem concat_list (w : World) (p : Program) (loose : List Str) (mean : ExcName → Option Value) (mg mb : Str → Option Value) (l : Addr) (c0 : Nat) (vs : List Value) (ns : List Int) (hi : IntsAre vs ns) (hz : ns.length ≤ 400) (news : List (Addr × Obj)) :
    Gives w p loose mean mg mb 264 4 40 ((l, listOf vs.toArray c0) :: news) [.ref l, .ref l] (fun r nx => ∃ g, r = .ref g ∧ nx = (g, listOf (vs ++ vs).toArray 0) :: (l, listOf vs.toArray c0) :: news) := by
  w_on
  intro dp un gd cn cs a ccd cl outer A₀ base h₀ L m s Q E B F X N T hk hd hu hret
  refine wpAny_call ?_
  k_dflt cell_enter
  repeat' (first | (k_unfold; (try dsimp only)) | ((fail_if_success (with_reducible show wpAny _ _ (binaryOp _ _ _) _ _ _)); (first | ((fail_if_success (fail_if_success (with_reducible show wpAny _ _ (call (Value.builtin _) _ _) _ _ _))); k_here; first | ((with_reducible show wpAny _ _ (call (Value.builtin _) [Value.str _ _, Value.str _ _]) _ _ _); refine' hasattr_sN (by k_asm) (by k_asm) ?_; k_whole; intro _ _ _ _) | ((with_reducible show wpAny _ _ (call (Value.builtin _) [Value.ref _, Value.str _ _]) _ _ _); refine' hasattr_lN (by k_asm) (by k_asm) (by k_mem) ?_; k_whole; intro _ _ _ _)) | walk1)) | (leave1; try dsimp only))
  rename Fr _ _ _ _ => FF
  rename News _ _ _ _ => NN
  refine kmk_add_lit (its := vs.toArray) (its2 := vs.toArray) (zs := vs ++ vs) FF NN (by is_list) (by is_list) rfl (fun D h9 F9 N9 hD => ?_) (by have := hi.length; rw [sizeLine_eq]; simp only [List.toList_toArray]; omega)
  clear FF NN
  repeat' (first | (k_unfold; (try dsimp only); (try (clear ek)); (try (clear qk))) | ((fail_if_success (fail_if_success (with_reducible show wpAny _ _ (execs (_ :: _) _) _ _ _))); k_fold) | (k_end; wrow_close) | ((fail_if_success (fail_if_success (with_reducible show wpAny _ _ (call (Value.builtin _) _ _) _ _ _))); k_here; first | ((with_reducible show wpAny _ _ (call (Value.builtin _) [Value.str _ _, Value.str _ _]) _ _ _); refine' hasattr_sN (by k_asm) (by k_asm) ?_; k_whole; intro _ _ _ _) | ((with_reducible show wpAny _ _ (call (Value.builtin _) [Value.ref _, Value.str _ _]) _ _ _); refine' hasattr_lN (by k_asm) (by k_asm) (by k_mem) ?_; k_whole; intro _ _ _ _)) | walk1 | (dsimp only; (first | ((fail_if_success (fail_if_success (with_reducible show wpAny _ _ (call (Value.builtin _) _ _) _ _ _))); k_here; first | ((with_reducible show wpAny _ _ (call (Value.builtin _) [Value.str _ _, Value.str _ _]) _ _ _); refine' hasattr_sN (by k_asm) (by k_asm) ?_; k_whole; intro _ _ _ _) | ((with_reducible show wpAny _ _ (call (Value.builtin _) [Value.ref _, Value.str _ _]) _ _ _); refine' hasattr_lN (by k_asm) (by k_asm) (by k_mem) ?_; k_whole; intro _ _ _ _)) | walk1)) | (leave1; (try dsimp only)) | fail "no step")
  exact hret _ _ _ _ (by assumption) (by assumption) ⟨D, rfl, rfl⟩
theorem concat_str (w : World) (p : Program) (loose : List Str) (mean : ExcName → Option Value) (mg mb : Str → Option Value) (x y : Str) (tx ty : Tok) (hx : x.length ≤ 400) (hy : y.length ≤ 400) (news : List (Addr × Obj)) :
    Gives w p loose mean mg mb 264 4 40 news [.str x tx, .str y ty] (fun r nx => (∃ z t, r = .str z t ∧ codes z = codes x ++ codes y) ∧ nx = news) := by
  w_on
  intro dp un gd cn cs a ccd cl outer A₀ base h₀ L m s Q E B F X N T hk hd hu hret
  refine wpAny_call ?_
  k_dflt cell_enter
  repeat' (first | (k_unfold; (try dsimp only); (try (clear ek)); (try (clear qk))) | ((fail_if_success (fail_if_success (with_reducible show wpAny _ _ (execs (_ :: _) _) _ _ _))); k_fold) | (k_end; wrow_close) | ((fail_if_success (fail_if_success (with_reducible show wpAny _ _ (call (Value.builtin _) _ _) _ _ _))); k_here; first | ((with_reducible show wpAny _ _ (call (Value.builtin _) [Value.str _ _, Value.str _ _]) _ _ _); refine' hasattr_sN (by k_asm) (by k_asm) ?_; k_whole; intro _ _ _ _) | ((with_reducible show wpAny _ _ (call (Value.builtin _) [Value.ref _, Value.str _ _]) _ _ _); refine' hasattr_lN (by k_asm) (by k_asm) (by k_mem) ?_; k_whole; intro _ _ _ _)) | walk1 | (dsimp only; (first | ((fail_if_success (fail_if_success (with_reducible show wpAny _ _ (call (Value.builtin _) _ _) _ _ _))); k_here; first | ((with_reducible show wpAny _ _ (call (Value.builtin _) [Value.str _ _, Value.str _ _]) _ _ _); refine' hasattr_sN (by k_asm) (by k_asm) ?_; k_whole; intro _ _ _ _) | ((with_reducible show wpAny _ _ (call (Value.builtin _) [Value.ref _, Value.str _ _]) _ _ _); refine' hasattr_lN (by k_asm) (by k_asm) (by k_mem) ?_; k_whole; intro _ _ _ _)) | walk1)) | (leave1; (try dsimp only)) | fail "no step")
  exact hret _ _ _ _ (by assumption) (by assumption) ⟨⟨_, _, rfl, codes_append _ _⟩, rfl⟩
end
section
abbrev Pre19 (_ : Heap) (m : Str → Option Value) (news : List (Addr × Obj)) (_ : Nat) : Prop := ∃ (gR gA : Addr) (rs as : List Value) (cR cG : Nat) (u x y z i j turn : Nat), m (Str.ofString "ring") = some (.ref gR) ∧ m (Str.ofString "again") = some (.ref gA) ∧ news = (gA, listOf as.toArray cG) :: (gR, listOf rs.toArray cR) :: [] ∧ Geo u x y z ∧ i < Mof u x y z ∧ j < Mof u x y z ∧ turn < 3 ∧ IntsAre rs (RingP u x y z turn i) ∧ IntsAre as (RingP u x y z turn j)
theorem law_17 (w : World) (p : Program) (loose : List Str) (mean : ExcName → Option Value) (mg mb : Str → Option Value)
    (plain3 : ∀ u x y z i j turn, Geo u x y z → i < Mof u x y z → j < Mof u x y z → turn < 3 → (RingP u x y z turn i).any (fun q => q == ((2 * j : Nat) : Int)) = decide (j % Gof u x y z = i % Gof u x y z))
    (plain4 : ∀ u x y z i j turn, Geo u x y z → i < Mof u x y z → j < Mof u x y z → turn < 3 → j % Gof u x y z = i % Gof u x y z → RingP u x y z turn j = ((RingP u x y z turn i ++ RingP u x y z turn i).drop ((RingP u x y z turn i ++ RingP u x y z turn i).idxOf ((2 * j : Nat) : Int))).take (RingP u x y z turn i).length)
    (plain1 : ∀ u x y z i turn, Geo u x y z → i < Mof u x y z → turn < 3 → (AlikeP u x y z i).Perm (RingP u x y z turn i))
    (rest : LawGo w p loose mean mg mb 19 Pre19) :
    LawGo w p loose mean mg mb 16 Pre16 := by
  w_on
  intro dp un gd a ccd A₀ h₀ L m news s Q E B F X N T hd hu hpre hret
  refine use1 hpre (ex6 fun gR gA rs as cR cG => ex6 fun u x y z i j => ex5 fun turn tr ts th to => an8 fun q1 q2 q3 q4 q5 q6 q7 => an7 fun zr7 hG hi hj ht0 hturn3 => an3 fun hoff hR hA => ?_)
  clear hpre
  subst zr7
  obtain ⟨M0, M1, G0, G1, MG, GM⟩ := geo_M hG
  have hp1 := PySem.Flt.Hid.mk (plain1 u x y z j turn hG hj hturn3)
  have hp3 := PySem.Flt.Hid.mk (plain3 u x y z i j turn hG hi hj hturn3)
  have hp4 := PySem.Flt.Hid.mk (plain4 u x y z i j turn hG hi hj hturn3)
  have hRl : (RingP u x y z turn i).length ≤ 21 := ring_len _ _
  have hAl : (RingP u x y z turn j).length ≤ 21 := ring_len _ _
  obtain ⟨R, hRd⟩ : ∃ R, R = RingP u x y z turn i := ⟨_, rfl⟩
  obtain ⟨A, hAd⟩ : ∃ A, A = RingP u x y z turn j := ⟨_, rfl⟩
  rw [← hRd] at hR hRl hp3 hp4
  rw [← hAd] at hA hAl hp1 hp4
  have hRd := PySem.Flt.Hid.mk hRd
  have hAd := PySem.Flt.Hid.mk hAd
  have F₂ := fr_put7 F q1 q2 q3 q4 q5 q6 q7
  clear F
  show wpAny _ _ (execs (_ :: _) _) _ _ _
  refine wpAny_execs_cons ?_
  repeat' (first | (k_unfold; (try dsimp only)) | ((fail_if_success (with_reducible show wpAny _ _ (execs _ _) _ _ _)); (fail_if_success (with_reducible show wpAny _ _ (call (Value.ref 264) _) _ _ _)); (first | ((fail_if_success (fail_if_success (with_reducible show wpAny _ _ (subscriptTail _ _ _ _) _ _ _))); k_here; ((with_reducible show wpAny _ _ (subscriptTail _ (PySem.Expr.Slice _ _ none _) (Value.ref _) (Value.ref _)) _ _ _); k_dflt (refine' kmk_slice_ints (by k_asm) (by k_asm) (by kmk_list) (by kmk_part) (by kmk_part) (by l_ints) (by first | exact kmk_from (by l_ints) (Int.natCast_nonneg _) | exact kmk_upto (by l_ints) (Int.natCast_nonneg _)) (by exact rfl) ?_ (by with_unfolding_all rfl) (by kmk_pure) (by kmk_size)); intro _ _ _ _ _ zl1 zI zC zL; (clear zC); (try simp only [Int.toNat_natCast] at zI zL); (try k_lt zl1); (try (revert zI; intro _)); (try (revert zL; intro _)); (try (revert zl1; intro _)))) | walk1)) | (leave1; try dsimp only))
  rename Fr _ _ _ _ => FF
  rename News _ _ _ _ => NN
  have N2 : News h₀ L _ ((gR, listOf rs.toArray cR) :: [(gA, listOf as.toArray cG)]) := fun q hq => NN q (by
    rcases List.mem_cons.mp hq with rfl | hq
    · exact .tail _ (.head _)
    · rcases List.mem_cons.mp hq with rfl | hq
      · exact .head _
      · cases hq)
  refine use_t (concat_list w p loose mean mg mb gR cR rs _ hR (by omega) _) B FF X N2 T rfl (by omega) (by omega) ?_
  rintro r nx h1 tk1 F1 N1 hle1 ⟨gT, rfl, rfl⟩
  have hRR := hR.append hR
  clear FF NN N2
  by_cases hf : j % Gof u x y z = i % Gof u x y z
  · rw [decide_eq_true hf] at F1
    repeat' (first | (k_unfold; (try dsimp only)) | ((fail_if_success (with_reducible show wpAny _ _ (execs _ _) _ _ _)); (first | ((fail_if_success (fail_if_success (with_reducible show wpAny _ _ (subscriptTail _ _ _ _) _ _ _))); k_here; ((with_reducible show wpAny _ _ (subscriptTail _ (PySem.Expr.Slice _ _ none _) (Value.ref _) (Value.ref _)) _ _ _); k_dflt (refine' kmk_slice_ints (by k_asm) (by k_asm) (by kmk_list) (by kmk_part) (by kmk_part) (by l_ints) (by first | exact kmk_from (by l_ints) (Int.natCast_nonneg _) | exact kmk_upto (by l_ints) (Int.natCast_nonneg _)) (by exact rfl) ?_ (by with_unfolding_all rfl) (by kmk_pure) (by kmk_size)); intro _ _ _ _ _ zl1 zI zC zL; (clear zC); (try simp only [Int.toNat_natCast] at zI zL); (try k_lt zl1); (try (revert zI; intro _)); (try (revert zL; intro _)); (try (revert zl1; intro _)))) | walk1)) | (leave1; try dsimp only))
    (try dsimp only)
    refine wpAny_execs_cons ?_
    repeat' (first | (k_unfold; (try dsimp only)) | ((fail_if_success (with_reducible show wpAny _ _ (execs _ _) _ _ _)); (fail_if_success (with_reducible show wpAny _ _ (call (Value.ref 278) _) _ _ _)); (first | ((fail_if_success (fail_if_success (with_reducible show wpAny _ _ (subscriptTail _ _ _ _) _ _ _))); k_here; ((with_reducible show wpAny _ _ (subscriptTail _ (PySem.Expr.Slice _ _ none _) (Value.ref _) (Value.ref _)) _ _ _); k_dflt (refine' kmk_slice_ints (by k_asm) (by k_asm) (by kmk_list) (by kmk_part) (by kmk_part) (by l_ints) (by first | exact kmk_from (by l_ints) (Int.natCast_nonneg _) | exact kmk_upto (by l_ints) (Int.natCast_nonneg _)) (by exact rfl) ?_ (by with_unfolding_all rfl) (by kmk_pure) (by kmk_size)); intro _ _ _ _ _ zl1 zI zC zL; (clear zC); (try simp only [Int.toNat_natCast] at zI zL); (try k_lt zl1); (try (revert zI; intro _)); (try (revert zL; intro _)); (try (revert zl1; intro _)))) | walk1)) | (leave1; try dsimp only))
    rename Fr _ _ _ _ => FF
    rename News _ _ _ _ => NN
    have hmem : ((2 * j : Nat) : Int) ∈ R ++ R := by
      have e := hp3.out
      rw [decide_eq_true hf] at e
      obtain ⟨q, hq, eq⟩ := List.any_eq_true.mp e
      rw [← eq_of_beq eq]
      exact List.mem_append_left _ hq
    have htok : ∀ v ∈ rs ++ rs, ∀ z t, v = Value.int z t → t ≠ 0 ∧ (z ≠ ((2 * j : Nat) : Int) → t ≠ to) := fun v hv z t e => by
      have := hoff v ((List.mem_append.mp hv).elim id id) z t e
      exact ⟨this.1, fun _ => this.2⟩
    refine use_t (indexOf_spec w p loose mean mg mb gT 0 (rs ++ rs) (R ++ R) hRR (by rw [List.length_append]; omega) ((2 * j : Nat) : Int) hmem to (Nat.ne_of_gt ht0) htok _) B FF X NN T rfl (by omega) (by omega) ?_
    rintro r nx h2 tk2 F2 N2 hle2 ⟨⟨t2, rfl⟩, rfl⟩
    clear FF NN
    have hk1 : (R ++ R).idxOf ((2 * j : Nat) : Int) < 42 := by
      have := List.idxOf_lt_length_of_mem hmem
      rw [List.length_append] at this
      omega
    have eA := hp4.out hf
    clear hmem htok
    generalize (R ++ R).idxOf ((2 * j : Nat) : Int) = kk at hk1 eA F2 N2 ⊢
    repeat' (first | (k_unfold; (try dsimp only)) | ((fail_if_success (with_reducible show wpAny _ _ (execs _ _) _ _ _)); (fail_if_success (with_reducible show wpAny _ _ (compareOp _ _ _) _ _ _)); (first | ((fail_if_success (fail_if_success (with_reducible show wpAny _ _ (subscriptTail _ _ _ _) _ _ _))); k_here; ((with_reducible show wpAny _ _ (subscriptTail _ (PySem.Expr.Slice _ _ none _) (Value.ref _) (Value.ref _)) _ _ _); k_dflt (refine' kmk_slice_ints (by k_asm) (by k_asm) (by kmk_list) (by kmk_part) (by kmk_part) (by l_ints) (by first | exact kmk_from (by l_ints) (Int.natCast_nonneg _) | exact kmk_upto (by l_ints) (Int.natCast_nonneg _)) (by exact rfl) ?_ (by with_unfolding_all rfl) (by kmk_pure) (by kmk_size)); intro _ _ _ _ _ zl1 zI zC zL; (clear zC); (try simp only [Int.toNat_natCast] at zI zL); (try k_lt zl1); (try (revert zI; intro _)); (try (revert zL; intro _)); (try (revert zl1; intro _)))) | walk1)) | (leave1; try dsimp only))
    rw [eA] at hA
    repeat' (first | (k_unfold; (try dsimp only)) | ((fail_if_success (with_reducible show wpAny _ _ (execs (_ :: _) _) _ _ _)); (first | ((fail_if_success (fail_if_success (with_reducible show wpAny _ _ (subscriptTail _ _ _ _) _ _ _))); k_here; ((with_reducible show wpAny _ _ (subscriptTail _ (PySem.Expr.Slice _ _ none _) (Value.ref _) (Value.ref _)) _ _ _); k_dflt (refine' kmk_slice_ints (by k_asm) (by k_asm) (by kmk_list) (by kmk_part) (by kmk_part) (by l_ints) (by first | exact kmk_from (by l_ints) (Int.natCast_nonneg _) | exact kmk_upto (by l_ints) (Int.natCast_nonneg _)) (by exact rfl) ?_ (by with_unfolding_all rfl) (by kmk_pure) (by kmk_size)); intro _ _ _ _ _ zl1 zI zC zL; (clear zC); (try simp only [Int.toNat_natCast] at zI zL); (try k_lt zl1); (try (revert zI; intro _)); (try (revert zL; intro _)); (try (revert zl1; intro _)))) | walk1)) | (leave1; try dsimp only))
    (try dsimp only)
    refine wpAny_execs_cons ?_
    repeat' (first | (k_unfold; (try dsimp only)) | ((fail_if_success (with_reducible show wpAny _ _ (execs (_ :: _) _) _ _ _)); (first | ((fail_if_success (fail_if_success (with_reducible show wpAny _ _ (subscriptTail _ _ _ _) _ _ _))); k_here; ((with_reducible show wpAny _ _ (subscriptTail _ (PySem.Expr.Slice _ _ none _) (Value.ref _) (Value.ref _)) _ _ _); k_dflt (refine' kmk_slice_ints (by k_asm) (by k_asm) (by kmk_list) (by kmk_part) (by kmk_part) (by l_ints) (by first | exact kmk_from (by l_ints) (Int.natCast_nonneg _) | exact kmk_upto (by l_ints) (Int.natCast_nonneg _)) (by exact rfl) ?_ (by with_unfolding_all rfl) (by kmk_pure) (by kmk_size)); intro _ _ _ _ _ zl1 zI zC zL; (clear zC); (try simp only [Int.toNat_natCast] at zI zL); (try k_lt zl1); (try (revert zI; intro _)); (try (revert zL; intro _)); (try (revert zl1; intro _)))) | walk1)) | (leave1; try dsimp only))
    (try dsimp only)
    rename Fr _ _ _ _ => FF
    rename News _ _ _ _ => NN
    have N4 : News h₀ L _ ((gA, listOf as.toArray cG) :: (gR, listOf rs.toArray cR) :: []) := fun q hq => NN q (by
      rcases List.mem_cons.mp hq with rfl | hq
      · exact .tail _ (.tail _ (.tail _ (.tail _ (.head _))))
      · rcases List.mem_cons.mp hq with rfl | hq
        · exact .tail _ (.tail _ (.tail _ (.head _)))
        · cases hq)
    clear NN
    rw [← eA, hAd.out] at hA
    rw [hRd.out] at hR
    exact rest _ _ _ _ _ _ _ _ _ _ _ _ _ B FF X N4 T hd hu ⟨gR, gA, rs, as, cR, cG, u, x, y, z, i, j, turn, rfl, rfl, rfl, hG, hi, hj, hturn3, hR, hA⟩ hret
  · rw [decide_eq_false hf] at F1
    repeat' (first | (k_unfold; (try dsimp only)) | ((fail_if_success (with_reducible show wpAny _ _ (execs _ _) _ _ _)); (first | ((fail_if_success (fail_if_success (with_reducible show wpAny _ _ (subscriptTail _ _ _ _) _ _ _))); k_here; ((with_reducible show wpAny _ _ (subscriptTail _ (PySem.Expr.Slice _ _ none _) (Value.ref _) (Value.ref _)) _ _ _); k_dflt (refine' kmk_slice_ints (by k_asm) (by k_asm) (by kmk_list) (by kmk_part) (by kmk_part) (by l_ints) (by first | exact kmk_from (by l_ints) (Int.natCast_nonneg _) | exact kmk_upto (by l_ints) (Int.natCast_nonneg _)) (by exact rfl) ?_ (by with_unfolding_all rfl) (by kmk_pure) (by kmk_size)); intro _ _ _ _ _ zl1 zI zC zL; (clear zC); (try simp only [Int.toNat_natCast] at zI zL); (try k_lt zl1); (try (revert zI; intro _)); (try (revert zL; intro _)); (try (revert zl1; intro _)))) | walk1)) | (leave1; try dsimp only))
    (try dsimp only)
    refine wpAny_execs_cons ?_
    repeat' (first | (k_unfold; (try dsimp only)) | ((fail_if_success (with_reducible show wpAny _ _ (execs (_ :: _) _) _ _ _)); (first | ((fail_if_success (fail_if_success (with_reducible show wpAny _ _ (subscriptTail _ _ _ _) _ _ _))); k_here; ((with_reducible show wpAny _ _ (subscriptTail _ (PySem.Expr.Slice _ _ none _) (Value.ref _) (Value.ref _)) _ _ _); k_dflt (refine' kmk_slice_ints (by k_asm) (by k_asm) (by kmk_list) (by kmk_part) (by kmk_part) (by l_ints) (by first | exact kmk_from (by l_ints) (Int.natCast_nonneg _) | exact kmk_upto (by l_ints) (Int.natCast_nonneg _)) (by exact rfl) ?_ (by with_unfolding_all rfl) (by kmk_pure) (by kmk_size)); intro _ _ _ _ _ zl1 zI zC zL; (clear zC); (try simp only [Int.toNat_natCast] at zI zL); (try k_lt zl1); (try (revert zI; intro _)); (try (revert zL; intro _)); (try (revert zl1; intro _)))) | walk1)) | (leave1; try dsimp only))
    (try dsimp only)
    refine wpAny_execs_cons ?_
    repeat' (first | (k_unfold; (try dsimp only)) | ((fail_if_success (with_reducible show wpAny _ _ (execs _ _) _ _ _)); (fail_if_success (with_reducible show wpAny _ _ (call (Value.type "list") _) _ _ _)); (first | ((fail_if_success (fail_if_success (with_reducible show wpAny _ _ (subscriptTail _ _ _ _) _ _ _))); k_here; ((with_reducible show wpAny _ _ (subscriptTail _ (PySem.Expr.Slice _ _ none _) (Value.ref _) (Value.ref _)) _ _ _); k_dflt (refine' kmk_slice_ints (by k_asm) (by k_asm) (by kmk_list) (by kmk_part) (by kmk_part) (by l_ints) (by first | exact kmk_from (by l_ints) (Int.natCast_nonneg _) | exact kmk_upto (by l_ints) (Int.natCast_nonneg _)) (by exact rfl) ?_ (by with_unfolding_all rfl) (by kmk_pure) (by kmk_size)); intro _ _ _ _ _ zl1 zI zC zL; (clear zC); (try simp only [Int.toNat_natCast] at zI zL); (try k_lt zl1); (try (revert zI; intro _)); (try (revert zL; intro _)); (try (revert zl1; intro _)))) | walk1)) | (leave1; try dsimp only))
    rename IsRange _ _ _ _ _ _ _ _ => hr
    rename Fr _ _ _ _ => FF
    rename News _ _ _ _ => NN
    rename List.Perm _ _ => pp
    rename List.Pairwise _ _ => oo
    rw [half_fmod] at hr
    have en := sorted_eq (pp.trans hp1.out.symm) oo (alike_sorted u x y z j)
    clear oo pp
    refine list_of_rangeN rfl FF NN hr (cnt_small G0 GM M1 MG) (cnt_range G0 GM) (Nat.le_trans (cnt_le G0 MG) (by decide)) fun D ys c' h' tk F' N' hD hv => ?_
    clear FF NN hr
    have hys := hv.ints
    obtain ⟨ws, rfl⟩ : ∃ ws : List Value, ys = ws.toArray := ⟨ys.toList, by simp⟩
    rw [List.toList_toArray] at hys
    have hys : IntsAre ws (AlikeP u x y z j) := hys
    rw [← en] at hys
    clear hv
    repeat' (first | (k_unfold; (try dsimp only)) | ((fail_if_success (with_reducible show wpAny _ _ (execs (_ :: _) _) _ _ _)); (first | ((fail_if_success (fail_if_success (with_reducible show wpAny _ _ (subscriptTail _ _ _ _) _ _ _))); k_here; ((with_reducible show wpAny _ _ (subscriptTail _ (PySem.Expr.Slice _ _ none _) (Value.ref _) (Value.ref _)) _ _ _); k_dflt (refine' kmk_slice_ints (by k_asm) (by k_asm) (by kmk_list) (by kmk_part) (by kmk_part) (by l_ints) (by first | exact kmk_from (by l_ints) (Int.natCast_nonneg _) | exact kmk_upto (by l_ints) (Int.natCast_nonneg _)) (by exact rfl) ?_ (by with_unfolding_all rfl) (by kmk_pure) (by kmk_size)); intro _ _ _ _ _ zl1 zI zC zL; (clear zC); (try simp only [Int.toNat_natCast] at zI zL); (try k_lt zl1); (try (revert zI; intro _)); (try (revert zL; intro _)); (try (revert zl1; intro _)))) | walk1)) | (leave1; try dsimp only))
    (try dsimp only)
    rename Fr _ _ _ _ => FF
    rename News _ _ _ _ => NN
    have N4 : News h₀ L _ ((gA, listOf as.toArray cG) :: (gR, listOf rs.toArray cR) :: []) := fun q hq => NN q (by
      rcases List.mem_cons.mp hq with rfl | hq
      · exact .tail _ (.tail _ (.tail _ (.tail _ (.head _))))
      · rcases List.mem_cons.mp hq with rfl | hq
        · exact .tail _ (.tail _ (.tail _ (.head _)))
        · cases hq)
    clear NN
    rw [hAd.out] at hA
    rw [hRd.out] at hR
    exact rest _ _ _ _ _ _ _ _ _ _ _ _ _ B FF X N4 T hd hu ⟨gR, gA, rs, as, cR, cG, u, x, y, z, i, j, turn, rfl, rfl, rfl, hG, hi, hj, hturn3, hR, hA⟩ hret
end
section
noncomputable def lawComp : PySem.Expr := match lawDef.body.drop 19 with
  | (.Assign _ (.ListComp e _ _ _) ..) :: _ => e
  | _ => .Constant .none 0 default
noncomputable def lawScope1 : Scope := match lawDef.body.drop 19 with
  | (.Assign _ (.ListComp _ _ sc _) ..) :: _ => sc
  | _ => lawDef.scope
/-- a place's word -/
noncomputable def wordC (n : Int) : List Int := leadZ (n + 1).toNat
section
variable {prog : Program} {w : World} {A : Around} {h₀ : Heap} {L : Addr} {m : Str → Option Value} {env : Env} {elt : PySem.Expr} {x : Str} {scope : Scope} {cl : List (Str × Addr)} {s : Shared} {S : List (Addr × Obj) → Prop} {Fin : List Value → List (Addr × Obj) → Prop} {news : List (Addr × Obj)}
theorem strs_snoc {y : Str} {t : Tok} {c : List Int} (hy : y.length ≤ 6) (hc : codes y = c) : ∀ {vs : List Value} {cs : List (List Int)}, StrsAre vs cs → StrsAre (vs ++ [.str y t]) (cs ++ [c])
  | _, _, .nil => by rw [← hc]; exact .cons hy .nil
  | _, _, .cons h r => .cons h (strs_snoc hy hc r)
theorem comp_strs {vs : List Value} {ns : List Int} (hi : IntsAre vs ns) (f : Int → List Int)
    (turn : ∀ k t I oI C oC D m₂ ys h tk (E' : Value → Shared → Prop), k ∈ ns → LCg.NsObj oC m₂ → m₂ x = some (.int k t) → Fr h₀ L h m → News h₀ L h ((I, oI) :: (C, oC) :: (D, LCg.lst ys) :: news) → LCg.Off3 I C D news → ((@Ne Nat I C) ∧ (@Ne Nat I D) ∧ (@Ne Nat C D)) →
      wpAny (model prog w) A (eval elt (compEnvC scope cl C env)) (LCg.CompEnd h₀ L m { s with heap := h, toks := tk } I oI C oC D (LCg.lst ys) S (fun y news' => PySem.Flt.Hid (news' = news ∧ ∃ u t, y = .str u t ∧ u.length ≤ 6 ∧ codes u = f k))) E' { s with heap := h, toks := tk })
    (fin : ∀ ys, StrsAre ys (ns.map f) → Fin ys news) : LCg.CompRest prog w A h₀ L m env elt x scope cl s S (fun i v => vs.toArray[i]? = some v) Fin vs.toArray.size 0 [] news := by
  have hsz : vs.toArray.size = ns.length := by rw [List.size_toArray, hi.length]
  rw [hsz]
  have key : ∀ (j i : Nat) (ys : List Value), i + j = ns.length → StrsAre ys ((ns.take i).map f) → LCg.CompRest prog w A h₀ L m env elt x scope cl s S (fun i v => vs.toArray[i]? = some v) Fin j i ys news := by
    intro j
    induction j with
    | zero =>
      intro i ys hi' hy
      have e : i = ns.length := by omega
      subst e
      rw [List.take_length] at hy
      exact LCg.CompRest.zero (fin ys hy)
    | succ j ih =>
      intro i ys hi' hy
      refine LCg.CompRest.succ ?_
      intro v I oI C oC D m₂ h tk E' hv hC hx F N off ne
      obtain ⟨k, t, hv', hk⟩ := IntsAre.at hi i v (by simpa using hv)
      subst hv'
      refine wpAny_mono (turn k t I oI C oC D m₂ ys h tk E' (List.mem_of_getElem? hk) hC hx F N off ne) (fun y s₂ hq => ?_) fun _ _ e => e
      obtain ⟨h', tk', nw, e, F', N', off', hS, hh⟩ := hq
      obtain ⟨hn, u, t', hy', hu6, hcu⟩ := hh.out
      rw [hn] at N' off' hS
      refine ⟨h', tk', news, e, F', N', off', hS, ?_⟩
      rw [hy']
      refine ih (i + 1) _ (by omega) ?_
      rw [List.take_add_one, hk, List.map_append]
      exact strs_snoc hu6 hcu hy
  exact key ns.length 0 [] (by omega) (by rw [List.take_zero]; exact .nil)
end
theorem inner_words (w : World) (p : Program) (loose : List Str) (mean : ExcName → Option Value) (mg mb : Str → Option Value)
    (dp un : Nat) (gd : Option (List Code)) (a : Addr) (ccd : Value) (A₀ : Around) (h₀ : Heap) (L : Addr) (m : Str → Option Value) (news : List (Addr × Obj)) (s : Shared) (Q E : Value → Shared → Prop)
    (B : Below A₀ h₀ [] h₀) (F : Fr h₀ L s.heap m) (X : (Mine.hd.heap_39 w.params).In h₀) (N : News h₀ L s.heap news) (T : Top p loose mean mg mb h₀) (hd : dp + 60 < recursionLimit) (hu : un + 600 < cLine)
    {C : Addr} {oC : Obj} {m₂ : Str → Option Value} {l : Addr} {vs : List Value} {ns : List Int} {c : Nat} (hC : LCg.NsObj oC m₂) (hCm : (C, oC) ∈ news) (hw : m₂ (Str.ofString "way") = some (.ref l)) (hl : (l, listOf vs.toArray c) ∈ news) (hi : IntsAre vs ns) (hn : ∀ q ∈ ns, 0 ≤ q ∧ q < 100000000) (hlen : ns.length ≤ 30)
    (ret : ∀ D h' tk' ws, Fr h₀ L h' m → News h₀ L h' ((D, LCg.lst ws) :: news) → LCg.Off1 D news → StrsAre ws (ns.map wordC) → Q (.ref D) { s with heap := h', toks := tk' }) :
    wpAny (model PR w) (ktrTop dp un gd lawDef.name lawDef.scope L a ccd [] []) (eval lawComp (compEnvC lawScope1 [] C (envX lawDef.name lawDef.scope L a ccd []))) Q E s := by
  w_on
  show wpAny _ _ (eval (.ListComp _ [_] _ _) _) _ _ _
  with_unfolding_all refine LCg.ListComp_U (F₀ := by k_asm) (by rfl) (by decide) (by rfl) (by decide) (by rfl) ?_
  repeat' (first | (k_unfold; (try dsimp only)) | ((fail_if_success (with_reducible show wpAny _ _ (execs _ _) _ _ _)); (fail_if_success (with_reducible show LCg.CompSrc _ _ _ _ _ _ _ _ _ _ _ _ _ _)); walk1) | (leave1; try dsimp only))
  refine LCg.CompSrc.ledger (by rfl) F N hl (by rw [sizeLine_eq, List.size_toArray, hi.length]; omega) fun g => ?_
  refine comp_strs hi wordC (fun k t I oI C2 oC2 D m₃ ys h tk E' hk hC2 hx F' N' off ne => ?_) ?_
  · obtain ⟨b1, b2⟩ := hn k hk
    clear F N
    repeat' (first | (k_unfold; (try dsimp only)) | ((fail_if_success (with_reducible show wpAny _ _ (call (Value.ref 320) _) _ _ _)); (fail_if_success (with_reducible show LCg.CompEnd _ _ _ _ _ _ _ _ _ _ _ _ _ _)); walk1) | (leave1; try dsimp only))
    obtain ⟨nn, hnn⟩ : ∃ nn : Nat, k + 1 = (nn : Int) := ⟨(k + 1).toNat, by omega⟩
    rw [hnn]
    refine use_t (word_spec w p loose mean mg mb nn _ (by omega) _) B F' X N' T rfl (by omega) (by omega) ?_
    rintro r news' h2 tk2 F2 N2 hle ⟨⟨u, t2, rfl, hcu⟩, rfl⟩
    repeat' (first | (k_unfold; (try dsimp only)) | ((fail_if_success (with_reducible show LCg.CompEnd _ _ _ _ _ _ _ _ _ _ _ _ _ _)); walk1) | (leave1; try dsimp only))
    have hlz : (leadZ nn).length ≤ 6 := leadZ_len (by omega)
    refine LCg.CompEnd.intro F2 N2 news (fun _ h => h) off (Or.inr ⟨_, hl, rfl, _, rfl⟩) (.mk ⟨rfl, u, t2, rfl, ?_, ?_⟩)
    · rw [← codes_len, hcu]; exact hlz
    · rw [hcu]
      unfold wordC
      rw [hnn, Int.toNat_natCast]
  · intro ys hys D h tk F' N' off
    exact ret D h tk ys F' N' off hys
/-- lists of words on the ledger -/
inductive WordsOn (D : List (Addr × Obj)) : List Value → List (List (List Int)) → Prop
  | nil : WordsOn D [] []
  | snoc {refs : List Value} {css : List (List (List Int))} {r : Addr} {ws : List Value} {cs : List (List Int)} : WordsOn D refs css → (r, LCg.lst ws) ∈ D → StrsAre ws cs → WordsOn D (refs ++ [.ref r]) (css ++ [cs])
theorem WordsOn.mono {D D' : List (Addr × Obj)} {refs : List Value} {css : List (List (List Int))} (h : WordsOn D refs css) (hs : ∀ p ∈ D, p ∈ D') : WordsOn D' refs css := by
  induction h with
  | nil => exact .nil
  | snoc _ hm hi ih => exact .snoc ih (hs _ hm) hi
noncomputable def WaysAre (D : List (Addr × Obj)) (its : List Value) (nss : List (List Int)) : Prop :=
  its.length = nss.length ∧ ∀ (i : Nat) (v : Value), its[i]? = some v → ∃ l vs c ns, v = .ref l ∧ (l, listOf (List.toArray vs) c) ∈ D ∧ nss[i]? = some ns ∧ IntsAre vs ns ∧ (∀ q ∈ ns, 0 ≤ q ∧ q < 100000000) ∧ ns.length ≤ 30
theorem outer_words (w : World) (p : Program) (loose : List Str) (mean : ExcName → Option Value) (mg mb : Str → Option Value)
    (dp un : Nat) (gd : Option (List Code)) (a : Addr) (ccd : Value) (A₀ : Around) (h₀ : Heap) (L : Addr) (m : Str → Option Value) (base : List (Addr × Obj)) (s : Shared)
    (B : Below A₀ h₀ [] h₀) (X : (Mine.hd.heap_39 w.params).In h₀) (T : Top p loose mean mg mb h₀) (hd : dp + 60 < recursionLimit) (hu : un + 600 < cLine)
    {ax : Addr} {its : List Value} {cc : Nat} {nss : List (List Int)} (hax : (ax, ({ cls := .type "list", data := .seq its.toArray cc } : Obj)) ∈ base) (hw : WaysAre base its nss) {Fin : List Value → List (Addr × Obj) → Prop}
    (fin : ∀ ys news, (∀ p ∈ base, p ∈ news) → WordsOn news ys (nss.map fun ns => ns.map wordC) → Fin ys news) :
    LCg.CompRest PR w (ktrTop dp un gd lawDef.name lawDef.scope L a ccd [] []) h₀ L m (envX lawDef.name lawDef.scope L a ccd []) lawComp (Str.ofString "way") lawScope1 [] s (LCg.SrcAt h₀ ax its.toArray) (fun i v => its.toArray[i]? = some v) Fin its.toArray.size 0 [] base := by
  rw [List.size_toArray]
  have key : ∀ (j i : Nat) (ys : List Value) (news : List (Addr × Obj)), i + j = its.length → (∀ p ∈ base, p ∈ news) → WordsOn news ys ((nss.take i).map fun ns => ns.map wordC) → LCg.CompRest PR w (ktrTop dp un gd lawDef.name lawDef.scope L a ccd [] []) h₀ L m (envX lawDef.name lawDef.scope L a ccd []) lawComp (Str.ofString "way") lawScope1 [] s (LCg.SrcAt h₀ ax its.toArray) (fun i v => its.toArray[i]? = some v) Fin j i ys news := by
    intro j
    induction j with
    | zero =>
      intro i ys news hi' hs hy
      have e : i = nss.length := by rw [← hw.1]; omega
      subst e
      rw [List.take_length] at hy
      exact LCg.CompRest.zero (fin ys news hs hy)
    | succ j ih =>
      intro i ys news hi' hs hy
      refine LCg.CompRest.succ ?_
      intro v I oI C oC D m₂ h tk E' hv hC hx F N off ne
      obtain ⟨l, vs, c, ns, rfl, hl, hns, hi, hq, hlen⟩ := hw.2 i v (by simpa using hv)
      refine inner_words w p loose mean mg mb dp un gd a ccd A₀ h₀ L m _ _ _ _ B F X N T hd hu hC (.tail _ (.head _)) hx (.tail _ (.tail _ (.tail _ (hs _ hl)))) hi hq hlen fun D2 h2 tk2 ws F2 N2 off2 hws => ?_
      obtain ⟨o1, o2, o3, o4⟩ := off2
      refine LCg.CompEnd.intro F2 N2 ((D2, LCg.lst ws) :: news) (fun q hq => ?_) ⟨⟨Ne.symm o1, Ne.symm o2, Ne.symm o3⟩, off⟩ (Or.inr ⟨_, .tail _ (hs _ hax), rfl, _, rfl⟩) ?_
      · rcases List.mem_cons.mp hq with rfl | hq
        · exact .tail _ (.head _)
        · rcases List.mem_cons.mp hq with rfl | hq
          · exact .tail _ (.tail _ (.head _))
          · rcases List.mem_cons.mp hq with rfl | hq
            · exact .tail _ (.tail _ (.tail _ (.head _)))
            · rcases List.mem_cons.mp hq with rfl | hq
              · exact .head _
              · exact .tail _ (.tail _ (.tail _ (.tail _ hq)))
      · refine ih (i + 1) _ _ (by omega) (fun q hq => .tail _ (hs q hq)) ?_
        rw [List.take_add_one, hns, List.map_append]
        exact .snoc (hy.mono fun q hq => .tail _ hq) (.head _) hws
  exact key its.length 0 [] base (by omega) (fun _ h => h) (by rw [List.take_zero]; exact .nil)
end
section
theorem alike_bounds {u x y z i : Nat} (hG : Geo u x y z) : ∀ q ∈ AlikeP u x y z i, 0 ≤ q ∧ q < 100000000 := by
  obtain ⟨M0, M1, G0, G1, MG, GM⟩ := geo_M hG
  intro q hq
  obtain ⟨k, hk, rfl⟩ := List.mem_map.mp hq
  have := cnt_lt (i := i) G0 GM (List.mem_range.mp hk)
  omega
theorem words_inv {D : List (Addr × Obj)} {ys : List Value} {css : List (List (List Int))} {c : List (List Int)} (h : WordsOn D ys (css ++ [c])) : ∃ refs r ws, ys = refs ++ [.ref r] ∧ WordsOn D refs css ∧ (r, LCg.lst ws) ∈ D ∧ StrsAre ws c := by
  generalize hq : css ++ [c] = q at h
  cases h with
  | nil => simp at hq
  | snoc h1 h2 h3 =>
    obtain ⟨e1, e2⟩ := List.append_inj' hq rfl
    cases e2
    subst e1
    exact ⟨_, _, _, rfl, h1, h2, h3⟩
theorem words_nil {D : List (Addr × Obj)} {ys : List Value} {css : List (List (List Int))} (h : WordsOn D ys css) (e : css = []) : ys = [] := by
  cases h with
  | nil => rfl
  | snoc => simp at e
theorem words5 {D : List (Addr × Obj)} {ys : List Value} {c1 c2 c3 c4 c5 : List (List Int)} (h : WordsOn D ys [c1, c2, c3, c4, c5]) : ∃ r1 r2 r3 r4 r5 w1 w2 w3 w4 w5, ys = [.ref r1, .ref r2, .ref r3, .ref r4, .ref r5] ∧ (r1, LCg.lst w1) ∈ D ∧ (r2, LCg.lst w2) ∈ D ∧ (r3, LCg.lst w3) ∈ D ∧ (r4, LCg.lst w4) ∈ D ∧ (r5, LCg.lst w5) ∈ D ∧ StrsAre w1 c1 ∧ StrsAre w2 c2 ∧ StrsAre w3 c3 ∧ StrsAre w4 c4 ∧ StrsAre w5 c5 := by
  obtain ⟨l4, r5, w5, rfl, h4, m5, s5⟩ := words_inv (css := [c1, c2, c3, c4]) h
  obtain ⟨l3, r4, w4, rfl, h3, m4, s4⟩ := words_inv (css := [c1, c2, c3]) h4
  obtain ⟨l2, r3, w3, rfl, h2, m3, s3⟩ := words_inv (css := [c1, c2]) h3
  obtain ⟨l1, r2, w2, rfl, h1, m2, s2⟩ := words_inv (css := [c1]) h2
  obtain ⟨l0, r1, w1, rfl, h0, m1, s1⟩ := words_inv (css := []) h1
  cases words_nil h0 rfl
  exact ⟨r1, r2, r3, r4, r5, w1, w2, w3, w4, w5, rfl, m1, m2, m3, m4, m5, s1, s2, s3, s4, s5⟩
noncomputable def wordsP (R : List Int) : List (List Int) := R.map wordC
abbrev Pre20 (_ : Heap) (m : Str → Option Value) (news : List (Addr × Obj)) (_ : Nat) : Prop := ∃ (gR gA D r1 r2 r3 r4 r5 : Addr) (rs as w1 w2 w3 w4 w5 : List Value) (cR cG : Nat) (u x y z i j turn : Nat), m (Str.ofString "ring") = some (.ref gR) ∧ m (Str.ofString "again") = some (.ref gA) ∧ m (Str.ofString "lines") = some (.ref D) ∧
  news = [(D, listOf #[.ref r1, .ref r2, .ref r3, .ref r4, .ref r5] 5), (r1, listOf (List.toArray w1) w1.length), (r2, listOf (List.toArray w2) w2.length), (r3, listOf (List.toArray w3) w3.length), (r4, listOf (List.toArray w4) w4.length), (r5, listOf (List.toArray w5) w5.length), (gA, listOf as.toArray cG), (gR, listOf rs.toArray cR)] ∧
  Geo u x y z ∧ i < Mof u x y z ∧ j < Mof u x y z ∧ turn < 3 ∧ IntsAre rs (RingP u x y z turn i) ∧ IntsAre as (RingP u x y z turn j) ∧ StrsAre w1 (wordsP (RingP u x y z turn i)) ∧ StrsAre w2 (wordsP (RingP u x y z turn j)) ∧ StrsAre w3 (wordsP [0]) ∧ StrsAre w4 (wordsP [0]) ∧ StrsAre w5 (wordsP [0])
theorem law_20 (w : World) (p : Program) (loose : List Str) (mean : ExcName → Option Value) (mg mb : Str → Option Value)
    (plain1 : ∀ u x y z i turn, Geo u x y z → i < Mof u x y z → turn < 3 → (AlikeP u x y z i).Perm (RingP u x y z turn i))
    (rest : LawGo w p loose mean mg mb 20 Pre20) :
    LawGo w p loose mean mg mb 19 Pre19 := by
  w_on
  intro dp un gd a ccd A₀ h₀ L m news s Q E B F X N T hd hu hpre hret
  refine use1 hpre (ex8 fun gR gA rs as cR cG u x => ex5 fun y z i j turn => an7 fun q1 q2 zr2 hG hi hj => an3 fun hturn3 hR hA => ?_)
  clear hpre
  subst zr2
  have bR : ∀ q ∈ RingP u x y z turn i, 0 ≤ q ∧ q < 100000000 := fun q hq => alike_bounds hG q ((plain1 u x y z i turn hG hi hturn3).symm.subset hq)
  have bA : ∀ q ∈ RingP u x y z turn j, 0 ≤ q ∧ q < 100000000 := fun q hq => alike_bounds hG q ((plain1 u x y z j turn hG hj hturn3).symm.subset hq)
  have F₂ := fr_put2 F q1 q2
  clear F
  show wpAny _ _ (execs (_ :: _) _) _ _ _
  refine wpAny_execs_cons ?_
  with_unfolding_all refine LCg.Assign_ListComp_U (F₀ := by k_asm) (by rfl) (by with_unfolding_all rfl) (by rfl) (by decide) (by rfl) (by decide) (by rfl) (by rfl) (by rfl) ?_
  repeat' (first | (k_unfold; (try dsimp only)) | ((fail_if_success (with_reducible show wpAny _ _ (execs _ _) _ _ _)); (fail_if_success (with_reducible show LCg.CompSrc _ _ _ _ _ _ _ _ _ _ _ _ _ _)); walk1) | (leave1; try dsimp only))
  rename Fr _ _ _ _ => FF
  rename News _ _ _ _ => NN
  refine LCg.CompSrc.ledger (by rfl) FF NN (.head _) (Nat.le_of_ble_eq_true rfl) fun g => ?_
  refine outer_words w p loose mean mg mb dp un gd a ccd A₀ h₀ L _ _ _ B X T hd hu (its := [.ref gR, .ref gA, _, _, _]) (nss := [RingP u x y z turn i, RingP u x y z turn j, [0], [0], [0]]) (.head _) ⟨rfl, ?_⟩ ?_
  · intro k v hv
    match k, hv with
    | 0, hv => cases hv; exact ⟨_, _, _, _, rfl, .tail _ (.tail _ (.tail _ (.tail _ (.tail _ (.head _))))), rfl, hR, bR, Nat.le_trans (ring_len _ _) (by decide)⟩
    | 1, hv => cases hv; exact ⟨_, _, _, _, rfl, .tail _ (.tail _ (.tail _ (.tail _ (.head _)))), rfl, hA, bA, Nat.le_trans (ring_len _ _) (by decide)⟩
    | 2, hv => cases hv; exact ⟨_, [Value.int 0 _], _, _, rfl, .tail _ (.tail _ (.tail _ (.head _))), rfl, .cons _ _ .nil, fun q hq => by rw [List.mem_singleton.mp hq]; decide, by decide⟩
    | 3, hv => cases hv; exact ⟨_, [Value.int 0 _], _, _, rfl, .tail _ (.tail _ (.head _)), rfl, .cons _ _ .nil, fun q hq => by rw [List.mem_singleton.mp hq]; decide, by decide⟩
    | 4, hv => cases hv; exact ⟨_, [Value.int 0 _], _, _, rfl, .tail _ (.head _), rfl, .cons _ _ .nil, fun q hq => by rw [List.mem_singleton.mp hq]; decide, by decide⟩
    | _ + 5, hv => cases hv
  · intro ys nx hsub hW D h tk F' N' off
    have mR := hsub _ (.tail _ (.tail _ (.tail _ (.tail _ (.tail _ (.head _))))))
    have mA := hsub _ (.tail _ (.tail _ (.tail _ (.tail _ (.head _)))))
    obtain ⟨r1, r2, r3, r4, r5, w1, w2, w3, w4, w5, rfl, m1, m2, m3, m4, m5, s1, s2, s3, s4, s5⟩ := words5 hW
    (try dsimp only)
    have N4 : News h₀ L h [(D, listOf #[.ref r1, .ref r2, .ref r3, .ref r4, .ref r5] 5), (r1, listOf (List.toArray w1) w1.length), (r2, listOf (List.toArray w2) w2.length), (r3, listOf (List.toArray w3) w3.length), (r4, listOf (List.toArray w4) w4.length), (r5, listOf (List.toArray w5) w5.length), (gA, listOf as.toArray cG), (gR, listOf rs.toArray cR)] := fun q hq => N' q (by
      rcases List.mem_cons.mp hq with rfl | hq
      · exact .head _
      refine .tail _ ?_
      rcases List.mem_cons.mp hq with rfl | hq
      · exact m1
      rcases List.mem_cons.mp hq with rfl | hq
      · exact m2
      rcases List.mem_cons.mp hq with rfl | hq
      · exact m3
      rcases List.mem_cons.mp hq with rfl | hq
      · exact m4
      rcases List.mem_cons.mp hq with rfl | hq
      · exact m5
      rcases List.mem_cons.mp hq with rfl | hq
      · exact mA
      rcases List.mem_cons.mp hq with rfl | hq
      · exact mR
      cases hq)
    clear N' NN
    exact rest _ _ _ _ _ _ _ _ _ _ _ _ _ B F' X N4 T hd hu ⟨gR, gA, D, r1, r2, r3, r4, r5, rs, as, w1, w2, w3, w4, w5, cR, cG, u, x, y, z, i, j, turn, rfl, rfl, rfl, rfl, hG, hi, hj, hturn3, hR, hA, s1, s2, s3, s4, s5⟩ hret
end
section
/-- codes joined -/
noncomputable def joinC (sep : List Int) : List (List Int) → List Int
  | [] => []
  | [c] => c
  | c :: d :: r => c ++ sep ++ joinC sep (d :: r)
theorem codes_joinS (sep : Str) : ∀ texts : List Str, codes (Str.join sep texts) = joinC (codes sep) (texts.map codes)
  | [] => rfl
  | [x] => rfl
  | x :: y :: r => by
    show codes (x ++ sep ++ Str.join sep (y :: r)) = _
    rw [codes_append, codes_append, codes_joinS sep (y :: r)]
    rfl
theorem codes_join (sep : Str) (texts : List Str) : codes (Txt.join sep texts) = joinC (codes sep) (texts.map codes) := by
  rw [← codes_joinS, show Txt.join sep texts = Str.join sep texts from StrLaws.glued_eq_join sep texts]
theorem strs_vals : ∀ {ws : List Value} {cs : List (List Int)}, StrsAre ws cs → ∃ l : List (Str × Tok), ws = strValues l ∧ (l.map (·.1)).map codes = cs ∧ ∀ y ∈ l.map (·.1), y.length ≤ 6
  | _, _, .nil => ⟨[], rfl, rfl, fun _ h => nomatch h⟩
  | _, _, .cons (x := x) (t := t) hx h => by
    obtain ⟨l, e1, e2, e3⟩ := strs_vals h
    refine ⟨(x, t) :: l, by rw [e1]; rfl, by rw [← e2]; rfl, fun y hy => ?_⟩
    rcases List.mem_cons.mp hy with rfl | hy
    · exact hx
    · exact e3 y hy
section
variable {prog : Program} {w : World} {A : Around} {E : Value → Shared → Prop} {s : Shared}
theorem join_vals {sep : Str} {t : Tok} {D : Addr} {l : List (Str × Tok)} {Q : Value → Shared → Prop} {b : Nat} (hl : s.heap.IsList D (strValues l).toArray) (hB : ∀ y ∈ l.map (·.1), y.length ≤ b) (hn : l.length * b + l.length * sep.length ≤ 16777216)
    (hq : ∀ z t' k, codes z = joinC (codes sep) ((l.map (·.1)).map codes) → Q (.str z t') { s with toks := k }) : wpAny (model prog w) A (call (.builtin "str.join") [.str sep t, .ref D]) Q E s := by
  refine SC.join hl rfl ?_ fun t' k => hq _ t' k (codes_join sep _)
  unfold JoinOk
  rw [StrLaws.joinFits (B := b) hB (by rw [List.length_map]; exact hn)]
  rfl
end
end
section
section
variable {prog : Program} {w : World} {A : Around} {h₀ : Heap} {L : Addr} {m : Str → Option Value} {env : Env} {elt : PySem.Expr} {x : Str} {scope : Scope} {cl : List (Str × Addr)} {s : Shared} {S : List (Addr × Obj) → Prop} {Fin : List Value → List (Addr × Obj) → Prop} {news : List (Addr × Obj)}
theorem comp_texts {its : List Value} (f : Nat → List Int) (b : Nat)
    (turn : ∀ i v I oI C oC D m₂ ys h tk (E' : Value → Shared → Prop), its[i]? = some v → LCg.NsObj oC m₂ → m₂ x = some v → Fr h₀ L h m → News h₀ L h ((I, oI) :: (C, oC) :: (D, LCg.lst ys) :: news) → LCg.Off3 I C D news → ((@Ne Nat I C) ∧ (@Ne Nat I D) ∧ (@Ne Nat C D)) →
      wpAny (model prog w) A (eval elt (compEnvC scope cl C env)) (LCg.CompEnd h₀ L m { s with heap := h, toks := tk } I oI C oC D (LCg.lst ys) S (fun y news' => PySem.Flt.Hid (news' = news ∧ ∃ u t, y = .str u t ∧ u.length ≤ b ∧ codes u = f i))) E' { s with heap := h, toks := tk })
    (fin : ∀ l : List (Str × Tok), (l.map (·.1)).map codes = (List.range its.length).map f → (∀ y ∈ l.map (·.1), y.length ≤ b) → Fin (strValues l) news) : LCg.CompRest prog w A h₀ L m env elt x scope cl s S (fun i v => its.toArray[i]? = some v) Fin its.toArray.size 0 [] news := by
  rw [List.size_toArray]
  have key : ∀ (j i : Nat) (l : List (Str × Tok)), i + j = its.length → (l.map (·.1)).map codes = (List.range i).map f → (∀ y ∈ l.map (·.1), y.length ≤ b) → LCg.CompRest prog w A h₀ L m env elt x scope cl s S (fun i v => its.toArray[i]? = some v) Fin j i (strValues l) news := by
    intro j
    induction j with
    | zero =>
      intro i l hi' h1 h2
      have e : i = its.length := by omega
      subst e
      exact LCg.CompRest.zero (fin l h1 h2)
    | succ j ih =>
      intro i l hi' h1 h2
      refine LCg.CompRest.succ ?_
      intro v I oI C oC D m₂ h tk E' hv hC hx F N off ne
      refine wpAny_mono (turn i v I oI C oC D m₂ _ h tk E' (by simpa using hv) hC hx F N off ne) (fun y s₂ hq => ?_) fun _ _ e => e
      obtain ⟨h', tk', nw, e, F', N', off', hS, hh⟩ := hq
      obtain ⟨hn, u, t', hy', hub, hcu⟩ := hh.out
      rw [hn] at N' off' hS
      refine ⟨h', tk', news, e, F', N', off', hS, ?_⟩
      dsimp only
      rw [hy', show strValues l ++ [Value.str u t'] = strValues (l ++ [(u, t')]) from by unfold strValues; rw [List.map_append]; rfl]
      refine ih (i + 1) _ (by omega) ?_ ?_
      · rw [List.map_append, List.map_append, h1, List.range_succ, List.map_append]
        show _ ++ [codes u] = _ ++ [f i]
        rw [hcu]
      · intro q hq
        rw [List.map_append] at hq
        rcases List.mem_append.mp hq with hq | hq
        · exact h2 q hq
        · rw [List.mem_singleton.mp hq]; exact hub
  exact key its.length 0 [] (by omega) rfl (fun _ h => nomatch h)
end
theorem joinC_len {sep : List Int} {b : Nat} : ∀ {cs : List (List Int)}, (∀ c ∈ cs, c.length ≤ b) → (joinC sep cs).length ≤ cs.length * (b + sep.length)
  | [], _ => Nat.zero_le _
  | [c], h => by
    have := h c (.head _)
    show c.length ≤ _
    rw [List.length_singleton]; omega
  | c :: d :: r, h => by
    have h1 := h c (.head _)
    have h2 := joinC_len (sep := sep) (fun q hq => h q (.tail _ hq) : ∀ q ∈ d :: r, q.length ≤ b)
    show (c ++ sep ++ joinC sep (d :: r)).length ≤ _
    rw [List.length_append, List.length_append, List.length_cons, Nat.succ_mul]
    omega
noncomputable def lineC (cs : List (List Int)) : List Int := joinC [58, 32] cs ++ [10]
theorem strs_bound {ws : List Value} {cs : List (List Int)} (h : StrsAre ws cs) : ∀ c ∈ cs, c.length ≤ 6 := by
  induction h with
  | nil => intro c hc; cases hc
  | cons hx _ ih =>
    intro c hc
    rcases List.mem_cons.mp hc with rfl | hc
    · rw [codes_len]; exact hx
    · exact ih c hc
/-- lists of words, told by place -/
noncomputable def LinesAre (D : List (Addr × Obj)) (its : List Value) (css : List (List (List Int))) : Prop :=
  its.length = css.length ∧ ∀ (i : Nat) (v : Value), its[i]? = some v → ∃ r ws cs, v = .ref r ∧ (r, listOf (List.toArray ws) ws.length) ∈ D ∧ css[i]? = some cs ∧ StrsAre ws cs ∧ cs.length ≤ 21
noncomputable def plainC (R A : List Int) : List Int := joinC [] ([wordsP R, wordsP A, wordsP [0], wordsP [0], wordsP [0]].map lineC)
abbrev Pre21 (_ : Heap) (m : Str → Option Value) (news : List (Addr × Obj)) (_ : Nat) : Prop := ∃ (gR gA D r1 r2 r3 r4 r5 : Addr) (rs as w1 w2 : List Value) (cR cG : Nat) (u x y z i j turn : Nat) (P : Str) (tP : Tok), m (Str.ofString "ring") = some (.ref gR) ∧ m (Str.ofString "again") = some (.ref gA) ∧ m (Str.ofString "lines") = some (.ref D) ∧ m (Str.ofString "plain") = some (.str P tP) ∧
  news = [(D, listOf #[.ref r1, .ref r2, .ref r3, .ref r4, .ref r5] 5), (r1, listOf (List.toArray w1) w1.length), (r2, listOf (List.toArray w2) w2.length), (gA, listOf as.toArray cG), (gR, listOf rs.toArray cR)] ∧
  Geo u x y z ∧ i < Mof u x y z ∧ j < Mof u x y z ∧ turn < 3 ∧ IntsAre rs (RingP u x y z turn i) ∧ IntsAre as (RingP u x y z turn j) ∧ StrsAre w1 (wordsP (RingP u x y z turn i)) ∧ StrsAre w2 (wordsP (RingP u x y z turn j)) ∧ codes P = plainC (RingP u x y z turn i) (RingP u x y z turn j)
theorem law_21 (w : World) (p : Program) (loose : List Str) (mean : ExcName → Option Value) (mg mb : Str → Option Value)
    (rest : LawGo w p loose mean mg mb 21 Pre21) :
    LawGo w p loose mean mg mb 20 Pre20 := by
  w_on
  intro dp un gd a ccd A₀ h₀ L m news s Q E B F X N T hd hu hpre hret
  refine use1 hpre (ex8 fun gR gA D r1 r2 r3 r4 r5 => ex8 fun rs as w1 w2 w3 w4 w5 cR => ex8 fun cG u x y z i j turn => an8 fun q1 q2 q3 zr3 hG hi hj => an8 fun hturn3 hR hA s1 s2 s3 s4 s5 => ?_)
  clear hpre
  subst zr3
  have F₂ := fr_put3 F q1 q2 q3
  clear F
  show wpAny _ _ (execs (_ :: _) _) _ _ _
  refine wpAny_execs_cons ?_
  repeat' (first | (k_unfold; (try dsimp only)) | ((fail_if_success (with_reducible show wpAny _ _ (execs _ _) _ _ _)); (fail_if_success (with_reducible show wpAny _ _ (eval (PySem.Expr.ListComp _ _ _ _) _) _ _ _)); walk1) | (leave1; try dsimp only))
  with_unfolding_all refine LCg.ListComp_U (F₀ := by k_asm) (by rfl) (by decide) (by rfl) (by decide) (by rfl) ?_
  repeat' (first | (k_unfold; (try dsimp only)) | ((fail_if_success (with_reducible show wpAny _ _ (execs _ _) _ _ _)); (fail_if_success (with_reducible show LCg.CompSrc _ _ _ _ _ _ _ _ _ _ _ _ _ _)); walk1) | (leave1; try dsimp only))
  rename Fr _ _ _ _ => FF
  rename News _ _ _ _ => NN
  have hLs : LinesAre [(D, listOf #[.ref r1, .ref r2, .ref r3, .ref r4, .ref r5] 5), (r1, listOf (List.toArray w1) w1.length), (r2, listOf (List.toArray w2) w2.length), (r3, listOf (List.toArray w3) w3.length), (r4, listOf (List.toArray w4) w4.length), (r5, listOf (List.toArray w5) w5.length), (gA, listOf as.toArray cG), (gR, listOf rs.toArray cR)] [.ref r1, .ref r2, .ref r3, .ref r4, .ref r5] [wordsP (RingP u x y z turn i), wordsP (RingP u x y z turn j), wordsP [0], wordsP [0], wordsP [0]] := by
    have l21 : ∀ i, (wordsP (RingP u x y z turn i)).length ≤ 21 := fun i => by unfold wordsP; rw [List.length_map]; exact ring_len _ _
    have l1 : (wordsP [0]).length ≤ 21 := by show 1 ≤ 21; decide
    refine ⟨rfl, fun k v hv => ?_⟩
    match k, hv with
    | 0, hv => cases hv; exact ⟨_, _, _, rfl, .tail _ (.head _), rfl, s1, l21 _⟩
    | 1, hv => cases hv; exact ⟨_, _, _, rfl, .tail _ (.tail _ (.head _)), rfl, s2, l21 _⟩
    | 2, hv => cases hv; exact ⟨_, _, _, rfl, .tail _ (.tail _ (.tail _ (.head _))), rfl, s3, l1⟩
    | 3, hv => cases hv; exact ⟨_, _, _, rfl, .tail _ (.tail _ (.tail _ (.tail _ (.head _)))), rfl, s4, l1⟩
    | 4, hv => cases hv; exact ⟨_, _, _, rfl, .tail _ (.tail _ (.tail _ (.tail _ (.tail _ (.head _))))), rfl, s5, l1⟩
    | _ + 5, hv => cases hv
  generalize hcss : [wordsP (RingP u x y z turn i), wordsP (RingP u x y z turn j), wordsP [0], wordsP [0], wordsP [0]] = css at hLs
  refine LCg.CompSrc.ledger (its := [.ref r1, .ref r2, .ref r3, .ref r4, .ref r5].toArray) (by rfl) FF NN (.head _) (Nat.le_of_ble_eq_true rfl) fun g => ?_
  refine comp_texts (fun k => lineC (css.getD k [])) 400 (fun k v I oI C oC D2 m₂ ys h tk E' hv hC hx F' N' off ne => ?_) ?_
  · obtain ⟨r, ws, cs, rfl, hm, hcs, hs, h21⟩ := hLs.2 k v hv
    obtain ⟨l, rfl, hl1, hl2⟩ := strs_vals hs
    have hll : l.length = cs.length := by rw [← hl1, List.length_map, List.length_map]
    clear FF NN
    repeat' (first | (k_unfold; (try dsimp only)) | ((fail_if_success (with_reducible show LCg.CompEnd _ _ _ _ _ _ _ _ _ _ _ _ _ _)); (fail_if_success (with_reducible show wpAny _ _ (call (Value.builtin "str.join") _) _ _ _)); walk1) | (leave1; try dsimp only))
    rename Fr _ _ _ _ => FF
    rename News _ _ _ _ => NN
    refine join_vals (b := 6) ⟨_, (NN _ (.tail _ (.tail _ (.tail _ hm)))).1, rfl, _, rfl⟩ hl2 ?_ fun zz tz kz hz => ?_
    · rw [hll]; show cs.length * 6 + cs.length * 2 ≤ _; omega
    rw [hl1] at hz
    have hzl : zz.length ≤ 168 := by
      rw [← codes_len, hz]
      refine Nat.le_trans (joinC_len (strs_bound hs)) ?_
      rw [codes_sep]
      show cs.length * (6 + 2) ≤ 168
      omega
    repeat' (first | (k_unfold; (try dsimp only)) | ((fail_if_success (with_reducible show LCg.CompEnd _ _ _ _ _ _ _ _ _ _ _ _ _ _)); walk1) | (leave1; try dsimp only))
    rename Fr _ _ _ _ => FF
    rename News _ _ _ _ => NN
    refine LCg.CompEnd.intro FF NN _ (fun _ h => h) off (Or.inr ⟨_, .head _, rfl, _, rfl⟩) (.mk ⟨rfl, _, _, rfl, ?_, ?_⟩)
    · rw [← codes_len, codes_append, List.length_append, codes_len, codes_nl]
      show zz.length + 1 ≤ 400
      omega
    · rw [codes_append, hz, codes_nl, codes_sep]
      unfold lineC
      rw [List.getD_eq_getElem?_getD, hcs]
      rfl
  · intro l hl1 hl2 D2 h2 tk2 F2 N2 off2
    clear FF NN hLs
    have hll : l.length = 5 := by
      have := congrArg List.length hl1
      rw [List.length_map, List.length_map, List.length_map, List.length_range] at this
      exact this
    repeat' (first | (k_unfold; (try dsimp only)) | ((fail_if_success (with_reducible show wpAny _ _ (execs _ _) _ _ _)); (fail_if_success (with_reducible show wpAny _ _ (call (Value.builtin "str.join") _) _ _ _)); walk1) | (leave1; try dsimp only))
    refine join_vals (b := 400) ⟨_, (N2 _ (.head _)).1, rfl, _, rfl⟩ hl2 ?_ fun zz tz kz hz => ?_
    · rw [hll]; decide
    rw [hl1] at hz
    repeat' (first | (k_unfold; (try dsimp only)) | ((fail_if_success (with_reducible show wpAny _ _ (execs _ _) _ _ _)); walk1) | (leave1; try dsimp only))
    (try dsimp only)
    rename Fr _ _ _ _ => FF
    rename News _ _ _ _ => NN
    have hz2 : codes zz = joinC [] (css.map lineC) := by
      rw [hz, ← hcss]; rfl
    subst hcss
    have N4 : News h₀ L _ [(D, listOf #[.ref r1, .ref r2, .ref r3, .ref r4, .ref r5] 5), (r1, listOf (List.toArray w1) w1.length), (r2, listOf (List.toArray w2) w2.length), (gA, listOf as.toArray cG), (gR, listOf rs.toArray cR)] := fun q hq => NN q (by
      refine .tail _ ?_
      rcases List.mem_cons.mp hq with rfl | hq
      · exact .head _
      refine .tail _ ?_
      rcases List.mem_cons.mp hq with rfl | hq
      · exact .head _
      refine .tail _ ?_
      rcases List.mem_cons.mp hq with rfl | hq
      · exact .head _
      refine .tail _ (.tail _ (.tail _ (.tail _ ?_)))
      rcases List.mem_cons.mp hq with rfl | hq
      · exact .head _
      refine .tail _ ?_
      rcases List.mem_cons.mp hq with rfl | hq
      · exact .head _
      cases hq)
    clear NN
    exact rest _ _ _ _ _ _ _ _ _ _ _ _ _ B FF X N4 T hd hu ⟨gR, gA, D, r1, r2, r3, r4, r5, rs, as, w1, w2, cR, cG, u, x, y, z, i, j, turn, zz, tz, rfl, rfl, rfl, rfl, rfl, hG, hi, hj, hturn3, hR, hA, s1, s2, hz2⟩ hret
end
section
theorem map_cast_inj : ∀ {a b : List Nat}, a.map (fun c : Nat => (c : Int)) = b.map (fun c : Nat => (c : Int)) → a = b
  | [], [], _ => rfl
  | x :: a, y :: b, h => by
    rw [List.map_cons, List.map_cons] at h
    obtain ⟨h1, h2⟩ := List.cons.inj h
    rw [map_cast_inj h2, Int.ofNat.inj h1]
  | [], _ :: _, h => nomatch h
  | _ :: _, [], h => nomatch h
theorem codes_inj {x y : Str} (h : codes x = codes y) : x = y := by
  obtain ⟨a⟩ := x
  obtain ⟨b⟩ := y
  have := map_cast_inj (a := a.toList) (b := b.toList) h
  congr 1
  exact Array.toList_inj.mp this
theorem joinC_ne {sep : List Int} {c : List Int} {cs : List (List Int)} (h : c ≠ []) : joinC sep (c :: cs) ≠ [] := by
  cases cs with
  | nil => exact h
  | cons d r =>
    show c ++ sep ++ joinC sep (d :: r) ≠ []
    intro e
    exact h (List.append_eq_nil_iff.mp (List.append_eq_nil_iff.mp e).1).1
theorem ahead_eq : ∀ {cs : List (List Int)}, (∀ c ∈ cs, c ≠ []) → ahead cs.reverse [] = joinC [58, 32] cs
  | [], _ => rfl
  | c :: r, h => by
    have ih := ahead_eq (fun q hq => h q (.tail _ hq) : ∀ q ∈ r, q ≠ [])
    have e : ahead (c :: r).reverse [] = c ++ tailC (ahead r.reverse []) := by
      unfold ahead
      rw [List.reverse_cons, List.foldl_append]
      rfl
    rw [e, ih]
    cases r with
    | nil => exact List.append_nil c
    | cons d r =>
      unfold tailC
      rw [if_neg (joinC_ne (h d (.tail _ (.head _))))]
      show _ = c ++ [58, 32] ++ joinC [58, 32] (d :: r)
      rw [List.append_assoc]
      rfl
theorem line_eq {w : List Int} {cs : List (List Int)} (h : ∀ c ∈ cs, c ≠ []) : lineOf w cs [] = lineC (w :: cs) := by
  unfold lineOf lineC
  rw [ahead_eq h]
  cases cs with
  | nil => exact congrArg (· ++ [10]) (List.append_nil w)
  | cons d r =>
    unfold tailC
    rw [if_neg (joinC_ne (h d (.head _)))]
    show _ = w ++ [58, 32] ++ joinC [58, 32] (d :: r) ++ [10]
    simp only [List.append_assoc, List.cons_append, List.nil_append]
theorem wordC_ne {n : Int} (h : 0 ≤ n) : wordC n ≠ [] := by
  unfold wordC
  obtain ⟨k, hk⟩ : ∃ k : Nat, (n + 1).toNat = k + 1 := ⟨n.toNat, by omega⟩
  rw [hk, leadZ_step (Nat.succ_pos k)]
  intro e
  exact List.cons_ne_nil _ _ (List.append_eq_nil_iff.mp e).2
theorem ring_cons (f : Int → Int) (p : Int) : ringOf f p = p :: chain f p 20 p := rfl
theorem line_words {R : List Int} (h : ∀ q ∈ R, 0 ≤ q ∧ q < 100000000) {q : Int} {r : List Int} (e : R = q :: r) : lineOf (wordC q) (r.map wordC) [] = lineC (wordsP R) := by
  rw [line_eq]
  · rw [e]; rfl
  · intro c hc
    obtain ⟨q2, hq2, rfl⟩ := List.mem_map.mp hc
    exact wordC_ne (h q2 (by rw [e]; exact .tail _ hq2)).1
theorem lone_codes : codes (Txt.mul (Str.ofString "A\n") 3) = [65, 10, 65, 10, 65, 10] := by decide
theorem plain_eq (R A : List Int) : plainC R A = lineC (wordsP R) ++ lineC (wordsP A) ++ [65, 10, 65, 10, 65, 10] := by
  have e : lineC (wordsP [0]) = [65, 10] := by decide
  show lineC (wordsP R) ++ [] ++ (lineC (wordsP A) ++ [] ++ (lineC (wordsP [0]) ++ [] ++ (lineC (wordsP [0]) ++ [] ++ lineC (wordsP [0])))) = _
  rw [e]
  simp only [List.append_nil, List.append_assoc]
  rfl
theorem strs_cons {ws : List Value} {c : List Int} {cs : List (List Int)} (h : StrsAre ws (c :: cs)) : ∃ x t vs, ws = Value.str x t :: vs ∧ x.length ≤ 6 ∧ codes x = c ∧ StrsAre vs cs := by
  generalize hq : c :: cs = q at h
  cases h with
  | nil => cases hq
  | cons hx hr => cases hq; exact ⟨_, _, _, rfl, hx, rfl, hr⟩
theorem lineC_len {ws : List Value} {R : List Int} (h : StrsAre ws (wordsP R)) (hR : R.length ≤ 21) : (lineC (wordsP R)).length ≤ 170 := by
  unfold lineC
  rw [List.length_append]
  have h1 := joinC_len (sep := [58, 32]) (strs_bound h)
  have h2 : (wordsP R).length = R.length := by unfold wordsP; rw [List.length_map]
  rw [h2] at h1
  have h3 : R.length * (6 + 2) ≤ 168 := by omega
  have h4 : (joinC [58, 32] (wordsP R)).length ≤ 168 := Nat.le_trans h1 h3
  show _ + 1 ≤ 170
  omega
abbrev Pre23 (_ : Heap) (m : Str → Option Value) (news : List (Addr × Obj)) (_ : Nat) : Prop := ∃ (gR gA : Addr) (rs as : List Value) (cR cG : Nat) (u x y z i j turn : Nat) (P : Str) (tP tX : Tok), m (Str.ofString "ring") = some (.ref gR) ∧ m (Str.ofString "again") = some (.ref gA) ∧ m (Str.ofString "plain") = some (.str P tP) ∧ m (Str.ofString "text") = some (.str P tX) ∧
  news = [(gA, listOf as.toArray cG), (gR, listOf rs.toArray cR)] ∧ Geo u x y z ∧ i < Mof u x y z ∧ j < Mof u x y z ∧ turn < 3 ∧ IntsAre rs (RingP u x y z turn i) ∧ IntsAre as (RingP u x y z turn j) ∧ codes P = plainC (RingP u x y z turn i) (RingP u x y z turn j)
theorem law_22 (w : World) (p : Program) (loose : List Str) (mean : ExcName → Option Value) (mg mb : Str → Option Value)
    (plain1 : ∀ u x y z i turn, Geo u x y z → i < Mof u x y z → turn < 3 → (AlikeP u x y z i).Perm (RingP u x y z turn i))
    (rest : LawGo w p loose mean mg mb 23 Pre23) :
    LawGo w p loose mean mg mb 21 Pre21 := by
  w_on
  intro dp un gd a ccd A₀ h₀ L m news s Q E B F X N T hd hu hpre hret
  refine use1 hpre (ex8 fun gR gA D r1 r2 r3 r4 r5 => ex8 fun rs as w1 w2 cR cG u x => ex7 fun y z i j turn P tP => an8 fun q1 q2 q3 q4 zr4 hG hi => an7 fun hj hturn3 hR hA s1 s2 hP => ?_)
  clear hpre
  subst zr4
  have bR : ∀ q ∈ RingP u x y z turn i, 0 ≤ q ∧ q < 100000000 := fun q hq => alike_bounds hG q ((plain1 u x y z i turn hG hi hturn3).symm.subset hq)
  have bA : ∀ q ∈ RingP u x y z turn j, 0 ≤ q ∧ q < 100000000 := fun q hq => alike_bounds hG q ((plain1 u x y z j turn hG hj hturn3).symm.subset hq)
  obtain ⟨x1, t1, v1, rfl, hx1, hc1, hv1⟩ := strs_cons s1
  obtain ⟨x2, t2, v2, rfl, hx2, hc2, hv2⟩ := strs_cons s2
  have l1 := line_words bR (ring_cons _ _)
  have l2 := line_words bA (ring_cons _ _)
  have hvl1 : v1.length ≤ 20 := by
    rw [hv1.len, List.length_map]
    exact chain_len _ _ 20 _
  have hvl2 : v2.length ≤ 20 := by
    rw [hv2.len, List.length_map]
    exact chain_len _ _ 20 _
  have F₂ := fr_put4 F q1 q2 q3 q4
  clear F
  show wpAny _ _ (execs (_ :: _) _) _ _ _
  refine wpAny_execs_cons ?_
  repeat' (first | (k_unfold; (try dsimp only)) | ((fail_if_success (with_reducible show wpAny _ _ (execs _ _) _ _ _)); (fail_if_success (with_reducible show wpAny _ _ (call (Value.ref _) _) _ _ _)); walk1) | (leave1; try dsimp only))
  rename Fr _ _ _ _ => FF
  rename News _ _ _ _ => NN
  refine use_t (fmt_none w p loose mean mg mb (Str.ofString "A") _ (by decide) _) B FF X NN T rfl (by omega) (by omega) ?_
  rintro r nx h1 tk1 F1 N1 hle1 ⟨⟨za, ta, rfl, hza⟩, rfl⟩
  have hza2 : za = Str.ofString "A\n" := codes_inj (hza.trans (by decide))
  subst hza2
  clear FF NN
  repeat' (first | (k_unfold; (try dsimp only)) | ((fail_if_success (with_reducible show wpAny _ _ (execs _ _) _ _ _)); (fail_if_success (with_reducible show wpAny _ _ (call (Value.ref _) _) _ _ _)); walk1) | (leave1; try dsimp only))
  rename Fr _ _ _ _ => FF
  rename News _ _ _ _ => NN
  refine use_t (mul3_spec w p loose mean mg mb _ _ _ (Str.ofString "A\n") (by decide)) B FF X NN T rfl (by omega) (by omega) ?_
  rintro r nx h2 tk2 F2 N2 hle2 ⟨⟨tm, rfl⟩, rfl⟩
  clear FF NN
  generalize hzm : Txt.mul (Str.ofString "A\n") 3 = zm at F2 N2 ⊢
  have hcm : codes zm = [65, 10, 65, 10, 65, 10] := by rw [← hzm]; exact lone_codes
  clear hzm
  repeat' (first | (k_unfold; (try dsimp only)) | ((fail_if_success (with_reducible show wpAny _ _ (execs _ _) _ _ _)); walk1) | (leave1; try dsimp only))
  (try dsimp only)
  refine wpAny_execs_cons ?_
  repeat' (first | (k_unfold; (try dsimp only)) | ((fail_if_success (with_reducible show wpAny _ _ (execs _ _) _ _ _)); (fail_if_success (with_reducible show wpAny _ _ (call (Value.ref _) _) _ _ _)); walk1) | (leave1; try dsimp only))
  rename Fr _ _ _ _ => FF
  rename News _ _ _ _ => NN
  have lz1 : (lineC (wordsP (RingP u x y z turn i))).length ≤ 170 := lineC_len s1 (ring_len _ _)
  have lz2 : (lineC (wordsP (RingP u x y z turn j))).length ≤ 170 := lineC_len s2 (ring_len _ _)
  refine use_t (line_spec w p loose mean mg mb r1 _ x1 t1 v1 _ hx1 hv1 hvl1 .none [] (.inl ⟨rfl, rfl⟩) rfl _ (.tail _ (.head _))) B FF X NN T rfl (by omega) (by omega) ?_
  rintro r nx h3 tk3 F3 N3 hle3 ⟨⟨y1, ty1, rfl, hy1⟩, rfl⟩
  rw [hc1, l1] at hy1
  have hyl1 : y1.length ≤ 170 := by rw [← codes_len, hy1]; exact lz1
  clear FF NN
  repeat' (first | (k_unfold; (try dsimp only)) | ((fail_if_success (with_reducible show wpAny _ _ (execs _ _) _ _ _)); (fail_if_success (with_reducible show wpAny _ _ (call (Value.ref _) _) _ _ _)); walk1) | (leave1; try dsimp only))
  rename Fr _ _ _ _ => FF
  rename News _ _ _ _ => NN
  refine use_t (line_spec w p loose mean mg mb r2 _ x2 t2 v2 _ hx2 hv2 hvl2 (.str (Str.ofString "") _) [] (.inr ⟨_, _, rfl, rfl⟩) rfl _ (.tail _ (.tail _ (.head _)))) B FF X NN T rfl (by omega) (by omega) ?_
  rintro r nx h4 tk4 F4 N4 hle4 ⟨⟨y2, ty2, rfl, hy2⟩, rfl⟩
  rw [hc2, l2] at hy2
  have hyl2 : y2.length ≤ 170 := by rw [← codes_len, hy2]; exact lz2
  clear FF NN
  repeat' (first | (k_unfold; (try dsimp only)) | ((fail_if_success (with_reducible show wpAny _ _ (execs _ _) _ _ _)); (fail_if_success (with_reducible show wpAny _ _ (call (Value.ref _) _) _ _ _)); walk1) | (leave1; try dsimp only))
  rename Fr _ _ _ _ => FF
  rename News _ _ _ _ => NN
  refine use_t (concat_str w p loose mean mg mb y1 y2 _ _ (by omega) (by omega) _) B FF X NN T rfl (by omega) (by omega) ?_
  rintro r nx h5 tk5 F5 N5 hle5 ⟨⟨y3, ty3, rfl, hy3⟩, rfl⟩
  have hyl3 : y3.length ≤ 340 := by rw [← codes_len, hy3, List.length_append, codes_len, codes_len]; omega
  have hzl : zm.length ≤ 6 := by rw [← codes_len, hcm]; decide
  clear FF NN
  repeat' (first | (k_unfold; (try dsimp only)) | ((fail_if_success (with_reducible show wpAny _ _ (execs _ _) _ _ _)); (fail_if_success (with_reducible show wpAny _ _ (call (Value.ref _) _) _ _ _)); walk1) | (leave1; try dsimp only))
  rename Fr _ _ _ _ => FF
  rename News _ _ _ _ => NN
  refine use_t (concat_str w p loose mean mg mb y3 zm _ _ (by omega) (by omega) _) B FF X NN T rfl (by omega) (by omega) ?_
  rintro r nx h6 tk6 F6 N6 hle6 ⟨⟨y4, ty4, rfl, hy4⟩, rfl⟩
  have hyP : y4 = P := codes_inj (by rw [hy4, hy3, hy1, hy2, hcm, hP, plain_eq])
  subst hyP
  clear FF NN
  repeat' (first | (k_unfold; (try dsimp only)) | ((fail_if_success (with_reducible show wpAny _ _ (execs _ _) _ _ _)); walk1) | (leave1; try dsimp only))
  (try dsimp only)
  rename Fr _ _ _ _ => FF
  rename News _ _ _ _ => NN
  have N7 : News h₀ L _ [(gA, listOf as.toArray cG), (gR, listOf rs.toArray cR)] := fun q hq => NN q (.tail _ (.tail _ (.tail _ hq)))
  clear NN
  exact rest _ _ _ _ _ _ _ _ _ _ _ _ _ B FF X N7 T hd hu ⟨gR, gA, rs, as, cR, cG, u, x, y, z, i, j, turn, y4, _, _, rfl, rfl, rfl, rfl, rfl, hG, hi, hj, hturn3, hR, hA, hP⟩ hret
end
section
section
variable {prog : Program} {w : World} {A : Around} {E : Value → Shared → Prop} {s : Shared} {h₀ : Heap} {L : Addr} {m : Str → Option Value} {env : Env}
theorem striter_st {T : String} {y : Str} {t : Tok} {I : Addr} : ∀ (i : Nat) (h h' : Heap) (o : Obj) (nw : List (Addr × Obj)), h.IsStrIter I T y t i → h.get? I = some o → h'.get? I = some o → (∀ b o, h₀.get? b = some o → h'.get? b = some o) → News h₀ L h' nw → True → h'.IsStrIter I T y t i :=
  fun i h h' o nw st e e' _ _ _ => by
    obtain ⟨o', q, r⟩ := st
    rw [e] at q
    cases q
    exact ⟨o, e', r⟩
/-- a comprehension over a text's signs -/
theorem ListComp_S {elt iter : PySem.Expr} {x : Str} {px : Pos} {scope : Scope} {cl : List (Str × Addr)} {pos : Pos} {Q : Value → Shared → Prop} (F₀ : Fr h₀ L s.heap m)
    (hclos : closureFor scope env = pure cl) (hcell : ∀ y ∈ scope.names, y.2 ≠ .cell) (hkind : scope.kind = .function)
    (hnames : ∀ y ∈ scope.names, y.2 = .local → scope.names.lookup y.1 = some .local) (hx : scope.names.lookup x = some .local)
    (h : wpAny (model prog w) A (eval iter env) (fun xv s₁ => PySem.Flt.Hid (∃ y t news, xv = .str y t ∧ A.handled = none ∧ Fr h₀ L s₁.heap m ∧ News h₀ L s₁.heap news ∧ y.cps.size ≤ sizeLine ∧ ∀ s₂ : Shared, (∃ h, s₂ = { s₁ with heap := h }) → LCg.CompRest prog w A h₀ L m env elt x scope cl s₂ (fun _ => True) (SignAt y) (LCg.FinE h₀ L m s₂ Q) y.cps.size 0 [] news)) E s)
    (hs : ∀ x, foldedSetIterable iter env x = pure x := by intro _; rfl) :
    wpAny (model prog w) A (eval (.ListComp elt [⟨.Name x px, iter, [], 0⟩] scope pos) env) Q E s := by
  rw [eval_ListComp]
  refine wpAny_comprehension_free (use := none) rfl hs hclos hkind hnames (wpAny_mono h (fun xv s₁ h₁ => ?_) fun _ _ e => e)
  obtain ⟨y, t, news, rfl, hh, F, N, hsz, R⟩ := h₁.out
  cases ha : y.cps.all (· < 128)
  · refine wpAny_pyIter_wide ha ?_
    refine LCg.block_U (Walks.strWide hh s₁.heap.objs.size y t) hsz (fun i h st => let ⟨o, e, _⟩ := st; ⟨o, e⟩) striter_st hcell hkind hx ⟨_, Heap.get?_push_size _ rfl, rfl, rfl⟩ (fun b hb => ?_)
      (F.keeps fun _ _ e => Heap.get?_push_of_some _ e) (N.grown fun _ _ e => Heap.get?_push_of_some _ e) (Nat.ne_of_lt F.ns.lt) (next_is_new F) (fun p hp => Nat.ne_of_lt (Heap.lt_size (N p hp).1)) trivial (R _ ⟨_, rfl⟩) ?_
    · rw [List.mem_singleton.mp hb]
      show s₁.heap.objs.size < (s₁.heap.push _).objs.size
      rw [Heap.size_push]; exact Nat.lt_succ_self _
    · intro D C h tk m' ys news' F' N' o1 hn hC₀ hD₀ hCL hDL hCD offC fin
      refine ⟨m', hn, fun h'' hs'' => fin D h'' tk (F'.change hs'' hCL hC₀) (fun p hp => ?_) o1⟩
      refine ⟨hs''.extBut _ _ ?_ (N' p hp).1, (N' p hp).2⟩
      rcases List.mem_cons.mp hp with rfl | hp
      · exact Ne.symm hCD
      · exact offC p hp
  · refine wpAny_pyIter_ascii ha ?_
    refine LCg.block_U (Walks.strAscii hh s₁.heap.objs.size y t) hsz (fun i h st => let ⟨o, e, _⟩ := st; ⟨o, e⟩) striter_st hcell hkind hx ⟨_, Heap.get?_push_size _ rfl, rfl, rfl⟩ (fun b hb => ?_)
      (F.keeps fun _ _ e => Heap.get?_push_of_some _ e) (N.grown fun _ _ e => Heap.get?_push_of_some _ e) (Nat.ne_of_lt F.ns.lt) (next_is_new F) (fun p hp => Nat.ne_of_lt (Heap.lt_size (N p hp).1)) trivial (R _ ⟨_, rfl⟩) ?_
    · rw [List.mem_singleton.mp hb]
      show s₁.heap.objs.size < (s₁.heap.push _).objs.size
      rw [Heap.size_push]; exact Nat.lt_succ_self _
    · intro D C h tk m' ys news' F' N' o1 hn hC₀ hD₀ hCL hDL hCD offC fin
      refine ⟨m', hn, fun h'' hs'' => fin D h'' tk (F'.change hs'' hCL hC₀) (fun p hp => ?_) o1⟩
      refine ⟨hs''.extBut _ _ ?_ (N' p hp).1, (N' p hp).2⟩
      rcases List.mem_cons.mp hp with rfl | hp
      · exact Ne.symm hCD
      · exact offC p hp
variable {elt : PySem.Expr} {x : Str} {scope : Scope} {cl : List (Str × Addr)} {S : List (Addr × Obj) → Prop} {Fin : List Value → List (Addr × Obj) → Prop} {news : List (Addr × Obj)}
theorem comp_ords {y : Str}
    (turn : ∀ (c : Nat) u I oI C oC D m₂ ys h tk (E' : Value → Shared → Prop), LCg.NsObj oC m₂ → m₂ x = some (.str ⟨#[c]⟩ u) → Fr h₀ L h m → News h₀ L h ((I, oI) :: (C, oC) :: (D, LCg.lst ys) :: news) → LCg.Off3 I C D news → ((@Ne Nat I C) ∧ (@Ne Nat I D) ∧ (@Ne Nat C D)) →
      wpAny (model prog w) A (eval elt (compEnvC scope cl C env)) (LCg.CompEnd h₀ L m { s with heap := h, toks := tk } I oI C oC D (LCg.lst ys) S (fun v news' => PySem.Flt.Hid (news' = news ∧ ∃ t, v = .int (c : Int) t))) E' { s with heap := h, toks := tk })
    (fin : ∀ ys, IntsAre ys (codes y) → Fin ys news) : LCg.CompRest prog w A h₀ L m env elt x scope cl s S (SignAt y) Fin y.cps.size 0 [] news := by
  have hsz : y.cps.size = (codes y).length := by unfold codes; rw [List.length_map, Array.length_toList]
  rw [hsz]
  have key : ∀ (j i : Nat) (ys : List Value), i + j = (codes y).length → IntsAre ys ((codes y).take i) → LCg.CompRest prog w A h₀ L m env elt x scope cl s S (SignAt y) Fin j i ys news := by
    intro j
    induction j with
    | zero =>
      intro i ys hi' hy
      have e : i = (codes y).length := by omega
      subst e
      rw [List.take_length] at hy
      exact LCg.CompRest.zero (fin ys hy)
    | succ j ih =>
      intro i ys hi' hy
      refine LCg.CompRest.succ ?_
      intro v I oI C oC D m₂ h tk E' hv hC hx F N off ne
      obtain ⟨c, u, hc, rfl⟩ := hv
      refine wpAny_mono (turn c u I oI C oC D m₂ ys h tk E' hC hx F N off ne) (fun y₂ s₂ hq => ?_) fun _ _ e => e
      obtain ⟨h', tk', nw, e, F', N', off', hS, hh⟩ := hq
      obtain ⟨hn, t', rfl⟩ := hh.out
      rw [hn] at N' off' hS
      refine ⟨h', tk', news, e, F', N', off', hS, ?_⟩
      refine ih (i + 1) _ (by omega) ?_
      have hk : (codes y)[i]? = some (c : Int) := by
        unfold codes
        rw [List.getElem?_map, Array.getElem?_toList, hc]
        rfl
      rw [List.take_add_one, hk]
      exact hy.append (.cons _ _ .nil)
  exact key _ 0 [] (by omega) (by rw [List.take_zero]; exact .nil)
end
end
section
/-- the numbers that a line of places spells -/
noncomputable def numsL : List Int → List Int
  | [] => []
  | [q] => [(q + 1) * 64 + 10]
  | q :: r :: s => ((q + 1) * 64 + 58) :: 32 :: numsL (r :: s)
theorem enc_word {q d : Int} (h0 : 0 ≤ q) (h1 : q < 100000000) (hd : d = 58 ∨ d = 10) {rest nums : List Int} (h : Enc rest nums) : Enc (wordC q ++ d :: rest) (((q + 1) * 64 + d) :: nums) := by
  obtain ⟨n, hn⟩ : ∃ n : Nat, q + 1 = (n : Int) := ⟨(q + 1).toNat, by omega⟩
  unfold wordC
  rw [hn, Int.toNat_natCast]
  have hn0 : n ≠ 0 := by omega
  unfold leadZ
  rw [if_neg hn0]
  obtain ⟨b, R, e, b1, b2, hv⟩ := lead_vi n (by omega)
  rw [e]
  refine .cons (by omega) (by omega) (by omega) (by omega) (hv d rest ((n : Int) * 64 + d) rest (by omega) (by omega) ?_) h
  rcases hd with rfl | rfl
  · rw [show (58 : Int) % 64 = 58 from by decide]
    exact .done (by decide) (by decide) (by decide)
  · rw [show (10 : Int) % 64 = 10 from by decide]
    exact .done (by decide) (by decide) (by decide)
theorem enc_blank {rest nums : List Int} (h : Enc rest nums) : Enc (32 :: rest) (32 :: nums) := by
  refine .cons (by decide) (by decide) (by decide) (by decide) ?_ h
  rw [show (32 : Int) % 64 = 32 from by decide]
  exact .done (by decide) (by decide) (by decide)
theorem enc_line : ∀ {R : List Int}, (∀ q ∈ R, 0 ≤ q ∧ q < 100000000) → R ≠ [] → ∀ {rest nums : List Int}, Enc rest nums → Enc (lineC (wordsP R) ++ rest) (numsL R ++ nums)
  | [], _, h, _, _, _ => absurd rfl h
  | [q], hq, _, rest, nums, h => by
    have e : lineC (wordsP [q]) ++ rest = wordC q ++ 10 :: rest := by
      show wordC q ++ [10] ++ rest = _
      rw [List.append_assoc]; rfl
    rw [e]
    exact enc_word (hq q (.head _)).1 (hq q (.head _)).2 (.inr rfl) h
  | q :: r :: s, hq, _, rest, nums, h => by
    have ih := enc_line (fun z hz => hq z (.tail _ hz) : ∀ z ∈ r :: s, _) (List.cons_ne_nil _ _) h
    have e : lineC (wordsP (q :: r :: s)) ++ rest = wordC q ++ 58 :: 32 :: (lineC (wordsP (r :: s)) ++ rest) := by
      show wordC q ++ [58, 32] ++ joinC [58, 32] (wordsP (r :: s)) ++ [10] ++ rest = _
      unfold lineC
      simp only [List.append_assoc, List.cons_append, List.nil_append]
    rw [e]
    exact enc_word (hq q (.head _)).1 (hq q (.head _)).2 (.inl rfl) (enc_blank ih)
theorem enc_lone : Enc [65, 10, 65, 10, 65, 10] [74, 74, 74] := by
  have e1 := enc_word (q := 0) (d := 10) (by decide) (by decide) (.inr rfl) Enc.nil
  have e2 := enc_word (q := 0) (d := 10) (by decide) (by decide) (.inr rfl) e1
  exact enc_word (q := 0) (d := 10) (by decide) (by decide) (.inr rfl) e2
theorem enc_plain {R A : List Int} (hR : ∀ q ∈ R, 0 ≤ q ∧ q < 100000000) (hA : ∀ q ∈ A, 0 ≤ q ∧ q < 100000000) (nR : R ≠ []) (nA : A ≠ []) : Enc (plainC R A) (numsL R ++ (numsL A ++ [74, 74, 74])) := by
  rw [plain_eq, List.append_assoc]
  exact enc_line hR nR (enc_line hA nA enc_lone)
theorem numsL_len : ∀ {R : List Int}, R ≠ [] → (numsL R).length = 2 * R.length - 1
  | [], h => absurd rfl h
  | [_], _ => rfl
  | q :: r :: s, _ => by
    have ih := numsL_len (R := r :: s) (List.cons_ne_nil _ _)
    show (numsL (r :: s)).length + 1 + 1 = _
    rw [ih]
    simp only [List.length_cons]
    omega
end
section
theorem wordC_len {q : Int} (h0 : 0 ≤ q) (h1 : q < 100000000) : (wordC q).length ≤ 6 := by
  unfold wordC
  exact leadZ_len (by omega)
theorem lineC_len2 {R : List Int} (h : ∀ q ∈ R, 0 ≤ q ∧ q < 100000000) (hR : R.length ≤ 21) : (lineC (wordsP R)).length ≤ 170 := by
  unfold lineC
  rw [List.length_append]
  have h1 := joinC_len (sep := [58, 32]) (b := 6) (cs := wordsP R) (fun c hc => by
    obtain ⟨q, hq, rfl⟩ := List.mem_map.mp hc
    exact wordC_len (h q hq).1 (h q hq).2)
  have h2 : (wordsP R).length = R.length := by unfold wordsP; rw [List.length_map]
  rw [h2] at h1
  have h3 : R.length * (6 + 2) ≤ 168 := by omega
  have h4 : (joinC [58, 32] (wordsP R)).length ≤ 168 := Nat.le_trans h1 h3
  show _ + 1 ≤ 170
  omega
theorem plainC_len {R A : List Int} (hR : ∀ q ∈ R, 0 ≤ q ∧ q < 100000000) (hA : ∀ q ∈ A, 0 ≤ q ∧ q < 100000000) (lR : R.length ≤ 21) (lA : A.length ≤ 21) : (plainC R A).length ≤ 400 := by
  rw [plain_eq, List.length_append, List.length_append]
  have h1 := lineC_len2 hR lR
  have h2 := lineC_len2 hA lA
  show _ + _ + 6 ≤ 400
  omega
noncomputable def numsP (R A : List Int) : List Int := numsL R ++ (numsL A ++ [74, 74, 74])
abbrev Pre24 (_ : Heap) (m : Str → Option Value) (news : List (Addr × Obj)) (_ : Nat) : Prop := ∃ (gR gA e : Addr) (rs as refs : List Value) (tl : List (Addr × Obj)) (cR cG c : Nat) (u x y z i j turn : Nat) (P : Str) (tP tX : Tok), m (Str.ofString "ring") = some (.ref gR) ∧ m (Str.ofString "again") = some (.ref gA) ∧ m (Str.ofString "plain") = some (.str P tP) ∧ m (Str.ofString "text") = some (.str P tX) ∧ m (Str.ofString "entries") = some (.ref e) ∧
  news = (e, listOf refs.toArray c) :: (gA, listOf as.toArray cG) :: (gR, listOf rs.toArray cR) :: tl ∧ Geo u x y z ∧ i < Mof u x y z ∧ j < Mof u x y z ∧ turn < 3 ∧ IntsAre rs (RingP u x y z turn i) ∧ IntsAre as (RingP u x y z turn j) ∧
  (∀ q ∈ RingP u x y z turn i, 0 ≤ q ∧ q < 100000000) ∧ (∀ q ∈ RingP u x y z turn j, 0 ≤ q ∧ q < 100000000) ∧ EntsAre tl refs (rows4 (numsP (RingP u x y z turn i) (RingP u x y z turn j)))
theorem law_24 (w : World) (p : Program) (loose : List Str) (mean : ExcName → Option Value) (mg mb : Str → Option Value)
    (plain1 : ∀ u x y z i turn, Geo u x y z → i < Mof u x y z → turn < 3 → (AlikeP u x y z i).Perm (RingP u x y z turn i))
    (rest : LawGo w p loose mean mg mb 24 Pre24) :
    LawGo w p loose mean mg mb 23 Pre23 := by
  w_on
  intro dp un gd a ccd A₀ h₀ L m news s Q E B F X N T hd hu hpre hret
  refine use1 hpre (ex8 fun gR gA rs as cR cG u x => ex8 fun y z i j turn P tP tX => an8 fun q1 q2 q3 q4 zr4 hG hi => an5 fun hj hturn3 hR hA hP => ?_)
  clear hpre
  subst zr4
  have bR : ∀ q ∈ RingP u x y z turn i, 0 ≤ q ∧ q < 100000000 := fun q hq => alike_bounds hG q ((plain1 u x y z i turn hG hi hturn3).symm.subset hq)
  have bA : ∀ q ∈ RingP u x y z turn j, 0 ≤ q ∧ q < 100000000 := fun q hq => alike_bounds hG q ((plain1 u x y z j turn hG hj hturn3).symm.subset hq)
  have hPl2 : (plainC (RingP u x y z turn i) (RingP u x y z turn j)).length ≤ 400 := plainC_len bR bA (ring_len _ _) (ring_len _ _)
  have hPl : P.length ≤ 400 := by rw [← codes_len, hP]; exact hPl2
  have F₂ := fr_put4 F q1 q2 q3 q4
  clear F
  show wpAny _ _ (execs (_ :: _) _) _ _ _
  refine wpAny_execs_cons ?_
  repeat' (first | (k_unfold; (try dsimp only)) | ((fail_if_success (with_reducible show wpAny _ _ (execs _ _) _ _ _)); (fail_if_success (with_reducible show wpAny _ _ (eval (PySem.Expr.ListComp _ _ _ _) _) _ _ _)); walk1) | (leave1; try dsimp only))
  with_unfolding_all refine ListComp_S (F₀ := by k_asm) (by rfl) (by decide) (by rfl) (by decide) (by rfl) ?_
  repeat' (first | (k_unfold; (try dsimp only)) | ((fail_if_success (with_reducible show wpAny _ _ (execs _ _) _ _ _)); walk1) | (leave1; try dsimp only))
  rename Fr _ _ _ _ => FF
  rename News _ _ _ _ => NN
  refine .mk ⟨P, tX, _, rfl, rfl, FF, NN, by rw [sizeLine_eq]; exact Nat.le_trans hPl (by decide), ?_⟩
  rintro s₂ ⟨g, rfl⟩
  refine comp_ords (fun cc u I oI C oC D2 m₂ ys h tk E' hC hx F' N' off ne => ?_) ?_
  · clear FF NN
    repeat' (first | (k_unfold; (try dsimp only)) | ((fail_if_success (with_reducible show LCg.CompEnd _ _ _ _ _ _ _ _ _ _ _ _ _ _)); walk1) | (leave1; try dsimp only))
    rename Fr _ _ _ _ => FF
    rename News _ _ _ _ => NN
    exact LCg.CompEnd.intro FF NN _ (fun _ h => h) off trivial (.mk ⟨rfl, _, rfl⟩)
  · intro ys hys D2 h2 tk2 F2 N2 off2
    clear FF NN
    repeat' (first | (k_unfold; (try dsimp only)) | ((fail_if_success (with_reducible show wpAny _ _ (execs _ _) _ _ _)); (fail_if_success (with_reducible show wpAny _ _ (call (Value.ref 292) _) _ _ _)); walk1) | (leave1; try dsimp only))
    rename Fr _ _ _ _ => FF
    rename News _ _ _ _ => NN
    rw [hP] at hys
    refine use_S (entries_spec w p loose mean mg mb D2 ys.length ys _ _ hys (enc_plain bR bA (List.cons_ne_nil _ _) (List.cons_ne_nil _ _)) hPl2 [(gA, listOf as.toArray cG), (gR, listOf rs.toArray cR)]) B FF X NN T rfl (by omega) (by omega) ?_
    rintro r nx h3 tk3 F3 N3 hle3 ⟨e, refs, c, tl, rfl, m1, sub1, sub2, ent⟩
    clear FF NN
    have k1 := sub1 _ (.head _)
    have k2 := sub1 _ (.tail _ (.head _))
    have N4 : News h₀ L h3 ((e, listOf refs.toArray c) :: (gA, listOf as.toArray cG) :: (gR, listOf rs.toArray cR) :: tl) := fun q hq => N3 q (by
      rcases List.mem_cons.mp hq with rfl | hq
      · exact m1
      rcases List.mem_cons.mp hq with rfl | hq
      · exact k1
      rcases List.mem_cons.mp hq with rfl | hq
      · exact k2
      exact sub2 _ hq)
    clear N3
    repeat' (first | (k_unfold; (try dsimp only)) | ((fail_if_success (with_reducible show wpAny _ _ (execs _ _) _ _ _)); walk1) | (leave1; try dsimp only))
    (try dsimp only)
    rename Fr _ _ _ _ => FF
    rename News _ _ _ _ => NN
    exact rest _ _ _ _ _ _ _ _ _ _ _ _ _ B FF X NN T hd hu ⟨gR, gA, e, rs, as, refs, tl, cR, cG, c, u, x, y, z, i, j, turn, P, tP, tX, rfl, rfl, rfl, rfl, rfl, rfl, hG, hi, hj, hturn3, hR, hA, bR, bA, ent⟩ hret
end
section
theorem rows4_len : ∀ l : List Int, (rows4 l).length = l.length / 4
  | [] => by simp [rows4]
  | [_] => by simp [rows4]
  | [_, _] => by simp [rows4]
  | [_, _, _] => by simp [rows4]
  | a :: b :: c :: d :: r => by
    have ih := rows4_len r
    show (rows4 r).length + 1 = (r.length + 1 + 1 + 1 + 1) / 4
    rw [ih]; omega
theorem nums_len {R A : List Int} (nR : R ≠ []) (nA : A ≠ []) : (numsP R A).length = 2 * R.length + 2 * A.length + 1 := by
  have h1 : 0 < R.length := List.length_pos_iff.mpr nR
  have h2 : 0 < A.length := List.length_pos_iff.mpr nA
  unfold numsP
  rw [List.length_append, List.length_append, numsL_len nR, numsL_len nA]
  show _ + (_ + 3) = _
  omega
theorem whole_eq {R A : List Int} (nR : R ≠ []) (nA : A ≠ []) : (((rows4 (numsP R A)).length : Nat) : Int) = -((-(2 * (R.length : Int) + 2 * (A.length : Int) - 2)) / 4) := by
  rw [rows4_len, nums_len nR nA]
  omega
theorem div4_spec (w : World) (p : Program) (loose : List Str) (mean : ExcName → Option Value) (mg mb : Str → Option Value) (a : Int) (ta tb : Tok) (h1 : -1000 ≤ a) (h2 : a ≤ 1000) (news : List (Addr × Obj)) :
    Gives w p loose mean mg mb 243 2 20 news [.int a ta, .int 4 tb] (fun r nx => (∃ t, r = .int (a / 4) t) ∧ nx = news) := by
  w_on
  intro dp un gd cn cs a9 ccd cl outer A₀ base h₀ L m s Q E B F X N T hk hd hu hret
  refine wpAny_call ?_
  k_dflt cell_enter
  k_steps
  exact hret _ _ _ _ (by assumption) (by assumption) ⟨⟨_, congrArg (fun z => Value.int z _) (Int.fdiv_eq_ediv_of_nonneg _ (by omega))⟩, rfl⟩
abbrev Pre27 (_ : Heap) (m : Str → Option Value) (news : List (Addr × Obj)) (_ : Nat) : Prop := ∃ (gR gA e : Addr) (rs as refs : List Value) (tl : List (Addr × Obj)) (cR cG c : Nat) (u x y z i j turn : Nat) (tE tW : Tok), m (Str.ofString "ring") = some (.ref gR) ∧ m (Str.ofString "again") = some (.ref gA) ∧ m (Str.ofString "entries") = some (.ref e) ∧ m (Str.ofString "ends") = some (.int (2 * ((RingP u x y z turn i).length : Int) + 2 * ((RingP u x y z turn j).length : Int) - 2) tE) ∧ m (Str.ofString "whole") = some (.int (refs.length : Int) tW) ∧
  news = (e, listOf refs.toArray c) :: (gA, listOf as.toArray cG) :: (gR, listOf rs.toArray cR) :: tl ∧ Geo u x y z ∧ i < Mof u x y z ∧ j < Mof u x y z ∧ turn < 3 ∧ IntsAre rs (RingP u x y z turn i) ∧ IntsAre as (RingP u x y z turn j) ∧
  (∀ q ∈ RingP u x y z turn i, 0 ≤ q ∧ q < 100000000) ∧ (∀ q ∈ RingP u x y z turn j, 0 ≤ q ∧ q < 100000000) ∧ EntsAre tl refs (rows4 (numsP (RingP u x y z turn i) (RingP u x y z turn j)))
theorem law_25 (w : World) (p : Program) (loose : List Str) (mean : ExcName → Option Value) (mg mb : Str → Option Value)
    (rest : LawGo w p loose mean mg mb 27 Pre27) :
    LawGo w p loose mean mg mb 24 Pre24 := by
  w_on
  intro dp un gd a ccd A₀ h₀ L m news s Q E B F X N T hd hu hpre hret
  refine use1 hpre (ex8 fun gR gA e rs as refs tl cR => ex6 fun cG c u x y z => ex6 fun i j turn P tP tX => an8 fun q1 q2 q3 q4 q5 zr5 hG => an8 fun hi hj hturn3 hR hA bR bA ent => ?_)
  clear hpre
  subst zr5
  have hrl : refs.length = (rows4 (numsP (RingP u x y z turn i) (RingP u x y z turn j))).length := ent.len
  have hwh := whole_eq (R := RingP u x y z turn i) (A := RingP u x y z turn j) (List.cons_ne_nil _ _) (List.cons_ne_nil _ _)
  rw [← hrl] at hwh
  have lR : (RingP u x y z turn i).length ≤ 21 := ring_len _ _
  have lA : (RingP u x y z turn j).length ≤ 21 := ring_len _ _
  have pR : 0 < (RingP u x y z turn i).length := Nat.succ_pos _
  have pA : 0 < (RingP u x y z turn j).length := Nat.succ_pos _
  have ent := PySem.Flt.Hid.mk ent
  have bR := PySem.Flt.Hid.mk bR
  have bA := PySem.Flt.Hid.mk bA
  obtain ⟨R, hRd⟩ : ∃ R, R = RingP u x y z turn i := ⟨_, rfl⟩
  obtain ⟨A, hAd⟩ : ∃ A, A = RingP u x y z turn j := ⟨_, rfl⟩
  rw [← hRd] at hR hwh lR pR
  rw [← hAd] at hA hwh lA pA
  have hRd := PySem.Flt.Hid.mk hRd
  have hAd := PySem.Flt.Hid.mk hAd
  have hrefs : refs.length ≤ 400 := by omega
  have F₂ := fr_put5 F q1 q2 q3 q4 q5
  clear F
  show wpAny _ _ (execs (_ :: _) _) _ _ _
  refine wpAny_execs_cons ?_
  repeat' (first | (k_unfold; (try dsimp only)) | ((fail_if_success (with_reducible show wpAny _ _ (execs _ _) _ _ _)); walk1) | (leave1; try dsimp only))
  (try dsimp only)
  refine wpAny_execs_cons ?_
  repeat' (first | (k_unfold; (try dsimp only)) | ((fail_if_success (with_reducible show wpAny _ _ (execs _ _) _ _ _)); (fail_if_success (with_reducible show wpAny _ _ (call (Value.ref _) _) _ _ _)); walk1) | (leave1; try dsimp only))
  rename Fr _ _ _ _ => FF
  rename News _ _ _ _ => NN
  refine use_t (div4_spec w p loose mean mg mb _ _ _ (by omega) (by omega) _) B FF X NN T rfl (by omega) (by omega) ?_
  rintro r nx h1 tk1 F1 N1 hle1 ⟨⟨t1, rfl⟩, rfl⟩
  clear FF NN
  obtain ⟨dv, hdv⟩ : ∃ dv : Int, dv = -(2 * (R.length : Int) + 2 * (A.length : Int) - 2) / 4 := ⟨_, rfl⟩
  rw [← hdv] at hwh ⊢
  have hdb : -30 ≤ dv ∧ dv ≤ 0 := by omega
  repeat' (first | (k_unfold; (try dsimp only)) | ((fail_if_success (with_reducible show wpAny _ _ (execs _ _) _ _ _)); walk1) | (leave1; try dsimp only))
  (try dsimp only)
  rename Fr _ _ _ _ => FF
  rename News _ _ _ _ => NN
  rw [← hwh] at FF
  refine wpAny_execs_cons ?_
  repeat' (first | (k_unfold; (try dsimp only)) | ((fail_if_success (with_reducible show wpAny _ _ (execs (_ :: _) _) _ _ _)); (fail_if_success (with_reducible show wpAny _ _ (call (Value.builtin "len") _) _ _ _)); walk1) | (leave1; try dsimp only))
  all_goals (try (exfalso; (have h9 := ‹(P != P) = true›); rw [bne_self_eq_false] at h9; exact Bool.false_ne_true h9))
  rename Fr _ _ _ _ => FF
  rename News _ _ _ _ => NN
  refine Calls.call_len_list (items := refs.toArray) ⟨_, (NN _ (.head _)).1, rfl, _, rfl⟩ (by rw [List.size_toArray]; omega) ?_
  rw [List.size_toArray]
  repeat' (first | (k_unfold; (try dsimp only)) | ((fail_if_success (with_reducible show wpAny _ _ (execs (_ :: _) _) _ _ _)); walk1) | (leave1; try dsimp only))
  (try dsimp only)
  all_goals (try (exfalso; exact absurd rfl ‹(refs.length : Int) ≠ (refs.length : Int)›))
  rename Fr _ _ _ _ => FF
  rename News _ _ _ _ => NN
  have hR := hR
  have hA := hA
  have e2 : (2 * (R.length : Int) + 2 * (A.length : Int) - 2) = 2 * ((RingP u x y z turn i).length : Int) + 2 * ((RingP u x y z turn j).length : Int) - 2 := by rw [hRd.out, hAd.out]
  rw [hRd.out] at hR
  rw [hAd.out] at hA
  clear hRd hAd hwh
  exact rest _ _ _ _ _ _ _ _ _ _ _ _ _ B FF X NN T hd hu ⟨gR, gA, e, rs, as, refs, tl, cR, cG, c, u, x, y, z, i, j, turn, _, _, rfl, rfl, rfl, congrArg (fun v => some (Value.int v _)) e2, rfl, rfl, hG, hi, hj, hturn3, hR, hA, bR.out, bA.out, ent.out⟩ hret
end
section
noncomputable def Even (l : List Int) : Prop := ∀ n ∈ l, n % 2 = 0
theorem read_rows : ∀ (l : List Int), Even l → ∀ σ, readFrom σ (rows4 l) = (l.take (4 * (l.length / 4))).foldl readStep σ
  | [], _, σ => rfl
  | [_], _, σ => by simp [rows4, readFrom]
  | [_, _], _, σ => by simp [rows4, readFrom]
  | [_, _, _], _, σ => by simp [rows4, readFrom]
  | a :: b :: c :: d :: r, h, σ => by
    have ih := read_rows r (fun n hn => h n (.tail _ (.tail _ (.tail _ (.tail _ hn)))))
    have hd : 2 * (d / 2) = d := by
      have := h d (.tail _ (.tail _ (.tail _ (.head _))))
      omega
    have e1 : 4 * ((a :: b :: c :: d :: r).length / 4) = 4 * (r.length / 4) + 4 := by
      simp only [List.length_cons]; omega
    have e2 : readFrom σ (rows4 (a :: b :: c :: d :: r)) = readFrom ((rowNums (a, b, c, d)).foldl readStep σ) (rows4 r) := by
      simp only [rows4, readFrom, List.foldl_cons]
    rw [e2, ih, e1]
    unfold rowNums
    rw [hd]
    rfl
theorem nums_even : ∀ (R : List Int), Even (numsL R)
  | [] => fun _ h => nomatch h
  | [q] => fun n hn => by
    rw [List.mem_singleton.mp hn]; omega
  | q :: r :: s => fun n hn => by
    rcases List.mem_cons.mp hn with rfl | hn
    · omega
    rcases List.mem_cons.mp hn with rfl | hn
    · decide
    exact nums_even (r :: s) n hn
theorem numsP_even (R A : List Int) : Even (numsP R A) := fun n hn => by
  rcases List.mem_append.mp hn with hn | hn
  · exact nums_even R n hn
  rcases List.mem_append.mp hn with hn | hn
  · exact nums_even A n hn
  · simp only [List.mem_cons, List.not_mem_nil, or_false] at hn
    rcases hn with rfl | rfl | rfl <;> decide
theorem read_line : ∀ {R : List Int}, (∀ q ∈ R, 0 ≤ q ∧ q < 100000000) → R ≠ [] → ∀ d acc, (numsL R).foldl readStep (d, acc) = (d ++ [acc ++ R], [])
  | [], _, h, _, _ => absurd rfl h
  | [q], hq, _, d, acc => by
    have h0 := (hq q (.head _)).1
    show readStep (d, acc) ((q + 1) * 64 + 10) = _
    unfold readStep
    rw [if_pos (by omega), if_pos (by omega), show ((q + 1) * 64 + 10) / 64 - 1 = q from by omega]
  | q :: r :: s, hq, _, d, acc => by
    have h0 := (hq q (.head _)).1
    show (numsL (r :: s)).foldl readStep (readStep (readStep (d, acc) ((q + 1) * 64 + 58)) 32) = _
    have e1 : readStep (d, acc) ((q + 1) * 64 + 58) = (d, acc ++ [q]) := by
      unfold readStep
      rw [if_pos (by omega), if_neg (by omega), show ((q + 1) * 64 + 58) / 64 - 1 = q from by omega]
    rw [e1, show readStep (d, acc ++ [q]) 32 = (d, acc ++ [q]) from rfl, read_line (fun z hz => hq z (.tail _ hz)) (List.cons_ne_nil _ _)]
    simp only [List.append_assoc, List.cons_append, List.nil_append]
theorem read_two {R A : List Int} (hR : ∀ q ∈ R, 0 ≤ q ∧ q < 100000000) (hA : ∀ q ∈ A, 0 ≤ q ∧ q < 100000000) (nR : R ≠ []) (nA : A ≠ []) : (numsL R ++ numsL A).foldl readStep ([], []) = ([R, A], []) := by
  rw [List.foldl_append, read_line hR nR, read_line hA nA]
  rfl
theorem read_all {R A : List Int} (hR : ∀ q ∈ R, 0 ≤ q ∧ q < 100000000) (hA : ∀ q ∈ A, 0 ≤ q ∧ q < 100000000) (nR : R ≠ []) (nA : A ≠ []) :
    ((R.length + A.length) % 2 = 1 ∧ readOf (rows4 (numsP R A)) = [R, A, []]) ∨ ((R.length + A.length) % 2 = 0 ∧ readOf (rows4 (numsP R A)) = [R, A, [0], [0], []]) := by
  have h1 : 0 < R.length := List.length_pos_iff.mpr nR
  have h2 : 0 < A.length := List.length_pos_iff.mpr nA
  have hn := nums_len nR nA
  have hl : (numsL R ++ numsL A).length = 2 * R.length + 2 * A.length - 2 := by
    rw [List.length_append, numsL_len nR, numsL_len nA]; omega
  have e0 : numsP R A = (numsL R ++ numsL A) ++ [74, 74, 74] := by unfold numsP; rw [List.append_assoc]
  have key := read_two hR hA nR nA
  unfold readOf
  rw [read_rows _ (numsP_even R A), hn]
  rcases Nat.mod_two_eq_zero_or_one (R.length + A.length) with hp | hp
  · right
    refine ⟨hp, ?_⟩
    have e1 : 4 * ((2 * R.length + 2 * A.length + 1) / 4) = (numsL R ++ numsL A).length + 2 := by rw [hl]; omega
    rw [e1, e0, List.take_length_add_append, List.foldl_append, key]
    rfl
  · left
    refine ⟨hp, ?_⟩
    have e1 : 4 * ((2 * R.length + 2 * A.length + 1) / 4) = (numsL R ++ numsL A).length := by rw [hl]; omega
    rw [e1, e0, List.take_left, key]
    rfl
end
section
theorem lists_inv {D : List (Addr × Obj)} {ys : List Value} {css : List (List Int)} {c : List Int} (h : ListsAre D ys (css ++ [c])) : ∃ refs r ws n, ys = refs ++ [.ref r] ∧ ListsAre D refs css ∧ (r, listOf (List.toArray ws) n) ∈ D ∧ IntsAre ws c := by
  generalize hq : css ++ [c] = q at h
  cases h with
  | nil => simp at hq
  | snoc h1 h2 h3 =>
    obtain ⟨e1, e2⟩ := List.append_inj' hq rfl
    cases e2
    subst e1
    exact ⟨_, _, _, _, rfl, h1, h2, h3⟩
theorem lists_nil {D : List (Addr × Obj)} {ys : List Value} {css : List (List Int)} (h : ListsAre D ys css) (e : css = []) : ys = [] := by
  cases h with
  | nil => rfl
  | snoc => simp at e
theorem lists3 {D : List (Addr × Obj)} {ys : List Value} {c1 c2 c3 : List Int} (h : ListsAre D ys [c1, c2, c3]) : ∃ r1 r2 r3 w1 w2 w3 n1 n2 n3, ys = [.ref r1, .ref r2, .ref r3] ∧ (r1, listOf (List.toArray w1) n1) ∈ D ∧ (r2, listOf (List.toArray w2) n2) ∈ D ∧ (r3, listOf (List.toArray w3) n3) ∈ D ∧ IntsAre w1 c1 ∧ IntsAre w2 c2 ∧ IntsAre w3 c3 := by
  obtain ⟨l2, r3, w3, n3, rfl, h2, m3, s3⟩ := lists_inv (css := [c1, c2]) h
  obtain ⟨l1, r2, w2, n2, rfl, h1, m2, s2⟩ := lists_inv (css := [c1]) h2
  obtain ⟨l0, r1, w1, n1, rfl, h0, m1, s1⟩ := lists_inv (css := []) h1
  cases lists_nil h0 rfl
  exact ⟨r1, r2, r3, w1, w2, w3, n1, n2, n3, rfl, m1, m2, m3, s1, s2, s3⟩
theorem lists5 {D : List (Addr × Obj)} {ys : List Value} {c1 c2 c3 c4 c5 : List Int} (h : ListsAre D ys [c1, c2, c3, c4, c5]) : ∃ r1 r2 r3 r4 r5 w1 w2 w3 w4 w5 n1 n2 n3 n4 n5, ys = [.ref r1, .ref r2, .ref r3, .ref r4, .ref r5] ∧ (r1, listOf (List.toArray w1) n1) ∈ D ∧ (r2, listOf (List.toArray w2) n2) ∈ D ∧ (r3, listOf (List.toArray w3) n3) ∈ D ∧ (r4, listOf (List.toArray w4) n4) ∈ D ∧ (r5, listOf (List.toArray w5) n5) ∈ D ∧ IntsAre w1 c1 ∧ IntsAre w2 c2 ∧ IntsAre w3 c3 ∧ IntsAre w4 c4 ∧ IntsAre w5 c5 := by
  obtain ⟨l4, r5, w5, n5, rfl, h4, m5, s5⟩ := lists_inv (css := [c1, c2, c3, c4]) h
  obtain ⟨l3, r4, w4, n4, rfl, h3, m4, s4⟩ := lists_inv (css := [c1, c2, c3]) h4
  obtain ⟨r1, r2, r3, w1, w2, w3, n1, n2, n3, rfl, m1, m2, m3, s1, s2, s3⟩ := lists3 h3
  exact ⟨r1, r2, r3, r4, r5, w1, w2, w3, w4, w5, n1, n2, n3, n4, n5, rfl, m1, m2, m3, m4, m5, s1, s2, s3, s4, s5⟩
section
variable {prog : Program} {w : World} {A : Around} {E : Value → Shared → Prop} {s : Shared}
inductive LsIn (h : Heap) : List Value → List (List Int) → Prop
  | nil : LsIn h [] []
  | cons {r : Addr} {ws vs : List Value} {n : Nat} {z : List Int} {zss : List (List Int)} : h.get? r = some (listOf (List.toArray ws) n) → IntsAre ws z → LsIn h vs zss → LsIn h (.ref r :: vs) (z :: zss)
noncomputable def dl (z : List Int) : PyData := .list (z.map PyData.int)
theorem LsIn.reads {h : Heap} {vs : List Value} {zss : List (List Int)} (x : LsIn h vs zss) : ∃ as, PySem.ReadsAll h vs (zss.map dl) as := by
  induction x with
  | nil => exact ⟨_, .nil⟩
  | cons hg hi _ ih =>
    obtain ⟨as, ha⟩ := ih
    exact ⟨_, .cons (reads_newData ⟨_, hg, rfl, _, rfl⟩ (ke_carried hi)) ha⟩
theorem dl_canLay : ∀ zss : List (List Int), PyData.canLayAll0 (zss.map dl) = true
  | [] => rfl
  | z :: r => by
    show (PyData.canLay0 (dl z) && PyData.canLayAll0 (r.map dl)) = true
    rw [dl_canLay r, Bool.and_true]
    exact ke_canLayAll0 z
theorem dl_depth : ∀ zss : List (List Int), PyData.depthAll (zss.map dl) ≤ 1
  | [] => Nat.zero_le _
  | z :: r => by
    have h1 := dl_depth r
    have h2 : PyData.depth (dl z) ≤ 1 := by
      unfold dl
      simp only [PyData.depth, ke_depthAll]
      omega
    simp only [List.map_cons, PyData.depthAll]
    omega
theorem dl_shaped (zss : List (List Int)) : SeqAt.shaped (.list (zss.map dl)) = true := by
  unfold SeqAt.shaped
  rw [Bool.and_eq_true]
  refine ⟨dl_canLay zss, decide_eq_true ?_⟩
  have := dl_depth zss
  simp only [PyData.depth]
  omega
theorem dl_eqv : ∀ zss : List (List Int), PyData.eqvAll (zss.map dl) (zss.map dl) = true
  | [] => by simp [PyData.eqvAll]
  | z :: r => by
    simp only [List.map_cons, PyData.eqvAll, dl_eqv r, Bool.and_true]
    unfold dl
    simp only [PyData.eqv, ked_eqvAll, decide_true]
theorem eq_nested {a b : Addr} {vs ws : List Value} {n k : Nat} {zss : List (List Int)} {Q : Value → Shared → Prop} (ha : s.heap.get? a = some (listOf vs.toArray n)) (hb : s.heap.get? b = some (listOf ws.toArray k)) (hl : LsIn s.heap vs zss) (hr : LsIn s.heap ws zss)
    (hu : A.units + 64 < cLine) (h : Q (.bool true) s) : wpAny (model prog w) A (compareOp .Eq (.ref a) (.ref b)) Q E s := by
  obtain ⟨as, ra⟩ := hl.reads
  obtain ⟨bs, rb⟩ := hr.reads
  refine eq_dataH (da := .list (zss.map dl)) (db := .list (zss.map dl)) (reads_list_at ha rfl rfl (by rw [List.toList_toArray]; exact ra)) (reads_list_at hb rfl rfl (by rw [List.toList_toArray]; exact rb)) (dl_shaped zss) (dl_shaped zss) hu ?_
  rw [show PyData.eqv (.list (zss.map dl)) (.list (zss.map dl)) = true from by simp only [PyData.eqv]; exact dl_eqv zss]
  exact h
end
theorem law_28 (w : World) (p : Program) (loose : List Str) (mean : ExcName → Option Value) (mg mb : Str → Option Value) :
    LawGo w p loose mean mg mb 27 Pre27 := by
  w_on
  intro dp un gd a ccd A₀ h₀ L m news s Q E B F X N T hd hu hpre hret
  refine use1 hpre (ex8 fun gR gA e rs as refs tl cR => ex6 fun cG c u x y z => ex5 fun i j turn tE tW => an8 fun q1 q2 q3 q4 q5 zr5 hG => an8 fun hi hj hturn3 hR hA bR bA ent => ?_)
  clear hpre
  subst zr5
  have hrl : refs.length = (rows4 (numsP (RingP u x y z turn i) (RingP u x y z turn j))).length := ent.len
  have nR : RingP u x y z turn i ≠ [] := List.cons_ne_nil _ _
  have nA : RingP u x y z turn j ≠ [] := List.cons_ne_nil _ _
  have hwh := whole_eq nR nA
  rw [← hrl] at hwh
  have lR : (RingP u x y z turn i).length ≤ 21 := ring_len _ _
  have lA : (RingP u x y z turn j).length ≤ 21 := ring_len _ _
  have pR : 0 < (RingP u x y z turn i).length := Nat.succ_pos _
  have pA : 0 < (RingP u x y z turn j).length := Nat.succ_pos _
  have hcase := read_all bR bA nR nA
  clear bR bA nR nA
  generalize RingP u x y z turn i = R at *
  generalize RingP u x y z turn j = A at *
  have hrefs : refs.length ≤ 400 := by omega
  have hrows : (rows4 (numsP R A)).length ≤ 400 := by omega
  have F₂ := fr_put5 F q1 q2 q3 q4 q5
  clear F
  show wpAny _ _ (execs (_ :: _) _) _ _ _
  refine wpAny_execs_cons ?_
  repeat' (first | (k_unfold; (try dsimp only)) | ((fail_if_success (with_reducible show wpAny _ _ (execs _ _) _ _ _)); (fail_if_success (with_reducible show wpAny _ _ (call (Value.ref _) _) _ _ _)); walk1) | (leave1; try dsimp only))
  rename Fr _ _ _ _ => FF
  rename News _ _ _ _ => NN
  refine use_t (read_spec w p loose mean mg mb e c refs tl _ ent hrows _ (.head _) (fun q hq => .tail _ (.tail _ (.tail _ hq)))) B FF X NN T rfl (by omega) (by omega) ?_
  rintro r nx h1 tk1 F1 N1 hle1 ⟨Rr, ws, c', rfl, mR, sub1, hL⟩
  clear FF NN
  have k1 := sub1 _ (.tail _ (.head _))
  have k2 := sub1 _ (.tail _ (.tail _ (.head _)))
  clear sub1
  rcases hcase with ⟨hp, hc⟩ | ⟨hp, hc⟩
  · rw [hc] at hL
    obtain ⟨r1, r2, r3, w1, w2, w3, n1, n2, n3, rfl, m1, m2, m3, s1, s2, s3⟩ := lists3 hL
    clear hL hc
    have hk : 4 * (refs.length : Int) - (2 * (R.length : Int) + 2 * (A.length : Int) - 2) = 0 := by omega
    have N2 : News h₀ L h1 [(Rr, listOf [.ref r1, .ref r2, .ref r3].toArray c'), (r1, listOf (List.toArray w1) n1), (r2, listOf (List.toArray w2) n2), (r3, listOf (List.toArray w3) n3), (gA, listOf as.toArray cG), (gR, listOf rs.toArray cR)] := fun q hq => N1 q (by
      rcases List.mem_cons.mp hq with rfl | hq
      · exact mR
      rcases List.mem_cons.mp hq with rfl | hq
      · exact m1
      rcases List.mem_cons.mp hq with rfl | hq
      · exact m2
      rcases List.mem_cons.mp hq with rfl | hq
      · exact m3
      rcases List.mem_cons.mp hq with rfl | hq
      · exact k1
      rcases List.mem_cons.mp hq with rfl | hq
      · exact k2
      cases hq)
    clear N1 m1 m2 m3 mR k1 k2 ent
    repeat' (first | (k_unfold; (try dsimp only)) | ((fail_if_success (with_reducible show wpAny _ _ (execs _ _) _ _ _)); (fail_if_success (with_reducible show wpAny _ _ (compareOp _ _ _) _ _ _)); (fail_if_success (with_reducible show wpAny _ _ (binaryOp Operator.Mult (Value.ref _) _) _ _ _)); walk1) | (leave1; try dsimp only))
    rw [hk]
    repeat' (first | (k_unfold; (try dsimp only)) | ((fail_if_success (with_reducible show wpAny _ _ (execs _ _) _ _ _)); (fail_if_success (with_reducible show wpAny _ _ (compareOp _ _ _) _ _ _)); walk1) | (leave1; try dsimp only))
    rename Fr _ _ _ _ => FF
    rename News _ _ _ _ => NN
    have nth : ∀ (k : Nat) (q : Addr × Obj), _ → _ := fun k q e9 => (NN q (List.mem_of_getElem? (i := k) e9)).1
    refine eq_nested (zss := [R, A, []]) (vs := [.ref r1, .ref r2, .ref r3]) (ws := [.ref gR, .ref gA, .ref _]) (nth 8 _ rfl) (nth 0 _ rfl) (.cons (nth 9 _ rfl) s1 (.cons (nth 10 _ rfl) s2 (.cons (nth 11 _ rfl) s3 .nil))) (.cons (nth 13 _ rfl) hR (.cons (nth 12 _ rfl) hA (.cons (ws := []) (nth 2 _ rfl) .nil .nil))) (by show un + 64 < cLine; omega) ?_
    exact hret _ _ _ FF
  · rw [hc] at hL
    obtain ⟨r1, r2, r3, r4, r5, w1, w2, w3, w4, w5, n1, n2, n3, n4, n5, rfl, m1, m2, m3, m4, m5, s1, s2, s3, s4, s5⟩ := lists5 hL
    clear hL hc
    have hk : 4 * (refs.length : Int) - (2 * (R.length : Int) + 2 * (A.length : Int) - 2) = 2 := by omega
    have N2 : News h₀ L h1 [(Rr, listOf [.ref r1, .ref r2, .ref r3, .ref r4, .ref r5].toArray c'), (r1, listOf (List.toArray w1) n1), (r2, listOf (List.toArray w2) n2), (r3, listOf (List.toArray w3) n3), (r4, listOf (List.toArray w4) n4), (r5, listOf (List.toArray w5) n5), (gA, listOf as.toArray cG), (gR, listOf rs.toArray cR)] := fun q hq => N1 q (by
      rcases List.mem_cons.mp hq with rfl | hq
      · exact mR
      rcases List.mem_cons.mp hq with rfl | hq
      · exact m1
      rcases List.mem_cons.mp hq with rfl | hq
      · exact m2
      rcases List.mem_cons.mp hq with rfl | hq
      · exact m3
      rcases List.mem_cons.mp hq with rfl | hq
      · exact m4
      rcases List.mem_cons.mp hq with rfl | hq
      · exact m5
      rcases List.mem_cons.mp hq with rfl | hq
      · exact k1
      rcases List.mem_cons.mp hq with rfl | hq
      · exact k2
      cases hq)
    clear N1 m1 m2 m3 m4 m5 mR k1 k2 ent
    repeat' (first | (k_unfold; (try dsimp only)) | ((fail_if_success (with_reducible show wpAny _ _ (execs _ _) _ _ _)); (fail_if_success (with_reducible show wpAny _ _ (compareOp _ _ _) _ _ _)); (fail_if_success (with_reducible show wpAny _ _ (binaryOp Operator.Mult (Value.ref _) _) _ _ _)); walk1) | (leave1; try dsimp only))
    rw [hk]
    repeat' (first | (k_unfold; (try dsimp only)) | ((fail_if_success (with_reducible show wpAny _ _ (execs _ _) _ _ _)); (fail_if_success (with_reducible show wpAny _ _ (compareOp _ _ _) _ _ _)); walk1) | (leave1; try dsimp only))
    rename Fr _ _ _ _ => FF
    rename News _ _ _ _ => NN
    have nth : ∀ (k : Nat) (q : Addr × Obj), _ → _ := fun k q e9 => (NN q (List.mem_of_getElem? (i := k) e9)).1
    have z0 := nth 6 _ rfl
    refine eq_nested (zss := [R, A, [0], [0], []]) (vs := [.ref r1, .ref r2, .ref r3, .ref r4, .ref r5]) (ws := [.ref gR, .ref gA, .ref _, .ref _, .ref _]) (nth 8 _ rfl) (nth 0 _ rfl) (.cons (nth 9 _ rfl) s1 (.cons (nth 10 _ rfl) s2 (.cons (nth 11 _ rfl) s3 (.cons (nth 12 _ rfl) s4 (.cons (nth 13 _ rfl) s5 .nil))))) (.cons (nth 15 _ rfl) hR (.cons (nth 14 _ rfl) hA (.cons (ws := [Value.int 0 _]) z0 (.cons _ _ .nil) (.cons (ws := [Value.int 0 _]) z0 (.cons _ _ .nil) (.cons (ws := []) (nth 2 _ rfl) .nil .nil))))) (by show un + 64 < cLine; omega) ?_
    exact hret _ _ _ FF
end
section
/-- the exchange of three pieces -/
noncomputable def ex (x y z k : Nat) : Nat := if k < x then k + (y + z) else if k < x + y then k + z - x else k - (x + y)
noncomputable def chainN (x y z k0 : Nat) : Nat → Nat → List Nat
  | 0, _ => []
  | f + 1, k => if ex x y z k = k0 then [] else ex x y z k :: chainN x y z k0 f (ex x y z k)
noncomputable def ringN (x y z k : Nat) : List Nat := k :: chainN x y z k 20 k
noncomputable def gN (x y z : Nat) : Nat := Nat.gcd (x + y) (y + z)
noncomputable def alikeN (x y z k : Nat) : List Nat := (List.range (cntOf (x + y + z) (gN x y z) k)).map fun t => k % gN x y z + t * gN x y z
noncomputable def rot1 (l : List Nat) : List Nat := l.drop 1 ++ l.take 1
noncomputable def okAt (x y z k : Nat) : Bool :=
  (!(Nat.ble (k + 1) (gN x y z)) || (alikeN x y z k).isPerm (ringN x y z k)) && (ringN z y x k == (ringN x y z k).take 1 ++ ((ringN x y z k).drop 1).reverse) && (ringN x y z (ex x y z k) == rot1 (ringN x y z k)) && decide (ex x y z k < x + y + z)
noncomputable def okRow (x y z : Nat) : Bool := (List.range (x + y + z)).all fun k => okAt x y z k
noncomputable def okAll (x : Nat) : Bool := (List.range 7).all fun y => (List.range 6).all fun z => okRow x y (z + 1)
theorem ok0 : okAll 0 = true := by decide +kernel
theorem ok1 : okAll 1 = true := by decide +kernel
theorem ok2 : okAll 2 = true := by decide +kernel
theorem ok3 : okAll 3 = true := by decide +kernel
theorem ok4 : okAll 4 = true := by decide +kernel
theorem ok5 : okAll 5 = true := by decide +kernel
theorem ok6 : okAll 6 = true := by decide +kernel
theorem ok_at {x y z k : Nat} (hx : x < 7) (hy : y < 7) (hz : 1 ≤ z) (hz6 : z ≤ 6) (hk : k < x + y + z) : okAt x y z k = true := by
  have h : okAll x = true := by
    match x, hx with
    | 0, _ => exact ok0
    | 1, _ => exact ok1
    | 2, _ => exact ok2
    | 3, _ => exact ok3
    | 4, _ => exact ok4
    | 5, _ => exact ok5
    | 6, _ => exact ok6
  have h1 := List.all_eq_true.mp h y (List.mem_range.mpr hy)
  have h2 := List.all_eq_true.mp h1 (z - 1) (List.mem_range.mpr (by omega))
  rw [show z - 1 + 1 = z from by omega] at h2
  exact List.all_eq_true.mp h2 k (List.mem_range.mpr hk)
theorem ok_facts {x y z k : Nat} (hx : x < 7) (hy : y < 7) (hz : 1 ≤ z) (hz6 : z ≤ 6) (hk : k < x + y + z) :
    (k < gN x y z → (alikeN x y z k).Perm (ringN x y z k)) ∧ ringN z y x k = (ringN x y z k).take 1 ++ ((ringN x y z k).drop 1).reverse ∧ ringN x y z (ex x y z k) = rot1 (ringN x y z k) ∧ ex x y z k < x + y + z := by
  have h := ok_at hx hy hz hz6 hk
  unfold okAt at h
  simp only [Bool.and_eq_true, Bool.or_eq_true, decide_eq_true_eq, beq_iff_eq, Bool.not_eq_true'] at h
  obtain ⟨⟨⟨h1, h2⟩, h3⟩, h4⟩ := h
  refine ⟨fun hg => ?_, h2, h3, h4⟩
  rcases h1 with h1 | h1
  · rw [Nat.ble_eq_true_of_le (show k + 1 ≤ gN x y z from hg)] at h1
    cases h1
  · exact List.isPerm_iff.mp h1
end
section
theorem row_hit {st len tgt dl p : Int} {rs : List (Int × Int × Int × Int)} (h : (if dl % 2 = 1 then p - 2 * (dl / 2) else p + 2 * (dl / 2)) = p + (tgt * 2 - st * 2)) :
    nextOf ((st, len, tgt, dl) :: rs) p = if st * 2 ≤ p ∧ p < st * 2 + len * 2 then p + (tgt * 2 - st * 2) else nextOf rs p := by
  rw [nextOf_cons]
  dsimp only
  rw [h, if_pos rfl]
theorem rows_of (a b c : Nat) (turn : Nat) (ht : turn < 3) : rowsOf a b c turn = rot turn [((0 : Int), (a : Int), (b : Int) + c, 2 * ((b : Int) + c)), ((a : Int), (b : Int), (c : Int), (2 * if (c : Int) - a < 0 then -((c : Int) - a) else (c : Int) - a) + (if (c : Int) < a then 1 else 0)), ((a : Int) + b, (c : Int), 0, 2 * ((a : Int) + b) + 1)] := by
  match turn, ht with
  | 0, _ => rfl
  | 1, _ => rfl
  | 2, _ => rfl
theorem next_ex {a b c turn q : Nat} (ht : turn < 3) (hq : q < a + b + c) : nextOf (rowsOf a b c turn) ((2 * q : Nat) : Int) = ((2 * ex a b c q : Nat) : Int) := by
  rw [rows_of a b c turn ht]
  have h1 : ∀ p : Int, (if (2 * ((b : Int) + c)) % 2 = 1 then p - 2 * ((2 * ((b : Int) + c)) / 2) else p + 2 * ((2 * ((b : Int) + c)) / 2)) = p + (((b : Int) + c) * 2 - 0 * 2) := fun p => by
    split <;> omega
  have h3 : ∀ p : Int, (if (2 * ((a : Int) + b) + 1) % 2 = 1 then p - 2 * ((2 * ((a : Int) + b) + 1) / 2) else p + 2 * ((2 * ((a : Int) + b) + 1) / 2)) = p + (0 * 2 - ((a : Int) + b) * 2) := fun p => by
    split <;> omega
  obtain ⟨d, hd⟩ : ∃ d : Int, d = (2 * if (c : Int) - a < 0 then -((c : Int) - a) else (c : Int) - a) + (if (c : Int) < a then 1 else 0) := ⟨_, rfl⟩
  have hdc : ((c : Int) < a ∧ d = 2 * ((a : Int) - c) + 1) ∨ ((a : Int) ≤ c ∧ d = 2 * ((c : Int) - a)) := by
    rcases Int.lt_or_le (c : Int) a with h | h
    · left; rw [if_pos (by omega), if_pos h] at hd; omega
    · right; rw [if_neg (by omega), if_neg (by omega)] at hd; omega
  rw [← hd]
  have h2 : ∀ p : Int, (if d % 2 = 1 then p - 2 * (d / 2) else p + 2 * (d / 2)) = p + ((c : Int) * 2 - (a : Int) * 2) := fun p => by
    rcases hdc with ⟨_, h⟩ | ⟨_, h⟩ <;> split <;> omega
  clear hd hdc
  have hn : ∀ p, nextOf [] p = -1 := fun _ => rfl
  unfold ex
  match turn, ht with
  | 0, _ =>
    show nextOf [_, _, _] _ = _
    rw [row_hit (h1 _), row_hit (h2 _), row_hit (h3 _), hn]
    clear h1 h2 h3 hn ht
    (repeat' split) <;> omega
  | 1, _ =>
    show nextOf [_, _, _] _ = _
    rw [row_hit (h2 _), row_hit (h3 _), row_hit (h1 _), hn]
    clear h1 h2 h3 hn ht
    (repeat' split) <;> omega
  | 2, _ =>
    show nextOf [_, _, _] _ = _
    rw [row_hit (h3 _), row_hit (h1 _), row_hit (h2 _), hn]
    clear h1 h2 h3 hn ht
    (repeat' split) <;> omega
theorem ex_lt {x y z k : Nat} (h : k < x + y + z) : ex x y z k < x + y + z := by
  unfold ex
  split
  · omega
  · split <;> omega
theorem scale_lt {u k s x : Nat} (hs : s < u) : u * k + s < u * x ↔ k < x := by
  constructor
  · intro h
    rcases Nat.lt_or_ge k x with g | g
    · exact g
    · have := Nat.mul_le_mul_left u g
      omega
  · intro h
    have := Nat.mul_le_mul_left u (show k + 1 ≤ x from h)
    rw [Nat.mul_succ] at this
    omega
theorem ex_scale {u x y z k s : Nat} (hs : s < u) (hk : k < x + y + z) : ex (u * x) (u * y) (u * z) (u * k + s) = u * ex x y z k + s := by
  unfold ex
  by_cases g1 : k < x
  · rw [if_pos ((scale_lt hs).mpr g1), if_pos g1, Nat.mul_add, Nat.mul_add]; omega
  · rw [if_neg (fun h => g1 ((scale_lt hs).mp h)), if_neg g1]
    by_cases g2 : k < x + y
    · have g2' : u * k + s < u * x + u * y := by rw [← Nat.mul_add]; exact (scale_lt hs).mpr g2
      rw [if_pos g2', if_pos g2, Nat.mul_sub, Nat.mul_add]
      have := Nat.mul_le_mul_left u (show x ≤ k by omega)
      omega
    · have g2' : ¬ u * k + s < u * x + u * y := by rw [← Nat.mul_add]; exact fun h => g2 ((scale_lt hs).mp h)
      rw [if_neg g2', if_neg g2, Nat.mul_sub, Nat.mul_add]
      have := Nat.mul_le_mul_left u (show x + y ≤ k by omega)
      rw [Nat.mul_add] at this
      omega
/-- the place that a small place k stands for -/
noncomputable def emb (u s k : Nat) : Int := ((2 * (u * k + s) : Nat) : Int)
theorem emb_inj {u s k l : Nat} (hu : 0 < u) : emb u s k = emb u s l ↔ k = l := by
  unfold emb
  constructor
  · intro h
    have h2 : u * k = u * l := by omega
    exact Nat.eq_of_mul_eq_mul_left hu h2
  · intro h; rw [h]
theorem next_emb {u x y z k s turn : Nat} (ht : turn < 3) (hs : s < u) (hk : k < x + y + z) : nextOf (rowsOf (u * x) (u * y) (u * z) turn) (emb u s k) = emb u s (ex x y z k) := by
  have h : u * k + s < u * x + u * y + u * z := by
    rw [← Nat.mul_add, ← Nat.mul_add]; exact (scale_lt hs).mpr hk
  unfold emb
  rw [next_ex ht h, ex_scale hs hk]
theorem chain_emb {u x y z s turn k0 : Nat} (ht : turn < 3) (hs : s < u) : ∀ (f k : Nat), k < x + y + z → chain (nextOf (rowsOf (u * x) (u * y) (u * z) turn)) (emb u s k0) f (emb u s k) = (chainN x y z k0 f k).map (emb u s)
  | 0, _, _ => rfl
  | f + 1, k, hk => by
    rw [chain, chainN, next_emb ht hs hk]
    by_cases h : ex x y z k = k0
    · rw [if_pos (by rw [h]), if_pos h]; rfl
    · rw [if_neg (fun e => h ((emb_inj (by omega)).mp e)), if_neg h, chain_emb ht hs f _ (ex_lt hk)]
      rfl
theorem ring_emb {u x y z s turn k : Nat} (ht : turn < 3) (hs : s < u) (hk : k < x + y + z) : ringOf (nextOf (rowsOf (u * x) (u * y) (u * z) turn)) (emb u s k) = (ringN x y z k).map (emb u s) := by
  unfold ringOf ringN
  rw [chain_emb ht hs 20 k hk]
  rfl
end
section
/-- if a step along the ring turns the ring by one, the ring of its m-th place is the ring turned by m -/
theorem ring_turns {f : Int → Int} {p : Int} (H : ∀ q ∈ ringOf f p, ringOf f (f q) = (ringOf f q).drop 1 ++ (ringOf f q).take 1) :
    ∀ (m : Nat) (q : Int), (ringOf f p)[m]? = some q → ringOf f q = (ringOf f p).drop m ++ (ringOf f p).take m := by
  intro m
  induction m with
  | zero =>
    intro q h
    cases h
    rw [List.take_zero, List.append_nil]
    rfl
  | succ m ih =>
    intro q h
    have hlt : m + 1 < (ringOf f p).length := (List.getElem?_eq_some_iff.mp h).1
    obtain ⟨q0, h0⟩ : ∃ q0, (ringOf f p)[m]? = some q0 := ⟨_, List.getElem?_eq_getElem (by omega)⟩
    have e0 := ih q0 h0
    have d0 := drop_at h0
    have d1 := drop_at h
    rw [d0, d1] at e0
    -- the second place of q0's ring is f q0
    have hfq : q = f q0 := by
      unfold ringOf at e0
      rw [List.cons_append, List.cons_append] at e0
      have e1 := (List.cons.inj e0).2
      rw [chain] at e1
      split at e1
      · cases e1
      · exact (List.cons.inj e1).1.symm
    have hH := H q0 (List.mem_of_getElem? h0)
    rw [← hfq, e0] at hH
    rw [hH, d1]
    have ht : (ringOf f p).take (m + 1) = (ringOf f p).take m ++ [q0] := by rw [List.take_add_one, h0]; rfl
    rw [ht]
    simp only [List.cons_append, List.drop_succ_cons, List.drop_zero, List.take_succ_cons, List.take_zero, List.append_assoc]
theorem twice_at {l : List Int} {v : Int} (h : v ∈ l) : ((l ++ l).drop ((l ++ l).idxOf v)).take l.length = l.drop (l.idxOf v) ++ l.take (l.idxOf v) := by
  have h1 : (l ++ l).idxOf v = l.idxOf v := by rw [List.idxOf_append, if_pos h]
  have h2 : l.idxOf v < l.length := List.idxOf_lt_length_of_mem h
  rw [h1, List.drop_append_of_le_length (Nat.le_of_lt h2), List.take_append, List.length_drop]
  rw [List.take_of_length_le (by rw [List.length_drop]; omega), show l.length - (l.length - l.idxOf v) = l.idxOf v from by omega]
theorem turn_perm (l : List Int) (m : Nat) : (l.drop m ++ l.take m).Perm l := by
  have h := List.perm_append_comm (l₁ := l.drop m) (l₂ := l.take m)
  rwa [List.take_append_drop] at h
section
variable {u x y z i turn : Nat}
theorem split_place (hG : Geo u x y z) (hi : i < Mof u x y z) : i = u * (i / u) + i % u ∧ i % u < u ∧ i / u < x + y + z := by
  obtain ⟨h1, _⟩ := hG
  refine ⟨(Nat.div_add_mod i u).symm, Nat.mod_lt _ h1, ?_⟩
  unfold Mof at hi
  rw [Nat.div_lt_iff_lt_mul h1, Nat.mul_comm]
  exact hi
theorem ringP_eq (hG : Geo u x y z) (hi : i < Mof u x y z) (ht : turn < 3) : RingP u x y z turn i = (ringN x y z (i / u)).map (emb u (i % u)) := by
  obtain ⟨e, h1, h2⟩ := split_place hG hi
  have h := ring_emb (u := u) (x := x) (y := y) (z := z) ht h1 h2
  unfold RingP
  rw [← h]
  unfold emb
  rw [← e]
theorem ringB_eq (hG : Geo u x y z) (hi : i < Mof u x y z) (ht : turn < 3) : RingB u x y z turn i = (ringN z y x (i / u)).map (emb u (i % u)) := by
  obtain ⟨e, h1, h2⟩ := split_place hG hi
  have h := ring_emb (u := u) (x := z) (y := y) (z := x) (k := i / u) ht h1 (Nat.lt_of_lt_of_eq h2 (by omega))
  unfold RingB
  rw [← h]
  unfold emb
  rw [← e]
theorem facts (hG : Geo u x y z) {k : Nat} (hk : k < x + y + z) : (k < gN x y z → (alikeN x y z k).Perm (ringN x y z k)) ∧ ringN z y x k = (ringN x y z k).take 1 ++ ((ringN x y z k).drop 1).reverse ∧ ringN x y z (ex x y z k) = rot1 (ringN x y z k) ∧ ex x y z k < x + y + z := ok_facts (x := x) (y := y) (z := z) (k := k) hG.2.2.1 hG.2.2.2.1 hG.2.2.2.2.1 hG.2.2.2.2.2 hk
theorem plain2 (hG : Geo u x y z) (hi : i < Mof u x y z) (ht : turn < 3) : RingB u x y z turn i = (RingP u x y z turn i).take 1 ++ ((RingP u x y z turn i).drop 1).reverse := by
  obtain ⟨_, _, h2⟩ := split_place hG hi
  rw [ringP_eq hG hi ht, ringB_eq hG hi ht, (facts hG h2).2.1, List.map_append, ← List.map_take, ← List.map_drop, List.map_reverse]
theorem mem_small {x y z k : Nat} (hk : k < x + y + z) : ∀ (f k2 : Nat), k2 < x + y + z → ∀ q ∈ chainN x y z k f k2, q < x + y + z
  | 0, _, _, _, h => nomatch h
  | f + 1, k2, h2, q, h => by
    rw [chainN] at h
    split at h
    · cases h
    · rcases List.mem_cons.mp h with rfl | h
      · exact ex_lt h2
      · exact mem_small hk f _ (ex_lt h2) q h
theorem ring_small {x y z k q : Nat} (hk : k < x + y + z) (h : q ∈ ringN x y z k) : q < x + y + z := by
  rcases List.mem_cons.mp h with rfl | h
  · exact hk
  · exact mem_small hk 20 k hk q h
theorem ring_H (hG : Geo u x y z) (hi : i < Mof u x y z) (ht : turn < 3) : ∀ q ∈ RingP u x y z turn i, ringOf (nextOf (rowsOf (u * x) (u * y) (u * z) turn)) (nextOf (rowsOf (u * x) (u * y) (u * z) turn) q) = (ringOf (nextOf (rowsOf (u * x) (u * y) (u * z) turn)) q).drop 1 ++ (ringOf (nextOf (rowsOf (u * x) (u * y) (u * z) turn)) q).take 1 := by
  obtain ⟨_, h1, h2⟩ := split_place hG hi
  intro q hq
  rw [ringP_eq hG hi ht] at hq
  obtain ⟨k, hk, rfl⟩ := List.mem_map.mp hq
  have hkn := ring_small h2 hk
  rw [next_emb ht h1 hkn, ring_emb ht h1 hkn, ring_emb ht h1 (ex_lt hkn), (facts hG hkn).2.2.1]
  unfold rot1
  rw [List.map_append, List.map_take, List.map_drop]
theorem ring_of_mem (hG : Geo u x y z) (hi : i < Mof u x y z) (ht : turn < 3) {j : Nat} (hm : ((2 * j : Nat) : Int) ∈ RingP u x y z turn i) :
    RingP u x y z turn j = (RingP u x y z turn i).drop ((RingP u x y z turn i).idxOf ((2 * j : Nat) : Int)) ++ (RingP u x y z turn i).take ((RingP u x y z turn i).idxOf ((2 * j : Nat) : Int)) := by
  refine ring_turns (ring_H hG hi ht) _ _ ?_
  have h := List.idxOf_lt_length_of_mem hm
  exact (List.getElem?_eq_getElem h).trans (congrArg some (List.getElem_idxOf h))
theorem mod_scale {k s g : Nat} (hs : s < u) : (u * k + s) % (u * g) = u * (k % g) + s := by
  rw [Nat.mod_mul, Nat.mul_add_mod, Nat.mod_eq_of_lt hs, Nat.mul_add_div (by omega), Nat.div_eq_of_lt hs, Nat.add_zero]
  omega
theorem cnt_scale {n k s g : Nat} (hs : s < u) (hg : 0 < g) (hk : k % g < n) : cntOf (u * n) (u * g) (u * k + s) = cntOf n g k := by
  unfold cntOf
  rw [mod_scale hs]
  obtain ⟨m, hm⟩ : ∃ m, n = k % g + 1 + m := ⟨n - (k % g) - 1, by omega⟩
  have e1 : u * n - (u * (k % g) + s) - 1 = u * m + (u - s - 1) := by
    have : u * n = u * (k % g) + u + u * m := by rw [hm, Nat.mul_add, Nat.mul_add, Nat.mul_one]
    omega
  have e2 : n - k % g - 1 = m := by omega
  rw [e1, e2, ← Nat.div_div_eq_div_mul, Nat.mul_add_div (by omega), Nat.div_eq_of_lt (show u - s - 1 < u by omega)]
  rfl
theorem alike_eq (hG : Geo u x y z) (hi : i < Mof u x y z) : AlikeP u x y z i = (alikeN x y z (i / u)).map (emb u (i % u)) := by
  obtain ⟨e, h1, h2⟩ := split_place hG hi
  have g0 : 0 < gN x y z := Nat.gcd_pos_of_pos_right _ (by obtain ⟨_, _, _, _, h5, _⟩ := hG; omega)
  have gl : gN x y z ≤ x + y + z := Nat.le_trans (Nat.gcd_le_right _ (by obtain ⟨_, _, _, _, h5, _⟩ := hG; omega)) (by omega)
  have hm : (i / u) % gN x y z < x + y + z := Nat.lt_of_lt_of_le (Nat.mod_lt _ g0) gl
  have eg : Gof u x y z = u * gN x y z := rfl
  have eM : Mof u x y z = u * (x + y + z) := rfl
  have ec := cnt_scale (n := x + y + z) (k := i / u) h1 g0 hm
  have em := mod_scale (k := i / u) (g := gN x y z) h1
  rw [← e] at ec em
  unfold AlikeP alikeN
  rw [eg, eM, ec, em, List.map_map]
  refine List.map_congr_left fun t _ => ?_
  show _ = emb u (i % u) _
  unfold emb
  have : t * (u * gN x y z) = u * (t * gN x y z) := Nat.mul_left_comm _ _ _
  rw [this]
  dsimp only
  rw [Nat.mul_add u]
  generalize u * (i / u % gN x y z) = a1
  generalize u * (t * gN x y z) = a2
  generalize i % u = a3
  omega
theorem mem_alike (hG : Geo u x y z) (_ : i < Mof u x y z) {j : Nat} (hj : j < Mof u x y z) : ((2 * j : Nat) : Int) ∈ AlikeP u x y z i ↔ j % Gof u x y z = i % Gof u x y z := by
  obtain ⟨M0, M1, G0, G1, MG, GM⟩ := geo_M hG
  unfold AlikeP
  rw [List.mem_map]
  constructor
  · rintro ⟨t, _, h⟩
    have h2 : j = i % Gof u x y z + t * Gof u x y z := by omega
    rw [h2, Nat.add_mul_mod_self_right, Nat.mod_mod]
  · intro h
    obtain ⟨t, ht⟩ : ∃ t, t = j / Gof u x y z := ⟨_, rfl⟩
    have h2 := Nat.div_add_mod j (Gof u x y z)
    rw [h, ← ht, Nat.mul_comm] at h2
    refine ⟨t, List.mem_range.mpr ?_, ?_⟩
    · unfold cntOf
      have h3 : t ≤ (Mof u x y z - i % Gof u x y z - 1) / Gof u x y z := by
        rw [Nat.le_div_iff_mul_le G0]
        omega
      omega
    · congr 1
      omega
theorem plain1 (hG : Geo u x y z) (hi : i < Mof u x y z) (ht : turn < 3) : (AlikeP u x y z i).Perm (RingP u x y z turn i) := by
  obtain ⟨M0, M1, G0, G1, MG, GM⟩ := geo_M hG
  obtain ⟨e, h1, h2⟩ := split_place hG hi
  -- the class's least place
  obtain ⟨r, hr⟩ : ∃ r, r = i % Gof u x y z := ⟨_, rfl⟩
  have hrG : r < Gof u x y z := by rw [hr]; exact Nat.mod_lt _ G0
  have hrM : r < Mof u x y z := Nat.lt_of_lt_of_le hrG GM
  have hrr : r % Gof u x y z = r := Nat.mod_eq_of_lt hrG
  have ea : AlikeP u x y z r = AlikeP u x y z i := by
    unfold AlikeP cntOf
    rw [hrr, hr]
  obtain ⟨er, hs, hk⟩ := split_place hG hrM
  have hkg : r / u < gN x y z := by
    rw [Nat.div_lt_iff_lt_mul (by obtain ⟨h, _⟩ := hG; omega), Nat.mul_comm]
    exact hrG
  have pr : (AlikeP u x y z r).Perm (RingP u x y z turn r) := by
    rw [alike_eq hG hrM, ringP_eq hG hrM ht]
    exact ((facts hG hk).1 hkg).map _
  have hm : ((2 * i : Nat) : Int) ∈ RingP u x y z turn r := pr.subset ((mem_alike hG hrM hi).mpr (by rw [hrr, hr]))
  rw [← ea]
  refine pr.trans ?_
  rw [ring_of_mem hG hrM ht hm]
  exact (turn_perm _ _).symm
theorem plain3 (hG : Geo u x y z) (hi : i < Mof u x y z) {j : Nat} (hj : j < Mof u x y z) (ht : turn < 3) : (RingP u x y z turn i).any (fun q => q == ((2 * j : Nat) : Int)) = decide (j % Gof u x y z = i % Gof u x y z) := by
  have h1 : ((2 * j : Nat) : Int) ∈ RingP u x y z turn i ↔ j % Gof u x y z = i % Gof u x y z := by
    rw [← (plain1 hG hi ht).mem_iff]
    exact mem_alike hG hi hj
  by_cases h : j % Gof u x y z = i % Gof u x y z
  · rw [decide_eq_true h]
    exact List.any_eq_true.mpr ⟨_, h1.mpr h, beq_self_eq_true _⟩
  · rw [decide_eq_false h]
    refine Bool.eq_false_iff.mpr fun e => h (h1.mp ?_)
    obtain ⟨q, hq, eq⟩ := List.any_eq_true.mp e
    rw [← eq_of_beq eq]
    exact hq
theorem plain4 (hG : Geo u x y z) (hi : i < Mof u x y z) {j : Nat} (hj : j < Mof u x y z) (ht : turn < 3) (h : j % Gof u x y z = i % Gof u x y z) :
    RingP u x y z turn j = ((RingP u x y z turn i ++ RingP u x y z turn i).drop ((RingP u x y z turn i ++ RingP u x y z turn i).idxOf ((2 * j : Nat) : Int))).take (RingP u x y z turn i).length := by
  have hm : ((2 * j : Nat) : Int) ∈ RingP u x y z turn i := (plain1 hG hi ht).subset ((mem_alike hG hi hj).mpr h)
  rw [twice_at hm]
  exact ring_of_mem hG hi ht hm
end
end
section
theorem whole_law : PySem.Challenge.rw_kl0478_01.Holds := law_holds fun w p loose mean mg mb =>
  have p1 : ∀ u x y z i turn, Geo u x y z → i < Mof u x y z → turn < 3 → (AlikeP u x y z i).Perm (RingP u x y z turn i) := fun u x y z i turn hG hi ht => plain1 hG hi ht
  have p2 : ∀ u x y z i turn, Geo u x y z → i < Mof u x y z → turn < 3 → RingB u x y z turn i = (RingP u x y z turn i).take 1 ++ ((RingP u x y z turn i).drop 1).reverse := fun u x y z i turn hG hi ht => plain2 hG hi ht
  have p3 : ∀ u x y z i j turn, Geo u x y z → i < Mof u x y z → j < Mof u x y z → turn < 3 → (RingP u x y z turn i).any (fun q => q == ((2 * j : Nat) : Int)) = decide (j % Gof u x y z = i % Gof u x y z) := fun u x y z i j turn hG hi hj ht => plain3 hG hi hj ht
  have p4 : ∀ u x y z i j turn, Geo u x y z → i < Mof u x y z → j < Mof u x y z → turn < 3 → j % Gof u x y z = i % Gof u x y z → RingP u x y z turn j = ((RingP u x y z turn i ++ RingP u x y z turn i).drop ((RingP u x y z turn i ++ RingP u x y z turn i).idxOf ((2 * j : Nat) : Int))).take (RingP u x y z turn i).length := fun u x y z i j turn hG hi hj ht h => plain4 hG hi hj ht h
  law_1 w p loose mean mg mb <| law_2 w p loose mean mg mb <| law_3 w p loose mean mg mb <| law_4 w p loose mean mg mb <| law_5 w p loose mean mg mb <| law_6 w p loose mean mg mb <| law_7 w p loose mean mg mb <| law_8 w p loose mean mg mb <| law_9 w p loose mean mg mb <| law_12 w p loose mean mg mb <| law_14 w p loose mean mg mb p1 p2 <| law_15 w p loose mean mg mb p3 <| law_17 w p loose mean mg mb p3 p4 p1 <| law_20 w p loose mean mg mb p1 <| law_21 w p loose mean mg mb <| law_22 w p loose mean mg mb p1 <| law_24 w p loose mean mg mb p1 <| law_25 w p loose mean mg mb <| law_28 w p loose mean mg mb
end
end Mine
theorem PySem.Challenge.cw_kl0478_01_holds : PySem.Challenge.rw_kl0478_01.Holds := by
  exact Mine.whole_law
