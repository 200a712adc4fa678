import PyProof.Rows.All
import Wide.All
import OpenK.AllK
import Wide.FinOn
import PyProof.FactsAll.set_4
import KE.KNest
import KE.KState
import KE.KLcTest
import PyProof.TupleIter
import PyProof.Rows.SortWalkRead
import PyProof.Rows.SortStr
import PyProof.CollectWalk
import OpenK.KUnr
import OpenK.KCell
import KE.KSortKey
import KE.KNestM
import KE.KEqDeep
import Lean
import PySem.Challenge.RW_jg0002_01
set_option Elab.async false
section
open PySem PySem.W PyProof.Rows
namespace PySem.W.Fast
theorem tw5558147832475270287 : True := trivial
theorem tw8075568018651887793 : True := trivial
theorem tw4461812800195623881 : True := trivial
theorem tw15277420265344561489 : True := trivial
theorem tw3637967107200930823 : True := trivial
theorem tw13530962731830849376 : True := trivial
theorem tw17979791207123558053 : True := trivial
theorem tw14979626087600564940 : True := trivial
theorem tw100903727374466824 : True := trivial
theorem tw10718892041063643863 : True := trivial
theorem tw11056232965060496720 : True := trivial
theorem tw2874504208813169126 : True := trivial
theorem tw16877100571367274856 : True := trivial
theorem tw9368513706250217015 : True := trivial
theorem tw14060403864292698165 : True := trivial
theorem tw8478436911231091946 : True := trivial
theorem tw10253492065209306289 : True := trivial
theorem tw13002492023102617099 : True := trivial
theorem tw14112274594779413971 : True := trivial
theorem tw16172888661194304596 : True := trivial
theorem tw12896934618165308513 : True := trivial
theorem tw49773609377437565 : True := trivial
theorem tw16454842137558096233 : True := trivial
theorem tw4109823476700235019 : True := trivial
theorem tw6891000109920058784 : True := trivial
theorem tw5565278806992967083 : True := trivial
theorem tw11500935155912984676 : True := trivial
theorem tw17352973434858128600 : True := trivial
theorem tw17111948838632640456 : True := trivial
theorem tw17300597898927385350 : True := trivial
theorem tw8224813933742928703 : True := trivial
theorem tw16873187988247708562 : True := trivial
theorem tw16644606511662114574 : True := trivial
theorem tw11519604305632133818 : True := trivial
theorem tw17394056326795013819 : True := trivial
theorem tw10670733350059645105 : True := trivial
theorem tw9265879793445154701 : True := trivial
theorem tw12488000419048109807 : True := trivial
theorem tw11788150170368784547 : True := trivial
theorem tw18056578402003937789 : True := trivial
theorem tw4980102563643897964 : True := trivial
theorem tw17899373020297197333 : True := trivial
theorem tw18350638575300117064 : True := trivial
theorem tw15278061642289888581 : True := trivial
theorem tw17069979004554194336 : True := trivial
theorem tw1041845030581493396 : True := trivial
theorem tw8860024209350480642 : True := trivial
theorem tw16979880578912567463 : True := trivial
theorem tw8253183596043897158 : True := trivial
theorem tw12835720964997663042 : True := trivial
theorem tw4407734736301137906 : True := trivial
theorem tw9151444980202551346 : True := trivial
theorem tw3039592710220408265 : True := trivial
theorem tw6434138532213402376 : True := trivial
theorem tw183835017167291270 : True := trivial
theorem tw7892128664451923741 : True := trivial
theorem tw5152784196030571298 : True := trivial
theorem tw11964429278604863157 : True := trivial
theorem tw10015664371746657536 : True := trivial
theorem tw10948738476641704880 : True := trivial
theorem tw7323676302269181137 : True := trivial
theorem tw2862820112641550484 : True := trivial
theorem tw704327219915372674 : True := trivial
theorem tw2478078296215019888 : True := trivial
theorem tw17057272898397164401 : True := trivial
theorem tw4552823106982906706 : True := trivial
theorem tw2427829803689571180 : True := trivial
theorem tw13814175508184223724 : True := trivial
theorem tw15475462885187679331 : True := trivial
theorem tw18101931140130867144 : True := trivial
theorem tw5032809538720368765 : True := trivial
theorem tw18211773271919218964 : True := trivial
theorem tw13981391230805400906 : True := trivial
theorem tw13512673800721320934 : True := trivial
theorem tw17552769576498331613 : True := trivial
theorem tw4071324889030633612 : True := trivial
theorem tw3698559305507148144 : True := trivial
theorem tw1092655722715705105 : True := trivial
theorem tw17520869792638436183 : True := trivial
theorem tw11277413387252134812 : True := trivial
theorem tw39160002569200845 : True := trivial
theorem tw11081865753601315856 : True := trivial
theorem tw1370275717833778536 : True := trivial
theorem tw2951486255847992690 : True := trivial
theorem tw15742981410569661332 : True := trivial
theorem tw14311459727803291754 : True := trivial
theorem tw10887116778572429059 : True := trivial
theorem tw10424941004445345732 : True := trivial
theorem tw951843321253372498 : True := trivial
theorem tw10955440031540916060 : True := trivial
theorem tw7496433998918960881 : True := trivial
theorem tw10833955939284561965 : True := trivial
theorem tw3118938333895590913 : True := trivial
theorem tw15215539614974913122 : True := trivial
theorem tw15034313371233782410 : True := trivial
theorem tw9673203406766833760 : True := trivial
theorem tw6214688769961185500 : True := trivial
theorem tw6714822604882049554 : True := trivial
theorem tw11790162104776037713 : True := trivial
theorem tw7365555872484859036 : True := trivial
theorem tw17954471519018878134 : True := trivial
theorem tw16942504070071679284 : True := trivial
theorem tw9787463984185863102 : True := trivial
theorem tw505943868828395459 : True := trivial
theorem tw2344255965895610237 : True := trivial
theorem tw9285146279643344392 : True := trivial
theorem tw15066959818950650227 : True := trivial
theorem tw1503297043503765363 : True := trivial
theorem tw16593013826814733010 : True := trivial
theorem tw7299303143086499733 : True := trivial
theorem tw14714103240675001986 : True := trivial
theorem tw17814930658547583709 : True := trivial
theorem tw17341736924252097559 : True := trivial
theorem tw12898947447245864913 : True := trivial
theorem tw136631920214876835 : True := trivial
theorem tw9674257727999782656 : True := trivial
theorem tw11939915149646268982 : True := trivial
theorem tw18345786424863182364 : True := trivial
theorem tw9011979029575296479 : True := trivial
theorem tw3131671291697673992 : True := trivial
theorem tw1258299570235058372 : True := trivial
theorem tw17842620306162639686 : True := trivial
theorem tw17913803186225011329 : True := trivial
theorem tw1735497430108182060 : True := trivial
theorem tw17846936440860909165 : True := trivial
theorem tw6683783046931543321 : True := trivial
theorem tw757081541053455785 : True := trivial
theorem tw13833065179229638619 : True := trivial
theorem tw12731603968600162155 : True := trivial
theorem tw10042830170769951172 : True := trivial
theorem tw5923252988546675246 : True := trivial
theorem tw9376109419431680627 : True := trivial
theorem tw16039550372008468697 : True := trivial
theorem tw8400853705098224536 : True := trivial
theorem tw2718901123391026995 : True := trivial
theorem tw912392155897948271 : True := trivial
theorem tw4405960384096086239 : True := trivial
theorem tw14896874001708588922 : True := trivial
theorem tw3636048126100218174 : True := trivial
theorem tw17274371674624000324 : True := trivial
theorem tw43969757491396457 : True := trivial
theorem tw14544052848187043789 : True := trivial
theorem tw1320183511955256522 : True := trivial
theorem tw14323765505736481980 : True := trivial
theorem tw13615603153576403970 : True := trivial
theorem tw9931943479562821362 : True := trivial
theorem tw6993175162768986339 : True := trivial
theorem tw2193789692954389824 : True := trivial
theorem tw3315324234476444515 : True := trivial
theorem tw9281714027785469542 : True := trivial
theorem tw15079194523842364033 : True := trivial
theorem tw15806122291839087668 : True := trivial
theorem tw14214133299417103183 : True := trivial
theorem tw460243522976405022 : True := trivial
theorem tw15007238320947547705 : True := trivial
theorem tw17325535178939296128 : True := trivial
theorem tw3953757239420563355 : True := trivial
theorem tw15823609455315575823 : True := trivial
theorem tw7581352650102555174 : True := trivial
theorem tw1419416864934026935 : True := trivial
theorem tw12850107946570832962 : True := trivial
theorem tw1139862187096482527 : True := trivial
theorem tw4575980220486274672 : True := trivial
theorem tw7987952416473584550 : True := trivial
theorem tw5732905514179830355 : True := trivial
theorem tw9794667896261083176 : True := trivial
theorem tw1218959903707654005 : True := trivial
theorem tw3695515675974049574 : True := trivial
theorem tw4558998842232669794 : True := trivial
theorem tw16328912562034613984 : True := trivial
theorem tw558745408833754511 : True := trivial
theorem tw12981051755390344553 : True := trivial
theorem tw15168306246750427876 : True := trivial
theorem tw667198328695590252 : True := trivial
theorem tw3470799630455053000 : True := trivial
theorem tw15902184279288820625 : True := trivial
theorem tw16349216596472256690 : True := trivial
theorem tw3355348695024010778 : True := trivial
theorem tw3766158894648301139 : True := trivial
theorem tw7081425507203772304 : True := trivial
theorem tw4858009861420398278 : True := trivial
theorem tw3209381107111851631 : True := trivial
theorem tw3442601649717412197 : True := trivial
theorem tw313226197891681235 : True := trivial
theorem tw7344376507651311505 : True := trivial
theorem tw16417370028952169744 : True := trivial
theorem tw14333388528381170442 : True := trivial
theorem tw11420187438672877268 : True := trivial
theorem tw716658179208862652 : True := trivial
theorem tw16413963553889246368 : True := trivial
theorem tw11682084944484805031 : True := trivial
theorem tw6662432510661729299 : True := trivial
theorem tw7788680626742099145 : True := trivial
theorem tw16643379632663270332 : True := trivial
theorem tw470574548607681690 : True := trivial
theorem tw5701610774189311196 : True := trivial
theorem tw15900120412870309639 : True := trivial
theorem tw11853533878840232495 : True := trivial
theorem tw9300948228871686676 : True := trivial
theorem tw10314498396905981064 : True := trivial
theorem tw14971970265804392439 : True := trivial
theorem tw18410474027866654770 : True := trivial
theorem tw11495947367809530248 : True := trivial
theorem tw5189142188285759775 : True := trivial
theorem tw12233582284571471492 : True := trivial
theorem tw16176465441171805009 : True := trivial
theorem tw17863021456227041891 : True := trivial
theorem tw9787396351842916947 : True := trivial
theorem tw347637069881736656 : True := trivial
theorem tw13721567128424951087 : True := trivial
theorem tw6952355047532471503 : True := trivial
theorem tw16145008321745377990 : True := trivial
theorem tw2759451637364818457 : True := trivial
theorem tw3619232141914619222 : True := trivial
theorem tw11161088081135249708 : True := trivial
theorem tw1617757218408452269 : True := trivial
theorem tw4658958612460137192 : True := trivial
theorem tw3362959441861295915 : True := trivial
theorem tw7619357645376055252 : True := trivial
theorem tw3577408171920636059 : True := trivial
theorem tw5349121933718820234 : True := trivial
theorem tw117213463901210413 : True := trivial
theorem tw1829445100760108279 : True := trivial
theorem tw2370070277545300124 : True := trivial
theorem tw10942035263794033107 : True := trivial
theorem tw9626621113073979434 : True := trivial
theorem tw4527066259768149269 : True := trivial
theorem tw9219426015542480343 : True := trivial
theorem tw7581816359482902497 : True := trivial
theorem tw11825729669827539873 : True := trivial
theorem tw12290603225136948437 : True := trivial
theorem tw16531745337717519161 : True := trivial
theorem tw17071476683966804577 : True := trivial
theorem tw15323854079317868165 : True := trivial
theorem tw2627984346626558326 : True := trivial
theorem tw4319705520415482375 : True := trivial
theorem tw16494616584097029746 : True := trivial
theorem tw11796506867022685745 : True := trivial
theorem tw441327347791068078 : True := trivial
theorem tw13180171748994924942 : True := trivial
theorem tw17730448691065144110 : True := trivial
theorem tw11186114360453789277 : True := trivial
theorem tw14821650378409806113 : True := trivial
theorem tw16349804527192203551 : True := trivial
theorem tw9305782018832362445 : True := trivial
theorem tw17101871299007795629 : True := trivial
theorem tw6135381517318000843 : True := trivial
theorem tw16406328271908756883 : True := trivial
theorem tw878741703135273975 : True := trivial
theorem tw16413264400604254196 : True := trivial
theorem tw196644378293983589 : True := trivial
theorem tw2408619945344806742 : True := trivial
theorem tw4224760802259116069 : True := trivial
theorem tw15560500314895047343 : True := trivial
theorem tw535072334866317008 : True := trivial
theorem tw151948405760981731 : True := trivial
theorem tw13642483538084851733 : True := trivial
theorem tw10308316962582663543 : True := trivial
theorem tw18126140380344562322 : True := trivial
theorem tw14973007898608030118 : True := trivial
theorem tw16865151637890581275 : True := trivial
theorem tw14285029430470858289 : True := trivial
theorem tw2711585505577850959 : True := trivial
theorem tw16180483070735683940 : True := trivial
theorem tw16643706677886111943 : True := trivial
theorem tw5357591511691535388 : True := trivial
theorem tw12095823642532355627 : True := trivial
theorem tw12809422525583811893 : True := trivial
theorem tw13236226663087606529 : True := trivial
theorem tw17015423121036801654 : True := trivial
theorem tw15736541856241217950 : True := trivial
theorem tw2902314222560053993 : True := trivial
theorem tw6550987210724342151 : True := trivial
theorem tw6789855027759293466 : True := trivial
theorem tw8708707556590381134 : True := trivial
theorem tw389472881494512206 : True := trivial
theorem tw12237943961548833269 : True := trivial
theorem tw16223305294053301992 : True := trivial
theorem tw1962928258387122110 : True := trivial
theorem tw12679591844961189642 : True := trivial
theorem tw14108194823987119177 : True := trivial
theorem tw10528696920762540405 : True := trivial
theorem tw3264259588550801142 : True := trivial
theorem tw10010936943081839664 : True := trivial
theorem tw3820604794100220378 : True := trivial
theorem tw1749818173716722547 : True := trivial
theorem tw2948108419219029167 : True := trivial
theorem tw17679261114430710190 : True := trivial
theorem tw6679490504615227074 : True := trivial
theorem tw17803129079492736432 : True := trivial
theorem tw13141144453892091621 : True := trivial
theorem tw12359285113459375979 : True := trivial
theorem tw15542503528162795033 : True := trivial
theorem tw7276740287692124622 : True := trivial
theorem tw11994158751524154303 : True := trivial
theorem tw17434858337260393937 : True := trivial
theorem tw11892598404827812706 : True := trivial
theorem tw10470071008263537045 : True := trivial
theorem tw6179359751918216688 : True := trivial
theorem tw11838138170533393997 : True := trivial
theorem tw9800571698397750058 : True := trivial
theorem tw3093977132361051618 : True := trivial
theorem tw8902219603052485911 : True := trivial
theorem tw10758392820592806131 : True := trivial
theorem tw3976722010076183465 : True := trivial
theorem tw3891137856419664920 : True := trivial
theorem tw10045867985992453528 : True := trivial
theorem tw4292500188555128830 : True := trivial
theorem tw7198390536060210744 : True := trivial
theorem tw11306939235166856333 : True := trivial
theorem tw9763268239775435451 : True := trivial
theorem tw2569364866550412066 : True := trivial
theorem tw5978237884098788730 : True := trivial
theorem tw12268644228514654432 : True := trivial
theorem tw18350330562280901221 : True := trivial
theorem tw4549333791460862111 : True := trivial
theorem tw11863081143760314161 : True := trivial
theorem tw1537898542681612871 : True := trivial
theorem tw5706481520468235054 : True := trivial
theorem tw10029231156530900338 : True := trivial
theorem tw8488268690174267210 : True := trivial
theorem tw12172078356533094185 : True := trivial
theorem tw13251646731365433171 : True := trivial
theorem tw10706342367453228570 : True := trivial
theorem tw16817318245366136608 : True := trivial
theorem tw9537544019596298400 : True := trivial
theorem tw4039474712603431140 : True := trivial
theorem tw11543547407058413889 : True := trivial
theorem tw9396933662098498411 : True := trivial
theorem tw13580328829973926956 : True := trivial
theorem tw15919542637913265678 : True := trivial
theorem tw10181792811725400092 : True := trivial
theorem tw17537794083376710389 : True := trivial
theorem tw12022618010286034681 : True := trivial
theorem tw15450981722951097364 : True := trivial
theorem tw4434333111790514575 : True := trivial
theorem tw14553827428707814869 : True := trivial
theorem tw18011898689540126615 : True := trivial
theorem tw10057510723706494237 : True := trivial
theorem tw2611137233208623240 : True := trivial
theorem tw2958062672499776758 : True := trivial
theorem tw4904739604578439355 : True := trivial
theorem tw15199281503961881116 : True := trivial
theorem tw6213141578215901147 : True := trivial
theorem tw14530364306720264245 : True := trivial
theorem tw6817277305950994716 : True := trivial
theorem tw8119918657739134586 : True := trivial
theorem tw4302124980754421698 : True := trivial
theorem tw7499937903120025604 : True := trivial
theorem tw4936483359421988267 : True := trivial
theorem tw5396446701170858492 : True := trivial
theorem tw8727135674562949291 : True := trivial
theorem tw12224578244612797663 : True := trivial
theorem tw17774800907425398282 : True := trivial
theorem tw14305139224198610471 : True := trivial
theorem tw9315938663221665524 : True := trivial
theorem tw3105397867545767578 : True := trivial
theorem tw4075660801711882420 : True := trivial
theorem tw6012508502120743258 : True := trivial
theorem tw5721027456603625697 : True := trivial
theorem tw8732485361984058174 : True := trivial
theorem tw17765544955259793912 : True := trivial
theorem tw17672482021469178181 : True := trivial
theorem tw13335737130258781183 : True := trivial
theorem tw8987815912523675519 : True := trivial
theorem tw8881496252177385917 : True := trivial
theorem tw5976474108018559520 : True := trivial
theorem tw15468230090516036684 : True := trivial
theorem tw11817470609975844035 : True := trivial
theorem tw17943406268862710625 : True := trivial
theorem tw383695940523520267 : True := trivial
theorem tw2922074901204462755 : True := trivial
theorem tw6792406925840432001 : True := trivial
theorem tw10938465397075749097 : True := trivial
theorem tw15490439104401381959 : True := trivial
theorem tw1107438419126420414 : True := trivial
theorem tw17000155066101142889 : True := trivial
theorem tw8537084889766193716 : True := trivial
theorem tw900395245841561262 : True := trivial
theorem tw10227693086864044499 : True := trivial
theorem tw3094477031063562474 : True := trivial
theorem tw4090926877573551719 : True := trivial
theorem tw7269565832213808900 : True := trivial
theorem tw14834023430324568649 : True := trivial
theorem tw1204117194425446250 : True := trivial
theorem tw11707371222683016368 : True := trivial
theorem tw6654550962395885724 : True := trivial
theorem tw3865406201487662470 : True := trivial
theorem tw13871001218405608335 : True := trivial
theorem tw16292439048969090190 : True := trivial
theorem tw4681523508651956083 : True := trivial
theorem tw607167704815816724 : True := trivial
theorem tw6426273055680023932 : True := trivial
theorem tw7504490480230193789 : True := trivial
theorem tw2334299552400917057 : True := trivial
theorem tw12635813782599140982 : True := trivial
theorem tw8753696776887207221 : True := trivial
theorem tw10205541121877940668 : True := trivial
theorem tw17024950926791866790 : True := trivial
theorem tw9467589175468403638 : True := trivial
theorem tw8719427161674164953 : True := trivial
theorem tw13317431791736044220 : True := trivial
theorem tw2460228577881660442 : True := trivial
theorem tw11036193050239951465 : True := trivial
theorem tw16241802466949684156 : True := trivial
theorem tw5068434257544371817 : True := trivial
theorem tw15112985482279097393 : True := trivial
theorem tw6589095468515690095 : True := trivial
theorem tw5902227825499142635 : True := trivial
theorem tw17244072584429378644 : True := trivial
theorem tw4748654258956052638 : True := trivial
theorem tw7098571738820278039 : True := trivial
theorem tw16437185098154296904 : True := trivial
theorem tw9676229304581654039 : True := trivial
theorem tw15562837088269578035 : True := trivial
theorem tw4278798014809849964 : True := trivial
theorem tw1258717718454355964 : True := trivial
theorem tw5200128776193632040 : True := trivial
theorem tw4966893808263662355 : True := trivial
theorem tw18260038339965228139 : True := trivial
theorem tw503676674663206642 : True := trivial
theorem tw14981143343336467331 : True := trivial
theorem tw12726346659333912481 : True := trivial
theorem tw3764465048917985505 : True := trivial
theorem tw17279654841073493023 : True := trivial
theorem tw8704618095886561957 : True := trivial
theorem tw18220123701641295943 : True := trivial
theorem tw17975652961387846372 : True := trivial
theorem tw10487160056961263569 : True := trivial
theorem tw14186486079044719983 : True := trivial
theorem tw18273839248471157720 : True := trivial
theorem tw11328821685186248670 : True := trivial
theorem tw7009043117176579089 : True := trivial
theorem tw11740888236361828772 : True := trivial
theorem tw11445135464325071761 : True := trivial
theorem tw4613930686462287906 : True := trivial
theorem tw17164873540382356111 : True := trivial
theorem tw16189536214700107852 : True := trivial
theorem tw7250012664060256230 : True := trivial
theorem tw17344680358763864322 : True := trivial
theorem tw6125931036764729998 : True := trivial
theorem tw11013792430000457035 : True := trivial
theorem tw1706496860858754268 : True := trivial
theorem tw5345256250457102556 : True := trivial
theorem tw17517737089405305841 : True := trivial
theorem tw3778451253796500701 : True := trivial
theorem tw6363645014702824404 : True := trivial
theorem tw6122645084068987007 : True := trivial
theorem tw16655555454665732581 : True := trivial
theorem tw8989982439271903415 : True := trivial
theorem tw9594665118957945026 : True := trivial
theorem tw9458956999447867950 : True := trivial
theorem tw12825359941727978080 : True := trivial
theorem tw6967401301877209104 : True := trivial
theorem tw6380782515089751550 : True := trivial
theorem tw12450158673883907302 : True := trivial
theorem tw15542691292777871779 : True := trivial
theorem tw8620020772036689432 : True := trivial
theorem tw5854881644878751223 : True := trivial
theorem tw2599325451414397859 : True := trivial
theorem tw14326252917377295143 : True := trivial
theorem tw4275521005467322725 : True := trivial
theorem tw3856783459128436802 : True := trivial
theorem tw12813236842856870187 : True := trivial
theorem tw16180582048198870337 : True := trivial
theorem tw11518781747449614426 : True := trivial
theorem tw7094674258960923220 : True := trivial
theorem tw8450942572126056277 : True := trivial
theorem tw13036272033356848781 : True := trivial
theorem tw10500077913531017323 : True := trivial
theorem tw11166942722945506595 : True := trivial
theorem tw13789449189825218787 : True := trivial
theorem tw392140993173905013 : True := trivial
theorem tw1102190903223815498 : True := trivial
theorem tw15480198773659482676 : True := trivial
theorem tw12371321757623732685 : True := trivial
theorem tw17001327861769816259 : True := trivial
theorem tw5882768191206486792 : True := trivial
theorem tw4921902886906138986 : True := trivial
theorem tw6722154040420286063 : True := trivial
theorem tw13809362725867891129 : True := trivial
theorem tw3436264866546951355 : True := trivial
theorem tw15157221202141545114 : True := trivial
theorem tw16874561944515371726 : True := trivial
theorem tw16741492637210864865 : True := trivial
theorem tw1638017585896720355 : True := trivial
theorem tw7670514497116975361 : True := trivial
theorem tw6019396324639902685 : True := trivial
theorem tw15663404670287596823 : True := trivial
theorem tw2354101950205528012 : True := trivial
theorem tw15041003319150489328 : True := trivial
theorem tw6127375697748050860 : True := trivial
theorem tw6711915476519705758 : True := trivial
theorem tw10007627690174824804 : True := trivial
theorem tw16432479971616331241 : True := trivial
theorem tw16697116713213952808 : True := trivial
theorem tw7783732958741208154 : True := trivial
theorem tw7286323032743288035 : True := trivial
theorem tw16439824349840649037 : True := trivial
theorem tw1886563365779066154 : True := trivial
theorem tw5925582254088234700 : True := trivial
theorem tw11985326045990495214 : True := trivial
theorem tw14537914154153760125 : True := trivial
theorem tw7650934615059315214 : True := trivial
theorem tw16942194440817826258 : True := trivial
theorem tw1156252341971683116 : True := trivial
theorem tw4172830789200971933 : True := trivial
theorem tw16414604833108395602 : True := trivial
theorem tw5450187663091677483 : True := trivial
theorem tw7140130562030077042 : True := trivial
theorem tw16018607276475445134 : True := trivial
theorem tw7275051467321613617 : True := trivial
theorem tw973662469405803806 : True := trivial
theorem tw11108263761283441063 : True := trivial
theorem tw13254397897704925713 : True := trivial
theorem tw17827458813498177553 : True := trivial
theorem tw13776390136698705113 : True := trivial
theorem tw11625766737575182897 : True := trivial
theorem tw17475289236778735526 : True := trivial
theorem tw1401972060568974870 : True := trivial
theorem tw8098380416015320538 : True := trivial
theorem tw8430678208038309684 : True := trivial
theorem tw7401281599722004195 : True := trivial
theorem tw11310463157757771331 : True := trivial
theorem tw15195428891847259777 : True := trivial
theorem tw1772237422875290029 : True := trivial
theorem tw2011108890870493169 : True := trivial
theorem tw5248340912204065574 : True := trivial
theorem tw14097648870716263351 : True := trivial
theorem tw9979284746773624096 : True := trivial
theorem tw14126943448341045398 : True := trivial
theorem tw10996506086634736982 : True := trivial
theorem tw6059929106960060952 : True := trivial
theorem tw10939839348159177617 : True := trivial
theorem tw11270796479367742343 : True := trivial
theorem tw1291980286583624508 : True := trivial
theorem tw8032284361305108907 : True := trivial
theorem tw1184552218554016812 : True := trivial
theorem tw8656719876789144132 : True := trivial
theorem tw7483462131439158144 : True := trivial
theorem tw16916688483869632129 : True := trivial
theorem tw8703263022893421829 : True := trivial
theorem tw8017206721242287953 : True := trivial
theorem tw3325841961599345399 : True := trivial
theorem tw9236875199018929784 : True := trivial
theorem tw1620339239838986703 : True := trivial
theorem tw2660918139993853925 : True := trivial
theorem tw9948023125614773506 : True := trivial
theorem tw4933834842325187142 : True := trivial
theorem tw563124612126607214 : True := trivial
theorem tw721709456127091705 : True := trivial
theorem tw1055568401681811165 : True := trivial
theorem tw17730428716208468724 : True := trivial
theorem tw1414301608579184545 : True := trivial
theorem tw14223099787259518943 : True := trivial
theorem tw12177639751122801600 : True := trivial
theorem tw6929956602132211858 : True := trivial
theorem tw12392613427281201732 : True := trivial
theorem tw10352308551163946355 : True := trivial
theorem tw12393455550290869266 : True := trivial
theorem tw13471461260053382970 : True := trivial
theorem tw11636919720809706868 : True := trivial
theorem tw8047484207015712433 : True := trivial
theorem tw5529568453561195837 : True := trivial
theorem tw17497748084772794779 : True := trivial
theorem tw662354867322794072 : True := trivial
theorem tw16947794391021106201 : True := trivial
theorem tw12635297910168745909 : True := trivial
theorem tw18340240734955500558 : True := trivial
theorem tw4978915544186085027 : True := trivial
theorem tw8610040677353227653 : True := trivial
theorem tw1763209079605825380 : True := trivial
theorem tw5823794197072137003 : True := trivial
theorem tw13559156169165276386 : True := trivial
theorem tw13912434898499826684 : True := trivial
theorem tw10819683100428557426 : True := trivial
theorem tw13252181687094117063 : True := trivial
theorem tw4011157648589011858 : True := trivial
theorem tw11957962974430299695 : True := trivial
theorem tw13526986893379352335 : True := trivial
theorem tw2039238271031011813 : True := trivial
theorem tw1869930749605803152 : True := trivial
theorem tw9407582987413476825 : True := trivial
theorem tw15766043655864335149 : True := trivial
theorem tw3142773779024712118 : True := trivial
theorem tw14420389602138693270 : True := trivial
theorem tw618205885557783147 : True := trivial
theorem tw15263041282635125899 : True := trivial
theorem tw14778209649434054790 : True := trivial
theorem tw12866136484021002089 : True := trivial
theorem tw5111356299099525756 : True := trivial
theorem tw9821368406582625841 : True := trivial
theorem tw17993156020533580102 : True := trivial
theorem tw2905824091091238844 : True := trivial
theorem tw5832503352825792928 : True := trivial
theorem tw5518745428033880147 : True := trivial
theorem tw2378363196638174374 : True := trivial
theorem tw4797165386629745026 : True := trivial
theorem tw2001226814458364393 : True := trivial
theorem tw11452132507678324671 : True := trivial
theorem tw3560238982266916124 : True := trivial
theorem tw8424611434330503625 : True := trivial
theorem tw14023627001141898710 : True := trivial
theorem tw9862997608875712007 : True := trivial
theorem tw8376441433122354887 : True := trivial
theorem tw15894407043143930727 : True := trivial
theorem tw13581749221687468397 : True := trivial
theorem tw282004115355043989 : True := trivial
theorem tw14209830616999942402 : True := trivial
theorem tw15880737140895825463 : True := trivial
theorem tw930746551332336609 : True := trivial
theorem tw17503288770812694035 : True := trivial
theorem tw15773981995205291829 : True := trivial
theorem tw2422670821966735624 : True := trivial
theorem tw2504098582860672743 : True := trivial
theorem tw1377046205977697930 : True := trivial
theorem tw9564595351457756722 : True := trivial
theorem tw387338674003428930 : True := trivial
theorem tw17000458434675057986 : True := trivial
theorem tw5135500740108067664 : True := trivial
theorem tw16792545251062261874 : True := trivial
theorem tw1708024556718086227 : True := trivial
theorem tw7802139600951554647 : True := trivial
theorem tw6834602518627153040 : True := trivial
theorem tw3267979357774110234 : True := trivial
theorem tw10508251915553800215 : True := trivial
theorem tw4775785305629353868 : True := trivial
theorem tw7397068168572129948 : True := trivial
theorem tw17476080006546285661 : True := trivial
theorem tw11333186260410459676 : True := trivial
theorem tw16869277618539721502 : True := trivial
theorem tw9501820088010722379 : True := trivial
theorem tw16350708796919097252 : True := trivial
theorem tw2283851925072248500 : True := trivial
theorem tw13160144027095335755 : True := trivial
theorem tw13607416678640721797 : True := trivial
theorem tw17804436615005485693 : True := trivial
theorem tw11277716924127702174 : True := trivial
theorem tw8796240567053077481 : True := trivial
theorem tw1574873078441994576 : True := trivial
theorem tw2968979199505139716 : True := trivial
theorem tw10379131730601215995 : True := trivial
theorem tw16339471991904476338 : True := trivial
theorem tw17280976486791472633 : True := trivial
theorem tw11130039905162102590 : True := trivial
theorem tw5149714755402479525 : True := trivial
theorem tw3424931102881643321 : True := trivial
theorem tw1631149150583789468 : True := trivial
theorem tw9136488742655976645 : True := trivial
theorem tw15980859228951719591 : True := trivial
theorem tw17532440430192770315 : True := trivial
theorem tw8206430501311747189 : True := trivial
theorem tw16758808235637498351 : True := trivial
theorem tw7585139358526817783 : True := trivial
theorem tw1402947280878808549 : True := trivial
theorem tw6909570525239066004 : True := trivial
theorem tw16846860572762119324 : True := trivial
theorem tw9504726810853072989 : True := trivial
theorem tw14386061602966655976 : True := trivial
theorem tw3327986453032591115 : True := trivial
theorem tw14168537005229113720 : True := trivial
theorem tw7392212959928792091 : True := trivial
theorem tw8693227569615203950 : True := trivial
theorem tw11462045893675790159 : True := trivial
theorem tw1189734492583310 : True := trivial
theorem tw18263319221461684349 : True := trivial
theorem tw13725850141900786883 : True := trivial
theorem tw5758256569797452207 : True := trivial
theorem tw14073706353221006472 : True := trivial
theorem tw13678640442995254988 : True := trivial
theorem tw13925586954763233925 : True := trivial
theorem tw15202239659555905331 : True := trivial
theorem tw17964007177503468958 : True := trivial
theorem tw2401699919119007470 : True := trivial
theorem tw1085346719588807367 : True := trivial
theorem tw5268983451555188008 : True := trivial
theorem tw7299951869573292228 : True := trivial
theorem tw14433975572909055671 : True := trivial
theorem tw17888162413812561239 : True := trivial
theorem tw9577309144901391297 : True := trivial
end PySem.W.Fast
namespace Mine
local macro_rules | `(tactic| o_head ($_f:ident $K $as $e)) => `(tactic| o_head (kmHook $K $as $e [25, 32, 40, 485]))
set_option maxRecDepth 100000 in
set_option maxHeartbeats 8000000 in
open_top hd for PySem.Challenge.rw_jg0002_01
theorem off : True := by
  w_top off
  trivial
end Mine
end
namespace Mine
local macro_rules | `(tactic| k_room) => `(tactic| ktr_room)
section
open PySem PySem.W
theorem ex4 {a b c d : Type} {P : a → b → c → d → Prop} {C : Prop} (h : ∃ x1 x2 x3 x4, P x1 x2 x3 x4) (k : ∀ x1 x2 x3 x4, P x1 x2 x3 x4 → C) : C := by
  obtain ⟨x1, x2, x3, x4, h⟩ := h
  exact k x1 x2 x3 x4 h
theorem ex5 {a b c d e : Type} {P : a → b → c → d → e → Prop} {C : Prop} (h : ∃ x1 x2 x3 x4 x5, P x1 x2 x3 x4 x5) (k : ∀ x1 x2 x3 x4 x5, P x1 x2 x3 x4 x5 → C) : C := by
  obtain ⟨x1, x2, x3, x4, x5, h⟩ := h
  exact k x1 x2 x3 x4 x5 h
theorem ex6 {a b c d e f : Type} {P : a → b → c → d → e → f → Prop} {C : Prop} (h : ∃ x1 x2 x3 x4 x5 x6, P x1 x2 x3 x4 x5 x6) (k : ∀ x1 x2 x3 x4 x5 x6, P x1 x2 x3 x4 x5 x6 → C) : C := by
  obtain ⟨x1, x2, x3, x4, x5, x6, h⟩ := h
  exact k x1 x2 x3 x4 x5 x6 h
theorem ex8 {a b c d e f g h : Type} {P : a → b → c → d → e → f → g → h → Prop} {C : Prop} (h : ∃ x1 x2 x3 x4 x5 x6 x7 x8, P x1 x2 x3 x4 x5 x6 x7 x8) (k : ∀ x1 x2 x3 x4 x5 x6 x7 x8, P x1 x2 x3 x4 x5 x6 x7 x8 → C) : C := by
  obtain ⟨x1, x2, x3, x4, x5, x6, x7, x8, h⟩ := h
  exact k x1 x2 x3 x4 x5 x6 x7 x8 h
theorem an7 {p1 p2 p3 p4 p5 p6 p7 C : Prop} (h : p1 ∧ p2 ∧ p3 ∧ p4 ∧ p5 ∧ p6 ∧ p7) (k : p1 → p2 → p3 → p4 → p5 → p6 → p7 → C) : C := k h.1 h.2.1 h.2.2.1 h.2.2.2.1 h.2.2.2.2.1 h.2.2.2.2.2.1 h.2.2.2.2.2.2
theorem an9 {p1 p2 p3 p4 p5 p6 p7 p8 p9 C : Prop} (h : p1 ∧ p2 ∧ p3 ∧ p4 ∧ p5 ∧ p6 ∧ p7 ∧ p8 ∧ p9) (k : p1 → p2 → p3 → p4 → p5 → p6 → p7 → p8 → p9 → C) : C := k h.1 h.2.1 h.2.2.1 h.2.2.2.1 h.2.2.2.2.1 h.2.2.2.2.2.1 h.2.2.2.2.2.2.1 h.2.2.2.2.2.2.2.1 h.2.2.2.2.2.2.2.2
theorem an10 {p1 p2 p3 p4 p5 p6 p7 p8 p9 p10 C : Prop} (h : p1 ∧ p2 ∧ p3 ∧ p4 ∧ p5 ∧ p6 ∧ p7 ∧ p8 ∧ p9 ∧ p10) (k : p1 → p2 → p3 → p4 → p5 → p6 → p7 → p8 → p9 → p10 → C) : C := k h.1 h.2.1 h.2.2.1 h.2.2.2.1 h.2.2.2.2.1 h.2.2.2.2.2.1 h.2.2.2.2.2.2.1 h.2.2.2.2.2.2.2.1 h.2.2.2.2.2.2.2.2.1 h.2.2.2.2.2.2.2.2.2
theorem an12 {p1 p2 p3 p4 p5 p6 p7 p8 p9 p10 p11 p12 C : Prop} (h : p1 ∧ p2 ∧ p3 ∧ p4 ∧ p5 ∧ p6 ∧ p7 ∧ p8 ∧ p9 ∧ p10 ∧ p11 ∧ p12) (k : p1 → p2 → p3 → p4 → p5 → p6 → p7 → p8 → p9 → p10 → p11 → p12 → C) : C := k h.1 h.2.1 h.2.2.1 h.2.2.2.1 h.2.2.2.2.1 h.2.2.2.2.2.1 h.2.2.2.2.2.2.1 h.2.2.2.2.2.2.2.1 h.2.2.2.2.2.2.2.2.1 h.2.2.2.2.2.2.2.2.2.1 h.2.2.2.2.2.2.2.2.2.2.1 h.2.2.2.2.2.2.2.2.2.2.2
theorem an21 {p1 p2 p3 p4 p5 p6 p7 p8 p9 p10 p11 p12 p13 p14 p15 p16 p17 p18 p19 p20 p21 C : Prop} (h : p1 ∧ p2 ∧ p3 ∧ p4 ∧ p5 ∧ p6 ∧ p7 ∧ p8 ∧ p9 ∧ p10 ∧ p11 ∧ p12 ∧ p13 ∧ p14 ∧ p15 ∧ p16 ∧ p17 ∧ p18 ∧ p19 ∧ p20 ∧ p21) (k : p1 → p2 → p3 → p4 → p5 → p6 → p7 → p8 → p9 → p10 → p11 → p12 → p13 → p14 → p15 → p16 → p17 → p18 → p19 → p20 → p21 → C) : C := k h.1 h.2.1 h.2.2.1 h.2.2.2.1 h.2.2.2.2.1 h.2.2.2.2.2.1 h.2.2.2.2.2.2.1 h.2.2.2.2.2.2.2.1 h.2.2.2.2.2.2.2.2.1 h.2.2.2.2.2.2.2.2.2.1 h.2.2.2.2.2.2.2.2.2.2.1 h.2.2.2.2.2.2.2.2.2.2.2.1 h.2.2.2.2.2.2.2.2.2.2.2.2.1 h.2.2.2.2.2.2.2.2.2.2.2.2.2.1 h.2.2.2.2.2.2.2.2.2.2.2.2.2.2.1 h.2.2.2.2.2.2.2.2.2.2.2.2.2.2.2.1 h.2.2.2.2.2.2.2.2.2.2.2.2.2.2.2.2.1 h.2.2.2.2.2.2.2.2.2.2.2.2.2.2.2.2.2.1 h.2.2.2.2.2.2.2.2.2.2.2.2.2.2.2.2.2.2.1 h.2.2.2.2.2.2.2.2.2.2.2.2.2.2.2.2.2.2.2.1 h.2.2.2.2.2.2.2.2.2.2.2.2.2.2.2.2.2.2.2.2
theorem all_cons {α : Type} {P : α → Prop} {a : α} {l : List α} (h : P a) (k : ∀ q ∈ l, P q) : ∀ q ∈ a :: l, P q := List.forall_mem_cons.mpr ⟨h, k⟩
theorem all_app {α : Type} {P : α → Prop} {l r : List α} (h : ∀ q ∈ l, P q) (k : ∀ q ∈ r, P q) : ∀ q ∈ l ++ r, P q := fun q hq => (List.mem_append.mp hq).elim (h q) (k q)
theorem all_nil {α : Type} {P : α → Prop} : ∀ q ∈ ([] : List α), P q := fun _ h => nomatch h
theorem ne6_gt {L x : Addr} (h : @LT.lt Nat _ (L + 1 + 1 + 1 + 1 + 1 + 1) x) : @Ne Nat x (L + 1) ∧ @Ne Nat x (L + 1 + 1) ∧ @Ne Nat x (L + 1 + 1 + 1) ∧ @Ne Nat x (L + 1 + 1 + 1 + 1) ∧ @Ne Nat x (L + 1 + 1 + 1 + 1 + 1) ∧ @Ne Nat x (L + 1 + 1 + 1 + 1 + 1 + 1) := by omega
theorem ne6_lt {L x : Addr} (h : @LT.lt Nat _ x L) : @Ne Nat x (L + 1) ∧ @Ne Nat x (L + 1 + 1) ∧ @Ne Nat x (L + 1 + 1 + 1) ∧ @Ne Nat x (L + 1 + 1 + 1 + 1) ∧ @Ne Nat x (L + 1 + 1 + 1 + 1 + 1) ∧ @Ne Nat x (L + 1 + 1 + 1 + 1 + 1 + 1) := by omega
theorem ne4_gt {x : Addr} (h : @LT.lt Nat _ 485 x) : @Ne Nat x 25 ∧ @Ne Nat x 32 ∧ @Ne Nat x 40 ∧ @Ne Nat x 485 := by omega
theorem ne_lit {x k : Addr} (h : @LT.lt Nat _ 485 x) (hk : Nat.ble k 485 = true) : @Ne Nat x k := Nat.ne_of_gt (Nat.lt_of_le_of_lt (Nat.le_of_ble_eq_true hk) h)
theorem ne_c1 {x : Addr} : @Ne Nat x (x + 1) := Nat.ne_of_lt (by omega)
theorem ne_c2 {x : Addr} : @Ne Nat x (x + 1 + 1) := Nat.ne_of_lt (by omega)
theorem ne_c3 {x : Addr} : @Ne Nat x (x + 1 + 1 + 1) := Nat.ne_of_lt (by omega)
theorem ne_c4 {x : Addr} : @Ne Nat x (x + 1 + 1 + 1 + 1) := Nat.ne_of_lt (by omega)
theorem ne_c5 {x : Addr} : @Ne Nat x (x + 1 + 1 + 1 + 1 + 1) := Nat.ne_of_lt (by omega)
end
section
open PySem PySem.W PySem.Calls PyProof.Rows PySem.Spec
set_option maxRecDepth 100000
def subs : List Nat → List (List Nat)
  | [] => [[]]
  | a :: l => subs l ++ (subs l).map (a :: ·)
def subs5 : List (List Nat) := subs [0, 1, 2, 3, 4]
def tab (mask moves : Nat) (led : Bool) (ns : List Nat) : SetTable :=
  { mask := mask, place := ns.toArray, dummies := #[], finger := 0, led := led, moves := moves, plain := true }
def ins (x : Nat) (ns : List Nat) : List Nat := ns.filter (· < x) ++ x :: ns.filter (fun y => decide (x < y))
def posOf (x : Nat) (ns : List Nat) : Nat := (ns.filter (· < x)).length
theorem lay1 : ∀ led : Bool, ∀ ns ∈ subs5, ∀ x ∈ [0, 1, 2, 3, 4], x ∉ ns → (tab 7 0 led ns).freeSlot (x : Int) = some (x, false) ∧ (tab 7 0 led ns).put x = (tab 7 0 led (ins x ns), posOf x ns) ∧
    ins x ns ∈ subs5 ∧ (tab 7 0 led (ins x ns)).fits (ins x ns).length = true ∧ ns.take (posOf x ns) = ns.filter (· < x) ∧ ns.drop (posOf x ns) = ns.filter (fun y => decide (x < y)) ∧ ns.length ≤ 4 := by decide +kernel
theorem lay2 : ∀ led : Bool, (tab 7 0 led [0, 1, 2, 3, 4]).relaid #[0, 1, 2, 3, 4] (SetTable.grown 5) = some (tab 31 1 led [0, 1, 2, 3, 4], #[0, 1, 2, 3, 4]) := by decide +kernel
theorem lay3 : ∀ led : Bool, ∀ ns ∈ subs5, (tab 7 0 led ns).tooFull = decide (ns = [0, 1, 2, 3, 4]) := by decide +kernel
theorem lay4 : ∀ ns ∈ subs5, ∀ i ∈ [0, 1, 2, 3, 4, 5], i ≤ ns.length → SetTable.below ns.toArray (if i = 0 then 0 else ns.getD (i - 1) 0 + 1) = i := by decide +kernel
theorem lay5 : ∀ led : Bool, (tab 7 0 led []).relaid #[] 10 = some (tab 15 1 led [], #[]) ∧ SetTable.laid 15 0 1 led true #[0, 1, 2, 3, 4] = some (tab 15 1 led [0, 1, 2, 3, 4], #[0, 1, 2, 3, 4]) := by decide +kernel
theorem hash5 : ∀ n ∈ [0, 1, 2, 3, 4], hashInt ((n : Nat) : Int) = (n : Int) := by decide +kernel
theorem subs5_mem : ∀ ns ∈ subs5, ∀ n ∈ ns, n ∈ [0, 1, 2, 3, 4] := by decide +kernel
theorem subs5_len : ∀ ns ∈ subs5, ns.length ≤ 5 := by decide +kernel
theorem subs5_ext : ∀ a ∈ subs5, ∀ b ∈ subs5, (∀ i ∈ [0, 1, 2, 3, 4], (i ∈ a ↔ i ∈ b)) → a = b := by decide +kernel
def EntOf (e : Int × Value) (n : Nat) : Prop := e.1 = (n : Int) ∧ ∃ t, e.2 = .int (n : Int) t
def IntOf (v : Value) (n : Nat) : Prop := ∃ t, v = .int (n : Int) t
def noText (w : World) : Bool := !(w.params.followText "set-order")
def SetO (w : World) (o : Obj) (ns : List Nat) : Prop :=
  o.ExactSet ∧ ns ∈ subs5 ∧ ∃ es ep t, o.data = .set es ep t ∧ Paired EntOf es.toList ns ∧ t.place = ns.toArray ∧ t.plain = true ∧ t.led = noText w ∧ t.fill ≤ t.mask
def SetN (w : World) (o : Obj) (ns : List Nat) : Prop :=
  o.ExactSet ∧ ns ∈ subs5 ∧ ∃ es ep mask mv, o.data = .set es ep (tab mask mv (noText w) ns) ∧ Paired EntOf es.toList ns ∧ ((mask = 7 ∧ mv = 0 ∧ ns.length ≤ 4) ∨ (ns = [0, 1, 2, 3, 4] ∧ (mask = 31 ∨ mask = 15) ∧ mv = 1))
theorem SetN.toO {w : World} {o : Obj} {ns : List Nat} (x : SetN w o ns) : SetO w o ns := by
  obtain ⟨a, b, es, ep, mask, mv, d, p, q⟩ := x
  refine ⟨a, b, es, ep, _, d, p, rfl, rfl, rfl, ?_⟩
  have := subs5_len ns b
  show ns.toArray.size + 0 ≤ mask
  rw [List.size_toArray]
  omega
theorem pe_size {es : Array (Int × Value)} {ns : List Nat} (p : Paired EntOf es.toList ns) : es.size = ns.length := by
  rw [← p.length, Array.length_toList]
theorem SetO.fits {w : World} {o : Obj} {ns : List Nat} (x : SetO w o ns) : ∃ es ep t, o.data = .set es ep t ∧ Paired EntOf es.toList ns ∧ t.place = ns.toArray ∧ t.plain = true ∧ t.led = noText w ∧ t.fits es.size = true := by
  obtain ⟨_, b, es, ep, t, d, p, q1, q2, q3, q4⟩ := x
  refine ⟨es, ep, t, d, p, q1, q2, q3, ?_⟩
  simp only [SetTable.fits, q1, pe_size p, List.size_toArray, beq_self_eq_true, Bool.true_and, decide_eq_true_eq]
  exact q4
theorem ent_elems {prog : Program} {w : World} : ∀ {es : List (Int × Value)} {ns : List Nat}, Paired EntOf es ns → (∀ n ∈ ns, n ∈ [0, 1, 2, 3, 4]) → ElemsOf (intKind prog w) es
  | _, _, .nil, _ => fun e he => by cases he
  | _, _, .cons (a := a) (b := b) h r, hm => fun e he => by
    rcases List.mem_cons.mp he with rfl | he
    · obtain ⟨h1, t, h2⟩ := h
      exact ⟨⟨(b : Int), by rw [h2]; exact intKind_is prog w _ _, by rw [h1]; exact (hash5 b (hm b (.head _))).symm⟩, by rw [h2]; rfl⟩
    · exact ent_elems r (fun n hn => hm n (.tail _ hn)) e he
theorem ent_has {prog : Program} {w : World} : ∀ {es : List (Int × Value)} {ns : List Nat} (k : Int), Paired EntOf es ns → ((∃ e ∈ es, (intKind prog w).is k e.2 = true) ↔ ∃ n ∈ ns, (n : Int) = k)
  | _, _, k, .nil => by simp
  | _, _, k, .cons (a := a) (b := b) (l₁ := l₁) (l₂ := l₂) h r => by
    obtain ⟨h1, t, h2⟩ := h
    have ih := ent_has (prog := prog) (w := w) k r
    have e1 : (intKind prog w).is k a.2 = decide ((b : Int) = k) := by
      rw [KeyKind.is_eq_decide (k := (b : Int)) (by rw [h2]; exact intKind_is prog w _ _)]
      simp only [eq_comm]
    simp only [List.mem_cons, exists_eq_or_imp, ih, e1, decide_eq_true_eq]
def hasN (ns : List Nat) (k : Int) : Bool := ns.any fun n => decide ((n : Int) = k)
theorem SetO.objOf {prog : Program} {w : World} {o : Obj} {ns : List Nat} (x : SetO w o ns) : o.SetObjOf (intKind prog w) (hasN ns) ns.length := by
  obtain ⟨es, ep, t, d, p, _, _, _, f⟩ := x.fits
  refine ⟨x.1, es, ep, t, d, ent_elems p (subs5_mem ns x.2.1), fun k => ?_, pe_size p, f⟩
  rw [ent_has k p]
  simp [hasN]
theorem slot_seti_next : Slot "set_iterator" "__next__" "set_iterator.__next__" :=
  .of (owner := "set_iterator") (n := "__next__") (by rw [typeLookup_type, builtinLookup_eq_fast]; kernel_rfl) (by decide +kernel) (by decide +kernel) (by decide +kernel)
    (by first | exact .inl (by decide +kernel) | exact .inr (by decide +kernel)) (by rw [isSubtype_type]; kernel_rfl)
theorem slot_seti_iter : Slot "set_iterator" "__iter__" "set_iterator.__iter__" :=
  .of (owner := "set_iterator") (n := "__iter__") (by rw [typeLookup_type, builtinLookup_eq_fast]; kernel_rfl) (by decide +kernel) (by decide +kernel) (by decide +kernel)
    (by first | exact .inl (by decide +kernel) | exact .inr (by decide +kernel)) (by rw [isSubtype_type]; kernel_rfl)
theorem entry_seti_next : entryFor table "set_iterator.__next__" = some Builtin.«set_iterator.__next__» := entryFor_of_tree (by kernel_rfl)
theorem entry_seti_iter : entryFor table "set_iterator.__iter__" = some Builtin.«dict_keyiterator.__iter__» :=
  entryFor_alias (id' := "dict_keyiterator.__iter__") (by kernel_rfl) rfl (by decide +kernel) (by kernel_rfl)
theorem entry_set_iter : entryFor table "set.__iter__" = some Builtin.«frozenset.__iter__» :=
  entryFor_alias (id' := "frozenset.__iter__") (by kernel_rfl) rfl (by decide +kernel) (by kernel_rfl)
theorem args_seti_next (a : Value) : argsOk "set_iterator.__next__" ⟨[a], []⟩ := by unfold argsOk; kernel_rfl
theorem args_seti_iter (a : Value) : argsOk "set_iterator.__iter__" ⟨[a], []⟩ := by unfold argsOk; kernel_rfl
end
section
open PySem PySem.W PySem.Calls PyProof.Rows PySem.Spec
set_option maxRecDepth 100000
theorem erase_perm {α : Type} {l : List α} {i : Nat} (h : i < l.length) : (l[i] :: l.eraseIdx i).Perm l := by
  have e : l = l.take i ++ l[i] :: l.drop (i + 1) := by
    rw [← List.drop_eq_getElem_cons h, List.take_append_drop]
  rw [List.eraseIdx_eq_take_drop_succ]
  exact (List.perm_middle.symm).trans (by rw [← e])
theorem pick_go {α : Type} (next : Nat → Nat) : ∀ (fuel k : Nat) (left : List α) (out : Array α), left.length ≤ fuel → (pickOrder.go next fuel k left out).toList.Perm (out.toList ++ left)
  | 0, k, left, out, h => by
    have : left = [] := List.eq_nil_of_length_eq_zero (Nat.le_zero.mp h)
    subst this
    unfold pickOrder.go
    simp
  | fuel + 1, k, left, out, h => by
    unfold pickOrder.go
    cases hl : left with
    | nil => simp
    | cons x r =>
      rw [← hl]
      have hpos : 0 < left.length := by rw [hl]; exact Nat.succ_pos _
      have hlt : next k % left.length < left.length := Nat.mod_lt _ hpos
      rw [List.getElem?_eq_getElem hlt]
      dsimp only
      have hlen : (left.eraseIdx (next k % left.length)).length ≤ fuel := by
        rw [List.length_eraseIdx_of_lt hlt]; omega
      refine (pick_go next fuel (k + 1) _ _ hlen).trans ?_
      rw [Array.toList_push, List.append_assoc]
      exact List.Perm.append_left _ (erase_perm hlt)
theorem pick_perm {α : Type} (next : Nat → Nat) (xs : Array α) : (pickOrder next xs).toList.Perm xs.toList := by
  have := pick_go next xs.size 0 xs.toList #[] (by simp)
  simpa [pickOrder] using this
def walkOf (w : World) (a : Addr) (ep : Nat) (es : Array (Int × Value)) : Array (Int × Value) :=
  match w.params.followText "set-order" with
  | true => pickOrder (w.params.setOrder a ep) es
  | false => es
theorem walk_perm (w : World) (a : Addr) (ep : Nat) (es : Array (Int × Value)) : (walkOf w a ep es).toList.Perm es.toList := by
  unfold walkOf
  split
  · exact pick_perm _ _
  · exact .rfl
theorem paired_perm {es : List (Int × Value)} {ns : List Nat} (p : Paired EntOf es ns) : ∀ {es' : List (Int × Value)}, es'.Perm es → ∃ ms, ms.Perm ns ∧ Paired EntOf es' ms := by
  intro es' hp
  induction hp generalizing ns with
  | nil => cases p; exact ⟨[], .rfl, .nil⟩
  | cons x _ ih =>
    cases p with
    | cons h r =>
      obtain ⟨ms, q, r'⟩ := ih r
      exact ⟨_ :: ms, q.cons _, .cons h r'⟩
  | swap x y l =>
    cases p with
    | cons h1 r =>
      cases r with
      | cons h2 r => exact ⟨_, List.Perm.swap _ _ _, .cons h2 (.cons h1 r)⟩
  | trans _ _ ih1 ih2 =>
    obtain ⟨ms, q, r⟩ := ih2 p
    obtain ⟨ms', q', r'⟩ := ih1 r
    exact ⟨ms', q'.trans q, r'⟩
theorem paired_vals : ∀ {es : List (Int × Value)} {ns : List Nat}, Paired EntOf es ns → Paired IntOf (es.map (·.2)) ns
  | _, _, .nil => .nil
  | _, _, .cons h r => .cons h.2 (paired_vals r)
def slotAt (w : World) (ns : List Nat) (i : Nat) : Nat :=
  match w.params.followText "set-order" with
  | true => 0
  | false => if i = 0 then 0 else ns.getD (i - 1) 0 + 1
abbrev setIt (w : World) (a : Addr) (ns : List Nat) (ep : Nat) (i : Nat) (src : Value) : Obj :=
  { cls := .type "set_iterator", data := .fields #[rawInt (slotAt w ns i), rawInt i, src, rawInt ns.length, rawInt ep] }
section
variable {prog : Program} {w : World} {A : Around} {E : Value → Shared → Prop} {s : Shared} {a : Addr} {o : Obj} {ns : List Nat}
theorem setDrawn_no {Q : Bool → Shared → Prop} (ho : s.heap.get? a = some o) (hs : SetO w o ns) (h : Q false s) : wpAny (model prog w) A (setDrawn a) Q E s := by
  obtain ⟨es, ep, ⟨mask, place, dummies, finger, led, moves, plain⟩, d, p, q1, q2, q3, f⟩ := hs.fits
  dsimp only at q2
  subst q2
  unfold setDrawn
  refine wpAny_bind (wpAny_setState_of ho d f ?_)
  dsimp only
  unfold setsByText
  refine wpAny_bind (wpAny_bind (wpAny_askSetting (wpAny_pure ?_)))
  refine wpAny_pure ?_
  show Q (!(w.params.followText "set-order") && (!true && decide (es.size > 1))) s
  simpa using h
theorem pyIter_set {Q : Value → Shared → Prop} (ho : s.heap.get? a = some o) (hs : SetO w o ns)
    (h : ∀ es ep t, o.data = .set es ep t → Q (.ref s.heap.objs.size) { s with heap := s.heap.push (setIt w a ns ep 0 (.ref a)) }) : wpAny (model prog w) A (pyIter (.ref a)) Q E s := by
  have hT : s.TypeIs (.ref a) "set" := ⟨o, ho, hs.1.1⟩
  refine wpAny_pyIter_slot hT F.slot_set_iter (wpAny_call_entry F.slot_set_iter hT entry_set_iter ?_ (F.args_set_iter_1 _))
  obtain ⟨es, ep, t, d, p, q1, q2, q3, f⟩ := hs.fits
  unfold Builtin.«frozenset.__iter__» Builtin.Frozenset.slot0 slotArgs
  simp only [List.isEmpty_nil, Bool.not_true, Bool.false_eq_true, ↓reduceIte, bind_assoc, List.length_nil, bne_self_eq_false]
  unfold Builtin.Frozenset.addrOf Builtin.Frozenset.sizeOf
  refine wpAny_bind (wpAny_pure ?_)
  try dsimp only
  refine wpAny_bind (wpAny_pure ?_)
  refine wpAny_bind (wpAny_bind (wpAny_setEntries_of ho d f (wpAny_pure ?_)))
  refine wpAny_bind (setDrawn_no ho hs ?_)
  simp only [Bool.false_eq_true, ↓reduceIte]
  refine wpAny_bind (wpAny_pure ?_)
  refine wpAny_bind (wpAny_setEpoch_of ho d f ?_)
  refine wpAny_bind ?_
  unfold newFields
  refine wpAny_newObj_type (wpAny_pure ⟨_, rfl, "set_iterator", _, ⟨_, Heap.get?_push_size _ rfl, rfl⟩, slot_seti_next.lookup, ?_⟩)
  have e : slotAt w ns 0 = 0 := by
    unfold slotAt; split <;> rfl
  have := h es ep t d
  simp only [setIt, e] at this
  rw [pe_size p]
  exact this
theorem setNext_of {es : Array (Int × Value)} {ep : Nat} {t : SetTable} {i : Nat} {Q : Option (Value × Nat) → Shared → Prop} (ho : s.heap.get? a = some o) (hd : o.data = .set es ep t) (hs : SetO w o ns) (hi : i ≤ ns.length)
    (h : Q ((walkOf w a ep es)[i]?.map fun e => (e.2, slotAt w ns (i + 1))) s) : wpAny (model prog w) A (setNext a (slotAt w ns i) i ep) Q E s := by
  obtain ⟨es', ep', t', d, p, q1, q2, q3, f⟩ := hs.fits
  rw [hd] at d
  cases d
  have h5 := subs5_len ns hs.2.1
  have hb := lay4 ns hs.2.1 i (by have : i ≤ 5 := by omega
                                  match i, this with
                                  | 0, _ | 1, _ | 2, _ | 3, _ | 4, _ | 5, _ => simp) hi
  have hsz := pe_size p
  unfold setNext
  refine wpAny_bind (wpAny_setState_of ho hd f ?_)
  dsimp only
  unfold setsByText
  refine wpAny_bind (wpAny_bind (wpAny_askSetting (wpAny_pure ?_)))
  dsimp only
  obtain ⟨mask, place, dummies, finger, led, moves, plain⟩ := t
  dsimp only at q1 q2 q3
  subst q1 q2 q3
  unfold walkOf slotAt noText at *
  cases hw : w.params.followText "set-order" with
  | true =>
    simp only [hw] at h ⊢
    simp only [show (model prog w).w = w from rfl, hw, ↓reduceIte, bne_self_eq_false, Bool.false_eq_true]
    refine wpAny_bind ?_
    unfold setWalk
    refine wpAny_bind (wpAny_setState_of ho hd f ?_)
    dsimp only
    unfold setsByText
    refine wpAny_bind (wpAny_bind (wpAny_askSetting (wpAny_pure ?_)))
    dsimp only
    simp only [show (model prog w).w = w from rfl, hw, ↓reduceIte]
    refine wpAny_bind (wpAny_askSetting (wpAny_pure ?_))
    exact wpAny_pure h
  | false =>
    simp only [hw] at h ⊢
    simp only [show (model prog w).w = w from rfl, hw, Bool.false_eq_true, ↓reduceIte]
    show wpAny _ _ (if (!true && decide (es.size > 1)) = true then _ else _) _ _ _
    simp only [Bool.not_true, Bool.false_and, Bool.false_eq_true, ↓reduceIte]
    refine wpAny_bind (?_ : wpAny _ _ (if (!(!false) && !es.isEmpty) = true then _ else pure ()) _ _ _)
    simp only [Bool.not_false, Bool.not_true, Bool.false_and, Bool.false_eq_true, ↓reduceIte]
    refine wpAny_pure ?_
    rw [hb]
    by_cases hlt : i < ns.length
    · have hle : i < es.size := by omega
      have e1 : es[i]? = some es[i] := Array.getElem?_eq_getElem hle
      have e2 : ns.toArray[i]? = some ns[i] := by rw [List.getElem?_toArray]; exact List.getElem?_eq_getElem hlt
      rw [e1] at h ⊢
      rw [e2]
      dsimp only
      refine wpAny_pure ?_
      have e3 : ns.getD (i + 1 - 1) 0 = ns[i] := by simp [hlt]
      rw [e3] at h
      simpa using h
    · have hge : ¬ i < es.size := by omega
      have e1 : es[i]? = none := Array.getElem?_eq_none (by omega)
      rw [e1] at h ⊢
      exact wpAny_pure h
theorem setIt_step {I : Addr} {ep i : Nat} {src : Value} {h : Heap} {v1 v2 : Value} (hI : h.get? I = some (setIt w a ns ep i src)) (e1 : v1 = rawInt (slotAt w ns (i + 1))) (e2 : v2 = rawInt ((i + 1 : Nat) : Int)) :
    ((h.update I (Obj.mapFields (·.setIfInBounds 0 v1))).update I (Obj.mapFields (·.setIfInBounds 1 v2))).get? I = some (setIt w a ns ep (i + 1) src) := by
  subst e1 e2
  have z := Heap.get?_update_self (Obj.mapFields (·.setIfInBounds 0 (rawInt (slotAt w ns (i + 1))))) hI rfl
  exact Heap.get?_update_self _ z rfl
theorem pyNext_set_item {es : Array (Int × Value)} {ep : Nat} {t : SetTable} {I : Addr} {i : Nat} {v : Value} {Q : Option Value → Shared → Prop} (ho : s.heap.get? a = some o) (hd : o.data = .set es ep t) (hs : SetO w o ns)
    (hI : s.heap.get? I = some (setIt w a ns ep i (.ref a))) (hi : i < ns.length) (hv : ((walkOf w a ep es).toList.map (·.2))[i]? = some v)
    (h : ∀ h', h'.get? I = some (setIt w a ns ep (i + 1) (.ref a)) → Heap.SameBut I s.heap h' → Q (some v) { s with heap := h' }) : wpAny (model prog w) A (pyNext (.ref I)) Q E s := by
  obtain ⟨es', ep', t', d, p, q1, q2, q3, f⟩ := hs.fits
  rw [hd] at d
  cases d
  have hT : s.TypeIs (.ref I) "set_iterator" := ⟨_, hI, rfl⟩
  unfold pyNext
  refine wpAny_bind (wpAny_attempt (wpAny_callSpecial?_slot (name := Str.ofString "__next__") hT slot_seti_next (wpAny_call_entry slot_seti_next hT entry_seti_next ?_ (args_seti_next _))))
  unfold Builtin.«set_iterator.__next__» slotArgs
  dsimp only [List.isEmpty_nil, Bool.not_true, List.length_nil]
  rw [if_neg (by decide), if_neg (by decide)]
  refine wpAny_bind (wpAny_bind (wpAny_pure (wpAny_pure ?_)))
  refine wpAny_bind (wpAny_fieldsOf hI rfl ?_)
  dsimp only
  refine wpAny_bind (wpAny_setEntries_of ho hd f ?_)
  have hsz := pe_size p
  have e1 : (((es.size : Nat) : Int) != ((ns.length : Nat) : Int)) = false := by rw [hsz]; simp
  rw [e1]
  simp only [Bool.false_eq_true, ↓reduceIte, rawInt, Int.toNat_natCast]
  rw [List.getElem?_map, Array.getElem?_toList] at hv
  refine wpAny_bind (setNext_of ho hd hs (Nat.le_of_lt hi) ?_)
  cases hw : (walkOf w a ep es)[i]? with
  | none => rw [hw] at hv; cases hv
  | some e =>
    rw [hw] at hv
    cases hv
    dsimp only [Option.map]
    refine wpAny_bind (wpAny_setField hI rfl (by simp) ?_)
    have z := Heap.get?_update_self (Obj.mapFields (·.setIfInBounds 0 (rawInt (slotAt w ns (i + 1))))) hI rfl
    refine wpAny_bind (wpAny_setField z rfl (by simp [setIt]) ?_)
    refine wpAny_pure ⟨_, rfl, wpAny_pure (h _ ?_ ((Heap.SameBut.update ..).trans (Heap.SameBut.update ..)))⟩
    exact setIt_step hI rfl (by simp [rawInt])
theorem pyNext_set_end {es : Array (Int × Value)} {ep : Nat} {t : SetTable} {I : Addr} {Q : Option Value → Shared → Prop} (hh : A.handled = none) (ho : s.heap.get? a = some o) (hd : o.data = .set es ep t) (hs : SetO w o ns)
    (hI : s.heap.get? I = some (setIt w a ns ep ns.length (.ref a)))
    (h : ∀ h', Heap.ExtBut I s.heap h' → Q none { s with heap := h' }) : wpAny (model prog w) A (pyNext (.ref I)) Q E s := by
  obtain ⟨es', ep', t', d, p, q1, q2, q3, f⟩ := hs.fits
  rw [hd] at d
  cases d
  have hT : s.TypeIs (.ref I) "set_iterator" := ⟨_, hI, rfl⟩
  unfold pyNext
  refine wpAny_bind (wpAny_attempt (wpAny_callSpecial?_slot (name := Str.ofString "__next__") hT slot_seti_next (wpAny_call_entry slot_seti_next hT entry_seti_next ?_ (args_seti_next _))))
  unfold Builtin.«set_iterator.__next__» slotArgs
  dsimp only [List.isEmpty_nil, Bool.not_true, List.length_nil]
  rw [if_neg (by decide), if_neg (by decide)]
  refine wpAny_bind (wpAny_bind (wpAny_pure (wpAny_pure ?_)))
  refine wpAny_bind (wpAny_fieldsOf hI rfl ?_)
  dsimp only
  refine wpAny_bind (wpAny_setEntries_of ho hd f ?_)
  have hsz := pe_size p
  have e1 : (((es.size : Nat) : Int) != ((ns.length : Nat) : Int)) = false := by rw [hsz]; simp
  rw [e1]
  simp only [Bool.false_eq_true, ↓reduceIte, rawInt, Int.toNat_natCast]
  refine wpAny_bind (setNext_of ho hd hs (Nat.le_refl _) ?_)
  have hw : (walkOf w a ep es)[ns.length]? = none := by
    rw [← Array.getElem?_toList]
    refine List.getElem?_eq_none ?_
    rw [(walk_perm w a ep es).length_eq, Array.length_toList, hsz]
    exact Nat.le_refl _
  rw [hw]
  dsimp only [Option.map]
  refine wpAny_bind (wpAny_setField hI rfl (by simp) ?_)
  show wpAny _ _ (newExc (.type "StopIteration") [] >>= _) _ _ _
  refine wpAny_bind ?_
  simp only [newExc, newTuple]
  refine wpAny_bind (wpAny_newObj_type ?_ (by size_fits))
  refine wpAny_bind (m := firstArgMember _ _) (wpAny_of_eq (a := Value.none) (by first | rfl | (simp only [firstArgMember]; rfl)) ?_)
  refine wpAny_newObj_type ?_ (by size_fits)
  simp only [raiseNew]
  refine wpAny_bind (wpAny_handled ?_)
  rw [show A.in1.handled = none from hh]
  refine wpAny_bind (wpAny_pure (wpAny_throw ?_))
  refine wpAny_bind (wpAny_isInstance (T := "StopIteration") (b := true) ⟨_, Heap.get?_push_size _ rfl, rfl⟩ isSubtype_stop ?_)
  exact wpAny_pure (h _ (((Heap.SameBut.update ..).extBut.push _).push _))
theorem pyIter_seti {I : Addr} {ep i : Nat} {src : Value} {Q : Value → Shared → Prop} (hI : s.heap.get? I = some (setIt w a ns ep i src)) (h : Q (.ref I) s) : wpAny (model prog w) A (pyIter (.ref I)) Q E s := by
  have hT : s.TypeIs (.ref I) "set_iterator" := ⟨_, hI, rfl⟩
  refine wpAny_pyIter_slot hT slot_seti_iter (wpAny_call_entry slot_seti_iter hT entry_seti_iter ?_ (args_seti_iter _))
  show wpAny _ _ (ret (.ref I)) _ _ s
  exact wpAny_pure ⟨_, rfl, "set_iterator", _, hT, slot_seti_next.lookup, h⟩
theorem walks_set {es : Array (Int × Value)} {ep : Nat} {t : SetTable} {I : Addr} (hh : A.handled = none) (hd : o.data = .set es ep t) (hs : SetO w o ns) (hne : a ≠ I) :
    Walks prog w A I [I, a] [I] ns.length (fun i v => ((walkOf w a ep es).toList.map (·.2))[i]? = some v) (fun i h => h.get? I = some (setIt w a ns ep i (.ref a)) ∧ h.get? a = some o) where
  sub := fun b hb => by simp at hb; simp [hb]
  frame := fun _ _ _ st hk => ⟨hk I (by simp) _ st.1, hk a (by simp) _ st.2⟩
  item := fun i s Q E hi st hQ => by
    have hz : ((walkOf w a ep es).toList.map (·.2)).length = ns.length := by
      obtain ⟨es', ep', t', d, p, _⟩ := hs.fits
      rw [hd] at d
      cases d
      rw [List.length_map, (walk_perm w a ep es).length_eq, Array.length_toList, pe_size p]
    have hlt : i < ((walkOf w a ep es).toList.map (·.2)).length := by omega
    refine pyNext_set_item st.2 hd hs st.1 hi (List.getElem?_eq_getElem hlt) fun h' hi' hb => ?_
    exact hQ _ h' s.toks (List.getElem?_eq_getElem hlt) ⟨hi', (hb.2 a hne).trans st.2⟩ fun b o' hb' e => (hb.2 b (fun q => hb' (by simp [q]))).trans e
  done := fun s Q E st hQ => pyNext_set_end hh st.2 hd hs st.1 fun h' he => hQ h' s.toks fun b o' hb e => he b o' (fun q => hb (by simp [q])) e
  self := fun _ _ _ _ st hQ => pyIter_seti st.1 hQ
theorem walk_items {es : Array (Int × Value)} {ep : Nat} {t : SetTable} (hd : o.data = .set es ep t) (hs : SetO w o ns) :
    ∃ ms, ms.Perm ns ∧ Paired IntOf ((walkOf w a ep es).toList.map (·.2)) ms := by
  obtain ⟨es', ep', t', d, p, _⟩ := hs.fits
  rw [hd] at d
  cases d
  obtain ⟨ms, q, r⟩ := paired_perm p (walk_perm w a ep es)
  exact ⟨ms, q, paired_vals r⟩
end
end
section
open PySem PySem.W PySem.Calls PyProof.Rows PySem.Spec
set_option maxRecDepth 100000
theorem paired_take {α β : Type} {F : α → β → Prop} : ∀ {l₁ : List α} {l₂ : List β}, Paired F l₁ l₂ → ∀ n, Paired F (l₁.take n) (l₂.take n)
  | _, _, .nil, n => by simpa using Paired.nil
  | _, _, .cons h r, 0 => by simpa using Paired.nil
  | _, _, .cons h r, n + 1 => by simpa using Paired.cons h (paired_take r n)
theorem paired_drop {α β : Type} {F : α → β → Prop} : ∀ {l₁ : List α} {l₂ : List β}, Paired F l₁ l₂ → ∀ n, Paired F (l₁.drop n) (l₂.drop n)
  | _, _, .nil, n => by simpa using Paired.nil
  | _, _, .cons h r, 0 => by simpa using Paired.cons h r
  | _, _, .cons h r, n + 1 => by simpa using paired_drop r n
theorem paired_append {α β : Type} {F : α → β → Prop} : ∀ {l₁ : List α} {l₂ : List β} {k₁ : List α} {k₂ : List β}, Paired F l₁ l₂ → Paired F k₁ k₂ → Paired F (l₁ ++ k₁) (l₂ ++ k₂)
  | _, _, _, _, .nil, h => h
  | _, _, _, _, .cons h r, k => .cons h (paired_append r k)
theorem paired_mono {α β : Type} {F G : α → β → Prop} (h : ∀ a b, F a b → G a b) : ∀ {l₁ : List α} {l₂ : List β}, Paired F l₁ l₂ → Paired G l₁ l₂
  | _, _, .nil => .nil
  | _, _, .cons x r => .cons (h _ _ x) (paired_mono h r)
theorem paired_fst : ∀ {es : List (Int × Value)} {ns : List Nat}, Paired EntOf es ns → es.map (·.1) = ns.map fun (n : Nat) => (n : Int)
  | _, _, .nil => rfl
  | _, _, .cons h r => by simp [h.1, paired_fst r]
theorem ent_none {prog : Program} {w : World} {es : List (Int × Value)} {ns : List Nat} {x : Nat} (p : Paired EntOf es ns) (hx : x ∉ ns) : es.findIdx? (fun e => (intKind prog w).is (x : Int) e.2) = none := by
  rw [List.findIdx?_eq_none_iff]
  intro e he
  cases q : (intKind prog w).is (x : Int) e.2 with
  | false => rfl
  | true =>
    obtain ⟨n, hn, e2⟩ := (ent_has (prog := prog) (w := w) (x : Int) p).mp ⟨e, he, q⟩
    exact absurd (by rw [← Int.ofNat_inj.mp e2]; exact hn) hx
theorem len_of_not_full : ∀ ns ∈ subs5, ns ≠ [0, 1, 2, 3, 4] → ns.length ≤ 4 := by decide +kernel
theorem map_full {es : Array (Int × Value)} (p : Paired EntOf es.toList [0, 1, 2, 3, 4]) : es.map (·.1) = #[0, 1, 2, 3, 4] := by
  apply Array.ext'
  rw [Array.toList_map, paired_fst p]
  rfl
theorem order_full {es : Array (Int × Value)} (p : Paired EntOf es.toList [0, 1, 2, 3, 4]) : (#[0, 1, 2, 3, 4] : Array Nat).filterMap (fun i => es[i]?) = es := by
  apply Array.ext'
  have := filterMap_getElem?_range es
  rw [pe_size p] at this
  rw [Array.toList_filterMap]
  exact this
theorem relay_full {es : Array (Int × Value)} {led : Bool} (p : Paired EntOf es.toList [0, 1, 2, 3, 4]) : relayAll (tab 7 0 led [0, 1, 2, 3, 4]) es (SetTable.grown es.size) = (es, tab 31 1 led [0, 1, 2, 3, 4], false) := by
  have hz : es.size = 5 := pe_size p
  unfold relayAll
  rw [map_full p, hz, lay2 led]
  dsimp only
  rw [order_full p, hz]
  rfl
section
variable {prog : Program} {w : World} {A : Around} {E : Value → Shared → Prop} {s : Shared} {a : Addr} {o : Obj} {ns : List Nat}
theorem layNew_N {es : Array (Int × Value)} {led : Bool} {x : Nat} {v : Value} (p : Paired EntOf es.toList ns) (hns : ns ∈ subs5) (hx : x ∈ [0, 1, 2, 3, 4]) (hn : x ∉ ns) :
    layNew (tab 7 0 led ns) es (x : Int) v = (SetTable.insertAt es (posOf x ns) ((x : Int), v), tab 7 0 led (ins x ns), false, false) ∧ Paired (fun e n => EntOf e n ∨ e = ((x : Int), v) ∧ n = x) (SetTable.insertAt es (posOf x ns) ((x : Int), v)).toList (ins x ns) := by
  obtain ⟨h1, h2, h3, h4, h5, h6, _⟩ := lay1 led ns hns x hx hn
  have hp : Paired (fun e n => EntOf e n ∨ e = ((x : Int), v) ∧ n = x) (SetTable.insertAt es (posOf x ns) ((x : Int), v)).toList (ins x ns) := by
    rw [SetTable.toList_insertAt]
    unfold ins
    rw [← h5, ← h6]
    have wk : ∀ {l₁ : List (Int × Value)} {l₂ : List Nat}, Paired EntOf l₁ l₂ → Paired (fun e n => EntOf e n ∨ e = ((x : Int), v) ∧ n = x) l₁ l₂ := by
      intro l₁ l₂ h
      induction h with
      | nil => exact .nil
      | cons h _ ih => exact .cons (.inl h) ih
    exact paired_append (wk (paired_take p _)) (.cons (.inr ⟨rfl, rfl⟩) (wk (paired_drop p _)))
  refine ⟨?_, hp⟩
  have hz : (SetTable.insertAt es (posOf x ns) ((x : Int), v)).size = (ins x ns).length := by
    rw [← Array.length_toList, hp.length]
  unfold layNew
  rw [h1]
  dsimp only
  rw [h2]
  dsimp only
  unfold SetTable.orStandIn
  rw [hz, h4]
  rfl
theorem setAdd_N {x : Nat} {t : Tok} {Q : Bool → Shared → Prop} (ho : s.heap.get? a = some o) (hs : SetN w o ns) (hx : x ∈ [0, 1, 2, 3, 4]) (hn : x ∉ ns)
    (h : ∀ h' o', Heap.SameBut a s.heap h' → h'.get? a = some o' → SetN w o' (ins x ns) → Q true { s with heap := h' }) : wpAny (model prog w) A (setAddHashed a (.int (x : Int) t) (hashInt (x : Int))) Q E s := by
  obtain ⟨hex, hns, es, ep, mask, mv, hd, p, hm⟩ := id hs
  obtain ⟨_, _, hi5, _, _, _, hl4⟩ := lay1 true ns hns x hx hn
  have hm' : mask = 7 ∧ mv = 0 := by
    rcases hm with h | ⟨h, _⟩
    · exact ⟨h.1, h.2.1⟩
    · rw [h] at hl4; exact absurd hl4 (by decide)
  obtain ⟨rfl, rfl⟩ := hm'
  have hsz := pe_size p
  have h5 := subs5_len ns hns
  have hel := ent_elems (prog := prog) (w := w) p (subs5_mem ns hns)
  have hf : (tab 7 0 (noText w) ns).fits es.size = true := by
    obtain ⟨es', ep', t', d, p', q1, q2, q3, f⟩ := hs.toO.fits
    rw [hd] at d
    cases d
    exact f
  unfold setAddHashed setAddHashedIn
  refine wpAny_holding (wpAny_bind (wpAny_setState_of ho hd hf ?_))
  dsimp only
  rw [byScan_of (knd := intKind prog w) (x := .int (x : Int) t) rfl (by rw [hsz]; unfold scanBound; omega) hel]
  simp only [↓reduceIte]
  unfold setAddByScan
  refine wpAny_bind ?_
  refine wpAny_bind (wpAny_rule ?_)
  refine wpAny_bind (wpAny_setScan_of (knd := intKind prog w) (k := (x : Int)) (intKind_is prog w _ _) ho hd hf hel ?_)
  rw [ent_none p hn]
  dsimp only
  rw [hash5 x hx]
  obtain ⟨hlay, hp2⟩ := layNew_N (led := noText w) (v := .int (x : Int) t) p hns hx hn
  rw [hlay]
  dsimp only
  refine wpAny_bind (wpAny_pure ?_)
  have hp3 : Paired EntOf (SetTable.insertAt es (posOf x ns) ((x : Int), Value.int (x : Int) t)).toList (ins x ns) := by
    refine paired_mono (fun e n he => ?_) hp2
    rcases he with he | ⟨rfl, rfl⟩
    · exact he
    · exact ⟨rfl, t, rfl⟩
  generalize hes1 : SetTable.insertAt es (posOf x ns) ((x : Int), Value.int (x : Int) t) = es1 at hp3
  have hsz1 := pe_size hp3
  have h51 := subs5_len _ hi5
  have hz1 : es1.size ≤ sizeLine := fits_of_scanBound (by unfold scanBound; omega)
  simp only [tab, ↓reduceIte]
  refine wpAny_bind ?_
  rw [hashByValue_scannable 8 (x := .int (x : Int) t) rfl]
  refine wpAny_pure ?_
  dsimp only [plainKind]
  simp only [↓reduceIte]
  refine wpAny_bind (wpAny_storeSet_of ho hd ?_ hz1)
  have g1 : (s.heap.update a (Obj.putSet es1 (tab 7 0 (noText w) (ins x ns)))).get? a = some { o with data := .set es1 (ep + 1) (tab 7 0 (noText w) (ins x ns)) } := by
    have := Heap.get?_update_self (Obj.putSet es1 (tab 7 0 (noText w) (ins x ns))) ho (by rw [putSet_of es1 _ hd]; rfl)
    rw [putSet_of es1 _ hd] at this; exact this
  have hfull := lay3 (noText w) _ hi5
  have hE := Heap.SameBut.update s.heap a (Obj.putSet es1 (tab 7 0 (noText w) (ins x ns)))
  change wpAny _ _ (if (!false && (tab 7 0 (noText w) (ins x ns)).tooFull) = true then _ else _) _ _ { s with heap := s.heap.update a (Obj.putSet es1 (tab 7 0 (noText w) (ins x ns))) }
  rw [hfull]
  by_cases hc : ins x ns = [0, 1, 2, 3, 4]
  · simp only [hc, decide_true, Bool.not_false, Bool.and_self, ↓reduceIte]
    have hr := relay_full (led := noText w) (hc ▸ hp3)
    rw [hc] at g1 hE
    unfold tab at hr
    rw [hr]
    dsimp only
    refine wpAny_bind (wpAny_pure ?_)
    refine wpAny_bind (wpAny_storeSet_of g1 rfl ?_ hz1)
    have g2 := Heap.get?_update_self (Obj.putSet es1 (tab 31 1 (noText w) [0, 1, 2, 3, 4])) g1 (by rw [putSet_of es1 _ rfl]; rfl)
    rw [putSet_of es1 _ rfl] at g2
    refine wpAny_pure (wpAny_pure (h _ _ (hE.trans (Heap.SameBut.update _ a _)) g2 ⟨hex, hi5, es1, ep + 1 + 1, 31, 1, by rw [hc], hp3, .inr ⟨hc, .inl rfl, rfl⟩⟩))
  · simp only [decide_eq_false hc, Bool.and_false, Bool.false_eq_true, ↓reduceIte]
    refine wpAny_pure (wpAny_pure (h _ _ hE g1 ⟨hex, hi5, es1, _, 7, 0, rfl, hp3, .inl ⟨rfl, rfl, ?_⟩⟩))
    exact len_of_not_full _ hi5 hc
end
end
section
open PySem PySem.W PySem.Calls PyProof.Rows PySem.Spec
set_option maxRecDepth 100000
def setOf (xs : List Nat) : List Nat := xs.foldl (fun acc x => ins x acc) []
theorem setOf_snoc (xs : List Nat) (x : Nat) : setOf (xs ++ [x]) = ins x (setOf xs) := by
  unfold setOf; rw [List.foldl_append]; rfl
theorem mem_ins {x y : Nat} {ns : List Nat} : y ∈ ins x ns ↔ y = x ∨ y ∈ ns := by
  unfold ins
  simp only [List.mem_append, List.mem_filter, List.mem_cons, decide_eq_true_eq]
  constructor
  · rintro (h | h | h)
    · exact .inr h.1
    · exact .inl h
    · exact .inr h.1
  · rintro (rfl | h)
    · exact .inr (.inl rfl)
    · rcases Nat.lt_trichotomy y x with q | q | q
      · exact .inl ⟨h, q⟩
      · exact .inr (.inl q)
      · exact .inr (.inr ⟨h, q⟩)
theorem mem_fold {y : Nat} : ∀ (xs acc : List Nat), y ∈ xs.foldl (fun acc x => ins x acc) acc ↔ y ∈ xs ∨ y ∈ acc
  | [], acc => by simp
  | x :: xs, acc => by
    rw [List.foldl_cons, mem_fold xs, mem_ins]
    simp only [List.mem_cons]
    constructor
    · rintro (h | h | h) <;> simp [h]
    · rintro ((h | h) | h) <;> simp [h]
theorem mem_setOf {y : Nat} {xs : List Nat} : y ∈ setOf xs ↔ y ∈ xs := by
  unfold setOf; rw [mem_fold]; simp
theorem setOf_sub : ∀ (i : Nat) (xs : List Nat), xs.length = i → xs.Nodup → (∀ x ∈ xs, x ∈ [0, 1, 2, 3, 4]) → setOf xs ∈ subs5
  | 0, xs, h, _, _ => by
    have : xs = [] := List.eq_nil_of_length_eq_zero h
    subst this
    decide
  | i + 1, xs, h, hn, h5 => by
    have hne : xs ≠ [] := by intro e; rw [e] at h; cases h
    have e := (List.dropLast_concat_getLast hne).symm
    have hd : (xs.dropLast ++ [xs.getLast hne]).Nodup := e ▸ hn
    have ih := setOf_sub i xs.dropLast (by rw [List.length_dropLast, h]; rfl) (List.nodup_append.mp hd).1 fun x hx => h5 x (List.dropLast_subset _ hx)
    rw [e, setOf_snoc]
    have hx5 : xs.getLast hne ∈ [0, 1, 2, 3, 4] := h5 _ (List.getLast_mem hne)
    have hnot : xs.getLast hne ∉ setOf xs.dropLast := fun q => by
      rw [mem_setOf] at q
      exact (List.nodup_append.mp hd).2.2 _ q _ (List.mem_singleton.mpr rfl) rfl
    exact (lay1 true _ ih _ hx5 hnot).2.2.1
section
variable {prog : Program} {w : World} {A : Around} {R : Result → Shared → Prop} {I : Addr} {fp wr : List Addr} {G : Array GenState → Array GenState → Prop} {n : Nat} {P : Nat → Value → Prop} {St : Nat → Shared → Prop}
theorem loop_N (W : WalksS prog w A.in1 I fp wr G n P St) (S : Addr) (hSf : S ∉ fp) (xs : List Nat) (hl : xs.length = n) (hnd : xs.Nodup) (h5 : ∀ x ∈ xs, x ∈ [0, 1, 2, 3, 4])
    (hval : ∀ i v, P i v → ∃ x, xs[i]? = some x ∧ IntOf v x) :
    ∀ (k i : Nat) (s : Shared), n - i = k → i ≤ n → St i s → (∃ o, s.heap.get? S = some o ∧ SetN w o (setOf (xs.take i))) →
      (∀ s', Moved (S :: wr) G s s' → (∃ o, s'.heap.get? S = some o ∧ SetN w o (setOf xs)) → R (.ok (.ret .none)) s') →
      codeAny (model prog w) A (.builtin "set.update.loop" ⟨[.ref S, .ref I], []⟩) R s := by
  have hSw : S ∉ wr := fun h => hSf (W.sub _ h)
  have hsub : ∀ b ∈ wr, b ∈ S :: wr := fun b hb => List.mem_cons_of_mem _ hb
  intro k
  induction k with
  | zero =>
    intro i s hk hi hst hS hR
    have hin : i = n := by omega
    subst hin
    refine codeAny_builtin F.entry_set_update_loop ?_
    rw [Around.under_plainId F.plain_set_update_loop _]
    show wpAny _ A.in1 (pyNext (.ref I) >>= _) _ _ s
    refine wpAny_bind (W.done s _ _ hst fun s' hm => ?_)
    show wpAny _ A.in1 (ret Value.none) _ _ s'
    refine wpAny_pure (hR s' (hm.mono hsub) ?_)
    obtain ⟨o, ho, hs⟩ := hS
    rw [← hl, List.take_length] at hs
    exact ⟨o, hm.heap S _ hSw ho, hs⟩
  | succ k ih =>
    intro i s hk hi hst hS hR
    have hlt : i < n := by omega
    refine codeAny_builtin F.entry_set_update_loop ?_
    rw [Around.under_plainId F.plain_set_update_loop _]
    show wpAny _ A.in1 (pyNext (.ref I) >>= _) _ _ s
    refine wpAny_bind (W.item i s _ _ hlt hst fun v s' hP hst' hm => ?_)
    obtain ⟨x, hx, t, rfl⟩ := hval i v hP
    obtain ⟨o, ho, hs⟩ := hS
    have ho' := hm.heap S _ hSw ho
    show wpAny _ A.in1 (holding [Value.int (x : Int) t] (setAdd S (.int (x : Int) t)) >>= _) _ _ s'
    refine wpAny_bind (wpAny_holding ?_)
    unfold setAdd
    refine wpAny_holding ?_
    refine wpAny_bind ((intKind prog w).pyHash (k := (x : Int)) (intKind_is _ _ _ _) ?_)
    have hxm : x ∈ xs := List.mem_of_getElem? hx
    have hnot : x ∉ setOf (xs.take i) := fun q => by
      rw [mem_setOf] at q
      have e0 : xs.take i ++ xs.drop i = xs := List.take_append_drop i xs
      have hd : (xs.take i ++ xs.drop i).Nodup := by rw [e0]; exact hnd
      have hm2 : x ∈ xs.drop i := List.mem_of_getElem? (i := 0) (by rw [List.getElem?_drop]; exact hx)
      exact (List.nodup_append.mp hd).2.2 x q x hm2 rfl
    refine setAdd_N (s := { s' with toks := s'.toks + 1 }) ho' hs (h5 x hxm) hnot fun h' o' hsb hg hN => ?_
    have hSi : setOf (xs.take (i + 1)) = ins x (setOf (xs.take i)) := by
      rw [List.take_add_one, hx]
      exact setOf_snoc _ _
    refine wpAny_pure ⟨plainId_quiet F.plain_set_update_loop _, ih (i + 1) _ (by omega) hlt (W.frame _ s' _ _ hst' (Nat.le_succ _) fun b hb o e => ?_) ⟨o', hg, hSi ▸ hN⟩ fun s'' hm'' hS'' => ?_⟩
    · rw [hsb.2 b (fun h : b = S => hSf (by rw [← h]; exact hb))]; exact e
    · refine hR s'' (Moved.trans W.gtrans ((hm.mono hsub).then_heap (Nat.le_succ _) fun b o hb e => ?_) hm'') hS''
      rw [hsb.2 b (fun h : b = S => hb (by rw [h]; exact List.mem_cons_self))]; exact e
end
end
section
open PySem PySem.W PySem.Calls PyProof.Rows PySem.Spec
set_option maxRecDepth 100000
abbrev newSetO (w : World) : Obj := { cls := .type "set", dict := none, data := .set #[] 0 (.fresh 0 0 (noText w)) }
theorem newSetO_N (w : World) : SetN w (newSetO w) [] := ⟨⟨rfl, rfl, rfl⟩, by decide, #[], 0, 7, 0, rfl, .nil, .inl ⟨rfl, rfl, by decide⟩⟩
section
variable {prog : Program} {w : World} {A : Around} {E : Value → Shared → Prop} {s : Shared}
theorem code_set_newW (a : Value) {Q₁ : Value → Shared → Prop} (h : Q₁ (.ref s.heap.objs.size) { s with heap := s.heap.push (newSetO w) }) :
    codeAny (model prog w) A (.call (.builtin "set.__new__") ⟨[.type "set", a], []⟩) (wants Q₁ E) s := by
  refine codeAny_of_tree ?_
  show wpAny _ A.in1 (do checkBuiltinCall "set.__new__" ⟨[.type "set", a], []⟩; again (.builtin "set.__new__" ⟨[.type "set", a], []⟩)) _ _ s
  refine wpAny_bind (wpAny_of_eq (F.newCall_set_1 a) (wpAny_pure ⟨plainId_quiet F.plain_set_new _, codeAny_builtin F.entry_set_new ?_⟩))
  rw [Around.under_plainId F.plain_set_new _]
  unfold Builtin.«set.__new__» Builtin.Frozenset.newClass
  have hsub := sub_set_self
  obtain ⟨hp, g, d, tk, os⟩ := s
  dsimp only
  wp_walk
  refine wpAny_askSetting (wpAny_pure ?_)
  dsimp only
  simp only [newObj]
  refine wpAny_bind (wpAny_alloc (wpAny_pure ?_))
  exact wpAny_pure h
set_option maxHeartbeats 3200000 in
theorem call_set_any {l : Value} {T : Addr → Heap → Prop} {Q : Value → Shared → Prop}
    (hinit : ∀ (A' : Around) (Q' : PySem.Fin → Shared → Prop), A'.handled = A.handled → A'.depth = A.depth →
      (∀ h' tk, T s.heap.objs.size h' → (∀ b o, b < s.heap.objs.size → s.heap.get? b = some o → h'.get? b = some o) → Q' (.done (.ret .none)) { s with heap := h', toks := tk }) →
      wpAny (model prog w) A' (Builtin.«set.__init__» ⟨[.ref s.heap.objs.size, l], []⟩) Q' E { s with heap := s.heap.push (newSetO w) })
    (h : ∀ (h' : Heap) (tk : Nat), T s.heap.objs.size h' → (∀ b o, b < s.heap.objs.size → s.heap.get? b = some o → h'.get? b = some o) → Q (.ref s.heap.objs.size) { s with heap := h', toks := tk }) :
    wpAny (model prog w) A (call (.type "set") [l]) Q E s := by
  obtain ⟨c, tl, hmro⟩ := F.called_set.mro
  have hmade := F.called_set.made
  have hsub := F.called_set.sub
  refine wpAny_call (codeAny_of_tree ?_)
  show wpAny _ _ (callAny (.type "set") _) _ _ _
  refine wpAny_pure ⟨Code.quiet_builtin _ (by decide +kernel), codeAny_builtin F.entry_type_call ?_⟩
  rw [Around.under_plain (weight_type_call_type "set" [l] []) rfl]
  have h1 := F.called_set.notType
  have h2 := F.called_set.canCreate
  have hct := F.typeCall_set_1 l
  repeat (any_goals (first | assumption | wp_step))
  refine codeAny_mono (code_set_newW l (E := E) (Q₁ := fun obj s₁ => obj = .ref s.heap.objs.size ∧ s₁ = { s with heap := s.heap.push (newSetO w) }) ⟨rfl, rfl⟩) fun r s₁ hr => ?_
  cases r with
  | error e => exact hr
  | ok fl =>
    cases fl with
    | ret obj =>
      obtain ⟨rfl, rfl⟩ := hr
      have hS : (s.heap.push (newSetO w)).get? s.heap.objs.size = some (newSetO w) := Heap.get?_push_size _ rfl
      have hT : Shared.TypeIs { s with heap := s.heap.push (newSetO w) } (.ref s.heap.objs.size) "set" := ⟨_, hS, rfl⟩
      have hli := F.called_set.init.lookup
      have hbi := F.called_set.init.bind (.ref s.heap.objs.size)
      repeat (any_goals (first | assumption | wp_step))
      refine codeAny_mono (codeAny_call_builtin (R := wants (fun r s₂ => r = .none ∧ ∃ h' tk, s₂ = { s with heap := h', toks := tk } ∧ T s.heap.objs.size h' ∧
          (∀ b o, b < s.heap.objs.size → s.heap.get? b = some o → h'.get? b = some o)) E) F.called_set.init.plain F.entry_set_init (check_set_init_1 hT ?_)) fun r₂ s₂ hr₂ => ?_
      · refine hinit _ _ rfl rfl fun h' tk hT' hk => ?_
        exact ⟨rfl, h', tk, rfl, hT', hk⟩
      · cases r₂ with
        | error e => exact hr₂
        | ok fl₂ =>
          cases fl₂ with
          | ret r =>
            obtain ⟨rfl, h', tk, rfl, hT', hk'⟩ := hr₂
            repeat (any_goals (first | assumption | wp_step))
            exact h _ _ hT' hk'
          | _ => exact hr₂.elim
    | _ => exact hr.elim
end
end
section
open PySem PySem.W PySem.Calls PyProof.Rows PySem.Spec
set_option maxRecDepth 100000
theorem paired_at {α β : Type} {F : α → β → Prop} : ∀ {l₁ : List α} {l₂ : List β}, Paired F l₁ l₂ → ∀ {i : Nat} {v : α}, l₁[i]? = some v → ∃ x, l₂[i]? = some x ∧ F v x
  | _, _, .nil, i, v, h => by simp at h
  | _, _, .cons a r, 0, v, h => by simp at h; subst h; exact ⟨_, rfl, a⟩
  | _, _, .cons a r, i + 1, v, h => by
    obtain ⟨x, e, f⟩ := paired_at r (i := i) (v := v) (by simpa using h)
    exact ⟨x, by simpa using e, f⟩
section
variable {prog : Program} {w : World} {A : Around} {E : Value → Shared → Prop} {s : Shared}
theorem init_list {l : Addr} {items : Array Value} {xs : List Nat} {Q' : PySem.Fin → Shared → Prop} (hh : A.handled = none) (hl : s.heap.IsList l items) (hi : Paired IntOf items.toList xs) (hnd : xs.Nodup) (h5 : ∀ x ∈ xs, x ∈ [0, 1, 2, 3, 4])
    (h : ∀ h' tk, (∃ o, h'.get? s.heap.objs.size = some o ∧ SetN w o (setOf xs)) → (∀ b o, b < s.heap.objs.size → s.heap.get? b = some o → h'.get? b = some o) → Q' (.done (.ret .none)) { s with heap := h', toks := tk }) :
    wpAny (model prog w) A (Builtin.«set.__init__» ⟨[.ref s.heap.objs.size, .ref l], []⟩) Q' E { s with heap := s.heap.push (newSetO w) } := by
  have hS : (s.heap.push (newSetO w)).get? s.heap.objs.size = some (newSetO w) := Heap.get?_push_size _ rfl
  have hT : Shared.TypeIs { s with heap := s.heap.push (newSetO w) } (.ref s.heap.objs.size) "set" := ⟨_, hS, rfl⟩
  obtain ⟨ol, hol, hcl, nl, hdl⟩ := hl
  obtain ⟨ocls, odict, odata, oslots⟩ := ol
  simp only at hcl hdl
  subst hcl; subst hdl
  have hol' : (s.heap.push (newSetO w)).get? l = some { cls := .type "list", dict := odict, data := .seq items nl, slots := oslots } := Heap.get?_push_of_some _ hol
  have hsls := F.sub_list_set
  have hslf := F.sub_list_frozenset
  have hne : (Value.type "list" == Value.type "dict") = false := by decide
  have hl1 : (s.heap.push (newSetO w)).IsList l items := ⟨_, hol', rfl, nl, rfl⟩
  unfold Builtin.«set.__init__» noKeywords Builtin.Frozenset.updateFrom
  generalize hPI : pyIter = PI
  wp_walk
  subst hPI
  refine wpAny_pyIter_list hl1 ?_
  refine wpAny_bind (wpAny_runValue ?_)
  have hlS : l < s.heap.objs.size := Heap.lt_size hol
  have hh3 : A.in1.handled = none := by simp [hh]
  have hneI : l ≠ (s.heap.push (newSetO w)).objs.size := by
    rw [Heap.size_push]; exact Nat.ne_of_lt (Nat.lt_succ_of_lt hlS)
  have hSf : s.heap.objs.size ∉ [(s.heap.push (newSetO w)).objs.size, l] := by
    rw [Heap.size_push]; simp only [List.mem_cons, List.mem_singleton, List.not_mem_nil, or_false, not_or]
    exact ⟨Nat.ne_of_lt (Nat.lt_succ_self _), Nat.ne_of_gt hlS⟩
  have hlen : xs.length = items.size := by rw [← hi.length, Array.length_toList]
  have hval : ∀ (i : Nat) (v : Value), items[i]? = some v → ∃ x, xs[i]? = some x ∧ IntOf v x := fun i v hv => paired_at hi (by rw [Array.getElem?_toList]; exact hv)
  refine loop_N ((Walks.list hh3 _ l hneI items).toS) s.heap.objs.size hSf xs hlen hnd h5 hval (items.size - 0) 0 _ (by omega) (Nat.zero_le _)
    ⟨⟨_, Heap.get?_push_size _ rfl, rfl, rfl⟩, (hl1.push _)⟩ ⟨newSetO w, Heap.get?_push_of_some _ hS, newSetO_N w⟩ ?hR
  intro s' hm hS'
  obtain ⟨h', g', d', tk', os'⟩ := s'
  have eg : g' = s.gens := hm.gens
  have ed : d' = s.drawn := hm.drawn
  have eo : os' = s.os := hm.os
  subst eg; subst ed; subst eo
  show wpAny _ _ _ _ _ _
  refine wpAny_pure ?_
  show wpAny _ _ (ret Value.none) _ _ _
  refine wpAny_pure (h h' tk' hS' fun b o hb e => ?_)
  have hb1 : b ≠ s.heap.objs.size := Nat.ne_of_lt hb
  have hb2 : b ≠ (s.heap.push (newSetO w)).objs.size := by
    rw [Heap.size_push]; exact Nat.ne_of_lt (Nat.lt_succ_of_lt hb)
  exact hm.heap b o (by simp only [List.mem_cons, List.mem_singleton, List.not_mem_nil, or_false, not_or]; exact ⟨hb1, hb2⟩) (Heap.get?_push_of_some _ (Heap.get?_push_of_some _ e))
end
end
section
open PySem PySem.W PySem.Calls PyProof.Rows PySem.Spec
set_option maxRecDepth 100000
section
variable {prog : Program} {w : World} {A : Around} {E : Value → Shared → Prop} {s : Shared}
theorem SetN.fitsN {w : World} {o : Obj} {ns : List Nat} (x : SetN w o ns) : ∃ es ep mask mv, o.data = .set es ep (tab mask mv (noText w) ns) ∧ Paired EntOf es.toList ns ∧ (tab mask mv (noText w) ns).fits es.size = true ∧ ((mask = 7 ∧ mv = 0 ∧ ns.length ≤ 4) ∨ (ns = [0, 1, 2, 3, 4] ∧ (mask = 31 ∨ mask = 15) ∧ mv = 1)) := by
  obtain ⟨es, ep, t, d, p, q1, q2, q3, f⟩ := x.toO.fits
  obtain ⟨_, _, es', ep', mask, mv, d', p', hm⟩ := x
  rw [d] at d'
  cases d'
  exact ⟨es, ep, mask, mv, d, p, f, hm⟩
theorem room4 : ∀ led : Bool, ∀ k ∈ [1, 2, 3, 4], (tab 7 0 led []).roomFor k = none := by decide +kernel
theorem room5 : ∀ led : Bool, (tab 7 0 led []).roomFor 5 = some 10 := by decide +kernel
set_option maxHeartbeats 1000000 in
theorem merge_N {id : String} {S l : Addr} {oS o : Obj} {ns : List Nat} {Q : Unit → Shared → Prop} (hS : s.heap.get? S = some (newSetO w)) (ho : s.heap.get? l = some o) (hs : SetN w o ns) (hne : S ≠ l)
    (h : ∀ h' o', Heap.SameBut S s.heap h' → h'.get? S = some o' → SetN w o' ns → Q () { s with heap := h' }) : wpAny (model prog w) A (Builtin.Frozenset.merge id S l) Q E s := by
  obtain ⟨es, ep, mask, mv, d, p, f, hm⟩ := hs.fitsN
  have hns := hs.2.1
  have h5 := subs5_len ns hns
  have hsz := pe_size p
  unfold Builtin.Frozenset.merge
  refine wpAny_bind (wpAny_setEpoch_of ho d f ?_)
  unfold setMerge
  have e0 : (S == l) = false := by simpa using hne
  rw [e0]
  simp only [Bool.false_eq_true, ↓reduceIte]
  refine wpAny_bind (wpAny_setState_of ho d f ?_)
  dsimp only
  have f0 : (SetTable.fresh 0 0 (noText w)).fits (#[] : Array (Int × Value)).size = true := by rfl
  by_cases hempty : es.isEmpty = true
  · rw [if_pos hempty]
    refine wpAny_pure ?_
    have hnil : ns = [] := by
      have : es.size = 0 := by simpa [Array.isEmpty] using hempty
      exact List.eq_nil_of_length_eq_zero (by omega)
    have e : s = { s with heap := s.heap } := by cases s; rfl
    rw [e]
    exact h s.heap _ (Heap.SameBut.refl _ _) hS (hnil ▸ newSetO_N w)
  · rw [if_neg hempty]
    have hpos : 0 < es.size := by
      rcases Nat.eq_zero_or_pos es.size with q | q
      · exact absurd (by simpa [Array.isEmpty] using q) hempty
      · exact q
    rcases hm with ⟨rfl, rfl, h4⟩ | ⟨rfl, hmask, rfl⟩
    · have hroom := room4 (noText w) es.size (by simp only [List.mem_cons, List.not_mem_nil, or_false]; omega)
      unfold setRoomFor
      refine wpAny_bind (wpAny_bind (wpAny_setState_of hS rfl f0 ?_))
      dsimp only
      rw [show SetTable.fresh 0 0 (noText w) = tab 7 0 (noText w) [] from rfl, hroom]
      refine wpAny_pure ?_
      refine wpAny_bind (wpAny_setState_of hS rfl f0 ?_)
      dsimp only
      change wpAny _ _ (storeSet S es (tab 7 0 (noText w && noText w) ns)) _ _ _
      rw [Bool.and_self]
      refine wpAny_storeSet_of hS rfl ?_ (fits_of_scanBound (by unfold scanBound; omega))
      have g := Heap.get?_update_self (Obj.putSet es (tab 7 0 (noText w) ns)) hS (by rw [putSet_of es _ rfl]; rfl)
      rw [putSet_of es _ rfl] at g
      exact h _ _ (Heap.SameBut.update ..) g ⟨⟨rfl, rfl, rfl⟩, hns, es, 1, 7, 0, rfl, p, .inl ⟨rfl, rfl, h4⟩⟩
    · have hroom := room5 (noText w)
      have hz5 : es.size = 5 := hsz
      unfold setRoomFor
      refine wpAny_bind (wpAny_bind (wpAny_setState_of hS rfl f0 ?_))
      dsimp only
      rw [show SetTable.fresh 0 0 (noText w) = tab 7 0 (noText w) [] from rfl, hz5, hroom]
      dsimp only
      unfold setRelay
      refine wpAny_bind (wpAny_setState_of hS rfl f0 ?_)
      dsimp only
      rw [if_neg (by decide +kernel)]
      obtain ⟨hl5, hl6⟩ := lay5 (noText w)
      rw [show SetTable.fresh 0 0 (noText w) = tab 7 0 (noText w) [] from rfl, show Array.map (fun x : Int × Value => x.1) #[] = #[] by simp, hl5]
      refine wpAny_bind ?_
      refine wpAny_pure ?_
      dsimp only
      rw [show Array.filterMap (fun x => (#[] : Array (Int × Value))[x]?) (#[] : Array Nat) = #[] by simp]
      refine wpAny_storeSet_of hS rfl ?_ (fits_of_scanBound (by unfold scanBound; decide))
      have g1 := Heap.get?_update_self (Obj.putSet #[] (tab 15 1 (noText w) [])) hS (by rw [putSet_of #[] _ rfl]; rfl)
      rw [putSet_of #[] _ rfl] at g1
      have sb1 := Heap.SameBut.update s.heap S (Obj.putSet #[] (tab 15 1 (noText w) []))
      refine wpAny_bind (wpAny_setState_of g1 rfl (by rfl) ?_)
      dsimp only
      have fin : ∀ (Q' : Unit → Shared → Prop), (∀ h' o', Heap.SameBut S s.heap h' → h'.get? S = some o' → SetN w o' [0, 1, 2, 3, 4] → Q' () { s with heap := h' }) →
          wpAny (model prog w) A (storeSet S es (tab 15 1 (noText w) [0, 1, 2, 3, 4])) Q' E { s with heap := s.heap.update S (Obj.putSet #[] (tab 15 1 (noText w) [])) } := fun Q' hQ' => by
        refine wpAny_storeSet_of g1 rfl ?_ (fits_of_scanBound (by unfold scanBound; omega))
        have g2 := Heap.get?_update_self (Obj.putSet es (tab 15 1 (noText w) [0, 1, 2, 3, 4])) g1 (by rw [putSet_of es _ rfl]; rfl)
        rw [putSet_of es _ rfl] at g2
        exact hQ' _ _ (sb1.trans (Heap.SameBut.update _ S _)) g2 ⟨⟨rfl, rfl, rfl⟩, hns, es, 2, 15, 1, rfl, p, .inr ⟨rfl, .inr rfl, rfl⟩⟩
      rcases hmask with rfl | rfl
      · rw [show (tab 15 1 (noText w) []).road (tab 31 1 (noText w) [0, 1, 2, 3, 4]) = .clean from rfl]
        dsimp only
        rw [map_full p]
        have hl7 := hl6
        unfold tab at hl7 ⊢
        dsimp only at hl7 ⊢
        rw [Bool.and_self, Bool.and_self, hl7]
        refine wpAny_bind ?_
        have hof := order_full p
        change wpAny _ _ (if ((Array.filterMap (fun x => es[x]?) #[0, 1, 2, 3, 4]).size != es.size) = true then _ else _) _ _ _
        rw [if_neg (by rw [hof]; simp)]
        refine wpAny_pure ?_
        change wpAny _ _ (storeSet S (Array.filterMap (fun x => es[x]?) #[0, 1, 2, 3, 4]) (tab 15 1 (noText w) [0, 1, 2, 3, 4])) _ _ _
        rw [hof]
        exact fin _ h
      · rw [show (tab 15 1 (noText w) []).road (tab 15 1 (noText w) [0, 1, 2, 3, 4]) = .slotForSlot from rfl]
        dsimp only
        change wpAny _ _ (storeSet S es (tab 15 1 (noText w && noText w) [0, 1, 2, 3, 4])) _ _ _
        rw [Bool.and_self]
        exact fin _ h
theorem init_set {l : Addr} {o : Obj} {ns : List Nat} {Q' : PySem.Fin → Shared → Prop} (ho : s.heap.get? l = some o) (hs : SetN w o ns)
    (h : ∀ h' tk, (∃ o, h'.get? s.heap.objs.size = some o ∧ SetN w o ns) → (∀ b o, b < s.heap.objs.size → s.heap.get? b = some o → h'.get? b = some o) → Q' (.done (.ret .none)) { s with heap := h', toks := tk }) :
    wpAny (model prog w) A (Builtin.«set.__init__» ⟨[.ref s.heap.objs.size, .ref l], []⟩) Q' E { s with heap := s.heap.push (newSetO w) } := by
  have hS : (s.heap.push (newSetO w)).get? s.heap.objs.size = some (newSetO w) := Heap.get?_push_size _ rfl
  have hT : Shared.TypeIs { s with heap := s.heap.push (newSetO w) } (.ref s.heap.objs.size) "set" := ⟨_, hS, rfl⟩
  have ho' : (s.heap.push (newSetO w)).get? l = some o := Heap.get?_push_of_some _ ho
  have hlt : l < s.heap.objs.size := Heap.lt_size ho
  have hTl : Shared.TypeIs { s with heap := s.heap.push (newSetO w) } (.ref l) "set" := ⟨_, ho', hs.1.1⟩
  unfold Builtin.«set.__init__» noKeywords Builtin.Frozenset.updateFrom Builtin.Frozenset.isAnySet
  generalize hM : Builtin.Frozenset.merge = MG
  have hss := sub_set_self
  wp_walk
  subst hM
  refine merge_N (s := { s with heap := s.heap.push (newSetO w) }) (oS := newSetO w) hS ho' hs (Nat.ne_of_gt hlt) fun h' o' hsb hg hN => ?_
  refine wpAny_pure (h h' s.toks ⟨o', hg, hN⟩ fun b ob hb e => ?_)
  rw [hsb.2 b (Nat.ne_of_lt hb)]
  exact Heap.get?_push_of_some _ e
theorem newSet_list {l : Addr} {items : Array Value} {xs : List Nat} {Q : Value → Shared → Prop} (hh : A.handled = none) (hl : s.heap.IsList l items) (hi : Paired IntOf items.toList xs) (hnd : xs.Nodup) (h5 : ∀ x ∈ xs, x ∈ [0, 1, 2, 3, 4])
    (h : ∀ h' tk o, h'.get? s.heap.objs.size = some o → SetN w o (setOf xs) → (∀ b o, s.heap.get? b = some o → h'.get? b = some o) → Q (.ref s.heap.objs.size) { s with heap := h', toks := tk }) :
    wpAny (model prog w) A (call (.type "set") [.ref l]) Q E s :=
  call_set_any (T := fun a h' => ∃ o, h'.get? a = some o ∧ SetN w o (setOf xs)) (fun A' Q' hA _ hQ => init_list (hA.trans hh) hl hi hnd h5 hQ)
    fun h' tk ⟨o, ho, hN⟩ hk => h h' tk o ho hN fun b o e => hk b o (Heap.lt_size e) e
theorem newSet_set {l : Addr} {o : Obj} {ns : List Nat} {Q : Value → Shared → Prop} (ho : s.heap.get? l = some o) (hs : SetN w o ns)
    (h : ∀ h' tk o, h'.get? s.heap.objs.size = some o → SetN w o ns → (∀ b o, s.heap.get? b = some o → h'.get? b = some o) → Q (.ref s.heap.objs.size) { s with heap := h', toks := tk }) :
    wpAny (model prog w) A (call (.type "set") [.ref l]) Q E s :=
  call_set_any (T := fun a h' => ∃ o, h'.get? a = some o ∧ SetN w o ns) (fun A' Q' _ _ hQ => init_set ho hs hQ)
    fun h' tk ⟨o, ho, hN⟩ hk => h h' tk o ho hN fun b o e => hk b o (Heap.lt_size e) e
end
end
section
open PySem PySem.W PySem.Calls PyProof.Rows PySem.Spec
set_option maxRecDepth 100000
theorem eraseAt_list {α : Type} (xs : Array α) (i : Nat) : (SetTable.eraseAt xs i).toList = xs.toList.eraseIdx i := by
  rw [List.eraseIdx_eq_take_drop_succ]
  simp [SetTable.eraseAt, List.extract_eq_take_drop, List.take_of_length_le]
theorem paired_erase {α β : Type} {F : α → β → Prop} {l₁ : List α} {l₂ : List β} (p : Paired F l₁ l₂) (i : Nat) : Paired F (l₁.eraseIdx i) (l₂.eraseIdx i) := by
  rw [List.eraseIdx_eq_take_drop_succ, List.eraseIdx_eq_take_drop_succ]
  exact paired_append (paired_take p _) (paired_drop p _)
theorem insertAt_size {α : Type} (xs : Array α) (p : Nat) (x : α) : (SetTable.insertAt xs p x).size = xs.size + 1 := by
  have := (SetTable.insertAt_perm xs p x).length_eq
  simpa using this
def del (x : Nat) (ns : List Nat) : List Nat := ns.filter (fun y => y != x)
theorem erase5 : ∀ ns ∈ subs5, ∀ i ∈ [0, 1, 2, 3, 4], i < ns.length → ns.eraseIdx i = del (ns.getD i 0) ns ∧ ns.eraseIdx i ∈ subs5 := by decide +kernel
section
variable {prog : Program} {w : World} {A : Around} {E : Value → Shared → Prop} {s : Shared} {a : Addr} {o : Obj} {ns : List Nat}
theorem ent_idx {es : List (Int × Value)} {x : Nat} (p : Paired EntOf es ns) (hx : x ∈ ns) : ∃ i, es.findIdx? (fun e => (intKind prog w).is (x : Int) e.2) = some i ∧ ns[i]? = some x := by
  cases q : es.findIdx? (fun e => (intKind prog w).is (x : Int) e.2) with
  | none =>
    obtain ⟨e, he, h⟩ := (ent_has (prog := prog) (w := w) (x : Int) p).mpr ⟨x, hx, rfl⟩
    rw [List.findIdx?_eq_none_iff] at q
    rw [q e he] at h
    cases h
  | some i =>
    obtain ⟨hi, h, _⟩ := List.findIdx?_eq_some_iff_getElem.mp q
    obtain ⟨y, hy, t, e⟩ := (by
      obtain ⟨y, hy, f⟩ := paired_at p (List.getElem?_eq_getElem hi)
      exact ⟨y, hy, f.2⟩ : ∃ y, ns[i]? = some y ∧ ∃ t, es[i].2 = .int (y : Int) t)
    rw [e] at h
    have : (x : Int) = (y : Int) := (intKind prog w).inj _ _ _ h (intKind_is prog w _ _)
    exact ⟨i, rfl, by rw [hy, Int.ofNat_inj.mp this]⟩
theorem getMethod_set_remove {pl : Sem Bool} {Q : Value × List Value → Shared → Prop} (ho : s.heap.get? a = some o) (hs : SetO w o ns) (h : Q (.builtin "set.remove", [.ref a]) s) :
    wpAny (model prog w) A (getMethod (.ref a) "remove" pl) Q E s :=
  getMethod_builtin (⟨o, ho, hs.1.1⟩ : s.TypeIs (.ref a) "set") F.plainAttrs_set F.slot_set_remove F.type_set_remove (fun b e => by cases e; exact ⟨o, ho, hs.1.2.1⟩) h
theorem call_set_remove {x : Nat} {tk : Tok} {Q : Value → Shared → Prop} (ho : s.heap.get? a = some o) (hs : SetO w o ns) (hx : x ∈ ns)
    (h : ∀ h' o', Heap.SameBut a s.heap h' → h'.get? a = some o' → SetO w o' (del x ns) → Q .none { s with heap := h', toks := s.toks + 1 }) :
    wpAny (model prog w) A (call (.builtin "set.remove") [.ref a, .int (x : Int) tk]) Q E s := by
  have hT : s.TypeIs (.ref a) "set" := ⟨o, ho, hs.1.1⟩
  obtain ⟨es, ep, t, d, p, q1, q2, q3, f⟩ := hs.fits
  have hns := hs.2.1
  have hsz := pe_size p
  have h5 := subs5_len ns hns
  have hx5 := subs5_mem ns hns x hx
  have hel := ent_elems (prog := prog) (w := w) p (subs5_mem ns hns)
  obtain ⟨i, hi, hix⟩ := ent_idx (prog := prog) (w := w) p hx
  have hil : i < ns.length := by
    rcases Nat.lt_or_ge i ns.length with q | q
    · exact q
    · rw [List.getElem?_eq_none q] at hix; cases hix
  obtain ⟨e1, e2⟩ := erase5 ns hns i (by simp only [List.mem_cons, List.not_mem_nil, or_false]; omega) hil
  have e3 : ns.getD i 0 = x := by rw [List.getD_eq_getElem?_getD, hix]; rfl
  rw [e3] at e1
  refine wpAny_call_entry F.slot_set_remove hT F.entry_set_remove ?_ (F.args_set_remove_2 _ _)
  unfold Builtin.«set.remove» Builtin.Frozenset.oneOther
  simp only [List.isEmpty_nil, bind_assoc]
  unfold Builtin.Frozenset.addrOf Builtin.Frozenset.withSetAsKey setDiscard
  refine wpAny_bind (wpAny_pure ?_)
  try dsimp only
  refine wpAny_bind (wpAny_pure ?_)
  try dsimp only
  refine wpAny_bind (wpAny_tryCatch ?_)
  refine wpAny_holding ?_
  refine wpAny_bind ((intKind prog w).pyHash (k := (x : Int)) (intKind_is _ _ _ _) ?_)
  unfold setDiscardHashed setFind setFindIn
  refine wpAny_bind ?_
  refine wpAny_bind (wpAny_setState_of (s := { s with toks := s.toks + 1 }) ho d f ?_)
  dsimp only
  rw [byScan_of (knd := intKind prog w) (x := .int (x : Int) tk) rfl (by rw [hsz]; unfold scanBound; omega) hel]
  simp only [↓reduceIte]
  refine wpAny_bind (wpAny_rule ?_)
  refine wpAny_bind (wpAny_setScan_of (knd := intKind prog w) (k := (x : Int)) (s := { s with toks := s.toks + 1 }) (intKind_is prog w _ _) ho d f hel ?_)
  rw [hi]
  dsimp only
  refine wpAny_pure ?_
  dsimp only
  refine wpAny_bind (wpAny_setState_of (s := { s with toks := s.toks + 1 }) ho d f ?_)
  dsimp only
  rw [Nat.zero_add]
  obtain ⟨mask, place, dummies, finger, led, moves, plain⟩ := t
  dsimp only at q1 q2 q3
  subst q1 q2 q3
  have hpl : (ns.toArray)[i]? = some x := by rw [List.getElem?_toArray]; exact hix
  have hdrop : SetTable.drop ⟨mask, ns.toArray, dummies, finger, noText w, moves, true⟩ i = ⟨mask, (ns.eraseIdx i).toArray, SetTable.insertAt dummies (SetTable.below dummies x) x, finger, noText w, moves, true⟩ := by
    unfold SetTable.drop
    dsimp only
    rw [hpl]
    dsimp only
    congr 1
    apply Array.ext'
    rw [eraseAt_list]
  rw [hdrop]
  have hpe : Paired EntOf (SetTable.eraseAt es i).toList (ns.eraseIdx i) := by rw [eraseAt_list]; exact paired_erase p i
  have hze := pe_size hpe
  have h5e := subs5_len _ e2
  refine wpAny_bind (wpAny_storeSet_of (s := { s with toks := s.toks + 1 }) ho d ?_ (fits_of_scanBound (by unfold scanBound; omega)))
  refine wpAny_bind (wpAny_point (wpAny_pure ?_))
  simp only [Bool.not_true, Bool.false_eq_true, ↓reduceIte]
  have g := Heap.get?_update_self (Obj.putSet (SetTable.eraseAt es i) ⟨mask, (ns.eraseIdx i).toArray, SetTable.insertAt dummies (SetTable.below dummies x) x, finger, noText w, moves, true⟩) ho (by rw [putSet_of _ _ d]; rfl)
  rw [putSet_of _ _ d] at g
  refine wpAny_pure ⟨_, rfl, h _ _ (Heap.SameBut.update ..) g ⟨hs.1, e1 ▸ e2, _, ep + 1, _, rfl, e1 ▸ hpe, by rw [e1], rfl, rfl, ?_⟩⟩
  simp only [SetTable.fits, SetTable.fill, Bool.and_eq_true, decide_eq_true_eq, List.size_toArray] at f
  show (ns.eraseIdx i).toArray.size + (SetTable.insertAt dummies (SetTable.below dummies x) x).size ≤ mask
  rw [insertAt_size, List.size_toArray, List.length_eraseIdx_of_lt hil]
  omega
end
end
section
open PySem PySem.W PySem.Calls PyProof.Rows PySem.Spec
set_option maxRecDepth 100000
section
variable {prog : Program} {w : World} {A : Around} {E : Value → Shared → Prop} {s : Shared} {a : Addr} {o : Obj} {ns : List Nat}
theorem items_perm {acc : Array Value} {ws : List Value} (h : ItemsOf (fun i v => ws[i]? = some v) acc ws.length) : acc.toList = ws := by
  apply List.ext_getElem?
  intro i
  by_cases hi : i < ws.length
  · have hz : i < acc.size := by rw [h.1]; exact hi
    have := h.2 i acc[i] (Array.getElem?_eq_getElem hz)
    rw [Array.getElem?_toList, Array.getElem?_eq_getElem hz, this]
  · have hz : acc.toList.length ≤ i := by rw [Array.length_toList, h.1]; omega
    rw [List.getElem?_eq_none hz, List.getElem?_eq_none (by omega)]
theorem collect_set {Q : List Value → Shared → Prop} (hh : A.handled = none) (ho : s.heap.get? a = some o) (hs : SetO w o ns)
    (hQ : ∀ h' tk vs ms, (∀ b o, s.heap.get? b = some o → h'.get? b = some o) → ms.Perm ns → Paired IntOf vs ms → Q vs { s with heap := h', toks := tk }) : wpAny (model prog w) A (collect (.ref a)) Q E s := by
  have hT : s.TypeIs (.ref a) "set" := ⟨o, ho, hs.1.1⟩
  have hlt := Heap.lt_size ho
  unfold collect
  refine wpAny_bind (wpAny_runValue (codeAny_builtin F.entry_proto_collect ?_))
  rw [Around.under_plainId F.plain_proto_collect _]
  show wpAny _ A.in1 (newList [] >>= fun l => again (.builtin "list.__iadd__" ⟨[l, .ref a], []⟩)) _ _ s
  refine wpAny_bind (wpAny_newObj_type ?_)
  refine wpAny_pure ⟨plainId_quiet F.plain_list_iadd _, codeAny_builtin F.entry_list_iadd ?_⟩
  rw [Around.under_plainId F.plain_list_iadd _]
  have ho₁ : (s.heap.push { cls := .type "list", data := .seq ([] : List Value).toArray }).get? a = some o := Heap.get?_push_of_some _ ho
  have hS₁ : (s.heap.push { cls := .type "list", data := .seq ([] : List Value).toArray }).get? s.heap.objs.size = some { cls := .type "list", data := .seq ([] : List Value).toArray } := Heap.get?_push_size _ rfl
  have hTa : Shared.TypeIs { s with heap := s.heap.push { cls := .type "list", data := .seq ([] : List Value).toArray } } (.ref a) "set" := ⟨o, ho₁, hs.1.1⟩
  have hSI : s.heap.objs.size ≠ a := Nat.ne_of_gt hlt
  have h1 : Builtin.List.listSameRef (.ref s.heap.objs.size) (.ref a) = false := by simp [Builtin.List.listSameRef, hSI]
  show wpAny _ A.in1 (Builtin.List.listExtendWith (.ref s.heap.objs.size) (.ref a) (.ref s.heap.objs.size)) _ _ _
  unfold Builtin.List.listExtendWith
  refine wpAny_bind (wpAny_typeOf hTa ?_)
  rw [if_neg (by rw [h1]; decide)]
  refine wpAny_bind (pyIter_set (s := { s with heap := s.heap.push { cls := .type "list", data := .seq ([] : List Value).toArray } }) ho₁ hs fun es ep t hd => ?_)
  refine wpAny_bind (wpAny_holding ?_)
  unfold Builtin.List.listLengthHint
  have ho₂ : ((s.heap.push { cls := .type "list", data := .seq ([] : List Value).toArray }).push (setIt w a ns ep 0 (.ref a))).get? a = some o := Heap.get?_push_of_some _ ho₁
  have hTa2 : Shared.TypeIs { s with heap := (s.heap.push { cls := .type "list", data := .seq ([] : List Value).toArray }).push (setIt w a ns ep 0 (.ref a)) } (.ref a) "set" := ⟨o, ho₂, hs.1.1⟩
  refine wpAny_bind (wpAny_specialOf hTa2 F.slot_set_len.lookup ?_)
  generalize hid : ("set.__len__" : String) = id0
  wp_delta
  rw [show splitId id0 = some ("set", "__len__") from by subst hid; decide +kernel]
  subst hid
  refine wpAny_bind (wpAny_isInstance (b := true) hTa2 sub_set_self ?_)
  show wpAny _ _ (typeOf (.ref a) >>= _) _ _ _
  refine wpAny_bind (wpAny_typeOf hTa2 ?_)
  refine wpAny_pure ?_
  show wpAny _ A.in1 (rule "list.extend.makes-room" >>= fun _ => Builtin.List.listTouch (.ref s.heap.objs.size) >>= fun _ =>
    again (.builtin "list.extend.loop" ⟨[.ref s.heap.objs.size, .ref (s.heap.push { cls := .type "list", data := .seq ([] : List Value).toArray }).objs.size, .ref s.heap.objs.size], []⟩)) _ _ _
  refine wpAny_bind (wpAny_rule ?_)
  have hS₂' : ((s.heap.push { cls := .type "list", data := .seq ([] : List Value).toArray }).push (setIt w a ns ep 0 (.ref a))).get? s.heap.objs.size = some { cls := .type "list", data := .seq ([] : List Value).toArray } := Heap.get?_push_of_some _ hS₁
  refine wpAny_bind ?_
  show wpAny _ A.in1 (updateSeq s.heap.objs.size (·.push .none) >>= fun _ => updateSeq s.heap.objs.size (·.pop)) _ _ _
  refine wpAny_bind (wpAny_updateSeq hS₂' rfl ?_)
  have hS₂ := Heap.get?_update_self (Obj.mapSeq (·.push Value.none)) hS₂' rfl
  refine wpAny_updateSeq hS₂ rfl ?_
  have hS₃ := Heap.get?_update_self (Obj.mapSeq (·.pop)) hS₂ rfl
  have oth : ∀ b o, b ≠ s.heap.objs.size → ((s.heap.push { cls := .type "list", data := .seq ([] : List Value).toArray }).push (setIt w a ns ep 0 (.ref a))).get? b = some o →
      ((((s.heap.push { cls := .type "list", data := .seq ([] : List Value).toArray }).push (setIt w a ns ep 0 (.ref a))).update s.heap.objs.size (Obj.mapSeq (·.push Value.none))).update s.heap.objs.size (Obj.mapSeq (·.pop))).get? b = some o :=
    fun b o hb e => (Heap.get?_update_other _ _ (Ne.symm hb)).trans ((Heap.get?_update_other _ _ (Ne.symm hb)).trans e)
  have hz1 : (s.heap.push { cls := .type "list", data := .seq ([] : List Value).toArray }).objs.size = s.heap.objs.size + 1 := Heap.size_push ..
  have hne : a ≠ (s.heap.push { cls := .type "list", data := .seq ([] : List Value).toArray }).objs.size := by rw [hz1]; exact Nat.ne_of_lt (Nat.lt_succ_of_lt hlt)
  have hSf : s.heap.objs.size ∉ [(s.heap.push { cls := .type "list", data := .seq ([] : List Value).toArray }).objs.size, a] := by
    rw [hz1]
    simp only [List.mem_cons, List.not_mem_nil, or_false, not_or]
    exact ⟨Nat.ne_of_lt (Nat.lt_succ_self _), hSI⟩
  have hIit0 : ((s.heap.push { cls := .type "list", data := .seq ([] : List Value).toArray }).push (setIt w a ns ep 0 (.ref a))).get? (s.heap.push { cls := .type "list", data := .seq ([] : List Value).toArray }).objs.size = some (setIt w a ns ep 0 (.ref a)) := Heap.get?_push_size _ rfl
  have hIit := oth _ _ (by rw [hz1]; exact Nat.ne_of_gt (Nat.lt_succ_self _)) hIit0
  have h5 := subs5_len ns hs.2.1
  refine wpAny_pure ⟨plainId_quiet F.plain_extend_loop _, codeAny_extend_loopS (walks_set (A := A.in1) (es := es) (ep := ep) (t := t) hh hd hs hne).toS (by rw [sizeLine_eq]; omega) _ hSf _ ns.length 0 _ _ _ rfl (Nat.zero_le _)
    ⟨hIit, oth _ _ (Ne.symm hSI) ho₂⟩ hS₃ (ItemsOf.nil _) fun s' acc' c' hm hS' hacc => ?_⟩
  obtain ⟨h', g', d', tk', os'⟩ := s'
  have eg : g' = s.gens := hm.gens
  have ed : d' = s.drawn := hm.drawn
  have eo : os' = s.os := hm.os
  subst eg; subst ed; subst eo
  show wpAny _ A (load s.heap.objs.size >>= _) _ _ _
  refine wpAny_bind (wpAny_load hS' ?_)
  obtain ⟨ms, hp, hP⟩ := walk_items (a := a) hd hs
  have hl : ((walkOf w a ep es).toList.map (·.2)).length = ns.length := by rw [hP.length, hp.length_eq]
  have hacc' : ItemsOf (fun i v => ((walkOf w a ep es).toList.map (·.2))[i]? = some v) acc' ((walkOf w a ep es).toList.map (·.2)).length := by rw [hl]; exact hacc
  refine wpAny_pure (hQ h' tk' acc'.toList ms (fun b ob e => ?_) hp (items_perm hacc' ▸ hP))
  have hb := Heap.lt_size e
  refine hm.heap b ob ?_ (oth b ob (Nat.ne_of_lt hb) (Heap.get?_push_of_some _ (Heap.get?_push_of_some _ e)))
  simp only [List.mem_cons, List.not_mem_nil, or_false, not_or]
  exact ⟨Nat.ne_of_lt hb, by rw [hz1]; exact Nat.ne_of_lt (Nat.lt_succ_of_lt hb)⟩
end
end
section
open PySem PySem.W PySem.Calls PyProof.Rows PySem.Spec
set_option maxRecDepth 100000
structure GOk (g₀ gens : Array GenState) : Prop where
  bare : AllBare gens
  size : g₀.size ≤ gens.size
  old : ∀ i, i < g₀.size → gens[i]? = g₀[i]?
theorem GOk.refl {gens : Array GenState} (h : AllBare gens) : GOk gens gens := ⟨h, Nat.le_refl _, fun _ _ => rfl⟩
theorem GOk.push {g₀ gens : Array GenState} {g : GenState} (x : GOk g₀ gens) (hg : g.bare = true) : GOk g₀ (gens.push g) :=
  ⟨x.bare.push hg, by rw [Array.size_push]; exact Nat.le_succ_of_le x.size, fun i hi => by rw [Array.getElem?_push, if_neg (Nat.ne_of_lt (Nat.lt_of_lt_of_le hi x.size))]; exact x.old i hi⟩
theorem GOk.only {g₀ a b : Array GenState} {g : Nat} (x : GOk g₀ a) (h : GenOnlyQ g a b) (hg : g₀.size ≤ g) : GOk g₀ b := by
  refine ⟨x.bare.moved h, ?_, fun i hi => ?_⟩
  · rcases h with rfl | ⟨⟨h, _⟩, _⟩
    · exact x.size
    · rw [h]; exact x.size
  · rcases h with rfl | ⟨⟨_, h⟩, _⟩
    · exact x.old i hi
    · rw [h i (Nat.ne_of_lt (Nat.lt_of_lt_of_le hi hg))]; exact x.old i hi
def GenU (g₀ : Array GenState) (prog : Program) (w : World) (A : Around) (L a : Addr) (n : Nat) (F : Nat → Value → Prop) (s : Shared) : Prop :=
  ∃ fp wr g St, g₀.size ≤ g ∧ WalksS prog w A.in4 a fp wr (GenOnlyQ g) n F St ∧ St 0 s ∧ (∀ i s', St i s' → s'.TypeIs (.ref a) "generator") ∧ a ∈ fp ∧ (∀ b ∈ fp, b < s.heap.objs.size) ∧ ∀ b ∈ wr, L < b
theorem genexprCode_any {M : Model} {A : Around} {E : Value → Shared → Prop} {s : Shared} {env : Env} {c P : Addr} {ps : Array Value} {pos : Pos} {qualname : Str} {scope : Scope} {Q : Value → Shared → Prop}
    (hc : env.code = .ref c) (hcd : CodeHd s.heap c P) (hP : s.heap.get? P = some (tabObj ps)) (ht : TriplesOk ps.toList)
    (hQ : ∀ code h' tk ps', Heap.ExtBut P s.heap h' → s.heap.objs.size ≤ h'.objs.size → h'.get? P = some (tabObj ps') → TriplesOk ps'.toList → Q code { s with heap := h', toks := tk }) :
    wpAny M A (genexprCode env pos qualname scope) Q E s := by
  cases hnf : codeAmong pos ps.toList with
  | some cv =>
    obtain ⟨o, vs, file, tf, flags, tg, inF, text, tt, op, ho, hd, h11, h2, h7, h9, h10, hop, hpd, htr, hne⟩ := hcd.code hP ht
    unfold genexprCode codeAt
    rw [hc, if_neg (show ¬ ((Value.ref c == Value.none) = true) from Bool.false_ne_true)]
    refine wpAny_bind (wpAny_fieldsOf ho hd ?_)
    rw [h11]
    refine wpAny_bind (wpAny_fieldsOf hop hpd ?_)
    rw [hnf]
    exact wpAny_pure (hQ cv s.heap s.toks ps (Heap.ExtBut.refl _ _) (Nat.le_refl _) hP ht)
  | none =>
    refine wpAny_genexprCodeX hc (hcd.code hP ht) (hcd.tab hP) hnf fun c' h' tk hx hge hlt hcode _ htab _ => ?_
    refine hQ _ _ _ _ hx (Nat.le_trans hge (Nat.le_of_lt hlt)) htab.2 ?_
    rw [show (ps ++ #[rawInt pos.line, rawInt pos.col, Value.ref c']).toList = ps.toList ++ [rawInt pos.line, rawInt pos.col, .ref c'] by simp]
    exact TriplesOk_snoc _ _ _ _ ht
theorem passing_all (n : Nat) : passing (fun _ => true) n 0 = List.range n := by
  unfold passing
  rw [List.drop_zero, List.filter_eq_self.mpr (fun _ _ => rfl)]
section
variable {prog : Program} {w : World} {A : Around} {E : Value → Shared → Prop} {s : Shared} {h₀ : Heap} {c P L : Addr} {ps : Array Value} {m mg : Str → Option Value} {bm : Addr} {ob : Obj} {pre post : List (Addr × Obj)} {g₀ : Array GenState}
theorem news_grown {h : Heap} {ps ps' : Array Value} {h' : Heap} (N : News h₀ L h (pre ++ (P, tabObj ps) :: post)) (hne : ∀ q ∈ pre ++ post, q.1 ≠ P) (hk : ∀ b o, b ≠ P → h.get? b = some o → h'.get? b = some o) (hP : h'.get? P = some (tabObj ps')) :
    News h₀ L h' (pre ++ (P, tabObj ps') :: post) := by
  have hN := N (P, tabObj ps) (by simp)
  intro p hp
  rcases List.mem_append.mp hp with hp | hp
  · have := N p (List.mem_append.mpr (.inl hp))
    exact ⟨hk _ _ (hne p (List.mem_append.mpr (.inl hp))) this.1, this.2⟩
  · rcases List.mem_cons.mp hp with rfl | hp
    · exact ⟨hP, hN.2⟩
    · have := N p (List.mem_append.mpr (.inr (.tail _ hp)))
      exact ⟨hk _ _ (hne p (List.mem_append.mpr (.inr hp))) this.1, this.2⟩
theorem gx_walks {env : Env} {elt iter : Expr} {x : Str} {px : Pos} {scope : Scope} {cl : List (Str × Addr)} {pos : Pos} {Q : Value → Shared → Prop} {n₀ : Nat} {F : Nat → Value → Prop} {Kb : Addr}
    (Fh : Fr h₀ L s.heap m) (N : News h₀ L s.heap (pre ++ (P, tabObj ps) :: post)) (hne : ∀ q ∈ pre ++ post, q.1 ≠ P) (hcd : CodeHd h₀ c P) (ht : TriplesOk ps.toList) (B : BMod h₀ env.globals mg bm ob) (hcode : env.code = .ref c)
    (G : GOk g₀ s.gens) (hlim : h₀.NoLimit) (hP0 : h₀.get? P = none)
    (hh : A.handled = none) (hco : scope.isCoroutine = false) (hclos : closureFor scope env = pure cl) (hcell : ∀ y ∈ scope.names, y.2 ≠ .cell) (h0 : scope.names.lookup (".0" : Str) = some NameKind.local)
    (hx : scope.names.lookup x = some .local) (hkind : scope.kind = .function) (hroom : A.depth < recursionLimit) (hKb : Kb < s.heap.objs.size)
    (h : wpAny (model prog w) A (eval iter env) (fun xv s₁ => wpAny (model prog w) A (pyIter xv) (fun it s₂ => Fr h₀ L s₂.heap m ∧ News h₀ L s₂.heap (pre ++ (P, tabObj ps) :: post) ∧ s.heap.objs.size ≤ s₂.heap.objs.size ∧ s₂.gens = s.gens ∧ s₂.os = s.os ∧ s₂.drawn = s.drawn ∧
      ∃ I fp wr Pi St₀, it = .ref I ∧ (∀ A' : Around, A'.handled = none → Walks prog w A' I fp wr n₀ Pi St₀) ∧ St₀ 0 s₂.heap ∧ (∀ b ∈ fp, b < s₂.heap.objs.size) ∧ P ∉ fp ∧ (∀ b ∈ wr, Kb < b) ∧ L ∉ wr ∧ (∀ q ∈ pre ++ post, q.1 ∉ wr) ∧ (∀ b ∈ wr, h₀.get? b = none) ∧
        (∀ (A' : Around) E' i v (u : Shared) m₂ C code, A'.handled = none → Pi i v → u.heap.Ns C m₂ → m₂ x = some v → Fr h₀ L u.heap m → News h₀ L u.heap (pre ++ post) → C ≠ L → h₀.objs.size ≤ C →
          wpAny (model prog w) A' (eval elt (genEnv scope cl C code builtinsNs env)) (fun y s₃ => F i y ∧ Keeps u s₃) E' u)) E s₁) E s)
    (hQ : ∀ a s₅ ps', Fr h₀ L s₅.heap m → News h₀ L s₅.heap (pre ++ (P, tabObj ps') :: post) → TriplesOk ps'.toList → GOk g₀ s₅.gens → s₅.os = s.os → s₅.drawn = s.drawn → s.heap.objs.size ≤ a →
      GenU g₀ prog w A Kb a n₀ F s₅ → Q (.ref a) s₅)
    (hs : ∀ x, genFold iter env x = pure x) :
    wpAny (model prog w) A (eval (.GeneratorExp elt [⟨.Name x px, iter, [], 0⟩] scope pos) env) Q E s := by
  refine wpAny_GeneratorExp_walksQ hh hco hclos hcell h0 hx hkind hroom (wpAny_mono h (fun xv s₁ h₁ => wpAny_mono h₁ (fun it s₂ h₂ => ?_) fun _ _ e => e) fun _ _ e => e) hs
  refine an7 h₂ ?_
  intro F₂ N₂ hsz₂ eg eo ed hx₂
  refine ex5 hx₂ ?_
  intro I fp wr Pi St₀ hy₂
  refine an10 hy₂ ?_
  clear h₂ hx₂ hy₂
  rintro rfl W₀ hst hfp hPf hwr hLw hnw hw0 helt
  have hP₂ := (N₂ (P, tabObj ps) (by simp)).1
  refine ⟨hlim.keeps F₂.keep, genexprCode_any hcode (hcd.keeps F₂.keep) hP₂ ht fun code h₃ tk₃ ps' hx₃ hge hP₃ ht' => ?_⟩
  have hPL : P ≠ L := (N₂ (P, tabObj ps) (by simp)).2.1
  have keep₃ : ∀ b o, h₀.get? b = some o → h₃.get? b = some o := fun b o e => hx₃ b o (fun e' => by rw [e', hP0] at e; cases e) (F₂.keep b o e)
  have N₃ : News h₀ L h₃ (pre ++ (P, tabObj ps') :: post) := news_grown N₂ hne hx₃ hP₃
  have F₃ : Fr h₀ L h₃ m := by
    obtain ⟨oL, es, ep, hL, r⟩ := F₂.ns
    exact ⟨⟨oL, es, ep, hx₃ L oL (Ne.symm hPL) hL, r⟩, keep₃, F₂.above⟩
  have M₃ : BMod h₃ env.globals mg bm ob := B.keeps keep₃
  have hl₃ : h₃.NoLimit := hlim.keeps keep₃
  refine wpAny_builtinsFor M₃.ns M₃.name M₃.ne M₃.obj M₃.cls M₃.dict M₃.data ?_
  have hLs : L < s₂.heap.objs.size := by obtain ⟨oL, _, _, hL, _⟩ := F₂.ns; exact Heap.lt_size hL
  have hcs : ∀ b ∈ wr, b ≠ cStatics := fun b hb e => by
    have h1 := hw0 b hb
    obtain ⟨_, hns, _⟩ := hlim
    obtain ⟨o, es, ep, ho, hd, _⟩ := hns
    rw [e, ho] at h1; cases h1
  refine ⟨I, fp, wr, n₀, Pi, St₀, fun _ => true, F, rfl, W₀, (W₀ A hh).frame _ _ _ hst (fun b hb o e => hx₃ b o (fun e' => hPf (e' ▸ hb)) e), (fun b hb => Nat.lt_of_lt_of_le (hfp b hb) hge), hl₃, (fun hm => hcs _ hm rfl),
    (fun href hhref => ⟨fun A' E' i v s₂' m₂ hA hPi hns hmx hk => ?_, fun A' E' i v s₂' m₂ hA hPi _ hns hmx hk => ?_⟩), fun a h₅ tk gs hgb hag hsz₅ hk₅ W hat => ?_⟩
  · simp only [List.forIn_nil]
    exact wpAny_pure ⟨rfl, _, _, rfl, fun _ _ e => e⟩
  · have back : ∀ b o, b ∉ wr → h₃.get? b = some o → s₂'.heap.get? b = some o := fun b o hb e => hk b (List.mem_range.mpr (Heap.lt_size e)) hb o (hhref b o e)
    obtain ⟨oL, es, ep, hL, r⟩ := F₃.ns
    refine helt A' E' i v s₂' m₂ _ _ hA hPi hns hmx ⟨⟨oL, es, ep, back L oL hLw hL, r⟩, fun b o e => back b o (fun hm => by rw [hw0 b hm] at e; cases e) (keep₃ b o e), F₂.above⟩ (fun p hp => ?_) ?_ ?_
    · have hp' : p ∈ pre ++ (P, tabObj ps') :: post := by
        rcases List.mem_append.mp hp with hp | hp
        · exact List.mem_append.mpr (.inl hp)
        · exact List.mem_append.mpr (.inr (.tail _ hp))
      exact ⟨back _ _ (hnw p hp) (N₃ p hp').1, (N₃ p hp').2⟩
    · show h₃.objs.size ≠ L
      exact Nat.ne_of_gt (Nat.lt_of_lt_of_le hLs hge)
    · show h₀.objs.size ≤ h₃.objs.size
      exact Nat.le_trans F₂.above (Nat.le_of_lt (Nat.lt_of_lt_of_le hLs hge))
  · have F₅ : Fr h₀ L h₅ m := F₃.keeps hk₅
    refine hQ a _ ps' F₅ (fun p hp => ⟨hk₅ _ _ (N₃ p hp).1, (N₃ p hp).2⟩) ht' ?_ (by exact eo) (by exact ed) ?_ ?_
    · show GOk g₀ (s₂.gens.push gs)
      rw [eg]
      exact G.push hgb
    · have : h₃.objs.size < a := hag
      omega
    · rw [passing_all, List.length_range] at W
      have W' := W.imp (P' := F) fun j v hv => by
        obtain ⟨i, hi, hF⟩ := hv
        have : i = j := by
          obtain ⟨_, e⟩ := List.getElem?_eq_some_iff.mp hi
          simpa using e.symm
        exact this ▸ hF
      refine ⟨_, _, s₂.gens.size, _, by rw [eg]; exact G.size, W', hat, (fun i s' st => st.1.typeIs), List.mem_cons_self, ?_, ?_⟩
      · intro b hb
        show b < h₅.objs.size
        rw [hsz₅]
        rcases List.mem_cons.mp hb with rfl | hb
        · exact Nat.lt_succ_self _
        · rcases List.mem_cons.mp hb with rfl | hb
          · exact Nat.lt_succ_of_lt hag
          · exact Nat.lt_succ_of_lt (Nat.lt_trans (List.mem_range.mp hb) hag)
      · intro b hb
        rcases List.mem_cons.mp hb with rfl | hb
        · exact Nat.lt_of_lt_of_le hKb (Nat.le_trans hsz₂ hge)
        · exact hwr b hb
theorem gx_list {env : Env} {elt iter : Expr} {x : Str} {px : Pos} {scope : Scope} {cl : List (Str × Addr)} {pos : Pos} {Q : Value → Shared → Prop} {l : Addr} {items : Array Value} {F : Nat → Value → Prop}
    (Fh : Fr h₀ L s.heap m) (N : News h₀ L s.heap (pre ++ (P, tabObj ps) :: post)) (hne : ∀ q ∈ pre ++ post, q.1 ≠ P) (hcd : CodeHd h₀ c P) (ht : TriplesOk ps.toList) (B : BMod h₀ env.globals mg bm ob) (hcode : env.code = .ref c)
    (G : GOk g₀ s.gens) (hlim : h₀.NoLimit)
    (hh : A.handled = none) (hco : scope.isCoroutine = false) (hclos : closureFor scope env = pure cl) (hcell : ∀ y ∈ scope.names, y.2 ≠ .cell) (h0 : scope.names.lookup (".0" : Str) = some NameKind.local)
    (hx : scope.names.lookup x = some .local) (hkind : scope.kind = .function) (hroom : A.depth < recursionLimit)
    (hl : s.heap.IsList l items)
    (hiter : ∀ Q' : Value → Shared → Prop, Q' (.ref l) s → wpAny (model prog w) A (eval iter env) Q' E s)
    (helt : ∀ (A' : Around) E' i v (u : Shared) m₂ C code, A'.handled = none → items[i]? = some v → u.heap.Ns C m₂ → m₂ x = some v → Fr h₀ L u.heap m → News h₀ L u.heap (pre ++ post) → C ≠ L → h₀.objs.size ≤ C →
          wpAny (model prog w) A' (eval elt (genEnv scope cl C code builtinsNs env)) (fun y s₃ => F i y ∧ Keeps u s₃) E' u)
    (hQ : ∀ a s₅ ps', Fr h₀ L s₅.heap m → News h₀ L s₅.heap (pre ++ (P, tabObj ps') :: post) → TriplesOk ps'.toList → GOk g₀ s₅.gens → s₅.os = s.os → s₅.drawn = s.drawn → s.heap.objs.size ≤ a →
      L ≤ s.heap.objs.size - 1 → (∀ q ∈ pre ++ (P, tabObj ps') :: post, q.1 ≤ s.heap.objs.size - 1) → GenU g₀ prog w A (s.heap.objs.size - 1) a items.size F s₅ → Q (.ref a) s₅)
    (hs : ∀ x, genFold iter env x = pure x) :
    wpAny (model prog w) A (eval (.GeneratorExp elt [⟨.Name x px, iter, [], 0⟩] scope pos) env) Q E s := by
  have hlt : l < s.heap.objs.size := by obtain ⟨_, e, _⟩ := hl; exact Heap.lt_size e
  have hP := N (P, tabObj ps) (by simp)
  have hLs : L < s.heap.objs.size := by obtain ⟨oL, _, _, hL, _⟩ := Fh.ns; exact Heap.lt_size hL
  have hpred : s.heap.objs.size - 1 < s.heap.objs.size := Nat.sub_lt (Nat.lt_of_le_of_lt (Nat.zero_le _) hlt) (Nat.zero_lt_one)
  refine gx_walks (Kb := s.heap.objs.size - 1) Fh N hne hcd ht B hcode G hlim hP.2.2 hh hco hclos hcell h0 hx hkind hroom hpred (hiter _ ?_) (fun a s₅ ps' F₅ N₅ t₅ G₅ eo ed ha X => hQ a s₅ ps' F₅ N₅ t₅ G₅ eo ed ha (Nat.le_sub_one_of_lt hLs) (fun q hq => ?_) X) hs
  refine wpAny_pyIter_list hl ⟨Fh.keeps fun _ _ e => Heap.get?_push_of_some _ e, (fun p hp => ⟨Heap.get?_push_of_some _ (N p hp).1, (N p hp).2⟩), (by rw [Heap.size_push]; exact Nat.le_succ _), rfl, rfl, rfl,
    s.heap.objs.size, [s.heap.objs.size, l], [s.heap.objs.size], _, _, rfl, (fun A' hA => Walks.list hA _ _ (Nat.ne_of_lt hlt) items), ⟨⟨_, Heap.get?_push_size _ rfl, rfl, rfl⟩, hl.push _⟩, ?_, ?_, ?_, ?_, ?_, ?_, helt⟩
  rotate_right
  · have hq' : ∃ o, (q.1, o) ∈ pre ++ (P, tabObj ps) :: post := by
      rcases List.mem_append.mp hq with h | h
      · exact ⟨q.2, List.mem_append.mpr (.inl h)⟩
      · rcases List.mem_cons.mp h with rfl | h
        · exact ⟨tabObj ps, List.mem_append.mpr (.inr (.head _))⟩
        · exact ⟨q.2, List.mem_append.mpr (.inr (.tail _ h))⟩
    obtain ⟨o, ho⟩ := hq'
    exact Nat.le_sub_one_of_lt (Heap.lt_size (N _ ho).1)
  · intro b hb
    show b < (s.heap.push _).objs.size
    rw [Heap.size_push]
    rcases List.mem_cons.mp hb with rfl | hb
    · exact Nat.lt_succ_self _
    · rcases List.mem_cons.mp hb with rfl | hb
      · exact Nat.lt_succ_of_lt hlt
      · cases hb
  · intro hb
    rcases List.mem_cons.mp hb with e | hb
    · exact absurd (e ▸ Heap.lt_size hP.1) (Nat.lt_irrefl _)
    · rcases List.mem_cons.mp hb with e | hb
      · obtain ⟨o, ho, hc, _⟩ := hl
        have := hP.1
        rw [e, ho] at this
        cases this
        exact absurd hc (by simp)
      · cases hb
  · intro b hb
    rcases List.mem_cons.mp hb with rfl | hb
    · exact hpred
    · cases hb
  · intro hb
    rcases List.mem_cons.mp hb with e | hb
    · exact absurd (e ▸ hLs) (Nat.lt_irrefl _)
    · cases hb
  · intro q hq hb
    rcases List.mem_cons.mp hb with e | hb
    · have hq' : q ∈ pre ++ (P, tabObj ps) :: post := by
        rcases List.mem_append.mp hq with hq | hq
        · exact List.mem_append.mpr (.inl hq)
        · exact List.mem_append.mpr (.inr (.tail _ hq))
      exact absurd (e ▸ Heap.lt_size (N q hq').1) (Nat.lt_irrefl _)
    · cases hb
  · intro b hb
    rcases List.mem_cons.mp hb with rfl | hb
    · cases hq : h₀.get? s.heap.objs.size with
      | none => rfl
      | some o => exact absurd (Heap.lt_size (Fh.keep _ _ hq)) (Nat.lt_irrefl _)
    · cases hb
theorem gx_set {env : Env} {elt iter : Expr} {x : Str} {px : Pos} {scope : Scope} {cl : List (Str × Addr)} {pos : Pos} {Q : Value → Shared → Prop} {l : Addr} {ns : List Nat} {ol : Obj} {F : Nat → Value → Prop}
    (Fh : Fr h₀ L s.heap m) (N : News h₀ L s.heap (pre ++ (P, tabObj ps) :: post)) (hne : ∀ q ∈ pre ++ post, q.1 ≠ P) (hcd : CodeHd h₀ c P) (ht : TriplesOk ps.toList) (B : BMod h₀ env.globals mg bm ob) (hcode : env.code = .ref c)
    (G : GOk g₀ s.gens) (hlim : h₀.NoLimit)
    (hh : A.handled = none) (hco : scope.isCoroutine = false) (hclos : closureFor scope env = pure cl) (hcell : ∀ y ∈ scope.names, y.2 ≠ .cell) (h0 : scope.names.lookup (".0" : Str) = some NameKind.local)
    (hx : scope.names.lookup x = some .local) (hkind : scope.kind = .function) (hroom : A.depth < recursionLimit)
    (hl : s.heap.get? l = some ol) (hls : SetO w ol ns)
    (hiter : ∀ Q' : Value → Shared → Prop, Q' (.ref l) s → wpAny (model prog w) A (eval iter env) Q' E s)
    (helt : ∀ ws : List Value, (∃ ms : List Nat, ms.Perm ns ∧ Paired IntOf ws ms) → ∀ (A' : Around) E' (i : Nat) (v : Value) (u : Shared) m₂ C code, A'.handled = none → ws[i]? = some v → u.heap.Ns C m₂ → m₂ x = some v → Fr h₀ L u.heap m → News h₀ L u.heap (pre ++ post) → C ≠ L → h₀.objs.size ≤ C →
          wpAny (model prog w) A' (eval elt (genEnv scope cl C code builtinsNs env)) (fun y s₃ => F i y ∧ Keeps u s₃) E' u)
    (hQ : ∀ a s₅ ps', Fr h₀ L s₅.heap m → News h₀ L s₅.heap (pre ++ (P, tabObj ps') :: post) → TriplesOk ps'.toList → GOk g₀ s₅.gens → s₅.os = s.os → s₅.drawn = s.drawn → s.heap.objs.size ≤ a →
      L ≤ s.heap.objs.size - 1 → (∀ q ∈ pre ++ (P, tabObj ps') :: post, q.1 ≤ s.heap.objs.size - 1) → GenU g₀ prog w A (s.heap.objs.size - 1) a ns.length F s₅ → Q (.ref a) s₅)
    (hs : ∀ x, genFold iter env x = pure x) :
    wpAny (model prog w) A (eval (.GeneratorExp elt [⟨.Name x px, iter, [], 0⟩] scope pos) env) Q E s := by
  have hlt : l < s.heap.objs.size := Heap.lt_size hl
  have hP := N (P, tabObj ps) (by simp)
  have hLs : L < s.heap.objs.size := by obtain ⟨oL, _, _, hL, _⟩ := Fh.ns; exact Heap.lt_size hL
  have hpred : s.heap.objs.size - 1 < s.heap.objs.size := Nat.sub_lt (Nat.lt_of_le_of_lt (Nat.zero_le _) hlt) (Nat.zero_lt_one)
  refine gx_walks (Kb := s.heap.objs.size - 1) Fh N hne hcd ht B hcode G hlim hP.2.2 hh hco hclos hcell h0 hx hkind hroom hpred (hiter _ ?_) (fun a s₅ ps' F₅ N₅ t₅ G₅ eo ed ha X => hQ a s₅ ps' F₅ N₅ t₅ G₅ eo ed ha (Nat.le_sub_one_of_lt hLs) (fun q hq => ?_) X) hs
  refine pyIter_set hl hls fun es ep t hd => ?_
  obtain ⟨ms', hp', hP'⟩ := walk_items (a := l) hd hls
  refine ⟨Fh.keeps fun _ _ e => Heap.get?_push_of_some _ e, (fun p hp => ⟨Heap.get?_push_of_some _ (N p hp).1, (N p hp).2⟩), (by rw [Heap.size_push]; exact Nat.le_succ _), rfl, rfl, rfl,
    s.heap.objs.size, [s.heap.objs.size, l], [s.heap.objs.size], _, _, rfl, (fun A' hA => walks_set hA hd hls (Nat.ne_of_lt hlt)), ⟨Heap.get?_push_size _ rfl, Heap.get?_push_of_some _ hl⟩, ?_, ?_, ?_, ?_, ?_, ?_, helt _ ⟨ms', hp', hP'⟩⟩
  rotate_right
  · have hq' : ∃ o, (q.1, o) ∈ pre ++ (P, tabObj ps) :: post := by
      rcases List.mem_append.mp hq with h | h
      · exact ⟨q.2, List.mem_append.mpr (.inl h)⟩
      · rcases List.mem_cons.mp h with rfl | h
        · exact ⟨tabObj ps, List.mem_append.mpr (.inr (.head _))⟩
        · exact ⟨q.2, List.mem_append.mpr (.inr (.tail _ h))⟩
    obtain ⟨o, ho⟩ := hq'
    exact Nat.le_sub_one_of_lt (Heap.lt_size (N _ ho).1)
  · intro b hb
    show b < (s.heap.push _).objs.size
    rw [Heap.size_push]
    rcases List.mem_cons.mp hb with rfl | hb
    · exact Nat.lt_succ_self _
    · rcases List.mem_cons.mp hb with rfl | hb
      · exact Nat.lt_succ_of_lt hlt
      · cases hb
  · intro hb
    rcases List.mem_cons.mp hb with e | hb
    · exact absurd (e ▸ Heap.lt_size hP.1) (Nat.lt_irrefl _)
    · rcases List.mem_cons.mp hb with e | hb
      · have := hP.1
        rw [e, hl] at this
        cases this
        exact absurd hls.1.1 (by simp)
      · cases hb
  · intro b hb
    rcases List.mem_cons.mp hb with rfl | hb
    · exact hpred
    · cases hb
  · intro hb
    rcases List.mem_cons.mp hb with e | hb
    · exact absurd (e ▸ hLs) (Nat.lt_irrefl _)
    · cases hb
  · intro q hq hb
    rcases List.mem_cons.mp hb with e | hb
    · have hq' : q ∈ pre ++ (P, tabObj ps) :: post := by
        rcases List.mem_append.mp hq with hq | hq
        · exact List.mem_append.mpr (.inl hq)
        · exact List.mem_append.mpr (.inr (.tail _ hq))
      exact absurd (e ▸ Heap.lt_size (N q hq').1) (Nat.lt_irrefl _)
    · cases hb
  · intro b hb
    rcases List.mem_cons.mp hb with rfl | hb
    · cases hq : h₀.get? s.heap.objs.size with
      | none => rfl
      | some o => exact absurd (Heap.lt_size (Fh.keep _ _ hq)) (Nat.lt_irrefl _)
    · cases hb
theorem gx_all {a : Addr} {n : Nat} {F : Nat → Value → Prop} {Q : Value → Shared → Prop} {news : List (Addr × Obj)} (Fh : Fr h₀ L s.heap m) (N : News h₀ L s.heap news) {Kb : Addr} (hKb : L ≤ Kb) (hKn : ∀ q ∈ news, q.1 ≤ Kb) (G : GOk g₀ s.gens) (X : GenU g₀ prog w A Kb a n F s) (tr : Nat → Bool) (htr : ∀ j v, F j v → v = .bool (tr j))
    (hQ : ∀ s', Fr h₀ L s'.heap m → News h₀ L s'.heap news → GOk g₀ s'.gens → s'.os = s.os → Q (.bool ((List.range n).all tr)) s') : wpAny (model prog w) A (call (.builtin "all") [.ref a]) Q E s := by
  obtain ⟨fp, wr, g, St, hgu, W, hst, _, _, hfp, hwr⟩ := X
  have W := W.in4_1
  exact call_all_walkS (W.self 0 _ _ _ hst ⟨a, _, _, _, _, _, _, tr, rfl, W, hst, (fun j v s Q E hv hQ => by cases htr j v hv; exact wpAny_truthy_bool hQ), fun s' hm => hQ s' (Fh.moved hm fun b hb => Nat.lt_of_le_of_lt hKb (hwr b hb))
    (fun p hp => ⟨hm.heap _ _ (fun hmem => Nat.lt_irrefl _ (Nat.lt_of_lt_of_le (hwr _ hmem) (hKn p hp))) (N p hp).1, (N p hp).2⟩) (G.only hm.gens hgu) hm.os⟩)
theorem gx_any {a : Addr} {n : Nat} {F : Nat → Value → Prop} {Q : Value → Shared → Prop} {news : List (Addr × Obj)} (Fh : Fr h₀ L s.heap m) (N : News h₀ L s.heap news) {Kb : Addr} (hKb : L ≤ Kb) (hKn : ∀ q ∈ news, q.1 ≤ Kb) (G : GOk g₀ s.gens) (X : GenU g₀ prog w A Kb a n F s) (tr : Nat → Bool) (htr : ∀ j v, F j v → v = .bool (tr j))
    (hQ : ∀ s', Fr h₀ L s'.heap m → News h₀ L s'.heap news → GOk g₀ s'.gens → s'.os = s.os → Q (.bool ((List.range n).any tr)) s') : wpAny (model prog w) A (call (.builtin "any") [.ref a]) Q E s := by
  obtain ⟨fp, wr, g, St, hgu, W, hst, _, _, hfp, hwr⟩ := X
  have W := W.in4_1
  exact call_any_walkS (W.self 0 _ _ _ hst ⟨a, _, _, _, _, _, _, tr, rfl, W, hst, (fun j v s Q E hv hQ => by cases htr j v hv; exact wpAny_truthy_bool hQ), fun s' hm => hQ s' (Fh.moved hm fun b hb => Nat.lt_of_le_of_lt hKb (hwr b hb))
    (fun p hp => ⟨hm.heap _ _ (fun hmem => Nat.lt_irrefl _ (Nat.lt_of_lt_of_le (hwr _ hmem) (hKn p hp))) (N p hp).1, (N p hp).2⟩) (G.only hm.gens hgu) hm.os⟩)
end
end
section
open PySem PySem.W PySem.Calls PyProof.Rows PySem.Spec
set_option maxRecDepth 100000
def TurnEnd (g₀ : Array GenState) (h₀ : Heap) (L : Addr) (I : Addr) (oI : Obj) (J : (Str → Option Value) → List (Addr × Obj) → Prop) (s₁ s₂ : Shared) : Prop :=
  ∃ m' news' nx, Fr h₀ L s₂.heap m' ∧ News h₀ L s₂.heap news' ∧ (∀ p ∈ nx, p ∈ news') ∧ (I, oI) ∈ news' ∧ (∀ p ∈ nx, p.1 ≠ I) ∧ GOk g₀ s₂.gens ∧ s₂.os = s₁.os ∧ J m' nx
def TurnPost (g₀ : Array GenState) (h₀ : Heap) (L : Addr) (I : Addr) (oI : Obj) (J : (Str → Option Value) → List (Addr × Obj) → Prop) (s₁ : Shared) (Q : Flow → Shared → Prop) (f : Flow) (s₂ : Shared) : Prop :=
  match f with
  | .ret v => Q (.ret v) s₂
  | .brk => Q .next s₂
  | .next => TurnEnd g₀ h₀ L I oI J s₁ s₂
  | .cont => TurnEnd g₀ h₀ L I oI J s₁ s₂
section
variable {prog : Program} {w : World} {A : Around} {s : Shared} {env : Env} {h₀ : Heap} {g₀ : Array GenState}
theorem forLoop_M {R : Result → Shared → Prop} {target : Expr} {body : List Stmt} {I : Addr} {fp wr : List Addr} {n : Nat} {P : Nat → Value → Prop} {St : Nat → Heap → Prop} {m : Str → Option Value}
    {news : List (Addr × Obj)} (W : Walks prog w A I fp wr n P St) (ht : ∀ v, letOwnedTupleGo target (.ref I) v = pure ())
    (J : Nat → (Str → Option Value) → List (Addr × Obj) → Prop)
    (hfp : ∀ b ∈ fp, b = I ∨ ∃ o, h₀.get? b = some o ∨ ∀ i m nx, J i m nx → (b, o) ∈ nx)
    (hwr : ∀ b ∈ wr, b = I) (hSt : ∀ i h, St i h → ∃ o, h.get? I = some o) (hIL : I ≠ env.locals) (hI0 : h₀.get? I = none) (hIn : ∀ p ∈ news, p.1 ≠ I)
    (hst : St 0 s.heap) (F : Fr h₀ env.locals s.heap m) (N : News h₀ env.locals s.heap news) (G : GOk g₀ s.gens)
    (h0 : J 0 m news)
    (step : ∀ i v m₁ news₁ s₁ oI, i < n → P i v → J i m₁ news₁ → (∀ p ∈ news₁, p.1 ≠ I) → Fr h₀ env.locals s₁.heap m₁ → News h₀ env.locals s₁.heap (news₁ ++ [(I, oI)]) → GOk g₀ s₁.gens → s₁.os = s.os → I < s₁.heap.objs.size →
      wpAny (model prog w) A (assign target env v) (fun _ s₂ => wpAny (model prog w) A (execs body env) (TurnPost g₀ h₀ env.locals I oI (J (i + 1)) s (fun f s' => R (.ok f) s')) (notedBy (model prog w) A env fun e s' => R (.error e) s') s₂) (notedBy (model prog w) A env fun e s' => R (.error e) s') s₁)
    (hR : ∀ s' m' news', Fr h₀ env.locals s'.heap m' → News h₀ env.locals s'.heap news' → GOk g₀ s'.gens → s'.os = s.os → J n m' news' → R (.ok .next) s') :
    codeAny (model prog w) A (.forLoop target (.ref I) body [] env) R s := by
  refine codeAny_forLoop
    (fun k s' => ∃ m' news' i, St i s'.heap ∧ Fr h₀ env.locals s'.heap m' ∧ News h₀ env.locals s'.heap news' ∧ (∀ p ∈ news', p.1 ≠ I) ∧ GOk g₀ s'.gens ∧ s'.os = s.os ∧ J i m' news' ∧ i ≤ n ∧ k = n + 1 - i) ?_ (n + 1)
    ⟨m, news, 0, hst, F, N, hIn, G, rfl, h0, Nat.zero_le _, rfl⟩ ht
  rintro k s' ⟨m', news', i, hst', F', N', hn', G', eo', hJ, hi, rfl⟩
  have next : ∀ h₁ : Heap, (∀ b o, b ∉ wr → s'.heap.get? b = some o → h₁.get? b = some o) → Fr h₀ env.locals h₁ m' ∧ News h₀ env.locals h₁ news' := fun h₁ hk₁ =>
    ⟨⟨F'.ns.at' fun o e => hk₁ _ o (fun hb => hIL (hwr _ hb).symm) e, fun b o e => hk₁ b o (fun hb => by rw [hwr _ hb, hI0] at e; cases e) (F'.keep b o e), F'.above⟩,
      fun p hp => ⟨hk₁ _ _ (fun hb => hn' p hp (hwr _ hb)) (N' p hp).1, (N' p hp).2⟩⟩
  by_cases hlt : i < n
  · refine W.item i _ _ _ hlt hst' fun v h₁ tk₁ hP hst₁ hk₁ => ?_
    obtain ⟨F₁, N₁⟩ := next h₁ hk₁
    obtain ⟨oI, hoI⟩ := hSt _ _ hst₁
    have N₂ : News h₀ env.locals h₁ (news' ++ [(I, oI)]) := fun p hp => by
      rcases List.mem_append.mp hp with hp | hp
      · exact N₁ p hp
      · rw [List.mem_singleton.mp hp]
        exact ⟨hoI, hIL, hI0⟩
    have kept : ∀ s₃ : Shared, TurnEnd g₀ h₀ env.locals I oI (J (i + 1)) s s₃ → ∃ m₀, m₀ < n + 1 - i ∧ ∃ m' news' i, St i s₃.heap ∧ Fr h₀ env.locals s₃.heap m' ∧ News h₀ env.locals s₃.heap news' ∧ (∀ p ∈ news', p.1 ≠ I) ∧ GOk g₀ s₃.gens ∧ s₃.os = s.os ∧ J i m' news' ∧ i ≤ n ∧ m₀ = n + 1 - i := by
      rintro s₃ ⟨m₂, news₂, nx, F₂, N₂', hsub, hI, hne, G₂, eo₂, hJ₂⟩
      refine ⟨n + 1 - (i + 1), by omega, m₂, nx, i + 1, ?_, F₂, (fun p hp => N₂' p (hsub p hp)), hne, G₂, eo₂, hJ₂, hlt, rfl⟩
      refine W.frame _ _ _ hst₁ fun b hb o e => ?_
      rcases hfp b hb with rfl | ⟨ob, h | h⟩
      · rw [hoI] at e; cases e
        exact (N₂' _ hI).1
      · have := F₁.keep b ob h
        rw [e] at this; cases this
        exact F₂.keep b o h
      · have := (N₁ _ (h _ _ _ hJ)).1
        rw [e] at this; cases this
        exact (N₂' _ (hsub _ (h _ _ _ hJ₂))).1
    refine wpAny_mono (step i v m' news' _ oI hlt hP hJ hn' F₁ N₂ G' eo' (Heap.lt_size hoI)) (fun _ s₂ h₂ => wpAny_mono h₂ (fun f s₃ h₃ => ?_) fun _ _ e => e) fun _ _ e => e
    cases f with
    | ret v => exact h₃
    | brk => exact h₃
    | cont => exact kept s₃ h₃
    | next => exact kept s₃ h₃
  · have hin : i = n := by omega
    subst hin
    refine W.done _ _ _ hst' fun h₁ tk₁ hk₁ => wpAny_execs_nil ?_
    obtain ⟨F₁, N₁⟩ := next h₁ hk₁
    exact hR _ m' news' F₁ N₁ G' eo' hJ
theorem For_list {E : Value → Shared → Prop} {Q : Flow → Shared → Prop} {target : Expr} {pos : Pos} {iter : Expr} {body : List Stmt} {l : Addr} {items : Array Value} {ol : Obj} {m : Str → Option Value} {news : List (Addr × Obj)}
    (J : Nat → (Str → Option Value) → List (Addr × Obj) → Prop)
    (F : Fr h₀ env.locals s.heap m) (N : News h₀ env.locals s.heap news) (G : GOk g₀ s.gens) (hh : A.handled = none)
    (hl : s.heap.get? l = some ol) (hls : s.heap.IsList l items) (hlk : h₀.get? l = some ol ∨ ∀ i m nx, J i m nx → (l, ol) ∈ nx)
    (hiter : ∀ Q' : Value → Shared → Prop, Q' (.ref l) s → wpAny (model prog w) A (eval iter env) Q' E s)
    (ht : ∀ I v, letOwnedTupleGo target (.ref I) v = pure ())
    (h0 : J 0 m news)
    (step : ∀ i v m₁ news₁ s₁ I oI, items[i]? = some v → J i m₁ news₁ → (∀ p ∈ news₁, p.1 ≠ I) → Fr h₀ env.locals s₁.heap m₁ → News h₀ env.locals s₁.heap (news₁ ++ [(I, oI)]) → GOk g₀ s₁.gens → s₁.os = s.os → I < s₁.heap.objs.size →
      wpAny (model prog w) A (assign target env v) (fun _ s₂ => wpAny (model prog w) A (execs body env) (TurnPost g₀ h₀ env.locals I oI (J (i + 1)) s Q) E s₂) E s₁)
    (hQ : ∀ s' m' news', Fr h₀ env.locals s'.heap m' → News h₀ env.locals s'.heap news' → GOk g₀ s'.gens → s'.os = s.os → J items.size m' news' → Q .next s')
    (hs : ∀ x, foldedSetIterable iter env x = pure x := by intro _; rfl)
    (hE : PassesOwn (model prog w) A env E := by passes_own) :
    wpAny (model prog w) A (exec (.For target iter body [] pos) env) Q E s := by
  have hlt := Heap.lt_size hl
  refine wpAny_For (hiter _ (wpAny_pyIter_list hls ?_)) hs
  have hne : l ≠ s.heap.objs.size := Nat.ne_of_lt hlt
  refine forLoop_M (R := fun r s' => match r with | .ok f => Q f s' | .error e => cameBackBy (model prog w) A env E e s') (Walks.list (prog := prog) (w := w) hh s.heap.objs.size l hne items) (ht _) J ?_ ?_ ?_ ?_ ?_ ?_
    ⟨⟨_, Heap.get?_push_size _ rfl, rfl, rfl⟩, hls.at fun o e => Heap.get?_push_of_some _ e⟩ (F.push _) (fun p hp => ⟨Heap.get?_push_of_some _ (N p hp).1, (N p hp).2⟩) G h0 ?_ ?_
  · intro b hb
    rcases List.mem_cons.mp hb with rfl | hb
    · exact .inl rfl
    · rw [List.mem_singleton.mp hb]
      exact .inr ⟨ol, hlk⟩
  · intro b hb
    exact List.mem_singleton.mp hb
  · rintro i h ⟨⟨o, ho, _⟩, _⟩
    exact ⟨o, ho⟩
  · exact Ne.symm (Nat.ne_of_lt F.ns.lt)
  · cases hq : h₀.get? s.heap.objs.size with
    | none => rfl
    | some o => exact absurd (Heap.lt_size (F.keep _ _ hq)) (Nat.lt_irrefl _)
  · intro p hp
    exact Nat.ne_of_lt (Heap.lt_size (N p hp).1)
  · intro i v m₁ news₁ s₁ oI hi hP hJ hn F₁ N₁ G₁ eo hlt
    refine wpAny_mono (wpAny_passesOwn hE (wpAny_mono (step i v m₁ news₁ s₁ _ oI hP hJ hn F₁ N₁ G₁ eo hlt) (fun _ s₂ h => wpAny_passesOwn hE h) fun _ _ e => e)) (fun _ s₂ h => wpAny_mono h (fun f s₃ h₃ => ?_) fun _ _ e => e) fun _ _ e => e
    cases f with
    | ret v => exact h₃
    | brk => exact h₃
    | cont => exact h₃
    | next => exact h₃
  · intro s' m' news' F' N' G' eo hJ
    exact hQ s' m' news' F' N' G' eo hJ
theorem For_set {E : Value → Shared → Prop} {Q : Flow → Shared → Prop} {target : Expr} {pos : Pos} {iter : Expr} {body : List Stmt} {l : Addr} {ns : List Nat} {ol : Obj} {m : Str → Option Value} {news : List (Addr × Obj)}
    (J : Nat → (Str → Option Value) → List (Addr × Obj) → Prop)
    (F : Fr h₀ env.locals s.heap m) (N : News h₀ env.locals s.heap news) (G : GOk g₀ s.gens) (hh : A.handled = none)
    (hl : s.heap.get? l = some ol) (hls : SetO w ol ns) (hlk : h₀.get? l = some ol ∨ ∀ i m nx, J i m nx → (l, ol) ∈ nx)
    (hiter : ∀ Q' : Value → Shared → Prop, Q' (.ref l) s → wpAny (model prog w) A (eval iter env) Q' E s)
    (ht : ∀ I v, letOwnedTupleGo target (.ref I) v = pure ())
    (h0 : J 0 m news)
    (step : ∀ i x t m₁ news₁ s₁ I oI, x ∈ ns → J i m₁ news₁ → (∀ p ∈ news₁, p.1 ≠ I) → Fr h₀ env.locals s₁.heap m₁ → News h₀ env.locals s₁.heap (news₁ ++ [(I, oI)]) → GOk g₀ s₁.gens → s₁.os = s.os → I < s₁.heap.objs.size →
      wpAny (model prog w) A (assign target env (.int (x : Int) t)) (fun _ s₂ => wpAny (model prog w) A (execs body env) (TurnPost g₀ h₀ env.locals I oI (J (i + 1)) s Q) E s₂) E s₁)
    (hQ : ∀ s' m' news', Fr h₀ env.locals s'.heap m' → News h₀ env.locals s'.heap news' → GOk g₀ s'.gens → s'.os = s.os → J ns.length m' news' → Q .next s')
    (hs : ∀ x, foldedSetIterable iter env x = pure x := by intro _; rfl)
    (hE : PassesOwn (model prog w) A env E := by passes_own) :
    wpAny (model prog w) A (exec (.For target iter body [] pos) env) Q E s := by
  have hlt := Heap.lt_size hl
  refine wpAny_For (hiter _ (pyIter_set hl hls fun es ep t hd => ?_)) hs
  have hne : l ≠ s.heap.objs.size := Nat.ne_of_lt hlt
  obtain ⟨ms, hp, hP⟩ := walk_items (a := l) hd hls
  refine forLoop_M (R := fun r s' => match r with | .ok f => Q f s' | .error e => cameBackBy (model prog w) A env E e s') (walks_set (prog := prog) (I := s.heap.objs.size) (es := es) (ep := ep) (t := t) hh hd hls hne) (ht _) J ?_ ?_ ?_ ?_ ?_ ?_
    ⟨Heap.get?_push_size _ rfl, Heap.get?_push_of_some _ hl⟩ (F.push _) (fun p hp => ⟨Heap.get?_push_of_some _ (N p hp).1, (N p hp).2⟩) G h0 ?_ ?_
  · intro b hb
    rcases List.mem_cons.mp hb with rfl | hb
    · exact .inl rfl
    · rw [List.mem_singleton.mp hb]
      exact .inr ⟨ol, hlk⟩
  · intro b hb
    exact List.mem_singleton.mp hb
  · rintro i h ⟨ho, _⟩
    exact ⟨_, ho⟩
  · exact Ne.symm (Nat.ne_of_lt F.ns.lt)
  · cases hq : h₀.get? s.heap.objs.size with
    | none => rfl
    | some o => exact absurd (Heap.lt_size (F.keep _ _ hq)) (Nat.lt_irrefl _)
  · intro p hp
    exact Nat.ne_of_lt (Heap.lt_size (N p hp).1)
  · intro i v m₁ news₁ s₁ oI hi hv hJ hn F₁ N₁ G₁ eo hlt
    obtain ⟨x, hx, t', rfl⟩ : ∃ x, x ∈ ns ∧ IntOf v x := by
      obtain ⟨x, hx, hi⟩ := paired_at hP hv
      exact ⟨x, hp.mem_iff.mp (List.mem_of_getElem? hx), hi⟩
    refine wpAny_mono (wpAny_passesOwn hE (wpAny_mono (step i x t' m₁ news₁ s₁ _ oI hx hJ hn F₁ N₁ G₁ eo hlt) (fun _ s₂ h => wpAny_passesOwn hE h) fun _ _ e => e)) (fun _ s₂ h => wpAny_mono h (fun f s₃ h₃ => ?_) fun _ _ e => e) fun _ _ e => e
    cases f with
    | ret v => exact h₃
    | brk => exact h₃
    | cont => exact h₃
    | next => exact h₃
  · intro s' m' news' F' N' G' eo hJ
    exact hQ s' m' news' F' N' G' eo hJ
def StayEnd (g₀ : Array GenState) (h₀ : Heap) (L : Addr) (x : Str) (m : Str → Option Value) (news : List (Addr × Obj)) (I : Addr) (oI : Obj) (s₁ s₂ : Shared) : Prop :=
  ∃ m' news', Fr h₀ L s₂.heap m' ∧ News h₀ L s₂.heap news' ∧ (∀ p ∈ news ++ [(I, oI)], p ∈ news') ∧ GOk g₀ s₂.gens ∧ s₂.os = s₁.os ∧ ∀ z, z ≠ x → m' z = m z
def StayPost (g₀ : Array GenState) (h₀ : Heap) (L : Addr) (x : Str) (m : Str → Option Value) (news : List (Addr × Obj)) (I : Addr) (oI : Obj) (s₁ : Shared) (Q : Flow → Shared → Prop) (f : Flow) (s₂ : Shared) : Prop :=
  match f with
  | .ret v => Q (.ret v) s₂
  | .brk => Q .next s₂
  | .next => StayEnd g₀ h₀ L x m news I oI s₁ s₂
  | .cont => StayEnd g₀ h₀ L x m news I oI s₁ s₂
def StayJ (x : Str) (m : Str → Option Value) (news : List (Addr × Obj)) (_ : Nat) (m' : Str → Option Value) (nx : List (Addr × Obj)) : Prop := nx = news ∧ ∃ u, m' = fun y => if y = x then u else m y
theorem StayPost.turn {L : Addr} {x : Str} {m : Str → Option Value} {news : List (Addr × Obj)} {I : Addr} {oI : Obj} {s₁ : Shared} {Q : Flow → Shared → Prop} {f : Flow} {s₂ : Shared} {i : Nat} (hn : ∀ p ∈ news, p.1 ≠ I)
    (h : StayPost g₀ h₀ L x m news I oI s₁ Q f s₂) : TurnPost g₀ h₀ L I oI (StayJ x m news i) s₁ Q f s₂ := by
  have key : StayEnd g₀ h₀ L x m news I oI s₁ s₂ → TurnEnd g₀ h₀ L I oI (StayJ x m news i) s₁ s₂ := by
    rintro ⟨m', news', F, N, hs, G, eo, hm⟩
    refine ⟨m', news', news, F, N, fun p hp => hs p (List.mem_append.mpr (.inl hp)), hs _ (by (first | k_mem | ((repeat refine' List.Mem.tail _ ?_); refine' List.mem_append_right _ ?_; first | k_mem | (refine' List.mem_append_right _ ?_; k_mem)) | simp)), hn, G, eo, rfl, m' x, ?_⟩
    funext y
    by_cases hy : y = x
    · rw [if_pos hy, hy]
    · rw [if_neg hy, hm y hy]
  cases f with
  | ret v => exact h
  | brk => exact h
  | next => exact key h
  | cont => exact key h
theorem StayJ.start {x : Str} {m : Str → Option Value} {news : List (Addr × Obj)} : StayJ x m news 0 m news :=
  ⟨rfl, m x, by funext y; by_cases hy : y = x <;> simp [hy]⟩
theorem For_list_stay {E : Value → Shared → Prop} {Q : Flow → Shared → Prop} {x : Str} {px pos : Pos} {iter : Expr} {body : List Stmt} {l : Addr} {items : Array Value} {ol : Obj} {m : Str → Option Value} {news : List (Addr × Obj)}
    (F : Fr h₀ env.locals s.heap m) (N : News h₀ env.locals s.heap news) (G : GOk g₀ s.gens) (hh : A.handled = none)
    (hlk : h₀.get? l = some ol ∨ (l, ol) ∈ news) (hls : s.heap.IsList l items)
    (hiter : ∀ Q' : Value → Shared → Prop, Q' (.ref l) s → wpAny (model prog w) A (eval iter env) Q' E s)
    (step : ∀ (i : Nat) (v : Value) (u : Option Value) (s₁ : Shared) (I : Addr) (oI : Obj), items[i]? = some v → (∀ p ∈ news, p.1 ≠ I) → Fr h₀ env.locals s₁.heap (fun y => if y = x then u else m y) → News h₀ env.locals s₁.heap (news ++ [(I, oI)]) → GOk g₀ s₁.gens → s₁.os = s.os → I < s₁.heap.objs.size →
      wpAny (model prog w) A (assign (.Name x px) env v) (fun _ s₂ => wpAny (model prog w) A (execs body env) (StayPost g₀ h₀ env.locals x m news I oI s Q) E s₂) E s₁)
    (hQ : ∀ s' u, Fr h₀ env.locals s'.heap (fun y => if y = x then u else m y) → News h₀ env.locals s'.heap news → GOk g₀ s'.gens → s'.os = s.os → Q .next s')
    (hs : ∀ x, foldedSetIterable iter env x = pure x := by intro _; rfl)
    (hE : PassesOwn (model prog w) A env E := by passes_own) :
    wpAny (model prog w) A (exec (.For (.Name x px) iter body [] pos) env) Q E s := by
  have hl : s.heap.get? l = some ol := hlk.elim (fun h => F.keep _ _ h) fun h => (N _ h).1
  refine For_list (StayJ x m news) F N G hh hl hls ?_ hiter (fun _ _ => rfl) .start ?_ ?_ hs hE
  · rcases hlk with h | h
    · exact .inl h
    · exact .inr fun _ _ _ hJ => hJ.1 ▸ h
  · rintro i v m₁ news₁ s₁ I oI hv ⟨rfl, u, rfl⟩ hn F₁ N₁ G₁ eo hlt
    exact wpAny_mono (step i v u s₁ I oI hv hn F₁ N₁ G₁ eo hlt) (fun _ s₂ h => wpAny_mono h (fun f s₃ h₃ => h₃.turn hn) fun _ _ e => e) fun _ _ e => e
  · rintro s' m' news' F' N' G' eo ⟨rfl, u, rfl⟩
    exact hQ s' u F' N' G' eo
theorem For_set_stay {E : Value → Shared → Prop} {Q : Flow → Shared → Prop} {x : Str} {px pos : Pos} {iter : Expr} {body : List Stmt} {l : Addr} {ns : List Nat} {ol : Obj} {m : Str → Option Value} {news : List (Addr × Obj)}
    (F : Fr h₀ env.locals s.heap m) (N : News h₀ env.locals s.heap news) (G : GOk g₀ s.gens) (hh : A.handled = none)
    (hlk : h₀.get? l = some ol ∨ (l, ol) ∈ news) (hls : SetO w ol ns)
    (hiter : ∀ Q' : Value → Shared → Prop, Q' (.ref l) s → wpAny (model prog w) A (eval iter env) Q' E s)
    (step : ∀ k t u s₁ I oI, k ∈ ns → (∀ p ∈ news, p.1 ≠ I) → Fr h₀ env.locals s₁.heap (fun y => if y = x then u else m y) → News h₀ env.locals s₁.heap (news ++ [(I, oI)]) → GOk g₀ s₁.gens → s₁.os = s.os → I < s₁.heap.objs.size →
      wpAny (model prog w) A (assign (.Name x px) env (.int (k : Int) t)) (fun _ s₂ => wpAny (model prog w) A (execs body env) (StayPost g₀ h₀ env.locals x m news I oI s Q) E s₂) E s₁)
    (hQ : ∀ s' u, Fr h₀ env.locals s'.heap (fun y => if y = x then u else m y) → News h₀ env.locals s'.heap news → GOk g₀ s'.gens → s'.os = s.os → Q .next s')
    (hs : ∀ x, foldedSetIterable iter env x = pure x := by intro _; rfl)
    (hE : PassesOwn (model prog w) A env E := by passes_own) :
    wpAny (model prog w) A (exec (.For (.Name x px) iter body [] pos) env) Q E s := by
  have hl : s.heap.get? l = some ol := hlk.elim (fun h => F.keep _ _ h) fun h => (N _ h).1
  refine For_set (StayJ x m news) F N G hh hl hls ?_ hiter (fun _ _ => rfl) .start ?_ ?_ hs hE
  · rcases hlk with h | h
    · exact .inl h
    · exact .inr fun _ _ _ hJ => hJ.1 ▸ h
  · rintro i k t m₁ news₁ s₁ I oI hv ⟨rfl, u, rfl⟩ hn F₁ N₁ G₁ eo hlt
    exact wpAny_mono (step k t u s₁ I oI hv hn F₁ N₁ G₁ eo hlt) (fun _ s₂ h => wpAny_mono h (fun f s₃ h₃ => h₃.turn hn) fun _ _ e => e) fun _ _ e => e
  · rintro s' m' news' F' N' G' eo ⟨rfl, u, rfl⟩
    exact hQ s' u F' N' G' eo
end
end
section
open PySem PySem.W PySem.Calls PyProof.Rows PySem.Spec
set_option maxRecDepth 100000
theorem subs5_nodup : ∀ ns ∈ subs5, ns.Nodup := by decide +kernel
theorem setOf_in {ns : List Nat} (hnd : ns.Nodup) (h5 : ∀ x ∈ ns, x ∈ [0, 1, 2, 3, 4]) : setOf ns ∈ subs5 := setOf_sub _ ns rfl hnd h5
theorem setOf_perm {ns : List Nat} (hnd : ns.Nodup) (h5 : ∀ x ∈ ns, x ∈ [0, 1, 2, 3, 4]) : (setOf ns).Perm ns :=
  (List.perm_ext_iff_of_nodup (subs5_nodup _ (setOf_in hnd h5)) hnd).2 fun _ => mem_setOf
section
variable {prog : Program} {w : World} {A : Around} {E : Value → Shared → Prop} {s : Shared} {h₀ : Heap} {L : Addr} {m : Str → Option Value} {news : List (Addr × Obj)} {l : Addr}
theorem newN {o : Obj} {h' : Heap} (F : Fr h₀ L s.heap m) (N : News h₀ L s.heap news) (ho : h'.get? s.heap.objs.size = some o) (hk : ∀ b o, s.heap.get? b = some o → h'.get? b = some o) : News h₀ L h' ((s.heap.objs.size, o) :: news) := by
  intro p hp
  rcases List.mem_cons.mp hp with rfl | hp
  · refine ⟨ho, ?_, ?_⟩
    · exact Ne.symm (Nat.ne_of_lt F.ns.lt)
    · cases hq : h₀.get? s.heap.objs.size with
      | none => rfl
      | some o => exact absurd (Heap.lt_size (F.keep _ _ hq)) (Nat.lt_irrefl _)
  · exact ⟨hk _ _ (N p hp).1, (N p hp).2⟩
theorem newSet_listN {items : Array Value} {xs : List Nat} {Q : Value → Shared → Prop}
    (F : Fr h₀ L s.heap m) (N : News h₀ L s.heap news) (hh : A.handled = none) (hl : s.heap.IsList l items) (hi : Paired IntOf items.toList xs) (hnd : xs.Nodup) (h5 : ∀ x ∈ xs, x ∈ [0, 1, 2, 3, 4])
    (h : ∀ h' tk o a, Fr h₀ L h' m → News h₀ L h' ((a, o) :: news) → AllLt a news → SetN w o (setOf xs) → Q (.ref a) { s with heap := h', toks := tk }) :
    wpAny (model prog w) A (call (.type "set") [.ref l]) Q E s :=
  newSet_list hh hl hi hnd h5 fun h' tk o ho hS hk => h h' tk o _ (F.keeps hk) (newN F N ho hk) (allLt_of fun q hq => Heap.lt_size (N q hq).1) hS
theorem newSet_setN {o : Obj} {ns : List Nat} {Q : Value → Shared → Prop}
    (F : Fr h₀ L s.heap m) (N : News h₀ L s.heap news) (hl : s.heap.get? l = some o) (hs : SetN w o ns)
    (h : ∀ h' tk o a, Fr h₀ L h' m → News h₀ L h' ((a, o) :: news) → AllLt a news → SetN w o ns → Q (.ref a) { s with heap := h', toks := tk }) :
    wpAny (model prog w) A (call (.type "set") [.ref l]) Q E s :=
  newSet_set hl hs fun h' tk o ho hS hk => h h' tk o _ (F.keeps hk) (newN F N ho hk) (allLt_of fun q hq => Heap.lt_size (N q hq).1) hS
theorem len_setN {o : Obj} {ns : List Nat} {k : Nat} {Q : Value → Shared → Prop} (hl : s.heap.get? l = some o) (hs : SetO w o ns) (e : ns.length = k)
    (h : Q (.int (k : Int) (s.toks + 1)) { s with toks := s.toks + 1 + 1 }) : wpAny (model prog w) A (call (.builtin "len") [.ref l]) Q E s := by
  obtain ⟨hex, es, ep, t, hd, _, _, hn, hf⟩ := (SetO.objOf (prog := prog) hs)
  have h5 := subs5_len ns hs.2.1
  refine call_len_set hl hex hd hf ?_ ?_
  · rw [hn]; omega
  · rw [hn, e]; exact h
theorem len_listN {items : Array Value} {k : Nat} {Q : Value → Shared → Prop} (hl : s.heap.IsList l items) (e : items.size = k) (hk : k < 1000)
    (h : Q (.int (k : Int) (s.toks + 1)) { s with toks := s.toks + 1 + 1 }) : wpAny (model prog w) A (call (.builtin "len") [.ref l]) Q E s := by
  refine len_list hl (by rw [e]; omega) (by rw [e]; exact h)
theorem news_back {g h : Heap} {L' : Addr} (FG : Fr h₀ L g m) (N : News g L' h news) : News h₀ L h news := by
  intro p hp
  obtain ⟨e1, _, e3⟩ := N p hp
  refine ⟨e1, ?_, ?_⟩
  · intro e
    obtain ⟨oL, _, _, hL, _⟩ := FG.ns
    rw [e, hL] at e3; cases e3
  · cases hq : h₀.get? p.1 with
    | none => rfl
    | some o => rw [FG.keep _ _ hq] at e3; cases e3
theorem newsSub {h : Heap} {news news' : List (Addr × Obj)} (N : News h₀ L h news) (hs : ∀ p ∈ news', p ∈ news) : News h₀ L h news' := fun p hp => N p (hs p hp)
theorem allLt_keys {d : Addr} {l l' : List (Addr × Obj)} (h : AllLt d l) (e : l'.map (·.1) = l.map (·.1)) : AllLt d l' := by
  refine allLt_of fun p hp => ?_
  have : p.1 ∈ l.map (·.1) := e ▸ List.mem_map_of_mem hp
  obtain ⟨q, hq, e2⟩ := List.mem_map.mp this
  exact e2 ▸ kst_ltOf h q hq
theorem ne_of_grown {P : Addr} {a b : Addr} {o ob : Obj} {pre post : List (Addr × Obj)} {t : Obj} (hb : ∀ p ∈ pre ++ (P, t) :: post, p.1 < b) (ha : AllLt a ((b + 1, ob) :: (pre ++ (P, t) :: post))) (hne : ∀ q ∈ pre ++ post, q.1 ≠ P) : ∀ q ∈ ((a, o) :: (b + 1, ob) :: pre) ++ post, q.1 ≠ P := by
  intro q hq
  have hP : P < b := hb (P, t) (by simp)
  have hPa : P < a := kst_ltOf ha (P, t) (by simp)
  rcases List.mem_append.mp hq with hq | hq
  · rcases List.mem_cons.mp hq with rfl | hq
    · exact Nat.ne_of_gt hPa
    · rcases List.mem_cons.mp hq with rfl | hq
      · exact Nat.ne_of_gt (Nat.lt_succ_of_lt hP)
      · exact hne q (List.mem_append.mpr (.inl hq))
  · exact hne q (List.mem_append.mpr (.inr hq))
theorem len_small {ns : List Nat} (hnd : ns.Nodup) (h5 : ∀ x ∈ ns, x ∈ [0, 1, 2, 3, 4]) : ns.length < 1000 := by
  have := subs5_len _ (setOf_in hnd h5)
  rw [(setOf_perm hnd h5).length_eq] at this
  omega
end
end
section
open PySem PySem.W PySem.Calls PyProof.Rows PySem.Spec
set_option maxRecDepth 100000
set_option maxHeartbeats 2000000
open LCg LCt
section
variable {prog : Program} {w : World} {A : Around} {E : Value → Shared → Prop} {s : Shared} {h₀ : Heap} {L : Addr} {m : Str → Option Value} {env : Env}
theorem compT_ind {ct elt : Expr} {x : Str} {scope : Scope} {cl : List (Str × Addr)} {S : List (Addr × Obj) → Prop} {P : Nat → Value → Prop} {Fin : List Value → List (Addr × Obj) → Prop} {n : Nat} (J : Nat → List Value → List (Addr × Obj) → Prop)
    (step : ∀ i ys news v I oI C oC D m₂ h tk (E' : Value → Shared → Prop), i < n → J i ys news → P i v → NsObj oC m₂ → m₂ x = some v → Fr h₀ L h m → News h₀ L h ((I, oI) :: (C, oC) :: (D, lst ys) :: news) → Off3 I C D news → ((@Ne Nat I C) ∧ (@Ne Nat I D) ∧ (@Ne Nat C D)) →
      wpAny (model prog w) A (isTrue ct (compEnvC scope cl C env) (eval ct (compEnvC scope cl C env))) (fun ok s' => if ok = true then
        wpAny (model prog w) A (eval elt (compEnvC scope cl C env)) (CompEnd h₀ L m { s with heap := h, toks := tk } I oI C oC D (lst ys) S (fun y news' => J (i + 1) (ys ++ [y]) news')) E' s'
        else CompEnd h₀ L m { s with heap := h, toks := tk } I oI C oC D (lst ys) S (fun _ news' => J (i + 1) ys news') Value.none s') E' { s with heap := h, toks := tk })
    (fin : ∀ ys news, J n ys news → Fin ys news) : ∀ k i ys news, i + k = n → J i ys news → CompRestT prog w A h₀ L m env ct elt x scope cl s S P Fin k i ys news := by
  intro k
  induction k with
  | zero => intro i ys news e hJ; have : i = n := by omega
            subst this; exact fin _ _ hJ
  | succ k ih =>
    intro i ys news e hJ
    refine CompRestT.succ fun v I oI C oC D m₂ h tk E' hP hC hx F N off hne => ?_
    refine wpAny_mono (step i ys news v I oI C oC D m₂ h tk E' (by omega) hJ hP hC hx F N off hne) (fun ok s' h' => ?_) fun _ _ e => e
    cases ok with
    | true =>
      simp only [if_true] at h' ⊢
      refine wpAny_mono h' (fun y s'' h'' => ?_) fun _ _ e => e
      obtain ⟨h1, tk1, n1, e1, F1, N1, o1, S1, r1⟩ := h''
      exact ⟨h1, tk1, n1, e1, F1, N1, o1, S1, ih _ _ _ (by omega) r1⟩
    | false =>
      simp only [Bool.false_eq_true, if_false] at h' ⊢
      obtain ⟨h1, tk1, n1, e1, F1, N1, o1, S1, r1⟩ := h'
      exact ⟨h1, tk1, n1, e1, F1, N1, o1, S1, ih _ _ _ (by omega) r1⟩
theorem compU_ind {elt : Expr} {x : Str} {scope : Scope} {cl : List (Str × Addr)} {S : List (Addr × Obj) → Prop} {P : Nat → Value → Prop} {Fin : List Value → List (Addr × Obj) → Prop} {n : Nat} (J : Nat → List Value → List (Addr × Obj) → Prop)
    (step : ∀ i ys news v I oI C oC D m₂ h tk (E' : Value → Shared → Prop), i < n → J i ys news → P i v → NsObj oC m₂ → m₂ x = some v → Fr h₀ L h m → News h₀ L h ((I, oI) :: (C, oC) :: (D, lst ys) :: news) → Off3 I C D news → ((@Ne Nat I C) ∧ (@Ne Nat I D) ∧ (@Ne Nat C D)) →
      wpAny (model prog w) A (eval elt (compEnvC scope cl C env)) (CompEnd h₀ L m { s with heap := h, toks := tk } I oI C oC D (lst ys) S (fun y news' => J (i + 1) (ys ++ [y]) news')) E' { s with heap := h, toks := tk })
    (fin : ∀ ys news, J n ys news → Fin ys news) : ∀ k i ys news, i + k = n → J i ys news → CompRest prog w A h₀ L m env elt x scope cl s S P Fin k i ys news := by
  intro k
  induction k with
  | zero => intro i ys news e hJ; have : i = n := by omega
            subst this; exact fin _ _ hJ
  | succ k ih =>
    intro i ys news e hJ
    refine CompRest.succ fun v I oI C oC D m₂ h tk E' hP hC hx F N off hne => ?_
    refine wpAny_mono (step i ys news v I oI C oC D m₂ h tk E' (by omega) hJ hP hC hx F N off hne) (fun y s'' h'' => ?_) fun _ _ e => e
    obtain ⟨h1, tk1, n1, e1, F1, N1, o1, S1, r1⟩ := h''
    exact ⟨h1, tk1, n1, e1, F1, N1, o1, S1, ih _ _ _ (by omega) r1⟩
def CellEnd (h₀ : Heap) (L : Addr) (m : Str → Option Value) (s₁ : Shared) (I : Addr) (oI : Obj) (C : Addr) (oC : Obj) (K : Addr) (oK : Obj) (D : Addr) (oD : Obj) (S : List (Addr × Obj) → Prop) (rest : Value → List (Addr × Obj) → Prop) (y : Value) (s₂ : Shared) : Prop :=
  ∃ h' tk all nx, s₂ = { s₁ with heap := h', toks := tk } ∧ Fr h₀ L h' m ∧ News h₀ L h' all ∧ (∀ p ∈ (I, oI) :: (C, oC) :: (K, oK) :: (D, oD) :: nx, p ∈ all) ∧ (∀ p ∈ nx, p.1 ≠ I ∧ p.1 ≠ C ∧ p.1 ≠ K ∧ p.1 ≠ D) ∧ S nx ∧ rest y nx
def CellStep (prog : Program) (w : World) (A : Around) (h₀ : Heap) (L : Addr) (m : Str → Option Value) (env : Env) (ifs : List Expr) (elt : Expr) (x : Str) (scope : Scope) (cl : List (Str × Addr)) (s : Shared) (S : List (Addr × Obj) → Prop) (P : Nat → Value → Prop)
    (J : Nat → List Value → List (Addr × Obj) → Prop) (n : Nat) : Prop :=
  ∀ i ys news v I oI C oC K oK D h tk (E' : Value → Shared → Prop), i < n → J i ys news → P i v → (oK : Obj).data = .cell (some v) → Fr h₀ L h m → News h₀ L h ((I, oI) :: (C, oC) :: (K, oK) :: (D, lst ys) :: news) → (∀ p ∈ news, p.1 ≠ I ∧ p.1 ≠ C ∧ p.1 ≠ K ∧ p.1 ≠ D) →
    ((@Ne Nat I C) ∧ (@Ne Nat I K) ∧ (@Ne Nat I D) ∧ (@Ne Nat C K) ∧ (@Ne Nat C D) ∧ (@Ne Nat K D)) →
    wpAny (model prog w) A (forIn ifs true fun c r => if r = true then do let ok ← isTrue c (compEnvC scope ((x, K) :: cl) C env) (eval c (compEnvC scope ((x, K) :: cl) C env)); pure (ForInStep.yield ok) else pure (ForInStep.yield r))
      (fun ok s' => if ok = true then wpAny (model prog w) A (eval elt (compEnvC scope ((x, K) :: cl) C env)) (CellEnd h₀ L m { s with heap := h, toks := tk } I oI C oC K oK D (lst ys) S (fun y nx => J (i + 1) (ys ++ [y]) nx)) E' s'
        else CellEnd h₀ L m { s with heap := h, toks := tk } I oI C oC K oK D (lst ys) S (fun _ nx => J (i + 1) ys nx) Value.none s') E' { s with heap := h, toks := tk }
theorem newEnv_cell1 {M : Model} {scope : Scope} {x : Str} {globals : Addr} {cl : List (Str × Addr)} {qual : Str} {Q : Env → Shared → Prop}
    (hcf : ∀ a, cellsFrom a scope.names cl = (x, a) :: cl) (hpc : ∀ h, pushCells h scope.names = h.push { cls := .type "cell", data := .cell none })
    (hQ : Q { scope := scope, locals := s.heap.objs.size, globals := globals, cells := (x, s.heap.objs.size + 1) :: cl, qual := qual, func := none, code := env.code, frame := env.frame, builtins := env.builtins }
      { s with heap := (s.heap.push { cls := .type "dict", data := .dict #[] }).push { cls := .type "cell", data := .cell none } }) :
    wpAny M A (newFunctionEnv scope globals cl [] qual none .none (some env)) Q E s := by
  simp only [newFunctionEnv, Option.isSome_some, if_true]
  refine wpAny_bind (wpAny_alloc ?_)
  refine wpAny_bind (wpAny_layCells _ (fun name kind cells => by cases hkc : kind == NameKind.cell <;> simp) _ _ _ _ ?_)
  rw [hcf, hpc]
  rw [List.forIn_nil]
  refine wpAny_bind (wpAny_pure ?_)
  rw [show ({ s with heap := s.heap.push { cls := .type "dict", data := .dict #[] } } : Shared).heap.objs.size = s.heap.objs.size + 1 from Heap.size_push ..]
  exact wpAny_pure hQ
theorem block_C {elt iter : Expr} {ifs : List Expr} {x : Str} {px : Pos} {scope : Scope} {cl : List (Str × Addr)} {pos : Pos} {s₂ : Shared} {I : Addr} {fp : List Addr} {n : Nat} {P : Nat → Value → Prop} {St : Nat → Heap → Prop} {S : List (Addr × Obj) → Prop} {news : List (Addr × Obj)}
    {RR : Value → Addr → Result → Shared → Prop} (J : Nat → List Value → List (Addr × Obj) → Prop)
    (W : Walks prog w A I fp [I] n P St) (hsz : n ≤ sizeLine) (hIo : ∀ i h, St i h → ∃ o, h.get? I = some o)
    (hSt : ∀ i h h' o nw, St i h → h.get? I = some o → h'.get? I = some o → (∀ b o, h₀.get? b = some o → h'.get? b = some o) → News h₀ L h' nw → S nw → St i h')
    (hcf : ∀ a, cellsFrom a scope.names cl = (x, a) :: cl) (hpc : ∀ h, pushCells h scope.names = h.push { cls := .type "cell", data := .cell none })
    (hkind : scope.kind = .function) (hx : ∀ cl' C, (compEnvC scope cl' C env).kindOf x = some .cell) (hst : St 0 s₂.heap) (hfp : ∀ b ∈ fp, b < s₂.heap.objs.size)
    (F : Fr h₀ L s₂.heap m) (N : News h₀ L s₂.heap news) (hIL : L ≠ I) (hI₀ : h₀.get? I = none) (off : ∀ p ∈ news, p.1 ≠ I) (hS : S news)
    (h0 : J 0 [] news) (R : CellStep prog w A h₀ L m env ifs elt x scope cl s₂ S P J n)
    (hRR : ∀ D C h tk m' ys news', Fr h₀ L h m → News h₀ L h ((D, lst ys) :: news') → Off1 D news' → h.Ns C m' → h₀.get? C = none → h₀.get? D = none → C ≠ L → D ≠ L → C ≠ D → (∀ p ∈ news', p.1 ≠ C) → J n ys news' → RR (.ref D) C (.ok .next) { s₂ with heap := h, toks := tk }) :
    wpAny (model prog w) A (newList []) (fun acc s₃ => wpAny (model prog w) A (newFunctionEnv scope env.globals cl [] env.qual none .none (some env)) (fun cenv s₄ =>
      codeAny (model prog w) A (.compStart (.ListComp elt [⟨.Name x px, iter, ifs, 0⟩] scope pos) 0 (.ref I) acc { cenv with scope := relabel scope env }) (RR acc cenv.locals) s₄) E s₃) E s₂ := by
  refine wpAny_newObj_type (newEnv_cell1 hcf hpc ?_)
  dsimp only
  generalize hH2 : s₂.heap.push { cls := .type "list", dict := none, data := .seq ([] : List Value).toArray } = H2
  generalize hH4 : (H2.push { cls := .type "dict", data := .dict #[] }).push { cls := .type "cell", data := .cell none } = h₁
  have hC : H2.objs.size = s₂.heap.objs.size + 1 := by rw [← hH2, Heap.size_push]
  have hDC : s₂.heap.objs.size ≠ H2.objs.size := by rw [hC]; exact Nat.ne_of_lt (Nat.lt_succ_self _)
  have hDK : s₂.heap.objs.size ≠ H2.objs.size + 1 := by rw [hC]; exact Nat.ne_of_lt (Nat.lt_succ_of_lt (Nat.lt_succ_self _))
  have hCK : H2.objs.size ≠ H2.objs.size + 1 := Nat.ne_of_lt (Nat.lt_succ_self _)
  have below : ∀ b, b < s₂.heap.objs.size → b ≠ H2.objs.size ∧ b ≠ H2.objs.size + 1 ∧ b ≠ s₂.heap.objs.size := fun b hb => ⟨by rw [hC]; exact Nat.ne_of_lt (Nat.lt_succ_of_lt hb), by rw [hC]; exact Nat.ne_of_lt (Nat.lt_succ_of_lt (Nat.lt_succ_of_lt hb)), Nat.ne_of_lt hb⟩
  have hDf : s₂.heap.objs.size ∉ fp := fun hm => Nat.lt_irrefl _ (hfp _ hm)
  have hKf : H2.objs.size + 1 ∉ fp := fun hm => (below _ (hfp _ hm)).2.1 rfl
  have hIf : I ∈ fp := W.sub I (List.mem_singleton.mpr rfl)
  have hIlt : I < s₂.heap.objs.size := hfp I hIf
  have old : ∀ b o, s₂.heap.get? b = some o → h₁.get? b = some o := fun b o e => hH4 ▸ Heap.get?_push_of_some _ (Heap.get?_push_of_some _ (hH2 ▸ Heap.get?_push_of_some _ e))
  have hacc : h₁.get? s₂.heap.objs.size = some (lst []) := hH4 ▸ Heap.get?_push_of_some _ (Heap.get?_push_of_some _ (hH2 ▸ Heap.get?_push_size _ rfl))
  have hdic : h₁.get? H2.objs.size = some { cls := .type "dict", data := .dict #[] } := hH4 ▸ Heap.get?_push_of_some _ (Heap.get?_push_size _ rfl)
  have hcel : h₁.get? (H2.objs.size + 1) = some { cls := .type "cell", data := .cell none } := by
    have : ((H2.push { cls := .type "dict", data := .dict #[] }).push { cls := .type "cell", data := .cell none }).get? (H2.push { cls := .type "dict", data := .dict #[] }).objs.size = some { cls := .type "cell", data := .cell none } := Heap.get?_push_size _ rfl
    rw [Heap.size_push, hH4] at this
    exact this
  have hst₁ : St 0 h₁ := W.frame _ _ _ hst fun b _ o e => old b o e
  have fresh₀ : ∀ a, s₂.heap.objs.size ≤ a → h₀.get? a = none := fun a ha => by
    cases e : h₀.get? a with
    | none => rfl
    | some o' => exact absurd (Heap.lt_size (F.keep a o' e)) (Nat.not_lt.mpr ha)
  have hD₀ : h₀.get? s₂.heap.objs.size = none := fresh₀ _ (Nat.le_refl _)
  have hC₀ : h₀.get? H2.objs.size = none := fresh₀ _ (by rw [hC]; exact Nat.le_succ _)
  have hK₀ : h₀.get? (H2.objs.size + 1) = none := fresh₀ _ (by rw [hC]; exact Nat.le_succ_of_le (Nat.le_succ _))
  have hLlt : L < s₂.heap.objs.size := F.ns.lt
  have hDL : s₂.heap.objs.size ≠ L := Ne.symm (below L hLlt).2.2
  have hCL : H2.objs.size ≠ L := Ne.symm (below L hLlt).1
  have hKL : H2.objs.size + 1 ≠ L := Ne.symm (below L hLlt).2.1
  have hCI : I ≠ H2.objs.size := (below I hIlt).1
  have hKI : I ≠ H2.objs.size + 1 := (below I hIlt).2.1
  have hDI : I ≠ s₂.heap.objs.size := (below I hIlt).2.2
  have off₀ : ∀ p ∈ news, p.1 ≠ I ∧ p.1 ≠ H2.objs.size ∧ p.1 ≠ H2.objs.size + 1 ∧ p.1 ≠ s₂.heap.objs.size := fun p hp => ⟨off p hp, below _ (Heap.lt_size (N p hp).1)⟩
  have loop : ∀ s₃ : Shared, s₃ = { s₂ with heap := h₁ } →
      codeAny (model prog w) A (.compLoop (.ListComp elt [⟨.Name x px, iter, ifs, 0⟩] scope pos) 0 (.ref I) (.ref s₂.heap.objs.size) (compEnvC scope ((x, H2.objs.size + 1) :: cl) H2.objs.size env))
        (RR (.ref s₂.heap.objs.size) H2.objs.size) s₃ := by
    rintro s₃ rfl
    refine codeAny_compLoop_tests
      (fun k s' => ∃ h' tk i ys oC oK cv news', s' = { s₂ with heap := h', toks := tk } ∧ i ≤ n ∧ k = n + 1 - i ∧ ys.length ≤ i ∧ St i h' ∧ Fr h₀ L h' m ∧ (∃ m', NsObj oC m') ∧ (oK : Obj).data = .cell cv ∧ News h₀ L h' ((H2.objs.size, oC) :: (H2.objs.size + 1, oK) :: (s₂.heap.objs.size, lst ys) :: news') ∧
        (∀ p ∈ news', p.1 ≠ I ∧ p.1 ≠ H2.objs.size ∧ p.1 ≠ H2.objs.size + 1 ∧ p.1 ≠ s₂.heap.objs.size) ∧ S news' ∧ J i ys news') ?_ (n + 1)
      ⟨h₁, _, 0, [], ({ cls := .type "dict", data := .dict #[] } : Obj), ({ cls := .type "cell", data := .cell none } : Obj), none, news, rfl, Nat.zero_le _, rfl, Nat.le_refl _, hst₁, F.keeps old, ?_, rfl, fun p hp => ?_, off₀, hS, h0⟩
    · intro k s' hz
      refine ex8 hz ?_
      intro h' tk i ys oC oK cv news' hz2
      refine an12 hz2 ?_
      clear hz hz2
      rintro rfl hi rfl hyl hst' F' ⟨mC, hoC⟩ hoK N' off' hS' hJ
      have zC' := (N' (H2.objs.size, oC) List.mem_cons_self).1
      by_cases hlt : i < n
      · refine W.item i _ _ _ hlt hst' fun v h₂ tk₂ hPv hst₂ hk₂ => ?_
        have N₂ : News h₀ L h₂ ((H2.objs.size, oC) :: (H2.objs.size + 1, oK) :: (s₂.heap.objs.size, lst ys) :: news') := news_but N' hk₂ fun p hp => by
          rcases List.mem_cons.mp hp with rfl | hp
          · exact Ne.symm hCI
          · rcases List.mem_cons.mp hp with rfl | hp
            · exact Ne.symm hKI
            · rcases List.mem_cons.mp hp with rfl | hp
              · exact Ne.symm hDI
              · exact (off' p hp).1
        have zK₂ := (N₂ (H2.objs.size + 1, oK) (.tail _ List.mem_cons_self)).1
        refine wpAny_assign_Name (wpAny_storeName_cell (c := H2.objs.size + 1) (v₀ := cv) hkind (hx _ _) (by simp [compEnvC]) ⟨oK, zK₂, hoK⟩ fun h₃ hc₃ hs₃ => ?_)
        obtain ⟨oK₃, zK₃, hoK₃⟩ := hc₃
        have hst₃ : St (i + 1) h₃ := W.frame _ _ _ hst₂ fun b hb o e => hs₃.extBut b o (fun q => hKf (by have q' : b = H2.objs.size + 1 := q; rw [← q']; exact hb)) e
        obtain ⟨oI, heI⟩ := hIo _ _ hst₃
        have F₃ : Fr h₀ L h₃ m := (fr_but F' hk₂ hIL hI₀).change hs₃ hKL hK₀
        have N₃ : News h₀ L h₃ ((I, oI) :: (H2.objs.size, oC) :: (H2.objs.size + 1, oK₃) :: (s₂.heap.objs.size, lst ys) :: news') := fun p hp => by
          rcases List.mem_cons.mp hp with rfl | hp
          · exact ⟨heI, Ne.symm hIL, hI₀⟩
          · rcases List.mem_cons.mp hp with rfl | hp
            · exact ⟨hs₃.extBut _ _ hCK (N₂ _ List.mem_cons_self).1, hCL, hC₀⟩
            · rcases List.mem_cons.mp hp with rfl | hp
              · exact ⟨zK₃, hKL, hK₀⟩
              · have z := N₂ p (.tail _ (.tail _ hp))
                refine ⟨hs₃.extBut _ _ ?_ z.1, z.2⟩
                rcases List.mem_cons.mp hp with rfl | hp
                · exact hDK
                · exact (off' p hp).2.2.1
        refine wpAny_mono (R i ys news' v I oI H2.objs.size oC (H2.objs.size + 1) oK₃ s₂.heap.objs.size h₃ _ _ hlt hJ hPv hoK₃ F₃ N₃ off' ⟨hCI, hKI, hDI, hCK, Ne.symm hDC, Ne.symm hDK⟩) (fun ok s₄ h₄ => ?_) fun _ _ e => e
        have go : ∀ (h₄ : Heap) (all nx : List (Addr × Obj)), Fr h₀ L h₄ m → News h₀ L h₄ all → (∀ p ∈ (I, oI) :: (H2.objs.size, oC) :: (H2.objs.size + 1, oK₃) :: (s₂.heap.objs.size, lst ys) :: nx, p ∈ all) → S nx → St (i + 1) h₄ := fun h₄ all nx F₄ N₄ sub hS₄ =>
          hSt _ _ _ _ _ hst₃ heI (N₄ _ (sub _ List.mem_cons_self)).1 F₄.keep (fun p hp => N₄ p (sub p (.tail _ (.tail _ (.tail _ (.tail _ hp)))))) hS₄
        cases ok with
        | true =>
          simp only [if_true] at h₄ ⊢
          refine wpAny_mono h₄ (fun y s₅ h₅ => ?_) fun _ _ e => e
          obtain ⟨h₄, tk₄, all, nx, rfl, F₄, N₄, sub, off₄, hS₄, R₄⟩ := h₅
          have hst₄ := go h₄ all nx F₄ N₄ sub hS₄
          have zD := (N₄ _ (sub (s₂.heap.objs.size, lst ys) (.tail _ (.tail _ (.tail _ List.mem_cons_self))))).1
          refine append_at (hsz := by show ys.toArray.size ≤ sizeLine; rw [List.size_toArray]; exact Nat.le_trans (Nat.le_trans hyl hi) hsz) zD fun h₅ hs₅ hD₅ => ?_
          refine ⟨n + 1 - (i + 1), by omega, h₅, tk₄, i + 1, ys ++ [y], oC, oK₃, some v, nx, rfl, hlt, rfl, by rw [List.length_append, List.length_singleton]; exact Nat.succ_le_succ hyl, W.frame _ _ _ hst₄ fun b hb o e => hs₅.extBut b o (fun q => hDf (q ▸ hb)) e, F₄.change hs₅ hDL hD₀,
            ⟨mC, hoC⟩, hoK₃, fun p hp => ?_, off₄, hS₄, R₄⟩
          rcases List.mem_cons.mp hp with rfl | hp
          · exact ⟨hs₅.extBut _ _ (Ne.symm hDC) (N₄ _ (sub _ (.tail _ List.mem_cons_self))).1, hCL, hC₀⟩
          · rcases List.mem_cons.mp hp with rfl | hp
            · exact ⟨hs₅.extBut _ _ (Ne.symm hDK) (N₄ _ (sub _ (.tail _ (.tail _ List.mem_cons_self)))).1, hKL, hK₀⟩
            · rcases List.mem_cons.mp hp with rfl | hp
              · exact ⟨hD₅.trans (congrArg some (lst_snoc ys y)), hDL, hD₀⟩
              · have z := N₄ p (sub p (.tail _ (.tail _ (.tail _ (.tail _ hp)))))
                exact ⟨hs₅.extBut _ _ (off₄ p hp).2.2.2 z.1, z.2⟩
        | false =>
          simp only [Bool.false_eq_true, if_false] at h₄ ⊢
          obtain ⟨h₅, tk₄, all, nx, rfl, F₄, N₄, sub, off₄, hS₄, R₄⟩ := h₄
          have hst₄ := go h₅ all nx F₄ N₄ sub hS₄
          exact ⟨n + 1 - (i + 1), by omega, h₅, tk₄, i + 1, ys, oC, oK₃, some v, nx, rfl, hlt, rfl, Nat.le_succ_of_le hyl, hst₄, F₄, ⟨mC, hoC⟩, hoK₃, fun p hp => N₄ p (sub p (.tail _ hp)), off₄, hS₄, R₄⟩
      · obtain rfl : i = n := Nat.le_antisymm hi (Nat.not_lt.mp hlt)
        refine W.done _ _ _ hst' fun h₂ tk₂ hk₂ => ?_
        exact hRR _ _ h₂ tk₂ mC ys news' (fr_but F' hk₂ hIL hI₀) (news_but (fun p hp => N' p (.tail _ (.tail _ hp))) hk₂ fun p hp => by
          rcases List.mem_cons.mp hp with rfl | hp
          · exact Ne.symm hDI
          · exact (off' p hp).1) (by
            have : ∀ l : List (Addr × Obj), (∀ p ∈ l, p.1 ≠ s₂.heap.objs.size) → Off1 s₂.heap.objs.size l := by
              intro l
              induction l with
              | nil => intro _; trivial
              | cons q r ih => intro h; exact ⟨h q List.mem_cons_self, ih fun p hp => h p (.tail _ hp)⟩
            exact this _ fun p hp => (off' p hp).2.2.2) ((hoC.ns zC').at' fun o e => hk₂ _ o (by simpa using Ne.symm hCI) e) hC₀ hD₀ hCL hDL (Ne.symm hDC) (fun p hp => (off' p hp).2.1) hJ
    · refine ⟨fun _ => none, #[], 0, rfl, ?_, ?_⟩
      · intro e he; simp at he
      · intro name; rfl
    · rcases List.mem_cons.mp hp with rfl | hp
      · exact ⟨hdic, hCL, hC₀⟩
      · rcases List.mem_cons.mp hp with rfl | hp
        · exact ⟨hcel, hKL, hK₀⟩
        · rcases List.mem_cons.mp hp with rfl | hp
          · exact ⟨hacc, hDL, hD₀⟩
          · exact ⟨old _ _ (N p hp).1, (N p hp).2⟩
  exact codeAny_compStart_list (loop _ rfl) (W.self 0 _ _ _ hst₁ (loop _ rfl))
end
end
section
open PySem PySem.W PySem.Calls PyProof.Rows PySem.Spec
set_option maxRecDepth 100000
set_option maxHeartbeats 4000000
theorem cd29 {w : World} {h : Heap} (X : (Mine.hd.heap_39 w.params).In h) : CodeHd h 29 25 :=
  ⟨_, _, _, _, _, _, _, _, _, X 29 _ rfl, rfl, rfl, rfl, rfl, rfl, rfl, rfl, rfl, by decide⟩
theorem any_none (n : Nat) : (List.range n).any (fun _ => false) = false := by
  rw [List.any_eq_false]; intro _ _; decide
theorem cset_list {w : World} {p : Program} {loose : List Str} {mean : ExcName → Option Value} {mg mb : Str → Option Value} {g₀ : Array GenState}
  {dp un : Nat} {gd : Option (List Code)} {cn : Str} {nms : List (Str × NameKind)} {ig ic : Bool} {mo} {a : Option Addr} {lo go bi : Addr} {ccd : Value} {cl : List (Str × Addr)} {outer : List Env} {A₀ : Around} {base h₀ : Heap} {L : Addr} {m : Str → Option Value} (pre : List (Addr × Obj)) {post : List (Addr × Obj)} {s : Shared} {ps : Array Value}
    {Q E : Value → Shared → Prop} {l : Addr} {vs : List Value} {ns : List Nat} {nn : Nat}
  (B : Below A₀ base outer h₀) (F : Fr h₀ L s.heap m) (X : (Mine.hd.heap_39 w.params).In h₀) (N : News h₀ L s.heap (pre ++ (25, tabObj ps) :: post)) (hne : ∀ q ∈ pre ++ post, q.1 ≠ 25) (htr : TriplesOk ps.toList) (G : GOk g₀ s.gens) (T : Top p loose mean mg mb h₀)
  (hl : (l, listOf vs.toArray nn) ∈ pre ++ post) (hi : Paired IntOf vs ns) (hnd : ns.Nodup) (h5 : ∀ x ∈ ns, x ∈ [0, 1, 2, 3, 4]) (hd : dp + 10 < recursionLimit) (hu : un + 100 < cLine)
  (hQ : ∀ a' o' ps' s', Fr h₀ L s'.heap m → News h₀ L s'.heap ((a', o') :: (pre ++ (25, tabObj ps') :: post)) → AllLt a' (pre ++ (25, tabObj ps') :: post) → SetN w o' (setOf ns) → TriplesOk ps'.toList → GOk g₀ s'.gens → s'.os = s.os → Q (.ref a') s') :
  wpAny (model PySem.Challenge.pw_jg0002_01 w) ({ handled := none, depth := dp, frames := some ({ scope := ⟨.function, nms, ig, ic, mo⟩, locals := lo, globals := go, cells := cl, qual := cn, func := a, code := ccd, frame := some L, builtins := bi } :: outer), guards := gd, units := un } : Around) (call (.ref 30) [.ref l]) Q E s := by
  have hl1 : (l, listOf vs.toArray nn) ∈ pre ++ (25, tabObj ps) :: post := by
    rcases List.mem_append.mp hl with h | h
    · exact List.mem_append.mpr (.inl h)
    · exact List.mem_append.mpr (.inr (.tail _ h))
  refine wpAny_call ?_
  k_dflt k_enter
  rename_i g1 L1 h1 tk1 FG1 F1 B1 X1 T1 l11 o1 d11 N1
  k_steps
  rename Fr _ _ _ _ => F2
  rename News _ _ _ _ => N2
  refine newSet_listN F2 N2 rfl ⟨_, (N2 _ (.tail _ hl1)).1, rfl, nn, rfl⟩ hi hnd h5 ?_
  intro h9 tk9 o9 a9 F9 N9 hlt9 hS9
  k_steps
  rename News _ _ _ _ => N3
  refine len_listN (k := ns.length) ⟨_, (N3 _ (.tail _ (.tail _ hl1))).1, rfl, nn, rfl⟩ (by simpa using hi.length) (len_small hnd h5) ?_
  k_steps
  refine len_setN (k := ns.length) (N3 _ (.head _)).1 hS9.toO (setOf_perm hnd h5).length_eq ?_
  refine PyProof.Rows.ne_int ?_
  rw [show (((ns.length : Nat) : Int) != ((ns.length : Nat) : Int)) = false from bne_self_eq_false _]
  k_steps
  rename Fr _ _ _ _ => F4
  rename News _ _ _ _ => N4
  refine For_list_stay (l := l) (items := vs.toArray) F4 N4 G rfl (.inr (.tail _ (.tail _ hl1))) ⟨_, (N4 _ (.tail _ (.tail _ hl1))).1, rfl, nn, rfl⟩ (fun Q' hQ' => ?_) ?_ ?_
  · k_steps
    exact hQ'
  · intro i v u s₁ I oI hv hnI F5 N5 G5 eo5 hI5
    obtain ⟨y, hy, t, rfl⟩ := paired_at hi (show vs[i]? = some v by simpa using hv)
    k_steps
    rename Fr _ _ _ _ => F6
    rename News _ _ _ _ => N6
    exact ⟨_, _, F6, N6, fun _ hp => hp, G5, eo5, fun z hz => by simp only [if_neg hz]⟩
  clear F4 N4
  intro s5 u5 F5 N5 G5 eo5
  k_steps
  have hne5 := ne_of_grown (o := o9) l11 hlt9 hne
  obtain ⟨bm, ob, M5⟩ := bmod_of_top T1
  refine gx_list (F := fun _ v => v = .bool true) (l := l) (items := vs.toArray) (ps := ps) F5 N5 hne5 (cd29 X1) htr M5 rfl G5 T1.nolimit rfl rfl rfl (by decide) rfl rfl rfl ?_ ⟨_, (N5 _ (.tail _ (.tail _ hl1))).1, rfl, nn, rfl⟩ (fun Q' hQ' => ?_) ?_ ?_ (fun _ => rfl)
  · k_room
  · k_steps
    exact hQ'
  · intro A' E' i v u m₂ C code hA hv hns hmx F6 N6 hCL hC
    obtain ⟨y, hy, t, rfl⟩ := paired_at hi (show vs[i]? = some v by simpa using hv)
    have F7 := Fr.mk hns F6.keep hC
    refine wpAny_Compare1 (ldVarG F7 hmx ?_)
    refine wpAny_Constant_int ?_
    refine PyProof.Rows.ge_int ?_
    exact ⟨by simp, _, _, rfl, fun _ _ e => e⟩
  clear F5 N5
  intro a6 s6 ps6 F6 N6 ht6 G6 eo6 ed6 ha6 hL6 hK6 X6
  walk1
  refine gx_all F6 N6 hL6 hK6 G6 X6 (fun _ => true) (fun _ _ h => h) ?_
  clear F6 N6
  intro s7 F7 N7 G7 eo7
  rw [List.all_eq_true.mpr (fun _ _ => rfl)]
  walk1
  rw [if_neg (by decide)]
  repeat' walk1
  exact hQ a9 o9 ps6 s7 (FG1.keeps F7.keep) (newsSub (news_back FG1 N7) fun p hp => by
      rcases List.mem_cons.mp hp with rfl | hp
      · exact .head _
      · exact .tail _ (.tail _ hp)) (allLt_keys hlt9.2 (by (first | k_mem | ((repeat refine' List.Mem.tail _ ?_); refine' List.mem_append_right _ ?_; first | k_mem | (refine' List.mem_append_right _ ?_; k_mem)) | simp))) hS9 ht6 G7 (eo7.trans (eo6.trans (eo5.trans rfl)))
theorem cset_list_none {w : World} {p : Program} {loose : List Str} {mean : ExcName → Option Value} {mg mb : Str → Option Value} {g₀ : Array GenState}
  {dp un : Nat} {gd : Option (List Code)} {cn : Str} {nms : List (Str × NameKind)} {ig ic : Bool} {mo} {a : Option Addr} {lo go bi : Addr} {ccd : Value} {cl : List (Str × Addr)} {outer : List Env} {A₀ : Around} {base h₀ : Heap} {L : Addr} {m : Str → Option Value} (pre : List (Addr × Obj)) {post : List (Addr × Obj)} {s : Shared} {ps : Array Value}
    {Q E : Value → Shared → Prop} {l : Addr} {vs : List Value} {ns : List Nat} {nn : Nat}
  (B : Below A₀ base outer h₀) (F : Fr h₀ L s.heap m) (X : (Mine.hd.heap_39 w.params).In h₀) (N : News h₀ L s.heap (pre ++ (25, tabObj ps) :: post)) (hne : ∀ q ∈ pre ++ post, q.1 ≠ 25) (htr : TriplesOk ps.toList) (G : GOk g₀ s.gens) (T : Top p loose mean mg mb h₀)
  (hl : (l, listOf vs.toArray nn) ∈ pre ++ post) (hi : Paired IntOf vs ns) (hnd : ns.Nodup) (h5 : ∀ x ∈ ns, x ∈ [0, 1, 2, 3, 4]) (hd : dp + 10 < recursionLimit) (hu : un + 100 < cLine)
  (hQ : ∀ a' o' ps' s', Fr h₀ L s'.heap m → News h₀ L s'.heap ((a', o') :: (pre ++ (25, tabObj ps') :: post)) → AllLt a' (pre ++ (25, tabObj ps') :: post) → SetN w o' (setOf ns) → TriplesOk ps'.toList → GOk g₀ s'.gens → s'.os = s.os → Q (.ref a') s') :
  wpAny (model PySem.Challenge.pw_jg0002_01 w) ({ handled := none, depth := dp, frames := some ({ scope := ⟨.function, nms, ig, ic, mo⟩, locals := lo, globals := go, cells := cl, qual := cn, func := a, code := ccd, frame := some L, builtins := bi } :: outer), guards := gd, units := un } : Around) (call (.ref 30) [.ref l] [(Str.ofString "num_cand", .none)]) Q E s := by
  have hl1 : (l, listOf vs.toArray nn) ∈ pre ++ (25, tabObj ps) :: post := by
    rcases List.mem_append.mp hl with h | h
    · exact List.mem_append.mpr (.inl h)
    · exact List.mem_append.mpr (.inr (.tail _ h))
  refine wpAny_call ?_
  k_dflt k_enter
  rename_i g1 L1 h1 tk1 FG1 F1 B1 X1 T1 l11 o1 d11 N1
  k_steps
  rename Fr _ _ _ _ => F2
  rename News _ _ _ _ => N2
  refine newSet_listN F2 N2 rfl ⟨_, (N2 _ (.tail _ hl1)).1, rfl, nn, rfl⟩ hi hnd h5 ?_
  intro h9 tk9 o9 a9 F9 N9 hlt9 hS9
  k_steps
  rename News _ _ _ _ => N3
  refine len_listN (k := ns.length) ⟨_, (N3 _ (.tail _ (.tail _ hl1))).1, rfl, nn, rfl⟩ (by simpa using hi.length) (len_small hnd h5) ?_
  k_steps
  refine len_setN (k := ns.length) (N3 _ (.head _)).1 hS9.toO (setOf_perm hnd h5).length_eq ?_
  refine PyProof.Rows.ne_int ?_
  rw [show (((ns.length : Nat) : Int) != ((ns.length : Nat) : Int)) = false from bne_self_eq_false _]
  k_steps
  rename Fr _ _ _ _ => F4
  rename News _ _ _ _ => N4
  refine For_list_stay (l := l) (items := vs.toArray) F4 N4 G rfl (.inr (.tail _ (.tail _ hl1))) ⟨_, (N4 _ (.tail _ (.tail _ hl1))).1, rfl, nn, rfl⟩ (fun Q' hQ' => ?_) ?_ ?_
  · k_steps
    exact hQ'
  · intro i v u s₁ I oI hv hnI F5 N5 G5 eo5 hI5
    obtain ⟨y, hy, t, rfl⟩ := paired_at hi (show vs[i]? = some v by simpa using hv)
    k_steps
    rename Fr _ _ _ _ => F6
    rename News _ _ _ _ => N6
    exact ⟨_, _, F6, N6, fun _ hp => hp, G5, eo5, fun z hz => by simp only [if_neg hz]⟩
  clear F4 N4
  intro s5 u5 F5 N5 G5 eo5
  k_steps
  have hne5 := ne_of_grown (o := o9) l11 hlt9 hne
  obtain ⟨bm, ob, M5⟩ := bmod_of_top T1
  refine gx_list (F := fun _ v => v = .bool true) (l := l) (items := vs.toArray) (ps := ps) F5 N5 hne5 (cd29 X1) htr M5 rfl G5 T1.nolimit rfl rfl rfl (by decide) rfl rfl rfl ?_ ⟨_, (N5 _ (.tail _ (.tail _ hl1))).1, rfl, nn, rfl⟩ (fun Q' hQ' => ?_) ?_ ?_ (fun _ => rfl)
  · k_room
  · k_steps
    exact hQ'
  · intro A' E' i v u m₂ C code hA hv hns hmx F6 N6 hCL hC
    obtain ⟨y, hy, t, rfl⟩ := paired_at hi (show vs[i]? = some v by simpa using hv)
    have F7 := Fr.mk hns F6.keep hC
    refine wpAny_Compare1 (ldVarG F7 hmx ?_)
    refine wpAny_Constant_int ?_
    refine PyProof.Rows.ge_int ?_
    exact ⟨by simp, _, _, rfl, fun _ _ e => e⟩
  clear F5 N5
  intro a6 s6 ps6 F6 N6 ht6 G6 eo6 ed6 ha6 hL6 hK6 X6
  walk1
  refine gx_all F6 N6 hL6 hK6 G6 X6 (fun _ => true) (fun _ _ h => h) ?_
  clear F6 N6
  intro s7 F7 N7 G7 eo7
  rw [List.all_eq_true.mpr (fun _ _ => rfl)]
  walk1
  rw [if_neg (by decide)]
  repeat' walk1
  exact hQ a9 o9 ps6 s7 (FG1.keeps F7.keep) (newsSub (news_back FG1 N7) fun p hp => by
      rcases List.mem_cons.mp hp with rfl | hp
      · exact .head _
      · exact .tail _ (.tail _ hp)) (allLt_keys hlt9.2 (by (first | k_mem | ((repeat refine' List.Mem.tail _ ?_); refine' List.mem_append_right _ ?_; first | k_mem | (refine' List.mem_append_right _ ?_; k_mem)) | simp))) hS9 ht6 G7 (eo7.trans (eo6.trans (eo5.trans rfl)))
theorem cset_list_int {w : World} {p : Program} {loose : List Str} {mean : ExcName → Option Value} {mg mb : Str → Option Value} {g₀ : Array GenState}
  {dp un : Nat} {gd : Option (List Code)} {cn : Str} {nms : List (Str × NameKind)} {ig ic : Bool} {mo} {a : Option Addr} {lo go bi : Addr} {ccd : Value} {cl : List (Str × Addr)} {outer : List Env} {A₀ : Around} {base h₀ : Heap} {L : Addr} {m : Str → Option Value} (pre : List (Addr × Obj)) {post : List (Addr × Obj)} {s : Shared} {ps : Array Value}
    {Q E : Value → Shared → Prop} {l : Addr} {vs : List Value} {ns : List Nat} {nn : Nat} {num : Nat} {tn : Tok}
  (B : Below A₀ base outer h₀) (F : Fr h₀ L s.heap m) (X : (Mine.hd.heap_39 w.params).In h₀) (N : News h₀ L s.heap (pre ++ (25, tabObj ps) :: post)) (hne : ∀ q ∈ pre ++ post, q.1 ≠ 25) (htr : TriplesOk ps.toList) (G : GOk g₀ s.gens) (T : Top p loose mean mg mb h₀)
  (hl : (l, listOf vs.toArray nn) ∈ pre ++ post) (hi : Paired IntOf vs ns) (hnd : ns.Nodup) (h5 : ∀ x ∈ ns, x ∈ [0, 1, 2, 3, 4]) (hnum : ∀ x ∈ ns, x < num) (hd : dp + 10 < recursionLimit) (hu : un + 100 < cLine)
  (hQ : ∀ a' o' ps' s', Fr h₀ L s'.heap m → News h₀ L s'.heap ((a', o') :: (pre ++ (25, tabObj ps') :: post)) → AllLt a' (pre ++ (25, tabObj ps') :: post) → SetN w o' (setOf ns) → TriplesOk ps'.toList → GOk g₀ s'.gens → s'.os = s.os → Q (.ref a') s') :
  wpAny (model PySem.Challenge.pw_jg0002_01 w) ({ handled := none, depth := dp, frames := some ({ scope := ⟨.function, nms, ig, ic, mo⟩, locals := lo, globals := go, cells := cl, qual := cn, func := a, code := ccd, frame := some L, builtins := bi } :: outer), guards := gd, units := un } : Around) (call (.ref 30) [.ref l] [(Str.ofString "num_cand", .int (num : Int) tn)]) Q E s := by
  have hl1 : (l, listOf vs.toArray nn) ∈ pre ++ (25, tabObj ps) :: post := by
    rcases List.mem_append.mp hl with h | h
    · exact List.mem_append.mpr (.inl h)
    · exact List.mem_append.mpr (.inr (.tail _ h))
  refine wpAny_call ?_
  k_dflt k_enter
  rename_i g1 L1 h1 tk1 FG1 F1 B1 X1 T1 l11 o1 d11 N1
  k_steps
  rename Fr _ _ _ _ => F2
  rename News _ _ _ _ => N2
  refine newSet_listN F2 N2 rfl ⟨_, (N2 _ (.tail _ hl1)).1, rfl, nn, rfl⟩ hi hnd h5 ?_
  intro h9 tk9 o9 a9 F9 N9 hlt9 hS9
  k_steps
  rename News _ _ _ _ => N3
  refine len_listN (k := ns.length) ⟨_, (N3 _ (.tail _ (.tail _ hl1))).1, rfl, nn, rfl⟩ (by simpa using hi.length) (len_small hnd h5) ?_
  k_steps
  refine len_setN (k := ns.length) (N3 _ (.head _)).1 hS9.toO (setOf_perm hnd h5).length_eq ?_
  refine PyProof.Rows.ne_int ?_
  rw [show (((ns.length : Nat) : Int) != ((ns.length : Nat) : Int)) = false from bne_self_eq_false _]
  k_steps
  rename Fr _ _ _ _ => F4
  rename News _ _ _ _ => N4
  refine For_list_stay (l := l) (items := vs.toArray) F4 N4 G rfl (.inr (.tail _ (.tail _ hl1))) ⟨_, (N4 _ (.tail _ (.tail _ hl1))).1, rfl, nn, rfl⟩ (fun Q' hQ' => ?_) ?_ ?_
  · k_steps
    exact hQ'
  · intro i v u s₁ I oI hv hnI F5 N5 G5 eo5 hI5
    obtain ⟨y, hy, t, rfl⟩ := paired_at hi (show vs[i]? = some v by simpa using hv)
    k_steps
    rename Fr _ _ _ _ => F6
    rename News _ _ _ _ => N6
    exact ⟨_, _, F6, N6, fun _ hp => hp, G5, eo5, fun z hz => by simp only [if_neg hz]⟩
  clear F4 N4
  intro s5 u5 F5 N5 G5 eo5
  k_steps
  have hne5 := ne_of_grown (o := o9) l11 hlt9 hne
  obtain ⟨bm, ob, M5⟩ := bmod_of_top T1
  refine gx_list (F := fun _ v => v = .bool true) (l := l) (items := vs.toArray) (ps := ps) F5 N5 hne5 (cd29 X1) htr M5 rfl G5 T1.nolimit rfl rfl rfl (by decide) rfl rfl rfl ?_ ⟨_, (N5 _ (.tail _ (.tail _ hl1))).1, rfl, nn, rfl⟩ (fun Q' hQ' => ?_) ?_ ?_ (fun _ => rfl)
  · k_room
  · k_steps
    exact hQ'
  · intro A' E' i v u m₂ C code hA hv hns hmx F6 N6 hCL hC
    obtain ⟨y, hy, t, rfl⟩ := paired_at hi (show vs[i]? = some v by simpa using hv)
    have F7 := Fr.mk hns F6.keep hC
    refine wpAny_Compare1 (ldVarG F7 hmx ?_)
    refine wpAny_Constant_int ?_
    refine PyProof.Rows.ge_int ?_
    exact ⟨by simp, _, _, rfl, fun _ _ e => e⟩
  clear F5 N5
  intro a6 s6 ps6 F6 N6 ht6 G6 eo6 ed6 ha6 hL6 hK6 X6
  walk1
  refine gx_all F6 N6 hL6 hK6 G6 X6 (fun _ => true) (fun _ _ h => h) ?_
  clear F6 N6
  intro s7 F7 N7 G7 eo7
  rw [List.all_eq_true.mpr (fun _ _ => rfl)]
  walk1
  rw [if_neg (by decide)]
  k_steps
  have hl7 : (l, listOf vs.toArray nn) ∈ pre ++ (25, tabObj ps6) :: post := by
    rcases List.mem_append.mp hl with h | h
    · exact List.mem_append.mpr (.inl h)
    · exact List.mem_append.mpr (.inr (.tail _ h))
  refine gx_list (F := fun _ v => v = .bool false) (l := l) (items := vs.toArray) (ps := ps6) F7 N7 hne5 (cd29 X1) ht6 M5 rfl G7 T1.nolimit rfl rfl rfl (by decide) rfl rfl rfl ?_ ⟨_, (N7 _ (.tail _ (.tail _ hl7))).1, rfl, nn, rfl⟩ (fun Q' hQ' => ?_) ?_ ?_ (fun _ => rfl)
  · k_room
  · k_steps
    exact hQ'
  · intro A' E' i v u m₂ C code hA hv hns hmx F6 N6 hCL hC
    obtain ⟨y, hy, t, rfl⟩ := paired_at hi (show vs[i]? = some v by simpa using hv)
    have F7 := Fr.mk hns F6.keep hC
    refine wpAny_Compare1 (ldVarG F7 hmx ?_)
    refine ldFreeG (c := L1 + 1) (v := .int (num : Int) tn) rfl ⟨o1, (N6 _ (.tail _ (.head _))).1, d11.trans rfl⟩ ?_
    refine PyProof.Rows.ge_int ?_
    refine ⟨?_, _, _, rfl, fun _ _ e => e⟩
    have := hnum y (List.mem_of_getElem? hy)
    rw [decide_eq_false (by omega)]
  clear F7 N7
  intro a8 s8 ps8 F8 N8 ht8 G8 eo8 ed8 ha8 hL8 hK8 X8
  walk1
  refine gx_any F8 N8 hL8 hK8 G8 X8 (fun _ => false) (fun _ _ h => h) ?_
  clear F8 N8
  intro s9 F9 N9 G9 eo9
  rw [any_none]
  repeat' walk1
  exact hQ a9 o9 ps8 s9 (FG1.keeps F9.keep) (newsSub (news_back FG1 N9) fun p hp => by
      rcases List.mem_cons.mp hp with rfl | hp
      · exact .head _
      · exact .tail _ (.tail _ hp)) (allLt_keys hlt9.2 (by (first | k_mem | ((repeat refine' List.Mem.tail _ ?_); refine' List.mem_append_right _ ?_; first | k_mem | (refine' List.mem_append_right _ ?_; k_mem)) | simp))) hS9 ht8 G9 (eo9.trans (eo8.trans (eo7.trans (eo6.trans (eo5.trans rfl)))))
theorem cset_set {w : World} {p : Program} {loose : List Str} {mean : ExcName → Option Value} {mg mb : Str → Option Value} {g₀ : Array GenState}
  {dp un : Nat} {gd : Option (List Code)} {cn : Str} {nms : List (Str × NameKind)} {ig ic : Bool} {mo} {a : Option Addr} {lo go bi : Addr} {ccd : Value} {cl : List (Str × Addr)} {outer : List Env} {A₀ : Around} {base h₀ : Heap} {L : Addr} {m : Str → Option Value} (pre : List (Addr × Obj)) {post : List (Addr × Obj)} {s : Shared} {ps : Array Value}
    {Q E : Value → Shared → Prop} {l : Addr} {ol : Obj} {ns : List Nat}
  (B : Below A₀ base outer h₀) (F : Fr h₀ L s.heap m) (X : (Mine.hd.heap_39 w.params).In h₀) (N : News h₀ L s.heap (pre ++ (25, tabObj ps) :: post)) (hne : ∀ q ∈ pre ++ post, q.1 ≠ 25) (htr : TriplesOk ps.toList) (G : GOk g₀ s.gens) (T : Top p loose mean mg mb h₀)
  (hl : (l, ol) ∈ pre ++ post) (hi : SetN w ol ns) (hd : dp + 10 < recursionLimit) (hu : un + 100 < cLine)
  (hQ : ∀ a' o' ps' s', Fr h₀ L s'.heap m → News h₀ L s'.heap ((a', o') :: (pre ++ (25, tabObj ps') :: post)) → AllLt a' (pre ++ (25, tabObj ps') :: post) → SetN w o' (ns) → TriplesOk ps'.toList → GOk g₀ s'.gens → s'.os = s.os → Q (.ref a') s') :
  wpAny (model PySem.Challenge.pw_jg0002_01 w) ({ handled := none, depth := dp, frames := some ({ scope := ⟨.function, nms, ig, ic, mo⟩, locals := lo, globals := go, cells := cl, qual := cn, func := a, code := ccd, frame := some L, builtins := bi } :: outer), guards := gd, units := un } : Around) (call (.ref 30) [.ref l]) Q E s := by
  have hl1 : (l, ol) ∈ pre ++ (25, tabObj ps) :: post := by
    rcases List.mem_append.mp hl with h | h
    · exact List.mem_append.mpr (.inl h)
    · exact List.mem_append.mpr (.inr (.tail _ h))
  refine wpAny_call ?_
  k_dflt k_enter
  rename_i g1 L1 h1 tk1 FG1 F1 B1 X1 T1 l11 o1 d11 N1
  k_steps
  rename Fr _ _ _ _ => F2
  rename News _ _ _ _ => N2
  refine newSet_setN F2 N2 (N2 _ (.tail _ hl1)).1 hi ?_
  intro h9 tk9 o9 a9 F9 N9 hlt9 hS9
  k_steps
  rename News _ _ _ _ => N3
  refine len_setN (k := ns.length) (N3 _ (.tail _ (.tail _ hl1))).1 hi.toO rfl ?_
  k_steps
  refine len_setN (k := ns.length) (N3 _ (.head _)).1 hS9.toO rfl ?_
  refine PyProof.Rows.ne_int ?_
  rw [show (((ns.length : Nat) : Int) != ((ns.length : Nat) : Int)) = false from bne_self_eq_false _]
  k_steps
  rename Fr _ _ _ _ => F4
  rename News _ _ _ _ => N4
  refine For_set_stay (l := l) F4 N4 G rfl (.inr (.tail _ (.tail _ hl1))) hi.toO (fun Q' hQ' => ?_) ?_ ?_
  · k_steps
    exact hQ'
  · intro y t u s₁ I oI hv hnI F5 N5 G5 eo5 hI5
    k_steps
    rename Fr _ _ _ _ => F6
    rename News _ _ _ _ => N6
    exact ⟨_, _, F6, N6, fun _ hp => hp, G5, eo5, fun z hz => by simp only [if_neg hz]⟩
  clear F4 N4
  intro s5 u5 F5 N5 G5 eo5
  k_steps
  have hne5 := ne_of_grown (o := o9) l11 hlt9 hne
  obtain ⟨bm, ob, M5⟩ := bmod_of_top T1
  refine gx_set (F := fun _ v => v = .bool true) (l := l) (ps := ps) F5 N5 hne5 (cd29 X1) htr M5 rfl G5 T1.nolimit rfl rfl rfl (by decide) rfl rfl rfl ?_ (N5 _ (.tail _ (.tail _ hl1))).1 hi.toO (fun Q' hQ' => ?_) ?_ ?_ (fun _ => rfl)
  · k_room
  · k_steps
    exact hQ'
  · rintro ws ⟨ms, hms, hws⟩ A' E' i v u m₂ C code hA hv hns hmx F6 N6 hCL hC
    obtain ⟨y, hy, t, rfl⟩ := paired_at hws hv
    have F7 := Fr.mk hns F6.keep hC
    refine wpAny_Compare1 (ldVarG F7 hmx ?_)
    refine wpAny_Constant_int ?_
    refine PyProof.Rows.ge_int ?_
    exact ⟨by simp, _, _, rfl, fun _ _ e => e⟩
  clear F5 N5
  intro a6 s6 ps6 F6 N6 ht6 G6 eo6 ed6 ha6 hL6 hK6 X6
  walk1
  refine gx_all F6 N6 hL6 hK6 G6 X6 (fun _ => true) (fun _ _ h => h) ?_
  clear F6 N6
  intro s7 F7 N7 G7 eo7
  rw [List.all_eq_true.mpr (fun _ _ => rfl)]
  walk1
  rw [if_neg (by decide)]
  repeat' walk1
  exact hQ a9 o9 ps6 s7 (FG1.keeps F7.keep) (newsSub (news_back FG1 N7) fun p hp => by
      rcases List.mem_cons.mp hp with rfl | hp
      · exact .head _
      · exact .tail _ (.tail _ hp)) (allLt_keys hlt9.2 (by (first | k_mem | ((repeat refine' List.Mem.tail _ ?_); refine' List.mem_append_right _ ?_; first | k_mem | (refine' List.mem_append_right _ ?_; k_mem)) | simp))) hS9 ht6 G7 (eo7.trans (eo6.trans (eo5.trans rfl)))
theorem cset_set_int {w : World} {p : Program} {loose : List Str} {mean : ExcName → Option Value} {mg mb : Str → Option Value} {g₀ : Array GenState}
  {dp un : Nat} {gd : Option (List Code)} {cn : Str} {nms : List (Str × NameKind)} {ig ic : Bool} {mo} {a : Option Addr} {lo go bi : Addr} {ccd : Value} {cl : List (Str × Addr)} {outer : List Env} {A₀ : Around} {base h₀ : Heap} {L : Addr} {m : Str → Option Value} (pre : List (Addr × Obj)) {post : List (Addr × Obj)} {s : Shared} {ps : Array Value}
    {Q E : Value → Shared → Prop} {l : Addr} {ol : Obj} {ns : List Nat} {num : Nat} {tn : Tok}
  (B : Below A₀ base outer h₀) (F : Fr h₀ L s.heap m) (X : (Mine.hd.heap_39 w.params).In h₀) (N : News h₀ L s.heap (pre ++ (25, tabObj ps) :: post)) (hne : ∀ q ∈ pre ++ post, q.1 ≠ 25) (htr : TriplesOk ps.toList) (G : GOk g₀ s.gens) (T : Top p loose mean mg mb h₀)
  (hl : (l, ol) ∈ pre ++ post) (hi : SetN w ol ns) (hnum : ∀ x ∈ ns, x < num) (hd : dp + 10 < recursionLimit) (hu : un + 100 < cLine)
  (hQ : ∀ a' o' ps' s', Fr h₀ L s'.heap m → News h₀ L s'.heap ((a', o') :: (pre ++ (25, tabObj ps') :: post)) → AllLt a' (pre ++ (25, tabObj ps') :: post) → SetN w o' (ns) → TriplesOk ps'.toList → GOk g₀ s'.gens → s'.os = s.os → Q (.ref a') s') :
  wpAny (model PySem.Challenge.pw_jg0002_01 w) ({ handled := none, depth := dp, frames := some ({ scope := ⟨.function, nms, ig, ic, mo⟩, locals := lo, globals := go, cells := cl, qual := cn, func := a, code := ccd, frame := some L, builtins := bi } :: outer), guards := gd, units := un } : Around) (call (.ref 30) [.ref l] [(Str.ofString "num_cand", .int (num : Int) tn)]) Q E s := by
  have hl1 : (l, ol) ∈ pre ++ (25, tabObj ps) :: post := by
    rcases List.mem_append.mp hl with h | h
    · exact List.mem_append.mpr (.inl h)
    · exact List.mem_append.mpr (.inr (.tail _ h))
  refine wpAny_call ?_
  k_dflt k_enter
  rename_i g1 L1 h1 tk1 FG1 F1 B1 X1 T1 l11 o1 d11 N1
  k_steps
  rename Fr _ _ _ _ => F2
  rename News _ _ _ _ => N2
  refine newSet_setN F2 N2 (N2 _ (.tail _ hl1)).1 hi ?_
  intro h9 tk9 o9 a9 F9 N9 hlt9 hS9
  k_steps
  rename News _ _ _ _ => N3
  refine len_setN (k := ns.length) (N3 _ (.tail _ (.tail _ hl1))).1 hi.toO rfl ?_
  k_steps
  refine len_setN (k := ns.length) (N3 _ (.head _)).1 hS9.toO rfl ?_
  refine PyProof.Rows.ne_int ?_
  rw [show (((ns.length : Nat) : Int) != ((ns.length : Nat) : Int)) = false from bne_self_eq_false _]
  k_steps
  rename Fr _ _ _ _ => F4
  rename News _ _ _ _ => N4
  refine For_set_stay (l := l) F4 N4 G rfl (.inr (.tail _ (.tail _ hl1))) hi.toO (fun Q' hQ' => ?_) ?_ ?_
  · k_steps
    exact hQ'
  · intro y t u s₁ I oI hv hnI F5 N5 G5 eo5 hI5
    k_steps
    rename Fr _ _ _ _ => F6
    rename News _ _ _ _ => N6
    exact ⟨_, _, F6, N6, fun _ hp => hp, G5, eo5, fun z hz => by simp only [if_neg hz]⟩
  clear F4 N4
  intro s5 u5 F5 N5 G5 eo5
  k_steps
  have hne5 := ne_of_grown (o := o9) l11 hlt9 hne
  obtain ⟨bm, ob, M5⟩ := bmod_of_top T1
  refine gx_set (F := fun _ v => v = .bool true) (l := l) (ps := ps) F5 N5 hne5 (cd29 X1) htr M5 rfl G5 T1.nolimit rfl rfl rfl (by decide) rfl rfl rfl ?_ (N5 _ (.tail _ (.tail _ hl1))).1 hi.toO (fun Q' hQ' => ?_) ?_ ?_ (fun _ => rfl)
  · k_room
  · k_steps
    exact hQ'
  · rintro ws ⟨ms, hms, hws⟩ A' E' i v u m₂ C code hA hv hns hmx F6 N6 hCL hC
    obtain ⟨y, hy, t, rfl⟩ := paired_at hws hv
    have F7 := Fr.mk hns F6.keep hC
    refine wpAny_Compare1 (ldVarG F7 hmx ?_)
    refine wpAny_Constant_int ?_
    refine PyProof.Rows.ge_int ?_
    exact ⟨by simp, _, _, rfl, fun _ _ e => e⟩
  clear F5 N5
  intro a6 s6 ps6 F6 N6 ht6 G6 eo6 ed6 ha6 hL6 hK6 X6
  walk1
  refine gx_all F6 N6 hL6 hK6 G6 X6 (fun _ => true) (fun _ _ h => h) ?_
  clear F6 N6
  intro s7 F7 N7 G7 eo7
  rw [List.all_eq_true.mpr (fun _ _ => rfl)]
  walk1
  rw [if_neg (by decide)]
  k_steps
  have hl7 : (l, ol) ∈ pre ++ (25, tabObj ps6) :: post := by
    rcases List.mem_append.mp hl with h | h
    · exact List.mem_append.mpr (.inl h)
    · exact List.mem_append.mpr (.inr (.tail _ h))
  refine gx_set (F := fun _ v => v = .bool false) (l := l) (ps := ps6) F7 N7 hne5 (cd29 X1) ht6 M5 rfl G7 T1.nolimit rfl rfl rfl (by decide) rfl rfl rfl ?_ (N7 _ (.tail _ (.tail _ hl7))).1 hi.toO (fun Q' hQ' => ?_) ?_ ?_ (fun _ => rfl)
  · k_room
  · k_steps
    exact hQ'
  · rintro ws ⟨ms, hms, hws⟩ A' E' i v u m₂ C code hA hv hns hmx F6 N6 hCL hC
    obtain ⟨y, hy, t, rfl⟩ := paired_at hws hv
    have F7 := Fr.mk hns F6.keep hC
    refine wpAny_Compare1 (ldVarG F7 hmx ?_)
    refine ldFreeG (c := L1 + 1) (v := .int (num : Int) tn) rfl ⟨o1, (N6 _ (.tail _ (.head _))).1, d11.trans rfl⟩ ?_
    refine PyProof.Rows.ge_int ?_
    refine ⟨?_, _, _, rfl, fun _ _ e => e⟩
    have := hnum y (hms.mem_iff.mp (List.mem_of_getElem? hy))
    rw [decide_eq_false (by omega)]
  clear F7 N7
  intro a8 s8 ps8 F8 N8 ht8 G8 eo8 ed8 ha8 hL8 hK8 X8
  walk1
  refine gx_any F8 N8 hL8 hK8 G8 X8 (fun _ => false) (fun _ _ h => h) ?_
  clear F8 N8
  intro s9 F9 N9 G9 eo9
  rw [any_none]
  repeat' walk1
  exact hQ a9 o9 ps8 s9 (FG1.keeps F9.keep) (newsSub (news_back FG1 N9) fun p hp => by
      rcases List.mem_cons.mp hp with rfl | hp
      · exact .head _
      · exact .tail _ (.tail _ hp)) (allLt_keys hlt9.2 (by (first | k_mem | ((repeat refine' List.Mem.tail _ ?_); refine' List.mem_append_right _ ?_; first | k_mem | (refine' List.mem_append_right _ ?_; k_mem)) | simp))) hS9 ht8 G9 (eo9.trans (eo8.trans (eo7.trans (eo6.trans (eo5.trans rfl)))))
end
section
open PySem PySem.W PySem.Calls PyProof.Rows PySem.Spec
theorem ne_cons {P : Addr} {q : Addr × Obj} {l : List (Addr × Obj)} (h : P < q.1) (k : ∀ p ∈ l, p.1 ≠ P) : ∀ p ∈ q :: l, p.1 ≠ P := by
  intro p hp
  rcases List.mem_cons.mp hp with rfl | hp
  · exact Nat.ne_of_gt h
  · exact k p hp
theorem units_under_kw' (A : Around) (C : Addr) (vals : List Value) (kw : List (Str × Value)) : (A.under (.builtin "type.__call__" ⟨.ref C :: vals, kw⟩)).units = A.units + 1 := rfl
theorem depth_under_kw' (A : Around) (C : Addr) (vals : List Value) (kw : List (Str × Value)) : (A.under (.builtin "type.__call__" ⟨.ref C :: vals, kw⟩)).depth = A.depth + 1 := rfl
theorem mem_of_news {h₀ h : Heap} {L : Addr} {q : Addr × Obj} {led : List (Addr × Obj)} (_N : News h₀ L h led) (h : q ∈ led) : q ∈ led := h
theorem mem_grown {q : Addr × Obj} {pre1 mid post : List (Addr × Obj)} {v : Addr} {o o' t t' : Obj} {P : Addr} (h : q ∈ pre1 ++ (v, o) :: (mid ++ (P, t) :: post)) (h1 : q ≠ (P, t)) (h2 : q ≠ (v, o)) : q ∈ pre1 ++ (v, o') :: (mid ++ (P, t') :: post) := by
  simp only [List.mem_append, List.mem_cons] at h ⊢
  rcases h with h | h | h | h | h
  · exact .inl h
  · exact absurd h h2
  · exact .inr (.inr (.inl h))
  · exact absurd h h1
  · exact .inr (.inr (.inr (.inr h)))
section
variable {prog : Program} {w : World} {A : Around} {E : Value → Shared → Prop} {s : Shared} {h₀ : Heap} {L : Addr} {m : Str → Option Value}
theorem news_upd {h h' : Heap} {v : Addr} {o o' : Obj} {As Bs : List (Addr × Obj)} (N : News h₀ L h (As ++ (v, o) :: Bs)) (hne : ∀ q ∈ As ++ Bs, q.1 ≠ v) (hs : Heap.SameBut v h h') (ho : h'.get? v = some o') : News h₀ L h' (As ++ (v, o') :: Bs) := by
  have hv := N (v, o) (by (first | k_mem | ((repeat refine' List.Mem.tail _ ?_); refine' List.mem_append_right _ ?_; first | k_mem | (refine' List.mem_append_right _ ?_; k_mem)) | simp))
  intro p hp
  rcases List.mem_append.mp hp with hp | hp
  · have z := N p (List.mem_append.mpr (.inl hp))
    exact ⟨hs.extBut _ _ (hne p (List.mem_append.mpr (.inl hp))) z.1, z.2⟩
  · rcases List.mem_cons.mp hp with rfl | hp
    · exact ⟨ho, hv.2⟩
    · have z := N p (List.mem_append.mpr (.inr (.tail _ hp)))
      exact ⟨hs.extBut _ _ (hne p (List.mem_append.mpr (.inr hp))) z.1, z.2⟩
theorem append_N {v : Addr} {vvs : Array Value} {kk : Nat} {x : Value} {As Bs : List (Addr × Obj)} {Q : Value → Shared → Prop} (F : Fr h₀ L s.heap m) (N : News h₀ L s.heap (As ++ (v, listOf vvs kk) :: Bs)) (hne : ∀ q ∈ As ++ Bs, q.1 ≠ v) (hsz : vvs.size ≤ sizeLine)
    (h : ∀ h', Fr h₀ L h' m → News h₀ L h' (As ++ (v, listOf (vvs.push x) (kk + 1)) :: Bs) → Q .none { s with heap := h' }) : wpAny (model prog w) A (call (.builtin "list.append") [.ref v, x]) Q E s := by
  have hv := N (v, listOf vvs kk) (by (first | k_mem | ((repeat refine' List.Mem.tail _ ?_); refine' List.mem_append_right _ ?_; first | k_mem | (refine' List.mem_append_right _ ?_; k_mem)) | simp))
  exact append_at (hsz := hsz) hv.1 fun h' hs ho => h h' (F.change hs hv.2.1 hv.2.2) (news_upd N hne hs ho)
end
def Hold (P : Prop) : Prop := P
theorem hold {P : Prop} (h : Hold P) : P := h
theorem held {P : Prop} (h : P) : Hold P := h
theorem hold_sub {M : Model} {A : Around} {e1 e2 : Expr} {r : Addr} {i : Int} {t : Tok} {Q E : Value → Shared → Prop} {s : Shared} (h : Hold (wpAny M A (subscriptTail e1 e2 (.ref r) (.int i t)) Q E s)) : wpAny M A (subscriptTail e1 e2 (.ref r) (.int i t)) Q E s := h
theorem hold_37 {M : Model} {A : Around} {args : List Value} {kw : List (Str × Value)} {Q E : Value → Shared → Prop} {s : Shared} (h : Hold (wpAny M A (call (.ref 37) args kw) Q E s)) : wpAny M A (call (.ref 37) args kw) Q E s := h
theorem hold_333 {M : Model} {A : Around} {args : List Value} {kw : List (Str × Value)} {Q E : Value → Shared → Prop} {s : Shared} (h : Hold (wpAny M A (call (.ref 333) args kw) Q E s)) : wpAny M A (call (.ref 333) args kw) Q E s := h
theorem hold_336 {M : Model} {A : Around} {args : List Value} {kw : List (Str × Value)} {Q E : Value → Shared → Prop} {s : Shared} (h : Hold (wpAny M A (call (.ref 336) args kw) Q E s)) : wpAny M A (call (.ref 336) args kw) Q E s := h
theorem hold_415 {M : Model} {A : Around} {args : List Value} {kw : List (Str × Value)} {Q E : Value → Shared → Prop} {s : Shared} (h : Hold (wpAny M A (call (.ref 415) args kw) Q E s)) : wpAny M A (call (.ref 415) args kw) Q E s := h
theorem hold_420 {M : Model} {A : Around} {args : List Value} {kw : List (Str × Value)} {Q E : Value → Shared → Prop} {s : Shared} (h : Hold (wpAny M A (call (.ref 420) args kw) Q E s)) : wpAny M A (call (.ref 420) args kw) Q E s := h
theorem hold_469 {M : Model} {A : Around} {args : List Value} {kw : List (Str × Value)} {Q E : Value → Shared → Prop} {s : Shared} (h : Hold (wpAny M A (call (.ref 469) args kw) Q E s)) : wpAny M A (call (.ref 469) args kw) Q E s := h
theorem hold_490 {M : Model} {A : Around} {args : List Value} {kw : List (Str × Value)} {Q E : Value → Shared → Prop} {s : Shared} (h : Hold (wpAny M A (call (.ref 490) args kw) Q E s)) : wpAny M A (call (.ref 490) args kw) Q E s := h
theorem hold_525 {M : Model} {A : Around} {args : List Value} {kw : List (Str × Value)} {Q E : Value → Shared → Prop} {s : Shared} (h : Hold (wpAny M A (call (.ref 525) args kw) Q E s)) : wpAny M A (call (.ref 525) args kw) Q E s := h
theorem hold_542 {M : Model} {A : Around} {args : List Value} {kw : List (Str × Value)} {Q E : Value → Shared → Prop} {s : Shared} (h : Hold (wpAny M A (call (.ref 542) args kw) Q E s)) : wpAny M A (call (.ref 542) args kw) Q E s := h
theorem hold_579 {M : Model} {A : Around} {args : List Value} {kw : List (Str × Value)} {Q E : Value → Shared → Prop} {s : Shared} (h : Hold (wpAny M A (call (.ref 579) args kw) Q E s)) : wpAny M A (call (.ref 579) args kw) Q E s := h
theorem hold_asg_marks {M : Model} {A : Around} {p : Pos} {e : Expr} {sp : Pos} {env : Env} {Q : Flow → Shared → Prop} {E : Value → Shared → Prop} {s : Shared} (h : Hold (wpAny M A (exec (Stmt.Assign [Expr.Name (Str.ofString "marks") p] e sp) env) Q E s)) : wpAny M A (exec (Stmt.Assign [Expr.Name (Str.ofString "marks") p] e sp) env) Q E s := h
theorem hold_asg_n {M : Model} {A : Around} {p : Pos} {e : Expr} {sp : Pos} {env : Env} {Q : Flow → Shared → Prop} {s : Shared} (h : Hold (wpAny M A (exec (Stmt.Assign [Expr.Name (Str.ofString "n") p] e sp) env) Q (fun _ _ => False) s)) : wpAny M A (exec (Stmt.Assign [Expr.Name (Str.ofString "n") p] e sp) env) Q (fun _ _ => False) s := h
theorem hold_asg_remaining_voters {M : Model} {A : Around} {p : Pos} {e : Expr} {sp : Pos} {env : Env} {Q : Flow → Shared → Prop} {E : Value → Shared → Prop} {s : Shared} (h : Hold (wpAny M A (exec (Stmt.Assign [Expr.Name (Str.ofString "remaining_voters") p] e sp) env) Q E s)) : wpAny M A (exec (Stmt.Assign [Expr.Name (Str.ofString "remaining_voters") p] e sp) env) Q E s := h
theorem lt_grown {d P : Addr} {t t' : Obj} {pre post : List (Addr × Obj)} (h : ∀ p ∈ pre ++ (P, t) :: post, p.1 < d) : ∀ p ∈ pre ++ (P, t') :: post, p.1 < d := by
  intro p hp
  rcases List.mem_append.mp hp with hp | hp
  · exact h p (List.mem_append.mpr (.inl hp))
  · rcases List.mem_cons.mp hp with rfl | hp
    · exact h (P, t) (by (first | k_mem | ((repeat refine' List.Mem.tail _ ?_); refine' List.mem_append_right _ ?_; first | k_mem | (refine' List.mem_append_right _ ?_; k_mem)) | simp))
    · exact h p (List.mem_append.mpr (.inr (.tail _ hp)))
end
section
open PySem PySem.W PySem.Calls PyProof.Rows PySem.Spec
set_option maxRecDepth 100000
set_option maxHeartbeats 4000000
theorem voter_int {w : World} {p : Program} {loose : List Str} {mean : ExcName → Option Value} {mg mb : Str → Option Value} {g₀ : Array GenState}
  {dp un : Nat} {gd : Option (List Code)} {cn : Str} {nms : List (Str × NameKind)} {ig ic : Bool} {mo} {a : Addr} {ccd : Value} {cl : List (Str × Addr)} {outer : List Env} {A₀ : Around} {base h₀ : Heap} {L : Addr} {m : Str → Option Value} (pre : List (Addr × Obj)) {post : List (Addr × Obj)} {s : Shared} {ps : Array Value}
  {Q E : Value → Shared → Prop} {l : Addr} {vs : List Value} {ns : List Nat} {nn : Nat} {num : Nat} {tn : Tok}
  (B : Below A₀ base outer h₀) (F : Fr h₀ L s.heap m) (X : (Mine.hd.heap_39 w.params).In h₀) (N : News h₀ L s.heap (pre ++ (25, tabObj ps) :: post)) (hne : ∀ q ∈ pre ++ post, q.1 ≠ 25) (htr : TriplesOk ps.toList) (G : GOk g₀ s.gens) (T : Top p loose mean mg mb h₀)
  (hl : (l, listOf vs.toArray nn) ∈ pre ++ post) (hi : Paired IntOf vs ns) (hnd : ns.Nodup) (h5 : ∀ x ∈ ns, x ∈ [0, 1, 2, 3, 4]) (hnum : ∀ x ∈ ns, x < num) (hd : dp + 20 < recursionLimit) (hu : un + 200 < cLine)
  (hQ : ∀ a' o' x' d' ps' t1 t2 t3 s', Fr h₀ L s'.heap m → News h₀ L s'.heap ((a', o') :: (x', instObj 579 d') :: (d', dictOf [⟨PyData.keyHash w.params (Str.ofString "approved"), .str (Str.ofString "approved") t1, .ref a'⟩, ⟨PyData.keyHash w.params (Str.ofString "weight"), .str (Str.ofString "weight") t2, .int 1 t3⟩] 2) :: (pre ++ (25, tabObj ps') :: post)) →
    (∀ p ∈ pre ++ (25, tabObj ps') :: post, p.1 < d') → @LT.lt Nat _ d' x' → @LT.lt Nat _ x' a' → SetN w o' (setOf ns) → TriplesOk ps'.toList → GOk g₀ s'.gens → s'.os = s.os → Q (.ref x') s') :
  wpAny (model PySem.Challenge.pw_jg0002_01 w) (ktrTop dp un gd cn ⟨.function, nms, ig, ic, mo⟩ L a ccd cl outer) (call (.ref 579) [.ref l] [(Str.ofString "num_cand", .int (num : Int) tn)]) Q E s := by
  walk1
  rename_i x1 d1 h1 F1 N1 l11 l21 g2 L2 h2 FG2 F2 N2 B2 X2 T2
  iterate 13 walk1
  refine' cset_list_int (_ :: _ :: pre) ?B ?F ?X ?N ?hne ?htr ?G ?T ?hl ?hi ?hnd ?h5 ?hnum ?hd ?hu ?hQ
  case F => k_asm
  case B => k_asm
  case X => k_asm
  case N => k_asm
  case T => k_asm
  case G => assumption
  case htr => assumption
  case hl => (repeat (first | assumption | exact List.Mem.head _ | apply List.Mem.tail))
  case hi => assumption
  case hnd => assumption
  case h5 => assumption
  case hnum => assumption
  case hd => ((try simp only [depth_under_kw', depth_under_make, depth_under_kw, depth_in1, depth_deeper, depth_caller]); (try dsimp only [ktrTop]); omega)
  case hu => (have hcL9 := cLine_is; (try simp only [units_under_kw', units_under_make, units_in1, units_deeper, Around.mark_units, units_caller]); (try dsimp only [ktrTop]); omega)
  case hne =>
    have h25 := l11 (25, tabObj ps) (by (first | k_mem | ((repeat refine' List.Mem.tail _ ?_); refine' List.mem_append_right _ ?_; first | k_mem | (refine' List.mem_append_right _ ?_; k_mem)) | simp))
    exact ne_cons (Nat.lt_trans h25 l21) (ne_cons h25 hne)
  intro a3 o3 ps3 s3 F3 N3 lt3 S3 tr3 G3 eo3
  dsimp only [List.cons_append] at N3 lt3
  obtain ⟨lt31, lt32, lt33⟩ := lt3
  have l13 := lt_grown (t' := tabObj ps3) l11
  clear l11 N1 F1
  repeat' walk1
  rename News h₀ _ _ _ => N9
  rename Fr h₀ _ _ _ => F9
  exact hQ a3 o3 x1 d1 ps3 _ _ _ _ F9 N9 l13 l21 lt31 S3 tr3 G3 eo3
theorem voter_none {w : World} {p : Program} {loose : List Str} {mean : ExcName → Option Value} {mg mb : Str → Option Value} {g₀ : Array GenState}
  {dp un : Nat} {gd : Option (List Code)} {cn : Str} {nms : List (Str × NameKind)} {ig ic : Bool} {mo} {a : Addr} {ccd : Value} {cl : List (Str × Addr)} {outer : List Env} {A₀ : Around} {base h₀ : Heap} {L : Addr} {m : Str → Option Value} (pre : List (Addr × Obj)) {post : List (Addr × Obj)} {s : Shared} {ps : Array Value}
  {Q E : Value → Shared → Prop} {l : Addr} {vs : List Value} {ns : List Nat} {nn : Nat} {tw : Tok}
  (B : Below A₀ base outer h₀) (F : Fr h₀ L s.heap m) (X : (Mine.hd.heap_39 w.params).In h₀) (N : News h₀ L s.heap (pre ++ (25, tabObj ps) :: post)) (hne : ∀ q ∈ pre ++ post, q.1 ≠ 25) (htr : TriplesOk ps.toList) (G : GOk g₀ s.gens) (T : Top p loose mean mg mb h₀)
  (hl : (l, listOf vs.toArray nn) ∈ pre ++ post) (hi : Paired IntOf vs ns) (hnd : ns.Nodup) (h5 : ∀ x ∈ ns, x ∈ [0, 1, 2, 3, 4]) (hd : dp + 20 < recursionLimit) (hu : un + 200 < cLine)
  (hQ : ∀ a' o' x' d' ps' t1 t2 t3 s', Fr h₀ L s'.heap m → News h₀ L s'.heap ((a', o') :: (x', instObj 579 d') :: (d', dictOf [⟨PyData.keyHash w.params (Str.ofString "approved"), .str (Str.ofString "approved") t1, .ref a'⟩, ⟨PyData.keyHash w.params (Str.ofString "weight"), .str (Str.ofString "weight") t2, .int 2 t3⟩] 2) :: (pre ++ (25, tabObj ps') :: post)) →
    (∀ p ∈ pre ++ (25, tabObj ps') :: post, p.1 < d') → @LT.lt Nat _ d' x' → @LT.lt Nat _ x' a' → SetN w o' (setOf ns) → TriplesOk ps'.toList → GOk g₀ s'.gens → s'.os = s.os → Q (.ref x') s') :
  wpAny (model PySem.Challenge.pw_jg0002_01 w) (ktrTop dp un gd cn ⟨.function, nms, ig, ic, mo⟩ L a ccd cl outer) (call (.ref 579) [.ref l] [(Str.ofString "weight", .int 2 tw)]) Q E s := by
  walk1
  rename_i x1 d1 h1 F1 N1 l11 l21 g2 L2 h2 FG2 F2 N2 B2 X2 T2
  iterate 13 walk1
  refine' cset_list_none (_ :: _ :: pre) ?B ?F ?X ?N ?hne ?htr ?G ?T ?hl ?hi ?hnd ?h5 ?hd ?hu ?hQ
  case F => k_asm
  case B => k_asm
  case X => k_asm
  case N => k_asm
  case T => k_asm
  case G => assumption
  case htr => assumption
  case hl => (repeat (first | assumption | exact List.Mem.head _ | apply List.Mem.tail))
  case hi => assumption
  case hnd => assumption
  case h5 => assumption
  case hd => ((try simp only [depth_under_kw', depth_under_make, depth_under_kw, depth_in1, depth_deeper, depth_caller]); (try dsimp only [ktrTop]); omega)
  case hu => (have hcL9 := cLine_is; (try simp only [units_under_kw', units_under_make, units_in1, units_deeper, Around.mark_units, units_caller]); (try dsimp only [ktrTop]); omega)
  case hne =>
    have h25 := l11 (25, tabObj ps) (by (first | k_mem | ((repeat refine' List.Mem.tail _ ?_); refine' List.mem_append_right _ ?_; first | k_mem | (refine' List.mem_append_right _ ?_; k_mem)) | simp))
    exact ne_cons (Nat.lt_trans h25 l21) (ne_cons h25 hne)
  intro a3 o3 ps3 s3 F3 N3 lt3 S3 tr3 G3 eo3
  dsimp only [List.cons_append] at N3 lt3
  obtain ⟨lt31, lt32, lt33⟩ := lt3
  have l13 := lt_grown (t' := tabObj ps3) l11
  clear l11 N1 F1
  repeat' walk1
  rename News h₀ _ _ _ => N9
  rename Fr h₀ _ _ _ => F9
  exact hQ a3 o3 x1 d1 ps3 _ _ _ _ F9 N9 l13 l21 lt31 S3 tr3 G3 eo3
theorem voter_set {w : World} {p : Program} {loose : List Str} {mean : ExcName → Option Value} {mg mb : Str → Option Value} {g₀ : Array GenState}
  {dp un : Nat} {gd : Option (List Code)} {cn : Str} {nms : List (Str × NameKind)} {ig ic : Bool} {mo} {a : Addr} {ccd : Value} {cl : List (Str × Addr)} {outer : List Env} {A₀ : Around} {base h₀ : Heap} {L : Addr} {m : Str → Option Value} (pre : List (Addr × Obj)) {post : List (Addr × Obj)} {s : Shared} {ps : Array Value}
  {Q E : Value → Shared → Prop} {l : Addr} {ol : Obj} {ns : List Nat} {num : Nat} {tn : Tok} {tw : Tok}
  (B : Below A₀ base outer h₀) (F : Fr h₀ L s.heap m) (X : (Mine.hd.heap_39 w.params).In h₀) (N : News h₀ L s.heap (pre ++ (25, tabObj ps) :: post)) (hne : ∀ q ∈ pre ++ post, q.1 ≠ 25) (htr : TriplesOk ps.toList) (G : GOk g₀ s.gens) (T : Top p loose mean mg mb h₀)
  (hl : (l, ol) ∈ pre ++ post) (hi : SetN w ol ns) (hnum : ∀ x ∈ ns, x < num) (hd : dp + 20 < recursionLimit) (hu : un + 200 < cLine)
  (hQ : ∀ a' o' x' d' ps' t1 t2 t3 s', Fr h₀ L s'.heap m → News h₀ L s'.heap ((a', o') :: (x', instObj 579 d') :: (d', dictOf [⟨PyData.keyHash w.params (Str.ofString "approved"), .str (Str.ofString "approved") t1, .ref a'⟩, ⟨PyData.keyHash w.params (Str.ofString "weight"), .str (Str.ofString "weight") t2, .int 2 t3⟩] 2) :: (pre ++ (25, tabObj ps') :: post)) →
    (∀ p ∈ pre ++ (25, tabObj ps') :: post, p.1 < d') → @LT.lt Nat _ d' x' → @LT.lt Nat _ x' a' → SetN w o' (ns) → TriplesOk ps'.toList → GOk g₀ s'.gens → s'.os = s.os → Q (.ref x') s') :
  wpAny (model PySem.Challenge.pw_jg0002_01 w) (ktrTop dp un gd cn ⟨.function, nms, ig, ic, mo⟩ L a ccd cl outer) (call (.ref 579) [.ref l] [(Str.ofString "weight", .int 2 tw), (Str.ofString "num_cand", .int (num : Int) tn)]) Q E s := by
  walk1
  rename_i x1 d1 h1 F1 N1 l11 l21 g2 L2 h2 FG2 F2 N2 B2 X2 T2
  iterate 13 walk1
  refine' cset_set_int (_ :: _ :: pre) ?B ?F ?X ?N ?hne ?htr ?G ?T ?hl ?hi ?hnum ?hd ?hu ?hQ
  case F => k_asm
  case B => k_asm
  case X => k_asm
  case N => k_asm
  case T => k_asm
  case G => assumption
  case htr => assumption
  case hl => (repeat (first | assumption | exact List.Mem.head _ | apply List.Mem.tail))
  case hi => assumption
  case hnum => assumption
  case hd => ((try simp only [depth_under_kw', depth_under_make, depth_under_kw, depth_in1, depth_deeper, depth_caller]); (try dsimp only [ktrTop]); omega)
  case hu => (have hcL9 := cLine_is; (try simp only [units_under_kw', units_under_make, units_in1, units_deeper, Around.mark_units, units_caller]); (try dsimp only [ktrTop]); omega)
  case hne =>
    have h25 := l11 (25, tabObj ps) (by (first | k_mem | ((repeat refine' List.Mem.tail _ ?_); refine' List.mem_append_right _ ?_; first | k_mem | (refine' List.mem_append_right _ ?_; k_mem)) | simp))
    exact ne_cons (Nat.lt_trans h25 l21) (ne_cons h25 hne)
  intro a3 o3 ps3 s3 F3 N3 lt3 S3 tr3 G3 eo3
  dsimp only [List.cons_append] at N3 lt3
  obtain ⟨lt31, lt32, lt33⟩ := lt3
  have l13 := lt_grown (t' := tabObj ps3) l11
  clear l11 N1 F1
  repeat' walk1
  rename News h₀ _ _ _ => N9
  rename Fr h₀ _ _ _ => F9
  exact hQ a3 o3 x1 d1 ps3 _ _ _ _ F9 N9 l13 l21 lt31 S3 tr3 G3 eo3
end
theorem rs1 {prog : PySem.Program} {w : PySem.World} {A : PySem.Around} {Q : PySem.Flow → PySem.Shared → Prop} {E : PySem.Value → PySem.Shared → Prop} {s : PySem.Shared} {env : PySem.Env} (h : Q .next s) : PySem.wpAny (PySem.model prog w) A (PySem.execs [] env) Q E s := by
  w_top off
  walk1
  exact h
section
local macro_rules
  | `(tactic| walk_at "eval ListComp") => `(tactic| refine' Mine.hold ?_)
  | `(tactic| walk_at "CompSrc") => `(tactic| refine' Mine.hold ?_)
  | `(tactic| walk_at "call ref") => `(tactic| refine' Mine.hold_579 ?_)
  | `(tactic| walk_at "call builtin:list.append") => `(tactic| refine' Mine.hold ?_)
  | `(tactic| walk_at "setItem ref") => `(tactic| refine' Mine.hold ?_)
section
open PySem PySem.W PySem.Calls PyProof.Rows PySem.Spec
set_option maxRecDepth 100000
set_option maxHeartbeats 4000000
theorem pick6 {h₀ h : Heap} {L : Addr} {a b c d e f : Addr × Obj} {news : List (Addr × Obj)} (N : News h₀ L h (a :: b :: c :: d :: e :: f :: news)) : News h₀ L h (a :: c :: e :: f :: news) := newsSub N fun p hp => by
  rcases List.mem_cons.mp hp with rfl | hp
  · exact .head _
  · rcases List.mem_cons.mp hp with rfl | hp
    · exact .tail _ (.tail _ (.head _))
    · exact .tail _ (.tail _ (.tail _ (.tail _ hp)))
theorem profile_new {w : World} {p : Program} {loose : List Str} {mean : ExcName → Option Value} {mg mb : Str → Option Value}
  {dp un : Nat} {gd : Option (List Code)} {cn : Str} {nms : List (Str × NameKind)} {ig ic : Bool} {mo} {a : Addr} {ccd : Value} {cl : List (Str × Addr)} {outer : List Env} {A₀ : Around} {base h₀ : Heap} {L : Addr} {m : Str → Option Value} {news : List (Addr × Obj)} {s : Shared}
  {Q E : Value → Shared → Prop} {n : Nat} {tn : Tok}
  (B : Below A₀ base outer h₀) (F : Fr h₀ L s.heap m) (X : (Mine.hd.heap_39 w.params).In h₀) (N : News h₀ L s.heap news) (T : Top p loose mean mg mb h₀)
  (hn3 : 3 ≤ n) (hn5 : n ≤ 5) (hd : dp + 20 < recursionLimit) (hu : un + 200 < cLine)
  (hQ : ∀ v' c' x' d' vs nn t1 t2 t3 n' h' tk', Fr h₀ L h' m → News h₀ L h' ((v', listOf #[] 0) :: (c', listOf vs.toArray nn) :: (x', instObj 542 d') :: (d', dictOf [⟨PyData.keyHash w.params (Str.ofString "candidates"), .str (Str.ofString "candidates") t1, .ref c'⟩, ⟨PyData.keyHash w.params (Str.ofString "cand_names"), .str (Str.ofString "cand_names") t2, .ref n'⟩, ⟨PyData.keyHash w.params (Str.ofString "_voters"), .str (Str.ofString "_voters") t3, .ref v'⟩] 3) :: news) →
    (∀ p ∈ news, p.1 < d') → @LT.lt Nat _ d' x' → @LT.lt Nat _ x' c' → @LT.lt Nat _ c' v' → IntsAre vs (rangeKs 0 n) → Q (.ref x') { s with heap := h', toks := tk' }) :
  wpAny (model PySem.Challenge.pw_jg0002_01 w) (ktrTop dp un gd cn ⟨.function, nms, ig, ic, mo⟩ L a ccd cl outer) (call (.ref 542) [.int (n : Int) tn]) Q E s := by
  walk1
  rename_i x1 d1 h1 F1 N1 l11 l21 g2 L2 h2 tk2 FG2 F2 B2 X2 T2 l12 o2 d2 N2
  repeat' walk1
  refine Mine.held ?_
  rename Fr _ _ _ _ => F3
  refine' LCg.ListComp_U (F₀ := F3) (by with_unfolding_all rfl) (by decide) (by rfl) (by decide) (by rfl) ?_
  repeat' walk1
  refine Mine.held ?_
  rename Fr _ _ _ _ => F4
  rename News _ _ _ _ => N4
  rename IsRange _ _ _ _ _ _ _ _ => R4
  refine LCg.CompSrc.range (n := n) rfl F4 N4 R4 (by exact small_one (by omega) (by omega) (by omega) (by omega)) ?_ (by rw [sizeLine_eq]; omega) (fun g => ?_)
  · have := rangeSize_nat 0 (n : Int)
    simpa using this
  refine compU_ind (fun i ys nx => nx = _ ∧ ys.length = i) ?_ ?_ n 0 [] _ (Nat.zero_add _) ⟨rfl, rfl⟩
  · rintro i ys nx v I oI C oC D m₂ h tk E' hi ⟨rfl, hlen⟩ ⟨t, rfl⟩ hC hx F5 N5 off hne5
    have off6 := off
    dsimp only [LCg.Off3] at off
    repeat' walk1
    rename Fr _ _ _ _ => F6
    rename News _ _ _ _ => N6
    exact LCg.CompEnd.intro F6 N6 _ (fun _ h => h) off6 trivial ⟨rfl, by simp [hlen]⟩
  · rintro ys nx ⟨rfl, hlen⟩
    repeat' walk1
    rename News h₀ _ _ _ => N9
    rename Fr h₀ _ _ _ => F9
    rename IntsAre _ _ => i9
    exact hQ _ _ _ _ _ _ _ _ _ _ _ _ F9 (pick6 N9) l11 l21 (by omega) (by omega) i9
end
section
open PySem PySem.W PySem.Calls PyProof.Rows PySem.Spec
set_option maxRecDepth 100000
set_option maxHeartbeats 4000000
theorem add_voter {w : World} {p : Program} {loose : List Str} {mean : ExcName → Option Value} {mg mb : Str → Option Value} {g₀ : Array GenState}
  {dp un : Nat} {gd : Option (List Code)} {cn : Str} {nms : List (Str × NameKind)} {ig ic : Bool} {mo} {a : Addr} {ccd : Value} {cl : List (Str × Addr)} {outer : List Env} {A₀ : Around} {base h₀ : Heap} {L : Addr} {m : Str → Option Value} (pre1 mid : List (Addr × Obj)) {post : List (Addr × Obj)} {s : Shared} {ps : Array Value}
  {Q E : Value → Shared → Prop} {l x d c v n' : Addr} {vs cvs : List Value} {ns : List Nat} {nn cc kk n : Nat} {vvs : Array Value} {t1 t2 t3 : Tok}
  (B : Below A₀ base outer h₀) (F : Fr h₀ L s.heap m) (X : (Mine.hd.heap_39 w.params).In h₀) (N : News h₀ L s.heap (pre1 ++ (v, listOf vvs kk) :: (mid ++ (25, tabObj ps) :: post)))
  (hne : ∀ q ∈ pre1 ++ (v, listOf vvs kk) :: mid ++ post, q.1 ≠ 25) (hnv : ∀ q ∈ pre1 ++ (mid ++ (25, tabObj ps) :: post), q.1 ≠ v) (htr : TriplesOk ps.toList) (G : GOk g₀ s.gens) (T : Top p loose mean mg mb h₀)
  (hx : (x, instObj 542 d) ∈ pre1 ++ (v, listOf vvs kk) :: (mid ++ (25, tabObj ps) :: post))
  (hdd : (d, dictOf [⟨PyData.keyHash w.params (Str.ofString "candidates"), .str (Str.ofString "candidates") t1, .ref c⟩, ⟨PyData.keyHash w.params (Str.ofString "cand_names"), .str (Str.ofString "cand_names") t2, .ref n'⟩, ⟨PyData.keyHash w.params (Str.ofString "_voters"), .str (Str.ofString "_voters") t3, .ref v⟩] 3) ∈ pre1 ++ (v, listOf vvs kk) :: (mid ++ (25, tabObj ps) :: post))
  (hc : (c, listOf cvs.toArray cc) ∈ pre1 ++ (v, listOf vvs kk) :: (mid ++ (25, tabObj ps) :: post)) (hcv : cvs.length = n) (hn5 : n ≤ 5)
  (hl : (l, listOf vs.toArray nn) ∈ pre1 ++ (v, listOf vvs kk) :: (mid ++ (25, tabObj ps) :: post)) (hi : Paired IntOf vs ns) (hnd : ns.Nodup) (h5 : ∀ x ∈ ns, x ∈ [0, 1, 2, 3, 4]) (hnum : ∀ x ∈ ns, x < n) (hd : dp + 40 < recursionLimit) (hu : un + 400 < cLine) (hvz : vvs.size < 1000)
  (hQ : ∀ a' o' x' d' ps' t1 t2 t3 s', Fr h₀ L s'.heap m → News h₀ L s'.heap ((a', o') :: (x', instObj 579 d') :: (d', dictOf [⟨PyData.keyHash w.params (Str.ofString "approved"), .str (Str.ofString "approved") t1, .ref a'⟩, ⟨PyData.keyHash w.params (Str.ofString "weight"), .str (Str.ofString "weight") t2, .int 1 t3⟩] 2) :: (pre1 ++ (v, listOf (vvs.push (.ref x')) (kk + 1)) :: (mid ++ (25, tabObj ps') :: post))) →
    (∀ p ∈ pre1 ++ (v, listOf vvs kk) :: (mid ++ (25, tabObj ps') :: post), p.1 < d') → @LT.lt Nat _ d' x' → @LT.lt Nat _ x' a' → SetN w o' (setOf ns) → TriplesOk ps'.toList → GOk g₀ s'.gens → s'.os = s.os → Q .none s') :
  wpAny (model PySem.Challenge.pw_jg0002_01 w) (ktrTop dp un gd cn ⟨.function, nms, ig, ic, mo⟩ L a ccd cl outer) (call (.ref 469) [.ref x, .ref l]) Q E s := by
  refine wpAny_call ?_
  k_dflt k_enter
  rename_i g1 L1 h1 FG1 F1 N1 B1 X1 T1
  repeat' walk1
  rename News _ _ _ _ => N2
  refine len_listN (k := n) ⟨_, (N2 _ hc).1, rfl, cc, rfl⟩ (by simpa using hcv) (by omega) ?_
  repeat' walk1
  refine Mine.held ?_
  rename Fr _ _ _ _ => F3
  rename News _ _ _ _ => N3
  refine' voter_int (pre1 ++ (v, listOf vvs kk) :: mid) ?B F3 ?X (by simpa using N3) hne htr ?G ?T ?hl hi hnd h5 hnum ?hd ?hu ?hQ
  case B => k_asm
  case X => k_asm
  case T => k_asm
  case G => assumption
  case hl =>
    have := hl
    simp only [List.mem_append, List.mem_cons] at this ⊢
    rcases this with h | h | h | h | h
    · exact .inl (.inl h)
    · exact .inl (.inr (.inl h))
    · exact .inl (.inr (.inr h))
    · cases h
    · exact .inr h
  case hd => ((try simp only [depth_under_kw', depth_under_make, depth_under_kw, depth_in1, depth_deeper, depth_caller]); (try dsimp only [ktrTop]); omega)
  case hu => (have hcL9 := cLine_is; (try simp only [units_under_kw', units_under_make, units_in1, units_deeper, Around.mark_units, units_caller]); (try dsimp only [ktrTop]); omega)
  intro a4 o4 x4 d4 ps4 u1 u2 u3 s4 F4 N4 l4 l4x l4a S4 tr4 G4 eo4
  simp only [List.append_assoc, List.cons_append] at N4 l4
  repeat' walk1
  refine Mine.held ?_
  rename Fr _ _ _ _ => F5
  rename News _ _ _ _ => N5
  have hv4 : @LT.lt Nat _ v d4 := l4 (v, listOf vvs kk) (by (first | k_mem | ((repeat refine' List.Mem.tail _ ?_); refine' List.mem_append_right _ ?_; first | k_mem | (refine' List.mem_append_right _ ?_; k_mem)) | simp))
  have hne5 : ∀ oo : Obj, ∀ q ∈ ((a4, o4) :: (x4, instObj 579 d4) :: (d4, oo) :: pre1) ++ (mid ++ (25, tabObj ps4) :: post), q.1 ≠ v := by
    intro oo
    refine ne_cons (Nat.lt_trans hv4 (Nat.lt_trans l4x l4a)) (ne_cons (Nat.lt_trans hv4 l4x) (ne_cons hv4 ?_))
    intro q hq0
    have hq : q ∈ pre1 ++ (mid ++ (25, tabObj ps4) :: post) := hq0
    have h25 : (25 : Nat) ≠ v := hnv (25, tabObj ps) (by (first | k_mem | ((repeat refine' List.Mem.tail _ ?_); refine' List.mem_append_right _ ?_; first | k_mem | (refine' List.mem_append_right _ ?_; k_mem)) | simp))
    simp only [List.mem_append, List.mem_cons] at hq
    rcases hq with h | h | h | h
    · exact hnv q (by first | ((repeat (first | exact h | exact List.mem_append_left _ h | exact List.mem_append_right _ h | exact List.mem_append_right _ (List.mem_append_left _ h) | refine' List.Mem.tail _ ?_)); done) | simp [h])
    · exact hnv q (by first | ((repeat (first | exact h | exact List.mem_append_left _ h | exact List.mem_append_right _ h | exact List.mem_append_right _ (List.mem_append_left _ h) | refine' List.Mem.tail _ ?_)); done) | simp [h])
    · rw [h]; exact h25
    · exact hnv q (by first | ((repeat (first | exact h | exact List.mem_append_left _ h | exact List.mem_append_right _ h | exact List.mem_append_right _ (List.mem_append_left _ h) | refine' List.Mem.tail _ ?_)); done) | simp [h])
  refine append_N (As := (a4, o4) :: (x4, instObj 579 d4) :: (d4, _) :: pre1) (Bs := mid ++ (25, tabObj ps4) :: post) F5 N5 (hne5 _) (by rw [sizeLine_eq]; omega) ?_
  intro h6 F6 N6
  clear F5 N5
  repeat' walk1
  rename Fr h₀ _ _ _ => F9
  rename News h₀ _ _ _ => N9
  exact hQ a4 o4 x4 d4 ps4 _ _ _ _ F9 N9 l4 l4x l4a S4 tr4 G4 eo4
end
section
open PySem PySem.W PySem.Calls PyProof.Rows PySem.Spec
set_option maxRecDepth 100000
set_option maxHeartbeats 4000000
theorem set_item {w : World} {p : Program} {loose : List Str} {mean : ExcName → Option Value} {mg mb : Str → Option Value} {g₀ : Array GenState}
  {dp un : Nat} {gd : Option (List Code)} {cn : Str} {nms : List (Str × NameKind)} {ig ic : Bool} {mo} {a : Addr} {ccd : Value} {cl : List (Str × Addr)} {outer : List Env} {A₀ : Around} {base h₀ : Heap} {L : Addr} {m : Str → Option Value} (pre1 mid : List (Addr × Obj)) {post : List (Addr × Obj)} {s : Shared} {ps : Array Value}
  {Q E : Value → Shared → Prop} {y dy l x d c v n' : Addr} {ol : Obj} {cvs : List Value} {ns : List Nat} {i cc kk n : Nat} {vvs : Array Value} {t1 t2 t3 t4 t5 t6 ti : Tok}
  (B : Below A₀ base outer h₀) (F : Fr h₀ L s.heap m) (X : (Mine.hd.heap_39 w.params).In h₀) (N : News h₀ L s.heap (pre1 ++ (v, listOf vvs kk) :: (mid ++ (25, tabObj ps) :: post)))
  (hne : ∀ q ∈ pre1 ++ (v, listOf vvs kk) :: mid ++ post, q.1 ≠ 25) (hnv : ∀ q ∈ pre1 ++ (mid ++ (25, tabObj ps) :: post), q.1 ≠ v) (htr : TriplesOk ps.toList) (G : GOk g₀ s.gens) (T : Top p loose mean mg mb h₀)
  (hx : (x, instObj 542 d) ∈ pre1 ++ (v, listOf vvs kk) :: (mid ++ (25, tabObj ps) :: post))
  (hdd : (d, dictOf [⟨PyData.keyHash w.params (Str.ofString "candidates"), .str (Str.ofString "candidates") t1, .ref c⟩, ⟨PyData.keyHash w.params (Str.ofString "cand_names"), .str (Str.ofString "cand_names") t2, .ref n'⟩, ⟨PyData.keyHash w.params (Str.ofString "_voters"), .str (Str.ofString "_voters") t3, .ref v⟩] 3) ∈ pre1 ++ (v, listOf vvs kk) :: (mid ++ (25, tabObj ps) :: post))
  (hc : (c, listOf cvs.toArray cc) ∈ pre1 ++ (v, listOf vvs kk) :: (mid ++ (25, tabObj ps) :: post)) (hcv : cvs.length = n) (hn5 : n ≤ 5)
  (hy : (y, instObj 579 dy) ∈ pre1 ++ (v, listOf vvs kk) :: (mid ++ (25, tabObj ps) :: post))
  (hdy : (dy, dictOf [⟨PyData.keyHash w.params (Str.ofString "approved"), .str (Str.ofString "approved") t4, .ref l⟩, ⟨PyData.keyHash w.params (Str.ofString "weight"), .str (Str.ofString "weight") t5, .int 2 t6⟩] 2) ∈ pre1 ++ (v, listOf vvs kk) :: (mid ++ (25, tabObj ps) :: post))
  (hl : (l, ol) ∈ pre1 ++ (v, listOf vvs kk) :: mid ++ post) (hi : SetN w ol ns) (hnum : ∀ x ∈ ns, x < n) (hd : dp + 40 < recursionLimit) (hu : un + 400 < cLine) (hvz : vvs.size < 1000) (hiv : i < vvs.size)
  (hQ : ∀ a' o' x' d' ps' t1 t2 t3 s', Fr h₀ L s'.heap m → News h₀ L s'.heap ((a', o') :: (x', instObj 579 d') :: (d', dictOf [⟨PyData.keyHash w.params (Str.ofString "approved"), .str (Str.ofString "approved") t1, .ref a'⟩, ⟨PyData.keyHash w.params (Str.ofString "weight"), .str (Str.ofString "weight") t2, .int 2 t3⟩] 2) :: (pre1 ++ (v, listOf (vvs.setIfInBounds i (.ref x')) kk) :: (mid ++ (25, tabObj ps') :: post))) →
    (∀ p ∈ pre1 ++ (v, listOf vvs kk) :: (mid ++ (25, tabObj ps') :: post), p.1 < d') → @LT.lt Nat _ d' x' → @LT.lt Nat _ x' a' → SetN w o' ns → TriplesOk ps'.toList → GOk g₀ s'.gens → s'.os = s.os → Q .none s') :
  wpAny (model PySem.Challenge.pw_jg0002_01 w) (ktrTop dp un gd cn ⟨.function, nms, ig, ic, mo⟩ L a ccd cl outer) (call (.ref 525) [.ref x, .int (i : Int) ti, .ref y]) Q E s := by
  refine wpAny_call ?_
  k_dflt k_enter
  rename_i g1 L1 h1 FG1 F1 N1 B1 X1 T1
  repeat' walk1
  rename News _ _ _ _ => N2
  refine len_listN (k := n) ⟨_, (N2 _ hc).1, rfl, cc, rfl⟩ (by simpa using hcv) (by omega) ?_
  repeat' walk1
  refine Mine.held ?_
  rename Fr _ _ _ _ => F3
  rename News _ _ _ _ => N3
  refine' voter_set (pre1 ++ (v, listOf vvs kk) :: mid) ?B F3 ?X (by simpa using N3) hne htr ?G ?T hl hi hnum ?hd ?hu ?hQ
  case B => k_asm
  case X => k_asm
  case T => k_asm
  case G => assumption
  case hd => ((try simp only [depth_under_kw', depth_under_make, depth_under_kw, depth_in1, depth_deeper, depth_caller]); (try dsimp only [ktrTop]); omega)
  case hu => (have hcL9 := cLine_is; (try simp only [units_under_kw', units_under_make, units_in1, units_deeper, Around.mark_units, units_caller]); (try dsimp only [ktrTop]); omega)
  intro a4 o4 x4 d4 ps4 u1 u2 u3 s4 F4 N4 l4 l4x l4a S4 tr4 G4 eo4
  simp only [List.append_assoc, List.cons_append] at N4 l4
  have hx4 := mem_grown (o' := listOf vvs kk) (t' := tabObj ps4) hx (fun e => by cases e) (fun e => by cases e)
  have hdd4 := mem_grown (o' := listOf vvs kk) (t' := tabObj ps4) hdd (fun e => by cases e) (fun e => by simp at e)
  have hx5 := mem_of_news N4 (.tail _ (.tail _ (.tail _ hx4)))
  have hdd5 := mem_of_news N4 (.tail _ (.tail _ (.tail _ hdd4)))
  clear hx hdd hx4 hdd4
  repeat' walk1
  refine Mine.held ?_
  rename Fr _ _ _ _ => F5
  rename News _ _ _ _ => N5
  have hv4 : @LT.lt Nat _ v d4 := l4 (v, listOf vvs kk) (by (first | k_mem | ((repeat refine' List.Mem.tail _ ?_); refine' List.mem_append_right _ ?_; first | k_mem | (refine' List.mem_append_right _ ?_; k_mem)) | simp))
  have hne5 : ∀ oo : Obj, ∀ q ∈ ((a4, o4) :: (x4, instObj 579 d4) :: (d4, oo) :: pre1) ++ (mid ++ (25, tabObj ps4) :: post), q.1 ≠ v := by
    intro oo
    refine ne_cons (Nat.lt_trans hv4 (Nat.lt_trans l4x l4a)) (ne_cons (Nat.lt_trans hv4 l4x) (ne_cons hv4 ?_))
    intro q hq0
    have hq : q ∈ pre1 ++ (mid ++ (25, tabObj ps4) :: post) := hq0
    have h25 : (25 : Nat) ≠ v := hnv (25, tabObj ps) (by (first | k_mem | ((repeat refine' List.Mem.tail _ ?_); refine' List.mem_append_right _ ?_; first | k_mem | (refine' List.mem_append_right _ ?_; k_mem)) | simp))
    simp only [List.mem_append, List.mem_cons] at hq
    rcases hq with h | h | h | h
    · exact hnv q (by first | ((repeat (first | exact h | exact List.mem_append_left _ h | exact List.mem_append_right _ h | exact List.mem_append_right _ (List.mem_append_left _ h) | refine' List.Mem.tail _ ?_)); done) | simp [h])
    · exact hnv q (by first | ((repeat (first | exact h | exact List.mem_append_left _ h | exact List.mem_append_right _ h | exact List.mem_append_right _ (List.mem_append_left _ h) | refine' List.Mem.tail _ ?_)); done) | simp [h])
    · rw [h]; exact h25
    · exact hnv q (by first | ((repeat (first | exact h | exact List.mem_append_left _ h | exact List.mem_append_right _ h | exact List.mem_append_right _ (List.mem_append_left _ h) | refine' List.Mem.tail _ ?_)); done) | simp [h])
  have hv5 := N5 (v, listOf vvs kk) (by (first | k_mem | ((repeat refine' List.Mem.tail _ ?_); refine' List.mem_append_right _ ?_; first | k_mem | (refine' List.mem_append_right _ ?_; k_mem)) | simp))
  refine ki_setAt (k := (i : Int)) hv5.1 (Int.natCast_nonneg _) (by omega) (by omega) ?_
  have hs6 : ∀ h : Heap, Heap.SameBut v h (h.update v (Obj.mapSeq (·.setIfInBounds (i : Int).toNat (.ref x4)))) := fun _ => Heap.SameBut.update ..
  have ho6 := Heap.get?_update_self (Obj.mapSeq (·.setIfInBounds (i : Int).toNat (.ref x4))) hv5.1 rfl
  have F6 := F5.change (hs6 _) hv5.2.1 hv5.2.2
  have N6 := news_upd (As := (a4, o4) :: (x4, instObj 579 d4) :: (d4, _) :: pre1) (Bs := mid ++ (25, tabObj ps4) :: post) (o' := listOf (vvs.setIfInBounds i (.ref x4)) kk) N5 (hne5 _) (hs6 _) (ho6.trans (congrArg some (by simp [Obj.mapSeq, PySem.W.listOf])))
  clear F5 N5
  dsimp only [List.cons_append] at N6
  repeat' walk1
  rename Fr h₀ _ _ _ => F9
  rename News h₀ _ _ _ => N9
  exact hQ a4 o4 x4 d4 ps4 _ _ _ _ F9 N9 l4 l4x l4a S4 tr4 G4 eo4
end
end
section
open PySem PySem.W PySem.Calls PyProof.Rows PySem.Spec
theorem elif_no {prog : Program} {w : World} {A : Around} {E : Value → Shared → Prop} {s : Shared} {h₀ : Heap} {L a : Addr} {m : Str → Option Value} {name : Str} {scope : Scope} {cd : Value} {x u y : Str} {t : Tok} {k : Nat} {p1 p2 p3 p4 : Pos} {body orelse : List Stmt} {Q : Flow → Shared → Prop}
    (F : Fr h₀ L s.heap m) (hv : m x = some (.str u t)) (hne : (u == y) = false) (hk : scope.kind = .function) (hl : (envOf name scope L a cd).kindOf x = some .local) (hd : (x == ("__debug__" : Str)) = false)
    (h : ∀ tk, wpAny (model prog w) A (execs orelse (envOf name scope L a cd)) Q E { s with toks := tk }) :
    wpAny (model prog w) A (execs [.If (.Compare (.Name x p1) [.Eq] [.Constant (.str y) k p2] p3) body orelse p4] (envOf name scope L a cd)) Q E s := by
  refine wpAny_execs_cons (wpAny_If (wpAny_isTrue_Compare1 (ld F hv ?_ hk hl hd)))
  refine Calls.Constant_str ?_
  refine PyProof.Rows.eq_str ?_
  rw [hne]
  refine wpAny_truthy_bool ?_
  rw [if_neg (by decide)]
  refine wpAny_mono (h _) (fun f s' q => ?_) fun _ _ e => e
  cases f with
  | next => exact wpAny_execs_nil q
  | cont => exact q
  | brk => exact q
  | ret v => exact q
theorem if_no {prog : Program} {w : World} {A : Around} {E : Value → Shared → Prop} {s : Shared} {h₀ : Heap} {L a : Addr} {m : Str → Option Value} {name : Str} {scope : Scope} {cd : Value} {x u y : Str} {t : Tok} {k : Nat} {p1 p2 p3 p4 : Pos} {body orelse : List Stmt} {Q : Flow → Shared → Prop}
    (F : Fr h₀ L s.heap m) (hv : m x = some (.str u t)) (hne : (u == y) = false) (hk : scope.kind = .function) (hl : (envOf name scope L a cd).kindOf x = some .local) (hd : (x == ("__debug__" : Str)) = false)
    (h : ∀ tk, wpAny (model prog w) A (execs orelse (envOf name scope L a cd)) Q E { s with toks := tk }) :
    wpAny (model prog w) A (exec (.If (.Compare (.Name x p1) [.Eq] [.Constant (.str y) k p2] p3) body orelse p4) (envOf name scope L a cd)) Q E s := by
  refine wpAny_If (wpAny_isTrue_Compare1 (ld F hv ?_ hk hl hd))
  refine Calls.Constant_str ?_
  refine PyProof.Rows.eq_str ?_
  rw [hne]
  refine wpAny_truthy_bool ?_
  rw [if_neg (by decide)]
  exact h _
theorem elif_yes {prog : Program} {w : World} {A : Around} {E : Value → Shared → Prop} {s : Shared} {h₀ : Heap} {L a : Addr} {m : Str → Option Value} {name : Str} {scope : Scope} {cd : Value} {x u y : Str} {t : Tok} {k : Nat} {p1 p2 p3 p4 : Pos} {body orelse : List Stmt} {Q : Flow → Shared → Prop}
    (F : Fr h₀ L s.heap m) (hv : m x = some (.str u t)) (hne : (u == y) = true) (hk : scope.kind = .function) (hl : (envOf name scope L a cd).kindOf x = some .local) (hd : (x == ("__debug__" : Str)) = false)
    (h : ∀ tk, wpAny (model prog w) A (execs body (envOf name scope L a cd)) Q E { s with toks := tk }) :
    wpAny (model prog w) A (execs [.If (.Compare (.Name x p1) [.Eq] [.Constant (.str y) k p2] p3) body orelse p4] (envOf name scope L a cd)) Q E s := by
  refine wpAny_execs_cons (wpAny_If (wpAny_isTrue_Compare1 (ld F hv ?_ hk hl hd)))
  refine Calls.Constant_str ?_
  refine PyProof.Rows.eq_str ?_
  rw [hne]
  refine wpAny_truthy_bool ?_
  rw [if_pos rfl]
  refine wpAny_mono (h _) (fun f s' q => ?_) fun _ _ e => e
  cases f with
  | next => exact wpAny_execs_nil q
  | cont => exact q
  | brk => exact q
  | ret v => exact q
end
section
open PySem PySem.W PySem.Calls PyProof.Rows PySem.Spec
set_option maxRecDepth 100000
def OneEnd (g₀ : Array GenState) (h₀ : Heap) (L : Addr) (x : Str) (m : Str → Option Value) (news₁ : List (Addr × Obj)) (I : Addr) (oI : Obj) (s₁ s₂ : Shared) : Prop :=
  ∃ m' news', Fr h₀ L s₂.heap m' ∧ News h₀ L s₂.heap news' ∧ (∀ p ∈ news₁, p ∈ news') ∧ (I, oI) ∈ news' ∧ (∀ p ∈ news₁, p.1 ≠ I) ∧ GOk g₀ s₂.gens ∧ s₂.os = s₁.os ∧ ∀ z, z ≠ x → m' z = m z
def OnePost (g₀ : Array GenState) (h₀ : Heap) (L : Addr) (x : Str) (m : Str → Option Value) (news₁ : List (Addr × Obj)) (I : Addr) (oI : Obj) (s₁ : Shared) (Q : Flow → Shared → Prop) (f : Flow) (s₂ : Shared) : Prop :=
  match f with
  | .ret v => Q (.ret v) s₂
  | .brk => Q .next s₂
  | .next => OneEnd g₀ h₀ L x m news₁ I oI s₁ s₂
  | .cont => OneEnd g₀ h₀ L x m news₁ I oI s₁ s₂
section
variable {prog : Program} {w : World} {A : Around} {s : Shared} {env : Env} {h₀ : Heap} {g₀ : Array GenState}
theorem For_tup1 {E : Value → Shared → Prop} {Q : Flow → Shared → Prop} {x : Str} {px pos : Pos} {iter : Expr} {body : List Stmt} {l : Addr} {v : Value} {n : Nat} {m : Str → Option Value} {news : List (Addr × Obj)} (news₁ : List (Addr × Obj))
    (F : Fr h₀ env.locals s.heap m) (N : News h₀ env.locals s.heap news) (G : GOk g₀ s.gens) (hh : A.handled = none)
    (hl : (l, ({ cls := .type "tuple", data := .seq #[v] n } : Obj)) ∈ news) (hl₁ : (l, ({ cls := .type "tuple", data := .seq #[v] n } : Obj)) ∈ news₁)
    (hiter : ∀ Q' : Value → Shared → Prop, (∀ tk, Q' (.ref l) { s with toks := tk }) → wpAny (model prog w) A (eval iter env) Q' E s)
    (step : ∀ (s₁ : Shared) (I : Addr) (oI : Obj), (∀ p ∈ news, p.1 ≠ I) → Fr h₀ env.locals s₁.heap m → News h₀ env.locals s₁.heap (news ++ [(I, oI)]) → GOk g₀ s₁.gens → s₁.os = s.os → I < s₁.heap.objs.size →
      wpAny (model prog w) A (assign (.Name x px) env v) (fun _ s₂ => wpAny (model prog w) A (execs body env) (OnePost g₀ h₀ env.locals x m news₁ I oI s Q) E s₂) E s₁)
    (hQ : ∀ s' u, Fr h₀ env.locals s'.heap (fun y => if y = x then u else m y) → News h₀ env.locals s'.heap news₁ → GOk g₀ s'.gens → s'.os = s.os → Q .next s')
    (hs : ∀ x, foldedSetIterable iter env x = pure x := by intro _; rfl)
    (hE : PassesOwn (model prog w) A env E := by passes_own) :
    wpAny (model prog w) A (exec (.For (.Name x px) iter body [] pos) env) Q E s := by
  have hg := (N _ hl).1
  have ht : s.heap.IsTuple l #[v] := ⟨_, hg, rfl, n, rfl⟩
  have hlt := Heap.lt_size hg
  have hne : l ≠ s.heap.objs.size := Nat.ne_of_lt hlt
  refine wpAny_For (hiter _ fun tk => wpAny_pyIter_tuple (s := { s with toks := tk }) ht ?_) hs
  refine forLoop_M (R := fun r s' => match r with | .ok f => Q f s' | .error e => cameBackBy (model prog w) A env E e s') (Walks.tuple (prog := prog) (w := w) hh s.heap.objs.size l hne #[v]) (fun _ => rfl)
    (fun i m' nx => (i = 0 ∧ m' = m ∧ nx = news) ∨ (i = 1 ∧ nx = news₁ ∧ ∃ u, m' = fun y => if y = x then u else m y)) ?_ ?_ ?_ ?_ ?_ ?_
    ⟨⟨_, Heap.get?_push_size _ rfl, rfl, rfl⟩, ht.push _⟩ (F.push _) (fun p hp => ⟨Heap.get?_push_of_some _ (N p hp).1, (N p hp).2⟩) G (.inl ⟨rfl, rfl, rfl⟩) ?_ ?_
  · intro b hb
    rcases List.mem_cons.mp hb with rfl | hb
    · exact .inl rfl
    · rw [List.mem_singleton.mp hb]
      refine .inr ⟨({ cls := .type "tuple", data := .seq #[v] n } : Obj), .inr fun i m' nx hJ => ?_⟩
      rcases hJ with ⟨_, _, rfl⟩ | ⟨_, rfl, _⟩
      · exact hl
      · exact hl₁
  · intro b hb
    exact List.mem_singleton.mp hb
  · rintro i h ⟨⟨o, ho, _⟩, _⟩
    exact ⟨o, ho⟩
  · exact Ne.symm (Nat.ne_of_lt F.ns.lt)
  · cases hq : h₀.get? s.heap.objs.size with
    | none => rfl
    | some o => exact absurd (Heap.lt_size (F.keep _ _ hq)) (Nat.lt_irrefl _)
  · intro p hp
    exact Nat.ne_of_lt (Heap.lt_size (N p hp).1)
  · rintro i v' m₁ nx s₁ oI hi hP (⟨rfl, rfl, rfl⟩ | ⟨rfl, _⟩) hn F₁ N₁ G₁ eo hlt3
    · have hv : v' = v := by simpa using hP.symm
      subst hv
      refine wpAny_mono (wpAny_passesOwn hE (wpAny_mono (step s₁ _ oI hn F₁ N₁ G₁ eo hlt3) (fun _ s₂ h => wpAny_passesOwn hE h) fun _ _ e => e)) (fun _ s₂ h => wpAny_mono h (fun f s₃ h₃ => ?_) fun _ _ e => e) fun _ _ e => e
      have key : OneEnd g₀ h₀ env.locals x m₁ news₁ s.heap.objs.size oI s s₃ → TurnEnd g₀ h₀ env.locals s.heap.objs.size oI (fun m' nx' => ((0 + 1 : Nat) = 0 ∧ m' = m₁ ∧ nx' = nx) ∨ ((0 + 1 : Nat) = 1 ∧ nx' = news₁ ∧ ∃ u, m' = fun y => if y = x then u else m₁ y)) { s with heap := s.heap.push { cls := .type "tuple_iterator", data := .fields #[.ref l, .int 0 0] } } s₃ := by
        rintro ⟨m', news', F', N', hs', hI', hne', G', eo', hm'⟩
        refine ⟨m', news', news₁, F', N', hs', hI', hne', G', eo', .inr ⟨rfl, rfl, m' x, ?_⟩⟩
        funext y
        by_cases hy : y = x
        · rw [if_pos hy, hy]
        · rw [if_neg hy, hm' y hy]
      cases f with
      | ret v => exact h₃
      | brk => exact h₃
      | cont => exact key h₃
      | next => exact key h₃
    · exact absurd hi (by (first | k_mem | ((repeat refine' List.Mem.tail _ ?_); refine' List.mem_append_right _ ?_; first | k_mem | (refine' List.mem_append_right _ ?_; k_mem)) | simp))
  · rintro s' m' nx F' N' G' eo (⟨h, _⟩ | ⟨_, rfl, u, rfl⟩)
    · exact absurd h (by (first | k_mem | ((repeat refine' List.Mem.tail _ ?_); refine' List.mem_append_right _ ?_; first | k_mem | (refine' List.mem_append_right _ ?_; k_mem)) | simp))
    · exact hQ s' u F' N' G' eo
theorem For_tup1_app {E : Value → Shared → Prop} {Q : Flow → Shared → Prop} {x : Str} {px pos : Pos} {iter : Expr} {body : List Stmt} {l l' : Addr} {v : Value} {n : Nat} {m : Str → Option Value} {rest : List (Addr × Obj)}
    (F : Fr h₀ env.locals s.heap m) (N : News h₀ env.locals s.heap ((l', listOf #[] 0) :: rest)) (G : GOk g₀ s.gens) (hh : A.handled = none)
    (hl : (l, ({ cls := .type "tuple", data := .seq #[v] n } : Obj)) ∈ rest)
    (hiter : ∀ Q' : Value → Shared → Prop, (∀ tk, Q' (.ref l) { s with toks := tk }) → wpAny (model prog w) A (eval iter env) Q' E s)
    (step : ∀ (s₁ : Shared) (I : Addr) (oI : Obj), (∀ p ∈ (l', listOf #[] 0) :: rest, p.1 ≠ I) → Fr h₀ env.locals s₁.heap m → News h₀ env.locals s₁.heap ((l', listOf #[] 0) :: (rest ++ [(I, oI)])) → GOk g₀ s₁.gens → s₁.os = s.os → I < s₁.heap.objs.size →
      wpAny (model prog w) A (assign (.Name x px) env v) (fun _ s₂ => wpAny (model prog w) A (execs body env) (OnePost g₀ h₀ env.locals x m ((l', listOf #[v] 1) :: rest) I oI s Q) E s₂) E s₁)
    (hQ : ∀ s' u, Fr h₀ env.locals s'.heap (fun y => if y = x then u else m y) → News h₀ env.locals s'.heap ((l', listOf #[v] 1) :: rest) → GOk g₀ s'.gens → s'.os = s.os → Q .next s')
    (hs : ∀ x, foldedSetIterable iter env x = pure x := by intro _; rfl)
    (hE : PassesOwn (model prog w) A env E := by passes_own) :
    wpAny (model prog w) A (exec (.For (.Name x px) iter body [] pos) env) Q E s :=
  For_tup1 ((l', listOf #[v] 1) :: rest) F N G hh (.tail _ hl) (.tail _ hl) hiter step hQ hs hE
end
end
theorem rs2 {prog : PySem.Program} {w : PySem.World} {A : PySem.Around} {Q : PySem.Flow → PySem.Shared → Prop} {E : PySem.Value → PySem.Shared → Prop} {s : PySem.Shared} {env : PySem.Env} (h : Q .next s) : PySem.wpAny (PySem.model prog w) A (PySem.execs [] env) Q E s := by
  w_top off
  walk1
  exact h
section
open PySem PySem.W PySem.Calls PyProof.Rows PySem.Spec
set_option maxRecDepth 100000
set_option maxHeartbeats 8000000
local macro_rules
  | `(tactic| walk_at "exec If") => `(tactic| refine' Mine.hold ?_)
  | `(tactic| walk_at "exec For Name Attribute cons nil") => `(tactic| refine' Mine.hold ?_)
theorem rule_new {w : World} {p : Program} {loose : List Str} {mean : ExcName → Option Value} {mg mb : Str → Option Value} {g₀ : Array GenState}
  {dp un : Nat} {gd : Option (List Code)} {cn : Str} {nms : List (Str × NameKind)} {ig ic : Bool} {mo} {a : Addr} {ccd : Value} {cl : List (Str × Addr)} {outer : List Env} {A₀ : Around} {base h₀ : Heap} {L : Addr} {m : Str → Option Value} {news : List (Addr × Obj)} {s : Shared}
  {Q E : Value → Shared → Prop} {tn : Tok}
  (B : Below A₀ base outer h₀) (F : Fr h₀ L s.heap m) (X : (Mine.hd.heap_39 w.params).In h₀) (N : News h₀ L s.heap news) (G : GOk g₀ s.gens) (T : Top p loose mean mg mb h₀)
  (hd : dp + 20 < recursionLimit) (hu : un + 200 < cLine)
  (hQ : ∀ l' r' g' x' d' t1 t2 t3 t4 t5 t6 u1 u2 u3 s', Fr h₀ L s'.heap m → News h₀ L s'.heap ((l', listOf #[.str (Str.ofString "standard") u3] 1) :: (r', ({ cls := .type "tuple", data := .seq #[.bool true] } : Obj)) :: (g', ({ cls := .type "tuple", data := .seq #[.str (Str.ofString "standard") u3] } : Obj)) :: (x', instObj 336 d') :: (d', dictOf [⟨PyData.keyHash w.params (Str.ofString "rule_id"), .str (Str.ofString "rule_id") t1, .str (Str.ofString "greedy-monroe") tn⟩, ⟨PyData.keyHash w.params (Str.ofString "shortname"), .str (Str.ofString "shortname") t2, .str (Str.ofString "Greedy Monroe") u1⟩, ⟨PyData.keyHash w.params (Str.ofString "longname"), .str (Str.ofString "longname") t3, .str (Str.ofString "Greedy Monroe") u2⟩, ⟨PyData.keyHash w.params (Str.ofString "algorithms"), .str (Str.ofString "algorithms") t4, .ref g'⟩, ⟨PyData.keyHash w.params (Str.ofString "resolute_values"), .str (Str.ofString "resolute_values") t5, .ref r'⟩, ⟨PyData.keyHash w.params (Str.ofString "available_algorithms"), .str (Str.ofString "available_algorithms") t6, .ref l'⟩] 6) :: news) →
    (∀ p ∈ news, p.1 < d') → @LT.lt Nat _ d' x' → @LT.lt Nat _ x' g' → @LT.lt Nat _ g' r' → @LT.lt Nat _ r' l' → GOk g₀ s'.gens → s'.os = s.os → Q (.ref x') s') :
  wpAny (model PySem.Challenge.pw_jg0002_01 w) (ktrTop dp un gd cn ⟨.function, nms, ig, ic, mo⟩ L a ccd cl outer) (call (.ref 336) [.str (Str.ofString "greedy-monroe") tn]) Q E s := by
  walk1
  rename_i x1 d1 h1 F1 N1 l11 l21 g2 L2 h2 FG2 F2 N2 B2 X2 T2
  repeat' walk1
  refine Mine.held ?_
  rename Fr _ _ _ _ => F3
  refine if_no F3 rfl (by decide) rfl rfl (by decide) fun tk3 => ?_
  iterate 15 (refine elif_no F3 rfl (by decide) rfl rfl (by decide) fun tk3 => ?_)
  refine elif_yes F3 rfl (by decide) rfl rfl (by decide) fun tk3 => ?_
  dsimp only
  repeat' walk1
  refine Mine.held ?_
  rename Fr _ _ _ _ => F5
  rename News _ _ _ _ => N5
  obtain ⟨k1, k2, k3, k4, k5⟩ := (by assumption : _ < _ ∧ _ < _ ∧ _ < _ ∧ _ < _ ∧ AllLt _ news)
  refine For_tup1_app F5 N5 G rfl (.tail _ (.head _)) (fun Q' hQ' => ?_) ?_ ?_
  · repeat' walk1
    exact hQ' _
  · intro s6 I6 oI6 hn6 F6 N6 G6 eo6 lt6
    have hd6 := List.forall_mem_cons.mp hn6
    dsimp only [List.cons_append] at N6
    repeat' walk1
    refine Mine.held ?_
    refine wpAny_If ?_
    repeat' walk1
    rename Fr _ _ _ _ => F8
    rename Frag.In _ _ => X8
    refine in_list_strs (ys := [Str.ofString "branch-and-bound", Str.ofString "brute-force", Str.ofString "standard", Str.ofString "standard-fractions"]) ⟨_, F8.keep _ _ (X8 407 _ rfl), rfl, _, rfl⟩ (by repeat constructor) ?_
    rw [show ([Str.ofString "branch-and-bound", Str.ofString "brute-force", Str.ofString "standard", Str.ofString "standard-fractions"].any (· == Str.ofString "standard")) = true from by decide]
    repeat' walk1
    rename Fr _ _ _ _ => F9
    rename News _ _ _ _ => N9
    refine append_N (As := []) F9 N9 ?_ (by simp [sizeLine_eq]) ?_
    · intro q hq
      simp only [List.nil_append, List.mem_cons, List.mem_append, List.not_mem_nil, or_false] at hq
      rcases hq with rfl | rfl | rfl | rfl | h | rfl
      · exact Nat.ne_of_lt k1
      · exact Nat.ne_of_lt k2
      · exact Nat.ne_of_lt k3
      · exact Nat.ne_of_lt k4
      · exact Nat.ne_of_lt (kst_ltOf k5 q h)
      · exact Ne.symm hd6.1
    · intro h10 F10 N10
      clear F9 N9
      simp only [List.nil_append] at N10
      repeat' walk1
      refine ⟨_, _, F10, N10, fun p hp => ?_, ?_, ?_, G6, eo6, fun z hz => by simp only [if_neg hz]⟩
      · rcases List.mem_cons.mp hp with rfl | hp
        · exact .head _
        · exact .tail _ (List.mem_append.mpr (.inl hp))
      · simp
      · intro p hp
        rcases List.mem_cons.mp hp with rfl | hp
        · exact hd6.1
        · exact hd6.2 p hp
  · intro s7 u7 F7 N7 G7 eo7
    repeat' walk1
    rename Fr h₀ _ _ _ => F9
    rename News h₀ _ _ _ => N9
    exact hQ _ _ _ _ _ _ _ _ _ _ _ _ _ _ _ F9 N9 l11 l21 (by omega) (by omega) k1 G7 eo7
end
section
open PySem PySem.W PySem.Calls PyProof.Rows PySem.Spec
set_option maxRecDepth 100000
section
variable {prog : Program} {w : World} {A : Around} {E : Value → Shared → Prop} {s : Shared} {h₀ : Heap} {L : Addr} {m : Str → Option Value} {news : List (Addr × Obj)} {g₀ : Array GenState}
def SortedInto (Q : Value → Shared → Prop) (Ok : List Value → Prop) (s₁ : Shared) : Prop :=
  ∀ h' vs' e, (∀ b o, s₁.heap.get? b = some o → h'.get? b = some o) → h'.get? s₁.heap.objs.size = some (listOf (List.toArray vs') e) → Ok vs' → Q (.ref s₁.heap.objs.size) { s₁ with heap := h' }
theorem sorted_heap {vs : List Value} {out : Array Value} (s₁ : Shared) :
    (∀ b o, s₁.heap.get? b = some o → (sortedHeap (s₁.heap.push (seqObj "list" vs.toArray 0)) s₁.heap.objs.size vs out).get? b = some o) ∧
    ∃ e, (sortedHeap (s₁.heap.push (seqObj "list" vs.toArray 0)) s₁.heap.objs.size vs out).get? s₁.heap.objs.size = some (listOf out e) := by
  refine ⟨fun b o hb => ?_, sortedHeap_at (n := 0) (Heap.get?_push_size _ rfl)⟩
  have hlt := Heap.lt_size hb
  rw [sortedHeap_old (Nat.ne_of_lt hlt) (by rw [Heap.size_push]; exact Nat.lt_succ_of_lt hlt)]
  exact Heap.get?_push_of_some _ hb
theorem sorted_ints_any {x : Value} {Q : Value → Shared → Prop}
    (hc : wpAny (model prog w) A.in1 (collect x) (fun vs s₁ => ∃ ns : List Int, IntsAre vs ns ∧ vs.length < 64 ∧ SortedInto Q (fun vs' => ∃ ns', IntsAre vs' ns' ∧ ns'.Perm ns ∧ ns'.Pairwise (· ≤ ·)) s₁) E s) :
    wpAny (model prog w) A (call (.builtin "sorted") [x]) Q E s := by
  refine Calls.call_function_entry kind_sorted plain_sorted entry_sorted (args_sorted1 _) ?_
  unfold Builtin.«sorted»
  refine wpAny_bind (m := checkCount "sorted" 1 1 _) (wpAny_pure ?_)
  refine wpAny_bind (wpAny_mono hc (fun vs s₁ h₁ => ?_) fun _ _ e => e)
  obtain ⟨ns, hI, h64, hQ⟩ := h₁
  refine wpAny_bind (wpAny_newList ?_)
  have hoL : (s₁.heap.push (seqObj "list" vs.toArray 0)).get? s₁.heap.objs.size = some (seqObj "list" vs.toArray 0) := Heap.get?_push_size _ rfl
  refine wpAny_bind (wpAny_holding (wpAny_call_entry slot_list_sort ⟨_, hoL, rfl⟩ entry_list_sort (list_sort_tree hoL hI h64 fun out ns' a1 a2 a3 => ⟨_, rfl, ?_⟩) (args_list_sort _)))
  obtain ⟨k, e, he⟩ := sorted_heap (vs := vs) (out := out) s₁
  exact wpAny_pure ⟨_, rfl, hQ _ out.toList e k he ⟨ns', a1, a2, a3⟩⟩
theorem sorted_strs_any {x : Value} {Q : Value → Shared → Prop}
    (hc : wpAny (model prog w) A.in1 (collect x) (fun vs s₁ => ∃ ss : List Str, StrsAre vs ss ∧ vs.length < 64 ∧ SortedInto Q (fun vs' => ∃ ss', StrsAre vs' ss' ∧ ss'.Perm ss) s₁) E s) :
    wpAny (model prog w) A (call (.builtin "sorted") [x]) Q E s := by
  refine Calls.call_function_entry kind_sorted plain_sorted entry_sorted (args_sorted1 _) ?_
  unfold Builtin.«sorted»
  refine wpAny_bind (m := checkCount "sorted" 1 1 _) (wpAny_pure ?_)
  refine wpAny_bind (wpAny_mono hc (fun vs s₁ h₁ => ?_) fun _ _ e => e)
  obtain ⟨ss, hS, h64, hQ⟩ := h₁
  refine wpAny_bind (wpAny_newList ?_)
  have hoL : (s₁.heap.push (seqObj "list" vs.toArray 0)).get? s₁.heap.objs.size = some (seqObj "list" vs.toArray 0) := Heap.get?_push_size _ rfl
  refine wpAny_bind (wpAny_holding (wpAny_call_entry slot_list_sort ⟨_, hoL, rfl⟩ entry_list_sort (list_sort_treeK strKind_oneLt hoL hS.keysOf (fun v₁ v₂ rest e => keyKind_strs (by rw [← e]; exact hS)) h64 fun st' hp hs => ⟨_, rfl, ?_⟩) (args_list_sort _)))
  obtain ⟨ss', a1, a2, _⟩ := sorted_out_str hS hp hs
  obtain ⟨k, e, he⟩ := sorted_heap (vs := vs) (out := (arrOf st').map (·.2)) s₁
  exact wpAny_pure ⟨_, rfl, hQ _ ((arrOf st').map (·.2)).toList e k he ⟨ss', a1, a2⟩⟩
theorem subs5_sorted : ∀ ns ∈ subs5, ns.Pairwise (· < ·) := by decide +kernel
theorem intsAre_paired : ∀ {vs : List Value} {ns : List Nat}, IntsAre vs (ns.map fun (n : Nat) => (n : Int)) → Paired IntOf vs ns
  | _, [], h => by cases h; exact .nil
  | _, n :: ns, h => by
    cases h with
    | cons _ t h => exact .cons ⟨t, rfl⟩ (intsAre_paired h)
theorem paired_intsAre : ∀ {vs : List Value} {ns : List Nat}, Paired IntOf vs ns → IntsAre vs (ns.map fun (n : Nat) => (n : Int))
  | _, _, .nil => .nil
  | _, _, .cons ⟨t, e⟩ h => by subst e; exact .cons _ t (paired_intsAre h)
theorem sorted_same {ns : List Nat} {ms : List Nat} {ks : List Int} (hs : ns.Pairwise (· < ·)) (hp : ms.Perm ns) (hk : ks.Perm (ms.map fun (n : Nat) => (n : Int))) (hks : ks.Pairwise (· ≤ ·)) : ks = ns.map fun (n : Nat) => (n : Int) := by
  have h1 : ks.Perm (ns.map fun (n : Nat) => (n : Int)) := hk.trans (hp.map _)
  have h2 : (ns.map fun (n : Nat) => (n : Int)).Pairwise (· ≤ ·) := by
    rw [List.pairwise_map]
    exact hs.imp fun h => by omega
  exact h1.eq_of_pairwise (fun a b _ _ x y => Int.le_antisymm x y) hks h2
theorem sorted_setN {l : Addr} {o : Obj} {ns : List Nat} {Q : Value → Shared → Prop} (F : Fr h₀ L s.heap m) (N : News h₀ L s.heap news) (hh : A.handled = none) (ho : s.heap.get? l = some o) (hs : SetO w o ns)
    (h : ∀ h' tk vs e a, Fr h₀ L h' m → News h₀ L h' ((a, listOf (List.toArray vs) e) :: news) → AllLt a news → Paired IntOf vs ns → Q (.ref a) { s with heap := h', toks := tk }) :
    wpAny (model prog w) A (call (.builtin "sorted") [.ref l]) Q E s := by
  refine sorted_ints_any (collect_set (A := A.in1) hh ho hs fun h₁ tk vs ms hk hp hP => ⟨_, paired_intsAre hP, ?_, ?_⟩)
  · rw [hP.length, hp.length_eq]
    have := subs5_len ns hs.2.1
    omega
  · rintro h₂ vs' e k he ⟨ks, hI, hkp, hks⟩
    have := sorted_same (subs5_sorted ns hs.2.1) hp hkp hks
    subst this
    have keep : ∀ b o, s.heap.get? b = some o → h₂.get? b = some o := fun b o e => k b o (hk b o e)
    have F₁ : Fr h₀ L h₁ m := F.keeps hk
    have N₁ : News h₀ L h₁ news := fun p hp => ⟨hk _ _ (N p hp).1, (N p hp).2⟩
    exact h h₂ tk vs' e _ (F.keeps keep) (newN (s := { s with heap := h₁, toks := tk }) F₁ N₁ he k) (allLt_of fun q hq => Heap.lt_size (N₁ q hq).1) (intsAre_paired hI)
theorem sorted_listN {l : Addr} {items : Array Value} {ns : List Nat} {Q : Value → Shared → Prop} (F : Fr h₀ L s.heap m) (N : News h₀ L s.heap news) (hl : s.heap.IsList l items) (hi : Paired IntOf items.toList ns) (hnd : ns.Nodup) (h5 : ∀ x ∈ ns, x ∈ [0, 1, 2, 3, 4])
    (h : ∀ h' vs e a, Fr h₀ L h' m → News h₀ L h' ((a, listOf (List.toArray vs) e) :: news) → AllLt a news → Paired IntOf vs (setOf ns) → Q (.ref a) { s with heap := h' }) :
    wpAny (model prog w) A (call (.builtin "sorted") [.ref l]) Q E s := by
  have hl' : s.heap.IsList l items.toList.toArray := by simpa using hl
  refine sorted_N F N hl' (paired_intsAre hi) ?_ fun h' vs' ns' e F' N' hI hp hs => ?_
  · rw [hi.length]
    have := len_small hnd h5
    have := subs5_len _ (setOf_in hnd h5)
    rw [(setOf_perm hnd h5).length_eq] at this
    omega
  · have hin := setOf_in hnd h5
    have := sorted_same (subs5_sorted _ hin) (setOf_perm hnd h5).symm hp hs
    subst this
    exact h h' vs' e _ F' N' (allLt_of fun q hq => Nat.lt_succ_of_lt (Heap.lt_size (N q hq).1)) (intsAre_paired hI)
theorem strs_of {Px : Str → Prop} : ∀ {vs : List Value}, (∀ v ∈ vs, ∃ x t, Px x ∧ v = Value.str x t) → ∃ ss, StrsAre vs ss ∧ ss.length = vs.length ∧ ∀ x ∈ ss, Px x
  | [], _ => ⟨[], .nil, rfl, fun _ h => nomatch h⟩
  | v :: r, h => by
    obtain ⟨x, t, hp, rfl⟩ := h v List.mem_cons_self
    obtain ⟨ss, h1, h2, h3⟩ := strs_of fun v hv => h v (List.mem_cons_of_mem _ hv)
    refine ⟨x :: ss, .cons x t h1, by simp [h2], fun y hy => ?_⟩
    rcases List.mem_cons.mp hy with rfl | hy
    · exact hp
    · exact h3 y hy
theorem sorted_genN {a : Addr} {n : Nat} {Px : Str → Prop} {Fv : Nat → Value → Prop} {Kb : Addr} {Q : Value → Shared → Prop} (F : Fr h₀ L s.heap m) (N : News h₀ L s.heap news) (hKb : L ≤ Kb) (hKn : ∀ q ∈ news, q.1 ≤ Kb) (G : GOk g₀ s.gens) (X : GenU g₀ prog w A Kb a n Fv s)
    (hf : ∀ j v, Fv j v → ∃ x t, Px x ∧ v = Value.str x t) (hn : n < 64)
    (h : ∀ s' vs e b, Fr h₀ L s'.heap m → News h₀ L s'.heap ((b, listOf (List.toArray vs) e) :: news) → AllLt b news → GOk g₀ s'.gens → s'.os = s.os → (∃ ss, StrsAre vs ss ∧ ss.length = n ∧ ∀ x ∈ ss, Px x) → Q (.ref b) s') :
    wpAny (model prog w) A (call (.builtin "sorted") [.ref a]) Q E s := by
  obtain ⟨fp, wr, g, St, hgu, W, hst, hT, ha, hfp, hwr⟩ := X
  have W := W.in4_2
  refine sorted_strs_any (wpAny_collect_gen (A := A.in1) W hT hst hfp ha (fun s' acc hm hacc => ?_) (by rw [sizeLine_eq]; omega))
  have F₁ : Fr h₀ L s'.heap m := F.moved hm fun b hb => Nat.lt_of_le_of_lt hKb (hwr b hb)
  have N₁ : News h₀ L s'.heap news := fun p hp => ⟨hm.heap _ _ (fun hb => Nat.lt_irrefl _ (Nat.lt_of_lt_of_le (hwr _ hb) (hKn p hp))) (N p hp).1, (N p hp).2⟩
  obtain ⟨ss, hS, hlen, hpx⟩ := strs_of (Px := Px) (vs := acc.toList) (fun v hv => by
    obtain ⟨j, hj, rfl⟩ := List.getElem_of_mem hv
    have hj' : j < acc.size := by simpa using hj
    exact hf j _ (hacc.2 j _ (by simp [Array.getElem?_eq_getElem hj'])))
  refine ⟨_, hS, by rw [Array.length_toList, hacc.1]; exact hn, ?_⟩
  rintro h₂ vs' e k he ⟨ss', h1, h2⟩
  exact h { s' with heap := h₂ } vs' e _ (F₁.keeps k) (newN (s := s') F₁ N₁ he k) (allLt_of fun q hq => Heap.lt_size (N₁ q hq).1) (show GOk g₀ s'.gens from G.only hm.gens hgu) hm.os ⟨ss', h1, by rw [h2.length_eq, hlen, Array.length_toList, hacc.1], fun x hx => hpx x (h2.mem_iff.mp hx)⟩
end
end
section
open PySem PySem.W PySem.Calls PyProof.Rows PySem.Spec
section
variable {M : Model} {A : Around} {E : Value → Shared → Prop} {s : Shared} {K : Frag} {h₀ : Heap} {L C : Addr} {m mg mb : Str → Option Value} {scope : Scope} {cl : List (Str × Addr)} {env : Env} {code : Value} {p : Program} {loose : List Str} {mean : ExcName → Option Value} {x : Str} {pos : Pos} {v : Value} {Q : Value → Shared → Prop}
theorem gld_global (F : Fr h₀ L s.heap m) (X : K.In h₀) (T : Top p loose mean mg mb h₀) (e : nsIn K mainGlobals x = some (some v)) (h : Q v s) (hg : env.globals = mainGlobals := by rfl)
    (hk : scope.kind = .function := by rfl) (hx : (genEnv scope cl C code builtinsNs env).kindOf x = some .globalImplicit := by rfl) (hd : (x == ("__debug__" : Str)) = false := by decide) :
    wpAny M A (eval (.Name x pos) (genEnv scope cl C code builtinsNs env)) Q E s :=
  Name_function_global hk hx (loadGlobal_global (env := genEnv scope cl C code builtinsNs env) (show s.heap.Ns env.globals mg from hg ▸ (T.keeps F.keep).g) (mg_of X T.g e) h) hd
theorem gld_built (F : Fr h₀ L s.heap m) (X : K.In h₀) (T : Top p loose mean mg mb h₀) (e : nsIn K mainGlobals x = some none) (hv : bootBuiltins x = some v) (hn : x ≠ "__name__") (h : Q v s) (hg : env.globals = mainGlobals := by rfl)
    (hk : scope.kind = .function := by rfl) (hx : (genEnv scope cl C code builtinsNs env).kindOf x = some .globalImplicit := by rfl) (hd : (x == ("__debug__" : Str)) = false := by decide) :
    wpAny M A (eval (.Name x pos) (genEnv scope cl C code builtinsNs env)) Q E s :=
  Name_function_global hk hx (loadGlobal_builtin (env := genEnv scope cl C code builtinsNs env) (show s.heap.Ns env.globals mg from hg ▸ (T.keeps F.keep).g) (mg_none_of X T.g e) (show s.heap.Ns builtinsNs mb from (T.keeps F.keep).b) ((T.builtins x hn).trans hv) h) hd
end
section
variable {prog : Program} {w : World} {A : Around} {E : Value → Shared → Prop} {s : Shared} {h₀ : Heap} {c P L : Addr} {ps : Array Value} {m mg : Str → Option Value} {bm : Addr} {ob : Obj} {pre post : List (Addr × Obj)} {g₀ : Array GenState}
theorem gx_listT {env : Env} {elt iter : Expr} {x : Str} {px : Pos} {scope : Scope} {cl : List (Str × Addr)} {pos : Pos} {Q : Value → Shared → Prop} {l : Addr} {items : Array Value} {F : Nat → Value → Prop}
    (Fh : Fr h₀ L s.heap m) (N : News h₀ L s.heap (pre ++ (P, tabObj ps) :: post)) (hne : ∀ q ∈ pre ++ post, q.1 ≠ P) (hcd : CodeHd h₀ c P) (ht : TriplesOk ps.toList) (B : BMod h₀ env.globals mg bm ob) (hcode : env.code = .ref c)
    (G : GOk g₀ s.gens) (hlim : h₀.NoLimit)
    (hh : A.handled = none) (hco : scope.isCoroutine = false) (hclos : closureFor scope env = pure cl) (hcell : ∀ y ∈ scope.names, y.2 ≠ .cell) (h0 : scope.names.lookup (".0" : Str) = some NameKind.local)
    (hx : scope.names.lookup x = some .local) (hkind : scope.kind = .function) (hroom : A.depth < recursionLimit)
    (hl : s.heap.IsList l items)
    (hiter : ∀ Q' : Value → Shared → Prop, (∀ tk, Q' (.ref l) { s with toks := tk }) → wpAny (model prog w) A (eval iter env) Q' E s)
    (helt : ∀ (A' : Around) E' i v (u : Shared) m₂ C code, A'.handled = none → items[i]? = some v → u.heap.Ns C m₂ → m₂ x = some v → Fr h₀ L u.heap m → News h₀ L u.heap (pre ++ post) → C ≠ L → h₀.objs.size ≤ C →
          wpAny (model prog w) A' (eval elt (genEnv scope cl C code builtinsNs env)) (fun y s₃ => F i y ∧ Keeps u s₃) E' u)
    (hQ : ∀ a s₅ ps', Fr h₀ L s₅.heap m → News h₀ L s₅.heap (pre ++ (P, tabObj ps') :: post) → TriplesOk ps'.toList → GOk g₀ s₅.gens → s₅.os = s.os → s₅.drawn = s.drawn → s.heap.objs.size ≤ a →
      L ≤ s.heap.objs.size - 1 → (∀ q ∈ pre ++ (P, tabObj ps') :: post, q.1 ≤ s.heap.objs.size - 1) → GenU g₀ prog w A (s.heap.objs.size - 1) a items.size F s₅ → Q (.ref a) s₅)
    (hs : ∀ x, genFold iter env x = pure x) :
    wpAny (model prog w) A (eval (.GeneratorExp elt [⟨.Name x px, iter, [], 0⟩] scope pos) env) Q E s := by
  have hlt : l < s.heap.objs.size := by obtain ⟨_, e, _⟩ := hl; exact Heap.lt_size e
  have hP := N (P, tabObj ps) (by (first | k_mem | ((repeat refine' List.Mem.tail _ ?_); refine' List.mem_append_right _ ?_; first | k_mem | (refine' List.mem_append_right _ ?_; k_mem)) | simp))
  have hLs : L < s.heap.objs.size := by obtain ⟨oL, _, _, hL, _⟩ := Fh.ns; exact Heap.lt_size hL
  have hpred : s.heap.objs.size - 1 < s.heap.objs.size := Nat.sub_lt (Nat.lt_of_le_of_lt (Nat.zero_le _) hlt) (Nat.zero_lt_one)
  refine gx_walks (Kb := s.heap.objs.size - 1) Fh N hne hcd ht B hcode G hlim hP.2.2 hh hco hclos hcell h0 hx hkind hroom hpred (hiter _ fun tk => ?_) (fun a s₅ ps' F₅ N₅ t₅ G₅ eo ed ha X => hQ a s₅ ps' F₅ N₅ t₅ G₅ eo ed ha (Nat.le_sub_one_of_lt hLs) (fun q hq => ?_) X) hs
  refine wpAny_pyIter_list (s := { s with toks := tk }) hl ⟨Fh.keeps fun _ _ e => Heap.get?_push_of_some _ e, (fun p hp => ⟨Heap.get?_push_of_some _ (N p hp).1, (N p hp).2⟩), (by rw [Heap.size_push]; exact Nat.le_succ _), rfl, rfl, rfl,
    s.heap.objs.size, [s.heap.objs.size, l], [s.heap.objs.size], _, _, rfl, (fun A' hA => Walks.list hA _ _ (Nat.ne_of_lt hlt) items), ⟨⟨_, Heap.get?_push_size _ rfl, rfl, rfl⟩, hl.push _⟩, ?_, ?_, ?_, ?_, ?_, ?_, helt⟩
  rotate_right
  · have hq' : ∃ o, (q.1, o) ∈ pre ++ (P, tabObj ps) :: post := by
      rcases List.mem_append.mp hq with h | h
      · exact ⟨q.2, List.mem_append.mpr (.inl h)⟩
      · rcases List.mem_cons.mp h with rfl | h
        · exact ⟨tabObj ps, List.mem_append.mpr (.inr (.head _))⟩
        · exact ⟨q.2, List.mem_append.mpr (.inr (.tail _ h))⟩
    obtain ⟨o, ho⟩ := hq'
    exact Nat.le_sub_one_of_lt (Heap.lt_size (N _ ho).1)
  · intro b hb
    show b < (s.heap.push _).objs.size
    rw [Heap.size_push]
    rcases List.mem_cons.mp hb with rfl | hb
    · exact Nat.lt_succ_self _
    · rcases List.mem_cons.mp hb with rfl | hb
      · exact Nat.lt_succ_of_lt hlt
      · cases hb
  · intro hb
    rcases List.mem_cons.mp hb with e | hb
    · exact absurd (e ▸ Heap.lt_size hP.1) (Nat.lt_irrefl _)
    · rcases List.mem_cons.mp hb with e | hb
      · obtain ⟨o, ho, hc, _⟩ := hl
        have := hP.1
        rw [e, ho] at this
        cases this
        exact absurd hc (by (first | k_mem | ((repeat refine' List.Mem.tail _ ?_); refine' List.mem_append_right _ ?_; first | k_mem | (refine' List.mem_append_right _ ?_; k_mem)) | simp))
      · cases hb
  · intro b hb
    rcases List.mem_cons.mp hb with rfl | hb
    · exact hpred
    · cases hb
  · intro hb
    rcases List.mem_cons.mp hb with e | hb
    · exact absurd (e ▸ hLs) (Nat.lt_irrefl _)
    · cases hb
  · intro q hq hb
    rcases List.mem_cons.mp hb with e | hb
    · have hq' : q ∈ pre ++ (P, tabObj ps) :: post := by
        rcases List.mem_append.mp hq with hq | hq
        · exact List.mem_append.mpr (.inl hq)
        · exact List.mem_append.mpr (.inr (.tail _ hq))
      exact absurd (e ▸ Heap.lt_size (N q hq').1) (Nat.lt_irrefl _)
    · cases hb
  · intro b hb
    rcases List.mem_cons.mp hb with rfl | hb
    · cases hq : h₀.get? s.heap.objs.size with
      | none => rfl
      | some o => exact absurd (Heap.lt_size (Fh.keep _ _ hq)) (Nat.lt_irrefl _)
    · cases hb
end
end
section
open PySem PySem.W PySem.Calls PyProof.Rows PySem.Spec
set_option maxRecDepth 100000
abbrev lst0 : Obj := { cls := .type "list", data := .seq ([] : List Value).toArray }
section
variable {prog : Program} {w : World} {A : Around} {E : Value → Shared → Prop} {s : Shared}
theorem collect_gen1 {a : Addr} {g : Nat} {gs : GenState} {I C : Addr} {Mid : Heap → Value → Shared → Prop} {Q : List Value → Shared → Prop}
    (hh : A.handled = none) (hroom : A.in1.depth < recursionLimit) (hg : s.heap.IsGen a g) (hlim : s.heap.NoLimit) (hgs : s.gens[g]? = some gs)
    (first : ∀ (h₁ : Heap) (tk₁ : Nat), (∀ b o, s.heap.get? b = some o → h₁.get? b = some o) → (∃ n, h₁.get? s.heap.objs.size = some (listOf #[] n)) →
      gs.Goes (model prog w) A.in1.in1 (fun n s₀ r s₁ => r = .ok .next ∧ (n = 0 ∧ GenSince C [I] s₀ s₁))
        (fun _ _ v s₁ kap => Mid h₁ v s₁ ∧ ∀ s'' : Shared, (∀ b o, b ≠ s.heap.objs.size → s₁.heap.get? b = some o → s''.heap.get? b = some o) → kap (.send .none) s'') 1 (.send .none) (Shared.setGen { s with heap := h₁, toks := tk₁ } g .running))
    (hMid : ∀ h₁ v s₁, Mid h₁ v s₁ → s₁.heap.IsGen a g ∧ s₁.heap.NoLimit ∧ s₁.gens[g]? = some .running ∧ ∀ o, h₁.get? s.heap.objs.size = some o → s₁.heap.get? s.heap.objs.size = some o)
    (hSa : s.heap.objs.size ≠ C ∧ s.heap.objs.size ≠ I)
    (hQ : ∀ h₁ v (s₁ s₂ : Shared), Mid h₁ v s₁ → (∀ b o, b ≠ s.heap.objs.size → b ≠ C → b ≠ I → s₁.heap.get? b = some o → s₂.heap.get? b = some o) → GenOnlyQ g s₁.gens s₂.gens → s₂.os = s₁.os → Q [v] s₂) :
    wpAny (model prog w) A (collect (.ref a)) Q E s := by
  obtain ⟨og, nm, qn, hog, hogr⟩ := id hg
  have halt : a < s.heap.objs.size := Heap.lt_size hog
  have hSI : s.heap.objs.size ≠ a := Nat.ne_of_gt halt
  have hTa : ∀ (h : Heap) (tk : Nat), (∀ b o, s.heap.get? b = some o → h.get? b = some o) → Shared.TypeIs { s with heap := h, toks := tk } (.ref a) "generator" := fun h tk k => Heap.IsGen.typeIs (g := g) (⟨og, nm, qn, k _ _ hog, hogr⟩ : Heap.IsGen h a g)
  unfold collect
  refine wpAny_bind (wpAny_runValue (codeAny_builtin F.entry_proto_collect ?_))
  rw [Around.under_plainId F.plain_proto_collect _]
  show wpAny _ A.in1 (newList [] >>= fun l => again (.builtin "list.__iadd__" ⟨[l, .ref a], []⟩)) _ _ s
  refine wpAny_bind (wpAny_newObj_type ?_)
  refine wpAny_pure ⟨plainId_quiet F.plain_list_iadd _, codeAny_builtin F.entry_list_iadd ?_⟩
  rw [Around.under_plainId F.plain_list_iadd _]
  have k₁ : ∀ b o, s.heap.get? b = some o → (s.heap.push lst0).get? b = some o := fun b o e => Heap.get?_push_of_some _ e
  have hT₁ := hTa (s.heap.push lst0) s.toks k₁
  show wpAny _ A.in1 (Builtin.List.listExtendWith (.ref s.heap.objs.size) (.ref a) (.ref s.heap.objs.size)) _ _ { s with heap := s.heap.push lst0 }
  unfold Builtin.List.listExtendWith
  refine wpAny_bind (wpAny_typeOf hT₁ ?_)
  have h1 : Builtin.List.listSameRef (.ref s.heap.objs.size) (.ref a) = false := by simp [Builtin.List.listSameRef, hSI]
  have h2 : (Value.type "generator" == Value.type "list") = false := by decide
  have h3 : (Value.type "generator" == Value.type "tuple") = false := by decide
  simp only [h1, h2, h3, Bool.or_false, Bool.false_eq_true, if_false]
  have hg₁ : (s.heap.push lst0).IsGen a g := ⟨og, nm, qn, k₁ _ _ hog, hogr⟩
  refine wpAny_bind (wpAny_pyIter_gen (s := { s with heap := s.heap.push lst0 }) hg₁ ?_)
  refine wpAny_bind (wpAny_holding ?_)
  unfold Builtin.List.listLengthHint
  refine wpAny_bind (wpAny_specialOf hT₁ F.gen_no_len ?_)
  show wpAny _ A.in1 (specialOf (Value.ref a) (Str.ofString "__length_hint__") >>= _) _ _ _
  refine wpAny_bind (wpAny_specialOf hT₁ F.gen_no_hint ?_)
  refine wpAny_pure ?_
  show wpAny _ A.in1 (rule "list.extend.makes-room" >>= fun _ => Builtin.List.listTouch (.ref s.heap.objs.size) >>= fun _ =>
    again (.builtin "list.extend.loop" ⟨[.ref s.heap.objs.size, .ref a, .ref s.heap.objs.size], []⟩)) _ _ _
  refine wpAny_bind (wpAny_rule ?_)
  have hS₁ : (s.heap.push lst0).get? s.heap.objs.size = some lst0 := Heap.get?_push_size _ rfl
  refine wpAny_bind ?_
  show wpAny _ A.in1 (updateSeq s.heap.objs.size (·.push .none) >>= fun _ => updateSeq s.heap.objs.size (·.pop)) _ _ _
  refine wpAny_bind (wpAny_updateSeq hS₁ rfl ?_)
  have hS₂ := Heap.get?_update_self (Obj.mapSeq (·.push Value.none)) hS₁ rfl
  refine wpAny_updateSeq hS₂ rfl ?_
  have hS₃ := Heap.get?_update_self (Obj.mapSeq (·.pop)) hS₂ rfl
  generalize hH : ((s.heap.push lst0).update s.heap.objs.size (Obj.mapSeq (·.push Value.none))).update s.heap.objs.size (Obj.mapSeq (·.pop)) = h₁ at hS₃ ⊢
  have k₃ : ∀ b o, s.heap.get? b = some o → h₁.get? b = some o := fun b o e => by
    have hb : s.heap.objs.size ≠ b := Nat.ne_of_gt (Heap.lt_size e)
    rw [← hH]
    exact (Heap.get?_update_other _ _ hb).trans ((Heap.get?_update_other _ _ hb).trans (k₁ b o e))
  have hS₃' : ∃ n, h₁.get? s.heap.objs.size = some (listOf #[] n) := ⟨_, hS₃⟩
  obtain ⟨n₀, hSn⟩ := hS₃'
  have hg₃ : h₁.IsGen a g := ⟨og, nm, qn, k₃ _ _ hog, hogr⟩
  refine wpAny_pure ⟨plainId_quiet F.plain_extend_loop _, codeAny_builtin F.entry_extend_loop ?_⟩
  rw [Around.under_plainId F.plain_extend_loop _]
  show wpAny _ A.in1 (pyNext (.ref a) >>= _) _ _ { s with heap := h₁ }
  refine wpAny_bind (wpAny_pyNext_genexpQ (A := A.in1) (P := fun n s₀ s₁ => n = 0 ∧ GenSince C [I] s₀ s₁) (s := { s with heap := h₁ }) hh (hlim.keeps k₃) hroom hg₃ hgs (first h₁ s.toks k₃ ⟨n₀, hSn⟩) (fun v s₁ gs' hb hv => ?_) (fun s₁ hp => absurd hp.1 (by (first | k_mem | ((repeat refine' List.Mem.tail _ ?_); refine' List.mem_append_right _ ?_; first | k_mem | (refine' List.mem_append_right _ ?_; k_mem)) | simp))))
  obtain ⟨hM, hk⟩ := hv
  obtain ⟨hga, hli, hrun, hSk⟩ := hMid _ _ _ hM
  have hS₄ : (s₁.setGen g gs').heap.get? s.heap.objs.size = some (listOf #[] n₀) := hSk _ hSn
  show wpAny _ A.in1 (updateSeq s.heap.objs.size (·.push v) >>= _) _ _ _
  refine wpAny_bind ?_
  refine wpAny_updateSeq hS₄ rfl ?_
  have hS₅ := Heap.get?_update_self (Obj.mapSeq (·.push v)) hS₄ rfl
  generalize hH5 : (s₁.setGen g gs').heap.update s.heap.objs.size (Obj.mapSeq (·.push v)) = h₅ at hS₅ ⊢
  have k₅ : ∀ b o, b ≠ s.heap.objs.size → s₁.heap.get? b = some o → h₅.get? b = some o := fun b o hb e => by
    rw [← hH5]
    exact (Heap.get?_update_other _ _ (Ne.symm hb)).trans e
  have hcS : cStatics ≠ s.heap.objs.size := by
    obtain ⟨mc, hns, _⟩ := hlim
    exact Nat.ne_of_lt hns.lt
  have hga₅ : h₅.IsGen a g := by
    obtain ⟨o, n1, q1, e, r⟩ := hga
    exact ⟨o, n1, q1, k₅ a o (Ne.symm hSI) e, r⟩
  have hli₅ : h₅.NoLimit := by
    obtain ⟨mc, hns, hnn⟩ := hli
    exact ⟨mc, hns.at' fun o e => k₅ cStatics o hcS e, hnn⟩
  refine wpAny_pure ⟨plainId_quiet F.plain_extend_loop _, codeAny_builtin F.entry_extend_loop ?_⟩
  rw [Around.under_plainId F.plain_extend_loop _]
  show wpAny _ A.in1 (pyNext (.ref a) >>= _) _ _ { s₁.setGen g gs' with heap := h₅ }
  refine wpAny_bind (wpAny_pyNext_genexpQ (A := A.in1) (n := 0) (gs := gs') (P := fun n s₀ s₁ => n = 0 ∧ GenSince C [I] s₀ s₁) (s := { s₁.setGen g gs' with heap := h₅ }) hh hli₅ hroom hga₅ (setGen_self hrun) (hk _ k₅) (fun v' s₂ gs'' hb' hv' => ?_) (fun s₂ hp h' hk' => ?_))
  · exact False.elim (hv'.2 s₂ fun _ _ _ e => e)
  · obtain ⟨_, h₆, tk₆, rfl, k₆⟩ := hp
    have hS₆ : h'.get? s.heap.objs.size = _ := hk' _ _ (k₆ _ _ hSa.1 (by simpa using hSa.2) hS₅)
    refine wpAny_pure ?_
    show wpAny _ A (load s.heap.objs.size >>= _) _ _ _
    refine wpAny_bind (wpAny_load hS₆ ?_)
    refine wpAny_pure (hQ h₁ v s₁ _ hM (fun b o hb hC hI e => hk' b o (k₆ b o hC (by simpa using hI) (k₅ b o hb e))) ?_ rfl)
    exact GenOnlyQ.of (((GenOnly.setGen s₁ g gs').trans (GenOnly.setGen _ g .running)).trans (GenOnly.setGen _ g .finished)) (setGen_self (gs := .running) (setGen_self (gs := gs') (setGen_self hrun))) rfl
theorem seg_one {elt iter : Expr} {x : Str} {px : Pos} {scope : Scope} {pos : Pos} {I l S : Addr} {v₀ : Value} {cenv : Env} {m : Str → Option Value} {Mid : Value → Shared → Prop} {s₀ : Shared}
    (hh : A.handled = none) (hx : cenv.kindOf x = some .local) (hp : (cenv.scope.kind == .class || (cenv.scope.kind == .module && cenv.locals != cenv.globals)) = false)
    (hco : cenv.scope.isCoroutine = false) (hit : s.heap.IsListIter I l 0) (hl : s.heap.IsList l #[v₀]) (hn : s.heap.Ns cenv.locals m) (hlI : l ≠ I) (hCI : cenv.locals ≠ I) (hCl : cenv.locals ≠ l)
    (hSI : I ≠ S) (hSl : l ≠ S)
    (helt : ∀ (h : Heap) (tk : Nat) E', (∀ b o, b ≠ cenv.locals → b ≠ I → s.heap.get? b = some o → h.get? b = some o) → h.Ns cenv.locals (fun y => if y = x then some v₀ else m y) → h.IsListIter I l 1 → h.IsList l #[v₀] →
      wpAny (model prog w) (A.over (.compLoop (.GeneratorExp elt [⟨.Name x px, iter, [], 0⟩] scope pos) 0 (.ref I) .none cenv) []) (eval elt cenv)
        (fun y s₁ => Mid y s₁ ∧ (∀ o, h.get? I = some o → s₁.heap.get? I = some o) ∧ (∀ o, h.get? l = some o → s₁.heap.get? l = some o)) E' { s with heap := h, toks := tk }) :
    Seg (model prog w) A (fun n s₀ r s₁ => r = .ok .next ∧ (n = 0 ∧ GenSince cenv.locals [I] s₀ s₁)) (fun _ _ v s₁ kap => Mid v s₁ ∧ ∀ s'' : Shared, (∀ b o, b ≠ S → s₁.heap.get? b = some o → s''.heap.get? b = some o) → kap (.send .none) s'') 1 s₀
      (.compStart (.GeneratorExp elt [⟨.Name x px, iter, [], 0⟩] scope pos) 0 (.ref I) .none cenv)
      ((model prog w).den (.compStart (.GeneratorExp elt [⟨.Name x px, iter, [], 0⟩] scope pos) 0 (.ref I) .none cenv)) [] s := by
  have W₀ : ∀ A' : Around, A'.handled = none → Walks prog w A' I [I, l] [I] 1 (fun i v => (#[v₀] : Array Value)[i]? = some v) (fun i h => h.IsListIter I l i ∧ h.IsList l #[v₀]) := fun A' hA => Walks.list hA I l hlI #[v₀]
  have hh' : (A.over (.compStart (.GeneratorExp elt [⟨.Name x px, iter, [], 0⟩] scope pos) 0 (.ref I) .none cenv) []).handled = none := hh
  have hhL : (A.over (.compLoop (.GeneratorExp elt [⟨.Name x px, iter, [], 0⟩] scope pos) 0 (.ref I) .none cenv) []).handled = none := hh
  have last : ∀ s'' : Shared, s''.heap.IsListIter I l 1 → s''.heap.IsList l #[v₀] →
      Seg (model prog w) A (fun n s₀ r s₁ => r = .ok .next ∧ (n = 0 ∧ GenSince cenv.locals [I] s₀ s₁)) (fun _ _ v s₁ kap => Mid v s₁ ∧ ∀ s'' : Shared, (∀ b o, b ≠ S → s₁.heap.get? b = some o → s''.heap.get? b = some o) → kap (.send .none) s'') 0 s''
        (.compLoop (.GeneratorExp elt [⟨.Name x px, iter, [], 0⟩] scope pos) 0 (.ref I) .none cenv)
        ((model prog w).den (.compLoop (.GeneratorExp elt [⟨.Name x px, iter, [], 0⟩] scope pos) 0 (.ref I) .none cenv)) [] s'' := by
    intro s'' h1 h2
    show Seg _ A _ _ _ s'' _ ((compTurn (.GeneratorExp elt [⟨.Name x px, iter, [], 0⟩] scope pos) 0 (.ref I) .none cenv).onRaise (leaving cenv)) [] s''
    rw [compTurn_gen, Sem.onRaise_eq_wrap]
    refine seg_bind_wrap (wpAny_standAt ?_)
    refine seg_bind_wrap ((W₀ _ hhL).done s'' _ _ ⟨h1, h2⟩ fun h' tk hk' => ?_)
    exact seg_end (.ok .next) ⟨rfl, rfl, _, _, rfl, fun b o _ hw e => hk' b o hw e⟩
  have loop : Seg (model prog w) A (fun n s₀ r s₁ => r = .ok .next ∧ (n = 0 ∧ GenSince cenv.locals [I] s₀ s₁)) (fun _ _ v s₁ kap => Mid v s₁ ∧ ∀ s'' : Shared, (∀ b o, b ≠ S → s₁.heap.get? b = some o → s''.heap.get? b = some o) → kap (.send .none) s'') 1 s₀
      (.compLoop (.GeneratorExp elt [⟨.Name x px, iter, [], 0⟩] scope pos) 0 (.ref I) .none cenv)
      ((model prog w).den (.compLoop (.GeneratorExp elt [⟨.Name x px, iter, [], 0⟩] scope pos) 0 (.ref I) .none cenv)) [] s := by
    show Seg _ A _ _ _ s₀ _ ((compTurn (.GeneratorExp elt [⟨.Name x px, iter, [], 0⟩] scope pos) 0 (.ref I) .none cenv).onRaise (leaving cenv)) [] s
    rw [compTurn_gen, Sem.onRaise_eq_wrap]
    refine seg_bind_wrap (wpAny_standAt ?_)
    refine seg_bind_wrap ((W₀ _ hhL).item 0 s _ _ (Nat.zero_lt_one) ⟨hit, hl⟩ fun v h₁ tk₁ hPv hst₁ hk₁ => ?_)
    have hv : v = v₀ := by simpa using hPv.symm
    subst hv
    refine seg_bind_wrap (wpAny_of_eq (rfl : letOwnedTupleGo (.Name x px) (.ref I) v = pure ()) ?_)
    refine seg_bind_wrap (wpAny_assign_Name (wpAny_storeName_local hx (hn.at' fun o e => hk₁ _ o (by simpa using hCI) e) (fun h₂ hn₂ hs₂ => ?_) hp))
    have up₂ : ∀ b o, b ≠ cenv.locals → b ≠ I → s.heap.get? b = some o → h₂.get? b = some o := fun b o hbC hbI e => hs₂.extBut b o hbC (hk₁ b o (by simpa using hbI) e)
    have hst₂ : h₂.IsListIter I l 1 ∧ h₂.IsList l #[v] := (W₀ A hh).frame _ _ _ hst₁ fun b hb o e => hs₂.extBut b o (fun h => by
      have h' : b = cenv.locals := h
      rcases List.mem_cons.mp hb with e1 | hb
      · exact hCI (h'.symm.trans e1)
      · exact hCl (h'.symm.trans (List.mem_singleton.mp hb))) e
    refine seg_bind_wrap ?_
    simp only [List.forIn_nil]
    refine wpAny_pure ?_
    simp only [if_true]
    have hy : ∀ v, yieldOut cenv v = yieldValue v := fun v => by simp only [yieldOut, hco, Bool.false_eq_true, if_false]
    simp only [hy]
    rw [Sem.bind_eq_wrap', Sem.bind_eq_wrap', Sem.wrap_wrap, Sem.wrap_wrap]
    refine seg_wrap (wpAny_mono (helt h₂ _ _ up₂ hn₂ hst₂.1 hst₂.2) (fun y s₄ h₄ => ?_) fun _ _ e => e)
    obtain ⟨hM, hI₄, hl₄⟩ := h₄
    refine seg_at (seg_yield rfl rfl rfl ⟨hM, fun s'' hal => ?_⟩)
    exact seg_again rfl (last s'' (hst₂.1.at fun o e => hal _ _ hSI (hI₄ o e)) (hst₂.2.at fun o e => hal _ _ hSl (hl₄ o e)))
  show Seg _ A _ _ _ s₀ _ ((compStart (.GeneratorExp elt [⟨.Name x px, iter, [], 0⟩] scope pos) 0 (.ref I) .none cenv).onRaise (leaving cenv)) [] s
  unfold compStart
  rw [Sem.onRaise_eq_wrap]
  show Seg _ A _ _ _ s₀ _ ((ask >>= _).wrap _ _ _ _) [] s
  refine seg_bind_wrap (wpAny_askSetting ?_)
  split
  · exact seg_again rfl loop
  · first
      | exact seg_bind_wrap (wpAny_rule (seg_bind_wrap (wpAny_standAt (seg_bind_wrap ((W₀ _ hh').self 0 s _ _ ⟨hit, hl⟩ (seg_again rfl loop))))))
      | (refine seg_bind_wrap (wpAny_rule ?_); show Seg _ A _ _ _ s₀ _ ((standAt iter.pos >>= _).wrap _ _ _ _) [] s; exact seg_bind_wrap (wpAny_standAt (seg_bind_wrap ((W₀ _ hh').self 0 s _ _ ⟨hit, hl⟩ (seg_again rfl loop)))))
end
end
section
open PySem PySem.W PySem.Calls PyProof.Rows PySem.Spec
set_option maxRecDepth 100000
abbrev OneAt (w : World) (A : Around) (K : Frag) (p : Program) (loose : List Str) (mean : ExcName → Option Value) (mg mb : Str → Option Value) (g₀ : Array GenState) (base h₀ : Heap) (L : Addr) (m : Str → Option Value) (led : List (Addr × Obj)) (env : Env) (outer : List Env) (elt iter : Expr) (x : Str) (px : Pos) (scope : Scope) (cl : List (Str × Addr)) (pos : Pos)
    (l : Addr) (v₀ : Value) (a : Addr) (s : Shared) : Prop :=
  ∃ (g I C : Nat) (code : Value) (gd : Heap) (itobj : Obj), g₀.size ≤ g ∧ s.heap.IsGen a g ∧ s.gens[g]? = some (.fresh (.compStart (.GeneratorExp elt [⟨.Name x px, iter, [], 0⟩] scope pos) 0 (.ref I) .none (genEnv scope cl C code builtinsNs env))) ∧
    s.heap.IsListIter I l 0 ∧ s.heap.IsList l #[v₀] ∧ s.heap.Ns C (fun y => if y = (".0" : Str) then some (.ref I) else none) ∧ s.heap.get? I = some itobj ∧
    Fr h₀ L gd m ∧ Below A base (env :: outer) gd ∧ K.In gd ∧ Top p loose mean mg mb gd ∧ (∀ b o, gd.get? b = some o → s.heap.get? b = some o) ∧ gd.objs.size ≤ C ∧
    (∀ q ∈ led, gd.get? q.1 = none) ∧ gd.get? I = none ∧ (∀ q ∈ led, q.1 < I) ∧ I < C ∧ C < a ∧ a < s.heap.objs.size ∧ L < I ∧ l < I
section
variable {prog : Program} {w : World} {A A₀ : Around} {E : Value → Shared → Prop} {s : Shared} {base h₀ : Heap} {c P L : Addr} {ps : Array Value} {m mg mb : Str → Option Value} {bm : Addr} {ob : Obj} {pre post : List (Addr × Obj)} {g₀ : Array GenState} {K : Frag} {p : Program} {loose : List Str} {mean : ExcName → Option Value}
theorem gx_one {env : Env} {outer : List Env} {elt iter : Expr} {x : Str} {px : Pos} {scope : Scope} {cl : List (Str × Addr)} {pos : Pos} {Q : Value → Shared → Prop} {l : Addr} {v₀ : Value}
    (Bl : Below A₀ base outer h₀) (hA : A.frames = some (env :: outer)) (hf : env.frame = some L) (hke : env.scope.kind = .function) (X : K.In h₀) (T : Top p loose mean mg mb h₀)
    (Fh : Fr h₀ L s.heap m) (N : News h₀ L s.heap (pre ++ (P, tabObj ps) :: post)) (hne : ∀ q ∈ pre ++ post, q.1 ≠ P) (hcd : CodeHd h₀ c P) (ht : TriplesOk ps.toList) (B : BMod h₀ env.globals mg bm ob) (hcode : env.code = .ref c)
    (G : GOk g₀ s.gens) (hlim : h₀.NoLimit)
    (hh : A.handled = none) (hco : scope.isCoroutine = false) (hclos : closureFor scope env = pure cl) (hcell : ∀ y ∈ scope.names, y.2 ≠ .cell) (h0 : scope.names.lookup (".0" : Str) = some NameKind.local)
    (hkind : scope.kind = .function) (hroom : A.depth < recursionLimit)
    (hl : s.heap.IsList l #[v₀])
    (hiter : ∀ Q' : Value → Shared → Prop, Q' (.ref l) s → wpAny (model prog w) A (eval iter env) Q' E s)
    (hQ : ∀ a s₅ ps', Fr h₀ L s₅.heap m → News h₀ L s₅.heap (pre ++ (P, tabObj ps') :: post) → TriplesOk ps'.toList → GOk g₀ s₅.gens → s₅.os = s.os →
      OneAt w A K p loose mean mg mb g₀ base h₀ L m (pre ++ (P, tabObj ps') :: post) env outer elt iter x px scope cl pos l v₀ a s₅ → Q (.ref a) s₅)
    (hs : ∀ x, genFold iter env x = pure x) :
    wpAny (model prog w) A (eval (.GeneratorExp elt [⟨.Name x px, iter, [], 0⟩] scope pos) env) Q E s := by
  have hlt : l < s.heap.objs.size := by obtain ⟨_, e, _⟩ := hl; exact Heap.lt_size e
  have hP := N (P, tabObj ps) (by (first | k_mem | ((repeat refine' List.Mem.tail _ ?_); refine' List.mem_append_right _ ?_; first | k_mem | (refine' List.mem_append_right _ ?_; k_mem)) | simp))
  have hLs : L < s.heap.objs.size := Fh.ns.lt
  refine wpAny_GeneratorExp_make hco hclos hcell h0 hkind hroom (hiter _ (wpAny_pyIter_list hl ?_)) hs
  have F₂ : Fr h₀ L (s.heap.push { cls := .type "list_iterator", data := .fields #[.ref l, .int 0 0] }) m := Fh.push _
  have N₂ : News h₀ L (s.heap.push { cls := .type "list_iterator", data := .fields #[.ref l, .int 0 0] }) ((s.heap.objs.size, { cls := .type "list_iterator", data := .fields #[.ref l, .int 0 0] }) :: (pre ++ (P, tabObj ps) :: post)) := N.push Fh _
  have N₂' : News h₀ L (s.heap.push { cls := .type "list_iterator", data := .fields #[.ref l, .int 0 0] }) (pre ++ (P, tabObj ps) :: post) := fun q hq => N₂ q (.tail _ hq)
  obtain ⟨FG, BG, st, _⟩ := groundX (s := { s with heap := s.heap.push { cls := .type "list_iterator", data := .fields #[.ref l, .int 0 0] } }) (A := A) (R := fun _ _ => True) Bl F₂ N₂ hA hf hke
  refine ⟨hlim.keeps F₂.keep, genexprCode_any hcode (hcd.keeps F₂.keep) (N₂' (P, tabObj ps) (by (first | k_mem | ((repeat refine' List.Mem.tail _ ?_); refine' List.mem_append_right _ ?_; first | k_mem | (refine' List.mem_append_right _ ?_; k_mem)) | simp))).1 ht fun code h₃ tk₃ ps' hx₃ hge hP₃ ht' => ?_⟩
  have hPL : P ≠ L := hP.2.1
  have keep₃ : ∀ b o, h₀.get? b = some o → h₃.get? b = some o := fun b o e => hx₃ b o (fun e' => by rw [e', hP.2.2] at e; cases e) (F₂.keep b o e)
  have N₃ : News h₀ L h₃ (pre ++ (P, tabObj ps') :: post) := news_grown N₂' hne hx₃ hP₃
  have F₃ : Fr h₀ L h₃ m := by
    obtain ⟨oL, es, ep, hL, r⟩ := F₂.ns
    exact ⟨⟨oL, es, ep, hx₃ L oL (Ne.symm hPL) hL, r⟩, keep₃, F₂.above⟩
  have M₃ : BMod h₃ env.globals mg bm ob := B.keeps keep₃
  refine wpAny_builtinsFor M₃.ns M₃.name M₃.ne M₃.obj M₃.cls M₃.dict M₃.data ?_
  intro h' hn' hs'
  have hsz : h'.objs.size = h₃.objs.size + 1 := by rw [hs'.1, Heap.size_push]
  have keep' : ∀ b o, h₃.get? b = some o → h'.get? b = some o := fun b o e => hs'.extBut b o (Nat.ne_of_lt (Heap.lt_size e)) (Heap.get?_push_of_some _ e)
  have hs2 : (s.heap.push { cls := .type "list_iterator", data := .fields #[.ref l, .int 0 0] }).objs.size = s.heap.objs.size + 1 := Heap.size_push ..
  have hge' : s.heap.objs.size + 1 ≤ h₃.objs.size := hs2 ▸ hge
  have hIP : s.heap.objs.size ≠ P := Nat.ne_of_gt (Heap.lt_size hP.1)
  have hlP : l ≠ P := fun e => by
    obtain ⟨o, ho, hc, _⟩ := hl
    have := hP.1
    rw [← e, ho] at this
    cases this
    exact absurd hc (by (first | k_mem | ((repeat refine' List.Mem.tail _ ?_); refine' List.mem_append_right _ ?_; first | k_mem | (refine' List.mem_append_right _ ?_; k_mem)) | simp))
  let k₅ : ∀ (gobj : Obj) b o, h₃.get? b = some o → (h'.push gobj).get? b = some o := fun _ b o e => Heap.get?_push_of_some _ (keep' b o e)
  have hI₃ : h₃.get? s.heap.objs.size = some { cls := .type "list_iterator", data := .fields #[.ref l, .int 0 0] } := hx₃ _ _ hIP (N₂ _ List.mem_cons_self).1
  have hl₃ : h₃.IsList l #[v₀] := (hl.push _).at fun o e => hx₃ _ _ hlP e
  have hled : ∀ q ∈ pre ++ (P, tabObj ps') :: post, ∃ o, (q.1, o) ∈ pre ++ (P, tabObj ps) :: post := by
    intro q hq
    rcases List.mem_append.mp hq with h | h
    · exact ⟨q.2, List.mem_append.mpr (.inl h)⟩
    · rcases List.mem_cons.mp h with rfl | h
      · exact ⟨tabObj ps, List.mem_append.mpr (.inr (.head _))⟩
      · exact ⟨q.2, List.mem_append.mpr (.inr (.tail _ h))⟩
  refine hQ _ _ ps' (F₃.keeps (k₅ _)) (fun q hq => ⟨k₅ _ _ _ (N₃ q hq).1, (N₃ q hq).2⟩) ht' (G.push rfl) rfl ?_
  refine ⟨s.gens.size, s.heap.objs.size, h₃.objs.size, code, _, { cls := .type "list_iterator", data := .fields #[.ref l, .int 0 0] }, G.size, ⟨_, _, _, Heap.get?_push_size _ rfl, rfl, rfl, rfl⟩, Array.getElem?_push_size .., ⟨_, k₅ _ _ _ hI₃, rfl, rfl⟩, hl₃.at fun o e => k₅ _ _ _ e, hn'.push _, k₅ _ _ _ hI₃,
    FG, BG, X.keeps st, T.keeps st, ?_, ?_, ?_, ?_, ?_, hge', ?_, ?_, hLs, hlt⟩
  · intro b o e
    refine k₅ _ b o (hx₃ b o (fun e' => ?_) (of_hideAll _ e))
    have : (hideAll (s.heap.push { cls := .type "list_iterator", data := .fields #[.ref l, .int 0 0] }) (((s.heap.objs.size, ({ cls := .type "list_iterator", data := .fields #[.ref l, .int 0 0] } : Obj)) :: (pre ++ (P, tabObj ps) :: post)).map (·.1))).get? P = none := hideAll_none _ (List.mem_map.mpr ⟨(P, tabObj ps), .tail _ (List.mem_append.mpr (.inr (.head _))), rfl⟩)
    rw [e', this] at e; cases e
  · refine Nat.le_trans (Nat.le_of_eq (hideAll_size _ _)) hge
  · intro q hq
    obtain ⟨o, ho⟩ := hled q hq
    exact hideAll_none _ (List.mem_map.mpr ⟨(q.1, o), .tail _ ho, rfl⟩)
  · exact hideAll_none _ (List.mem_map.mpr ⟨_, List.mem_cons_self, rfl⟩)
  · intro q hq
    obtain ⟨o, ho⟩ := hled q hq
    exact Heap.lt_size (N _ ho).1
  · rw [hsz]; exact Nat.lt_succ_self _
  · show _ < (h'.push _).objs.size
    rw [Heap.size_push]; exact Nat.lt_succ_self _
theorem collect_oneAt {A₁ : Around} {env : Env} {outer : List Env} {elt iter : Expr} {x : Str} {px : Pos} {scope : Scope} {cl : List (Str × Addr)} {pos : Pos} {l : Addr} {v₀ : Value} {a : Addr} {led : List (Addr × Obj)} {ol : Obj} {Q : List Value → Shared → Prop} {Out : Value → List (Addr × Obj) → List (Addr × Obj) → Prop}
    (O : OneAt w A K p loose mean mg mb g₀ base h₀ L m led env outer elt iter x px scope cl pos l v₀ a s)
    (hh : A₁.handled = none) (hroom : A₁.in1.depth < recursionLimit) (F : Fr h₀ L s.heap m) (N : News h₀ L s.heap led) (G : GOk g₀ s.gens) (hl : (l, ol) ∈ led) (hlim : h₀.NoLimit)
    (hk : scope.kind = .function) (hx : scope.names.lookup x = some .local) (hco : scope.isCoroutine = false) (hx0 : x ≠ (".0" : Str))
    (hout : ∀ y new led', Out y new led' → led'.map (·.1) = led.map (·.1) ∧ (l, ol) ∈ led')
    (helt : ∀ (gd : Heap) (C I : Addr) (code : Value) (u : Shared) (ex : List (Addr × Obj)) mC E', Fr gd C u.heap mC → mC x = some v₀ → News gd C u.heap (ex ++ led) → (∀ q ∈ ex, ∀ r ∈ led, r.1 < q.1) → GOk u.gens u.gens → Below A base (env :: outer) gd → K.In gd → Top p loose mean mg mb gd → u.os = s.os →
      wpAny (model prog w) ((A₁.in1.in1).over (.compLoop (.GeneratorExp elt [⟨.Name x px, iter, [], 0⟩] scope pos) 0 (.ref I) .none (genEnv scope cl C code builtinsNs env)) []) (eval elt (genEnv scope cl C code builtinsNs env))
        (fun y u' => ∃ new led' mC', Out y new led' ∧ Fr gd C u'.heap mC' ∧ News gd C u'.heap (new ++ (ex ++ led')) ∧ (∀ q ∈ new, ∀ r ∈ ex ++ led', r.1 < q.1) ∧ GOk u.gens u'.gens ∧ u'.os = u.os) E' u)
    (hQ : ∀ v s₂ new led', Out v new led' → Fr h₀ L s₂.heap m → News h₀ L s₂.heap (new ++ led') → (∀ q ∈ new, ∀ r ∈ led', r.1 < q.1) → GOk g₀ s₂.gens → s₂.os = s.os → Q [v] s₂) :
    wpAny (model prog w) A₁ (collect (.ref a)) Q E s := by
  refine ex6 O ?_
  intro g I C code gd itobj hy
  refine an21 hy ?_
  clear hy
  intro hgg hgen hgs hit hls hC hIo FG BG XG TG keep hsC hledg hIg hledI hIC hCa has hLI hlI
  have hgd : ∀ b, gd.objs.size ≤ b → gd.get? b = none := fun b hb => by
    cases q : gd.get? b with
    | none => rfl
    | some o => exact absurd (Heap.lt_size q) (Nat.not_lt.mpr hb)
  have hCg := hgd C hsC
  have hag := hgd a (Nat.le_of_lt (Nat.lt_of_le_of_lt hsC hCa))
  have hSg := hgd s.heap.objs.size (Nat.le_of_lt (Nat.lt_of_lt_of_le (Nat.lt_of_le_of_lt hsC hCa) (Nat.le_of_lt has)))
  have hCS : C < s.heap.objs.size := Nat.lt_trans hCa has
  obtain ⟨oa, nm, qn, hoa, hoar⟩ := id hgen
  refine collect_gen1 (I := I) (C := C) (Mid := fun h₁ v s₁ => ∃ new led' mC' ex, Out v new led' ∧ Fr gd C s₁.heap mC' ∧ News gd C s₁.heap (new ++ (ex ++ led')) ∧ (∀ q ∈ new, ∀ r ∈ ex ++ led', r.1 < q.1) ∧ (a, oa) ∈ ex ∧ (∃ n, h₁.get? s.heap.objs.size = some (listOf #[] n) ∧ (s.heap.objs.size, listOf #[] n) ∈ ex) ∧ (∃ i1, (I, i1) ∈ ex) ∧
      GOk (Shared.setGen s g .running).gens s₁.gens ∧ s₁.os = s.os) hh hroom hgen (hlim.keeps F.keep) hgs (fun h₁ tk₁ k₁ hS₁ => ⟨rfl, ?_⟩) ?_ ⟨Nat.ne_of_gt hCS, Nat.ne_of_gt (Nat.lt_trans hIC hCS)⟩ ?_
  · obtain ⟨n₁, hSn⟩ := hS₁
    refine seg_one (A := A₁.in1.in1) (s := Shared.setGen { s with heap := h₁, toks := tk₁ } g .running) (S := s.heap.objs.size) (l := l) (v₀ := v₀) (cenv := genEnv scope cl C code builtinsNs env) (m := fun y => if y = (".0" : Str) then some (.ref I) else none) hh hx (by simp [genEnv, hk]) hco
      (hit.at fun o e => k₁ _ _ e) (hls.at fun o e => k₁ _ _ e) (hC.keeps k₁) (Nat.ne_of_lt hlI) (Nat.ne_of_gt hIC) (Nat.ne_of_gt (Nat.lt_trans hlI hIC)) (Nat.ne_of_lt (Nat.lt_trans hIC hCS)) (Nat.ne_of_lt (Nat.lt_trans hlI (Nat.lt_trans hIC hCS))) (fun h tk E' kh hn hit₁ hls₁ => ?_)
    obtain ⟨o1, ho1, hr1⟩ := id hit₁
    have up : ∀ b o, b ≠ C → b ≠ I → s.heap.get? b = some o → h.get? b = some o := fun b o h1 h2 e => kh b o h1 h2 (k₁ b o e)
    have hS : h.get? s.heap.objs.size = some (listOf #[] n₁) := kh _ _ (Nat.ne_of_gt hCS) (Nat.ne_of_gt (Nat.lt_trans hIC hCS)) hSn
    have Fg : Fr gd C h (fun y => if y = x then some v₀ else if y = (".0" : Str) then some (.ref I) else none) :=
      ⟨hn, fun b o e => up b o (fun e' => by rw [e', hCg] at e; cases e) (fun e' => by rw [e', hIg] at e; cases e) (keep b o e), hsC⟩
    have Ng : News gd C h ([(s.heap.objs.size, listOf #[] n₁), (I, o1), (a, oa)] ++ led) := by
      intro q hq
      rcases List.mem_append.mp hq with hq | hq
      · simp only [List.mem_cons, List.not_mem_nil, or_false] at hq
        rcases hq with rfl | rfl | rfl
        · exact ⟨hS, Nat.ne_of_gt hCS, hSg⟩
        · exact ⟨ho1, Nat.ne_of_lt hIC, hIg⟩
        · exact ⟨up _ _ (Nat.ne_of_gt hCa) (Nat.ne_of_gt (Nat.lt_trans hIC hCa)) hoa, Nat.ne_of_gt hCa, hag⟩
      · have hqI := hledI q hq
        exact ⟨up _ _ (Nat.ne_of_lt (Nat.lt_trans hqI hIC)) (Nat.ne_of_lt hqI) (N q hq).1, Nat.ne_of_lt (Nat.lt_trans hqI hIC), hledg q hq⟩
    refine wpAny_mono (helt gd C I code { s with heap := h, gens := (Shared.setGen s g .running).gens, toks := tk } _ _ E' Fg (by (first | k_mem | ((repeat refine' List.Mem.tail _ ?_); refine' List.mem_append_right _ ?_; first | k_mem | (refine' List.mem_append_right _ ?_; k_mem)) | simp)) Ng (fun q hq r hr => ?_) ⟨?_, Nat.le_refl _, fun _ _ => rfl⟩ BG XG TG rfl) (fun y u' hu => ?_) fun _ _ e => e
    · have hrI := hledI r hr
      simp only [List.mem_cons, List.not_mem_nil, or_false] at hq
      rcases hq with rfl | rfl | rfl
      · exact Nat.lt_trans hrI (Nat.lt_trans hIC hCS)
      · exact hrI
      · exact Nat.lt_trans hrI (Nat.lt_trans hIC hCa)
    · exact G.bare.moved (g := g) (GenOnlyQ.of (GenOnly.setGen s g .running) (setGen_self hgs) rfl)
    · obtain ⟨new, led', mC', hO, F', N', hnl, G', eo'⟩ := hu
      have hIx : ∀ (b : Addr) (ob : Obj), (b, ob) ∈ [(s.heap.objs.size, listOf #[] n₁), (I, o1), (a, oa)] → u'.heap.get? b = some ob := fun b ob hb => (N' (b, ob) (List.mem_append.mpr (.inr (List.mem_append.mpr (.inl hb))))).1
      refine ⟨⟨new, led', mC', _, hO, F', N', hnl, .tail _ (.tail _ (.head _)), ⟨n₁, hSn, .head _⟩, ⟨o1, .tail _ (.head _)⟩, G', eo'⟩, fun o e => ?_, fun o e => ?_⟩
      · rw [ho1] at e; cases e
        exact hIx _ _ (.tail _ (.head _))
      · have hlo := (N (l, ol) hl).1
        have e2 : h.get? l = some ol := up _ _ (Nat.ne_of_lt (Nat.lt_trans hlI hIC)) (Nat.ne_of_lt hlI) hlo
        rw [e2] at e; cases e
        exact (N' (l, ol) (List.mem_append.mpr (.inr (List.mem_append.mpr (.inr (hout _ _ _ hO).2))))).1
  · intro h₁ v s₁ hz
    refine ex4 hz ?_
    intro new led' mC' ex hz2
    refine an9 hz2 ?_
    clear hz hz2
    rintro hO F' N' hnl hae ⟨n, hSn, hSe⟩ _ G' eo'
    have hex : ∀ (b : Addr) (ob : Obj), (b, ob) ∈ ex → s₁.heap.get? b = some ob := fun b ob hb => (N' (b, ob) (List.mem_append.mpr (.inr (List.mem_append.mpr (.inl hb))))).1
    refine ⟨⟨oa, nm, qn, hex _ _ hae, hoar⟩, (hlim.keeps FG.keep).keeps F'.keep, ?_, fun o e => ?_⟩
    · have hr : (Shared.setGen s g .running).gens[g]? = some .running := setGen_self hgs
      obtain ⟨hlt, _⟩ := Array.getElem?_eq_some_iff.mp hr
      exact (G'.old g hlt).trans hr
    · rw [hSn] at e; cases e
      exact hex _ _ hSe
  · intro h₁ v s₁ s₂ hz
    refine ex4 hz ?_
    intro new led' mC' ex hz2
    refine an9 hz2 ?_
    clear hz hz2
    rintro hO F' N' hnl hae ⟨n, hSn, hSe⟩ ⟨i1, hIe⟩ G' eo' hk hgo heo
    have hkeys := (hout _ _ _ hO).1
    have hled' : ∀ q ∈ led', ∃ r ∈ led, r.1 = q.1 := fun q hq => by
      have : q.1 ∈ led.map (·.1) := hkeys ▸ List.mem_map_of_mem hq
      exact List.mem_map.mp this
    have back := news_back FG N'
    refine hQ v s₂ new led' hO ?_ ?_ (fun q hq r hr => hnl q hq r (List.mem_append.mpr (.inr hr))) ?_ (heo.trans eo')
    · obtain ⟨oL, es, ep, hL, hr⟩ := FG.ns
      have hLC : L ≠ C := Nat.ne_of_lt (Nat.lt_trans hLI hIC)
      refine ⟨⟨oL, es, ep, hk L oL (Nat.ne_of_lt (Nat.lt_trans hLI (Nat.lt_trans hIC hCS))) hLC (Nat.ne_of_lt hLI) (F'.keep _ _ hL), hr⟩, fun b o e => ?_, FG.above⟩
      have e1 := FG.keep b o e
      exact hk b o (fun e' => by rw [e', hSg] at e1; cases e1) (fun e' => by rw [e', hCg] at e1; cases e1) (fun e' => by rw [e', hIg] at e1; cases e1) (F'.keep _ _ e1)
    · intro q hq
      have hq' : q ∈ new ++ (ex ++ led') := by
        rcases List.mem_append.mp hq with h | h
        · exact List.mem_append.mpr (.inl h)
        · exact List.mem_append.mpr (.inr (List.mem_append.mpr (.inr h)))
      refine ⟨hk q.1 q.2 ?_ (N' q hq').2.1 ?_ (N' q hq').1, (back q hq').2⟩
      · rcases List.mem_append.mp hq with h | h
        · exact Nat.ne_of_gt (hnl q h _ (List.mem_append.mpr (.inl hSe)))
        · obtain ⟨r, hr, e⟩ := hled' q h
          exact e ▸ Nat.ne_of_lt (Nat.lt_trans (hledI r hr) (Nat.lt_trans hIC hCS))
      · rcases List.mem_append.mp hq with h | h
        · exact Nat.ne_of_gt (hnl q h _ (List.mem_append.mpr (.inl hIe)))
        · obtain ⟨r, hr, e⟩ := hled' q h
          exact e ▸ Nat.ne_of_lt (hledI r hr)
    · have hsz : (Shared.setGen s g .running).gens.size = s.gens.size := (GenOnly.setGen s g .running).1
      refine ⟨G'.bare.moved hgo, ?_, fun i hi => ?_⟩
      · have h1 := G'.size
        rw [hsz] at h1
        have h2 : s₂.gens.size = s₁.gens.size := by
          rcases hgo with h | ⟨⟨h, _⟩, _⟩
          · rw [h]
          · exact h
        rw [h2]
        exact Nat.le_trans G.size h1
      · have hig : i ≠ g := Nat.ne_of_lt (Nat.lt_of_lt_of_le hi hgg)
        have h2 : s₂.gens[i]? = s₁.gens[i]? := by
          rcases hgo with h | ⟨⟨_, h⟩, _⟩
          · rw [h]
          · exact h i hig
        rw [h2, G'.old i (by rw [hsz]; exact Nat.lt_of_lt_of_le hi G.size), (GenOnly.setGen s g .running).2 i hig]
        exact G.old i hi
end
end
section
open PySem PySem.W PySem.Calls PyProof.Rows PySem.Spec
set_option maxRecDepth 100000
set_option maxHeartbeats 4000000
section
variable {prog : Program} {w : World} {A : Around} {E : Value → Shared → Prop} {s : Shared} {h₀ : Heap} {L : Addr} {m : Str → Option Value} {g₀ : Array GenState}
theorem sort_key1 {a : Addr} {f v : Value} {n : Nat} {led : List (Addr × Obj)} {OutK : List (Addr × Obj) → Prop} {P : PySem.Fin → Shared → Prop} (F : Fr h₀ L s.heap m) (N : News h₀ L s.heap led) (ho : s.heap.get? a = some (seqObj "list" #[v] n)) (haL : a ≠ L) (ha0 : h₀.get? a = none) (hna : ∀ p ∈ led, p.1 < a) (G : GOk g₀ s.gens)
    (hkeys : ∀ led₂, OutK led₂ → led₂.map (·.1) = led.map (·.1))
    (turn : ∀ (u : Shared) (ex : List (Addr × Obj)), Fr h₀ L u.heap m → News h₀ L u.heap (ex ++ led) → (∀ q ∈ ex, ∀ r ∈ led, r.1 < q.1) → GOk g₀ u.gens → u.os = s.os →
      wpAny (model prog w) A (call f [v]) (fun _ u' => ∃ led₂, OutK led₂ ∧ Fr h₀ L u'.heap m ∧ News h₀ L u'.heap (ex ++ led₂) ∧ GOk g₀ u'.gens ∧ u'.os = u.os) (fun _ _ => False) u)
    (h : ∀ s' led₂ c, OutK led₂ → Fr h₀ L s'.heap m → News h₀ L s'.heap ((a, listOf #[v] c) :: led₂) → GOk g₀ s'.gens → s'.os = s.os → P (.done (.ret .none)) s') :
    wpAny (model prog w) A (ksk_tree a f false) P E s := by
  have ha : a < s.heap.objs.size := Heap.lt_size ho
  have s1 := Heap.SameBut.update s.heap a (Obj.mapSeq fun _ => (#[] : Array Value))
  obtain ⟨e1, ho1⟩ : ∃ e1, (s.heap.update a (Obj.mapSeq fun _ => (#[] : Array Value))).get? a = some (seqObj "list" #[] e1) := ⟨_, get?_update_seq ho fun _ => #[]⟩
  have F1 := ksk_fr F s1 haL ha0
  have N1 := ksk_news N s1 (fun p hp => Nat.ne_of_lt (hna p hp))
  have hkS : ((s.heap.update a (Obj.mapSeq fun _ => (#[] : Array Value))).push (seqObj "tuple" #[v] 0)).objs.size = s.heap.objs.size + 1 := by rw [size_push', Heap.size_update]
  have hLk : L < ((s.heap.update a (Obj.mapSeq fun _ => (#[] : Array Value))).push (seqObj "tuple" #[v] 0)).objs.size := (F1.push _).ns.lt
  unfold ksk_tree
  refine wpAny_bind (listItems_at ho rfl ?_)
  refine wpAny_bind (listUpdate_at ho rfl ?_ (by simp [sizeLine_eq]) (Nat.zero_le _))
  refine wpAny_bind (seqEpoch_at ho1 rfl ?_)
  refine wpAny_bind (wpAny_newTuple ?_ (by simp [sizeLine_eq]))
  refine wpAny_bind (wpAny_newList ?_ (Nat.zero_le _))
  refine wpAny_holding ?_
  show wpAny (model prog w) A (ksk_rest a f false #[v] e1 (.ref ((s.heap.update a (Obj.mapSeq fun _ => (#[] : Array Value))).push (seqObj "tuple" #[v] 0)).objs.size)) P E
    { s with heap := ((s.heap.update a (Obj.mapSeq fun _ => (#[] : Array Value))).push (seqObj "tuple" #[v] 0)).push (seqObj "list" #[] 0) }
  have hkSe : ∀ z, z = ((s.heap.update a (Obj.mapSeq fun _ => (#[] : Array Value))).push (seqObj "tuple" #[v] 0)).objs.size → z = s.heap.objs.size + 1 := fun z e => e.trans hkS
  generalize hz : ((s.heap.update a (Obj.mapSeq fun _ => (#[] : Array Value))).push (seqObj "tuple" #[v] 0)).objs.size = kS at hkS hLk ⊢
  have N2 : News h₀ L (((s.heap.update a (Obj.mapSeq fun _ => (#[] : Array Value))).push (seqObj "tuple" #[v] 0)).push (seqObj "list" #[] 0)) ([(kS, seqObj "list" #[] 0), (a, seqObj "list" #[] e1)] ++ led) := by
    intro p hp
    rcases List.mem_append.mp hp with hp | hp
    · simp only [List.mem_cons, List.not_mem_nil, or_false] at hp
      rcases hp with rfl | rfl
      · exact ⟨hz ▸ Heap.get?_push_size _ rfl, Nat.ne_of_gt hLk, Heap.get?_none_of_le (Nat.le_trans F.above (Nat.le_of_lt hLk))⟩
      · exact ⟨Heap.get?_push_of_some _ (Heap.get?_push_of_some _ ho1), haL, ha0⟩
    · exact ⟨Heap.get?_push_of_some _ (Heap.get?_push_of_some _ (N1 p hp).1), (N1 p hp).2⟩
  have hka : kS ≠ a := by rw [hkS]; exact Nat.ne_of_gt (Nat.lt_succ_of_lt ha)
  have hlk : ∀ p ∈ led, p.1 < kS := fun p hp => by rw [hkS]; exact Nat.lt_succ_of_lt (Heap.lt_size (N p hp).1)
  unfold ksk_rest
  refine wpAny_bind (wpAny_rule ?_)
  rw [← Array.forIn_toList]
  rw [show (#[v] : Array Value).toList = [v] from rfl, List.forIn_cons]
  refine wpAny_bind (wpAny_bind ?_)
  refine wpAny_bind (wpAny_attempt (wpAny_mono (turn { s with heap := ((s.heap.update a (Obj.mapSeq fun _ => (#[] : Array Value))).push (seqObj "tuple" #[v] 0)).push (seqObj "list" #[] 0) } _ ((F1.push _).push _) N2 (fun q hq r hr => ?_) G rfl) (fun k u' hu => ?_) fun _ _ hF => hF.elim))
  · simp only [List.mem_cons, List.not_mem_nil, or_false] at hq
    rcases hq with rfl | rfl
    · exact hlk r hr
    · exact hna r hr
  · obtain ⟨led₂, hO, F3, N3, G3, eo3⟩ := hu
    have hk2 : ∀ q ∈ led₂, ∃ r ∈ led, r.1 = q.1 := fun q hq => by
      have : q.1 ∈ led.map (·.1) := hkeys _ hO ▸ List.mem_map_of_mem hq
      exact List.mem_map.mp this
    have l2k : ∀ q ∈ led₂, q.1 ≠ kS := fun q hq => by
      obtain ⟨r, hr, e⟩ := hk2 q hq
      exact e ▸ Nat.ne_of_lt (hlk r hr)
    have l2a : ∀ q ∈ led₂, q.1 ≠ a := fun q hq => by
      obtain ⟨r, hr, e⟩ := hk2 q hq
      exact e ▸ Nat.ne_of_lt (hna r hr)
    have nk := N3 (kS, seqObj "list" #[] 0) (.head _)
    have na := N3 (a, seqObj "list" #[] e1) (.tail _ (.head _))
    have N3' : News h₀ L u'.heap led₂ := fun q hq => N3 q (.tail _ (.tail _ hq))
    try dsimp only
    have t1 := Heap.SameBut.update u'.heap kS (Obj.mapSeq (·.push k))
    obtain ⟨c2, hc2⟩ : ∃ c2, (u'.heap.update kS (Obj.mapSeq (·.push k))).get? kS = some (seqObj "list" #[k] c2) := ⟨_, get?_update_seq nk.1 (·.push k)⟩
    refine wpAny_bind (listUpdate_at nk.1 rfl ?_ (Nat.zero_le _) (by simp [sizeLine_eq]))
    refine wpAny_pure ?_
    try dsimp only
    rw [List.forIn_nil]
    refine wpAny_pure ?_
    refine wpAny_bind (listItems_at hc2 rfl ?_)
    have na4 : (u'.heap.update kS (Obj.mapSeq (·.push k))).get? a = some (seqObj "list" #[] e1) := (t1.2 a hka.symm).trans na.1
    have F4 := ksk_fr F3 t1 nk.2.1 nk.2.2
    have N4 := ksk_news N3' t1 l2k
    unfold ksk_end
    simp only [Bool.false_eq_true, if_false]
    rw [if_pos (show (#[v] : Array Value).size < 2 from Nat.lt_succ_self 1), if_pos (show (#[v] : Array Value).size < 2 from Nat.lt_succ_self 1)]
    refine wpAny_bind (wpAny_pure ?_)
    rw [StateT.run_pure]
    refine wpAny_bind (wpAny_pure ?_)
    try dsimp only
    unfold ksk_tail
    try dsimp only
    have hz9 : Array.map (fun x : Keyed => x.snd) (arrOf (SortSt.mk' general' ((#[k] : Array Value).zip #[v]) #[] 7 none)) = #[v] := by
      first | rfl | simp [arrOf, SortSt.mk']
    simp only [Bool.false_eq_true, if_false, hz9]
    have t2 := Heap.SameBut.update (u'.heap.update kS (Obj.mapSeq (·.push k))) kS (Obj.mapSeq fun _ => (#[] : Array Value))
    have na5 := (t2.2 a hka.symm).trans na4
    refine wpAny_bind (listUpdate_at hc2 rfl ?_ (by simp [sizeLine_eq]) (Nat.zero_le _))
    refine wpAny_bind (wpAny_letGo ?_)
    refine wpAny_bind (seqEpoch_at na5 rfl ?_)
    obtain ⟨c3, hc3⟩ : ∃ c3, (((u'.heap.update kS (Obj.mapSeq (·.push k))).update kS (Obj.mapSeq fun _ => (#[] : Array Value))).update a (Obj.mapSeq fun _ => (#[v] : Array Value))).get? a = some (seqObj "list" #[v] c3) := ⟨_, get?_update_seq na5 fun _ => #[v]⟩
    have t3 := Heap.SameBut.update ((u'.heap.update kS (Obj.mapSeq (·.push k))).update kS (Obj.mapSeq fun _ => (#[] : Array Value))) a (Obj.mapSeq fun _ => (#[v] : Array Value))
    have F5 := ksk_fr (ksk_fr F4 t2 nk.2.1 nk.2.2) t3 na.2.1 na.2.2
    have N5 := ksk_news (ksk_news N4 t2 l2k) t3 l2a
    refine wpAny_bind (listUpdate_at na5 rfl ?_ (Nat.zero_le _) (by simp [sizeLine_eq]))
    simp only [bne_self_eq_false, Bool.false_eq_true, if_false]
    refine wpAny_pure (h _ led₂ c3 hO F5 (fun q hq => ?_) G3 eo3)
    rcases List.mem_cons.mp hq with rfl | hq
    · exact ⟨hc3, na.2⟩
    · exact N5 q hq
theorem sorted_key1 {x : Value} {q : Addr} {Q : Value → Shared → Prop} {OutK : Value → List (Addr × Obj) → List (Addr × Obj) → Prop}
    (_F : Fr h₀ L s.heap m) (hkeys : ∀ v led led₂, OutK v led led₂ → led₂.map (·.1) = led.map (·.1))
    (hc : wpAny (model prog w) A.in1 (collect x) (fun vs s₁ => ∃ v led, vs = [v] ∧ Fr h₀ L s₁.heap m ∧ News h₀ L s₁.heap led ∧ GOk g₀ s₁.gens ∧
      (∀ (u : Shared) (ex : List (Addr × Obj)), Fr h₀ L u.heap m → News h₀ L u.heap (ex ++ led) → (∀ q ∈ ex, ∀ r ∈ led, r.1 < q.1) → GOk g₀ u.gens → u.os = s₁.os →
        wpAny (model prog w) A.in1.in1 (call (.ref q) [v]) (fun _ u' => ∃ led₂, OutK v led led₂ ∧ Fr h₀ L u'.heap m ∧ News h₀ L u'.heap (ex ++ led₂) ∧ GOk g₀ u'.gens ∧ u'.os = u.os) (fun _ _ => False) u) ∧
      (∀ s' led₂ c a, OutK v led led₂ → Fr h₀ L s'.heap m → News h₀ L s'.heap ((a, listOf #[v] c) :: led₂) → (∀ r ∈ led₂, r.1 < a) → GOk g₀ s'.gens → s'.os = s₁.os → Q (.ref a) s')) E s) :
    wpAny (model prog w) A (call (.builtin "sorted") [x] [(Str.ofString "key", .ref q)]) Q E s := by
  refine call_function_entry_kw kind_sorted plain_sorted entry_sorted (ksk_s1 x (.ref q)) ?_
  unfold Builtin.«sorted»
  refine wpAny_bind (m := checkCount "sorted" 1 1 _) (wpAny_pure ?_)
  refine wpAny_bind (wpAny_mono hc (fun vs s₁ h₁ => ?_) fun _ _ e => e)
  obtain ⟨v, led, rfl, F, N, G, turn, done⟩ := h₁
  refine wpAny_bind (wpAny_newList ?_)
  have hoL : (s₁.heap.push (seqObj "list" [v].toArray 0)).get? s₁.heap.objs.size = some (seqObj "list" [v].toArray 0) := Heap.get?_push_size _ rfl
  have hL : L < s₁.heap.objs.size := F.ns.lt
  refine wpAny_bind (wpAny_holding (wpAny_call_entry_kw slot_list_sort ⟨_, hoL, rfl⟩ entry_list_sort ?body (ksk_l1 _ _)))
  case body =>
    show wpAny (model prog w) A.in1.in1 (Builtin.«list.sort» ⟨[.ref s₁.heap.objs.size], [(Str.ofString "key", .ref q)]⟩) _ _ _
    rw [ksk_t1]
    refine sort_key1 (s := { s₁ with heap := s₁.heap.push (seqObj "list" [v].toArray 0) }) (led := led) (OutK := OutK v led) (F.push _) (fun p hp => ⟨Heap.get?_push_of_some _ (N p hp).1, (N p hp).2⟩) hoL (Nat.ne_of_gt hL) (Heap.get?_none_of_le (Nat.le_trans F.above (Nat.le_of_lt hL)))
      (fun p hp => Heap.lt_size (N p hp).1) G (hkeys v led) turn (fun s' led₂ c hO F' N' G' eo' => ⟨_, rfl, ?_⟩)
    refine wpAny_pure ⟨_, rfl, done s' led₂ c _ hO F' N' (fun r hr => ?_) G' eo'⟩
    have : r.1 ∈ led.map (·.1) := hkeys v led _ hO ▸ List.mem_map_of_mem hr
    obtain ⟨z, hz, e⟩ := List.mem_map.mp this
    exact e ▸ Heap.lt_size (N z hz).1
end
end
theorem rs3 {prog : PySem.Program} {w : PySem.World} {A : PySem.Around} {Q : PySem.Flow → PySem.Shared → Prop} {E : PySem.Value → PySem.Shared → Prop} {s : PySem.Shared} {env : PySem.Env} (h : Q .next s) : PySem.wpAny (PySem.model prog w) A (PySem.execs [] env) Q E s := by
  w_top off
  walk1
  exact h
section
local macro_rules
  | `(tactic| walk_at "eval GeneratorExp") => `(tactic| refine' Mine.hold ?_)
section
open PySem PySem.W PySem.Calls PyProof.Rows PySem.Spec
set_option maxRecDepth 100000
set_option maxHeartbeats 4000000
theorem cd44 {w : World} {h : Heap} (X : (Mine.hd.heap_39 w.params).In h) : CodeHd h 44 40 :=
  ⟨_, _, _, _, _, _, _, _, _, X 44 _ rfl, rfl, rfl, rfl, rfl, rfl, rfl, rfl, rfl, by decide⟩
theorem str_set {w : World} {p : Program} {loose : List Str} {mean : ExcName → Option Value} {mg mb : Str → Option Value} {g₀ : Array GenState}
  {dp un : Nat} {gd : Option (List Code)} {cn : Str} {nms : List (Str × NameKind)} {ig ic : Bool} {mo} {a : Addr} {ccd : Value} {cl : List (Str × Addr)} {outer : List Env} {A₀ : Around} {base h₀ : Heap} {L : Addr} {m : Str → Option Value} (pre : List (Addr × Obj)) {post : List (Addr × Obj)} {s : Shared} {ps : Array Value}
    {Q E : Value → Shared → Prop} {l : Addr} {ol : Obj} {ns : List Nat}
  (B : Below A₀ base outer h₀) (F : Fr h₀ L s.heap m) (X : (Mine.hd.heap_39 w.params).In h₀) (N : News h₀ L s.heap (pre ++ (40, tabObj ps) :: post)) (hne : ∀ q ∈ pre ++ post, q.1 ≠ 40) (htr : TriplesOk ps.toList) (G : GOk g₀ s.gens) (T : Top p loose mean mg mb h₀)
  (hl : (l, ol) ∈ pre ++ (40, tabObj ps) :: post) (hi : SetO w ol ns) (hd : dp + 10 < recursionLimit) (hu : un + 100 < cLine)
  (hQ : ∀ x t ps' s', Fr h₀ L s'.heap m → News h₀ L s'.heap (pre ++ (40, tabObj ps') :: post) → TriplesOk ps'.toList → GOk g₀ s'.gens → s'.os = s.os → Q (.str x t) s') :
  wpAny (model PySem.Challenge.pw_jg0002_01 w) (ktrTop dp un gd cn ⟨.function, nms, ig, ic, mo⟩ L a ccd cl outer) (call (.ref 45) [.ref l]) Q E s := by
  refine wpAny_call ?_
  k_dflt k_enter
  rename_i g1 L1 h1 tk1 FG1 F1 B1 X1 T1 l11 o1 d11 N1
  repeat' walk1
  refine Mine.held ?_
  rename Fr _ _ _ _ => F2
  rename News _ _ _ _ => N2
  obtain ⟨bm, ob, M2⟩ := bmod_of_top T1
  have hne2 : ∀ q ∈ ((L1 + 1, o1) :: pre) ++ post, q.1 ≠ 40 := ne_cons (Nat.lt_succ_of_lt (l11 (40, tabObj ps) (by (first | k_mem | ((repeat refine' List.Mem.tail _ ?_); refine' List.mem_append_right _ ?_; first | k_mem | (refine' List.mem_append_right _ ?_; k_mem)) | simp)))) hne
  refine gx_set (pre := (L1 + 1, o1) :: pre) (F := fun i v => ∃ (k : Nat) (t : Tok), k < 5 ∧ v = .str (Str.ofString (toString (k : Int))) t) (l := l) (ps := ps) F2 N2 hne2 (cd44 X1) htr M2 rfl G T1.nolimit rfl rfl rfl (by decide) rfl rfl rfl ?_ (N2 _ (.tail _ hl)).1 hi (fun Q' hQ' => ?_) ?_ ?_ (fun _ => rfl)
  · ((try simp only [depth_under_kw', depth_under_make, depth_under_kw, depth_in1, depth_deeper, depth_caller]); (try dsimp only [ktrTop]); omega)
  · repeat' walk1
    exact hQ'
  · rintro ws ⟨ms, hms, hws⟩ A' E' i v u m₂ C code hA hv hns hmx F6 N6 hCL hC
    obtain ⟨y, hy, t, rfl⟩ := paired_at hws hv
    have F7 := Fr.mk hns F6.keep hC
    walk1
    refine gld_built F6 X1 T1 (by k_is) (by boot_by_name) (by decide) ?_
    walk1
    walk1
    refine ldVarG F7 hmx ?_
    walk1
    have hy5 : (y : Int) < 5 := by
      have := subs5_mem ns hi.2.1 y (hms.mem_iff.mp (List.mem_of_getElem? hy))
      simp only [List.mem_cons, List.not_mem_nil, or_false] at this
      omega
    refine str_of_int_fit (N := 5) (by split <;> omega) (by decide) fun _ => ?_
    exact ⟨⟨y, _, by omega, rfl⟩, _, _, rfl, fun _ _ e => e⟩
  · intro a6 s6 ps6 F6 N6 ht6 G6 eo6 ed6 ha6 hL6 hK6 X6
    walk1
    refine sorted_genN (Px := fun x => ∃ k : Nat, k < 5 ∧ x = Str.ofString (toString (k : Int))) F6 N6 hL6 hK6 G6 X6 (fun j v ⟨k, t, hk, e⟩ => ⟨_, t, ⟨k, hk, rfl⟩, e⟩) (Nat.lt_of_le_of_lt (subs5_len _ hi.2.1) (by omega)) ?_
    intro s7 vs7 e7 b7 F7 N7 lt7 G7 eo7 hS7
    clear F6 N6
    repeat' walk1
    obtain ⟨ss, hS, hsl, hsx⟩ := hS7
    have hss : ∀ x ∈ ss, x.length ≤ 1 := by
      intro x hx
      obtain ⟨k, hk, rfl⟩ := hsx x hx
      have : ∀ k : Nat, k < 5 → (Str.ofString (toString (k : Int))).length ≤ 1 := by decide
      exact this k hk
    have hsum : ∀ l : List Str, (∀ x ∈ l, x.length ≤ 1) → (l.map (·.length)).sum ≤ l.length := by
      intro l
      induction l with
      | nil => intro _; exact Nat.le_refl _
      | cons a r ih =>
        intro h
        have h1 := h a List.mem_cons_self
        have h2 := ih fun x hx => h x (List.mem_cons_of_mem _ hx)
        simp only [List.map_cons, List.sum_cons, List.length_cons]
        omega
    have h5 := subs5_len _ hi.2.1
    have hs5 := hsum ss hss
    rename News _ _ _ _ => N8
    refine join_listW (ys := ss) ⟨_, (N8 _ (.head _)).1, rfl, _, rfl⟩ (by simpa using hS) (by decide) (by omega) fun t8 k8 => ?_
    have hj : (Txt.join (Str.ofString ", ") ss).length ≤ (ss.map (·.length)).sum + ss.length * (Str.ofString ", ").length := by
      show (Builtin.Str.glued (Str.ofString ", ") ss).length ≤ _
      rw [StrLaws.glued_eq_join]
      exact StrLaws.join_length_le _ _
    have hsep : (Str.ofString ", ").length = 2 := by decide
    rw [hsep] at hj
    have hj2 : (Txt.join (Str.ofString ", ") ss).length ≤ 100 := by omega
    generalize Txt.join (Str.ofString ", ") ss = jx at hj2
    clear hj
    have h1c : (Str.ofString "{").length = 1 := by decide
    have h2c : (Str.ofString "}").length = 1 := by decide
    refine PyProof.Rows.add_str (fun t9 tk9 => ?_) (by rw [sizeLine_eq, h1c]; omega)
    walk1
    refine PyProof.Rows.add_str (fun t10 tk10 => ?_) (by rw [sizeLine_eq, h2c, Str.length_append, h1c]; omega)
    repeat' walk1
    rename News _ _ _ _ => N10
    rename Fr h₀ _ _ _ => F10
    have hk10 := N10
    exact hQ _ _ ps6 _ F10 (newsSub N10 fun p hp => .tail _ (.tail _ hp)) ht6 G7 (eo7.trans (eo6.trans rfl))
end
section
open PySem PySem.W PySem.Calls PyProof.Rows PySem.Spec
set_option maxRecDepth 100000
set_option maxHeartbeats 4000000
theorem cd36 {w : World} {h : Heap} (X : (Mine.hd.heap_39 w.params).In h) : CodeHd h 36 32 :=
  ⟨_, _, _, _, _, _, _, _, _, X 36 _ rfl, rfl, rfl, rfl, rfl, rfl, rfl, rfl, rfl, by decide⟩
theorem sorted_comm_list {w : World} {p : Program} {loose : List Str} {mean : ExcName → Option Value} {mg mb : Str → Option Value} {g₀ : Array GenState}
  {dp un : Nat} {gd : Option (List Code)} {cn : Str} {nms : List (Str × NameKind)} {ig ic : Bool} {mo} {a : Addr} {ccd : Value} {cl : List (Str × Addr)} {outer : List Env} {A₀ : Around} {base h₀ : Heap} {L : Addr} {m : Str → Option Value} (pre : List (Addr × Obj)) {post : List (Addr × Obj)} {s : Shared} {p1 p2 p3 : Array Value}
    {Q E : Value → Shared → Prop} {l c : Addr} {vs : List Value} {ns : List Nat} {nn n2 : Nat}
  (B : Below A₀ base outer h₀) (F : Fr h₀ L s.heap m) (X : (Mine.hd.heap_39 w.params).In h₀) (N : News h₀ L s.heap (pre ++ (25, tabObj p1) :: (32, tabObj p2) :: (40, tabObj p3) :: post)) (hne : ∀ q ∈ pre ++ post, q.1 ≠ 25 ∧ q.1 ≠ 32 ∧ q.1 ≠ 40) (t1 : TriplesOk p1.toList) (t2 : TriplesOk p2.toList) (t3 : TriplesOk p3.toList) (G : GOk g₀ s.gens) (T : Top p loose mean mg mb h₀)
  (hl : (l, listOf #[.ref c] n2) ∈ pre ++ post) (hc : (c, listOf vs.toArray nn) ∈ pre ++ post) (hi : Paired IntOf vs ns) (hnd : ns.Nodup) (h5 : ∀ x ∈ ns, x ∈ [0, 1, 2, 3, 4]) (hd : dp + 60 < recursionLimit) (hu : un + 600 < cLine)
  (hQ : ∀ a' o' D c' q1 q2 q3 s', Fr h₀ L s'.heap m → News h₀ L s'.heap ((D, listOf #[.ref a'] c') :: (a', o') :: (pre ++ (25, tabObj q1) :: (32, tabObj q2) :: (40, tabObj q3) :: post)) → (∀ q ∈ pre ++ (25, tabObj q1) :: (32, tabObj q2) :: (40, tabObj q3) :: post, q.1 < a') → @LT.lt Nat _ a' D → SetN w o' (setOf ns) → TriplesOk q1.toList → TriplesOk q2.toList → TriplesOk q3.toList → GOk g₀ s'.gens → s'.os = s.os → Q (.ref D) s') :
  wpAny (model PySem.Challenge.pw_jg0002_01 w) (ktrTop dp un gd cn ⟨.function, nms, ig, ic, mo⟩ L a ccd cl outer) (call (.ref 37) [.ref l]) Q E s := by
  refine wpAny_call ?_
  k_dflt k_enter
  rename_i g1 L1 h1 FG1 F1 N1 B1 X1 T1
  repeat' walk1
  refine Mine.held ?_
  rename Fr _ _ _ _ => F2
  rename News _ _ _ _ => N2
  obtain ⟨bm, ob, M2⟩ := bmod_of_top T1
  have eL : ∀ q1 q2 : Array Value, pre ++ (25, tabObj q1) :: (32, tabObj q2) :: (40, tabObj p3) :: post = (pre ++ [(25, tabObj q1)]) ++ (32, tabObj q2) :: ((40, tabObj p3) :: post) := fun q1 q2 => by simp
  have N2' := (eL p1 p2) ▸ N2
  have hne2 : ∀ q ∈ (pre ++ [(25, tabObj p1)]) ++ ((40, tabObj p3) :: post), q.1 ≠ 32 := by
    (repeat' (first | refine Mine.all_cons ?_ ?_ | exact Mine.all_nil | refine Mine.all_app ?_ ?_))
    all_goals try intro q h
    · exact (hne q (by first | ((repeat (first | exact h | exact List.mem_append_left _ h | exact List.mem_append_right _ h | exact List.mem_append_right _ (List.mem_append_left _ h) | refine' List.Mem.tail _ ?_)); done) | simp [h])).2.1
    · show (25 : Nat) ≠ 32; decide
    · show (40 : Nat) ≠ 32; decide
    · exact (hne q (by first | ((repeat (first | exact h | exact List.mem_append_left _ h | exact List.mem_append_right _ h | exact List.mem_append_right _ (List.mem_append_left _ h) | refine' List.Mem.tail _ ?_)); done) | simp [h])).2.1
  have hlm : ∀ q1 q2 q3 : Array Value, ∀ q ∈ pre ++ post, q ∈ pre ++ (25, tabObj q1) :: (32, tabObj q2) :: (40, tabObj q3) :: post := fun q1 q2 q3 q hq => by
    rcases List.mem_append.mp hq with h | h
    · exact List.mem_append.mpr (.inl h)
    · exact List.mem_append.mpr (.inr (.tail _ (.tail _ (.tail _ h))))
  refine gx_one (K := Mine.hd.heap_39 w.params) (l := l) (v₀ := .ref c) B1 rfl rfl rfl X1 T1 F2 N2' hne2 (cd36 X1) t2 M2 rfl G T1.nolimit rfl rfl rfl (by decide) rfl rfl ?_ ⟨_, (N2 _ (hlm _ _ _ _ hl)).1, rfl, n2, rfl⟩ (fun Q' hQ' => ?_) ?_ (fun _ => rfl)
  · ((try simp only [depth_under_kw', depth_under_make, depth_under_kw, depth_in1, depth_deeper, depth_caller]); (try dsimp only [ktrTop]); omega)
  · repeat' walk1
    exact hQ'
  · intro a5 s5 q2 F5 N5 tr5 G5 eo5 O5
    clear F2 N2 N2'
    repeat' walk1
    rw [← eL p1 q2] at N5 O5
    refine sorted_key1 (h₀ := g1) (L := L1) (q := 45) (g₀ := g₀) (OutK := fun v led led₂ => ∃ a' o' q1 q3, v = .ref a' ∧ led = (a', o') :: (pre ++ (25, tabObj q1) :: (32, tabObj q2) :: (40, tabObj p3) :: post) ∧ led₂ = (a', o') :: (pre ++ (25, tabObj q1) :: (32, tabObj q2) :: (40, tabObj q3) :: post) ∧
      SetN w o' (setOf ns) ∧ TriplesOk q1.toList ∧ TriplesOk q3.toList ∧ ∀ q ∈ pre ++ (25, tabObj q1) :: (32, tabObj q2) :: (40, tabObj p3) :: post, q.1 < a') F5 ?_ ?_
    · rintro v led led₂ ⟨a', o', q1, q3, _, rfl, rfl, _⟩
      simp
    refine collect_oneAt (ol := listOf #[.ref c] n2) (Out := fun v new led' => ∃ a' o' q1, v = .ref a' ∧ new = [(a', o')] ∧ led' = pre ++ (25, tabObj q1) :: (32, tabObj q2) :: (40, tabObj p3) :: post ∧ SetN w o' (setOf ns) ∧ TriplesOk q1.toList) O5 (by rfl) ?_ F5 N5 G5 (hlm _ _ _ _ hl) T1.nolimit rfl rfl rfl (by decide) ?_ ?_ ?_
    · ((try simp only [depth_under_kw', depth_under_make, depth_under_kw, depth_in1, depth_deeper, depth_caller]); (try dsimp only [ktrTop]); omega)
    · rintro y new led' ⟨a', o', q1, rfl, rfl, rfl, _⟩
      exact ⟨by simp, hlm _ _ _ _ hl⟩
    · intro gd C I code u ex mC E' FC hmC NC hex GC BC XC TC eoC
      have hx25 : ∀ q ∈ ex ++ pre ++ ((32, tabObj q2) :: (40, tabObj p3) :: post), q.1 ≠ 25 := by
        (repeat' (first | refine Mine.all_cons ?_ ?_ | exact Mine.all_nil | refine Mine.all_app ?_ ?_))
        all_goals try intro q h
        · exact Nat.ne_of_gt (hex q h (25, tabObj p1) (by (first | k_mem | ((repeat refine' List.Mem.tail _ ?_); refine' List.mem_append_right _ ?_; first | k_mem | (refine' List.mem_append_right _ ?_; k_mem)) | simp)))
        · exact (hne q (by first | ((repeat (first | exact h | exact List.mem_append_left _ h | exact List.mem_append_right _ h | exact List.mem_append_right _ (List.mem_append_left _ h) | refine' List.Mem.tail _ ?_)); done) | simp [h])).1
        · show (32 : Nat) ≠ 25; decide
        · show (40 : Nat) ≠ 25; decide
        · exact (hne q (by first | ((repeat (first | exact h | exact List.mem_append_left _ h | exact List.mem_append_right _ h | exact List.mem_append_right _ (List.mem_append_left _ h) | refine' List.Mem.tail _ ?_)); done) | simp [h])).1
      walk1
      refine gld_global FC XC TC (by k_is) ?_
      walk1
      walk1
      refine ldVarG FC hmC ?_
      walk1
      refine ⟨fun a o e => FC.keep _ _ (XC a o e), ?_⟩
      refine' cset_list (nn := nn) (vs := vs) (ex ++ pre) BC FC XC (by simpa using NC) hx25 t1 GC TC ?_ hi hnd h5 ?_ ?_ ?_
      · rcases List.mem_append.mp hc with h | h
        · simp [h]
        · simp [h]
      · have hw : ∀ e g sc p v x env, (Code.compLoop (.GeneratorExp e [g] sc p) 0 v x env).weight = 1 := fun _ _ _ _ _ _ _ => rfl
        have hf : frameCount (List.map Frame.where_ []) = 0 := rfl
        rw [hw, hf]
        ((try simp only [depth_under_kw', depth_under_make, depth_under_kw, depth_in1, depth_deeper, depth_caller]); (try dsimp only [ktrTop]); omega)
      · have hw : ∀ e g sc p v x env, (Code.compLoop (.GeneratorExp e [g] sc p) 0 v x env).cUnits = 3 := fun _ _ _ _ _ _ _ => rfl
        have hf : unitsOf (List.map Frame.where_ []) = 0 := rfl
        rw [hw, hf]
        (have hcL9 := cLine_is; (try simp only [units_under_kw', units_under_make, units_in1, units_deeper, Around.mark_units, units_caller]); (try dsimp only [ktrTop]); omega)
      · intro a' o' q1 u' F' N' lt' S' tr' G' eo'
        refine ⟨[(a', o')], _, _, ⟨a', o', q1, rfl, rfl, rfl, S', tr'⟩, F', by simpa using N', fun q hq r hr => ?_, G', eo'⟩
        rw [List.mem_singleton.mp hq]
        refine kst_ltOf lt' r ?_
        simpa using hr
    · rintro v s6 new led' ⟨a', o', q1, rfl, rfl, rfl, S6, tr6⟩ F6 N6 hlt6 G6 eo6
      have hlt7 : ∀ q ∈ pre ++ (25, tabObj q1) :: (32, tabObj q2) :: (40, tabObj p3) :: post, q.1 < a' := fun q hq => hlt6 _ (.head _) q hq
      refine ⟨_, _, rfl, F6, N6, G6, fun u ex Fu Nu hexu Gu eou => ?_, fun s7 led₂ c7 a7 hO7 F7 N7 hlt8 G7 eo7 => ?_⟩
      · have hx40 : ∀ q ∈ (ex ++ (a', o') :: (pre ++ [(25, tabObj q1), (32, tabObj q2)])) ++ post, q.1 ≠ 40 := by
          (repeat' (first | refine Mine.all_cons ?_ ?_ | exact Mine.all_nil | refine Mine.all_app ?_ ?_))
          all_goals try intro q h
          · exact Nat.ne_of_gt (hexu q h (40, tabObj p3) (by (first | k_mem | ((repeat refine' List.Mem.tail _ ?_); refine' List.mem_append_right _ ?_; first | k_mem | (refine' List.mem_append_right _ ?_; k_mem)) | simp)))
          · exact Nat.ne_of_gt (hlt7 (40, tabObj p3) (by (first | k_mem | ((repeat refine' List.Mem.tail _ ?_); refine' List.mem_append_right _ ?_; first | k_mem | (refine' List.mem_append_right _ ?_; k_mem)) | simp)))
          · exact (hne q (by first | ((repeat (first | exact h | exact List.mem_append_left _ h | exact List.mem_append_right _ h | exact List.mem_append_right _ (List.mem_append_left _ h) | refine' List.Mem.tail _ ?_)); done) | simp [h])).2.2
          · show (25 : Nat) ≠ 40; decide
          · show (32 : Nat) ≠ 40; decide
          · exact (hne q (by first | ((repeat (first | exact h | exact List.mem_append_left _ h | exact List.mem_append_right _ h | exact List.mem_append_right _ (List.mem_append_left _ h) | refine' List.Mem.tail _ ?_)); done) | simp [h])).2.2
        refine' str_set (ex ++ (a', o') :: (pre ++ [(25, tabObj q1), (32, tabObj q2)])) B1 Fu X1 (by simpa using Nu) hx40 t3 Gu T1 ?_ S6.toO ?_ ?_ ?_
        · simp
        · ((try simp only [depth_under_kw', depth_under_make, depth_under_kw, depth_in1, depth_deeper, depth_caller]); (try dsimp only [ktrTop]); omega)
        · (have hcL9 := cLine_is; (try simp only [units_under_kw', units_under_make, units_in1, units_deeper, Around.mark_units, units_caller]); (try dsimp only [ktrTop]); omega)
        · intro x t q3 u' F' N' tr' G' eo'
          exact ⟨_, ⟨a', o', q1, q3, rfl, rfl, rfl, S6, tr6, tr', hlt7⟩, F', by simpa using N', G', eo'⟩
      · obtain ⟨a8, o8, q8, q9, e8, _, rfl, S8, tr8, tr9, hlt9⟩ := hO7
        cases e8
        repeat' walk1
        rename Fr h₀ _ _ _ => F10
        rename News h₀ _ _ _ => N10
        have hlt10 : ∀ q ∈ pre ++ (25, tabObj q8) :: (32, tabObj q2) :: (40, tabObj q9) :: post, q.1 < a' := by
          (repeat' (first | refine Mine.all_cons ?_ ?_ | exact Mine.all_nil | refine Mine.all_app ?_ ?_))
          all_goals try intro q h
          · exact hlt9 q (by first | ((repeat (first | exact h | exact List.mem_append_left _ h | exact List.mem_append_right _ h | exact List.mem_append_right _ (List.mem_append_left _ h) | refine' List.Mem.tail _ ?_)); done) | simp [h])
          · exact hlt9 (25, tabObj q8) (by (first | k_mem | ((repeat refine' List.Mem.tail _ ?_); refine' List.mem_append_right _ ?_; first | k_mem | (refine' List.mem_append_right _ ?_; k_mem)) | simp))
          · exact hlt9 (32, tabObj q2) (by (first | k_mem | ((repeat refine' List.Mem.tail _ ?_); refine' List.mem_append_right _ ?_; first | k_mem | (refine' List.mem_append_right _ ?_; k_mem)) | simp))
          · exact hlt9 (40, tabObj p3) (by (first | k_mem | ((repeat refine' List.Mem.tail _ ?_); refine' List.mem_append_right _ ?_; first | k_mem | (refine' List.mem_append_right _ ?_; k_mem)) | simp))
          · exact hlt9 q (by first | ((repeat (first | exact h | exact List.mem_append_left _ h | exact List.mem_append_right _ h | exact List.mem_append_right _ (List.mem_append_left _ h) | refine' List.Mem.tail _ ?_)); done) | simp [h])
        exact hQ a' o8 a7 _ q8 q2 q9 _ F10 N10 hlt10 (hlt8 _ (.head _)) S8 tr8 tr5 tr9 G7 (eo7.trans (eo6.trans eo5))
theorem sorted_comm_set {w : World} {p : Program} {loose : List Str} {mean : ExcName → Option Value} {mg mb : Str → Option Value} {g₀ : Array GenState}
  {dp un : Nat} {gd : Option (List Code)} {cn : Str} {nms : List (Str × NameKind)} {ig ic : Bool} {mo} {a : Addr} {ccd : Value} {cl : List (Str × Addr)} {outer : List Env} {A₀ : Around} {base h₀ : Heap} {L : Addr} {m : Str → Option Value} (pre : List (Addr × Obj)) {post : List (Addr × Obj)} {s : Shared} {p1 p2 p3 : Array Value}
    {Q E : Value → Shared → Prop} {l c : Addr} {ol : Obj} {ns : List Nat} {n2 : Nat}
  (B : Below A₀ base outer h₀) (F : Fr h₀ L s.heap m) (X : (Mine.hd.heap_39 w.params).In h₀) (N : News h₀ L s.heap (pre ++ (25, tabObj p1) :: (32, tabObj p2) :: (40, tabObj p3) :: post)) (hne : ∀ q ∈ pre ++ post, q.1 ≠ 25 ∧ q.1 ≠ 32 ∧ q.1 ≠ 40) (t1 : TriplesOk p1.toList) (t2 : TriplesOk p2.toList) (t3 : TriplesOk p3.toList) (G : GOk g₀ s.gens) (T : Top p loose mean mg mb h₀)
  (hl : (l, listOf #[.ref c] n2) ∈ pre ++ post) (hc : (c, ol) ∈ pre ++ post) (hi : SetN w ol ns) (hd : dp + 60 < recursionLimit) (hu : un + 600 < cLine)
  (hQ : ∀ a' o' D c' q1 q2 q3 s', Fr h₀ L s'.heap m → News h₀ L s'.heap ((D, listOf #[.ref a'] c') :: (a', o') :: (pre ++ (25, tabObj q1) :: (32, tabObj q2) :: (40, tabObj q3) :: post)) → (∀ q ∈ pre ++ (25, tabObj q1) :: (32, tabObj q2) :: (40, tabObj q3) :: post, q.1 < a') → @LT.lt Nat _ a' D → SetN w o' (ns) → TriplesOk q1.toList → TriplesOk q2.toList → TriplesOk q3.toList → GOk g₀ s'.gens → s'.os = s.os → Q (.ref D) s') :
  wpAny (model PySem.Challenge.pw_jg0002_01 w) (ktrTop dp un gd cn ⟨.function, nms, ig, ic, mo⟩ L a ccd cl outer) (call (.ref 37) [.ref l]) Q E s := by
  refine wpAny_call ?_
  k_dflt k_enter
  rename_i g1 L1 h1 FG1 F1 N1 B1 X1 T1
  repeat' walk1
  refine Mine.held ?_
  rename Fr _ _ _ _ => F2
  rename News _ _ _ _ => N2
  obtain ⟨bm, ob, M2⟩ := bmod_of_top T1
  have eL : ∀ q1 q2 : Array Value, pre ++ (25, tabObj q1) :: (32, tabObj q2) :: (40, tabObj p3) :: post = (pre ++ [(25, tabObj q1)]) ++ (32, tabObj q2) :: ((40, tabObj p3) :: post) := fun q1 q2 => by simp
  have N2' := (eL p1 p2) ▸ N2
  have hne2 : ∀ q ∈ (pre ++ [(25, tabObj p1)]) ++ ((40, tabObj p3) :: post), q.1 ≠ 32 := by
    (repeat' (first | refine Mine.all_cons ?_ ?_ | exact Mine.all_nil | refine Mine.all_app ?_ ?_))
    all_goals try intro q h
    · exact (hne q (by first | ((repeat (first | exact h | exact List.mem_append_left _ h | exact List.mem_append_right _ h | exact List.mem_append_right _ (List.mem_append_left _ h) | refine' List.Mem.tail _ ?_)); done) | simp [h])).2.1
    · show (25 : Nat) ≠ 32; decide
    · show (40 : Nat) ≠ 32; decide
    · exact (hne q (by first | ((repeat (first | exact h | exact List.mem_append_left _ h | exact List.mem_append_right _ h | exact List.mem_append_right _ (List.mem_append_left _ h) | refine' List.Mem.tail _ ?_)); done) | simp [h])).2.1
  have hlm : ∀ q1 q2 q3 : Array Value, ∀ q ∈ pre ++ post, q ∈ pre ++ (25, tabObj q1) :: (32, tabObj q2) :: (40, tabObj q3) :: post := fun q1 q2 q3 q hq => by
    rcases List.mem_append.mp hq with h | h
    · exact List.mem_append.mpr (.inl h)
    · exact List.mem_append.mpr (.inr (.tail _ (.tail _ (.tail _ h))))
  refine gx_one (K := Mine.hd.heap_39 w.params) (l := l) (v₀ := .ref c) B1 rfl rfl rfl X1 T1 F2 N2' hne2 (cd36 X1) t2 M2 rfl G T1.nolimit rfl rfl rfl (by decide) rfl rfl ?_ ⟨_, (N2 _ (hlm _ _ _ _ hl)).1, rfl, n2, rfl⟩ (fun Q' hQ' => ?_) ?_ (fun _ => rfl)
  · ((try simp only [depth_under_kw', depth_under_make, depth_under_kw, depth_in1, depth_deeper, depth_caller]); (try dsimp only [ktrTop]); omega)
  · repeat' walk1
    exact hQ'
  · intro a5 s5 q2 F5 N5 tr5 G5 eo5 O5
    clear F2 N2 N2'
    repeat' walk1
    rw [← eL p1 q2] at N5 O5
    refine sorted_key1 (h₀ := g1) (L := L1) (q := 45) (g₀ := g₀) (OutK := fun v led led₂ => ∃ a' o' q1 q3, v = .ref a' ∧ led = (a', o') :: (pre ++ (25, tabObj q1) :: (32, tabObj q2) :: (40, tabObj p3) :: post) ∧ led₂ = (a', o') :: (pre ++ (25, tabObj q1) :: (32, tabObj q2) :: (40, tabObj q3) :: post) ∧
      SetN w o' (ns) ∧ TriplesOk q1.toList ∧ TriplesOk q3.toList ∧ ∀ q ∈ pre ++ (25, tabObj q1) :: (32, tabObj q2) :: (40, tabObj p3) :: post, q.1 < a') F5 ?_ ?_
    · rintro v led led₂ ⟨a', o', q1, q3, _, rfl, rfl, _⟩
      simp
    refine collect_oneAt (ol := listOf #[.ref c] n2) (Out := fun v new led' => ∃ a' o' q1, v = .ref a' ∧ new = [(a', o')] ∧ led' = pre ++ (25, tabObj q1) :: (32, tabObj q2) :: (40, tabObj p3) :: post ∧ SetN w o' (ns) ∧ TriplesOk q1.toList) O5 (by rfl) ?_ F5 N5 G5 (hlm _ _ _ _ hl) T1.nolimit rfl rfl rfl (by decide) ?_ ?_ ?_
    · ((try simp only [depth_under_kw', depth_under_make, depth_under_kw, depth_in1, depth_deeper, depth_caller]); (try dsimp only [ktrTop]); omega)
    · rintro y new led' ⟨a', o', q1, rfl, rfl, rfl, _⟩
      exact ⟨by simp, hlm _ _ _ _ hl⟩
    · intro gd C I code u ex mC E' FC hmC NC hex GC BC XC TC eoC
      have hx25 : ∀ q ∈ ex ++ pre ++ ((32, tabObj q2) :: (40, tabObj p3) :: post), q.1 ≠ 25 := by
        (repeat' (first | refine Mine.all_cons ?_ ?_ | exact Mine.all_nil | refine Mine.all_app ?_ ?_))
        all_goals try intro q h
        · exact Nat.ne_of_gt (hex q h (25, tabObj p1) (by (first | k_mem | ((repeat refine' List.Mem.tail _ ?_); refine' List.mem_append_right _ ?_; first | k_mem | (refine' List.mem_append_right _ ?_; k_mem)) | simp)))
        · exact (hne q (by first | ((repeat (first | exact h | exact List.mem_append_left _ h | exact List.mem_append_right _ h | exact List.mem_append_right _ (List.mem_append_left _ h) | refine' List.Mem.tail _ ?_)); done) | simp [h])).1
        · show (32 : Nat) ≠ 25; decide
        · show (40 : Nat) ≠ 25; decide
        · exact (hne q (by first | ((repeat (first | exact h | exact List.mem_append_left _ h | exact List.mem_append_right _ h | exact List.mem_append_right _ (List.mem_append_left _ h) | refine' List.Mem.tail _ ?_)); done) | simp [h])).1
      walk1
      refine gld_global FC XC TC (by k_is) ?_
      walk1
      walk1
      refine ldVarG FC hmC ?_
      walk1
      refine ⟨fun a o e => FC.keep _ _ (XC a o e), ?_⟩
      refine' cset_set (ol := ol) (ex ++ pre) BC FC XC (by simpa using NC) hx25 t1 GC TC ?_ hi ?_ ?_ ?_
      · rcases List.mem_append.mp hc with h | h
        · simp [h]
        · simp [h]
      · have hw : ∀ e g sc p v x env, (Code.compLoop (.GeneratorExp e [g] sc p) 0 v x env).weight = 1 := fun _ _ _ _ _ _ _ => rfl
        have hf : frameCount (List.map Frame.where_ []) = 0 := rfl
        rw [hw, hf]
        ((try simp only [depth_under_kw', depth_under_make, depth_under_kw, depth_in1, depth_deeper, depth_caller]); (try dsimp only [ktrTop]); omega)
      · have hw : ∀ e g sc p v x env, (Code.compLoop (.GeneratorExp e [g] sc p) 0 v x env).cUnits = 3 := fun _ _ _ _ _ _ _ => rfl
        have hf : unitsOf (List.map Frame.where_ []) = 0 := rfl
        rw [hw, hf]
        (have hcL9 := cLine_is; (try simp only [units_under_kw', units_under_make, units_in1, units_deeper, Around.mark_units, units_caller]); (try dsimp only [ktrTop]); omega)
      · intro a' o' q1 u' F' N' lt' S' tr' G' eo'
        refine ⟨[(a', o')], _, _, ⟨a', o', q1, rfl, rfl, rfl, S', tr'⟩, F', by simpa using N', fun q hq r hr => ?_, G', eo'⟩
        rw [List.mem_singleton.mp hq]
        refine kst_ltOf lt' r ?_
        simpa using hr
    · rintro v s6 new led' ⟨a', o', q1, rfl, rfl, rfl, S6, tr6⟩ F6 N6 hlt6 G6 eo6
      have hlt7 : ∀ q ∈ pre ++ (25, tabObj q1) :: (32, tabObj q2) :: (40, tabObj p3) :: post, q.1 < a' := fun q hq => hlt6 _ (.head _) q hq
      refine ⟨_, _, rfl, F6, N6, G6, fun u ex Fu Nu hexu Gu eou => ?_, fun s7 led₂ c7 a7 hO7 F7 N7 hlt8 G7 eo7 => ?_⟩
      · have hx40 : ∀ q ∈ (ex ++ (a', o') :: (pre ++ [(25, tabObj q1), (32, tabObj q2)])) ++ post, q.1 ≠ 40 := by
          (repeat' (first | refine Mine.all_cons ?_ ?_ | exact Mine.all_nil | refine Mine.all_app ?_ ?_))
          all_goals try intro q h
          · exact Nat.ne_of_gt (hexu q h (40, tabObj p3) (by (first | k_mem | ((repeat refine' List.Mem.tail _ ?_); refine' List.mem_append_right _ ?_; first | k_mem | (refine' List.mem_append_right _ ?_; k_mem)) | simp)))
          · exact Nat.ne_of_gt (hlt7 (40, tabObj p3) (by (first | k_mem | ((repeat refine' List.Mem.tail _ ?_); refine' List.mem_append_right _ ?_; first | k_mem | (refine' List.mem_append_right _ ?_; k_mem)) | simp)))
          · exact (hne q (by first | ((repeat (first | exact h | exact List.mem_append_left _ h | exact List.mem_append_right _ h | exact List.mem_append_right _ (List.mem_append_left _ h) | refine' List.Mem.tail _ ?_)); done) | simp [h])).2.2
          · show (25 : Nat) ≠ 40; decide
          · show (32 : Nat) ≠ 40; decide
          · exact (hne q (by first | ((repeat (first | exact h | exact List.mem_append_left _ h | exact List.mem_append_right _ h | exact List.mem_append_right _ (List.mem_append_left _ h) | refine' List.Mem.tail _ ?_)); done) | simp [h])).2.2
        refine' str_set (ex ++ (a', o') :: (pre ++ [(25, tabObj q1), (32, tabObj q2)])) B1 Fu X1 (by simpa using Nu) hx40 t3 Gu T1 ?_ S6.toO ?_ ?_ ?_
        · simp
        · ((try simp only [depth_under_kw', depth_under_make, depth_under_kw, depth_in1, depth_deeper, depth_caller]); (try dsimp only [ktrTop]); omega)
        · (have hcL9 := cLine_is; (try simp only [units_under_kw', units_under_make, units_in1, units_deeper, Around.mark_units, units_caller]); (try dsimp only [ktrTop]); omega)
        · intro x t q3 u' F' N' tr' G' eo'
          exact ⟨_, ⟨a', o', q1, q3, rfl, rfl, rfl, S6, tr6, tr', hlt7⟩, F', by simpa using N', G', eo'⟩
      · obtain ⟨a8, o8, q8, q9, e8, _, rfl, S8, tr8, tr9, hlt9⟩ := hO7
        cases e8
        repeat' walk1
        rename Fr h₀ _ _ _ => F10
        rename News h₀ _ _ _ => N10
        have hlt10 : ∀ q ∈ pre ++ (25, tabObj q8) :: (32, tabObj q2) :: (40, tabObj q9) :: post, q.1 < a' := by
          (repeat' (first | refine Mine.all_cons ?_ ?_ | exact Mine.all_nil | refine Mine.all_app ?_ ?_))
          all_goals try intro q h
          · exact hlt9 q (by first | ((repeat (first | exact h | exact List.mem_append_left _ h | exact List.mem_append_right _ h | exact List.mem_append_right _ (List.mem_append_left _ h) | refine' List.Mem.tail _ ?_)); done) | simp [h])
          · exact hlt9 (25, tabObj q8) (by (first | k_mem | ((repeat refine' List.Mem.tail _ ?_); refine' List.mem_append_right _ ?_; first | k_mem | (refine' List.mem_append_right _ ?_; k_mem)) | simp))
          · exact hlt9 (32, tabObj q2) (by (first | k_mem | ((repeat refine' List.Mem.tail _ ?_); refine' List.mem_append_right _ ?_; first | k_mem | (refine' List.mem_append_right _ ?_; k_mem)) | simp))
          · exact hlt9 (40, tabObj p3) (by (first | k_mem | ((repeat refine' List.Mem.tail _ ?_); refine' List.mem_append_right _ ?_; first | k_mem | (refine' List.mem_append_right _ ?_; k_mem)) | simp))
          · exact hlt9 q (by first | ((repeat (first | exact h | exact List.mem_append_left _ h | exact List.mem_append_right _ h | exact List.mem_append_right _ (List.mem_append_left _ h) | refine' List.Mem.tail _ ?_)); done) | simp [h])
        exact hQ a' o8 a7 _ q8 q2 q9 _ F10 N10 hlt10 (hlt8 _ (.head _)) S8 tr8 tr5 tr9 G7 (eo7.trans (eo6.trans eo5))
end
section
open PySem PySem.W PySem.Calls PyProof.Rows PySem.Spec
set_option maxRecDepth 100000
set_option maxHeartbeats 4000000
theorem cd489 {w : World} {h : Heap} (X : (Mine.hd.heap_39 w.params).In h) : CodeHd h 489 485 :=
  ⟨_, _, _, _, _, _, _, _, _, X 489 _ rfl, rfl, rfl, rfl, rfl, rfl, rfl, rfl, rfl, by decide⟩
theorem unit_weights {w : World} {p : Program} {loose : List Str} {mean : ExcName → Option Value} {mg mb : Str → Option Value} {g₀ : Array GenState}
  {dp un : Nat} {gd : Option (List Code)} {cn : Str} {nms : List (Str × NameKind)} {ig ic : Bool} {mo} {a : Addr} {ccd : Value} {cl : List (Str × Addr)} {outer : List Env} {A₀ : Around} {base h₀ : Heap} {L : Addr} {m : Str → Option Value} (pre : List (Addr × Obj)) {post : List (Addr × Obj)} {s : Shared} {ps : Array Value}
    {Q E : Value → Shared → Prop} {x d c v n' : Addr} {vvs : Array Value} {kk : Nat} {t1 t2 t3 : Tok} (wt : Nat → Int)
  (B : Below A₀ base outer h₀) (F : Fr h₀ L s.heap m) (X : (Mine.hd.heap_39 w.params).In h₀) (N : News h₀ L s.heap (pre ++ (485, tabObj ps) :: post)) (hne : ∀ q ∈ pre ++ post, q.1 ≠ 485) (htr : TriplesOk ps.toList) (G : GOk g₀ s.gens) (T : Top p loose mean mg mb h₀)
  (hx : (x, instObj 542 d) ∈ pre ++ (485, tabObj ps) :: post)
  (hdd : (d, dictOf [⟨PyData.keyHash w.params (Str.ofString "candidates"), .str (Str.ofString "candidates") t1, .ref c⟩, ⟨PyData.keyHash w.params (Str.ofString "cand_names"), .str (Str.ofString "cand_names") t2, .ref n'⟩, ⟨PyData.keyHash w.params (Str.ofString "_voters"), .str (Str.ofString "_voters") t3, .ref v⟩] 3) ∈ pre ++ (485, tabObj ps) :: post)
  (hv : (v, listOf vvs kk) ∈ pre ++ (485, tabObj ps) :: post)
  (hvv : ∀ i, i < vvs.size → ∃ xi di ai u1 u2 u3, vvs[i]? = some (.ref xi) ∧ (xi, instObj 579 di) ∈ pre ++ post ∧ (di, dictOf [⟨PyData.keyHash w.params (Str.ofString "approved"), .str (Str.ofString "approved") u1, .ref ai⟩, ⟨PyData.keyHash w.params (Str.ofString "weight"), .str (Str.ofString "weight") u2, .int (wt i) u3⟩] 2) ∈ pre ++ post)
  (hd : dp + 10 < recursionLimit) (hu : un + 100 < cLine)
  (hQ : ∀ ps' s', Fr h₀ L s'.heap m → News h₀ L s'.heap (pre ++ (485, tabObj ps') :: post) → TriplesOk ps'.toList → GOk g₀ s'.gens → s'.os = s.os → Q (.bool ((List.range vvs.size).all fun i => wt i == 1)) s') :
  wpAny (model PySem.Challenge.pw_jg0002_01 w) (ktrTop dp un gd cn ⟨.function, nms, ig, ic, mo⟩ L a ccd cl outer) (call (.ref 490) [.ref x]) Q E s := by
  refine wpAny_call ?_
  k_dflt k_enter
  rename_i g1 L1 h1 FG1 F1 N1 B1 X1 T1
  repeat' walk1
  refine Mine.held ?_
  rename Fr _ _ _ _ => F2
  rename News _ _ _ _ => N2
  obtain ⟨bm, ob, M2⟩ := bmod_of_top T1
  refine gx_listT (F := fun i y => y = .bool (wt i == 1)) (l := v) (items := vvs) (ps := ps) F2 N2 hne (cd489 X1) htr M2 rfl G T1.nolimit rfl rfl rfl (by decide) rfl rfl rfl ?_ ⟨_, (N2 _ hv).1, rfl, kk, rfl⟩ (fun Q' hQ' => ?_) ?_ ?_ (fun _ => rfl)
  · ((try simp only [depth_under_kw', depth_under_make, depth_under_kw, depth_in1, depth_deeper, depth_caller]); (try dsimp only [ktrTop]); omega)
  · repeat' walk1
    exact hQ' _
  · intro A' E' i v' u m₂ C code hA hv' hns hmx F6 N6 hCL hC
    have hi : i < vvs.size := by
      obtain ⟨h, _⟩ := Array.getElem?_eq_some_iff.mp hv'
      exact h
    obtain ⟨xi, di, ai, u1, u2, u3, e1, m1, m2⟩ := hvv i hi
    rw [e1] at hv'; cases hv'
    have F7 := Fr.mk hns F6.keep hC
    refine wpAny_Compare1 ?_
    walk1
    refine ldVarG F7 hmx ?_
    walk1
    refine wpAny_Constant_int ?_
    refine PyProof.Rows.eq_int ?_
    exact ⟨rfl, _, _, rfl, fun _ _ e => e⟩
  · intro a6 s6 ps6 F6 N6 ht6 G6 eo6 ed6 ha6 hL6 hK6 X6
    walk1
    refine gx_all F6 N6 hL6 hK6 G6 X6 (fun i => wt i == 1) (fun _ _ h => h) ?_
    clear F6 N6
    intro s7 F7 N7 G7 eo7
    repeat' walk1
    rename Fr h₀ _ _ _ => F9
    rename News h₀ _ _ _ => N9
    exact hQ ps6 s7 F9 N9 ht6 G7 (eo7.trans eo6)
end
end
section
open PySem PySem.W PySem.Calls PyProof.Rows PySem.Spec
set_option maxRecDepth 100000
section
variable {prog : Program} {w : World} {A : Around} {s : Shared} {env : Env} {h₀ : Heap} {g₀ : Array GenState}
theorem rangeSize_nat (n : Nat) : Builtin.Range.rangeSize 0 (n : Int) 1 = (n : Int) := by
  unfold Builtin.Range.rangeSize
  simp
  try omega
theorem range_small (n : Nat) (h : n ≤ 1000) : Builtin.Range.small 0 (n : Int) 1 = true := by
  unfold Builtin.Range.small
  rw [rangeSize_nat]
  have f : ∀ x : Int, 0 ≤ x → x ≤ 1000 → Builtin.Range.rangeFitsLong x = true := by
    intro x h0 h1
    unfold Builtin.Range.rangeFitsLong
    simp
    omega
  simp [f 0 (by omega) (by omega), f 1 (by omega) (by omega), f (n : Int) (by omega) (by omega)]
theorem For_range {E : Value → Shared → Prop} {Q : Flow → Shared → Prop} {target : Expr} {pos : Pos} {iter : Expr} {body : List Stmt} {n : Nat}
    (J : Nat → (Str → Option Value) → List (Addr × Obj) → Prop) (hh : A.handled = none) (hn : n ≤ 1000)
    (hiter : wpAny (model prog w) A (eval iter env) (fun xv s₀ => ∃ r t u v m news, xv = .ref r ∧ IsRange s₀.heap r 0 (n : Int) 1 t u v ∧ Fr h₀ env.locals s₀.heap m ∧ News h₀ env.locals s₀.heap news ∧ GOk g₀ s₀.gens ∧ s₀.os = s.os ∧ J 0 m news) E s)
    (ht : ∀ I v, letOwnedTupleGo target (.ref I) v = pure ())
    (step : ∀ i t m₁ news₁ s₁ I oI, i < n → J i m₁ news₁ → (∀ p ∈ news₁, p.1 ≠ I) → Fr h₀ env.locals s₁.heap m₁ → News h₀ env.locals s₁.heap (news₁ ++ [(I, oI)]) → GOk g₀ s₁.gens → s₁.os = s.os → I < s₁.heap.objs.size →
      wpAny (model prog w) A (assign target env (.int (i : Int) t)) (fun _ s₂ => wpAny (model prog w) A (execs body env) (TurnPost g₀ h₀ env.locals I oI (J (i + 1)) s Q) E s₂) E s₁)
    (hQ : ∀ s' m' news', Fr h₀ env.locals s'.heap m' → News h₀ env.locals s'.heap news' → GOk g₀ s'.gens → s'.os = s.os → J n m' news' → Q .next s')
    (hs : ∀ x, foldedSetIterable iter env x = pure x := by intro _; rfl)
    (hE : PassesOwn (model prog w) A env E := by passes_own) :
    wpAny (model prog w) A (exec (.For target iter body [] pos) env) Q E s := by
  refine wpAny_For (wpAny_mono hiter (fun xv s₀ h₀' => ?_) fun _ _ e => e) hs
  obtain ⟨r, t, u, v, m, news, rfl, hr, F, N, G, eo0, h0⟩ := h₀'
  refine wpAny_pyIter_range hr (range_small n hn) ?_
  refine forLoop_M (R := fun r s' => match r with | .ok f => Q f s' | .error e => cameBackBy (model prog w) A env E e s') (Walks.range (prog := prog) (w := w) hh s₀.heap.objs.size 0 1 n) (ht _) J ?_ ?_ ?_ ?_ ?_ ?_
    (by show IsRangeIter _ _ _ _ _; rw [rangeSize_nat]; simpa using Heap.get?_push_size _ rfl) (F.push _) (fun p hp => ⟨Heap.get?_push_of_some _ (N p hp).1, (N p hp).2⟩) G h0 ?_ ?_
  · intro b hb
    exact .inl (List.mem_singleton.mp hb)
  · intro b hb
    exact List.mem_singleton.mp hb
  · rintro i h ho
    exact ⟨_, ho⟩
  · exact Ne.symm (Nat.ne_of_lt F.ns.lt)
  · cases hq : h₀.get? s₀.heap.objs.size with
    | none => rfl
    | some o => exact absurd (Heap.lt_size (F.keep _ _ hq)) (Nat.lt_irrefl _)
  · intro p hp
    exact Nat.ne_of_lt (Heap.lt_size (N p hp).1)
  · intro i v m₁ news₁ s₁ oI hi hP hJ hn F₁ N₁ G₁ eo hlt
    obtain ⟨t', rfl⟩ := hP
    have e0 : (0 : Int) + (i : Int) * 1 = (i : Int) := by omega
    rw [e0]
    refine wpAny_mono (wpAny_passesOwn hE (wpAny_mono (step i t' m₁ news₁ s₁ _ oI hi hJ hn F₁ N₁ G₁ (eo.trans eo0) hlt) (fun _ s₂ h => wpAny_passesOwn hE h) fun _ _ e => e)) (fun _ s₂ h => wpAny_mono h (fun f s₃ h₃ => ?_) fun _ _ e => e) fun _ _ e => e
    have cv : ∀ {J' : (Str → Option Value) → List (Addr × Obj) → Prop}, TurnEnd g₀ h₀ env.locals s₀.heap.objs.size oI J' s s₃ → TurnEnd g₀ h₀ env.locals s₀.heap.objs.size oI J' { heap := s₀.heap.push { cls := .type "range_iterator", data := .fields #[rawInt 0, rawInt (Builtin.Range.rangeSize 0 (n : Int) 1), rawInt 1] }, gens := s₀.gens, drawn := s₀.drawn, toks := s₀.toks, os := s₀.os } s₃ := by
      rintro J' ⟨m', n', nx, a1, a2, a3, a4, a5, a6, a7, a8⟩
      exact ⟨m', n', nx, a1, a2, a3, a4, a5, a6, a7.trans eo0.symm, a8⟩
    cases f with
    | ret v => exact h₃
    | brk => exact h₃
    | cont => exact cv h₃
    | next => exact cv h₃
  · intro s' m' news' F' N' G' eo hJ
    exact hQ s' m' news' F' N' G' (eo.trans eo0) hJ
def RHere (g₀ : Array GenState) (h₀ : Heap) (L : Addr) (n : Nat) (s : Shared) (m : Str → Option Value) (J0 : List (Addr × Obj) → Prop) (xv : Value) (s₀ : Shared) : Prop :=
  ∃ r t u v news, xv = .ref r ∧ IsRange s₀.heap r 0 (n : Int) 1 t u v ∧ Fr h₀ L s₀.heap m ∧ News h₀ L s₀.heap news ∧ GOk g₀ s₀.gens ∧ s₀.os = s.os ∧ J0 news
theorem For_rangeM {E : Value → Shared → Prop} {Q : Flow → Shared → Prop} {target : Expr} {pos : Pos} {iter : Expr} {body : List Stmt} {n : Nat} {m : Str → Option Value}
    (F : Fr h₀ env.locals s.heap m) (J : (Str → Option Value) → Nat → (Str → Option Value) → List (Addr × Obj) → Prop) (hh : A.handled = none) (hn : n ≤ 1000)
    (hiter : wpAny (model prog w) A (eval iter env) (RHere g₀ h₀ env.locals n s m (J m 0 m)) E s)
    (ht : ∀ I v, letOwnedTupleGo target (.ref I) v = pure ())
    (step : ∀ i t m₁ news₁ s₁ I oI, i < n → J m i m₁ news₁ → (∀ p ∈ news₁, p.1 ≠ I) → Fr h₀ env.locals s₁.heap m₁ → News h₀ env.locals s₁.heap (news₁ ++ [(I, oI)]) → GOk g₀ s₁.gens → s₁.os = s.os → I < s₁.heap.objs.size →
      wpAny (model prog w) A (assign target env (.int (i : Int) t)) (fun _ s₂ => wpAny (model prog w) A (execs body env) (TurnPost g₀ h₀ env.locals I oI (J m (i + 1)) s Q) E s₂) E s₁)
    (hQ : ∀ s' m' news', Fr h₀ env.locals s'.heap m' → News h₀ env.locals s'.heap news' → GOk g₀ s'.gens → s'.os = s.os → J m n m' news' → Q .next s')
    (hs : ∀ x, foldedSetIterable iter env x = pure x := by intro _; rfl)
    (hE : PassesOwn (model prog w) A env E := by passes_own) :
    wpAny (model prog w) A (exec (.For target iter body [] pos) env) Q E s :=
  For_range (J m) hh hn (wpAny_mono hiter (fun xv s₀ h => by
    obtain ⟨r, t, u, v, news, h1, h2, h3, h4, h5, h6, h7⟩ := h
    exact ⟨r, t, u, v, m, news, h1, h2, h3, h4, h5, h6, h7⟩) fun _ _ e => e) ht step hQ hs hE
end
end
section
def cnt (S : Nat → List Nat) (rv : List Nat) (c : Nat) : Nat := (rv.filter fun i => decide (c ∈ S i)).length
def best (S : Nat → List Nat) (rv : List Nat) : List Nat → Int × Option Nat → Int × Option Nat
  | [], b => b
  | c :: r, b => best S rv r (if b.1 < (cnt S rv c : Int) then ((cnt S rv c : Int), some c) else b)
theorem best_app (S : Nat → List Nat) (rv : List Nat) : ∀ (l r : List Nat) (b : Int × Option Nat), best S rv (l ++ r) b = best S rv r (best S rv l b)
  | [], _, _ => rfl
  | _ :: l, r, _ => best_app S rv l r _
theorem best_snoc (S : Nat → List Nat) (rv l : List Nat) (c : Nat) (b : Int × Option Nat) :
    best S rv (l ++ [c]) b = if (best S rv l b).1 < (cnt S rv c : Int) then ((cnt S rv c : Int), some c) else best S rv l b := by
  rw [best_app]; rfl
def gsel (S : Nat → List Nat) (rv rc : List Nat) : Nat := ((best S rv rc (-1, none)).2).getD 0
theorem best_some (S : Nat → List Nat) (rv : List Nat) : ∀ (rc : List Nat) (x : Int) (o : Option Nat), (o = none → x = -1) →
    (best S rv rc (x, o)).2 = none → rc = [] ∧ o = none
  | [], _, _, _, h => ⟨rfl, h⟩
  | c :: r, x, o, hx, h => by
    simp only [best] at h
    by_cases hl : x < (cnt S rv c : Int)
    · rw [if_pos hl] at h
      exact absurd (best_some S rv r _ _ (fun e => by cases e) h).2 (by simp)
    · rw [if_neg hl] at h
      obtain ⟨rfl, rfl⟩ := best_some S rv r x o hx h
      have := hx rfl
      omega
theorem best_mem (S : Nat → List Nat) (rv : List Nat) : ∀ (rc : List Nat) (x : Int) (o : Option Nat) (c : Nat), (best S rv rc (x, o)).2 = some c → c ∈ rc ∨ o = some c
  | [], _, _, _, h => .inr h
  | c' :: r, x, o, c, h => by
    simp only [best] at h
    by_cases hl : x < (cnt S rv c' : Int)
    · rw [if_pos hl] at h
      rcases best_mem S rv r _ _ c h with h | h
      · exact .inl (.tail _ h)
      · cases h; exact .inl (.head _)
    · rw [if_neg hl] at h
      rcases best_mem S rv r _ _ c h with h | h
      · exact .inl (.tail _ h)
      · exact .inr h
theorem gsel_best (S : Nat → List Nat) (rv rc : List Nat) (h : rc ≠ []) : (best S rv rc (-1, none)).2 = some (gsel S rv rc) ∧ gsel S rv rc ∈ rc := by
  cases e : (best S rv rc (-1, none)).2 with
  | none => exact absurd (best_some S rv rc _ _ (fun _ => rfl) e).1 h
  | some c =>
    have e2 : gsel S rv rc = c := by simp [gsel, e]
    rw [e2]
    exact ⟨rfl, (best_mem S rv rc _ _ c e).elim id fun q => by cases q⟩
def gtake (nb k t : Nat) : Nat := if t < nb - k * (nb / k) then nb / k + 1 else nb / k
def gtr (S : Nat → List Nat) (rv : List Nat) (c q : Nat) : List Nat := (rv.filter fun i => decide (c ∈ S i)).take q
structure GSt where
  com : List Nat
  rv : List Nat
  rc : List Nat
def gstep (S : Nat → List Nat) (nb k t : Nat) (g : GSt) : GSt :=
  let c := gsel S g.rv g.rc
  let tr := gtr S g.rv c (gtake nb k t)
  ⟨g.com ++ [c], g.rv.filter fun i => decide (i ∉ tr), g.rc.filter fun x => decide (x ≠ c)⟩
def gst (S : Nat → List Nat) (nb n k : Nat) : Nat → GSt
  | 0 => ⟨[], List.range nb, List.range n⟩
  | t + 1 => gstep S nb k t (gst S nb n k t)
theorem gtake_law (nb k t : Nat) (hk : 1 ≤ k) (ht : t < k) : gtake nb k t = (nb + k - 1 - t) / k := by
  have h1 := Nat.div_add_mod nb k
  have h2 := Nat.mod_lt nb (show 0 < k by omega)
  have h3 : nb - k * (nb / k) = nb % k := by omega
  unfold gtake
  rw [h3]
  have e : nb + k - 1 - t = (nb % k + k - 1 - t) + k * (nb / k) := by omega
  rw [e, Nat.add_mul_div_left _ _ (show 0 < k by omega)]
  by_cases hl : t < nb % k
  · rw [if_pos hl]
    have : (nb % k + k - 1 - t) / k = 1 := by
      rw [Nat.div_eq_of_lt_le] <;> omega
    omega
  · rw [if_neg hl]
    have : (nb % k + k - 1 - t) / k = 0 := Nat.div_eq_of_lt (by omega)
    omega
def lbest (S : Nat → List Nat) (rv : List Nat) : List Nat → Int × Nat → Int × Nat
  | [], b => b
  | c :: r, b => lbest S rv r (if -(cnt S rv c : Int) < b.1 ∨ (-(cnt S rv c : Int) = b.1 ∧ c < b.2) then (-(cnt S rv c : Int), c) else b)
theorem lbest_best (S : Nat → List Nat) (rv : List Nat) : ∀ (r : List Nat) (x : Int) (c : Nat), (∀ y ∈ r, c < y) → r.Pairwise (· < ·) →
    ∃ c', best S rv r (x, some c) = (-(lbest S rv r (-x, c)).1, some c') ∧ (lbest S rv r (-x, c)).2 = c'
  | [], x, c, _, _ => ⟨c, by simp [best, lbest], rfl⟩
  | c1 :: r, x, c, h, hp => by
    simp only [best, lbest]
    have hc : c < c1 := h c1 (.head _)
    obtain ⟨hp1, hp2⟩ := List.pairwise_cons.mp hp
    by_cases hl : x < (cnt S rv c1 : Int)
    · rw [if_pos hl, if_pos (.inl (by omega))]
      exact lbest_best S rv r _ c1 hp1 hp2
    · rw [if_neg hl, if_neg (by omega)]
      exact lbest_best S rv r x c (fun y hy => h y (.tail _ hy)) hp2
theorem gsel_law (S : Nat → List Nat) (rv : List Nat) (c : Nat) (r : List Nat) (hp : (c :: r).Pairwise (· < ·)) : gsel S rv (c :: r) = (lbest S rv r (-(cnt S rv c : Int), c)).2 := by
  obtain ⟨hp1, hp2⟩ := List.pairwise_cons.mp hp
  obtain ⟨c', e1, e2⟩ := lbest_best S rv r (cnt S rv c : Int) c hp1 hp2
  unfold gsel
  rw [best, if_pos (by simp only; omega), e1, e2]
  rfl
theorem rc_of_com (S : Nat → List Nat) (nb n k : Nat) : ∀ t, (gst S nb n k t).rc = (List.range n).filter fun x => decide (x ∉ (gst S nb n k t).com)
  | 0 => by show List.range n = _; exact (List.filter_eq_self.mpr fun _ _ => by simp [gst]).symm
  | t + 1 => by
    have ih := rc_of_com S nb n k t
    show ((gst S nb n k t).rc.filter _) = _
    rw [ih, List.filter_filter]
    refine List.filter_congr fun x _ => ?_
    show (decide _ && decide _) = decide (x ∉ (gst S nb n k t).com ++ [_])
    rw [← ih, Bool.eq_iff_iff]
    simp only [Bool.and_eq_true, decide_eq_true_eq, List.mem_append, List.mem_singleton, not_or]
    exact And.comm
theorem range_sorted (n : Nat) : (List.range n).Pairwise (· < ·) := List.pairwise_lt_range
theorem rc_sorted (S : Nat → List Nat) (nb n k t : Nat) : (gst S nb n k t).rc.Pairwise (· < ·) := by
  rw [rc_of_com]; exact (range_sorted n).filter _
theorem com_length (S : Nat → List Nat) (nb n k : Nat) : ∀ t, (gst S nb n k t).com.length = t
  | 0 => rfl
  | t + 1 => by
    show ((gst S nb n k t).com ++ [_]).length = _
    rw [List.length_append, com_length S nb n k t]; rfl
theorem filter_ne_length (c : Nat) : ∀ l : List Nat, l.Nodup → l.length ≤ (l.filter fun x => decide (x ≠ c)).length + 1
  | [], _ => by simp
  | x :: l, h => by
    obtain ⟨h1, h2⟩ := List.nodup_cons.mp h
    by_cases e : x = c
    · have : l.filter (fun x => decide (x ≠ c)) = l := List.filter_eq_self.mpr fun y hy => by
        have : y ≠ c := fun q => h1 (e ▸ q ▸ hy)
        simpa using this
      rw [List.filter_cons_of_neg (by simpa using e), this]
      simp
    · have := filter_ne_length c l h2
      rw [List.filter_cons_of_pos (by simpa using e)]
      simp only [List.length_cons]
      omega
theorem rc_length (S : Nat → List Nat) (nb n k : Nat) : ∀ t, n ≤ (gst S nb n k t).rc.length + t
  | 0 => by simp [gst]
  | t + 1 => by
    have ih := rc_length S nb n k t
    have := filter_ne_length (gsel S (gst S nb n k t).rv (gst S nb n k t).rc) _ ((rc_sorted S nb n k t).imp Nat.ne_of_lt)
    show n ≤ ((gst S nb n k t).rc.filter _).length + (t + 1)
    omega
theorem rc_ne (S : Nat → List Nat) (nb n k t : Nat) (h : t < n) : (gst S nb n k t).rc ≠ [] := by
  intro e
  have := rc_length S nb n k t
  rw [e] at this
  simp at this
  omega
end
section
open PySem PySem.W PySem.Calls PyProof.Rows PySem.Spec
set_option maxRecDepth 100000
section
variable {prog : Program} {w : World} {A : Around} {s : Shared} {env : Env} {h₀ : Heap} {g₀ : Array GenState}
def LHere (g₀ : Array GenState) (h₀ : Heap) (L : Addr) (ns : List Nat) (s : Shared) (J0 : Addr → Obj → (Str → Option Value) → List (Addr × Obj) → Prop) (xv : Value) (s₀ : Shared) : Prop :=
  ∃ l vs e m news, xv = .ref l ∧ Fr h₀ L s₀.heap m ∧ News h₀ L s₀.heap ((l, listOf (List.toArray vs) e) :: news) ∧ Paired IntOf vs ns ∧ GOk g₀ s₀.gens ∧ s₀.os = s.os ∧ J0 l (listOf (List.toArray vs) e) m news
theorem For_new {E : Value → Shared → Prop} {Q : Flow → Shared → Prop} {target : Expr} {pos : Pos} {iter : Expr} {body : List Stmt} {ns : List Nat}
    (J : Addr → Obj → Nat → (Str → Option Value) → List (Addr × Obj) → Prop) (hh : A.handled = none)
    (hiter : wpAny (model prog w) A (eval iter env) (LHere g₀ h₀ env.locals ns s fun l ol m nx => J l ol 0 m nx) E s)
    (ht : ∀ I v, letOwnedTupleGo target (.ref I) v = pure ())
    (step : ∀ l ol i x t m₁ news₁ s₁ I oI, ns[i]? = some x → J l ol i m₁ news₁ → (∀ p ∈ (l, ol) :: news₁, p.1 ≠ I) → Fr h₀ env.locals s₁.heap m₁ → News h₀ env.locals s₁.heap (((l, ol) :: news₁) ++ [(I, oI)]) → GOk g₀ s₁.gens → s₁.os = s.os → I < s₁.heap.objs.size →
      wpAny (model prog w) A (assign target env (.int (x : Int) t)) (fun _ s₂ => wpAny (model prog w) A (execs body env) (TurnPost g₀ h₀ env.locals I oI (fun m' nx => ∃ n', nx = (l, ol) :: n' ∧ J l ol (i + 1) m' n') s Q) E s₂) E s₁)
    (hQ : ∀ l ol s' m' news', Fr h₀ env.locals s'.heap m' → News h₀ env.locals s'.heap news' → GOk g₀ s'.gens → s'.os = s.os → J l ol ns.length m' news' → Q .next s')
    (hs : ∀ x, foldedSetIterable iter env x = pure x := by intro _; rfl)
    (hE : PassesOwn (model prog w) A env E := by passes_own) :
    wpAny (model prog w) A (exec (.For target iter body [] pos) env) Q E s := by
  refine wpAny_For (wpAny_mono hiter (fun xv s₀ h₀' => ?_) fun _ _ e => e) hs
  obtain ⟨l, vs, e, m, news, rfl, F, N, hp, G, eo0, h0⟩ := h₀'
  have hl : s₀.heap.get? l = some (listOf (List.toArray vs) e) := (N _ (.head _)).1
  have hls : s₀.heap.IsList l (List.toArray vs) := ⟨_, hl, rfl, e, rfl⟩
  have hlt := Heap.lt_size hl
  have hlen : (List.toArray vs).size = ns.length := by simpa using hp.length
  refine wpAny_pyIter_list hls ?_
  have hne : l ≠ s₀.heap.objs.size := Nat.ne_of_lt hlt
  refine forLoop_M (R := fun r s' => match r with | .ok f => Q f s' | .error e => cameBackBy (model prog w) A env E e s') (Walks.list (prog := prog) (w := w) hh s₀.heap.objs.size l hne (List.toArray vs)) (ht _)
    (fun i m' nx => ∃ n', nx = (l, listOf (List.toArray vs) e) :: n' ∧ J l (listOf (List.toArray vs) e) i m' n') ?_ ?_ ?_ ?_ ?_ ?_
    ⟨⟨_, Heap.get?_push_size _ rfl, rfl, rfl⟩, hls.at fun o e => Heap.get?_push_of_some _ e⟩ (F.push _) (fun p hp => ⟨Heap.get?_push_of_some _ (N p hp).1, (N p hp).2⟩) G ⟨news, rfl, h0⟩ ?_ ?_
  · intro b hb
    rcases List.mem_cons.mp hb with rfl | hb
    · exact .inl rfl
    · rw [List.mem_singleton.mp hb]
      exact .inr ⟨_, .inr fun i m nx h => by obtain ⟨n', rfl, _⟩ := h; exact .head _⟩
  · intro b hb
    exact List.mem_singleton.mp hb
  · rintro i h ⟨⟨o, ho, _⟩, _⟩
    exact ⟨o, ho⟩
  · exact Ne.symm (Nat.ne_of_lt F.ns.lt)
  · cases hq : h₀.get? s₀.heap.objs.size with
    | none => rfl
    | some o => exact absurd (Heap.lt_size (F.keep _ _ hq)) (Nat.lt_irrefl _)
  · intro p hp
    exact Nat.ne_of_lt (Heap.lt_size (N p hp).1)
  · intro i v m₁ news₁ s₁ oI hi hP hJ hn F₁ N₁ G₁ eo hlt
    obtain ⟨n₁, rfl, hJ⟩ := hJ
    obtain ⟨x, hx, t, rfl⟩ := paired_at hp (by simpa using hP)
    have cv : ∀ {s₃ : Shared} {J' : (Str → Option Value) → List (Addr × Obj) → Prop} {s₄ : Shared}, s₄.os = s₀.os → TurnEnd g₀ h₀ env.locals s₀.heap.objs.size oI J' s s₃ → TurnEnd g₀ h₀ env.locals s₀.heap.objs.size oI J' s₄ s₃ := by
      rintro s₃ J' s₄ e4 ⟨m', n', nx, a1, a2, a3, a4, a5, a6, a7, a8⟩
      exact ⟨m', n', nx, a1, a2, a3, a4, a5, a6, a7.trans (eo0.symm.trans e4.symm), a8⟩
    refine wpAny_mono (wpAny_passesOwn hE (wpAny_mono (step l _ i x t m₁ n₁ s₁ _ oI hx hJ hn F₁ N₁ G₁ (eo.trans eo0) hlt) (fun _ s₂ h => wpAny_passesOwn hE h) fun _ _ e => e)) (fun _ s₂ h => wpAny_mono h (fun f s₃ h₃ => ?_) fun _ _ e => e) fun _ _ e => e
    cases f with
    | ret v => exact h₃
    | brk => exact h₃
    | cont => exact cv (s₄ := { heap := _, gens := _, drawn := _, toks := _, os := _ }) rfl h₃
    | next => exact cv (s₄ := { heap := _, gens := _, drawn := _, toks := _, os := _ }) rfl h₃
  · intro s' m' news' F' N' G' eo hJ
    obtain ⟨n₁, rfl, hJ⟩ := hJ
    rw [hlen] at hJ
    exact hQ l _ s' m' n₁ F' (fun p hp => N' p (.tail _ hp)) G' (eo.trans eo0) hJ
theorem For_newM {m : Str → Option Value} {E : Value → Shared → Prop} {Q : Flow → Shared → Prop} {target : Expr} {pos : Pos} {iter : Expr} {body : List Stmt} {ns : List Nat}
    (_F : Fr h₀ env.locals s.heap m) (J : (Str → Option Value) → Addr → Obj → Nat → (Str → Option Value) → List (Addr × Obj) → Prop) (hh : A.handled = none)
    (hiter : wpAny (model prog w) A (eval iter env) (LHere g₀ h₀ env.locals ns s fun l ol m' nx => J m l ol 0 m' nx) E s)
    (ht : ∀ I v, letOwnedTupleGo target (.ref I) v = pure ())
    (step : ∀ l ol i x t m₁ news₁ s₁ I oI, ns[i]? = some x → J m l ol i m₁ news₁ → (∀ p ∈ (l, ol) :: news₁, p.1 ≠ I) → Fr h₀ env.locals s₁.heap m₁ → News h₀ env.locals s₁.heap (((l, ol) :: news₁) ++ [(I, oI)]) → GOk g₀ s₁.gens → s₁.os = s.os → I < s₁.heap.objs.size →
      wpAny (model prog w) A (assign target env (.int (x : Int) t)) (fun _ s₂ => wpAny (model prog w) A (execs body env) (TurnPost g₀ h₀ env.locals I oI (fun m' nx => ∃ n', nx = (l, ol) :: n' ∧ J m l ol (i + 1) m' n') s Q) E s₂) E s₁)
    (hQ : ∀ l ol s' m' news', Fr h₀ env.locals s'.heap m' → News h₀ env.locals s'.heap news' → GOk g₀ s'.gens → s'.os = s.os → J m l ol ns.length m' news' → Q .next s')
    (hs : ∀ x, foldedSetIterable iter env x = pure x := by intro _; rfl)
    (hE : PassesOwn (model prog w) A env E := by passes_own) :
    wpAny (model prog w) A (exec (.For target iter body [] pos) env) Q E s :=
  For_new (J m) hh hiter ht step hQ hs hE
end
end
section
open PySem PySem.W PySem.Calls PyProof.Rows PySem.Spec
set_option maxRecDepth 100000
theorem AllLt_mem {d : Addr} {q : Addr × Obj} : ∀ (l : List (Addr × Obj)), AllLt d l → q ∈ l → @LT.lt Nat _ q.1 d := by
  intro l
  induction l with
  | nil => intro _ hq; cases hq
  | cons p l ih =>
    intro h hq
    rcases List.mem_cons.mp hq with e | e
    · rw [e]; exact h.1
    · exact ih h.2 e
def AJ (w : World) (led : List (Addr × Obj)) (L1 lA aS lC : Addr) (oPR : Obj) (S : Nat → List Nat) (nb n k : Nat) (m0 : Str → Option Value) (i : Nat) (m' : Str → Option Value) (nx : List (Addr × Obj)) : Prop :=
  ∃ D vs c as ca oS cs cc oTR oCA oSE vTR vCA vSE u1 u2 u3 u4,
    nx = (lA, listOf as ca) :: (aS, oS) :: (D, listOf (List.toArray vs) c) :: (lC, listOf (List.toArray cs) cc) :: (L1 + 1 + 1 + 1 + 1, oTR) :: (L1 + 1 + 1 + 1, oCA) :: (L1 + 1 + 1, oSE) :: (L1 + 1, oPR) :: led ∧
    m' = (fun y => if y = Str.ofString "remaining_voters" then some (.ref D) else if y = Str.ofString "num_remove" then u1 else if y = Str.ofString "approvals" then u2 else if y = Str.ofString "maxapprovals" then u3 else if y = Str.ofString "t" then u4 else m0 y) ∧
    oTR.data = .cell vTR ∧ oCA.data = .cell vCA ∧ oSE.data = .cell vSE ∧
    Paired IntOf vs (gst S nb n k i).rv ∧ Paired IntOf cs (gst S nb n k i).com ∧ SetO w oS (gst S nb n k i).rc ∧ as.size ≤ i ∧
    (∀ q ∈ (lA, listOf as ca) :: (aS, oS) :: (lC, listOf (List.toArray cs) cc) :: (L1 + 1 + 1 + 1 + 1, oTR) :: (L1 + 1 + 1 + 1, oCA) :: (L1 + 1 + 1, oSE) :: (L1 + 1, oPR) :: led, @Ne Nat q.1 D)
theorem AJ.elim {w : World} {led : List (Addr × Obj)} {L1 lA aS lC : Addr} {oPR : Obj} {S : Nat → List Nat} {nb n k : Nat} {m0 : Str → Option Value} {i : Nat} {m' : Str → Option Value} {nx : List (Addr × Obj)} {C : Prop} (h : AJ w led L1 lA aS lC oPR S nb n k m0 i m' nx)
    (kk : ∀ (D : Addr) (vs : List Value) (c : Nat) (as : Array Value) (ca : Nat) (oS : Obj) (cs : List Value) (cc : Nat) (oTR : Obj) (oCA : Obj) (oSE : Obj) (vTR : Option Value) (vCA : Option Value) (vSE : Option Value) (u1 : Option Value) (u2 : Option Value) (u3 : Option Value) (u4 : Option Value), (nx = (lA, listOf as ca) :: (aS, oS) :: (D, listOf (List.toArray vs) c) :: (lC, listOf (List.toArray cs) cc) :: (L1 + 1 + 1 + 1 + 1, oTR) :: (L1 + 1 + 1 + 1, oCA) :: (L1 + 1 + 1, oSE) :: (L1 + 1, oPR) :: led) → (m' = (fun y => if y = Str.ofString "remaining_voters" then some (.ref D) else if y = Str.ofString "num_remove" then u1 else if y = Str.ofString "approvals" then u2 else if y = Str.ofString "maxapprovals" then u3 else if y = Str.ofString "t" then u4 else m0 y)) → (oTR.data = .cell vTR) → (oCA.data = .cell vCA) → (oSE.data = .cell vSE) → (Paired IntOf vs (gst S nb n k i).rv) → (Paired IntOf cs (gst S nb n k i).com) → (SetO w oS (gst S nb n k i).rc) → (as.size ≤ i) → ((∀ q ∈ (lA, listOf as ca) :: (aS, oS) :: (lC, listOf (List.toArray cs) cc) :: (L1 + 1 + 1 + 1 + 1, oTR) :: (L1 + 1 + 1 + 1, oCA) :: (L1 + 1 + 1, oSE) :: (L1 + 1, oPR) :: led, @Ne Nat q.1 D)) → C) : C := by
  obtain ⟨D, vs, c, as, ca, oS, cs, cc, oTR, oCA, oSE, vTR, vCA, vSE, u1, u2, u3, u4, h1, h2, h3, h4, h5, h6, h7, h8, h9, h10⟩ := h
  exact kk D vs c as ca oS cs cc oTR oCA oSE vTR vCA vSE u1 u2 u3 u4 h1 h2 h3 h4 h5 h6 h7 h8 h9 h10
theorem AJ.start {w : World} {led : List (Addr × Obj)} {L1 lA aS lC D : Addr} {oPR oS oTR oCA oSE : Obj} {S : Nat → List Nat} {nb n k c : Nat} {m0 : Str → Option Value} {vs : List Value} {vTR vCA vSE : Option Value}
    (h1 : m0 (Str.ofString "remaining_voters") = some (.ref D)) (h2 : oTR.data = .cell vTR) (h3 : oCA.data = .cell vCA) (h4 : oSE.data = .cell vSE) (h5 : Paired IntOf vs (List.range nb)) (h6 : SetO w oS (List.range n))
    (h7 : ∀ q ∈ (lA, listOf #[] 0) :: (aS, oS) :: (lC, listOf #[] 0) :: (L1 + 1 + 1 + 1 + 1, oTR) :: (L1 + 1 + 1 + 1, oCA) :: (L1 + 1 + 1, oSE) :: (L1 + 1, oPR) :: led, @Ne Nat q.1 D) :
    AJ w led L1 lA aS lC oPR S nb n k m0 0 m0 ((lA, listOf #[] 0) :: (aS, oS) :: (D, listOf (List.toArray vs) c) :: (lC, listOf #[] 0) :: (L1 + 1 + 1 + 1 + 1, oTR) :: (L1 + 1 + 1 + 1, oCA) :: (L1 + 1 + 1, oSE) :: (L1 + 1, oPR) :: led) := by
  refine ⟨D, vs, c, #[], 0, oS, [], 0, oTR, oCA, oSE, vTR, vCA, vSE, m0 (Str.ofString "num_remove"), m0 (Str.ofString "approvals"), m0 (Str.ofString "maxapprovals"), m0 (Str.ofString "t"), rfl, ?_, h2, h3, h4, h5, .nil, h6, Nat.le_refl _, h7⟩
  funext y
  by_cases e1 : y = Str.ofString "remaining_voters"
  · rw [if_pos e1, e1, h1]
  rw [if_neg e1]
  by_cases e2 : y = Str.ofString "num_remove"
  · rw [if_pos e2, e2]
  rw [if_neg e2]
  by_cases e3 : y = Str.ofString "approvals"
  · rw [if_pos e3, e3]
  rw [if_neg e3]
  by_cases e4 : y = Str.ofString "maxapprovals"
  · rw [if_pos e4, e4]
  rw [if_neg e4]
  by_cases e5 : y = Str.ofString "t"
  · rw [if_pos e5, e5]
  rw [if_neg e5]
def BJ (S : Nat → List Nat) (rv ns : List Nat) (pre rest : List (Addr × Obj)) (L1 : Addr) (m1 : Str → Option Value) (l : Addr) (_ol : Obj) (j : Nat) (m' : Str → Option Value) (nx : List (Addr × Obj)) : Prop :=
  ∃ oCA oSE vCA u1 tb,
    nx = pre ++ (L1 + 1 + 1 + 1, oCA) :: (L1 + 1 + 1, oSE) :: rest ∧
    m' = (fun y => if y = Str.ofString "maxapprovals" then some (.int (best S rv (ns.take j) (-1, none)).1 tb) else if y = Str.ofString "approvals" then u1 else m1 y) ∧
    oCA.data = .cell vCA ∧ (@Ne Nat l (L1 + 1 + 1 + 1) ∧ @Ne Nat l (L1 + 1 + 1)) ∧
    ((best S rv (ns.take j) (-1, none)).2 = none → oSE.data = .cell (some .none)) ∧ (∀ c, (best S rv (ns.take j) (-1, none)).2 = some c → ∃ t, oSE.data = .cell (some (.int (c : Int) t)))
theorem BJ.elim {S : Nat → List Nat} {rv ns : List Nat} {pre rest : List (Addr × Obj)} {L1 : Addr} {m1 : Str → Option Value} {l : Addr} {_ol : Obj} {j : Nat} {m' : Str → Option Value} {nx : List (Addr × Obj)} {C : Prop} (h : BJ S rv ns pre rest L1 m1 l _ol j m' nx)
    (kk : ∀ (oCA : Obj) (oSE : Obj) (vCA : Option Value) (u1 : Option Value) (tb : Tok), (nx = pre ++ (L1 + 1 + 1 + 1, oCA) :: (L1 + 1 + 1, oSE) :: rest) → (m' = (fun y => if y = Str.ofString "maxapprovals" then some (.int (best S rv (ns.take j) (-1, none)).1 tb) else if y = Str.ofString "approvals" then u1 else m1 y)) → (oCA.data = .cell vCA) → ((@Ne Nat l (L1 + 1 + 1 + 1) ∧ @Ne Nat l (L1 + 1 + 1))) → (((best S rv (ns.take j) (-1, none)).2 = none → oSE.data = .cell (some .none))) → ((∀ c, (best S rv (ns.take j) (-1, none)).2 = some c → ∃ t, oSE.data = .cell (some (.int (c : Int) t)))) → C) : C := by
  obtain ⟨oCA, oSE, vCA, u1, tb, h1, h2, h3, h4, h5, h6⟩ := h
  exact kk oCA oSE vCA u1 tb h1 h2 h3 h4 h5 h6
theorem BJ.start {S : Nat → List Nat} {rv ns : List Nat} {pre rest : List (Addr × Obj)} {L1 l : Addr} {ol oCA oSE : Obj} {m1 : Str → Option Value} {vCA : Option Value} {tb : Tok}
    (h1 : m1 (Str.ofString "maxapprovals") = some (.int (-1) tb)) (h2 : oCA.data = .cell vCA) (h3 : oSE.data = .cell (some .none)) (hl : @Ne Nat l (L1 + 1 + 1 + 1) ∧ @Ne Nat l (L1 + 1 + 1)) : BJ S rv ns pre rest L1 m1 l ol 0 m1 (pre ++ (L1 + 1 + 1 + 1, oCA) :: (L1 + 1 + 1, oSE) :: rest) := by
  refine ⟨oCA, oSE, vCA, m1 (Str.ofString "approvals"), tb, rfl, ?_, h2, hl, fun _ => h3, fun c h => by simp [best] at h⟩
  funext y
  by_cases e1 : y = Str.ofString "maxapprovals"
  · rw [if_pos e1, e1, h1]; rfl
  rw [if_neg e1]
  by_cases e2 : y = Str.ofString "approvals"
  · rw [if_pos e2, e2]
  rw [if_neg e2]
theorem BJ.no {S : Nat → List Nat} {rv ns : List Nat} {pre rest : List (Addr × Obj)} {L1 l : Addr} {ol oCA oSE : Obj} {m1 : Str → Option Value} {vCA : Option Value} {tb : Tok} {j x : Nat} {a w1 : Option Value}
    (hx : ns[j]? = some x) (hn : ¬ (best S rv (ns.take j) (-1, none)).1 < (cnt S rv x : Int)) (h2 : oCA.data = .cell vCA) (hl : @Ne Nat l (L1 + 1 + 1 + 1) ∧ @Ne Nat l (L1 + 1 + 1))
    (e2 : (best S rv (ns.take j) (-1, none)).2 = none → oSE.data = .cell (some .none)) (e3 : ∀ c, (best S rv (ns.take j) (-1, none)).2 = some c → ∃ t, oSE.data = .cell (some (.int (c : Int) t))) :
    BJ S rv ns pre rest L1 m1 l ol (j + 1) (fun y => if y = Str.ofString "approvals" then a else if y = Str.ofString "maxapprovals" then some (.int (best S rv (ns.take j) (-1, none)).1 tb) else if y = Str.ofString "approvals" then w1 else m1 y) (pre ++ (L1 + 1 + 1 + 1, oCA) :: (L1 + 1 + 1, oSE) :: rest) := by
  have eb : best S rv (ns.take (j + 1)) (-1, none) = best S rv (ns.take j) (-1, none) := by
    rw [List.take_add_one, hx]
    show best S rv (ns.take j ++ [x]) _ = _
    rw [best_snoc, if_neg hn]
  unfold BJ
  rw [eb]
  refine ⟨oCA, oSE, vCA, a, tb, rfl, ?_, h2, hl, e2, e3⟩
  funext y
  by_cases e1 : y = Str.ofString "maxapprovals"
  · rw [if_pos e1, if_pos e1, if_neg (by rw [e1]; decide)]
  rw [if_neg e1, if_neg e1]
  by_cases e2 : y = Str.ofString "approvals"
  · rw [if_pos e2, if_pos e2]
  rw [if_neg e2, if_neg e2, if_neg e2]
theorem BJ.yes {S : Nat → List Nat} {rv ns : List Nat} {pre rest : List (Addr × Obj)} {L1 l : Addr} {ol oCA oSE : Obj} {m1 : Str → Option Value} {vCA : Option Value} {tb : Tok} {j x : Nat} {a w1 w2 : Option Value} {t : Tok}
    (hx : ns[j]? = some x) (hn : (best S rv (ns.take j) (-1, none)).1 < (cnt S rv x : Int)) (h2 : oCA.data = .cell vCA) (hl : @Ne Nat l (L1 + 1 + 1 + 1) ∧ @Ne Nat l (L1 + 1 + 1))
    (e3 : oSE.data = .cell (some (.int (x : Int) t))) :
    BJ S rv ns pre rest L1 m1 l ol (j + 1) (fun y => if y = Str.ofString "maxapprovals" then some (.int (cnt S rv x : Int) tb) else if y = Str.ofString "approvals" then a else if y = Str.ofString "maxapprovals" then w2 else if y = Str.ofString "approvals" then w1 else m1 y) (pre ++ (L1 + 1 + 1 + 1, oCA) :: (L1 + 1 + 1, oSE) :: rest) := by
  have eb : best S rv (ns.take (j + 1)) (-1, none) = ((cnt S rv x : Int), some x) := by
    rw [List.take_add_one, hx]
    show best S rv (ns.take j ++ [x]) _ = _
    rw [best_snoc, if_pos hn]
  unfold BJ
  rw [eb]
  refine ⟨oCA, oSE, vCA, a, tb, rfl, ?_, h2, hl, fun h => (by cases h), fun c h => (by cases h; exact ⟨t, e3⟩)⟩
  funext y
  by_cases e1 : y = Str.ofString "maxapprovals"
  · simp only [if_pos e1]
  by_cases e2 : y = Str.ofString "approvals"
  · simp only [if_neg e1, if_pos e2]
  · simp only [if_neg e1, if_neg e2]
theorem best_cell {S : Nat → List Nat} {rv ns : List Nat} {j : Nat} {oSE : Obj} (e2 : (best S rv (ns.take j) (-1, none)).2 = none → oSE.data = .cell (some .none)) (e3 : ∀ c, (best S rv (ns.take j) (-1, none)).2 = some c → ∃ t, oSE.data = .cell (some (.int (c : Int) t))) : ∃ v, oSE.data = .cell v := by
  cases h : (best S rv (ns.take j) (-1, none)).2 with
  | none => exact ⟨_, e2 h⟩
  | some c => exact ⟨_, (e3 c h).choose_spec⟩
theorem AJ.next {w : World} {led : List (Addr × Obj)} {L1 lA aS lC D : Addr} {oPR oS oTR oCA oSE : Obj} {S : Nat → List Nat} {nb n k c i : Nat} {m0 m' : Str → Option Value} {vs cs : List Value} {as : Array Value} {ca cc : Nat} {vTR vCA vSE : Option Value}
    (h1 : m' (Str.ofString "remaining_voters") = some (.ref D))
    (hm : ∀ y, y ≠ Str.ofString "remaining_voters" → y ≠ Str.ofString "num_remove" → y ≠ Str.ofString "approvals" → y ≠ Str.ofString "maxapprovals" → y ≠ Str.ofString "t" → m' y = m0 y)
    (h2 : oTR.data = .cell vTR) (h3 : oCA.data = .cell vCA) (h4 : oSE.data = .cell vSE) (h5 : Paired IntOf vs (gst S nb n k i).rv) (h6 : Paired IntOf cs (gst S nb n k i).com) (h7 : SetO w oS (gst S nb n k i).rc) (h8 : as.size ≤ i)
    (h9 : ∀ q ∈ (lA, listOf as ca) :: (aS, oS) :: (lC, listOf (List.toArray cs) cc) :: (L1 + 1 + 1 + 1 + 1, oTR) :: (L1 + 1 + 1 + 1, oCA) :: (L1 + 1 + 1, oSE) :: (L1 + 1, oPR) :: led, @Ne Nat q.1 D) :
    AJ w led L1 lA aS lC oPR S nb n k m0 i m' ((lA, listOf as ca) :: (aS, oS) :: (D, listOf (List.toArray vs) c) :: (lC, listOf (List.toArray cs) cc) :: (L1 + 1 + 1 + 1 + 1, oTR) :: (L1 + 1 + 1 + 1, oCA) :: (L1 + 1 + 1, oSE) :: (L1 + 1, oPR) :: led) := by
  refine ⟨D, vs, c, as, ca, oS, cs, cc, oTR, oCA, oSE, vTR, vCA, vSE, m' (Str.ofString "num_remove"), m' (Str.ofString "approvals"), m' (Str.ofString "maxapprovals"), m' (Str.ofString "t"), rfl, ?_, h2, h3, h4, h5, h6, h7, h8, h9⟩
  funext y
  by_cases e1 : y = Str.ofString "remaining_voters"
  · rw [if_pos e1, e1, h1]
  rw [if_neg e1]
  by_cases e2 : y = Str.ofString "num_remove"
  · rw [if_pos e2, e2]
  rw [if_neg e2]
  by_cases e3 : y = Str.ofString "approvals"
  · rw [if_pos e3, e3]
  rw [if_neg e3]
  by_cases e4 : y = Str.ofString "maxapprovals"
  · rw [if_pos e4, e4]
  rw [if_neg e4]
  by_cases e5 : y = Str.ofString "t"
  · rw [if_pos e5, e5]
  rw [if_neg e5]
  exact hm y e1 e2 e3 e4 e5
end
section
open PySem PySem.W PySem.Calls PyProof.Rows PySem.Spec
set_option maxRecDepth 100000
section
variable {prog : Program} {w : World} {A : Around} {E : Value → Shared → Prop} {s : Shared}
theorem item_N {value slice : PySem.Expr} {l : Addr} {items : Array Value} {i : Nat} {u : Tok} {v : Value} {Q : Value → Shared → Prop}
    (hl : s.heap.IsList l items) (hi : i < 2 ^ 63) (hx : items[i]? = some v) (h : Q v s)
    (hs : subscripted slice false (.ref l) (.int (i : Int) u) = operate [.ref l, .int (i : Int) u] (getItem (.ref l) (.int (i : Int) u)) := by with_unfolding_all rfl) :
    wpAny (model prog w) A (subscriptTail value slice (.ref l) (.int (i : Int) u)) Q E s :=
  tail_any hl.typeIs slot_list_getitem.lookup (wpAny_getItem_list hl (Int.natCast_nonneg _) (by omega) (by simpa using hx) h) hs
theorem hasN_eq (ns : List Nat) (x : Nat) : hasN ns (x : Int) = decide (x ∈ ns) := by
  rw [Bool.eq_iff_iff]
  simp only [hasN, List.any_eq_true, decide_eq_true_eq]
  exact ⟨fun ⟨n, hn, e⟩ => (show n = x by omega) ▸ hn, fun h => ⟨x, h, rfl⟩⟩
theorem in_setN {a : Addr} {o : Obj} {ns : List Nat} {x : Nat} {t : Tok} {Q : Value → Shared → Prop} (ho : s.heap.get? a = some o) (hs : SetO w o ns)
    (h : Q (.bool (decide (x ∈ ns))) { s with toks := s.toks + 1 }) : wpAny (model prog w) A (compareOp .In (.int (x : Int) t) (.ref a)) Q E s := by
  have hb : ns.length < scanBound := Nat.lt_of_le_of_lt (subs5_len ns hs.2.1) (by decide)
  refine wpAny_inSet_of (intKind_is _ _ _ _) rfl ((hs.objOf (prog := prog)).setOf ho hb) ?_
  rw [hasN_eq]; exact h
theorem any_nat (ns : List Nat) (x : Nat) : ((ns.map fun (n : Nat) => (n : Int)).any (· == (x : Int))) = decide (x ∈ ns) := by
  rw [Bool.eq_iff_iff]
  simp only [List.any_eq_true, decide_eq_true_eq, List.mem_map, beq_iff_eq]
  exact ⟨fun ⟨n, ⟨m, hm, e1⟩, e2⟩ => (show m = x by omega) ▸ hm, fun h => ⟨_, ⟨x, h, rfl⟩, rfl⟩⟩
theorem in_listN {a : Addr} {vs : List Value} {ns : List Nat} {x : Nat} {t : Tok} {Q : Value → Shared → Prop} (hl : s.heap.IsList a (List.toArray vs)) (hi : Paired IntOf vs ns)
    (h : Q (.bool (decide (x ∈ ns))) s) : wpAny (model prog w) A (compareOp .In (.int (x : Int) t) (.ref a)) Q E s := by
  refine in_list_ints hl (paired_intsAre hi) ?_
  rw [any_nat]; exact h
theorem notin_listN {a : Addr} {vs : List Value} {ns : List Nat} {x : Nat} {t : Tok} {Q : Value → Shared → Prop} (hl : s.heap.IsList a (List.toArray vs)) (hi : Paired IntOf vs ns)
    (h : Q (.bool (!decide (x ∈ ns))) s) : wpAny (model prog w) A (compareOp .NotIn (.int (x : Int) t) (.ref a)) Q E s := by
  refine notin_list_ints hl (paired_intsAre hi) ?_
  rw [any_nat]; exact h
end
theorem filter_yes {p : Nat → Bool} {ys : List Value} {rv : List Nat} {i z : Nat} {t : Tok} (h : Paired IntOf ys ((rv.take i).filter p)) (hz : rv[i]? = some z) (hp : p z = true) :
    Paired IntOf (ys ++ [.int (z : Int) t]) ((rv.take (i + 1)).filter p) := by
  rw [List.take_add_one, hz, List.filter_append]
  refine paired_append h ?_
  simp only [Option.toList_some, List.filter_cons, hp, if_true, List.filter_nil]
  exact .cons ⟨t, rfl⟩ .nil
theorem filter_no {p : Nat → Bool} {ys : List Value} {rv : List Nat} {i z : Nat} (h : Paired IntOf ys ((rv.take i).filter p)) (hz : rv[i]? = some z) (hp : p z = false) :
    Paired IntOf ys ((rv.take (i + 1)).filter p) := by
  rw [List.take_add_one, hz, List.filter_append]
  simpa [hp] using h
theorem ne_keys {l l' : List (Addr × Obj)} {I : Addr} (h : ∀ p ∈ l, p.1 ≠ I) (e : l'.map (·.1) = l.map (·.1)) : ∀ p ∈ l', p.1 ≠ I := by
  intro p hp
  obtain ⟨q, hq, e2⟩ := List.mem_map.mp (e ▸ List.mem_map_of_mem (f := fun x : Addr × Obj => x.1) hp)
  rw [← e2]
  exact h q hq
theorem rv_sub (S : Nat → List Nat) (nb n k : Nat) : ∀ t, ∀ z ∈ (gst S nb n k t).rv, z < nb
  | 0, z, h => List.mem_range.mp h
  | t + 1, z, h => rv_sub S nb n k t z (List.mem_filter.mp h).1
theorem rv_len (S : Nat → List Nat) (nb n k : Nat) : ∀ t, (gst S nb n k t).rv.length ≤ nb
  | 0 => by simp [gst]
  | t + 1 => Nat.le_trans (List.length_filter_le _ _) (rv_len S nb n k t)
theorem rc_sub (S : Nat → List Nat) (nb n k : Nat) : ∀ t, ∀ z ∈ (gst S nb n k t).rc, z < n
  | 0, z, h => List.mem_range.mp h
  | t + 1, z, h => rc_sub S nb n k t z (List.mem_filter.mp h).1
section
variable {M : Model} {A : Around} {E : Value → Shared → Prop} {s : Shared} {h₀ : Heap} {L : Addr} {m : Str → Option Value} {news : List (Addr × Obj)} {t : Sem Flow} {Q : Flow → Shared → Prop}
theorem join_name (x : Str) (v : Tok → Value) (F : Fr h₀ L s.heap m) (N : News h₀ L s.heap news)
    (h1 : ∀ Q' : Flow → Shared → Prop, (∀ tkk h' tk, Fr h₀ L h' (fun y => if y = x then some (v tkk) else m y) → News h₀ L h' news → Q' .next { s with heap := h', toks := tk }) → wpAny M A t Q' E s)
    (h2 : ∀ tkk h' tk, Fr h₀ L h' (fun y => if y = x then some (v tkk) else m y) → News h₀ L h' news → Q .next { s with heap := h', toks := tk }) : wpAny M A t Q E s := h1 Q h2
theorem join_led (R : List (Addr × Obj) → Prop) (F : Fr h₀ L s.heap m)
    (h1 : ∀ Q' : Flow → Shared → Prop, (∀ h' tk nx, Fr h₀ L h' m → News h₀ L h' nx → R nx → Q' .next { s with heap := h', toks := tk }) → wpAny M A t Q' E s)
    (h2 : ∀ h' tk nx, Fr h₀ L h' m → News h₀ L h' nx → R nx → Q .next { s with heap := h', toks := tk }) : wpAny M A t Q E s := h1 Q h2
end
theorem gtake_fdiv (nb k t : Nat) : (if (t : Int) < (nb : Int) - (k : Int) * (nb : Int).fdiv (k : Int) then (nb : Int).fdiv (k : Int) + 1 else (nb : Int).fdiv (k : Int)) = (gtake nb k t : Int) := by
  have e : (nb : Int).fdiv (k : Int) = ((nb / k : Nat) : Int) := by
    rw [Int.fdiv_eq_ediv_of_nonneg _ (Int.natCast_nonneg k)]; rfl
  rw [e]
  have hle : k * (nb / k) ≤ nb := Nat.mul_div_le nb k
  have e3 : ((k : Int) * ((nb / k : Nat) : Int)) = ((k * (nb / k) : Nat) : Int) := (Int.natCast_mul _ _).symm
  rw [e3]
  unfold gtake
  by_cases h : t < nb - k * (nb / k)
  · rw [if_pos h, if_pos (by omega)]; rfl
  · rw [if_neg h, if_neg (by omega)]
theorem del_eq (x : Nat) (ns : List Nat) : del x ns = ns.filter fun y => decide (y ≠ x) := by
  unfold del
  refine List.filter_congr fun y _ => ?_
  rw [Bool.eq_iff_iff]
  simp
theorem off1_mem {D : Addr} : ∀ {l : List (Addr × Obj)}, LCg.Off1 D l → ∀ p ∈ l, @Ne Nat p.1 D
  | [], _, _, h => nomatch h
  | _ :: _, ⟨h1, h2⟩, p, hp => by
    rcases List.mem_cons.mp hp with e | hp
    · rw [e]; exact h1
    · exact off1_mem h2 p hp
theorem off1_of {D : Addr} : ∀ {l : List (Addr × Obj)}, (∀ p ∈ l, @Ne Nat p.1 D) → LCg.Off1 D l
  | [], _ => trivial
  | _ :: _, h => ⟨h _ (.head _), off1_of fun p hp => h p (.tail _ hp)⟩
theorem com_good (S : Nat → List Nat) (nb n k : Nat) : ∀ t, t ≤ n → (gst S nb n k t).com.Nodup ∧ ∀ x ∈ (gst S nb n k t).com, x < n
  | 0, _ => ⟨List.nodup_nil, fun _ h => nomatch h⟩
  | t + 1, ht => by
    obtain ⟨h1, h2⟩ := com_good S nb n k t (by omega)
    have hs := (gsel_best S (gst S nb n k t).rv (gst S nb n k t).rc (rc_ne S nb n k t ht)).2
    have hlt := rc_sub S nb n k t _ hs
    have hni : gsel S (gst S nb n k t).rv (gst S nb n k t).rc ∉ (gst S nb n k t).com := by
      have h3 := hs
      conv at h3 => arg 1; rw [rc_of_com]
      simpa using (List.mem_filter.mp h3).2
    show ((gst S nb n k t).com ++ [gsel S (gst S nb n k t).rv (gst S nb n k t).rc]).Nodup ∧ _
    refine ⟨List.nodup_append.mpr ⟨h1, by simp, ?_⟩, ?_⟩
    · intro a ha b hb e
      rw [List.mem_singleton.mp hb] at e
      exact hni (e ▸ ha)
    · intro x hx
      rcases List.mem_append.mp hx with h | h
      · exact h2 x h
      · rw [List.mem_singleton.mp h]; exact hlt
theorem lt5_mem {x : Nat} (h : x < 5) : x ∈ [0, 1, 2, 3, 4] := by
  match x, h with
  | 0, _ => simp
  | 1, _ => simp
  | 2, _ => simp
  | 3, _ => simp
  | 4, _ => simp
theorem off_tabs {b : Addr} {pre post : List (Addr × Obj)} {t1 t2 t3 : Obj} (h : ∀ q ∈ pre ++ (25, t1) :: (32, t2) :: (40, t3) :: post, @Ne Nat q.1 b) : b ≠ 25 ∧ b ≠ 32 ∧ b ≠ 40 :=
  ⟨Ne.symm (h (25, t1) (by (first | k_mem | ((repeat refine' List.Mem.tail _ ?_); refine' List.mem_append_right _ ?_; first | k_mem | (refine' List.mem_append_right _ ?_; k_mem)) | simp))), Ne.symm (h (32, t2) (by (first | k_mem | ((repeat refine' List.Mem.tail _ ?_); refine' List.mem_append_right _ ?_; first | k_mem | (refine' List.mem_append_right _ ?_; k_mem)) | simp))), Ne.symm (h (40, t3) (by (first | k_mem | ((repeat refine' List.Mem.tail _ ?_); refine' List.mem_append_right _ ?_; first | k_mem | (refine' List.mem_append_right _ ?_; k_mem)) | simp)))⟩
end
theorem rs4 {prog : PySem.Program} {w : PySem.World} {A : PySem.Around} {Q : PySem.Flow → PySem.Shared → Prop} {E : PySem.Value → PySem.Shared → Prop} {s : PySem.Shared} {env : PySem.Env} (h : Q .next s) : PySem.wpAny (PySem.model prog w) A (PySem.execs [] env) Q E s := by
  w_top off
  walk1
  exact h
section
open PySem PySem.W PySem.Calls PyProof.Rows PySem.Spec
set_option maxRecDepth 100000
set_option maxHeartbeats 8000000
local macro_rules
  | `(tactic| walk_at "call builtin:sorted") => `(tactic| refine' Mine.hold ?_)
  | `(tactic| walk_at "eval ListComp") => `(tactic| refine' Mine.hold ?_)
  | `(tactic| walk_at "exec Assign cons ListComp") => `(tactic| refine' Mine.hold_asg_remaining_voters ?_)
  | `(tactic| walk_at "call ref") => `(tactic| refine' Mine.hold_37 ?_)
  | `(tactic| walk_at "exec If") => `(tactic| refine' Mine.hold ?_)
  | `(tactic| walk_at "call type:set") => `(tactic| refine' Mine.hold ?_)
  | `(tactic| walk_at "exec For Name Call cons nil") => `(tactic| refine' Mine.hold ?_)
theorem setOf_range {n : Nat} (h : n ≤ 5) : setOf (List.range n) = List.range n := by
  have : n = 0 ∨ n = 1 ∨ n = 2 ∨ n = 3 ∨ n = 4 ∨ n = 5 := by omega
  rcases this with rfl | rfl | rfl | rfl | rfl | rfl <;> decide +kernel
theorem ints_range0 {vs : List Value} {n : Nat} (h : IntsAre vs (rangeKs 0 ((n : Int) - 0).toNat)) : Paired IntOf vs (List.range n) := by
  have e : ((n : Int) - 0).toNat = n := by omega
  rw [e, show rangeKs 0 n = (List.range n).map (fun (i : Nat) => (i : Int)) from by simp [rangeKs]] at h
  exact intsAre_paired h
theorem alg {w : World} {p : Program} {loose : List Str} {mean : ExcName → Option Value} {mg mb : Str → Option Value} {g₀ : Array GenState}
  {dp un : Nat} {gd : Option (List Code)} {cn : Str} {nms : List (Str × NameKind)} {ig ic : Bool} {mo} {a : Addr} {ccd : Value} {cl : List (Str × Addr)} {outer : List Env} {A₀ : Around} {base h₀ : Heap} {L : Addr} {m : Str → Option Value} {led : List (Addr × Obj)} {s : Shared}
    {Q E : Value → Shared → Prop} {x d c v n' : Addr} {vvs : Array Value} {kk cc n k : Nat} {cvs : List Value} {t1 t2 t3 tk : Tok} (S : Nat → List Nat)
  (B : Below A₀ base outer h₀) (F : Fr h₀ L s.heap m) (X : (Mine.hd.heap_39 w.params).In h₀) (N : News h₀ L s.heap led) (G : GOk g₀ s.gens) (T : Top p loose mean mg mb h₀)
  (hx : (x, instObj 542 d) ∈ led)
  (hdd : (d, dictOf [⟨PyData.keyHash w.params (Str.ofString "candidates"), .str (Str.ofString "candidates") t1, .ref c⟩, ⟨PyData.keyHash w.params (Str.ofString "cand_names"), .str (Str.ofString "cand_names") t2, .ref n'⟩, ⟨PyData.keyHash w.params (Str.ofString "_voters"), .str (Str.ofString "_voters") t3, .ref v⟩] 3) ∈ led)
  (hc : (c, listOf cvs.toArray cc) ∈ led) (hci : Paired IntOf cvs (List.range n))
  (hv : (v, listOf vvs kk) ∈ led) (hn5 : n ≤ 5) (hk1 : 1 ≤ k) (hkn : k ≤ n) (hv1 : 1 ≤ vvs.size) (hv2 : vvs.size < 1000)
  (hvv : ∀ i, i < vvs.size → ∃ xi di ai oi u1 u2 u3 wi, vvs[i]? = some (.ref xi) ∧ (xi, instObj 579 di) ∈ led ∧ (di, dictOf [⟨PyData.keyHash w.params (Str.ofString "approved"), .str (Str.ofString "approved") u1, .ref ai⟩, ⟨PyData.keyHash w.params (Str.ofString "weight"), .str (Str.ofString "weight") u2, .int wi u3⟩] 2) ∈ led ∧ (ai, oi) ∈ led ∧ SetN w oi (S i))
  {pre post : List (Addr × Obj)} {p1 p2 p3 : Array Value} (hled : led = pre ++ (25, tabObj p1) :: (32, tabObj p2) :: (40, tabObj p3) :: post)
  (hne : ∀ q ∈ pre ++ post, q.1 ≠ 25 ∧ q.1 ≠ 32 ∧ q.1 ≠ 40) (tr1 : TriplesOk p1.toList) (tr2 : TriplesOk p2.toList) (tr3 : TriplesOk p3.toList)
  (hd : dp + 100 < recursionLimit) (hu : un + 1000 < cLine)
  (hQ : ∀ T' D' dd a' o' c' q1 q2 q3 s', Fr h₀ L s'.heap m → News h₀ L s'.heap ((T', ({ cls := .type "tuple", data := .seq #[.ref D', .ref dd] } : Obj)) :: (D', listOf #[.ref a'] c') :: (a', o') :: (pre ++ (25, tabObj q1) :: (32, tabObj q2) :: (40, tabObj q3) :: post)) →
    (∀ q ∈ pre ++ (25, tabObj q1) :: (32, tabObj q2) :: (40, tabObj q3) :: post, q.1 < a') → @LT.lt Nat _ a' D' → @LT.lt Nat _ D' T' → SetN w o' (setOf (gst S vvs.size n k k).com) → TriplesOk q1.toList → TriplesOk q2.toList → TriplesOk q3.toList → GOk g₀ s'.gens → s'.os = s.os → Q (.ref T') s') :
  wpAny (model PySem.Challenge.pw_jg0002_01 w) (ktrTop dp un gd cn ⟨.function, nms, ig, ic, mo⟩ L a ccd cl outer) (call (.ref 420) [.ref x, .int (k : Int) tk]) Q E s := by
  refine wpAny_call ?_
  k_dflt k_enter
  rename_i g1 L1 h1 tk1 FG1 F1 B1 X1 T1 l11 oTR oCA oSE oPR dTR dCA dSE dPR N1
  have mm : ∀ {q : Addr × Obj} {l : List (Addr × Obj)} {a b c d : Addr × Obj}, q ∈ l → q ∈ a :: b :: c :: d :: l := fun h => .tail _ (.tail _ (.tail _ (.tail _ h)))
  have hx1 := mem_of_news N1 (mm hx)
  have hdd1 := mem_of_news N1 (mm hdd)
  have hv1' := mem_of_news N1 (mm hv)
  have hc1 := mem_of_news N1 (mm hc)
  repeat' walk1
  rename News _ _ _ _ => N2
  refine len_listN (k := vvs.size) ⟨_, (N2 _ hv1').1, rfl, kk, rfl⟩ rfl (by omega) ?_
  repeat' walk1
  rename_i lC hq1 ltC hq2 tkq2 hq3 tkq3 tq uq vq rgq aq D3 vs3 c3 hh3 tkk3 hI3 lt3 h3 F3 N3
  have hx3 := mem_of_news N3 (.tail _ (.tail _ hx1))
  have hdd3 := mem_of_news N3 (.tail _ (.tail _ hdd1))
  have hc3 := mem_of_news N3 (.tail _ (.tail _ hc1))
  clear N2
  repeat' walk1
  refine Mine.held ?_
  rename Fr _ _ _ _ => F4
  rename News _ _ _ _ => N4
  refine newSet_listN F4 N4 rfl ⟨_, (N4 _ hc3).1, rfl, cc, rfl⟩ hci List.nodup_range ?_ ?_
  · intro y hy
    have : y < 5 := by have := List.mem_range.mp hy; omega
    match y, this with
    | 0, _ => simp
    | 1, _ => simp
    | 2, _ => simp
    | 3, _ => simp
    | 4, _ => simp
  intro h5 tk5 oS aS F5 N5 lt5 S5
  clear F4 N4
  repeat' walk1
  refine Mine.held ?_
  rename Fr _ _ _ _ => F6
  rename News _ _ _ _ => N6
  rename_i hx6 tx6 lA hy6 lt6 hz6
  refine For_rangeM (g₀ := g₀) (h₀ := g1) F6 (AJ w led L1 lA aS lC oPR S vvs.size n k) rfl (show k ≤ 1000 by omega) ?hiter (fun _ _ => rfl) ?step ?fin
  case hiter =>
    repeat' walk1
    rename Fr _ _ _ _ => F7
    rename News _ _ _ _ => N7
    rename IsRange _ _ _ _ _ _ _ _ => R7
    refine ⟨_, _, _, _, _, rfl, R7, F7, N7, G, rfl, ?_⟩
    refine AJ.start rfl dTR dCA dSE (ints_range0 hI3) (setOf_range hn5 ▸ S5.toO) ?_
    (repeat' (first | refine Mine.all_cons ?_ ?_ | exact Mine.all_nil | refine Mine.all_app ?_ ?_))
    all_goals try intro q h
    · exact Nat.ne_of_gt lt6.2.1
    · exact Nat.ne_of_gt (lt5 : _ ∧ _).1
    · exact Nat.ne_of_lt lt3.1
    · exact Nat.ne_of_lt lt3.2.1
    · exact Nat.ne_of_lt lt3.2.2.1
    · exact Nat.ne_of_lt lt3.2.2.2.1
    · exact Nat.ne_of_lt lt3.2.2.2.2.1
    · exact Nat.ne_of_lt (AllLt_mem _ lt3.2.2.2.2.2 h)
  case step =>
    intro i t m₁ nx s₁ I oI hi hAJ
    refine AJ.elim hAJ ?_
    clear hAJ
    rintro D vs c' as ca oS' cs ccs oTR' oCA' oSE' vTR vCA vSE u1 u2 u3 u4 rfl rfl d1 d2 d3 pv pc sS hsz hD hIn F7 N7 G7 eo7 lI
    clear F6 N6
    dsimp only [List.cons_append] at N7
    repeat' walk1
    rename Fr _ _ _ _ => F8
    rename News _ _ _ _ => N8
    refine stCN (own := [(lA, listOf as ca), (aS, oS'), (D, listOf (List.toArray vs) c'), (lC, listOf (List.toArray cs) ccs), (L1 + 1 + 1 + 1 + 1, oTR'), (L1 + 1 + 1 + 1, oCA')]) (c := L1 + 1 + 1) F8 N8 rfl d3 ?_ ?_ ?_
    · (repeat' (first | refine Mine.all_cons ?_ ?_ | exact Mine.all_nil | refine Mine.all_app ?_ ?_))
      all_goals try intro q h
      · exact Nat.ne_of_gt lt6.2.2.2.2.2.1
      · exact Nat.ne_of_gt (lt5 : _ ∧ _ ∧ _ ∧ _ ∧ _ ∧ _).2.2.2.2.1
      · exact Ne.symm (hD (L1 + 1 + 1, oSE') (by (first | k_mem | ((repeat refine' List.Mem.tail _ ?_); refine' List.mem_append_right _ ?_; first | k_mem | (refine' List.mem_append_right _ ?_; k_mem)) | simp)))
      · exact Nat.ne_of_gt ltC.2.2.1
      · exact Nat.ne_of_gt (Nat.lt_succ_of_lt (Nat.lt_succ_self _))
      · exact Nat.ne_of_gt (Nat.lt_succ_self _)
    · (repeat' (first | refine Mine.all_cons ?_ ?_ | exact Mine.all_nil | refine Mine.all_app ?_ ?_))
      all_goals try intro q h
      · exact Nat.ne_of_lt (Nat.lt_succ_self _)
      · exact Nat.ne_of_lt (Nat.lt_trans (l11 q h) (Nat.lt_succ_of_lt (Nat.lt_succ_self _)))
      · exact Ne.symm (hIn (L1 + 1 + 1, oSE') (by (first | k_mem | ((repeat refine' List.Mem.tail _ ?_); refine' List.mem_append_right _ ?_; first | k_mem | (refine' List.mem_append_right _ ?_; k_mem)) | simp)))
    intro h9 oSE9 F9 N9 d9
    clear F8 N8
    dsimp only [List.cons_append, List.nil_append] at N9
    repeat' walk1
    refine Mine.held ?_
    rename Fr _ _ _ _ => F10
    rename News _ _ _ _ => N10
    refine For_newM (g₀ := g₀) (h₀ := g1) (ns := (gst S vvs.size n k i).rc) F10 (BJ S (gst S vvs.size n k i).rv (gst S vvs.size n k i).rc ((lA, listOf as ca) :: (aS, oS') :: (D, listOf (List.toArray vs) c') :: (lC, listOf (List.toArray cs) ccs) :: [(L1 + 1 + 1 + 1 + 1, oTR')]) ((L1 + 1, oPR) :: (led ++ [(I, oI)])) L1) rfl ?hi2 (fun _ _ => rfl) ?st2 ?fi2
    case hi2 =>
      repeat' walk1
      refine Mine.held ?_
      rename Fr _ _ _ _ => F11
      rename News _ _ _ _ => N11
      refine sorted_setN F11 N11 rfl (N11 (aS, oS') (.tail _ (.head _))).1 sS ?_
      intro h12 tk12 vs12 e12 a12 F12 N12 lt12 P12
      exact ⟨a12, vs12, e12, _, _, rfl, F12, N12, P12, G7, rfl, BJ.start rfl d2 d9 ⟨Nat.ne_of_gt (AllLt_mem (q := (L1 + 1 + 1 + 1, oCA')) _ lt12 (by (first | k_mem | ((repeat refine' List.Mem.tail _ ?_); refine' List.mem_append_right _ ?_; first | k_mem | (refine' List.mem_append_right _ ?_; k_mem)) | simp))), Nat.ne_of_gt (AllLt_mem (q := (L1 + 1 + 1, oSE9)) _ lt12 (by (first | k_mem | ((repeat refine' List.Mem.tail _ ?_); refine' List.mem_append_right _ ?_; first | k_mem | (refine' List.mem_append_right _ ?_; k_mem)) | simp)))⟩⟩
    case st2 =>
      intro l2 ol2 j x2 t2 m₂ nx2 s₂ I2 oI2 hx2 hBJ
      refine BJ.elim hBJ ?_
      clear hBJ
      rintro oCA2 oSE2 vCA2 w1 tb2 rfl rfl e1 el e2 e3 hIn2 F13 N13 G13 eo13 lI2
      clear F10 N10
      dsimp only [List.cons_append, List.nil_append] at N13
      refine wpAny_assign_Name ?_
      refine stCN (own := [(l2, ol2), (lA, listOf as ca), (aS, oS'), (D, listOf (List.toArray vs) c'), (lC, listOf (List.toArray cs) ccs), (L1 + 1 + 1 + 1 + 1, oTR')]) (c := L1 + 1 + 1 + 1) F13 N13 rfl e1 ?_ ?_ ?_
      · (repeat' (first | refine Mine.all_cons ?_ ?_ | exact Mine.all_nil | refine Mine.all_app ?_ ?_))
        all_goals try intro q h
        · exact el.1
        · exact Nat.ne_of_gt lt6.2.2.2.2.1
        · exact Nat.ne_of_gt (lt5 : _ ∧ _ ∧ _ ∧ _ ∧ _).2.2.2.1
        · exact Ne.symm (hD (L1 + 1 + 1 + 1, oCA') (by (first | k_mem | ((repeat refine' List.Mem.tail _ ?_); refine' List.mem_append_right _ ?_; first | k_mem | (refine' List.mem_append_right _ ?_; k_mem)) | simp)))
        · exact Nat.ne_of_gt ltC.2.1
        · exact Nat.ne_of_gt (Nat.lt_succ_self _)
      · (repeat' (first | refine Mine.all_cons ?_ ?_ | exact Mine.all_nil | refine Mine.all_app ?_ ?_))
        all_goals try intro q h
        · exact Nat.ne_of_lt (Nat.lt_succ_self _)
        · exact Nat.ne_of_lt (Nat.lt_succ_of_lt (Nat.lt_succ_self _))
        · exact Nat.ne_of_lt (Nat.lt_trans (l11 q h) (Nat.lt_succ_of_lt (Nat.lt_succ_of_lt (Nat.lt_succ_self _))))
        · exact Ne.symm (hIn (L1 + 1 + 1 + 1, oCA') (by (first | k_mem | ((repeat refine' List.Mem.tail _ ?_); refine' List.mem_append_right _ ?_; first | k_mem | (refine' List.mem_append_right _ ?_; k_mem)) | simp)))
        · exact Ne.symm (hIn2 (L1 + 1 + 1 + 1, oCA2) (by (first | k_mem | ((repeat refine' List.Mem.tail _ ?_); refine' List.mem_append_right _ ?_; first | k_mem | (refine' List.mem_append_right _ ?_; k_mem)) | simp)))
      intro h14 oCA14 F14 N14 d14
      clear F13 N13
      dsimp only [List.cons_append, List.nil_append] at N14
      repeat' walk1
      refine Mine.held ?_
      rename Fr _ _ _ _ => F15
      rename News _ _ _ _ => N15
      refine' LCt.ListComp_T (F₀ := F15) (by with_unfolding_all rfl) (by decide) (by rfl) (by decide) (by rfl) ?_
      walk1
      refine LCt.CompSrcT.ledger (its := List.toArray vs) (k := c') rfl F15 N15 (.tail _ (.tail _ (.tail _ (.head _)))) ?_ (fun g => ?_)
      · have := rv_len S vvs.size n k i
        rw [← pv.length] at this
        show vs.length ≤ _
        rw [sizeLine_eq]; omega
      refine compT_ind (fun i' ys nx => nx = _ ∧ Paired IntOf ys (((gst S vvs.size n k i).rv.take i').filter fun z => decide (x2 ∈ S z))) ?_ ?_ _ 0 [] _ (Nat.zero_add _) ⟨rfl, by simpa using .nil⟩
      · rintro i3 ys nx3 v3 I3 oI3 C3 oC3 D3' m3 h16 tk16 E' hi3 ⟨rfl, hys⟩ hP3 hC3 hx3' F16 N16 off hne3
        obtain ⟨z3, hz3, tz3, rfl⟩ := paired_at pv (by simpa using hP3)
        have off6 := off
        dsimp only [LCg.Off3] at off
        have hx16 := mem_of_news N16 (show (x, instObj 542 d) ∈ _ by (repeat refine' List.Mem.tail _ ?_); exact List.mem_append_left _ (List.mem_append_left _ hx))
        have hdd16 := mem_of_news N16 (show (d, _) ∈ _ from .tail _ (.tail _ (.tail _ (.tail _ (.tail _ (.tail _ (.tail _ (.tail _ (.tail _ (.tail _ (.tail _ (.tail _ (List.mem_append_left _ (List.mem_append_left _ hdd))))))))))))))
        repeat' walk1
        rename News _ _ _ _ => N17
        have hz3n := rv_sub S vvs.size n k i z3 (List.mem_of_getElem? hz3)
        obtain ⟨xi, di, ai, oi, q1, q2, q3, wi, ev, mx, md, ma, sN⟩ := hvv z3 hz3n
        have mled : ∀ {q : Addr × Obj}, q ∈ led → q ∈ (I3, oI3) :: (C3, oC3) :: (D3', LCg.lst ys) :: (l2, ol2) :: (lA, listOf as ca) :: (aS, oS') :: (D, listOf (List.toArray vs) c') :: (lC, listOf (List.toArray cs) ccs) :: (L1 + 1 + 1 + 1 + 1, oTR') :: (L1 + 1 + 1 + 1, oCA14) :: (L1 + 1 + 1, oSE2) :: (L1 + 1, oPR) :: (led ++ [(I, oI)] ++ [(I2, oI2)]) := fun h => .tail _ (.tail _ (.tail _ (.tail _ (.tail _ (.tail _ (.tail _ (.tail _ (.tail _ (.tail _ (.tail _ (.tail _ (List.mem_append_left _ (List.mem_append_left _ h)))))))))))))
        have mx17 := mem_of_news N17 (mled mx)
        have md17 := mem_of_news N17 (mled md)
        have ma17 := mem_of_news N17 (mled ma)
        refine item_N (items := vvs) ⟨_, (N17 _ (mled hv)).1, rfl, kk, rfl⟩ (by omega) ev ?_
        repeat' walk1
        rename News _ _ _ _ => N18
        refine in_setN (N18 _ (mled ma)).1 sN.toO ?_
        by_cases hin : x2 ∈ S z3
        · rw [decide_eq_true hin]
          repeat' walk1
          exact LCg.CompEnd.intro (by assumption) N18 _ (fun p hp => hp) off6 (.inr ⟨_, .tail _ (.tail _ (.tail _ (.head _))), rfl, c', rfl⟩) ⟨rfl, filter_yes hys hz3 (decide_eq_true hin)⟩
        · rw [decide_eq_false hin]
          repeat' walk1
          exact LCg.CompEnd.intro (by assumption) N18 _ (fun p hp => hp) off6 (.inr ⟨_, .tail _ (.tail _ (.tail _ (.head _))), rfl, c', rfl⟩) ⟨rfl, filter_no hys hz3 (decide_eq_false hin)⟩
      · rintro ys nx3 ⟨rfl, hys⟩
        intro D4 h4 tk4 F20 N20 o20
        have hcnt : ys.length = cnt S (gst S vvs.size n k i).rv x2 := by
          have := hys.length
          rw [List.take_of_length_le (by simpa using Nat.le_of_eq pv.length.symm)] at this
          exact this
        have hcle : cnt S (gst S vvs.size n k i).rv x2 ≤ vvs.size := Nat.le_trans (List.length_filter_le _ _) (rv_len S vvs.size n k i)
        repeat' walk1
        rename News _ _ _ _ => N21
        refine len_listN (k := cnt S (gst S vvs.size n k i).rv x2) ⟨_, (N21 _ (.head _)).1, rfl, _, rfl⟩ hcnt (by omega) ?_
        repeat' walk1
        refine Mine.held ?_
        refine wpAny_If ?_
        repeat' walk1
        · rename Fr _ _ _ _ => F22
          rename News _ _ _ _ => N22
          obtain ⟨vSE2, dSE2⟩ := best_cell e2 e3
          dsimp only [LCg.Off1] at o20
          refine stCN (own := [(D4, _), (l2, ol2), (lA, listOf as ca), (aS, oS'), (D, listOf (List.toArray vs) c'), (lC, listOf (List.toArray cs) ccs), (L1 + 1 + 1 + 1 + 1, oTR'), (L1 + 1 + 1 + 1, oCA14)]) (c := L1 + 1 + 1) (o := oSE2) F22 N22 rfl dSE2 ?_ ?_ ?_
          · (repeat' (first | refine Mine.all_cons ?_ ?_ | exact Mine.all_nil | refine Mine.all_app ?_ ?_))
            all_goals try intro q h
            · exact Ne.symm o20.2.2.2.2.2.2.2.1
            · exact el.2
            · exact Nat.ne_of_gt lt6.2.2.2.2.2.1
            · exact Nat.ne_of_gt (lt5 : _ ∧ _ ∧ _ ∧ _ ∧ _ ∧ _).2.2.2.2.1
            · exact Ne.symm (hD (L1 + 1 + 1, oSE') (by (first | k_mem | ((repeat refine' List.Mem.tail _ ?_); refine' List.mem_append_right _ ?_; first | k_mem | (refine' List.mem_append_right _ ?_; k_mem)) | simp)))
            · exact Nat.ne_of_gt ltC.2.2.1
            · exact Nat.ne_of_gt (Nat.lt_succ_of_lt (Nat.lt_succ_self _))
            · exact Nat.ne_of_gt (Nat.lt_succ_self _)
          · (repeat' (first | refine Mine.all_cons ?_ ?_ | exact Mine.all_nil | refine Mine.all_app ?_ ?_))
            all_goals try intro q h
            · exact Nat.ne_of_lt (Nat.lt_succ_self _)
            · exact Nat.ne_of_lt (Nat.lt_trans (l11 q h) (Nat.lt_succ_of_lt (Nat.lt_succ_self _)))
            · exact Ne.symm (hIn (L1 + 1 + 1, oSE') (by (first | k_mem | ((repeat refine' List.Mem.tail _ ?_); refine' List.mem_append_right _ ?_; first | k_mem | (refine' List.mem_append_right _ ?_; k_mem)) | simp)))
            · exact Ne.symm (hIn2 (L1 + 1 + 1, oSE2) (by (first | k_mem | ((repeat refine' List.Mem.tail _ ?_); refine' List.mem_append_right _ ?_; first | k_mem | (refine' List.mem_append_right _ ?_; k_mem)) | simp)))
          intro h24 oSE24 F24 N24 d24
          clear F22 N22
          dsimp only [List.cons_append, List.nil_append] at N24
          repeat' walk1
          refine ⟨_, _, _, F24, N24, fun p hp => .tail _ (List.mem_append_left [(I2, oI2)] hp), by simp, ?_, G13, eo13, ⟨_, rfl, BJ.yes hx2 (by assumption) d14 el d24⟩⟩
          exact ne_keys hIn2 rfl
        · rename Fr _ _ _ _ => F22
          rename News _ _ _ _ => N22
          refine ⟨_, _, _, F22, N22, fun p hp => .tail _ (List.mem_append_left [(I2, oI2)] hp), by simp, ?_, G13, eo13, ⟨_, rfl, BJ.no hx2 (by assumption) d14 el e2 e3⟩⟩
          exact ne_keys hIn2 rfl
    case fi2 =>
      intro l2 ol2 s₂ m₂ nx2 F13 N13 G13 eo13 hBJ
      refine BJ.elim hBJ ?_
      clear hBJ
      rintro oCA2 oSE2 vCA2 w1 tb2 rfl rfl e1 el e2 e3
      rw [List.take_length] at e2 e3
      clear F10 N10
      dsimp only [List.cons_append, List.nil_append] at N13
      repeat' walk1
      refine Mine.held ?_
      refine join_name (Str.ofString "num_remove") (fun tk => .int (gtake vvs.size k i : Int) tk) F13 N13 (fun Q' hQ' => ?_) ?_
      · refine wpAny_If ?_
        repeat' walk1
        · rename Fr _ _ _ _ => F22
          rename News _ _ _ _ => N22
          have e := gtake_fdiv vvs.size k i
          rw [if_pos (by assumption)] at e
          rw [e] at F22
          exact hQ' _ _ _ F22 N22
        · rename Fr _ _ _ _ => F22
          rename News _ _ _ _ => N22
          have e := gtake_fdiv vvs.size k i
          rw [if_neg (by assumption)] at e
          rw [e] at F22
          exact hQ' _ _ _ F22 N22
      intro tk23 h23 tk23' F23 N23
      clear F13 N13
      repeat' walk1
      refine Mine.held ?_
      rename Fr _ _ _ _ => F25
      rename News _ _ _ _ => N25
      have hc0 := gsel_best S (gst S vvs.size n k i).rv (gst S vvs.size n k i).rc (rc_ne S vvs.size n k i (by omega))
      obtain ⟨tS, dS⟩ := e3 _ hc0.1
      generalize hgs : gsel S (gst S vvs.size n k i).rv (gst S vvs.size n k i).rc = c0 at hc0 dS
      refine' LCt.ListComp_T (F₀ := F25) (by with_unfolding_all rfl) (by decide) (by rfl) (by decide) (by rfl) ?_
      walk1
      refine LCt.CompSrcT.ledger (its := List.toArray vs) (k := c') rfl F25 N25 (.tail _ (.tail _ (.head _))) ?_ (fun g => ?_)
      · have := rv_len S vvs.size n k i
        rw [← pv.length] at this
        show vs.length ≤ _
        rw [sizeLine_eq]; omega
      refine compT_ind (fun i' ys nx => nx = _ ∧ Paired IntOf ys (((gst S vvs.size n k i).rv.take i').filter fun z => decide (c0 ∈ S z))) ?_ ?_ _ 0 [] _ (Nat.zero_add _) ⟨rfl, by simpa using .nil⟩
      · rintro i3 ys nx3 v3 I3 oI3 C3 oC3 D3' m3 h16 tk16 E' hi3 ⟨rfl, hys⟩ hP3 hC3 hx3' F16 N16 off hne3
        obtain ⟨z3, hz3, tz3, rfl⟩ := paired_at pv (by simpa using hP3)
        have off6 := off
        dsimp only [LCg.Off3] at off
        have mled : ∀ {q : Addr × Obj}, q ∈ led → q ∈ (I3, oI3) :: (C3, oC3) :: (D3', LCg.lst ys) :: (lA, listOf as ca) :: (aS, oS') :: (D, listOf (List.toArray vs) c') :: (lC, listOf (List.toArray cs) ccs) :: (L1 + 1 + 1 + 1 + 1, oTR') :: (L1 + 1 + 1 + 1, oCA2) :: (L1 + 1 + 1, oSE2) :: (L1 + 1, oPR) :: (led ++ [(I, oI)]) := fun h => .tail _ (.tail _ (.tail _ (.tail _ (.tail _ (.tail _ (.tail _ (.tail _ (.tail _ (.tail _ (.tail _ (List.mem_append_left _ h)))))))))))
        have hx16 := mem_of_news N16 (mled hx)
        have hdd16 := mem_of_news N16 (mled hdd)
        repeat' walk1
        rename News _ _ _ _ => N17
        have hz3n := rv_sub S vvs.size n k i z3 (List.mem_of_getElem? hz3)
        obtain ⟨xi, di, ai, oi, q1, q2, q3, wi, ev, mx, md, ma, sN⟩ := hvv z3 hz3n
        have mx17 := mem_of_news N17 (mled mx)
        have md17 := mem_of_news N17 (mled md)
        have ma17 := mem_of_news N17 (mled ma)
        refine item_N (items := vvs) ⟨_, (N17 _ (mled hv)).1, rfl, kk, rfl⟩ (by omega) ev ?_
        repeat' walk1
        rename News _ _ _ _ => N18
        refine in_setN (N18 _ (mled ma)).1 sN.toO ?_
        by_cases hin : c0 ∈ S z3
        · rw [decide_eq_true hin]
          repeat' walk1
          exact LCg.CompEnd.intro (by assumption) N18 _ (fun p hp => hp) off6 (.inr ⟨_, .tail _ (.tail _ (.head _)), rfl, c', rfl⟩) ⟨rfl, filter_yes hys hz3 (decide_eq_true hin)⟩
        · rw [decide_eq_false hin]
          repeat' walk1
          exact LCg.CompEnd.intro (by assumption) N18 _ (fun p hp => hp) off6 (.inr ⟨_, .tail _ (.tail _ (.head _)), rfl, c', rfl⟩) ⟨rfl, filter_no hys hz3 (decide_eq_false hin)⟩
      · rintro ys nx3 ⟨rfl, hys⟩
        rw [List.take_of_length_le (by simpa using Nat.le_of_eq pv.length.symm)] at hys
        intro D4 h4 tk4 F30 N30 o30
        clear F25 N25
        repeat' walk1
        dsimp only [LCg.Off1] at o30
        refine stCN (own := [(D4, _), (lA, listOf as ca), (aS, oS'), (D, listOf (List.toArray vs) c'), (lC, listOf (List.toArray cs) ccs)]) (c := L1 + 1 + 1 + 1 + 1) (o := oTR') F30 N30 rfl d1 ?_ ?_ ?_
        · (repeat' (first | refine Mine.all_cons ?_ ?_ | exact Mine.all_nil | refine Mine.all_app ?_ ?_))
          all_goals try intro q h
          · exact Ne.symm o30.2.2.2.2.1
          · exact Nat.ne_of_gt lt6.2.2.2.1
          · exact Nat.ne_of_gt (lt5 : _ ∧ _ ∧ _ ∧ _).2.2.1
          · exact Ne.symm (hD (L1 + 1 + 1 + 1 + 1, oTR') (by (first | k_mem | ((repeat refine' List.Mem.tail _ ?_); refine' List.mem_append_right _ ?_; first | k_mem | (refine' List.mem_append_right _ ?_; k_mem)) | simp)))
          · exact Nat.ne_of_gt ltC.1
        · (repeat' (first | refine Mine.all_cons ?_ ?_ | exact Mine.all_nil | refine Mine.all_app ?_ ?_))
          all_goals try intro q h
          · exact Nat.ne_of_lt (Nat.lt_succ_self _)
          · exact Nat.ne_of_lt (Nat.lt_succ_of_lt (Nat.lt_succ_self _))
          · exact Nat.ne_of_lt (Nat.lt_succ_of_lt (Nat.lt_succ_of_lt (Nat.lt_succ_self _)))
          · exact Nat.ne_of_lt (Nat.lt_trans (l11 q h) (Nat.lt_succ_of_lt (Nat.lt_succ_of_lt (Nat.lt_succ_of_lt (Nat.lt_succ_self _)))))
          · exact Ne.symm (hIn (L1 + 1 + 1 + 1 + 1, oTR') (by (first | k_mem | ((repeat refine' List.Mem.tail _ ?_); refine' List.mem_append_right _ ?_; first | k_mem | (refine' List.mem_append_right _ ?_; k_mem)) | simp)))
        intro h34 oTR34 F34 N34 d34
        clear F30 N30
        dsimp only [List.cons_append, List.nil_append] at N34
        repeat' walk1
        refine Mine.held ?_
        refine join_led (fun nx => ∃ DT vT cT oTR', nx = (DT, listOf (List.toArray vT) cT) :: (lA, listOf as ca) :: (aS, oS') :: (D, listOf (List.toArray vs) c') :: (lC, listOf (List.toArray cs) ccs) :: (L1 + 1 + 1 + 1 + 1, oTR') :: (L1 + 1 + 1 + 1, oCA2) :: (L1 + 1 + 1, oSE2) :: (L1 + 1, oPR) :: (led ++ [(I, oI)]) ∧
          oTR'.data = .cell (some (.ref DT)) ∧ Paired IntOf vT (gtr S (gst S vvs.size n k i).rv c0 (gtake vvs.size k i)) ∧ LCg.Off1 DT ((lA, listOf as ca) :: (aS, oS') :: (D, listOf (List.toArray vs) c') :: (lC, listOf (List.toArray cs) ccs) :: (L1 + 1 + 1 + 1 + 1, oTR') :: (L1 + 1 + 1 + 1, oCA2) :: (L1 + 1 + 1, oSE2) :: (L1 + 1, oPR) :: (led ++ [(I, oI)]))) F34 (fun Q' hQ' => ?_) ?_
        · have hysl : ys.length ≤ vvs.size := by
            rw [hys.length]
            exact Nat.le_trans (List.length_filter_le _ _) (rv_len S vvs.size n k i)
          refine wpAny_If ?_
          repeat' walk1
          rename News _ _ _ _ => N35
          refine len_listN (k := ys.length) ⟨_, (N35 _ (.head _)).1, rfl, _, rfl⟩ rfl (by omega) ?_
          repeat' walk1
          · rename Fr _ _ _ _ => F36
            rename News _ _ _ _ => N36
            rw [slicePick_upto'] at N36
            refine stCN (own := [_, (D4, _), (lA, listOf as ca), (aS, oS'), (D, listOf (List.toArray vs) c'), (lC, listOf (List.toArray cs) ccs)]) (c := L1 + 1 + 1 + 1 + 1) (o := oTR34) F36 N36 rfl d34 ?_ ?_ ?_
            · (repeat' (first | refine Mine.all_cons ?_ ?_ | exact Mine.all_nil | refine Mine.all_app ?_ ?_))
              all_goals try intro q h
              · exact Nat.ne_of_gt (Nat.lt_succ_of_lt (Heap.lt_size (N35 (L1 + 1 + 1 + 1 + 1, oTR34) (by (first | k_mem | ((repeat refine' List.Mem.tail _ ?_); refine' List.mem_append_right _ ?_; first | k_mem | (refine' List.mem_append_right _ ?_; k_mem)) | simp))).1))
              · exact Ne.symm o30.2.2.2.2.1
              · exact Nat.ne_of_gt lt6.2.2.2.1
              · exact Nat.ne_of_gt (lt5 : _ ∧ _ ∧ _ ∧ _).2.2.1
              · exact Ne.symm (hD (L1 + 1 + 1 + 1 + 1, oTR') (by (first | k_mem | ((repeat refine' List.Mem.tail _ ?_); refine' List.mem_append_right _ ?_; first | k_mem | (refine' List.mem_append_right _ ?_; k_mem)) | simp)))
              · exact Nat.ne_of_gt ltC.1
            · (repeat' (first | refine Mine.all_cons ?_ ?_ | exact Mine.all_nil | refine Mine.all_app ?_ ?_))
              all_goals try intro q h
              · exact Nat.ne_of_lt (Nat.lt_succ_self _)
              · exact Nat.ne_of_lt (Nat.lt_succ_of_lt (Nat.lt_succ_self _))
              · exact Nat.ne_of_lt (Nat.lt_succ_of_lt (Nat.lt_succ_of_lt (Nat.lt_succ_self _)))
              · exact Nat.ne_of_lt (Nat.lt_trans (l11 q h) (Nat.lt_succ_of_lt (Nat.lt_succ_of_lt (Nat.lt_succ_of_lt (Nat.lt_succ_self _)))))
              · exact Ne.symm (hIn (L1 + 1 + 1 + 1 + 1, oTR') (by (first | k_mem | ((repeat refine' List.Mem.tail _ ?_); refine' List.mem_append_right _ ?_; first | k_mem | (refine' List.mem_append_right _ ?_; k_mem)) | simp)))
            intro h37 oTR37 F37 N37 d37
            dsimp only [List.cons_append, List.nil_append] at N37
            repeat' walk1
            refine hQ' _ _ _ F37 (newsSub N37 (news' := _ :: _) ?_) ⟨_, ys.take (gtake vvs.size k i), 0, oTR37, rfl, d37, paired_take hys _, ?_⟩
            · intro p hp
              rcases List.mem_cons.mp hp with e | hp
              · rw [e]; exact .head _
              · exact .tail _ (.tail _ hp)
            · exact off1_of (ne_keys (fun p hp => Nat.ne_of_lt (Nat.lt_succ_of_lt (Heap.lt_size (N35 p (.tail _ hp)).1))) rfl)
          · refine hQ' _ _ _ F34 N35 ⟨D4, ys, ys.length, oTR34, rfl, d34, ?_, off1_of (ne_keys (off1_mem (show LCg.Off1 D4 ((lA, listOf as ca) :: (aS, oS') :: (D, listOf (List.toArray vs) c') :: (lC, listOf (List.toArray cs) ccs) :: (L1 + 1 + 1 + 1 + 1, oTR') :: (L1 + 1 + 1 + 1, oCA2) :: (L1 + 1 + 1, oSE2) :: (L1 + 1, oPR) :: (led ++ [(I, oI)])) from by simpa only [LCg.Off1] using o30)) rfl)⟩
            unfold gtr
            rw [List.take_of_length_le (by rw [← hys.length]; omega)]
            exact hys
        · rintro h40 tk40 nx40 F40 N40 ⟨DT, vT, cT, oTR40, rfl, dTR40, pT, offT⟩
          clear F34 N34
          repeat' walk1
          rename Fr _ _ _ _ => F41
          rename News _ _ _ _ => N41
          rename_i aT hT l1T
          dsimp only [LCg.Off1] at offT
          refine append_N (v := lA) (As := [(aT, _), (DT, _)]) (Bs := (aS, oS') :: (D, listOf (List.toArray vs) c') :: (lC, listOf (List.toArray cs) ccs) :: (L1 + 1 + 1 + 1 + 1, oTR40) :: (L1 + 1 + 1 + 1, oCA2) :: (L1 + 1 + 1, oSE2) :: (L1 + 1, oPR) :: (led ++ [(I, oI)])) F41 N41 ?_ (by rw [sizeLine_eq]; omega) ?_
          · (repeat' (first | refine Mine.all_cons ?_ ?_ | exact Mine.all_nil | refine Mine.all_app ?_ ?_))
            all_goals try intro q h
            · exact Nat.ne_of_gt l1T.2.1
            · exact Ne.symm offT.1
            · exact Nat.ne_of_lt lt6.1
            · exact Ne.symm (hD (lA, listOf as ca) (by (first | k_mem | ((repeat refine' List.Mem.tail _ ?_); refine' List.mem_append_right _ ?_; first | k_mem | (refine' List.mem_append_right _ ?_; k_mem)) | simp)))
            · exact Nat.ne_of_lt lt6.2.2.1
            · exact Nat.ne_of_lt lt6.2.2.2.1
            · exact Nat.ne_of_lt lt6.2.2.2.2.1
            · exact Nat.ne_of_lt lt6.2.2.2.2.2.1
            · exact Nat.ne_of_lt lt6.2.2.2.2.2.2.1
            · exact Nat.ne_of_lt (AllLt_mem _ lt6.2.2.2.2.2.2.2 h)
            · exact Ne.symm (hIn (lA, listOf as ca) (by (first | k_mem | ((repeat refine' List.Mem.tail _ ?_); refine' List.mem_append_right _ ?_; first | k_mem | (refine' List.mem_append_right _ ?_; k_mem)) | simp)))
          intro h42 F42 N42
          clear F41 N41
          dsimp only [List.cons_append, List.nil_append] at N42
          repeat' walk1
          refine Mine.held ?_
          refine' LCt.Assign_ListComp_T (F₀ := F42) rfl (by with_unfolding_all rfl) (by with_unfolding_all rfl) (by decide) (by rfl) (by decide) (by rfl) (by rfl) (by rfl) ?_
          walk1
          refine LCt.CompSrcT.ledger (its := List.toArray vs) (k := c') rfl F42 N42 (.tail _ (.tail _ (.tail _ (.tail _ (.head _))))) ?_ (fun g => ?_)
          · have := rv_len S vvs.size n k i
            rw [← pv.length] at this
            show vs.length ≤ _
            rw [sizeLine_eq]; omega
          refine compT_ind (fun i' ys nx => nx = _ ∧ Paired IntOf ys (((gst S vvs.size n k i).rv.take i').filter fun z => decide (z ∉ gtr S (gst S vvs.size n k i).rv c0 (gtake vvs.size k i)))) ?_ ?_ _ 0 [] _ (Nat.zero_add _) ⟨rfl, by simpa using .nil⟩
          · rintro i3 ys nx3 v3 I3 oI3 C3 oC3 D3' m3 h16 tk16 E' hi3 ⟨rfl, hys⟩ hP3 hC3 hx3' F16 N16 off hne3
            obtain ⟨z3, hz3, tz3, rfl⟩ := paired_at pv (by simpa using hP3)
            have off6 := off
            dsimp only [LCg.Off3] at off
            repeat' walk1
            refine notin_listN ⟨_, (N16 (DT, _) (.tail _ (.tail _ (.tail _ (.tail _ (.head _)))))).1, rfl, cT, rfl⟩ pT ?_
            by_cases hin : z3 ∈ gtr S (gst S vvs.size n k i).rv c0 (gtake vvs.size k i)
            · rw [decide_eq_true hin]
              repeat' walk1
              exact LCg.CompEnd.intro (by assumption) (by assumption) _ (fun p hp => hp) off6 (.inr ⟨_, .tail _ (.tail _ (.tail _ (.tail _ (.head _)))), rfl, c', rfl⟩) ⟨rfl, filter_no hys hz3 (decide_eq_false (fun q => q hin))⟩
            · rw [decide_eq_false hin]
              repeat' walk1
              exact LCg.CompEnd.intro (by assumption) (by assumption) _ (fun p hp => hp) off6 (.inr ⟨_, .tail _ (.tail _ (.tail _ (.tail _ (.head _)))), rfl, c', rfl⟩) ⟨rfl, filter_yes hys hz3 (decide_eq_true hin)⟩
          · rintro ys2 nx3 ⟨rfl, hys2⟩
            rw [List.take_of_length_le (by simpa using Nat.le_of_eq pv.length.symm)] at hys2
            intro D5 h5' tk5' F50 N50 o50
            clear F42 N42
            have o50' := o50
            dsimp only [LCg.Off1] at o50
            repeat' walk1
            refine append_N (v := lC) (As := [(D5, _), (aT, _), (DT, _), (lA, _), (aS, oS'), (D, listOf (List.toArray vs) c')]) (Bs := (L1 + 1 + 1 + 1 + 1, oTR40) :: (L1 + 1 + 1 + 1, oCA2) :: (L1 + 1 + 1, oSE2) :: (L1 + 1, oPR) :: (led ++ [(I, oI)])) F50 N50 ?_ ?_ ?_
            · (repeat' (first | refine Mine.all_cons ?_ ?_ | exact Mine.all_nil | refine Mine.all_app ?_ ?_))
              all_goals try intro q h
              · exact Ne.symm o50.2.2.2.2.2.1
              · exact Nat.ne_of_gt l1T.2.2.2.2.1
              · exact Ne.symm offT.2.2.2.1
              · exact Nat.ne_of_gt lt6.2.2.1
              · exact Nat.ne_of_gt (lt5 : _ ∧ _ ∧ _).2.1
              · exact Ne.symm (hD (lC, listOf (List.toArray cs) ccs) (by (first | k_mem | ((repeat refine' List.Mem.tail _ ?_); refine' List.mem_append_right _ ?_; first | k_mem | (refine' List.mem_append_right _ ?_; k_mem)) | simp)))
              · exact Nat.ne_of_lt ltC.1
              · exact Nat.ne_of_lt ltC.2.1
              · exact Nat.ne_of_lt ltC.2.2.1
              · exact Nat.ne_of_lt ltC.2.2.2.1
              · exact Nat.ne_of_lt (AllLt_mem _ ltC.2.2.2.2 h)
              · exact Ne.symm (hIn (lC, listOf (List.toArray cs) ccs) (by (first | k_mem | ((repeat refine' List.Mem.tail _ ?_); refine' List.mem_append_right _ ?_; first | k_mem | (refine' List.mem_append_right _ ?_; k_mem)) | simp)))
            · have := pc.length
              rw [com_length] at this
              show cs.length ≤ _
              rw [sizeLine_eq]; omega
            intro h52 F52 N52
            clear F50 N50
            rw [List.push_toArray cs] at N52
            dsimp only [List.cons_append, List.nil_append] at N52
            repeat' walk1
            refine getMethod_set_remove (N52 (aS, oS') (by (first | k_mem | ((repeat refine' List.Mem.tail _ ?_); refine' List.mem_append_right _ ?_; first | k_mem | (refine' List.mem_append_right _ ?_; k_mem)) | simp))).1 sS ?_
            repeat' walk1
            rename Fr _ _ _ _ => F53
            rename News _ _ _ _ => N53
            refine call_set_remove (N53 (aS, oS') (by (first | k_mem | ((repeat refine' List.Mem.tail _ ?_); refine' List.mem_append_right _ ?_; first | k_mem | (refine' List.mem_append_right _ ?_; k_mem)) | simp))).1 sS hc0.2 ?_
            intro h54 oS54 hs54 ho54 sS54
            have vS := (N53 (aS, oS') (by (first | k_mem | ((repeat refine' List.Mem.tail _ ?_); refine' List.mem_append_right _ ?_; first | k_mem | (refine' List.mem_append_right _ ?_; k_mem)) | simp))).2
            have F54 := F53.change hs54 vS.1 vS.2
            have N54 := news_upd (v := aS) (o := oS') (o' := oS54) (As := [(D5, _), (aT, _), (DT, _), (lA, _)]) (Bs := (D, listOf (List.toArray vs) c') :: (lC, _) :: (L1 + 1 + 1 + 1 + 1, oTR40) :: (L1 + 1 + 1 + 1, oCA2) :: (L1 + 1 + 1, oSE2) :: (L1 + 1, oPR) :: (led ++ [(I, oI)])) N53 (by
              (repeat' (first | refine Mine.all_cons ?_ ?_ | exact Mine.all_nil | refine Mine.all_app ?_ ?_))
              all_goals try intro q h
              · exact Ne.symm o50.2.2.2.1
              · exact Nat.ne_of_gt l1T.2.2.1
              · exact Ne.symm offT.2.1
              · exact Nat.ne_of_gt lt6.1
              · exact Ne.symm (hD (aS, oS') (by (first | k_mem | ((repeat refine' List.Mem.tail _ ?_); refine' List.mem_append_right _ ?_; first | k_mem | (refine' List.mem_append_right _ ?_; k_mem)) | simp)))
              · exact Nat.ne_of_lt (lt5 : _ ∧ _ ∧ _).2.1
              · exact Nat.ne_of_lt (lt5 : _ ∧ _ ∧ _ ∧ _).2.2.1
              · exact Nat.ne_of_lt (lt5 : _ ∧ _ ∧ _ ∧ _ ∧ _).2.2.2.1
              · exact Nat.ne_of_lt (lt5 : _ ∧ _ ∧ _ ∧ _ ∧ _ ∧ _).2.2.2.2.1
              · exact Nat.ne_of_lt (lt5 : _ ∧ _ ∧ _ ∧ _ ∧ _ ∧ _ ∧ _).2.2.2.2.2.1
              · exact Nat.ne_of_lt (AllLt_mem _ (lt5 : _ ∧ _ ∧ _ ∧ _ ∧ _ ∧ _ ∧ AllLt aS led).2.2.2.2.2.2 h)
              · exact Ne.symm (hIn (aS, oS') (by (first | k_mem | ((repeat refine' List.Mem.tail _ ?_); refine' List.mem_append_right _ ?_; first | k_mem | (refine' List.mem_append_right _ ?_; k_mem)) | simp)))) hs54 ho54
            clear F53 N53
            dsimp only [List.cons_append, List.nil_append] at N54
            repeat' walk1
            have hcom : (gst S vvs.size n k (i + 1)).com = (gst S vvs.size n k i).com ++ [c0] := by rw [← hgs]; rfl
            have hrv : (gst S vvs.size n k (i + 1)).rv = (gst S vvs.size n k i).rv.filter fun z => decide (z ∉ gtr S (gst S vvs.size n k i).rv c0 (gtake vvs.size k i)) := by rw [← hgs]; rfl
            have hrc : (gst S vvs.size n k (i + 1)).rc = del c0 (gst S vvs.size n k i).rc := by rw [del_eq, ← hgs]; rfl
            rename Fr _ _ _ _ => F55
            rename News _ _ _ _ => N55
            refine ⟨_, _, _, F55, N55, ?_, ?_, ?_, G13, ?_, AJ.next (D := D5) (vs := ys2) (c := ys2.length) (as := as.push (.ref aT)) (ca := ca + 1) (cc := ccs + 1) (cs := cs ++ [.int (c0 : Int) tS]) rfl ?_ dTR40 e1 dS (by rw [hrv]; exact hys2) (by rw [hcom]; exact paired_append pc (.cons ⟨tS, rfl⟩ .nil)) (by rw [hrc]; exact sS54) ?_ ?_⟩
            · ((repeat' (first | refine Mine.all_cons ?_ ?_ | exact Mine.all_nil | refine Mine.all_app ?_ ?_)); (all_goals (first | (intro p h; ((repeat (first | exact h | exact List.mem_append_left _ h | exact List.mem_append_right _ h | exact List.mem_append_right _ (List.mem_append_left _ h) | refine' List.Mem.tail _ ?_)); done)) | (first | k_mem | ((repeat refine' List.Mem.tail _ ?_); refine' List.mem_append_right _ ?_; first | k_mem | (refine' List.mem_append_right _ ?_; k_mem)) | simp))))
            · simp
            · (repeat' (first | refine Mine.all_cons ?_ ?_ | exact Mine.all_nil | refine Mine.all_app ?_ ?_))
              all_goals try intro p h
              · exact hIn (lA, listOf as ca) (by (first | k_mem | ((repeat refine' List.Mem.tail _ ?_); refine' List.mem_append_right _ ?_; first | k_mem | (refine' List.mem_append_right _ ?_; k_mem)) | simp))
              · exact hIn (aS, oS') (by (first | k_mem | ((repeat refine' List.Mem.tail _ ?_); refine' List.mem_append_right _ ?_; first | k_mem | (refine' List.mem_append_right _ ?_; k_mem)) | simp))
              · exact Ne.symm (off1_mem o50' (I, oI) (by (first | k_mem | ((repeat refine' List.Mem.tail _ ?_); refine' List.mem_append_right _ ?_; first | k_mem | (refine' List.mem_append_right _ ?_; k_mem)) | simp)))
              · exact hIn (lC, listOf (List.toArray cs) ccs) (by (first | k_mem | ((repeat refine' List.Mem.tail _ ?_); refine' List.mem_append_right _ ?_; first | k_mem | (refine' List.mem_append_right _ ?_; k_mem)) | simp))
              · exact hIn (L1 + 1 + 1 + 1 + 1, oTR') (by (first | k_mem | ((repeat refine' List.Mem.tail _ ?_); refine' List.mem_append_right _ ?_; first | k_mem | (refine' List.mem_append_right _ ?_; k_mem)) | simp))
              · exact hIn (L1 + 1 + 1 + 1, oCA') (by (first | k_mem | ((repeat refine' List.Mem.tail _ ?_); refine' List.mem_append_right _ ?_; first | k_mem | (refine' List.mem_append_right _ ?_; k_mem)) | simp))
              · exact hIn (L1 + 1 + 1, oSE') (by (first | k_mem | ((repeat refine' List.Mem.tail _ ?_); refine' List.mem_append_right _ ?_; first | k_mem | (refine' List.mem_append_right _ ?_; k_mem)) | simp))
              · exact hIn (L1 + 1, oPR) (by (first | k_mem | ((repeat refine' List.Mem.tail _ ?_); refine' List.mem_append_right _ ?_; first | k_mem | (refine' List.mem_append_right _ ?_; k_mem)) | simp))
              · exact hIn p (by ((repeat (first | exact h | exact List.mem_append_left _ h | exact List.mem_append_right _ h | exact List.mem_append_right _ (List.mem_append_left _ h) | refine' List.Mem.tail _ ?_)); done))
            · exact eo13.trans eo7
            · intro y n1 n2 n3 n4 n5
              simp only [if_neg n1, if_neg n2, if_neg n3, if_neg n4, if_neg n5]
            · simp only [Array.size_push]; omega
            · (repeat' (first | refine Mine.all_cons ?_ ?_ | exact Mine.all_nil | refine Mine.all_app ?_ ?_))
              all_goals try intro q h
              · exact o50.2.2.1
              · exact o50.2.2.2.1
              · exact o50.2.2.2.2.2.1
              · exact o50.2.2.2.2.2.2.1
              · exact o50.2.2.2.2.2.2.2.1
              · exact o50.2.2.2.2.2.2.2.2.1
              · exact o50.2.2.2.2.2.2.2.2.2.1
              · exact off1_mem o50' q (by ((repeat (first | exact h | exact List.mem_append_left _ h | exact List.mem_append_right _ h | exact List.mem_append_right _ (List.mem_append_left _ h) | refine' List.Mem.tail _ ?_)); done))
  case fin =>
    intro s₃ m3 nx3 F60 N60 G60 eo60 hAJ
    refine AJ.elim hAJ ?_
    clear hAJ
    rintro D vs c' as ca oS' cs ccs oTR' oCA' oSE' vTR vCA vSE u1 u2 u3 u4 rfl rfl d1 d2 d3 pv pc sS hsz hD
    clear F6 N6
    repeat' walk1
    refine Mine.held ?_
    rename Fr _ _ _ _ => F61
    rename News _ _ _ _ => N61
    rename_i lo8 hd8 l8 hA l9 hB lt9
    subst hled
    have hcg := com_good S vvs.size n k k hkn
    have kL : ∀ j : Nat, L1 + j ≠ 25 ∧ L1 + j ≠ 32 ∧ L1 + j ≠ 40 := fun j => off_tabs fun q hq => Nat.ne_of_lt (Nat.lt_of_lt_of_le (l11 q hq) (Nat.le_add_right _ _))
    refine' sorted_comm_list (vs := cs) (ns := (gst S vvs.size n k k).com) ((l9, listOf #[.ref lC] 0) :: (s₃.heap.objs.size, _) :: (lA, listOf as ca) :: (aS, oS') :: (D, listOf (List.toArray vs) c') :: (lC, listOf (List.toArray cs) ccs) :: (L1 + 1 + 1 + 1 + 1, oTR') :: (L1 + 1 + 1 + 1, oCA') :: (L1 + 1 + 1, oSE') :: (L1 + 1, oPR) :: pre) B1 F61 X1 N61 ?hne tr1 tr2 tr3 G60 T1 ?hl ?hc pc hcg.1 ?h5 ?hd ?hu ?hQ
    case hl => exact .head _
    case hc => exact .tail _ (.tail _ (.tail _ (.tail _ (.tail _ (.head _)))))
    case h5 => exact fun x hx => lt5_mem (Nat.lt_of_lt_of_le (hcg.2 x hx) hn5)
    case hd => ((try simp only [depth_under_kw', depth_under_make, depth_under_kw, depth_in1, depth_deeper, depth_caller]); (try dsimp only [ktrTop]); omega)
    case hu => (have hcL9 := cLine_is; (try simp only [units_under_kw', units_under_make, units_in1, units_deeper, Around.mark_units, units_caller]); (try dsimp only [ktrTop]); omega)
    case hne =>
      (repeat' (first | refine Mine.all_cons ?_ ?_ | exact Mine.all_nil | refine Mine.all_app ?_ ?_))
      all_goals try intro q h
      · exact off_tabs fun q hq => Nat.ne_of_lt (AllLt_mem _ lt9.2.2.2.2.2.2.2.2.2 hq)
      · exact off_tabs fun q hq => Nat.ne_of_lt (AllLt_mem _ l8.2.2.2.2.2.2.2.2 hq)
      · exact off_tabs fun q hq => Nat.ne_of_lt (AllLt_mem _ lt6.2.2.2.2.2.2.2 hq)
      · exact off_tabs fun q hq => Nat.ne_of_lt (AllLt_mem _ (lt5 : _ ∧ _ ∧ _ ∧ _ ∧ _ ∧ _ ∧ AllLt aS _).2.2.2.2.2.2 hq)
      · exact off_tabs fun q hq => hD q (.tail _ (.tail _ (.tail _ (.tail _ (.tail _ (.tail _ (.tail _ hq)))))))
      · exact off_tabs fun q hq => Nat.ne_of_lt (AllLt_mem _ ltC.2.2.2.2 hq)
      · exact kL 4
      · exact kL 3
      · exact kL 2
      · exact kL 1
      · exact hne q (List.mem_append_left _ h)
      · exact hne q (List.mem_append_right _ h)
    intro a9 o9 D9 c9 q1 q2 q3 s9 F70 N70 lt70 ltD70 S70 r1 r2 r3 G70 eo70
    clear F61 N61
    dsimp only [List.cons_append] at N70 lt70
    repeat' walk1
    rename Fr h₀ _ _ _ => F80
    rename News h₀ _ _ _ => N80
    rename_i dA2 hA2 fA2 nA2 lA2 tA2 xA2
    refine hQ _ _ s₃.heap.objs.size a9 o9 c9 q1 q2 q3 _ F80 (newsSub N80 ?_) (fun q hq => lt70 q (.tail _ (.tail _ (.tail _ (.tail _ (.tail _ (.tail _ (.tail _ (.tail _ (.tail _ (.tail _ hq))))))))))) ltD70 lA2.1 S70 r1 r2 r3 G70 (eo70.trans eo60)
    intro p hp
    rcases List.mem_cons.mp hp with h | hp
    · rw [h]; exact .head _
    rcases List.mem_cons.mp hp with h | hp
    · rw [h]; exact .tail _ (.head _)
    rcases List.mem_cons.mp hp with h | hp
    · rw [h]; exact .tail _ (.tail _ (.head _))
    exact .tail _ (.tail _ (.tail _ (.tail _ (.tail _ (.tail _ (.tail _ (.tail _ (.tail _ (.tail _ (.tail _ (.tail _ (.tail _ hp))))))))))))
end
theorem rs5 {prog : PySem.Program} {w : PySem.World} {A : PySem.Around} {Q : PySem.Flow → PySem.Shared → Prop} {E : PySem.Value → PySem.Shared → Prop} {s : PySem.Shared} {env : PySem.Env} (h : Q .next s) : PySem.wpAny (PySem.model prog w) A (PySem.execs [] env) Q E s := by
  w_top off
  walk1
  exact h
section
local macro_rules
  | `(tactic| walk_at "leaving ref") => `(tactic| refine' Mine.hold ?_)
  | `(tactic| walk_at "call ref") => `(tactic| first | refine' Mine.hold_336 ?_ | refine' Mine.hold_333 ?_ | refine' Mine.hold_490 ?_ | refine' Mine.hold_420 ?_ | refine' Mine.hold_37 ?_)
section
open PySem PySem.W PySem.Calls PyProof.Rows PySem.Spec
set_option maxRecDepth 100000
set_option maxHeartbeats 8000000
section
variable {prog : Program} {w : World} {A : Around} {E : Value → Shared → Prop} {s : Shared}
theorem notin_tup1 {l : Addr} {y x : Value} {Q : Value → Shared → Prop} {b : Bool} (hl : IsTup s.heap l #[y]) (he : SeqAt.EqAt A.in1 s y x b)
    (h : Q (.bool (!b)) s) : wpAny (model prog w) A (compareOp .NotIn x (.ref l)) Q E s :=
  SeqAt.notIn_tupleAt (fun _ => b) hl (fun z hz => by simp at hz; subst hz; exact he) (by simpa using h)
end
theorem verify_ok {w : World} {p : Program} {loose : List Str} {mean : ExcName → Option Value} {mg mb : Str → Option Value}
  {dp un : Nat} {gd : Option (List Code)} {cn : Str} {nms : List (Str × NameKind)} {ig ic : Bool} {mo} {a : Addr} {ccd : Value} {cl : List (Str × Addr)} {outer : List Env} {A₀ : Around} {base h₀ : Heap} {L : Addr} {m : Str → Option Value} {led : List (Addr × Obj)} {s : Shared}
    {Q E : Value → Shared → Prop} {r dr l' r' g' x d c v n' : Addr} {vvs : Array Value} {cvs : List Value} {kk cc n k : Nat} {t1 t2 t3 t4 t5 t6 u1 u2 u3 t7 t8 t9 tn tk ta : Tok}
  (B : Below A₀ base outer h₀) (F : Fr h₀ L s.heap m) (X : (Mine.hd.heap_39 w.params).In h₀) (N : News h₀ L s.heap led) (T : Top p loose mean mg mb h₀)
  (hr : (r, instObj 336 dr) ∈ led)
  (hdr : (dr, dictOf [⟨PyData.keyHash w.params (Str.ofString "rule_id"), .str (Str.ofString "rule_id") t1, .str (Str.ofString "greedy-monroe") tn⟩, ⟨PyData.keyHash w.params (Str.ofString "shortname"), .str (Str.ofString "shortname") t2, .str (Str.ofString "Greedy Monroe") u1⟩, ⟨PyData.keyHash w.params (Str.ofString "longname"), .str (Str.ofString "longname") t3, .str (Str.ofString "Greedy Monroe") u2⟩, ⟨PyData.keyHash w.params (Str.ofString "algorithms"), .str (Str.ofString "algorithms") t4, .ref g'⟩, ⟨PyData.keyHash w.params (Str.ofString "resolute_values"), .str (Str.ofString "resolute_values") t5, .ref r'⟩, ⟨PyData.keyHash w.params (Str.ofString "available_algorithms"), .str (Str.ofString "available_algorithms") t6, .ref l'⟩] 6) ∈ led)
  (hr' : (r', ({ cls := .type "tuple", data := .seq #[.bool true] } : Obj)) ∈ led) (hg' : (g', ({ cls := .type "tuple", data := .seq #[.str (Str.ofString "standard") u3] } : Obj)) ∈ led)
  (hx : (x, instObj 542 d) ∈ led)
  (hdd : (d, dictOf [⟨PyData.keyHash w.params (Str.ofString "candidates"), .str (Str.ofString "candidates") t7, .ref c⟩, ⟨PyData.keyHash w.params (Str.ofString "cand_names"), .str (Str.ofString "cand_names") t8, .ref n'⟩, ⟨PyData.keyHash w.params (Str.ofString "_voters"), .str (Str.ofString "_voters") t9, .ref v⟩] 3) ∈ led)
  (hc : (c, listOf cvs.toArray cc) ∈ led) (hcv : cvs.length = n) (hv : (v, listOf vvs kk) ∈ led) (hn5 : n ≤ 5) (hk1 : 1 ≤ k) (hkn : k ≤ n) (hv1 : 1 ≤ vvs.size) (hv2 : vvs.size < 1000)
  (hd : dp + 20 < recursionLimit) (hu : un + 200 < cLine)
  (hQ : ∀ h' tk', Fr h₀ L h' m → News h₀ L h' led → Q .none { s with heap := h', toks := tk' }) :
  wpAny (model PySem.Challenge.pw_jg0002_01 w) (ktrTop dp un gd cn ⟨.function, nms, ig, ic, mo⟩ L a ccd cl outer) (call (.ref 333) [.ref r, .ref x, .int (k : Int) tk, .str (Str.ofString "standard") ta, .bool true, .none]) Q E s := by
  refine wpAny_call ?_
  k_dflt k_enter
  rename_i g1 L1 h1 FG1 F1 N1 B1 X1 T1
  repeat' walk1
  rename News _ _ _ _ => N2
  refine len_listN (k := n) ⟨_, (N2 _ hc).1, rfl, cc, rfl⟩ (by simpa using hcv) (by omega) ?_
  repeat' walk1
  rename News _ _ _ _ => N3
  refine len_listN (k := vvs.size) ⟨_, (N3 _ hv).1, rfl, kk, rfl⟩ rfl (by omega) ?_
  repeat' walk1
  · exfalso; omega
  rename News _ _ _ _ => N4
  refine notin_tuple_strs (ys := [Str.ofString "standard"]) (items := #[.str (Str.ofString "standard") u3]) ?ht ?hi ?_
  case ht => exact News.isTup N4 hg'
  case hi => exact .cons _ _ .nil
  repeat' walk1
  rename News _ _ _ _ => N5
  refine notin_tup1 (y := .bool true) (b := true) ?ht ?hi ?_
  case ht => exact News.isTup N5 hr'
  case hi => exact SeqAt.EqAt.same _
  repeat' walk1
  rename (Fr h₀ L _ m) => kF
  rename (News h₀ L _ led) => kN
  exact hQ _ _ kF kN
section
theorem verify_bad {w : World} {p : Program} {loose : List Str} {mean : ExcName → Option Value} {mg mb : Str → Option Value}
  {dp un : Nat} {gd : Option (List Code)} {cn : Str} {nms : List (Str × NameKind)} {ig ic : Bool} {mo} {a : Addr} {ccd : Value} {cl : List (Str × Addr)} {outer : List Env} {A₀ : Around} {base h₀ : Heap} {L : Addr} {m : Str → Option Value} {led : List (Addr × Obj)} {s : Shared}
    {Q E : Value → Shared → Prop} {r dr l' r' g' x d c v n' : Addr} {vvs : Array Value} {cvs : List Value} {kk cc n k : Nat} {t1 t2 t3 t4 t5 t6 u1 u2 u3 t7 t8 t9 tn tk ta : Tok}
  (B : Below A₀ base outer h₀) (F : Fr h₀ L s.heap m) (X : (Mine.hd.heap_39 w.params).In h₀) (N : News h₀ L s.heap led) (T : Top p loose mean mg mb h₀)
  (hr : (r, instObj 336 dr) ∈ led)
  (hdr : (dr, dictOf [⟨PyData.keyHash w.params (Str.ofString "rule_id"), .str (Str.ofString "rule_id") t1, .str (Str.ofString "greedy-monroe") tn⟩, ⟨PyData.keyHash w.params (Str.ofString "shortname"), .str (Str.ofString "shortname") t2, .str (Str.ofString "Greedy Monroe") u1⟩, ⟨PyData.keyHash w.params (Str.ofString "longname"), .str (Str.ofString "longname") t3, .str (Str.ofString "Greedy Monroe") u2⟩, ⟨PyData.keyHash w.params (Str.ofString "algorithms"), .str (Str.ofString "algorithms") t4, .ref g'⟩, ⟨PyData.keyHash w.params (Str.ofString "resolute_values"), .str (Str.ofString "resolute_values") t5, .ref r'⟩, ⟨PyData.keyHash w.params (Str.ofString "available_algorithms"), .str (Str.ofString "available_algorithms") t6, .ref l'⟩] 6) ∈ led)
  (hr' : (r', ({ cls := .type "tuple", data := .seq #[.bool true] } : Obj)) ∈ led) (hg' : (g', ({ cls := .type "tuple", data := .seq #[.str (Str.ofString "standard") u3] } : Obj)) ∈ led)
  (hx : (x, instObj 542 d) ∈ led)
  (hdd : (d, dictOf [⟨PyData.keyHash w.params (Str.ofString "candidates"), .str (Str.ofString "candidates") t7, .ref c⟩, ⟨PyData.keyHash w.params (Str.ofString "cand_names"), .str (Str.ofString "cand_names") t8, .ref n'⟩, ⟨PyData.keyHash w.params (Str.ofString "_voters"), .str (Str.ofString "_voters") t9, .ref v⟩] 3) ∈ led)
  (hc : (c, listOf cvs.toArray cc) ∈ led) (hcv : cvs.length = n) (hv : (v, listOf vvs kk) ∈ led) (hn5 : n ≤ 5) (hk1 : 1 ≤ k) (hkn : k ≤ n) (hv1 : 1 ≤ vvs.size) (hv2 : vvs.size < 1000)
  (hd : dp + 20 < recursionLimit) (hu : un + 200 < cLine)
  (hE : ∀ e g₁ h' tk', Fr h₀ L g₁ m → RaisedSN base g₁ (envX cn ⟨.function, nms, ig, ic, mo⟩ L a ccd cl :: outer) e (.type "NotImplementedError") led h' → g₁.UpToSlots h' → E (.ref e) { s with heap := h', toks := tk' }) :
  wpAny (model PySem.Challenge.pw_jg0002_01 w) (ktrTop dp un gd cn ⟨.function, nms, ig, ic, mo⟩ L a ccd cl outer) (call (.ref 333) [.ref r, .ref x, .int (k : Int) tk, .str (Str.ofString "standard") ta, .bool false, .none]) Q E s := by
  refine wpAny_call ?_
  k_dflt k_enter
  rename_i g1 L1 h1 FG1 F1 N1 B1 X1 T1
  repeat' walk1
  rename News _ _ _ _ => N2
  refine len_listN (k := n) ⟨_, (N2 _ hc).1, rfl, cc, rfl⟩ (by simpa using hcv) (by omega) ?_
  repeat' walk1
  rename News _ _ _ _ => N3
  refine len_listN (k := vvs.size) ⟨_, (N3 _ hv).1, rfl, kk, rfl⟩ rfl (by omega) ?_
  repeat' walk1
  · exfalso; omega
  rename News _ _ _ _ => N4
  refine notin_tuple_strs (ys := [Str.ofString "standard"]) (items := #[.str (Str.ofString "standard") u3]) ?ht ?hi ?_
  case ht => exact News.isTup N4 hg'
  case hi => exact .cons _ _ .nil
  repeat' walk1
  rename News _ _ _ _ => N5
  refine notin_tup1 (y := .bool true) (b := false) ?ht ?hi ?_
  case ht => exact News.isTup N5 hr'
  case hi => exact SeqAt.EqAt.bool_bool true false
  repeat' walk1
  refine Mine.held ?_
  rename Heap.NewExc _ _ _ _ => hx
  rename (Fr g1 L1 _ _) => kF
  rename (News g1 L1 _ led) => kN
  refine leave_newS B1 hx kF kN (fun h' R _ U => ?_)
  exact hE _ _ _ _ FG1 R U
end
end
section
open PySem PySem.W PySem.Calls PyProof.Rows PySem.Spec
set_option maxRecDepth 100000
set_option maxHeartbeats 8000000
theorem rsn_sub {base G : Heap} {l : List Env} {e : Addr} {cls : Value} {news news' : List (Addr × Obj)} {h : Heap} (R : RaisedSN base G l e cls news h) (hs : ∀ q ∈ news', q ∈ news) : RaisedSN base G l e cls news' h := by
  obtain ⟨B, a0, hB, hBG, hl, hfl⟩ := R
  exact ⟨B, a0, hB, hBG, fun q hq => hl q (hs q hq), hfl⟩
theorem gm_weights {w : World} {p : Program} {loose : List Str} {mean : ExcName → Option Value} {mg mb : Str → Option Value} {g₀ : Array GenState}
  {dp un : Nat} {gd : Option (List Code)} {cn : Str} {nms : List (Str × NameKind)} {ig ic : Bool} {mo} {a : Addr} {ccd : Value} {cl : List (Str × Addr)} {outer : List Env} {A₀ : Around} {base h₀ : Heap} {L : Addr} {m : Str → Option Value} (pre : List (Addr × Obj)) {post : List (Addr × Obj)} {s : Shared} {ps : Array Value}
    {Q E : Value → Shared → Prop} {x d c v n' : Addr} {vvs : Array Value} {kk cc n k : Nat} {cvs : List Value} {t1 t2 t3 tk : Tok} (wt : Nat → Int)
  (B : Below A₀ base outer h₀) (F : Fr h₀ L s.heap m) (X : (Mine.hd.heap_39 w.params).In h₀) (N : News h₀ L s.heap (pre ++ (485, tabObj ps) :: post)) (hne : ∀ q ∈ pre ++ post, q.1 ≠ 485) (htr : TriplesOk ps.toList) (G : GOk g₀ s.gens) (T : Top p loose mean mg mb h₀)
  (hx : (x, instObj 542 d) ∈ pre ++ (485, tabObj ps) :: post)
  (hdd : (d, dictOf [⟨PyData.keyHash w.params (Str.ofString "candidates"), .str (Str.ofString "candidates") t1, .ref c⟩, ⟨PyData.keyHash w.params (Str.ofString "cand_names"), .str (Str.ofString "cand_names") t2, .ref n'⟩, ⟨PyData.keyHash w.params (Str.ofString "_voters"), .str (Str.ofString "_voters") t3, .ref v⟩] 3) ∈ pre ++ (485, tabObj ps) :: post)
  (hc : (c, listOf cvs.toArray cc) ∈ pre ++ (485, tabObj ps) :: post) (hcv : cvs.length = n)
  (hv : (v, listOf vvs kk) ∈ pre ++ (485, tabObj ps) :: post) (hn5 : n ≤ 5) (hk1 : 1 ≤ k) (hkn : k ≤ n) (hv1 : 1 ≤ vvs.size) (hv2 : vvs.size < 1000)
  (hvv : ∀ i, i < vvs.size → ∃ xi di ai u1 u2 u3, vvs[i]? = some (.ref xi) ∧ (xi, instObj 579 di) ∈ pre ++ post ∧ (di, dictOf [⟨PyData.keyHash w.params (Str.ofString "approved"), .str (Str.ofString "approved") u1, .ref ai⟩, ⟨PyData.keyHash w.params (Str.ofString "weight"), .str (Str.ofString "weight") u2, .int (wt i) u3⟩] 2) ∈ pre ++ post)
  (hw : ((List.range vvs.size).all fun i => wt i == 1) = false)
  (hd : dp + 40 < recursionLimit) (hu : un + 400 < cLine)
  (hE : ∀ e g₁ ps' s', Fr h₀ L g₁ m → RaisedSN base g₁ (envX cn ⟨.function, nms, ig, ic, mo⟩ L a ccd cl :: outer) e (.type "ValueError") (pre ++ (485, tabObj ps') :: post) s'.heap → g₁.UpToSlots s'.heap → TriplesOk ps'.toList → GOk g₀ s'.gens → s'.os = s.os → E (.ref e) s') :
  wpAny (model PySem.Challenge.pw_jg0002_01 w) (ktrTop dp un gd cn ⟨.function, nms, ig, ic, mo⟩ L a ccd cl outer) (call (.ref 415) [.ref x, .int (k : Int) tk]) Q E s := by
  refine wpAny_call ?_
  k_dflt k_enter
  rename_i g1 L1 h1 FG1 F1 N1 B1 X1 T1
  repeat' walk1
  refine Mine.held ?_
  rename Fr _ _ _ _ => F2
  rename News _ _ _ _ => N2
  refine rule_new B1 F2 X1 N2 G T1 ?_ ?_ ?_
  · ((try simp only [depth_under_kw', depth_under_make, depth_under_kw, depth_in1, depth_deeper, depth_caller]); (try dsimp only [ktrTop]); omega)
  · (have hcL9 := cLine_is; (try simp only [units_under_kw', units_under_make, units_in1, units_deeper, Around.mark_units, units_caller]); (try dsimp only [ktrTop]); omega)
  intro l' r' g' x' d' t1' t2' t3' t4' t5' t6' u1 u2 u3 s3 F3 N3 lt3 lt3x lt3g lt3r lt3l G3 eo3
  clear F2 N2
  repeat' walk1
  refine Mine.held ?_
  rename Fr _ _ _ _ => F4
  rename News _ _ _ _ => N4
  have mm : ∀ {q : Addr × Obj} {l : List (Addr × Obj)} {a b c d e : Addr × Obj}, q ∈ l → q ∈ a :: b :: c :: d :: e :: l := fun h => .tail _ (.tail _ (.tail _ (.tail _ (.tail _ h))))
  refine verify_ok (vvs := vvs) (cvs := cvs) (kk := kk) (cc := cc) (n := n) B1 F4 X1 N4 T1 (.tail _ (.tail _ (.tail _ (.head _)))) (.tail _ (.tail _ (.tail _ (.tail _ (.head _))))) (.tail _ (.head _)) (.tail _ (.tail _ (.head _))) (mm hx) (mm hdd) (mm hc) hcv (mm hv) hn5 hk1 hkn hv1 hv2 ?_ ?_ ?_
  · ((try simp only [depth_under_kw', depth_under_make, depth_under_kw, depth_in1, depth_deeper, depth_caller]); (try dsimp only [ktrTop]); omega)
  · (have hcL9 := cLine_is; (try simp only [units_under_kw', units_under_make, units_in1, units_deeper, Around.mark_units, units_caller]); (try dsimp only [ktrTop]); omega)
  intro h5 tk5 F5 N5
  clear F4 N4
  have hx5 := mem_of_news N5 (mm hx)
  have hdd5 := mem_of_news N5 (mm hdd)
  repeat' walk1
  refine Mine.held ?_
  rename Fr _ _ _ _ => F6
  rename News _ _ _ _ => N6
  refine unit_weights (g₀ := g₀) (vvs := vvs) (kk := kk) ((l', listOf #[.str (Str.ofString "standard") u3] 1) :: (r', _) :: (g', _) :: (x', instObj 336 d') :: (d', _) :: pre) wt B1 F6 X1 N6 ?hne htr ?hG T1 (mm hx) (mm hdd) (mm hv) ?_ ?_ ?_ ?_
  case hG => exact G3
  case hne =>
    have h1 : (485 : Nat) < d' := lt3 (485, tabObj ps) (by (first | k_mem | ((repeat refine' List.Mem.tail _ ?_); refine' List.mem_append_right _ ?_; first | k_mem | (refine' List.mem_append_right _ ?_; k_mem)) | simp))
    exact ne_cons (Nat.lt_trans h1 (Nat.lt_trans lt3x (Nat.lt_trans lt3g (Nat.lt_trans lt3r lt3l)))) (ne_cons (Nat.lt_trans h1 (Nat.lt_trans lt3x (Nat.lt_trans lt3g lt3r))) (ne_cons (Nat.lt_trans h1 (Nat.lt_trans lt3x lt3g)) (ne_cons (Nat.lt_trans h1 lt3x) (ne_cons h1 hne))))
  · intro i hi
    obtain ⟨xi, di, ai, w1, w2, w3, e1, m1, m2⟩ := hvv i hi
    exact ⟨xi, di, ai, w1, w2, w3, e1, mm m1, mm m2⟩
  · ((try simp only [depth_under_kw', depth_under_make, depth_under_kw, depth_in1, depth_deeper, depth_caller]); (try dsimp only [ktrTop]); omega)
  · (have hcL9 := cLine_is; (try simp only [units_under_kw', units_under_make, units_in1, units_deeper, Around.mark_units, units_caller]); (try dsimp only [ktrTop]); omega)
  rw [hw]
  intro ps7 s7 F7 N7 tr7 G7 eo7
  clear F6 N6
  repeat' walk1
  refine Mine.held ?_
  rename Heap.NewExc _ _ _ _ => hx9
  rename (Fr g1 L1 _ _) => kF
  rename (News g1 L1 _ _) => kN
  refine leave_newS B1 hx9 kF kN (fun h' R _ U => ?_)
  exact hE _ _ ps7 _ FG1 (rsn_sub R fun q hq => mm hq) U tr7 G7 (eo7.trans eo3)
end
section
open PySem PySem.W PySem.Calls PyProof.Rows PySem.Spec
set_option maxRecDepth 100000
set_option maxHeartbeats 8000000
theorem gm_resolute {w : World} {p : Program} {loose : List Str} {mean : ExcName → Option Value} {mg mb : Str → Option Value} {g₀ : Array GenState}
  {dp un : Nat} {gd : Option (List Code)} {cn : Str} {nms : List (Str × NameKind)} {ig ic : Bool} {mo} {a : Addr} {ccd : Value} {cl : List (Str × Addr)} {outer : List Env} {A₀ : Around} {base h₀ : Heap} {L : Addr} {m : Str → Option Value} {led : List (Addr × Obj)} {s : Shared}
    {Q E : Value → Shared → Prop} {x d c v n' : Addr} {vvs : Array Value} {kk cc n k : Nat} {cvs : List Value} {t1 t2 t3 tk : Tok}
  (B : Below A₀ base outer h₀) (F : Fr h₀ L s.heap m) (X : (Mine.hd.heap_39 w.params).In h₀) (N : News h₀ L s.heap (led)) (G : GOk g₀ s.gens) (T : Top p loose mean mg mb h₀)
  (hx : (x, instObj 542 d) ∈ led)
  (hdd : (d, dictOf [⟨PyData.keyHash w.params (Str.ofString "candidates"), .str (Str.ofString "candidates") t1, .ref c⟩, ⟨PyData.keyHash w.params (Str.ofString "cand_names"), .str (Str.ofString "cand_names") t2, .ref n'⟩, ⟨PyData.keyHash w.params (Str.ofString "_voters"), .str (Str.ofString "_voters") t3, .ref v⟩] 3) ∈ led)
  (hc : (c, listOf cvs.toArray cc) ∈ led) (hcv : cvs.length = n)
  (hv : (v, listOf vvs kk) ∈ led) (hn5 : n ≤ 5) (hk1 : 1 ≤ k) (hkn : k ≤ n) (hv1 : 1 ≤ vvs.size) (hv2 : vvs.size < 1000)
  (hd : dp + 40 < recursionLimit) (hu : un + 400 < cLine)
  (hE : ∀ e g₁ s', Fr h₀ L g₁ m → RaisedSN base g₁ (envX cn ⟨.function, nms, ig, ic, mo⟩ L a ccd cl :: outer) e (.type "NotImplementedError") led s'.heap → g₁.UpToSlots s'.heap → GOk g₀ s'.gens → s'.os = s.os → E (.ref e) s') :
  wpAny (model PySem.Challenge.pw_jg0002_01 w) (ktrTop dp un gd cn ⟨.function, nms, ig, ic, mo⟩ L a ccd cl outer) (call (.ref 415) [.ref x, .int (k : Int) tk] [(Str.ofString "resolute", .bool false)]) Q E s := by
  refine wpAny_call ?_
  k_dflt k_enter
  rename_i g1 L1 h1 FG1 F1 N1 B1 X1 T1
  repeat' walk1
  refine Mine.held ?_
  rename Fr _ _ _ _ => F2
  rename News _ _ _ _ => N2
  refine rule_new B1 F2 X1 N2 G T1 ?_ ?_ ?_
  · ((try simp only [depth_under_kw', depth_under_make, depth_under_kw, depth_in1, depth_deeper, depth_caller]); (try dsimp only [ktrTop]); omega)
  · (have hcL9 := cLine_is; (try simp only [units_under_kw', units_under_make, units_in1, units_deeper, Around.mark_units, units_caller]); (try dsimp only [ktrTop]); omega)
  intro l' r' g' x' d' t1' t2' t3' t4' t5' t6' u1 u2 u3 s3 F3 N3 lt3 lt3x lt3g lt3r lt3l G3 eo3
  clear F2 N2
  repeat' walk1
  refine Mine.held ?_
  rename Fr _ _ _ _ => F4
  rename News _ _ _ _ => N4
  have mm : ∀ {q : Addr × Obj} {l : List (Addr × Obj)} {a b c d e : Addr × Obj}, q ∈ l → q ∈ a :: b :: c :: d :: e :: l := fun h => .tail _ (.tail _ (.tail _ (.tail _ (.tail _ h))))
  refine verify_bad (vvs := vvs) (cvs := cvs) (kk := kk) (cc := cc) (n := n) B1 F4 X1 N4 T1 (.tail _ (.tail _ (.tail _ (.head _)))) (.tail _ (.tail _ (.tail _ (.tail _ (.head _))))) (.tail _ (.head _)) (.tail _ (.tail _ (.head _))) (mm hx) (mm hdd) (mm hc) hcv (mm hv) hn5 hk1 hkn hv1 hv2 ?_ ?_ ?_
  · ((try simp only [depth_under_kw', depth_under_make, depth_under_kw, depth_in1, depth_deeper, depth_caller]); (try dsimp only [ktrTop]); omega)
  · (have hcL9 := cLine_is; (try simp only [units_under_kw', units_under_make, units_in1, units_deeper, Around.mark_units, units_caller]); (try dsimp only [ktrTop]); omega)
  intro e6 g6 h6 tk6 F6 R6 U6
  refine leave_onSN B1 F6 R6 U6 (fun h' R _ U => ?_)
  exact hE _ _ _ FG1 (rsn_sub R fun q hq => mm hq) U G3 eo3
end
section
open PySem PySem.W PySem.Calls PyProof.Rows PySem.Spec
set_option maxRecDepth 100000
set_option maxHeartbeats 8000000
theorem gm_ok {w : World} {p : Program} {loose : List Str} {mean : ExcName → Option Value} {mg mb : Str → Option Value} {g₀ : Array GenState}
  {dp un : Nat} {gd : Option (List Code)} {cn : Str} {nms : List (Str × NameKind)} {ig ic : Bool} {mo} {a : Addr} {ccd : Value} {cl : List (Str × Addr)} {outer : List Env} {A₀ : Around} {base h₀ : Heap} {L : Addr} {m : Str → Option Value} (pre : List (Addr × Obj)) {s : Shared} {p1 p2 p3 p4 : Array Value}
    {Q E : Value → Shared → Prop} {x d c v n' : Addr} {vvs : Array Value} {kk cc n k : Nat} {cvs : List Value} {t1 t2 t3 tk : Tok} (S : Nat → List Nat)
  (B : Below A₀ base outer h₀) (F : Fr h₀ L s.heap m) (X : (Mine.hd.heap_39 w.params).In h₀) (N : News h₀ L s.heap (pre ++ [(25, tabObj p1), (32, tabObj p2), (40, tabObj p3), (485, tabObj p4)])) (hne : ∀ q ∈ pre, q.1 ≠ 25 ∧ q.1 ≠ 32 ∧ q.1 ≠ 40 ∧ q.1 ≠ 485)
  (tr1 : TriplesOk p1.toList) (tr2 : TriplesOk p2.toList) (tr3 : TriplesOk p3.toList) (tr4 : TriplesOk p4.toList) (G : GOk g₀ s.gens) (T : Top p loose mean mg mb h₀)
  (hx : (x, instObj 542 d) ∈ pre)
  (hdd : (d, dictOf [⟨PyData.keyHash w.params (Str.ofString "candidates"), .str (Str.ofString "candidates") t1, .ref c⟩, ⟨PyData.keyHash w.params (Str.ofString "cand_names"), .str (Str.ofString "cand_names") t2, .ref n'⟩, ⟨PyData.keyHash w.params (Str.ofString "_voters"), .str (Str.ofString "_voters") t3, .ref v⟩] 3) ∈ pre)
  (hc : (c, listOf cvs.toArray cc) ∈ pre) (hci : Paired IntOf cvs (List.range n))
  (hv : (v, listOf vvs kk) ∈ pre) (hn5 : n ≤ 5) (hk1 : 1 ≤ k) (hkn : k ≤ n) (hv1 : 1 ≤ vvs.size) (hv2 : vvs.size < 1000)
  (hvv : ∀ i, i < vvs.size → ∃ xi di ai oi u1 u2 u3 u4, vvs[i]? = some (.ref xi) ∧ (xi, instObj 579 di) ∈ pre ∧ (di, dictOf [⟨PyData.keyHash w.params (Str.ofString "approved"), .str (Str.ofString "approved") u1, .ref ai⟩, ⟨PyData.keyHash w.params (Str.ofString "weight"), .str (Str.ofString "weight") u2, .int 1 u3⟩] 2) ∈ pre ∧ (ai, oi) ∈ pre ∧ SetN w oi (S i) ∧ u4 = 0)
  (hd : dp + 150 < recursionLimit) (hu : un + 2000 < cLine)
  (hQ : ∀ D' a' o' c' q1 q2 q3 q4 s', Fr h₀ L s'.heap m → News h₀ L s'.heap ((D', listOf #[.ref a'] c') :: (a', o') :: (pre ++ [(25, tabObj q1), (32, tabObj q2), (40, tabObj q3), (485, tabObj q4)])) →
    (∀ q ∈ pre, q.1 < a') → 485 < a' → @LT.lt Nat _ a' D' → SetN w o' (setOf (gst S vvs.size n k k).com) → GOk g₀ s'.gens → s'.os = s.os → Q (.ref D') s') :
  wpAny (model PySem.Challenge.pw_jg0002_01 w) (ktrTop dp un gd cn ⟨.function, nms, ig, ic, mo⟩ L a ccd cl outer) (call (.ref 415) [.ref x, .int (k : Int) tk]) Q E s := by
  have mp : ∀ {q : Addr × Obj}, q ∈ pre → q ∈ pre ++ [(25, tabObj p1), (32, tabObj p2), (40, tabObj p3), (485, tabObj p4)] := fun h => List.mem_append_left _ h
  have mp' : ∀ {q : Addr × Obj} {l : List (Addr × Obj)}, q ∈ pre → q ∈ pre ++ l := fun h => List.mem_append_left _ h
  refine wpAny_call ?_
  k_dflt k_enter
  rename_i g1 L1 h1 FG1 F1 N1 B1 X1 T1
  repeat' walk1
  refine Mine.held ?_
  rename Fr _ _ _ _ => F2
  rename News _ _ _ _ => N2
  refine rule_new B1 F2 X1 N2 G T1 ?_ ?_ ?_
  · ((try simp only [depth_under_kw', depth_under_make, depth_under_kw, depth_in1, depth_deeper, depth_caller]); (try dsimp only [ktrTop]); omega)
  · (have hcL9 := cLine_is; (try simp only [units_under_kw', units_under_make, units_in1, units_deeper, Around.mark_units, units_caller]); (try dsimp only [ktrTop]); omega)
  intro l' r' g' x' d' t1' t2' t3' t4' t5' t6' u1 u2 u3 s3 F3 N3 lt3 lt3x lt3g lt3r lt3l G3 eo3
  clear F2 N2
  repeat' walk1
  refine Mine.held ?_
  rename Fr _ _ _ _ => F4
  rename News _ _ _ _ => N4
  have mm : ∀ {q : Addr × Obj} {l : List (Addr × Obj)} {a b c d e : Addr × Obj}, q ∈ l → q ∈ a :: b :: c :: d :: e :: l := fun h => .tail _ (.tail _ (.tail _ (.tail _ (.tail _ h))))
  refine verify_ok (vvs := vvs) (cvs := cvs) (kk := kk) (cc := cc) (n := n) B1 F4 X1 N4 T1 (.tail _ (.tail _ (.tail _ (.head _)))) (.tail _ (.tail _ (.tail _ (.tail _ (.head _))))) (.tail _ (.head _)) (.tail _ (.tail _ (.head _))) (mm (mp hx)) (mm (mp hdd)) (mm (mp hc)) (by simpa using hci.length) (mm (mp hv)) hn5 hk1 hkn hv1 hv2 ?_ ?_ ?_
  · ((try simp only [depth_under_kw', depth_under_make, depth_under_kw, depth_in1, depth_deeper, depth_caller]); (try dsimp only [ktrTop]); omega)
  · (have hcL9 := cLine_is; (try simp only [units_under_kw', units_under_make, units_in1, units_deeper, Around.mark_units, units_caller]); (try dsimp only [ktrTop]); omega)
  intro h5 tk5 F5 N5
  clear F4 N4
  have hx5 := mem_of_news N5 (mm (mp hx))
  have hdd5 := mem_of_news N5 (mm (mp hdd))
  repeat' walk1
  refine Mine.held ?_
  rename Fr _ _ _ _ => F6
  rename News _ _ _ _ => N6
  refine unit_weights (g₀ := g₀) (vvs := vvs) (kk := kk) ((l', listOf #[.str (Str.ofString "standard") u3] 1) :: (r', _) :: (g', _) :: (x', instObj 336 d') :: (d', _) :: pre ++ [(25, tabObj p1), (32, tabObj p2), (40, tabObj p3)]) (post := []) (fun _ => 1) B1 F6 X1 (by simpa using N6) ?hne tr4 ?hG T1 (List.mem_append_left _ (List.mem_append_left _ (mm hx))) (List.mem_append_left _ (List.mem_append_left _ (mm hdd))) (List.mem_append_left _ (List.mem_append_left _ (mm hv))) ?_ ?_ ?_ ?_
  case hG => exact G3
  case hne =>
    have h1 : (485 : Nat) < d' := lt3 (485, tabObj p4) (by (first | k_mem | ((repeat refine' List.Mem.tail _ ?_); refine' List.mem_append_right _ ?_; first | k_mem | (refine' List.mem_append_right _ ?_; k_mem)) | simp))
    refine all_app ?_ all_nil
    refine ne_cons (Nat.lt_trans h1 (Nat.lt_trans lt3x (Nat.lt_trans lt3g (Nat.lt_trans lt3r lt3l)))) (ne_cons (Nat.lt_trans h1 (Nat.lt_trans lt3x (Nat.lt_trans lt3g lt3r))) (ne_cons (Nat.lt_trans h1 (Nat.lt_trans lt3x lt3g)) (ne_cons (Nat.lt_trans h1 lt3x) (ne_cons h1 ?_))))
    exact all_app (fun q h => (hne q h).2.2.2) (all_cons (by show (25 : Nat) ≠ 485; decide) (all_cons (by show (32 : Nat) ≠ 485; decide) (all_cons (by show (40 : Nat) ≠ 485; decide) all_nil)))
  · intro i hi
    refine ex8 (hvv i hi) ?_
    intro xi di ai oi w1 w2 w3 w4 hz
    exact ⟨xi, di, ai, w1, w2, w3, hz.1, List.mem_append_left _ (List.mem_append_left _ (mm hz.2.1)), List.mem_append_left _ (List.mem_append_left _ (mm hz.2.2.1))⟩
  · ((try simp only [depth_under_kw', depth_under_make, depth_under_kw, depth_in1, depth_deeper, depth_caller]); (try dsimp only [ktrTop]); omega)
  · (have hcL9 := cLine_is; (try simp only [units_under_kw', units_under_make, units_in1, units_deeper, Around.mark_units, units_caller]); (try dsimp only [ktrTop]); omega)
  rw [show ((List.range vvs.size).all fun i => ((fun _ => 1 : Nat → Int) i) == 1) = true from by simp]
  intro ps7 s7 F7 N7 tr7 G7 eo7
  clear F6 N6
  simp only [List.cons_append, List.append_assoc, List.nil_append] at N7
  have hx7 := mem_of_news N7 (mm (List.mem_append_left _ hx))
  repeat' walk1
  refine Mine.held ?_
  rename Fr _ _ _ _ => F8
  rename News _ _ _ _ => N8
  have hd3 : (485 : Nat) < d' := lt3 (485, tabObj p4) (by (first | k_mem | ((repeat refine' List.Mem.tail _ ?_); refine' List.mem_append_right _ ?_; first | k_mem | (refine' List.mem_append_right _ ?_; k_mem)) | simp))
  have hmd : ∀ q ∈ pre, @LT.lt Nat _ q.1 d' := fun q hq => lt3 q (List.mem_append_left _ hq)
  have k3 : ∀ b : Addr, (485 : Nat) < b → b ≠ 25 ∧ b ≠ 32 ∧ b ≠ 40 := fun b hb => ⟨Nat.ne_of_gt (Nat.lt_trans (by decide) hb), Nat.ne_of_gt (Nat.lt_trans (by decide) hb), Nat.ne_of_gt (Nat.lt_trans (by decide) hb)⟩
  have hx3 : (485 : Nat) < x' := Nat.lt_trans hd3 lt3x
  have hg3 : (485 : Nat) < g' := Nat.lt_trans hx3 lt3g
  have hr3 : (485 : Nat) < r' := Nat.lt_trans hg3 lt3r
  have hl3 : (485 : Nat) < l' := Nat.lt_trans hr3 lt3l
  have hne8 : ∀ o5 : Obj, ∀ q ∈ ((l', listOf #[.str (Str.ofString "standard") u3] 1) :: (r', ({ cls := .type "tuple", data := .seq #[.bool true] } : Obj)) :: (g', ({ cls := .type "tuple", data := .seq #[.str (Str.ofString "standard") u3] } : Obj)) :: (x', instObj 336 d') :: (d', o5) :: pre) ++ [(485, tabObj ps7)], q.1 ≠ 25 ∧ q.1 ≠ 32 ∧ q.1 ≠ 40 := by
    intro o5
    refine all_app (all_cons (k3 _ hl3) (all_cons (k3 _ hr3) (all_cons (k3 _ hg3) (all_cons (k3 _ hx3) (all_cons (k3 _ hd3) (fun q h => ⟨(hne q h).1, (hne q h).2.1, (hne q h).2.2.1⟩)))))) (all_cons ?_ all_nil)
    show (485 : Nat) ≠ 25 ∧ (485 : Nat) ≠ 32 ∧ (485 : Nat) ≠ 40
    decide
  refine alg (g₀ := g₀) (vvs := vvs) (kk := kk) (cc := cc) (n := n) (k := k) (cvs := cvs) (pre := (l', _) :: (r', _) :: (g', _) :: (x', instObj 336 d') :: (d', _) :: pre) (post := [(485, tabObj ps7)]) S B1 F8 X1 N8 G7 T1 (mm (mp' hx)) (mm (mp' hdd)) (mm (mp' hc)) hci (mm (mp' hv)) hn5 hk1 hkn hv1 hv2 ?_ rfl (hne8 _) tr1 tr2 tr3 ?_ ?_ ?_
  · intro i hi
    refine ex8 (hvv i hi) ?_
    intro xi di ai oi w1 w2 w3 w4 hz
    exact ⟨xi, di, ai, oi, w1, w2, w3, 1, hz.1, mm (mp' hz.2.1), mm (mp' hz.2.2.1), mm (mp' hz.2.2.2.1), hz.2.2.2.2.1⟩
  · ((try simp only [depth_under_kw', depth_under_make, depth_under_kw, depth_in1, depth_deeper, depth_caller]); (try dsimp only [ktrTop]); omega)
  · (have hcL9 := cLine_is; (try simp only [units_under_kw', units_under_make, units_in1, units_deeper, Around.mark_units, units_caller]); (try dsimp only [ktrTop]); omega)
  intro T9 D9 dd9 a9 o9 c9 q1 q2 q3 s9 F9 N9 lt9 ltD9 ltT9 S9 r1 r2 r3 G9 eo9
  clear F8 N8
  dsimp only [List.cons_append] at N9 lt9
  repeat' walk1
  refine Mine.held ?_
  rename Fr _ _ _ _ => F10
  rename News _ _ _ _ => N10
  have ha9 : (485 : Nat) < a9 := lt9 (485, tabObj ps7) (by (first | k_mem | ((repeat refine' List.Mem.tail _ ?_); refine' List.mem_append_right _ ?_; first | k_mem | (refine' List.mem_append_right _ ?_; k_mem)) | simp))
  refine sorted_comm_set (g₀ := g₀) (ol := o9) (ns := setOf (gst S vvs.size n k k).com) ((T9, _) :: (D9, listOf #[.ref a9] c9) :: (a9, o9) :: (l', _) :: (r', _) :: (g', _) :: (x', instObj 336 d') :: (d', _) :: pre) (post := [(485, tabObj ps7)]) B1 F10 X1 N10 ?_ r1 r2 r3 G9 T1 (.tail _ (.head _)) (.tail _ (.tail _ (.head _))) S9 ?_ ?_ ?_
  · exact all_cons (k3 _ (Nat.lt_trans ha9 (Nat.lt_trans ltD9 ltT9))) (all_cons (k3 _ (Nat.lt_trans ha9 ltD9)) (all_cons (k3 _ ha9) (hne8 _)))
  · ((try simp only [depth_under_kw', depth_under_make, depth_under_kw, depth_in1, depth_deeper, depth_caller]); (try dsimp only [ktrTop]); omega)
  · (have hcL9 := cLine_is; (try simp only [units_under_kw', units_under_make, units_in1, units_deeper, Around.mark_units, units_caller]); (try dsimp only [ktrTop]); omega)
  intro a11 o11 D11 c11 z1 z2 z3 s11 F11 N11 lt11 ltD11 S11 y1 y2 y3 G11 eo11
  clear F10 N10
  dsimp only [List.cons_append] at N11 lt11
  repeat' walk1
  rename Fr h₀ _ _ _ => F12
  rename News h₀ _ _ _ => N12
  refine hQ D11 a11 o11 c11 z1 z2 z3 ps7 s11 F12 (newsSub N12 ?_) (fun q hq => lt11 q ?_) (lt11 (485, tabObj ps7) (by (first | k_mem | ((repeat refine' List.Mem.tail _ ?_); refine' List.mem_append_right _ ?_; first | k_mem | (refine' List.mem_append_right _ ?_; k_mem)) | simp))) ltD11 S11 G11 (eo11.trans (eo9.trans (eo7.trans eo3)))
  · exact all_cons (.head _) (all_cons (.tail _ (.head _)) (fun q hq => .tail _ (.tail _ (.tail _ (.tail _ (.tail _ (mm hq)))))))
  · exact .tail _ (.tail _ (.tail _ (mm (List.mem_append_left _ hq))))
end
end
section
open PySem PySem.W PySem.Calls PyProof.Rows PySem.Spec
set_option maxRecDepth 100000
theorem law_post {M : Model} {A : Around} {cd : Code} {s s₁ : Shared} {cw : ClaimW} {cl : Str → Option Addr} {mean : ExcName → Option Value} {args : List WData} {tabs : List (Addr × Addr)} (hT : TabsAt tabs s₁.heap) (hr : ∀ x, cw.raises args x = false)
    (hp : cw.post args (.bool true) args = true)
    (h : codeAny M A cd (fun r s' => r = .ok (.ret (.bool true)) ∧ (∀ b o, (ghostOf s₁.heap tabs).get? b = some o → s'.heap.get? b = some o) ∧ s'.os = s₁.os ∧ AllBare s'.gens ∧ GrownAll tabs s'.heap) s) :
    codeAny M A cd (GoodWG cw cl mean args s₁) s := by
  refine codeAny_mono h ?_
  rintro r s' ⟨rfl, hk, hos, hg, hgr⟩
  refine ⟨.inl ⟨_, _, _, rfl, hr, .bool true, hp, fun _ => ⟨List.nodup_nil, fun _ q => nomatch q⟩⟩, ?_, hos, hg⟩
  have side : ∀ b o, s₁.heap.get? b = some o → (s'.heap.get? b = some o) ∨ (isCodeTable s₁.heap b ∧ o = tabObj #[] ∧ ∃ ps, s'.heap.get? b = some (tabObj ps)) := by
    intro b o e
    by_cases hb : b ∈ tabs.map (·.2)
    · obtain ⟨q, hq, rfl⟩ := List.mem_map.mp hb
      obtain ⟨hc, e2⟩ := hT q hq
      exact .inr ⟨(hc.tab e2).isCodeTable, Option.some.inj (e.symm.trans e2), hgr.get q hq⟩
    · exact .inl (hk b o (ghost_ne e hb))
  constructor
  · intro b o e
    rcases side b o e with h | ⟨ht, rfl, ps, hP⟩
    · exact .inl h
    · exact .inr (.inl ⟨ht, rfl, #[], ps, rfl, by rw [Array.empty_append]; exact hP⟩)
  · intro b o e
    rcases side b o e with h | ⟨_, _, ps, hP⟩
    · exact ⟨o, h⟩
    · exact ⟨_, hP⟩
def LawQ (g0 : Heap) (os : OsState) (tabs : List (Addr × Addr)) (f : Flow) (s' : Shared) : Prop :=
  f = .ret (.bool true) ∧ (∀ b o, g0.get? b = some o → s'.heap.get? b = some o) ∧ s'.os = os ∧ AllBare s'.gens ∧ GrownAll tabs s'.heap
end
section
open PySem PySem.W PySem.Calls PyProof.Rows PySem.Spec
section
variable {M : Model} {A : Around} {E : Value → Shared → Prop} {s : Shared} {h₀ : Heap} {L : Addr} {m : Str → Option Value} {news : List (Addr × Obj)}
theorem join_val {t : Sem Value} {Q : Value → Shared → Prop} (v : Tok → Value)
    (h1 : ∀ Q' : Value → Shared → Prop, (∀ tkk tk, Q' (v tkk) { s with toks := tk }) → wpAny M A t Q' E s)
    (h2 : ∀ tkk tk, Q (v tkk) { s with toks := tk }) : wpAny M A t Q E s := h1 Q h2
theorem join_new {t : Sem Value} {Q : Value → Shared → Prop} (R : Value → List (Addr × Obj) → Prop) (_F : Fr h₀ L s.heap m)
    (h1 : ∀ Q' : Value → Shared → Prop, (∀ v h' tk nx, Fr h₀ L h' m → News h₀ L h' nx → R v nx → Q' v { s with heap := h', toks := tk }) → wpAny M A t Q' E s)
    (h2 : ∀ v h' tk nx, Fr h₀ L h' m → News h₀ L h' nx → R v nx → Q v { s with heap := h', toks := tk }) : wpAny M A t Q E s := h1 Q h2
end
section
variable {prog : Program} {w : World} {A : Around} {E : Value → Shared → Prop} {s : Shared} {h₀ : Heap} {L : Addr} {m : Str → Option Value} {env : Env}
open LCg LCt
def SrcCell (prog : Program) (w : World) (A : Around) (h₀ : Heap) (L : Addr) (m : Str → Option Value) (env : Env) (ifs : List Expr) (elt : Expr) (x : Str) (scope : Scope) (cl : List (Str × Addr)) (Q : Value → Shared → Prop) (xv : Value) (s₁ : Shared) : Prop :=
  ∃ (ax : Addr) (its : Array Value) (news : List (Addr × Obj)) (J : Nat → List Value → List (Addr × Obj) → Prop), xv = .ref ax ∧ A.handled = none ∧ Fr h₀ L s₁.heap m ∧ News h₀ L s₁.heap news ∧ SrcAt h₀ ax its news ∧ its.size ≤ sizeLine ∧ J 0 [] news ∧
      (∀ g, CellStep prog w A h₀ L m env ifs elt x scope cl { s₁ with heap := g } (SrcAt h₀ ax its) (fun i v => its[i]? = some v) J its.size) ∧
      ∀ D g tk ys news', Fr h₀ L g m → News h₀ L g ((D, lst ys) :: news') → Off1 D news' → J its.size ys news' → Q (.ref D) { s₁ with heap := g, toks := tk }
theorem ListComp_Ce {elt iter : Expr} {ifs : List Expr} {x : Str} {px : Pos} {scope : Scope} {cl : List (Str × Addr)} {pos : Pos} {Q : Value → Shared → Prop} (_F₀ : Fr h₀ L s.heap m)
    (hclos : closureFor scope env = pure cl) (hcf : ∀ a, cellsFrom a scope.names cl = (x, a) :: cl) (hpc : ∀ h, pushCells h scope.names = h.push { cls := .type "cell", data := .cell none })
    (hkind : scope.kind = .function) (hnames : ∀ y ∈ scope.names, y.2 = .local → scope.names.lookup y.1 = some .local) (hx : ∀ cl' C, (compEnvC scope cl' C env).kindOf x = some .cell)
    (h : wpAny (model prog w) A (eval iter env) (SrcCell prog w A h₀ L m env ifs elt x scope cl Q) E s)
    (hs : ∀ x, foldedSetIterable iter env x = pure x := by intro _; rfl) :
    wpAny (model prog w) A (eval (.ListComp elt [⟨.Name x px, iter, ifs, 0⟩] scope pos) env) Q E s := by
  rw [eval_ListComp]
  refine wpAny_comprehension_free (use := none) rfl hs hclos hkind hnames (wpAny_mono h (fun xv s₁ h₁ => ?_) fun _ _ e => e)
  obtain ⟨ax, its, news, J, rfl, hh, F, N, S, hsz, h0, R, fin⟩ := h₁
  have hl := S.list F.keep N
  have hlt : ax < s₁.heap.objs.size := by obtain ⟨_, e, _⟩ := hl; exact Heap.lt_size e
  refine wpAny_pyIter_list hl ?_
  have up : ∀ b o, s₁.heap.get? b = some o → (s₁.heap.push { cls := .type "list_iterator", data := .fields #[.ref ax, .int 0 0] }).get? b = some o := fun b o e => Heap.get?_push_of_some _ e
  refine block_C J (Walks.list hh s₁.heap.objs.size ax (Nat.ne_of_lt hlt) its) hsz (fun i h st => by obtain ⟨o, e, _⟩ := st.1; exact ⟨o, e⟩) list_st hcf hpc hkind hx ⟨⟨_, Heap.get?_push_size _ rfl, rfl, rfl⟩, hl.push _⟩ (fun b hb => ?_)
    (F.keeps up) (N.grown up) (Nat.ne_of_lt F.ns.lt) (next_is_new F) (fun p hp => Nat.ne_of_lt (Heap.lt_size (N p hp).1)) S h0 (R _) ?_
  · show b < (s₁.heap.push _).objs.size
    rw [Heap.size_push]
    rcases List.mem_cons.mp hb with rfl | hb
    · exact Nat.lt_succ_self _
    · rw [List.mem_singleton.mp hb]; exact Nat.lt_succ_of_lt hlt
  · intro D C h' tk m' ys news' F' N' o1 hn hC₀ hD₀ hCL hDL hCD offC hJ
    refine ⟨m', hn, fun h'' hs'' => fin D h'' tk ys news' (F'.change hs'' hCL hC₀) (fun p hp => ?_) o1 hJ⟩
    refine ⟨hs''.extBut _ _ ?_ (N' p hp).1, (N' p hp).2⟩
    rcases List.mem_cons.mp hp with rfl | hp
    · exact Ne.symm hCD
    · exact offC p hp
end
theorem sub2 {h₀ h : Heap} {L : Addr} {q a : Addr × Obj} {r : List (Addr × Obj)} (N : News h₀ L h (q :: a :: r)) : News h₀ L h (q :: r) := fun p hp => by
  rcases List.mem_cons.mp hp with e | hp
  · rw [e]; exact N q (.head _)
  · exact N p (.tail _ (.tail _ hp))
def numsOf (ns : List Int) : List Int := if ((ns.take 7).drop 1).length = 0 then [1] else (ns.take 7).drop 1
theorem numsOf_len (ns : List Int) : 1 ≤ (numsOf ns).length ∧ (numsOf ns).length ≤ 6 := by
  unfold numsOf
  split
  · exact ⟨Nat.le_refl _, by decide⟩
  · rename_i h
    refine ⟨by omega, ?_⟩
    rw [List.length_drop, List.length_take]; omega
theorem numsOf_pos {ns : List Int} (h : 0 < ((ns.take 7).drop 1).length) : numsOf ns = (ns.take 7).drop 1 := if_neg (by omega)
theorem numsOf_nil {ns : List Int} (h : ¬ 0 < ((ns.take 7).drop 1).length) : numsOf ns = [1] := if_pos (by omega)
theorem ints_at : ∀ {vs : List Value} {ns : List Int}, IntsAre vs ns → ∀ {i : Nat} {v : Value}, vs[i]? = some v → ∃ z t, ns[i]? = some z ∧ v = .int z t
  | _, _, .nil, i, v, h => by simp at h
  | _, _, .cons k t r, 0, v, h => by simp at h; exact ⟨k, t, rfl, h.symm⟩
  | _, _, .cons k t r, i + 1, v, h => ints_at r (by simpa using h)
def Bal (bl : List (Addr × Obj)) (ys : List Value) (bs : List (List Nat)) : Prop := Paired (fun y b => ∃ l vs c, y = Value.ref l ∧ (l, listOf (List.toArray vs) c) ∈ bl ∧ Paired IntOf vs b) ys bs
theorem Bal.mono {bl bl' : List (Addr × Obj)} {ys : List Value} {bs : List (List Nat)} (h : Bal bl ys bs) (hs : ∀ q ∈ bl, q ∈ bl') : Bal bl' ys bs :=
  paired_mono (fun _ _ ⟨l, vs, c, e, hm, hp⟩ => ⟨l, vs, c, e, hs _ hm, hp⟩) h
def headOf (ns : List Int) : Int := (ns.take 7).headD 0
def nOf (h : Int) : Nat := [4, 3, 5, 4].getD (h % 4).toNat 4
def kOf (h : Int) (n : Nat) : Nat := 1 + ((h / 4) % (n : Int)).toNat
theorem nOf_ge (h : Int) : 3 ≤ nOf h ∧ nOf h ≤ 5 := by
  unfold nOf
  have : (h % 4).toNat = 0 ∨ (h % 4).toNat = 1 ∨ (h % 4).toNat = 2 ∨ (h % 4).toNat = 3 := by omega
  rcases this with e | e | e | e <;> rw [e] <;> decide
theorem cell_n {o : Obj} {h i v : Int} {t : Tok} (e : Int.fmod h 4 = i) (d : o.data = .cell (some (.int v t))) (hv : (([4, 3, 5, 4].getD i.toNat 4 : Nat) : Int) = v) : ∃ tN, o.data = .cell (some (.int (nOf h : Int) tN)) := by
  have e2 : h % 4 = i := by rw [← e, Int.fmod_eq_emod_of_nonneg _ (by decide)]
  refine ⟨t, ?_⟩
  unfold nOf
  rw [e2, hv]; exact d
theorem kOf_fmod (h : Int) (n : Nat) (hn : 1 ≤ n) : 1 + Int.fmod (Int.fdiv h 4) (n : Int) = (kOf h n : Int) := by
  rw [Int.fmod_eq_emod_of_nonneg _ (by omega), Int.fdiv_eq_ediv_of_nonneg _ (by decide)]
  unfold kOf
  have h1 := Int.emod_nonneg (h / 4) (show (n : Int) ≠ 0 by omega)
  omega
theorem kOf_le (h : Int) (n : Nat) (hn : 1 ≤ n) : 1 ≤ kOf h n ∧ kOf h n ≤ n := by
  unfold kOf
  have h1 := Int.emod_nonneg (h / 4) (show (n : Int) ≠ 0 by omega)
  have h2 := Int.emod_lt_of_pos (h / 4) (show (0 : Int) < n by omega)
  omega
def bitOf (z : Int) (c : Nat) : Bool := decide (Builtin.bitAnd (Int.fdiv z (2 ^ c)) 1 ≠ 0)
def ballotOf (n : Nat) (z : Int) : List Nat := (List.range n).filter (bitOf z)
section
variable {M : Model} {A : Around} {E : Value → Shared → Prop} {s : Shared} {K : Frag} {h₀ : Heap} {L C : Addr} {m mg mb : Str → Option Value} {scope : Scope} {cl : List (Str × Addr)} {env : Env} {p : Program} {loose : List Str} {mean : ExcName → Option Value} {x : Str} {pos : Pos} {v : Value} {Q : Value → Shared → Prop}
open LCg
theorem cgl_built (F : Fr h₀ L s.heap m) (X : K.In h₀) (T : Top p loose mean mg mb h₀) (e : nsIn K mainGlobals x = some none) (hv : bootBuiltins x = some v) (hn : x ≠ "__name__") (h : Q v s) (hg : env.globals = mainGlobals := by rfl) (hb : env.builtins = builtinsNs := by rfl)
    (hk : (relabel scope env).kind = .function := by rfl) (hx : (compEnvC scope cl C env).kindOf x = some .globalImplicit := by rfl) (hd : (x == ("__debug__" : Str)) = false := by decide) :
    wpAny M A (eval (.Name x pos) (compEnvC scope cl C env)) Q E s :=
  Name_function_global (env := compEnvC scope cl C env) hk hx (loadGlobal_builtin (env := compEnvC scope cl C env) (show s.heap.Ns env.globals mg from hg ▸ (T.keeps F.keep).g) (mg_none_of X T.g e) (show s.heap.Ns env.builtins mb from hb ▸ (T.keeps F.keep).b) ((T.builtins x hn).trans hv) h) hd
end
theorem bal_snoc {bl : List (Addr × Obj)} {ys vs : List Value} {bs : List (List Nat)} {i c : Nat} {b : List Nat} {l : Addr} (h : Bal bl ys (bs.take i)) (hz : bs[i]? = some b) (hp : Paired IntOf vs b) :
    Bal ((l, listOf (List.toArray vs) c) :: bl) (ys ++ [.ref l]) (bs.take (i + 1)) := by
  rw [List.take_add_one, hz]
  exact paired_append (h.mono fun q hq => .tail _ hq) (.cons ⟨l, vs, c, rfl, .head _, hp⟩ .nil)
theorem bit_yes {z : Int} {i : Nat} (h : Builtin.bitAnd (Int.fdiv z (2 ^ ((i : Int)).toNat)) 1 ≠ 0) : bitOf z i = true := decide_eq_true (by simpa using h)
theorem bit_no {z : Int} {i : Nat} (h : Builtin.bitAnd (Int.fdiv z (2 ^ ((i : Int)).toNat)) 1 = 0) : bitOf z i = false := decide_eq_false (by simpa using h)
theorem range_at {n i : Nat} (h : i < n) : (List.range n)[i]? = some i := by simp [h]
theorem ballot_lt {n : Nat} {z : Int} : ∀ c ∈ ballotOf n z, c < n := fun _ h => List.mem_range.mp (List.mem_filter.mp h).1
theorem ballot_nodup {n : Nat} {z : Int} : (ballotOf n z).Nodup := List.nodup_range.filter _
abbrev profD (w : World) (c n' v : Addr) (t1 t2 t3 : Tok) : Obj := dictOf [⟨PyData.keyHash w.params (Str.ofString "candidates"), .str (Str.ofString "candidates") t1, .ref c⟩, ⟨PyData.keyHash w.params (Str.ofString "cand_names"), .str (Str.ofString "cand_names") t2, .ref n'⟩, ⟨PyData.keyHash w.params (Str.ofString "_voters"), .str (Str.ofString "_voters") t3, .ref v⟩] 3
abbrev votD (w : World) (a : Addr) (k : Int) (t1 t2 t3 : Tok) : Obj := dictOf [⟨PyData.keyHash w.params (Str.ofString "approved"), .str (Str.ofString "approved") t1, .ref a⟩, ⟨PyData.keyHash w.params (Str.ofString "weight"), .str (Str.ofString "weight") t2, .int k t3⟩] 2
def Vot (w : World) (wt : Nat → Int) (ex : List (Addr × Obj)) (vvs : Array Value) (bs : List (List Nat)) : Prop :=
  vvs.size = bs.length ∧ ∀ i b, bs[i]? = some b → ∃ xi di ai oi u1 u2 u3, vvs[i]? = some (.ref xi) ∧ (xi, instObj 579 di) ∈ ex ∧ (di, votD w ai (wt i) u1 u2 u3) ∈ ex ∧ (ai, oi) ∈ ex ∧ SetN w oi (setOf b)
theorem Vot.nil {w : World} {wt : Nat → Int} {ex : List (Addr × Obj)} : Vot w wt ex #[] [] := ⟨rfl, fun i b h => by simp at h⟩
theorem Vot.mono {w : World} {wt : Nat → Int} {ex ex' : List (Addr × Obj)} {vvs : Array Value} {bs : List (List Nat)} (h : Vot w wt ex vvs bs) (hs : ∀ q ∈ ex, q ∈ ex') : Vot w wt ex' vvs bs :=
  ⟨h.1, fun i b hb => by
    obtain ⟨xi, di, ai, oi, u1, u2, u3, e, m1, m2, m3, m4⟩ := h.2 i b hb
    exact ⟨xi, di, ai, oi, u1, u2, u3, e, hs _ m1, hs _ m2, hs _ m3, m4⟩⟩
theorem Vot.push {w : World} {wt : Nat → Int} {ex : List (Addr × Obj)} {vvs : Array Value} {bs : List (List Nat)} {i : Nat} {b : List Nat} {x d a : Addr} {o : Obj} {u1 u2 u3 : Tok} (h : Vot w wt ex vvs (bs.take i)) (hb : bs[i]? = some b)
    (m1 : (x, instObj 579 d) ∈ ex) (m2 : (d, votD w a (wt i) u1 u2 u3) ∈ ex) (m3 : (a, o) ∈ ex) (m4 : SetN w o (setOf b)) : Vot w wt ex (vvs.push (.ref x)) (bs.take (i + 1)) := by
  have hi : i < bs.length := by
    rcases Nat.lt_or_ge i bs.length with q | q
    · exact q
    · rw [List.getElem?_eq_none q] at hb; cases hb
  have hl : (bs.take i).length = i := by rw [List.length_take]; omega
  have hsz : vvs.size = i := h.1.trans hl
  have e : bs.take (i + 1) = bs.take i ++ [b] := by rw [List.take_add_one, hb]; rfl
  refine ⟨by rw [e, Array.size_push, List.length_append, hl, hsz]; rfl, fun j c hj => ?_⟩
  rw [e] at hj
  rcases Nat.lt_or_ge j i with q | q
  · rw [List.getElem?_append_left (by omega)] at hj
    obtain ⟨xi, di, ai, oi, v1, v2, v3, e1, k1, k2, k3, k4⟩ := h.2 j c hj
    exact ⟨xi, di, ai, oi, v1, v2, v3, by rw [Array.getElem?_push_lt (by omega), ← e1, Array.getElem?_eq_getElem (by omega)], k1, k2, k3, k4⟩
  · rw [List.getElem?_append_right (by omega), hl] at hj
    have hj0 : j - i = 0 := by
      rcases Nat.eq_zero_or_pos (j - i) with z | z
      · exact z
      · rw [List.getElem?_eq_none (by simp; omega)] at hj; cases hj
    rw [hj0] at hj
    cases hj
    have hji : j = i := by omega
    subst hji
    exact ⟨x, d, a, o, u1, u2, u3, by rw [← hsz, Array.getElem?_push_size], m1, m2, m3, m4⟩
theorem lt_keys {l l' : List (Addr × Obj)} {d : Addr} (h : ∀ p ∈ l, @LT.lt Nat _ p.1 d) (e : l'.map (·.1) = l.map (·.1)) : ∀ p ∈ l', @LT.lt Nat _ p.1 d := by
  intro p hp
  obtain ⟨q, hq, e2⟩ := List.mem_map.mp (e ▸ List.mem_map_of_mem (f := fun x : Addr × Obj => x.1) hp)
  rw [← e2]
  exact h q hq
section
variable {prog : Program} {w : World} {A : Around} {s : Shared} {env : Env} {h₀ : Heap} {g₀ : Array GenState}
theorem For_listM {E : Value → Shared → Prop} {Q : Flow → Shared → Prop} {target : Expr} {pos : Pos} {iter : Expr} {body : List Stmt} {l : Addr} {items : Array Value} {ol : Obj} {m : Str → Option Value} {news : List (Addr × Obj)}
    (F : Fr h₀ env.locals s.heap m) (J : (Str → Option Value) → Nat → (Str → Option Value) → List (Addr × Obj) → Prop)
    (N : News h₀ env.locals s.heap news) (G : GOk g₀ s.gens) (hh : A.handled = none)
    (hm : (l, ol) ∈ news) (hls : s.heap.IsList l items) (hlk : ∀ i m' nx, J m i m' nx → (l, ol) ∈ nx)
    (hiter : ∀ Q' : Value → Shared → Prop, Q' (.ref l) s → wpAny (model prog w) A (eval iter env) Q' E s)
    (ht : ∀ I v, letOwnedTupleGo target (.ref I) v = pure ())
    (h0 : J m 0 m news)
    (step : ∀ i v m₁ news₁ s₁ I oI, items[i]? = some v → J m i m₁ news₁ → (∀ p ∈ news₁, p.1 ≠ I) → Fr h₀ env.locals s₁.heap m₁ → News h₀ env.locals s₁.heap (news₁ ++ [(I, oI)]) → GOk g₀ s₁.gens → s₁.os = s.os → I < s₁.heap.objs.size →
      wpAny (model prog w) A (assign target env v) (fun _ s₂ => wpAny (model prog w) A (execs body env) (TurnPost g₀ h₀ env.locals I oI (J m (i + 1)) s Q) E s₂) E s₁)
    (hQ : ∀ s' m' news', Fr h₀ env.locals s'.heap m' → News h₀ env.locals s'.heap news' → GOk g₀ s'.gens → s'.os = s.os → J m items.size m' news' → Q .next s')
    (hs : ∀ x, foldedSetIterable iter env x = pure x := by intro _; rfl)
    (hE : PassesOwn (model prog w) A env E := by passes_own) :
    wpAny (model prog w) A (exec (.For target iter body [] pos) env) Q E s :=
  For_list (J m) F N G hh (N _ hm).1 hls (.inr hlk) hiter ht h0 step hQ hs hE
end
theorem dep_law {k : Nat} (hk : k ≤ 200) : callerA.depth + 1 + k < recursionLimit := by
  rw [depth_caller, recursionLimit]; omega
theorem uni_law (e : Env) {k : Nat} (hk : k ≤ 3000) : (callerA.deeper e).units + k < cLine := by
  rw [units_deeper, units_caller, cLine_is]; omega
theorem map_one (m : Str → Option Value) (x : Str) : m = fun y => if y = x then m x else m y := by
  funext y
  by_cases e : y = x
  · rw [if_pos e, e]
  · rw [if_neg e]
theorem bs_good {n : Nat} {nums : List Int} {i : Nat} {b : List Nat} (h : (nums.map (ballotOf n))[i]? = some b) : b.Nodup ∧ ∀ x ∈ b, x < n := by
  obtain ⟨z, _, rfl⟩ := List.mem_map.mp (List.mem_of_getElem? h)
  exact ⟨ballot_nodup, ballot_lt⟩
theorem bs_len {n : Nat} {ns : List Int} : 1 ≤ ((numsOf ns).map (ballotOf n)).length ∧ ((numsOf ns).map (ballotOf n)).length ≤ 6 := by
  rw [List.length_map]; exact numsOf_len ns
theorem range_len {vs : List Value} {n : Nat} (h : IntsAre vs (rangeKs 0 n)) : vs.length = n := by
  rw [h.length]; simp [rangeKs]
def idxOf (h : Int) (nb : Nat) : Nat := ((h / 20) % (nb : Int)).toNat
theorem idx_fmod (h : Int) (nb : Nat) (hn : 1 ≤ nb) : Int.fmod (Int.fdiv h 20) (nb : Int) = (idxOf h nb : Int) ∧ idxOf h nb < nb := by
  rw [Int.fmod_eq_emod_of_nonneg _ (by omega), Int.fdiv_eq_ediv_of_nonneg _ (by decide)]
  unfold idxOf
  have h1 := Int.emod_nonneg (h / 20) (show (nb : Int) ≠ 0 by omega)
  have h2 := Int.emod_lt_of_pos (h / 20) (show (0 : Int) < nb by omega)
  omega
theorem Vot.set {w : World} {ex ex' : List (Addr × Obj)} {vvs : Array Value} {bs : List (List Nat)} {j : Nat} {x d a : Addr} {u1 u2 u3 : Tok} (h : Vot w (fun _ => 1) ex vvs bs) (hs : ∀ q ∈ ex, q ∈ ex')
    (m1 : (x, instObj 579 d) ∈ ex') (m2 : (d, votD w a 2 u1 u2 u3) ∈ ex') :
    ∀ i, i < (vvs.setIfInBounds j (.ref x)).size → ∃ xi di ai u1 u2 u3, (vvs.setIfInBounds j (.ref x))[i]? = some (.ref xi) ∧ (xi, instObj 579 di) ∈ ex' ∧ (di, votD w ai (if i = j then 2 else 1) u1 u2 u3) ∈ ex' := by
  intro i hi
  rw [Array.size_setIfInBounds] at hi
  by_cases e : i = j
  · subst e
    exact ⟨x, d, a, u1, u2, u3, by rw [Array.getElem?_setIfInBounds_self]; simp [hi], m1, by rw [if_pos rfl]; exact m2⟩
  · obtain ⟨xi, di, ai, oi, v1, v2, v3, e1, k1, k2, _⟩ := h.2 i _ (List.getElem?_eq_getElem (h.1 ▸ hi))
    exact ⟨xi, di, ai, v1, v2, v3, by rw [Array.getElem?_setIfInBounds_ne (Ne.symm e)]; exact e1, hs _ k1, by rw [if_neg e]; exact hs _ k2⟩
theorem wt_some {nb j : Nat} (h : j < nb) : ((List.range nb).all fun i => (if i = j then (2 : Int) else 1) == 1) = false := by
  rw [Bool.eq_false_iff]
  intro q
  have := List.all_eq_true.mp q j (List.mem_range.mpr h)
  simp at this
end
section
open PySem PySem.W PySem.Calls PyProof.Rows PySem.Spec
set_option maxRecDepth 100000
def IsPair (h : Heap) (a : Addr) (p : Int × Int) : Prop := ∃ o n t1 t2, h.get? a = some o ∧ o.cls = .type "tuple" ∧ o.data = .seq #[.int p.1 t1, .int p.2 t2] n
def pairLt (p q : Int × Int) : Bool := decide (p.1 < q.1 ∨ (p.1 = q.1 ∧ p.2 < q.2))
section
variable {prog : Program} {w : World} {A : Around} {E : Value → Shared → Prop} {s : Shared} {a b : Addr} {p q : Int × Int}
theorem IsPair.typeIs (x : IsPair s.heap a p) : s.TypeIs (.ref a) "tuple" := by
  obtain ⟨o, n, t1, t2, h1, h2, h3⟩ := x
  exact ⟨o, h1, h2⟩
theorem tup_lt_tree {P : PySem.Fin → Shared → Prop} (hx : IsPair s.heap a p) (hy : IsPair s.heap b q) (h : P (.done (.ret (.bool (pairLt p q)))) s) :
    wpAny (model prog w) A (Builtin.«tuple.__lt__» ⟨[.ref a, .ref b], []⟩) P E s := by
  have hTb := hy.typeIs
  obtain ⟨oa, na, t1, t2, hoa, _, hda⟩ := hx
  obtain ⟨ob, nb, u1, u2, hob, _, hdb⟩ := hy
  show wpAny _ _ (isInstance (.ref b) (.type "tuple") >>= _) _ _ s
  refine wpAny_bind (wpAny_isInstance hTb isSubtype_tuple_tuple ?_)
  simp only [Bool.not_true, Bool.false_eq_true, if_false]
  refine wpAny_bind (wpAny_tupleItemsOf hoa hda ?_)
  refine wpAny_bind (wpAny_tupleItemsOf hob hdb ?_)
  refine wpAny_bind ?_
  simp only [List.zip_cons_cons, List.zip_nil_left, List.forIn_cons, List.forIn_nil]
  refine wpAny_bind (wpAny_bind ((intKind prog w).eqBool (a := p.1) (b := q.1) (intKind_is _ _ _ _) (intKind_is _ _ _ _) ?_))
  by_cases e1 : p.1 = q.1
  · rw [decide_eq_true e1]
    simp only [Bool.not_true, Bool.false_eq_true, if_false]
    refine wpAny_pure ?_
    refine wpAny_bind (wpAny_bind ((intKind prog w).eqBool (a := p.2) (b := q.2) (intKind_is _ _ _ _) (intKind_is _ _ _ _) ?_))
    by_cases e2 : p.2 = q.2
    · rw [decide_eq_true e2]
      simp only [Bool.not_true, Bool.false_eq_true, if_false]
      refine wpAny_pure (wpAny_pure ?_)
      have e : pairLt p q = false := decide_eq_false (by omega)
      rw [e] at h
      exact wpAny_pure h
    · rw [decide_eq_false e2]
      simp only [Bool.not_false, if_true]
      refine wpAny_bind (wpAny_rule ?_)
      refine wpAny_bind (show wpAny _ _ (compareOp .Lt _ _) _ _ _ from wpAny_lt_int ?_)
      refine wpAny_bind (wpAny_pure (wpAny_pure (wpAny_pure ?_)))
      have e : pairLt p q = decide (p.2 < q.2) := by
        unfold pairLt
        rw [Bool.eq_iff_iff]
        simp only [decide_eq_true_eq]
        omega
      rw [e] at h
      exact wpAny_pure h
  · rw [decide_eq_false e1]
    simp only [Bool.not_false, if_true]
    refine wpAny_bind (wpAny_rule ?_)
    refine wpAny_bind (show wpAny _ _ (compareOp .Lt _ _) _ _ _ from wpAny_lt_int ?_)
    refine wpAny_bind (wpAny_pure (wpAny_pure (wpAny_pure ?_)))
    have e : pairLt p q = decide (p.1 < q.1) := by
      unfold pairLt
      rw [Bool.eq_iff_iff]
      simp only [decide_eq_true_eq]
      omega
    rw [e] at h
    exact wpAny_pure h
theorem tup_lt {Q : Value → Shared → Prop} (hu : A.units < cLine) (hx : IsPair s.heap a p) (hy : IsPair s.heap b q) (h : Q (.bool (pairLt p q)) s) : wpAny (model prog w) A (richCompare .Lt (.ref a) (.ref b)) Q E s :=
  wpAny_richCompare_same_room (op := .Lt) hx.typeIs hy.typeIs F.slot_tuple_lt
    (wpAny_call_entry F.slot_tuple_lt hx.typeIs F.entry_tuple_lt (tup_lt_tree hx hy ⟨_, rfl, (fun e => nomatch e), h⟩) (F.args_tuple_lt_2 _ _)) hu
def PairIn (T : List (Addr × Obj)) (v : Value) (p : Int × Int) : Prop := ∃ a o n t1 t2, v = Value.ref a ∧ (a, o) ∈ T ∧ o.cls = .type "tuple" ∧ o.data = .seq #[.int p.1 t1, .int p.2 t2] n
def minPair : List (Int × Int) → Int × Int → Int × Int
  | [], b => b
  | p :: r, b => minPair r (if pairLt p b then p else b)
variable {h₀ : Heap} {L : Addr} {m : Str → Option Value} {T : List (Addr × Obj)}
theorem PairIn.is {h : Heap} {v : Value} (N : News h₀ L h T) (x : PairIn T v p) : ∃ a, v = .ref a ∧ IsPair h a p := by
  obtain ⟨a, o, n, t1, t2, e, hm, h1, h2⟩ := x
  exact ⟨a, e, o, n, t1, t2, (N _ hm).1, h1, h2⟩
theorem min_loop {R : Result → Shared → Prop} {I S l : Addr} {vs : List Value} {ps : List (Int × Int)} {St : Nat → Heap → Prop} (W : Walks prog w A.in1 I [I, l] [I] vs.toArray.size (fun i v => vs.toArray[i]? = some v) St) (hp : Paired (PairIn T) vs ps) (hu : A.in1.units < cLine)
    (hSI : S ≠ I) (hSl : S ≠ l) (hIL : I ≠ L) (hSL : S ≠ L) (hI0 : h₀.get? I = none) (hS0 : h₀.get? S = none) (hT : ∀ q ∈ T, q.1 ≠ I ∧ q.1 ≠ S) :
    ∀ (k j : Nat) (s : Shared) (vb : Value) (b : Int × Int) (c : Nat), ps.length - j = k → j ≤ ps.length → St j s.heap → PairIn T vb b →
    s.heap.get? S = some { cls := .type "list", dict := none, data := .seq #[vb, vb] c, slots := #[] } → Fr h₀ L s.heap m → News h₀ L s.heap T →
    (∀ v h' tk, PairIn T v (minPair (ps.drop j) b) → Fr h₀ L h' m → News h₀ L h' T → R (.ok (.ret v)) { s with heap := h', toks := tk }) → codeAny (model prog w) A (.builtin "min.loop" ⟨[.ref I, .none, .ref S], []⟩) R s := by
  have hname : (toString "min" ++ toString ".loop" : String) = "min.loop" := by decide
  have hSf : S ∉ [I, l] := by simp [hSI, hSl]
  have hSw : S ∉ [I] := by simp [hSI]
  have stepFr : ∀ {h h' : Heap}, (∀ b o, b ∉ [I] → h.get? b = some o → h'.get? b = some o) → Fr h₀ L h m → Fr h₀ L h' m := fun hk F =>
    ⟨F.ns.at' fun o e => hk _ o (by simpa using Ne.symm hIL) e, fun b o e => hk b o (fun q => by rw [List.mem_singleton.mp q, hI0] at e; cases e) (F.keep b o e), F.above⟩
  have stepN : ∀ {h h' : Heap}, (∀ b o, b ∉ [I] → h.get? b = some o → h'.get? b = some o) → News h₀ L h T → News h₀ L h' T := fun hk N q hq => ⟨hk _ _ (by simpa using (hT q hq).1) (N q hq).1, (N q hq).2⟩
  have boxFr : ∀ {h : Heap} (f : Obj → Obj), Fr h₀ L h m → Fr h₀ L (h.update S f) m := fun f F => F.change (Heap.SameBut.update ..) hSL hS0
  have boxN : ∀ {h : Heap} (f : Obj → Obj), News h₀ L h T → News h₀ L (h.update S f) T := fun {h} f N q hq => ⟨(Heap.SameBut.update ..).extBut _ _ (hT q hq).2 (N q hq).1, (N q hq).2⟩
  have hlen := hp.length
  have hsz : vs.toArray.size = ps.length := by simpa using hlen
  intro k
  induction k with
  | zero =>
    intro j s vb b c hk hj hst hPb hS Fh N hR
    have hin : j = vs.toArray.size := by omega
    refine codeAny_builtin F.entry_min_loop ?_
    rw [Around.under_plainId F.plain_min_loop _]
    show wpAny _ A.in1 (seqItems? (.ref S) >>= _) _ _ s
    refine wpAny_bind (wpAny_seqItems hS rfl ?_)
    show wpAny _ A.in1 (tryCatch (pyNext (.ref I)) _ >>= _) _ _ s
    refine wpAny_bind (wpAny_tryCatch (W.done s _ _ (hin ▸ hst) fun h₁ tk₁ hk₁ => ?_))
    have hS' := hk₁ S _ hSw hS
    show wpAny _ A.in1 (updateSeq S (fun _ => #[]) >>= _) _ _ _
    refine wpAny_bind (wpAny_updateSeq hS' rfl (wpAny_bind (wpAny_letGo (wpAny_pure ?_))))
    exact hR vb _ _ (by rw [List.drop_of_length_le (by omega)]; exact hPb) (boxFr _ (stepFr hk₁ Fh)) (boxN _ (stepN hk₁ N))
  | succ k ih =>
    intro j s vb b c hk hj hst hPb hS Fh N hR
    have hlt : j < ps.length := by omega
    refine codeAny_builtin F.entry_min_loop ?_
    rw [Around.under_plainId F.plain_min_loop _]
    show wpAny _ A.in1 (seqItems? (.ref S) >>= _) _ _ s
    refine wpAny_bind (wpAny_seqItems hS rfl ?_)
    show wpAny _ A.in1 (tryCatch (pyNext (.ref I)) _ >>= _) _ _ s
    refine wpAny_bind (wpAny_tryCatch (W.item j s _ _ (by omega) hst fun v h₁ tk₁ hP hst₁ hk₁ => ?_))
    have hS' := hk₁ S _ hSw hS
    obtain ⟨q, hq, hvq⟩ := paired_at hp (by simpa using hP)
    have F₁ := stepFr hk₁ Fh
    have N₁ := stepN hk₁ N
    obtain ⟨av, rfl, ia⟩ := hvq.is N₁
    obtain ⟨ab, rfl, ib⟩ := hPb.is N₁
    have hd : ps.drop j = q :: ps.drop (j + 1) := by
      have hq' : ps[j]'hlt = q := by rw [List.getElem?_eq_getElem hlt] at hq; exact Option.some.inj hq
      rw [List.drop_eq_getElem_cons hlt, hq']
    show wpAny _ A.in1 (tryCatch (holding [.ref av, .ref av] (richCompare .Lt (.ref av) (.ref ab) >>= _)) _ >>= _) _ _ _
    refine wpAny_bind (wpAny_tryCatch (wpAny_holding (wpAny_bind (tup_lt hu ia ib ?_))))
    refine wpAny_bind (wpAny_holding (wpAny_truthy_bool ?_))
    refine wpAny_bind (wpAny_letGo (wpAny_pure ?_))
    cases hb : pairLt q b with
    | true =>
      simp only [if_true]
      refine wpAny_bind ?_
      refine wpAny_updateSeq hS' rfl (wpAny_bind (wpAny_letGo ?_))
      rw [hname]
      refine wpAny_pure ⟨plainId_quiet F.plain_min_loop _, ih (j + 1) _ (.ref av) q _ (by omega) hlt (W.frame _ _ _ hst₁ fun b hbf o e => ?_) hvq (Heap.get?_update_self _ hS' rfl) (boxFr _ F₁) (boxN _ N₁) fun v' h' tk' hP' F' N' => ?_⟩
      · exact (Heap.get?_update_other _ _ (fun z : S = b => hSf (by rw [z]; exact hbf))).trans e
      · exact hR v' h' tk' (by rw [hd, minPair, hb, if_pos rfl]; exact hP') F' N'
    | false =>
      simp only [Bool.false_eq_true, if_false]
      refine wpAny_bind (wpAny_letGo ?_)
      rw [hname]
      refine wpAny_pure ⟨plainId_quiet F.plain_min_loop _, ih (j + 1) _ (.ref ab) b c (by omega) hlt hst₁ hPb hS' F₁ N₁ fun v' h' tk' hP' F' N' => ?_⟩
      exact hR v' h' tk' (by rw [hd, minPair, hb, if_neg (by decide)]; exact hP') F' N'
theorem min_pairs {l : Addr} {vs : List Value} {p : Int × Int} {ps : List (Int × Int)} {Q : Value → Shared → Prop} (hh : A.handled = none) (hu : A.in1.units < cLine) (F₀ : Fr h₀ L s.heap m) (N : News h₀ L s.heap T) (hl : s.heap.IsList l vs.toArray) (hp : Paired (PairIn T) vs (p :: ps))
    (h : ∀ v h' tk, PairIn T v (minPair ps p) → Fr h₀ L h' m → News h₀ L h' T → Q v { s with heap := h', toks := tk }) :
    wpAny (model prog w) A (call (.builtin "min") [.ref l]) Q E s := by
  have hname : (toString "min" ++ toString ".loop" : String) = "min.loop" := by decide
  refine call_function_tree F.kind_min F.plain_min F.entry_min (F.args_min1 _) ?_
  show wpAny _ A.in1 (Builtin.Builtins.bindParams "min" ["key", "default"] 0 ⟨[], []⟩ >>= _) _ _ s
  refine wpAny_bind (wpAny_of_eq (show Builtin.Builtins.bindParams "min" ["key", "default"] 0 ⟨[], []⟩ = pure [none, none] from rfl) ?_)
  refine wpAny_bind (wpAny_pure ?_)
  refine wpAny_bind (wpAny_pyIter_list hl ?_)
  refine wpAny_bind (wpAny_newObj_type ?_)
  rw [hname]
  refine wpAny_pure ⟨plainId_quiet F.plain_min_loop _, ?_⟩
  have hlt : l < s.heap.objs.size := by obtain ⟨_, e, _⟩ := hl; exact Heap.lt_size e
  have W := Walks.list (prog := prog) (w := w) (A := A.in1) hh s.heap.objs.size l (Nat.ne_of_lt hlt) vs.toArray
  have up1 : ∀ b o, s.heap.get? b = some o → (s.heap.push { cls := .type "list_iterator", data := .fields #[.ref l, .int 0 0] }).get? b = some o := fun b o e => Heap.get?_push_of_some _ e
  have hIt : (s.heap.push { cls := .type "list_iterator", data := .fields #[.ref l, .int 0 0] }).get? s.heap.objs.size = some { cls := .type "list_iterator", data := .fields #[.ref l, .int 0 0] } := Heap.get?_push_size _ rfl
  have hsz1 : (s.heap.push { cls := .type "list_iterator", data := .fields #[.ref l, .int 0 0] }).objs.size = s.heap.objs.size + 1 := Heap.size_push ..
  dsimp only
  generalize s.heap.push { cls := .type "list_iterator", data := .fields #[.ref l, .int 0 0] } = H1 at up1 hIt hsz1 ⊢
  have up2 : ∀ b o, H1.get? b = some o → (H1.push { cls := .type "list", dict := none, data := .seq ([] : List Value).toArray }).get? b = some o := fun b o e => Heap.get?_push_of_some _ e
  have hBx : (H1.push { cls := .type "list", dict := none, data := .seq ([] : List Value).toArray }).get? H1.objs.size = some { cls := .type "list", dict := none, data := .seq ([] : List Value).toArray } := Heap.get?_push_size _ rfl
  generalize H1.push { cls := .type "list", dict := none, data := .seq ([] : List Value).toArray } = H2 at up2 hBx ⊢
  have up : ∀ b o, s.heap.get? b = some o → H2.get? b = some o := fun b o e => up2 b o (up1 b o e)
  rw [hsz1] at hBx ⊢
  have fresh : ∀ a, s.heap.objs.size ≤ a → h₀.get? a = none := fun a ha => by
    cases e : h₀.get? a with
    | none => rfl
    | some o' => exact absurd (Heap.lt_size (F₀.keep a o' e)) (Nat.not_lt.mpr ha)
  have hLlt : L < s.heap.objs.size := F₀.ns.lt
  have hT : ∀ q ∈ T, q.1 ≠ s.heap.objs.size ∧ q.1 ≠ s.heap.objs.size + 1 := fun q hq => by
    have := Heap.lt_size (N q hq).1
    exact ⟨Nat.ne_of_lt this, Nat.ne_of_lt (Nat.lt_succ_of_lt this)⟩
  have hSI : s.heap.objs.size + 1 ≠ s.heap.objs.size := Nat.succ_ne_self _
  have hSl : s.heap.objs.size + 1 ≠ l := Nat.ne_of_gt (Nat.lt_succ_of_lt hlt)
  have hIL : s.heap.objs.size ≠ L := Nat.ne_of_gt hLlt
  have hSL : s.heap.objs.size + 1 ≠ L := Nat.ne_of_gt (Nat.lt_succ_of_lt hLlt)
  have F₂ : Fr h₀ L H2 m := F₀.keeps up
  have N₂ : News h₀ L H2 T := fun q hq => ⟨up _ _ (N q hq).1, (N q hq).2⟩
  have hst : H2.IsListIter s.heap.objs.size l 0 ∧ H2.IsList l vs.toArray := ⟨⟨_, up2 _ _ hIt, rfl, rfl⟩, hl.at fun o e => up _ _ e⟩
  have hlen := hp.length
  refine codeAny_builtin F.entry_min_loop ?_
  rw [Around.under_plainId F.plain_min_loop _]
  show wpAny _ A.in1 (seqItems? (.ref (s.heap.objs.size + 1)) >>= _) _ _ _
  refine wpAny_bind (wpAny_seqItems hBx rfl ?_)
  show wpAny _ A.in1 (tryCatch (pyNext (.ref s.heap.objs.size)) _ >>= _) _ _ _
  refine wpAny_bind (wpAny_tryCatch (W.item 0 _ _ _ (by simp only [List.size_toArray]; rw [hlen]; exact Nat.succ_pos _) hst fun v h₁ tk₁ hP hst₁ hk₁ => ?_))
  have hS' := hk₁ (s.heap.objs.size + 1) _ (by (first | k_mem | ((repeat refine' List.Mem.tail _ ?_); refine' List.mem_append_right _ ?_; first | k_mem | (refine' List.mem_append_right _ ?_; k_mem)) | simp)) hBx
  obtain ⟨q, hq, hvq⟩ := paired_at hp (by simpa using hP)
  obtain rfl : p = q := by simpa using hq
  have F₃ : Fr h₀ L h₁ m := ⟨F₂.ns.at' fun o e => hk₁ _ o (by simpa using Ne.symm hIL) e, fun b o e => hk₁ b o (fun z => by rw [List.mem_singleton.mp z, fresh _ (Nat.le_refl _)] at e; cases e) (F₂.keep b o e), F₂.above⟩
  have N₃ : News h₀ L h₁ T := fun q hq => ⟨hk₁ _ _ (by simpa using (hT q hq).1) (N₂ q hq).1, (N₂ q hq).2⟩
  show wpAny _ A.in1 (updateSeq (s.heap.objs.size + 1) (fun _ => #[v, v]) >>= _) _ _ _
  refine wpAny_bind ?_
  refine wpAny_updateSeq hS' rfl ?_
  rw [hname]
  refine wpAny_pure ⟨plainId_quiet F.plain_min_loop _, min_loop (h₀ := h₀) (L := L) (m := m) (T := T) W hp hu hSI hSl hIL hSL (fresh _ (Nat.le_refl _)) (fresh _ (Nat.le_succ _)) hT _ 1 _ v p _ rfl (by (first | k_mem | ((repeat refine' List.Mem.tail _ ?_); refine' List.mem_append_right _ ?_; first | k_mem | (refine' List.mem_append_right _ ?_; k_mem)) | simp)) (W.frame _ _ _ hst₁ fun b hbf o e => ?_) hvq (Heap.get?_update_self _ hS' rfl) (F₃.change (Heap.SameBut.update ..) hSL (fresh _ (Nat.le_succ _))) (fun q hq => ⟨(Heap.SameBut.update ..).extBut _ _ (hT q hq).2 (N₃ q hq).1, (N₃ q hq).2⟩) fun v' h' tk' hP' F' N' => ?_⟩
  · refine (Heap.get?_update_other _ _ (fun z : s.heap.objs.size + 1 = b => ?_)).trans e
    rw [← z] at hbf
    simp [hSI, hSl] at hbf
  · exact h v' h' tk' (by simpa using hP') F' N'
end
end
section
open PySem PySem.W PySem.Calls PyProof.Rows PySem.Spec
set_option maxRecDepth 100000
section
variable {prog : Program} {w : World} {A₀ : Around} {s' : Shared} {g0 G : Heap} {L a e : Addr} {m : Str → Option Value} {name : Str} {scope : Scope} {cd : Value} {cl : List (Str × Addr)}
  {b₀ : Stmt} {suite : List Stmt} {pos np : Pos} {rest : List ExceptHandler} {Q : Flow → Shared → Prop} {news : List (Addr × Obj)} {KF : Frag}
  {p : Program} {loose : List Str} {mean : ExcName → Option Value} {mg mb : Str → Option Value} {x : Str} {X T' : String}
theorem law_caught (R : RaisedSN g0 G [envX name scope L a cd cl] e (.type X) news s'.heap) (F : Fr g0 L G m) (K : Below A₀ g0 [] g0) (hsm : G.UpToSlots s'.heap) (XB : KF.In g0) (TB : Top p loose mean mg mb g0)
    (ex : nsIn KF mainGlobals x = some none) (hv : bootBuiltins x = some (.type T')) (hn' : x ≠ "__name__")
    (hexc : isSubtype (.type T') (.type "BaseException") = pure true) (hnt : isSubtype (.type ((Manifest.find? T').elim "type" fun y => y.metatype)) (.type "tuple") = pure false) (hsub : isSubtype (.type X) (.type T') = pure true)
    (k : ∀ h', Fr g0 L h' m → News g0 L h' news → wpAny (model prog w) ((A₀.deeper (envX name scope L a cd cl)).mark (some (.ref e))) (execs (b₀ :: suite) (envX name scope L a cd cl)) Q (fun _ _ => False) { s' with heap := h' })
    (hk : scope.kind = .function := by rfl) (hx : (envX name scope L a cd cl).kindOf x = some .globalImplicit := by rfl) (hd : (x == ("__debug__" : Str)) = false := by decide) :
    wpAny (model prog w) (A₀.deeper (envX name scope L a cd cl)) (noteFrame (.ref e) (envX name scope L a cd cl))
      (fun _ s₂ => wpAny (model prog w) (A₀.deeper (envX name scope L a cd cl)) (setFlight (.ref e) none) (fun _ s₃ =>
        wpAny (model prog w) (A₀.deeper (envX name scope L a cd cl)) (handleBy (.ref e) (envX name scope L a cd cl) (.ExceptHandler (some (.Name x np)) none (b₀ :: suite) pos :: rest)) Q (fun _ _ => False) s₃) (fun _ _ => False) s₂) (fun _ _ => False) s' := by
  obtain ⟨B, a0, hB, _, hl, hfl⟩ := R
  have hL : B.get? L = none := by
    obtain ⟨_, ⟨L', _, hf, hz, _⟩, _⟩ := hfl.2.2.1
    obtain rfl : L = L' := Option.some.inj hf
    exact hz
  refine wpAny_looks_onW (Around.frames_deeper K.stack) rfl hfl fun h₄ held₄ sm₄ => ?_
  refine wpAny_landsW held₄ fun h₅ fly₅ sm₅ => ?_
  have F₅ : Fr g0 L h₅ m := F.of_stays (fun b o q => fly₅.1 b o (hB b o q)) (hsm.trans (sm₄.trans sm₅))
  obtain ⟨ob, hob, hobc⟩ := fly₅.there
  refine wpAny_handleBy_builtin (X := X) (T := T') (b := true) hexc hnt hsub (Name_function_global (env := envX name scope L a cd cl) hk hx (loadGlobal_builtin (env := envX name scope L a cd cl) (TB.keeps F₅.keep).g (mg_none_of XB TB.g ex) (TB.keeps F₅.keep).b ((TB.builtins x hn').trans hv) ⟨rfl, ⟨ob, hob, hobc⟩, ?_⟩) hd)
  refine lands_againW fly₅ fun h₆ fly₆ sm₆ => ?_
  have F₆ : Fr g0 L h₆ m := F.of_stays (fun b o q => fly₆.1 b o (hB b o q)) (hsm.trans (sm₄.trans (sm₅.trans sm₆)))
  have N₆ : News g0 L h₆ news := fun q hq => ⟨fly₆.1 _ _ (hl q hq).1, (fun z => by have := (hl q hq).1; rw [z, hL] at this; cases this), (hl q hq).2.2⟩
  exact wpAny_passesOwnAt PassesOwnAt.never (k h₆ F₆ N₆)
end
section
variable {prog : Program} {w : World} {A : Around} {E : Value → Shared → Prop} {s : Shared} {h₀ : Heap} {L : Addr} {m : Str → Option Value} {env : Env}
open LCg LCt
def RangeCell (prog : Program) (w : World) (A : Around) (h₀ : Heap) (L : Addr) (m : Str → Option Value) (env : Env) (ifs : List Expr) (elt : Expr) (x : Str) (scope : Scope) (cl : List (Str × Addr)) (y : Str) (Q : Flow → Shared → Prop) (xv : Value) (s₁ : Shared) : Prop :=
  ∃ (r : Addr) (t u v : Tok) (n : Nat) (news : List (Addr × Obj)) (J : Nat → List Value → List (Addr × Obj) → Prop), xv = .ref r ∧ A.handled = none ∧ Fr h₀ L s₁.heap m ∧ News h₀ L s₁.heap news ∧ IsRange s₁.heap r 0 (n : Int) 1 t u v ∧ n ≤ 1000 ∧ J 0 [] news ∧
      (∀ g, CellStep prog w A h₀ L m env ifs elt x scope cl { s₁ with heap := g } (fun _ => True) (fun i v => ∃ t, v = .int ((0 : Int) + (i : Int)) t) J n) ∧
      ∀ D g tk ys news', Fr h₀ L g (fun z => if z = y then some (.ref D) else m z) → News h₀ L g ((D, lst ys) :: news') → Off1 D news' → J n ys news' → Q .next { s₁ with heap := g, toks := tk }
theorem Assign_ListComp_Ce {elt iter : Expr} {ifs : List Expr} {x y : Str} {px py : Pos} {scope : Scope} {cl : List (Str × Addr)} {pos spos : Pos} {Q : Flow → Shared → Prop} (_F₀ : Fr h₀ L s.heap m) (hLe : env.locals = L)
    (hsw : swapsWith (.ListComp elt [⟨.Name x px, iter, ifs, 0⟩] scope pos) (some (.Name y py)) spos.line env = pure true)
    (hclos : closureFor scope env = pure cl) (hcf : ∀ a, cellsFrom a scope.names cl = (x, a) :: cl) (hpc : ∀ h, pushCells h scope.names = h.push { cls := .type "cell", data := .cell none })
    (hkind : scope.kind = .function) (hnames : ∀ y ∈ scope.names, y.2 = .local → scope.names.lookup y.1 = some .local) (hx : ∀ cl' C, (compEnvC scope cl' C env).kindOf x = some .cell)
    (hy : env.kindOf y = some .local) (hp : (env.scope.kind == .class || (env.scope.kind == .module && env.locals != env.globals)) = false)
    (h : wpAny (model prog w) A (eval iter env) (RangeCell prog w A h₀ L m env ifs elt x scope cl y Q) E s)
    (hs : ∀ x, foldedSetIterable iter env x = pure x := by intro _; rfl) :
    wpAny (model prog w) A (exec (.Assign [.Name y py] (.ListComp elt [⟨.Name x px, iter, ifs, 0⟩] scope pos) spos) env) Q E s := by
  subst hLe
  rw [exec_Assign_Name_used _ _ _ _ hsw]
  refine wpAny_bind (wpAny_standAt (wpAny_bind ?_))
  show wpAny _ A (do let _ ← comprehension (.ListComp elt [⟨.Name x px, iter, ifs, 0⟩] scope pos) scope env _ (newList []) false (eval iter env) (some (assign (.Name y py) env))) _ _ s
  refine wpAny_bind (wpAny_mono (wpAny_comprehension_free (use := some (assign (.Name y py) env)) (Q := fun _ s' => Q .next s') rfl hs hclos hkind hnames
    (wpAny_mono h (fun xv s₁ h₁ => ?_) fun _ _ e => e)) (fun _ s' hq => wpAny_pure (wpAny_pure hq)) fun _ _ e => e)
  obtain ⟨r, t, u, v, n, news, J, rfl, hh, F, N, hr, hn1, h0, R, fin⟩ := h₁
  refine wpAny_pyIter_range hr (range_small n hn1) ?_
  have hrs := rangeSize_nat n
  refine block_C J (range_walks hh (0 : Int) n) (by rw [sizeLine_eq]; omega) (fun i h st => ⟨_, st⟩) range_st hcf hpc hkind hx (by show IsRangeIter _ _ _ _ _; rw [hrs]; simpa using Heap.get?_push_size _ rfl) (fun b hb => ?_)
    (F.keeps fun _ _ e => Heap.get?_push_of_some _ e) (N.grown fun _ _ e => Heap.get?_push_of_some _ e) (Nat.ne_of_lt F.ns.lt) (next_is_new F) (fun p hp => Nat.ne_of_lt (Heap.lt_size (N p hp).1)) trivial h0 (R _) ?_
  · rw [List.mem_singleton.mp hb]
    show s₁.heap.objs.size < (s₁.heap.push _).objs.size
    rw [Heap.size_push]; exact Nat.lt_succ_self _
  · intro D C h' tk m' ys news' F' N' o1 hn hC₀ hD₀ hCL hDL hCD offC hJ
    show wpAny _ A (assign (.Name y py) env (.ref D)) _ _ _
    refine wpAny_assign_Name (wpAny_storeName_local hy F'.ns (fun h₂ hn₂ hs₂ => ?_) hp)
    have hL₀ : h₀.get? env.locals = none := Heap.get?_none_of_le F'.above
    have F₂ : Fr h₀ env.locals h₂ (fun z => if z = y then some (.ref D) else m z) := ⟨hn₂, fun b o e => hs₂.extBut b o (fun q => by rw [q, hL₀] at e; cases e) (F'.keep b o e), F'.above⟩
    refine ⟨m', hn.sameBut hs₂ hCL, fun h'' hs'' => fin D h'' _ ys news' (F₂.change hs'' hCL hC₀) (fun p hp => ?_) o1 hJ⟩
    have z : h₂.get? p.1 = some p.2 := hs₂.extBut _ _ (N' p hp).2.1 (N' p hp).1
    refine ⟨hs''.extBut _ _ ?_ z, (N' p hp).2⟩
    rcases List.mem_cons.mp hp with rfl | hp
    · exact Ne.symm hCD
    · exact offC p hp
end
def LJ (S : Nat → List Nat) (nb n k : Nat) (L D7 DM : Addr) (o7 oB8 oN : Obj) (RS : List (Addr × Obj)) (m0 : Str → Option Value) (i : Nat) (m' : Str → Option Value) (nx : List (Addr × Obj)) : Prop :=
  ∃ DL lv lc mv mc oGO oME oLE oCA vGO vCA u1 u2 u3,
    nx = (DL, listOf (List.toArray lv) lc) :: (DM, listOf (List.toArray mv) mc) :: (D7, o7) :: (L + 1 + 1 + 1 + 1 + 1 + 1, oGO) :: (L + 1 + 1 + 1 + 1 + 1, oME) :: (L + 1 + 1 + 1 + 1, oLE) :: (L + 1 + 1 + 1, oB8) :: (L + 1 + 1, oCA) :: (L + 1, oN) :: RS ∧
    m' = (fun y => if y = Str.ofString "seat" then u1 else if y = Str.ofString "marks" then u2 else if y = Str.ofString "share" then u3 else m0 y) ∧
    oGO.data = .cell vGO ∧ oME.data = .cell (some (.ref DM)) ∧ oLE.data = .cell (some (.ref DL)) ∧ oCA.data = .cell vCA ∧
    Paired IntOf lv (gst S nb n k i).rv ∧ Paired IntOf mv (gst S nb n k i).com ∧
    (∀ q ∈ (DM, listOf (List.toArray mv) mc) :: (D7, o7) :: (L + 1 + 1 + 1 + 1 + 1 + 1, oGO) :: (L + 1 + 1 + 1 + 1 + 1, oME) :: (L + 1 + 1 + 1 + 1, oLE) :: (L + 1 + 1 + 1, oB8) :: (L + 1 + 1, oCA) :: (L + 1, oN) :: RS, @Ne Nat q.1 DL)
theorem LJ.elim {S : Nat → List Nat} {nb n k : Nat} {L D7 DM : Addr} {o7 oB8 oN : Obj} {RS : List (Addr × Obj)} {m0 m' : Str → Option Value} {i : Nat} {nx : List (Addr × Obj)} {C : Prop} (h : LJ S nb n k L D7 DM o7 oB8 oN RS m0 i m' nx)
    (kk : ∀ (DL : Addr) (lv : List Value) (lc : Nat) (mv : List Value) (mc : Nat) (oGO oME oLE oCA : Obj) (vGO vCA u1 u2 u3 : Option Value), (nx = (DL, listOf (List.toArray lv) lc) :: (DM, listOf (List.toArray mv) mc) :: (D7, o7) :: (L + 1 + 1 + 1 + 1 + 1 + 1, oGO) :: (L + 1 + 1 + 1 + 1 + 1, oME) :: (L + 1 + 1 + 1 + 1, oLE) :: (L + 1 + 1 + 1, oB8) :: (L + 1 + 1, oCA) :: (L + 1, oN) :: RS) → (m' = (fun y => if y = Str.ofString "seat" then u1 else if y = Str.ofString "marks" then u2 else if y = Str.ofString "share" then u3 else m0 y)) → (oGO.data = .cell vGO) → (oME.data = .cell (some (.ref DM))) → (oLE.data = .cell (some (.ref DL))) → (oCA.data = .cell vCA) → (Paired IntOf lv (gst S nb n k i).rv) → (Paired IntOf mv (gst S nb n k i).com) → (∀ q ∈ (DM, listOf (List.toArray mv) mc) :: (D7, o7) :: (L + 1 + 1 + 1 + 1 + 1 + 1, oGO) :: (L + 1 + 1 + 1 + 1 + 1, oME) :: (L + 1 + 1 + 1 + 1, oLE) :: (L + 1 + 1 + 1, oB8) :: (L + 1 + 1, oCA) :: (L + 1, oN) :: RS, @Ne Nat q.1 DL) → C) : C := by
  obtain ⟨DL, lv, lc, mv, mc, oGO, oME, oLE, oCA, vGO, vCA, u1, u2, u3, h1, h2, h3, h4, h5, h6, h7, h8, h9⟩ := h
  exact kk DL lv lc mv mc oGO oME oLE oCA vGO vCA u1 u2 u3 h1 h2 h3 h4 h5 h6 h7 h8 h9
theorem ex7_elim {a b c d e f g : Type} {A B P1 P2 P3 P4 : a → b → c → d → e → f → g → Prop} {C : Prop} (h : ∃ u v w x y z q, A u v w x y z q ∧ B u v w x y z q ∧ P1 u v w x y z q ∧ P2 u v w x y z q ∧ P3 u v w x y z q ∧ P4 u v w x y z q)
    (k : ∀ u v w x y z q, A u v w x y z q → B u v w x y z q → P1 u v w x y z q → P2 u v w x y z q → P3 u v w x y z q → P4 u v w x y z q → C) : C := by
  obtain ⟨u, v, w, x, y, z, q, h1, h2, h3, h4, h5, h6⟩ := h
  exact k u v w x y z q h1 h2 h3 h4 h5 h6
theorem LJ.mk {S : Nat → List Nat} {nb n k : Nat} {L D7 DM DL : Addr} {o7 oB8 oN oGO oME oLE oCA : Obj} {RS : List (Addr × Obj)} {m0 m' : Str → Option Value} {i lc mc : Nat} {lv mv : List Value} {vGO vCA : Option Value}
    (hm : ∀ y, y ≠ Str.ofString "seat" → y ≠ Str.ofString "marks" → y ≠ Str.ofString "share" → m' y = m0 y)
    (h1 : oGO.data = .cell vGO) (h2 : oME.data = .cell (some (.ref DM))) (h3 : oLE.data = .cell (some (.ref DL))) (h4 : oCA.data = .cell vCA)
    (h5 : Paired IntOf lv (gst S nb n k i).rv) (h6 : Paired IntOf mv (gst S nb n k i).com)
    (h7 : ∀ q ∈ (DM, listOf (List.toArray mv) mc) :: (D7, o7) :: (L + 1 + 1 + 1 + 1 + 1 + 1, oGO) :: (L + 1 + 1 + 1 + 1 + 1, oME) :: (L + 1 + 1 + 1 + 1, oLE) :: (L + 1 + 1 + 1, oB8) :: (L + 1 + 1, oCA) :: (L + 1, oN) :: RS, @Ne Nat q.1 DL) :
    LJ S nb n k L D7 DM o7 oB8 oN RS m0 i m' ((DL, listOf (List.toArray lv) lc) :: (DM, listOf (List.toArray mv) mc) :: (D7, o7) :: (L + 1 + 1 + 1 + 1 + 1 + 1, oGO) :: (L + 1 + 1 + 1 + 1 + 1, oME) :: (L + 1 + 1 + 1 + 1, oLE) :: (L + 1 + 1 + 1, oB8) :: (L + 1 + 1, oCA) :: (L + 1, oN) :: RS) := by
  refine ⟨DL, lv, lc, mv, mc, oGO, oME, oLE, oCA, vGO, vCA, m' (Str.ofString "seat"), m' (Str.ofString "marks"), m' (Str.ofString "share"), rfl, ?_, h1, h2, h3, h4, h5, h6, h7⟩
  funext y
  by_cases e1 : y = Str.ofString "seat"
  · rw [if_pos e1, e1]
  rw [if_neg e1]
  by_cases e2 : y = Str.ofString "marks"
  · rw [if_pos e2, e2]
  rw [if_neg e2]
  by_cases e3 : y = Str.ofString "share"
  · rw [if_pos e3, e3]
  rw [if_neg e3]
  exact hm y e1 e2 e3
def SL (bs : List (List Nat)) (i : Nat) : List Nat := bs.getD i []
theorem SL_at {bs : List (List Nat)} {i : Nat} {b : List Nat} (h : bs[i]? = some b) : SL bs i = b := by
  unfold SL
  rw [List.getD_eq_getElem?_getD, h]; rfl
theorem bal_at {bl : List (Addr × Obj)} {ys : List Value} {bs : List (List Nat)} (h : Bal bl ys bs) {z : Nat} (hz : z < bs.length) : ∃ lb vsb cb, ys[z]? = some (.ref lb) ∧ (lb, listOf (List.toArray vsb) cb) ∈ bl ∧ Paired IntOf vsb (SL bs z) := by
  have hl : ys.length = bs.length := h.length
  have e : ys[z]? = some (ys[z]'(by omega)) := List.getElem?_eq_getElem (by omega)
  obtain ⟨b, hb, l, vs, c, e1, hm, hp⟩ := paired_at h e
  exact ⟨l, vs, c, by rw [e, e1], hm, by rw [SL_at hb]; exact hp⟩
theorem marks_no {f : Nat → Int × Int} {T : List (Addr × Obj)} {ys : List Value} {q : Nat → Bool} {j : Nat} (h : Paired (PairIn T) ys (((List.range j).filter q).map f)) (hq : q j = false) : Paired (PairIn T) ys (((List.range (j + 1)).filter q).map f) := by
  rw [List.range_succ, List.filter_append]
  simpa [hq] using h
theorem PairIn.mono {T T' : List (Addr × Obj)} {v : Value} {p : Int × Int} (h : PairIn T v p) (hs : ∀ q ∈ T, q ∈ T') : PairIn T' v p := by
  obtain ⟨a, o, n, t1, t2, e, hm, h1, h2⟩ := h
  exact ⟨a, o, n, t1, t2, e, hs _ hm, h1, h2⟩
theorem marks_yes {f : Nat → Int × Int} {T T' : List (Addr × Obj)} {ys : List Value} {v : Value} {q : Nat → Bool} {j : Nat} (h : Paired (PairIn T) ys (((List.range j).filter q).map f)) (hq : q j = true) (hs : ∀ p ∈ T, p ∈ T') (hv : PairIn T' v (f j)) :
    Paired (PairIn T') (ys ++ [v]) (((List.range (j + 1)).filter q).map f) := by
  rw [List.range_succ, List.filter_append, List.map_append]
  refine paired_append (paired_mono (fun _ _ x => x.mono hs) h) ?_
  simp only [List.filter_cons, hq, if_true, List.filter_nil, List.map_cons, List.map_nil]
  exact .cons hv .nil
theorem head_obj {h₀ h : Heap} {L T : Addr} {o : Obj} {r : List (Addr × Obj)} (_N : News h₀ L h ((T, o) :: r)) : ∃ o', o' = o := ⟨_, rfl⟩
theorem minPair_lbest (S : Nat → List Nat) (rv : List Nat) : ∀ (r : List Nat) (x : Int) (c : Nat), minPair (r.map fun c => (-(cnt S rv c : Int), (c : Int))) (x, (c : Int)) = ((lbest S rv r (x, c)).1, ((lbest S rv r (x, c)).2 : Int))
  | [], _, _ => rfl
  | d :: r, x, c => by
    simp only [List.map_cons, minPair, lbest]
    by_cases hl : -(cnt S rv d : Int) < x ∨ (-(cnt S rv d : Int) = x ∧ d < c)
    · have e : pairLt (-(cnt S rv d : Int), (d : Int)) (x, (c : Int)) = true := decide_eq_true (by simp only; omega)
      rw [e, if_pos rfl, if_pos hl]
      exact minPair_lbest S rv r _ d
    · have e : pairLt (-(cnt S rv d : Int), (d : Int)) (x, (c : Int)) = false := decide_eq_false (by simp only; omega)
      rw [e, if_neg (by decide), if_neg hl]
      exact minPair_lbest S rv r x c
theorem min_gsel (S : Nat → List Nat) (rv : List Nat) (c : Nat) (r : List Nat) (hp : (c :: r).Pairwise (· < ·)) : (minPair (r.map fun c => (-(cnt S rv c : Int), (c : Int))) (-(cnt S rv c : Int), (c : Int))).2 = (gsel S rv (c :: r) : Int) := by
  rw [minPair_lbest, gsel_law S rv c r hp]
section
variable {prog : Program} {w : World} {A : Around} {E : Value → Shared → Prop} {s : Shared}
end
end
section
open PySem PySem.W PySem.Calls PyProof.Rows PyProof.V PySem.Spec
set_option maxRecDepth 100000
theorem ex7 {a b c d e f g : Type} {P : a → b → c → d → e → f → g → Prop} {C : Prop} (h : ∃ x1 x2 x3 x4 x5 x6 x7, P x1 x2 x3 x4 x5 x6 x7) (k : ∀ x1 x2 x3 x4 x5 x6 x7, P x1 x2 x3 x4 x5 x6 x7 → C) : C := by
  obtain ⟨x1, x2, x3, x4, x5, x6, x7, h⟩ := h
  exact k x1 x2 x3 x4 x5 x6 x7 h
theorem gst_set {S S' : Nat → List Nat} (h : ∀ i c, c ∈ S i ↔ c ∈ S' i) (nb n k : Nat) : ∀ t, gst S nb n k t = gst S' nb n k t := by
  have hd : ∀ c, (fun i => decide (c ∈ S i)) = fun i => decide (c ∈ S' i) := fun c => by
    funext i
    exact Bool.eq_iff_iff.mpr (by simp only [decide_eq_true_eq]; exact h i c)
  have hc : ∀ rv c, cnt S rv c = cnt S' rv c := fun rv c => by unfold cnt; rw [hd]
  have hb : ∀ rv rc b, best S rv rc b = best S' rv rc b := fun rv rc => by
    induction rc with
    | nil => intro b; rfl
    | cons c r ih => intro b; simp only [best, hc, ih]
  have hg : ∀ rv rc, gsel S rv rc = gsel S' rv rc := fun rv rc => by unfold gsel; rw [hb]
  have ht : ∀ rv c q, gtr S rv c q = gtr S' rv c q := fun rv c q => by unfold gtr; rw [hd]
  intro t
  induction t with
  | zero => rfl
  | succ t ih =>
    show gstep S nb k t (gst S nb n k t) = gstep S' nb k t (gst S' nb n k t)
    rw [ih]
    unfold gstep
    simp only [hg, ht]
section
variable {prog : Program} {w : World} {A : Around} {E : Value → Shared → Prop} {s : Shared} {D1 D2 a b : Addr} {c1 c2 : Nat} {xs ys : List Value} {ns : List Nat} {Q : Value → Shared → Prop}
theorem eq_one_list (h1 : s.heap.get? D1 = some (listOf (List.toArray [.ref a]) c1)) (h2 : s.heap.get? D2 = some (listOf (List.toArray [.ref b]) c2)) (ha : s.heap.IsList a xs.toArray) (hb : s.heap.IsList b ys.toArray) (hi : Paired IntOf xs ns) (hj : Paired IntOf ys ns) (hu : A.units + 64 < cLine) (h : Q (.bool true) s) :
    wpAny (model prog w) A (compareOp .Eq (.ref D1) (.ref D2)) Q E s := by
  have ka := paired_intsAre hi
  have kb := paired_intsAre hj
  generalize (ns.map fun (n : Nat) => (n : Int)) = zs at ka kb
  have hs : SeqAt.shaped (.list [.list (zs.map PyData.int)]) = true := by
    simp only [SeqAt.shaped, PyData.canLay0, PyData.canLayAll0, PyData.depth, PyData.depthAll, ke_canLayAll0, ke_depthAll]
    decide
  refine eq_dataH (reads_list_at h1 rfl rfl (.cons (reads_newData ha (ke_carried ka)) .nil)) (reads_list_at h2 rfl rfl (.cons (reads_newData hb (ke_carried kb)) .nil)) hs hs hu ?_
  simp only [PyData.eqv, PyData.eqvAll, ked_eqvAll, decide_true, Bool.and_true]
  exact h
end
end
theorem rs6 {prog : PySem.Program} {w : PySem.World} {A : PySem.Around} {Q : PySem.Flow → PySem.Shared → Prop} {E : PySem.Value → PySem.Shared → Prop} {s : PySem.Shared} {env : PySem.Env} (h : Q .next s) : PySem.wpAny (PySem.model prog w) A (PySem.execs [] env) Q E s := by
  w_top off
  walk1
  exact h
section
open PySem PySem.W PySem.Calls PyProof.Rows PySem.Spec
set_option maxRecDepth 100000
set_option maxHeartbeats 0
def Mark1 : Prop := True
def Mark2 : Prop := True
def Hide (P : Prop) : Prop := P
local macro_rules
  | `(tactic| walk_at "eval ListComp") => `(tactic| refine' Mine.hold ?_)
  | `(tactic| walk_at "exec Assign") => `(tactic| ((fail_if_success (rename Mark1 => hM)); refine' Mine.hold_asg_n ?_))
  | `(tactic| walk_at "call ref") => `(tactic| first | refine' Mine.hold_542 ?_ | refine' Mine.hold_469 ?_ | refine' Mine.hold_579 ?_ | refine' Mine.hold_525 ?_ | refine' Mine.hold_415 ?_)
  | `(tactic| walk_at "exec For Name Name cons nil") => `(tactic| refine' Mine.hold ?_)
  | `(tactic| walk_at "subscriptTail") => `(tactic| ((fail_if_success (rename Mark1 => hM)); (rename Mark2 => hM2); refine' Mine.hold_sub ?_))
  | `(tactic| walk_at "call builtin:sorted") => `(tactic| refine' Mine.hold ?_)
  | `(tactic| walk_at "compareOp Eq ref ref") => `(tactic| refine' Mine.hold ?_)
  | `(tactic| walk_at "call builtin:len") => `(tactic| refine' Mine.hold ?_)
  | `(tactic| walk_at "exec For Name Call cons nil") => `(tactic| refine' Mine.hold ?_)
  | `(tactic| walk_at "exec Assign cons ListComp") => `(tactic| refine' Mine.hold_asg_marks ?_)
  | `(tactic| walk_at "CompSrcT") => `(tactic| refine' Mine.hold ?_)
  | `(tactic| walk_at "eval IfExp") => `(tactic| refine' Mine.hold ?_)
  | `(tactic| walk_at "exec If") => `(tactic| refine' Mine.hold ?_)
theorem lw : PySem.Challenge.rw_jg0002_01.Holds := by
  refine Mine.hd ?_
  k_fill
  intro w s₀ s₁ mg mb G Y fa o pm cd doc dV kV ho hd hcd hD hmg hg args vals as hpre hlay hrd hwl hlo
  have KX := km_in_of Y
  have hT8 := km_tabs_of Y
  have X := (Ground.X G).1
  have V := (Ground.X G).2
  refine Ground.open G ?_
  intro T B D TE TW
  try (refine guard_noD D (by decide +kernel) ?_; clear D)
  have hT9 : TabsAt ([(29, 25), (36, 32), (44, 40), (489, 485)] : List (Addr × Addr)) _ :=
    List.forall_mem_cons.mpr ⟨⟨codeHd_of_K (K := Mine.hd.heap_39 w.params) (c := 29) (P := 25) KX (by kernel_rfl), hT8 25 (by (first | k_mem | ((repeat refine' List.Mem.tail _ ?_); refine' List.mem_append_right _ ?_; first | k_mem | (refine' List.mem_append_right _ ?_; k_mem)) | simp))⟩,
    List.forall_mem_cons.mpr ⟨⟨codeHd_of_K (K := Mine.hd.heap_39 w.params) (c := 36) (P := 32) KX (by kernel_rfl), hT8 32 (by (first | k_mem | ((repeat refine' List.Mem.tail _ ?_); refine' List.mem_append_right _ ?_; first | k_mem | (refine' List.mem_append_right _ ?_; k_mem)) | simp))⟩,
    List.forall_mem_cons.mpr ⟨⟨codeHd_of_K (K := Mine.hd.heap_39 w.params) (c := 44) (P := 40) KX (by kernel_rfl), hT8 40 (by (first | k_mem | ((repeat refine' List.Mem.tail _ ?_); refine' List.mem_append_right _ ?_; first | k_mem | (refine' List.mem_append_right _ ?_; k_mem)) | simp))⟩,
    List.forall_mem_cons.mpr ⟨⟨codeHd_of_K (K := Mine.hd.heap_39 w.params) (c := 489) (P := 485) KX (by kernel_rfl), hT8 485 (by (first | k_mem | ((repeat refine' List.Mem.tail _ ?_); refine' List.mem_append_right _ ?_; first | k_mem | (refine' List.mem_append_right _ ?_; k_mem)) | simp))⟩, fun _ h => nomatch h⟩⟩⟩⟩
  clear hmg
  wrow_args hpre hlay hrd hwl hlo
  all_goals (first | refine callC_kw (enter_call ?_) | refine enter_call ?_)
  w_top on
  refine law_post hT9 (fun _ => rfl) ?_ ?_
  · exact postW_of (X := true) (by wrow_shape) (by wtm_val) rfl
  w_call any ho hd hcd hD T F
  clear hd
  kn_ghosts F T
  k_drop
  rename Fr _ _ _ _ => F0
  rename News _ _ _ _ => N0
  rename Top topProg _ _ _ _ _ => T0
  rename Frag.In _ _ => X0
  rename Below _ _ _ _ => B0
  rename_i ns hs hlay hL1 hr1 hl2 a1 a2 la vs a3 hL ra w1 r0 hI hr2 hlen htrue h1 tk1 oGO oME oLE oBA oCA oNN dGO dME dLE dBA dCA dNN cA c2 c3 c4 l0
  refine wpAny_mono (?_ : wpAny _ _ _ (LawQ (ghostOf s₁.heap [(29, 25), (36, 32), (44, 40), (489, 485)]) s₁.os [(29, 25), (36, 32), (44, 40), (489, 485)]) (fun _ _ => False) _) (fun f s' h => ?_) (fun _ _ h => h.elim)
  rotate_left
  · obtain ⟨rfl, h1, h2, h3, h4⟩ := h
    exact ⟨rfl, h1, h2, h3, h4⟩
  dsimp only at F0 N0 ⊢
  clear hT9 hT8 hr2 hr1 hl2 hs hlay hL1 hL ra w1 r0 htrue c2 c3 c4 codeHd cA hD hcd ho T TE TW X V G Y
  generalize ghostOf s₁.heap [(29, 25), (36, 32), (44, 40), (489, 485)] = g0 at *
  generalize s₁.heap.objs.size = L at *
  rename Heap.IsList _ _ _ => hL
  obtain ⟨p0, loose0, mean0, T0⟩ : ∃ p loose mean, Top p loose mean mg mb g0 := ⟨_, _, _, T0⟩
  have G0 : GOk #[] s₁.gens := by
    rw [hg]; exact GOk.refl (fun _ h => by simp at h)
  show wpAny (model PySem.Challenge.pw_jg0002_01 w) _ _ _ _ _
  repeat' walk1
  refine Mine.held ?_
  rename Fr _ _ _ _ => F1
  rename News _ _ _ _ => N1
  rename_i D1 ws1 hx1 hI1 hC1 hLe1 lt1 hy1
  refine join_val (fun tk => .int (headOf ns) tk) (fun Q' hQ' => ?_) (fun tkk1 tk1 => ?_)
  · refine IfExp_ ?_
    repeat' walk1
    · have e : (List.take 7 ns).getD (Int.toNat 0) 0 = headOf ns := by
        unfold headOf
        cases ns.take 7 <;> rfl
      rw [e]
      exact hQ' _ _
    · have e : headOf ns = 0 := by
        unfold headOf
        have : (ns.take 7) = [] := List.length_eq_zero_iff.mp (by omega)
        rw [this]; rfl
      rw [e] at hQ'
      exact hQ' _ _
  generalize hhead : headOf ns = head
  repeat' walk1
  refine Mine.held ?_
  rename Fr _ _ _ _ => F2
  rename News _ _ _ _ => N2
  have hn35 := nOf_ge head
  refine join_led (fun nx => ∃ oN tN, nx = (D1, listOf ws1.toArray 0) :: (L + 1 + 1 + 1 + 1 + 1 + 1, oGO) :: (L + 1 + 1 + 1 + 1 + 1, oME) :: (L + 1 + 1 + 1 + 1, oLE) :: (L + 1 + 1 + 1, oBA) :: (L + 1 + 1, oCA) :: (L + 1, oN) :: [(25, tabObj #[]), (32, tabObj #[]), (40, tabObj #[]), (485, tabObj #[])] ∧ oN.data = .cell (some (.int (nOf head : Int) tN))) F2 (fun Q' hQ' => ?_) ?_
  · have hM : Mark1 := trivial
    repeat' walk1
    all_goals rename Fr _ _ _ _ => F3
    all_goals rename News _ _ _ _ => N3
    all_goals clear hM
    all_goals rename (Obj.data _ = Data.cell (some _)) => dc
    all_goals rename (Int.fmod _ _ = _) => kEq
    all_goals obtain ⟨tN, dn⟩ := cell_n kEq dc (by decide)
    all_goals exact hQ' _ _ _ F3 (newsSub N3 fun p hp => .tail _ hp) ⟨_, tN, rfl, dn⟩
  rintro h3 tk3 nx3 F3 N3 ⟨oN, tN, rfl, dN⟩
  generalize nOf head = n at *
  repeat' walk1
  refine Mine.held ?_
  rename Fr _ _ _ _ => F4
  rename News _ _ _ _ => N4
  rw [kOf_fmod head n (by omega)] at F4
  have hk := kOf_le head n (by omega)
  generalize kOf head n = k at *
  refine ListComp_Ce F4 (by with_unfolding_all rfl) (fun _ => rfl) (fun _ => rfl) (by rfl) (by decide) (fun _ _ => rfl) ?_
  refine join_new (fun v nx => ∃ ax vs2 c2, v = .ref ax ∧ nx = (ax, listOf (List.toArray vs2) c2) :: (L + 1 + 1 + 1 + 1 + 1 + 1, oGO) :: (L + 1 + 1 + 1 + 1 + 1, oME) :: (L + 1 + 1 + 1 + 1, oLE) :: (L + 1 + 1 + 1, oBA) :: (L + 1 + 1, oCA) :: (L + 1, oN) :: [(25, tabObj #[]), (32, tabObj #[]), (40, tabObj #[]), (485, tabObj #[])] ∧ IntsAre vs2 (numsOf ns)) F4 (fun Q' hQ' => ?_) ?_
  · repeat' walk1
    · rename Fr _ _ _ _ => F6
      rename News _ _ _ _ => N6
      exact hQ' _ _ _ _ F6 (sub2 N6) ⟨_, _, _, rfl, rfl, by rw [numsOf_pos (by assumption)]; assumption⟩
    · rename Fr _ _ _ _ => F6
      rename News _ _ _ _ => N6
      exact hQ' _ _ _ _ F6 (sub2 (sub2 N6)) ⟨_, [_], 0, rfl, rfl, by rw [numsOf_nil (by omega)]; exact .cons _ _ .nil⟩
  · rintro v h5 tk5 nx5 F5 N5 ⟨ax, vs2, c2, rfl, rfl, hI2⟩
    clear F4 N4
    refine ⟨ax, List.toArray vs2, _, fun i ys nx => ∃ bl, nx = (ax, listOf (List.toArray vs2) c2) :: (L + 1 + 1 + 1 + 1 + 1 + 1, oGO) :: (L + 1 + 1 + 1 + 1 + 1, oME) :: (L + 1 + 1 + 1 + 1, oLE) :: (L + 1 + 1 + 1, oBA) :: (L + 1 + 1, oCA) :: (L + 1, oN) :: (25, tabObj #[]) :: (32, tabObj #[]) :: (40, tabObj #[]) :: (485, tabObj #[]) :: bl ∧ Bal bl ys (((numsOf ns).map (ballotOf n)).take i) ∧ (∀ q ∈ bl, ∀ p ∈ (ax, listOf (List.toArray vs2) c2) :: (L + 1 + 1 + 1 + 1 + 1 + 1, oGO) :: (L + 1 + 1 + 1 + 1 + 1, oME) :: (L + 1 + 1 + 1 + 1, oLE) :: (L + 1 + 1 + 1, oBA) :: (L + 1 + 1, oCA) :: (L + 1, oN) :: (25, tabObj #[]) :: (32, tabObj #[]) :: (40, tabObj #[]) :: (485, tabObj #[]) :: [], @Ne Nat p.1 q.1), rfl, rfl, F5, N5, .inr ⟨_, .head _, rfl, c2, rfl⟩, ?_, ⟨[], rfl, .nil, fun q h => nomatch h⟩, fun g => ?_, ?_⟩
    · have := numsOf_len ns
      have := hI2.length
      show vs2.length ≤ _
      rw [sizeLine_eq]; omega
    · rintro i ys nx v I oI C oC K oK D h6 tk6 E' hi ⟨bl, rfl, hB, hof⟩ hPv hK F6 N6 off hne
      clear F5 N5
      obtain ⟨z, tz, hz, rfl⟩ := ints_at hI2 (by simpa using hPv)
      rw [List.forIn_nil]
      refine wpAny_pure ?_
      rw [if_pos rfl]
      refine' LCt.ListComp_T (F₀ := F6) (by with_unfolding_all rfl) (by decide) (by rfl) (by decide) (by rfl) ?_
      walk1
      refine cgl_built F6 X0 T0 (by k_is) (by boot_by_name) (by decide) ?_
      repeat' walk1
      refine Mine.held ?_
      rename Fr _ _ _ _ => F7
      rename News _ _ _ _ => N7
      rename IsRange _ _ _ _ _ _ _ _ => R7
      refine LCt.CompSrcT.range (n := n) rfl F7 N7 R7 (by exact small_one (by omega) (by omega) (by omega) (by omega)) ?_ (by rw [sizeLine_eq]; omega) (fun g => ?_)
      · have := rangeSize_nat n
        simpa using this
      refine compT_ind (fun i' ys nx => nx = _ ∧ Paired IntOf ys ((List.range n).take i' |>.filter (bitOf z))) ?_ ?_ _ 0 [] _ (Nat.zero_add _) ⟨rfl, by simpa using .nil⟩
      · rintro i3 ys3 nx3 v3 I3 oI3 C3 oC3 D3 m3 h8 tk8 E'' hi3 ⟨rfl, hys⟩ ⟨t3, rfl⟩ hC3 hx3 F8 N8 off3 hne3
        rw [show (0 : Int) + (i3 : Int) = (i3 : Int) from by omega] at hx3
        repeat' walk1
        · exact LCg.CompEnd.intro (by assumption) (by assumption) _ (fun p hp => hp) off3 trivial ⟨rfl, filter_yes hys (range_at hi3) (bit_yes (by assumption))⟩
        · exact LCg.CompEnd.intro (by assumption) (by assumption) _ (fun p hp => hp) off3 trivial ⟨rfl, filter_no hys (range_at hi3) (bit_no (by assumption))⟩
      · rintro ys3 nx3 ⟨rfl, hys⟩
        rw [List.take_of_length_le (by simp)] at hys
        intro D9 h9 tk9 F9 N9 o9
        have o9m := off1_mem o9
        refine ⟨_, _, _, (ax, listOf (List.toArray vs2) c2) :: (L + 1 + 1 + 1 + 1 + 1 + 1, oGO) :: (L + 1 + 1 + 1 + 1 + 1, oME) :: (L + 1 + 1 + 1 + 1, oLE) :: (L + 1 + 1 + 1, oBA) :: (L + 1 + 1, oCA) :: (L + 1, oN) :: (25, tabObj #[]) :: (32, tabObj #[]) :: (40, tabObj #[]) :: (485, tabObj #[]) :: (D9, LCg.lst ys3) :: bl, rfl, F9, N9, ?_, ?_, .inr ⟨_, .head _, rfl, c2, rfl⟩, (D9, LCg.lst ys3) :: bl, rfl, bal_snoc hB (by rw [List.getElem?_map, hz]; rfl) hys, ?_⟩
        · ((repeat' (first | refine Mine.all_cons ?_ ?_ | exact Mine.all_nil | refine Mine.all_app ?_ ?_)); (all_goals (first | (intro p h; ((repeat (first | exact h | exact List.mem_append_left _ h | exact List.mem_append_right _ h | exact List.mem_append_right _ (List.mem_append_left _ h) | refine' List.Mem.tail _ ?_)); done)) | (first | k_mem | ((repeat refine' List.Mem.tail _ ?_); refine' List.mem_append_right _ ?_; first | k_mem | (refine' List.mem_append_right _ ?_; k_mem)) | simp))))
        · (repeat' (first | refine Mine.all_cons ?_ ?_ | exact Mine.all_nil | refine Mine.all_app ?_ ?_))
          all_goals try intro p h
          iterate 11 exact off _ (by (first | k_mem | ((repeat refine' List.Mem.tail _ ?_); refine' List.mem_append_right _ ?_; first | k_mem | (refine' List.mem_append_right _ ?_; k_mem)) | simp))
          · exact ⟨Ne.symm (o9m (I, oI) (by (first | k_mem | ((repeat refine' List.Mem.tail _ ?_); refine' List.mem_append_right _ ?_; first | k_mem | (refine' List.mem_append_right _ ?_; k_mem)) | simp))), Ne.symm (o9m (C, oC) (by (first | k_mem | ((repeat refine' List.Mem.tail _ ?_); refine' List.mem_append_right _ ?_; first | k_mem | (refine' List.mem_append_right _ ?_; k_mem)) | simp))), Ne.symm (o9m (K, oK) (by (first | k_mem | ((repeat refine' List.Mem.tail _ ?_); refine' List.mem_append_right _ ?_; first | k_mem | (refine' List.mem_append_right _ ?_; k_mem)) | simp))), Ne.symm (o9m (D, LCg.lst ys) (by (first | k_mem | ((repeat refine' List.Mem.tail _ ?_); refine' List.mem_append_right _ ?_; first | k_mem | (refine' List.mem_append_right _ ?_; k_mem)) | simp)))⟩
          · exact off p (by ((repeat (first | exact h | exact List.mem_append_left _ h | exact List.mem_append_right _ h | exact List.mem_append_right _ (List.mem_append_left _ h) | refine' List.Mem.tail _ ?_)); done))
        · intro q hq p hp
          rcases List.mem_cons.mp hq with e | hq
          · rw [e]
            exact o9m p (by revert p; ((repeat' (first | refine Mine.all_cons ?_ ?_ | exact Mine.all_nil | refine Mine.all_app ?_ ?_)); (all_goals (first | (intro p h; ((repeat (first | exact h | exact List.mem_append_left _ h | exact List.mem_append_right _ h | exact List.mem_append_right _ (List.mem_append_left _ h) | refine' List.Mem.tail _ ?_)); done)) | (first | k_mem | ((repeat refine' List.Mem.tail _ ?_); refine' List.mem_append_right _ ?_; first | k_mem | (refine' List.mem_append_right _ ?_; k_mem)) | simp)))))
          · exact hof q hq p hp
    · rintro D7 g7 tk7 ys7 nx7 F7 N7 o7 ⟨bl, rfl, hB, hof⟩
      rw [List.take_of_length_le (by have := hI2.length; simp [this])] at hB
      have hbs := bs_len (n := n) (ns := ns)
      have hgood : ∀ {i : Nat} {b : List Nat}, ((numsOf ns).map (ballotOf n))[i]? = some b → b.Nodup ∧ ∀ x ∈ b, x < n := fun h => bs_good h
      generalize (numsOf ns).map (ballotOf n) = bs at hB hbs hgood
      have o7m := off1_mem o7
      have N8 := sub2 N7
      clear N5 F5 N7
      repeat' walk1
      refine stCN (own := [(D7, _), (L + 1 + 1 + 1 + 1 + 1 + 1, oGO), (L + 1 + 1 + 1 + 1 + 1, oME), (L + 1 + 1 + 1 + 1, oLE)]) (c := L + 1 + 1 + 1) (o := oBA) F7 N8 rfl dBA ?_ ?_ ?_
      · (repeat' (first | refine Mine.all_cons ?_ ?_ | exact Mine.all_nil | refine Mine.all_app ?_ ?_))
        all_goals try intro q h
        · exact Ne.symm (o7m (L + 1 + 1 + 1, oBA) (by (first | k_mem | ((repeat refine' List.Mem.tail _ ?_); refine' List.mem_append_right _ ?_; first | k_mem | (refine' List.mem_append_right _ ?_; k_mem)) | simp)))
        · (first | exact Nat.ne_of_gt (by assumption) | exact Nat.ne_of_lt (by assumption) | exact ne_lit (by assumption) rfl | exact Ne.symm (ne_lit (by assumption) rfl) | exact ne_c1 | exact Ne.symm ne_c1 | exact ne_c2 | exact Ne.symm ne_c2 | exact ne_c3 | exact Ne.symm ne_c3 | exact ne_c4 | exact Ne.symm ne_c4 | exact ne_c5 | exact Ne.symm ne_c5 | exact Nat.ne_of_gt (by omega) | exact Nat.ne_of_lt (by omega))
        · (first | exact Nat.ne_of_gt (by assumption) | exact Nat.ne_of_lt (by assumption) | exact ne_lit (by assumption) rfl | exact Ne.symm (ne_lit (by assumption) rfl) | exact ne_c1 | exact Ne.symm ne_c1 | exact ne_c2 | exact Ne.symm ne_c2 | exact ne_c3 | exact Ne.symm ne_c3 | exact ne_c4 | exact Ne.symm ne_c4 | exact ne_c5 | exact Ne.symm ne_c5 | exact Nat.ne_of_gt (by omega) | exact Nat.ne_of_lt (by omega))
        · (first | exact Nat.ne_of_gt (by assumption) | exact Nat.ne_of_lt (by assumption) | exact ne_lit (by assumption) rfl | exact Ne.symm (ne_lit (by assumption) rfl) | exact ne_c1 | exact Ne.symm ne_c1 | exact ne_c2 | exact Ne.symm ne_c2 | exact ne_c3 | exact Ne.symm ne_c3 | exact ne_c4 | exact Ne.symm ne_c4 | exact ne_c5 | exact Ne.symm ne_c5 | exact Nat.ne_of_gt (by omega) | exact Nat.ne_of_lt (by omega))
      · (repeat' (first | refine Mine.all_cons ?_ ?_ | exact Mine.all_nil | refine Mine.all_app ?_ ?_))
        all_goals try intro q h
        · (first | exact Nat.ne_of_gt (by assumption) | exact Nat.ne_of_lt (by assumption) | exact ne_lit (by assumption) rfl | exact Ne.symm (ne_lit (by assumption) rfl) | exact ne_c1 | exact Ne.symm ne_c1 | exact ne_c2 | exact Ne.symm ne_c2 | exact ne_c3 | exact Ne.symm ne_c3 | exact ne_c4 | exact Ne.symm ne_c4 | exact ne_c5 | exact Ne.symm ne_c5 | exact Nat.ne_of_gt (by omega) | exact Nat.ne_of_lt (by omega))
        · (first | exact Nat.ne_of_gt (by assumption) | exact Nat.ne_of_lt (by assumption) | exact ne_lit (by assumption) rfl | exact Ne.symm (ne_lit (by assumption) rfl) | exact ne_c1 | exact Ne.symm ne_c1 | exact ne_c2 | exact Ne.symm ne_c2 | exact ne_c3 | exact Ne.symm ne_c3 | exact ne_c4 | exact Ne.symm ne_c4 | exact ne_c5 | exact Ne.symm ne_c5 | exact Nat.ne_of_gt (by omega) | exact Nat.ne_of_lt (by omega))
        · (first | exact Nat.ne_of_gt (by assumption) | exact Nat.ne_of_lt (by assumption) | exact ne_lit (by assumption) rfl | exact Ne.symm (ne_lit (by assumption) rfl) | exact ne_c1 | exact Ne.symm ne_c1 | exact ne_c2 | exact Ne.symm ne_c2 | exact ne_c3 | exact Ne.symm ne_c3 | exact ne_c4 | exact Ne.symm ne_c4 | exact ne_c5 | exact Ne.symm ne_c5 | exact Nat.ne_of_gt (by omega) | exact Nat.ne_of_lt (by omega))
        · (first | exact Nat.ne_of_gt (by assumption) | exact Nat.ne_of_lt (by assumption) | exact ne_lit (by assumption) rfl | exact Ne.symm (ne_lit (by assumption) rfl) | exact ne_c1 | exact Ne.symm ne_c1 | exact ne_c2 | exact Ne.symm ne_c2 | exact ne_c3 | exact Ne.symm ne_c3 | exact ne_c4 | exact Ne.symm ne_c4 | exact ne_c5 | exact Ne.symm ne_c5 | exact Nat.ne_of_gt (by omega) | exact Nat.ne_of_lt (by omega))
        · (first | exact Nat.ne_of_gt (by assumption) | exact Nat.ne_of_lt (by assumption) | exact ne_lit (by assumption) rfl | exact Ne.symm (ne_lit (by assumption) rfl) | exact ne_c1 | exact Ne.symm ne_c1 | exact ne_c2 | exact Ne.symm ne_c2 | exact ne_c3 | exact Ne.symm ne_c3 | exact ne_c4 | exact Ne.symm ne_c4 | exact ne_c5 | exact Ne.symm ne_c5 | exact Nat.ne_of_gt (by omega) | exact Nat.ne_of_lt (by omega))
        · (first | exact Nat.ne_of_gt (by assumption) | exact Nat.ne_of_lt (by assumption) | exact ne_lit (by assumption) rfl | exact Ne.symm (ne_lit (by assumption) rfl) | exact ne_c1 | exact Ne.symm ne_c1 | exact ne_c2 | exact Ne.symm ne_c2 | exact ne_c3 | exact Ne.symm ne_c3 | exact ne_c4 | exact Ne.symm ne_c4 | exact ne_c5 | exact Ne.symm ne_c5 | exact Nat.ne_of_gt (by omega) | exact Nat.ne_of_lt (by omega))
        · exact Ne.symm (hof q h (L + 1 + 1 + 1, oBA) (by (first | k_mem | ((repeat refine' List.Mem.tail _ ?_); refine' List.mem_append_right _ ?_; first | k_mem | (refine' List.mem_append_right _ ?_; k_mem)) | simp)))
      intro h8 oB8 F8 N8' d8
      clear F7 N8
      dsimp only [List.cons_append, List.nil_append] at N8'
      repeat' walk1
      refine Mine.held ?_
      rename Fr _ _ _ _ => F9
      rename News _ _ _ _ => N9
      refine profile_new B0 F9 X0 N9 T0 (by omega) (by omega) (dep_law (by decide)) (uni_law (envOfC (Str.ofString "law") default L fa cd) (by decide)) ?_
      intro v1 c1 x1 d1 cs1 cc1 t11 t12 t13 n1 h10 tk10 F10 N10 lt1 lt1x lt1c lt1v hI1
      clear F9 N9
      repeat' walk1
      refine Mine.held ?_
      rename Fr _ _ _ _ => F11
      rename News _ _ _ _ => N11
      refine profile_new B0 F11 X0 N11 T0 (by omega) (by omega) (dep_law (by decide)) (uni_law (envOfC (Str.ofString "law") default L fa cd) (by decide)) ?_
      intro v2 c2 x2 d2 cs2 cc2 t21 t22 t23 n2 h12 tk12 F12 N12 lt2 lt2x lt2c lt2v hI2'
      clear F11 N11
      repeat' walk1
      refine Mine.held ?_
      rename Fr _ _ _ _ => F13
      rename News _ _ _ _ => N13
      have q485 : (485 : Nat) < d1 := lt1 (485, tabObj #[]) (by (first | k_mem | ((repeat refine' List.Mem.tail _ ?_); refine' List.mem_append_right _ ?_; first | k_mem | (refine' List.mem_append_right _ ?_; k_mem)) | simp))
      have qD7 : @LT.lt Nat _ D7 d1 := lt1 (D7, LCg.lst ys7) (by (first | k_mem | ((repeat refine' List.Mem.tail _ ?_); refine' List.mem_append_right _ ?_; first | k_mem | (refine' List.mem_append_right _ ?_; k_mem)) | simp))
      have qL6 : @LT.lt Nat _ (L + 1 + 1 + 1 + 1 + 1 + 1) d1 := lt1 (L + 1 + 1 + 1 + 1 + 1 + 1, oGO) (by (first | k_mem | ((repeat refine' List.Mem.tail _ ?_); refine' List.mem_append_right _ ?_; first | k_mem | (refine' List.mem_append_right _ ?_; k_mem)) | simp))
      have qbl : ∀ q ∈ bl, @LT.lt Nat _ q.1 d1 := fun q h => lt1 q (by ((repeat (first | exact h | exact List.mem_append_left _ h | exact List.mem_append_right _ h | exact List.mem_append_right _ (List.mem_append_left _ h) | refine' List.Mem.tail _ ?_)); done))
      have qv1 : @LT.lt Nat _ v1 d2 := lt2 (v1, listOf #[] 0) (by (first | k_mem | ((repeat refine' List.Mem.tail _ ?_); refine' List.mem_append_right _ ?_; first | k_mem | (refine' List.mem_append_right _ ?_; k_mem)) | simp))
      have qL : (485 : Nat) < L := l0.2.2.2
      have nD : @Ne Nat 25 D7 ∧ @Ne Nat 32 D7 ∧ @Ne Nat 40 D7 ∧ @Ne Nat 485 D7 := ⟨o7m (25, tabObj #[]) (by (first | k_mem | ((repeat refine' List.Mem.tail _ ?_); refine' List.mem_append_right _ ?_; first | k_mem | (refine' List.mem_append_right _ ?_; k_mem)) | simp)), o7m (32, tabObj #[]) (by (first | k_mem | ((repeat refine' List.Mem.tail _ ?_); refine' List.mem_append_right _ ?_; first | k_mem | (refine' List.mem_append_right _ ?_; k_mem)) | simp)), o7m (40, tabObj #[]) (by (first | k_mem | ((repeat refine' List.Mem.tail _ ?_); refine' List.mem_append_right _ ?_; first | k_mem | (refine' List.mem_append_right _ ?_; k_mem)) | simp)), o7m (485, tabObj #[]) (by (first | k_mem | ((repeat refine' List.Mem.tail _ ?_); refine' List.mem_append_right _ ?_; first | k_mem | (refine' List.mem_append_right _ ?_; k_mem)) | simp))⟩
      have nbl : ∀ q ∈ bl, @Ne Nat 25 q.1 ∧ @Ne Nat 32 q.1 ∧ @Ne Nat 40 q.1 ∧ @Ne Nat 485 q.1 := fun q h => ⟨hof q h (25, tabObj #[]) (by (first | k_mem | ((repeat refine' List.Mem.tail _ ?_); refine' List.mem_append_right _ ?_; first | k_mem | (refine' List.mem_append_right _ ?_; k_mem)) | simp)), hof q h (32, tabObj #[]) (by (first | k_mem | ((repeat refine' List.Mem.tail _ ?_); refine' List.mem_append_right _ ?_; first | k_mem | (refine' List.mem_append_right _ ?_; k_mem)) | simp)), hof q h (40, tabObj #[]) (by (first | k_mem | ((repeat refine' List.Mem.tail _ ?_); refine' List.mem_append_right _ ?_; first | k_mem | (refine' List.mem_append_right _ ?_; k_mem)) | simp)), hof q h (485, tabObj #[]) (by (first | k_mem | ((repeat refine' List.Mem.tail _ ?_); refine' List.mem_append_right _ ?_; first | k_mem | (refine' List.mem_append_right _ ?_; k_mem)) | simp))⟩
      have k1x : @LT.lt Nat _ 485 x1 := Nat.lt_trans q485 lt1x
      have k1c : @LT.lt Nat _ 485 c1 := Nat.lt_trans k1x lt1c
      have k1v : @LT.lt Nat _ 485 v1 := Nat.lt_trans k1c lt1v
      have k2d : @LT.lt Nat _ 485 d2 := Nat.lt_trans k1v qv1
      have k2x : @LT.lt Nat _ 485 x2 := Nat.lt_trans k2d lt2x
      have k2c : @LT.lt Nat _ 485 c2 := Nat.lt_trans k2x lt2c
      have k2v : @LT.lt Nat _ 485 v2 := Nat.lt_trans k2c lt2v
      have kL1 : @LT.lt Nat _ 485 (L + 1) := Nat.lt_succ_of_lt qL
      have kL2 : @LT.lt Nat _ 485 (L + 1 + 1) := Nat.lt_succ_of_lt kL1
      have kL3 : @LT.lt Nat _ 485 (L + 1 + 1 + 1) := Nat.lt_succ_of_lt kL2
      have kL4 : @LT.lt Nat _ 485 (L + 1 + 1 + 1 + 1) := Nat.lt_succ_of_lt kL3
      have kL5 : @LT.lt Nat _ 485 (L + 1 + 1 + 1 + 1 + 1) := Nat.lt_succ_of_lt kL4
      have kL6 : @LT.lt Nat _ 485 (L + 1 + 1 + 1 + 1 + 1 + 1) := Nat.lt_succ_of_lt kL5
      have e1x : @LT.lt Nat _ x1 v1 := Nat.lt_trans lt1c lt1v
      have e1d : @LT.lt Nat _ d1 v1 := Nat.lt_trans lt1x e1x
      have e17 : @LT.lt Nat _ D7 v1 := Nat.lt_trans qD7 e1d
      have e16 : @LT.lt Nat _ (L + 1 + 1 + 1 + 1 + 1 + 1) v1 := Nat.lt_trans qL6 e1d
      have e15 : @LT.lt Nat _ (L + 1 + 1 + 1 + 1 + 1) v1 := Nat.lt_of_succ_lt e16
      have e14 : @LT.lt Nat _ (L + 1 + 1 + 1 + 1) v1 := Nat.lt_of_succ_lt e15
      have e13 : @LT.lt Nat _ (L + 1 + 1 + 1) v1 := Nat.lt_of_succ_lt e14
      have e12 : @LT.lt Nat _ (L + 1 + 1) v1 := Nat.lt_of_succ_lt e13
      have e11 : @LT.lt Nat _ (L + 1) v1 := Nat.lt_of_succ_lt e12
      have f1x : @LT.lt Nat _ v1 x2 := Nat.lt_trans qv1 lt2x
      have f1c : @LT.lt Nat _ v1 c2 := Nat.lt_trans f1x lt2c
      have f1v : @LT.lt Nat _ v1 v2 := Nat.lt_trans f1c lt2v
      have g2x : @LT.lt Nat _ x2 v2 := Nat.lt_trans lt2c lt2v
      have g2d : @LT.lt Nat _ d2 v2 := Nat.lt_trans lt2x g2x
      have g1c : @LT.lt Nat _ c1 v2 := Nat.lt_trans lt1v f1v
      have g1x : @LT.lt Nat _ x1 v2 := Nat.lt_trans lt1c g1c
      have g1d : @LT.lt Nat _ d1 v2 := Nat.lt_trans lt1x g1x
      have g7 : @LT.lt Nat _ D7 v2 := Nat.lt_trans qD7 g1d
      have g6_ : @LT.lt Nat _ (L + 1 + 1 + 1 + 1 + 1 + 1) v2 := Nat.lt_trans e16 f1v
      have g5_ : @LT.lt Nat _ (L + 1 + 1 + 1 + 1 + 1) v2 := Nat.lt_trans e15 f1v
      have g4_ : @LT.lt Nat _ (L + 1 + 1 + 1 + 1) v2 := Nat.lt_trans e14 f1v
      have g3_ : @LT.lt Nat _ (L + 1 + 1 + 1) v2 := Nat.lt_trans e13 f1v
      have g2_ : @LT.lt Nat _ (L + 1 + 1) v2 := Nat.lt_trans e12 f1v
      have g1_ : @LT.lt Nat _ (L + 1) v2 := Nat.lt_trans e11 f1v
      have h6x1 : @LT.lt Nat _ (L + 1 + 1 + 1 + 1 + 1 + 1) x1 := Nat.lt_trans qL6 lt1x
      have h6c1 : @LT.lt Nat _ (L + 1 + 1 + 1 + 1 + 1 + 1) c1 := Nat.lt_trans h6x1 lt1c
      have h6d2 : @LT.lt Nat _ (L + 1 + 1 + 1 + 1 + 1 + 1) d2 := Nat.lt_trans e16 qv1
      have h6x2 : @LT.lt Nat _ (L + 1 + 1 + 1 + 1 + 1 + 1) x2 := Nat.lt_trans h6d2 lt2x
      have h6c2 : @LT.lt Nat _ (L + 1 + 1 + 1 + 1 + 1 + 1) c2 := Nat.lt_trans h6x2 lt2c
      refine For_listM (g₀ := #[]) (l := D7) (ol := LCg.lst ys7) (items := List.toArray ys7) F13 (fun m0 i m' nx => ∃ u w1 k1 w2 k2 p1 ex, nx = (v2, listOf w2 k2) :: (c2, listOf (List.toArray cs2) cc2) :: (x2, instObj 542 d2) :: (d2, profD w c2 n2 v2 t21 t22 t23) :: (v1, listOf w1 k1) :: (c1, listOf (List.toArray cs1) cc1) :: (x1, instObj 542 d1) :: (d1, profD w c1 n1 v1 t11 t12 t13) :: (D7, LCg.lst ys7) :: (L + 1 + 1 + 1 + 1 + 1 + 1, oGO) :: (L + 1 + 1 + 1 + 1 + 1, oME) :: (L + 1 + 1 + 1 + 1, oLE) :: (L + 1 + 1 + 1, oB8) :: (L + 1 + 1, oCA) :: (L + 1, oN) :: (25, tabObj p1) :: (32, tabObj #[]) :: (40, tabObj #[]) :: (485, tabObj #[]) :: (ex ++ bl) ∧ m' = (fun y => if y = Str.ofString "ballot" then u else m0 y) ∧ TriplesOk p1.toList ∧ Vot w (fun _ => 1) ex w1 (bs.take i) ∧ Vot w (fun _ => 1) ex w2 (bs.take i) ∧ (∀ q ∈ ex, @LT.lt Nat _ v2 q.1)) N13 G0 rfl (by (first | k_mem | ((repeat refine' List.Mem.tail _ ?_); refine' List.mem_append_right _ ?_; first | k_mem | (refine' List.mem_append_right _ ?_; k_mem)) | simp)) ?hls ?hlk ?hiter (fun _ _ => rfl) ?h0 ?step ?fin
      case hls => exact ⟨_, (N13 (D7, LCg.lst ys7) (by (first | k_mem | ((repeat refine' List.Mem.tail _ ?_); refine' List.mem_append_right _ ?_; first | k_mem | (refine' List.mem_append_right _ ?_; k_mem)) | simp))).1, rfl, _, rfl⟩
      case hlk =>
        rintro i m' nx ⟨u, w1, k1, w2, k2, p1, ex, rfl, _⟩
        (first | k_mem | ((repeat refine' List.Mem.tail _ ?_); refine' List.mem_append_right _ ?_; first | k_mem | (refine' List.mem_append_right _ ?_; k_mem)) | simp)
      case hiter =>
        intro Q' hQ'
        repeat' walk1
        exact hQ'
      case h0 =>
        exact ⟨_, #[], 0, #[], 0, #[], [], rfl, map_one _ _, trivial, .nil, .nil, fun q h => nomatch h⟩
      case step =>
        intro i v m' nx s₂ I oI hi hVJ
        refine ex7_elim hVJ ?_
        clear hVJ
        rintro u w1 k1 w2 k2 p1 ex rfl rfl htr hV1 hV2 hex hIn F14 N14 G14 eo14 lI
        obtain ⟨b, hb, l, vsl, cl, rfl, hml, hpl⟩ := paired_at hB (by simpa using hi)
        dsimp only [List.cons_append] at N14
        rw [List.append_assoc] at N14
        have hsz : ((bs.take i).length) ≤ 6 := Nat.le_trans (List.length_take_le' _ _) hbs.2
        have hs1 := hV1.1
        have hs2 := hV2.1
        obtain ⟨hbd, hbn⟩ := hgood hb
        repeat' walk1
        refine Mine.held ?_
        rename Fr _ _ _ _ => F15
        rename News _ _ _ _ => N15
        refine add_voter (g₀ := #[]) (n := n) (d := d1) (c := c1) (n' := n1) (cvs := cs1) (cc := cc1) (t1 := t11) (t2 := t12) (t3 := t13) ((v2, listOf w2 k2) :: (c2, listOf (List.toArray cs2) cc2) :: (x2, instObj 542 d2) :: (d2, profD w c2 n2 v2 t21 t22 t23) :: []) ((c1, listOf (List.toArray cs1) cc1) :: (x1, instObj 542 d1) :: (d1, profD w c1 n1 v1 t11 t12 t13) :: (D7, LCg.lst ys7) :: (L + 1 + 1 + 1 + 1 + 1 + 1, oGO) :: (L + 1 + 1 + 1 + 1 + 1, oME) :: (L + 1 + 1 + 1 + 1, oLE) :: (L + 1 + 1 + 1, oB8) :: (L + 1 + 1, oCA) :: (L + 1, oN) :: []) (post := (32, tabObj #[]) :: (40, tabObj #[]) :: (485, tabObj #[]) :: (ex ++ (bl ++ [(I, oI)]))) B0 F15 X0 N15 ?hne ?hnv htr G14 T0 (by (first | k_mem | ((repeat refine' List.Mem.tail _ ?_); refine' List.mem_append_right _ ?_; first | k_mem | (refine' List.mem_append_right _ ?_; k_mem)) | simp)) (by (first | k_mem | ((repeat refine' List.Mem.tail _ ?_); refine' List.mem_append_right _ ?_; first | k_mem | (refine' List.mem_append_right _ ?_; k_mem)) | simp)) (by (first | k_mem | ((repeat refine' List.Mem.tail _ ?_); refine' List.mem_append_right _ ?_; first | k_mem | (refine' List.mem_append_right _ ?_; k_mem)) | simp)) (range_len hI1) (by omega) (l := l) (vs := vsl) (nn := cl) (by simp [hml]) hpl hbd (fun x hx => lt5_mem (by have := hbn x hx; omega)) hbn (dep_law (by decide)) (uni_law (envOfC (Str.ofString "law") default L fa cd) (by decide)) (by omega) ?hQ1
        case hne =>
          (repeat' (first | refine Mine.all_cons ?_ ?_ | exact Mine.all_nil | refine Mine.all_app ?_ ?_))
          all_goals try intro q h
          iterate 8 (first | exact Nat.ne_of_gt (by assumption) | exact Nat.ne_of_lt (by assumption) | exact ne_lit (by assumption) rfl | exact Ne.symm (ne_lit (by assumption) rfl) | exact ne_c1 | exact Ne.symm ne_c1 | exact ne_c2 | exact Ne.symm ne_c2 | exact ne_c3 | exact Ne.symm ne_c3 | exact ne_c4 | exact Ne.symm ne_c4 | exact ne_c5 | exact Ne.symm ne_c5 | exact Nat.ne_of_gt (by omega) | exact Nat.ne_of_lt (by omega))
          · exact Ne.symm nD.1
          iterate 6 (first | exact Nat.ne_of_gt (by assumption) | exact Nat.ne_of_lt (by assumption) | exact ne_lit (by assumption) rfl | exact Ne.symm (ne_lit (by assumption) rfl) | exact ne_c1 | exact Ne.symm ne_c1 | exact ne_c2 | exact Ne.symm ne_c2 | exact ne_c3 | exact Ne.symm ne_c3 | exact ne_c4 | exact Ne.symm ne_c4 | exact ne_c5 | exact Ne.symm ne_c5 | exact Nat.ne_of_gt (by omega) | exact Nat.ne_of_lt (by omega))
          iterate 3 exact Nat.ne_of_gt (by decide)
          · have := hex q h; first | exact ne_lit (Nat.lt_trans k2v this) rfl | exact Nat.ne_of_gt this | exact Nat.ne_of_gt (Nat.lt_trans f1v this)
          · exact Ne.symm (nbl q h).1
          · exact Ne.symm (hIn (25, tabObj p1) (by (first | k_mem | ((repeat refine' List.Mem.tail _ ?_); refine' List.mem_append_right _ ?_; first | k_mem | (refine' List.mem_append_right _ ?_; k_mem)) | simp)))
        case hnv =>
          (repeat' (first | refine Mine.all_cons ?_ ?_ | exact Mine.all_nil | refine Mine.all_app ?_ ?_))
          all_goals try intro q h
          iterate 4 (first | exact Nat.ne_of_gt (by assumption) | exact Nat.ne_of_lt (by assumption) | exact ne_lit (by assumption) rfl | exact Ne.symm (ne_lit (by assumption) rfl) | exact ne_c1 | exact Ne.symm ne_c1 | exact ne_c2 | exact Ne.symm ne_c2 | exact ne_c3 | exact Ne.symm ne_c3 | exact ne_c4 | exact Ne.symm ne_c4 | exact ne_c5 | exact Ne.symm ne_c5 | exact Nat.ne_of_gt (by omega) | exact Nat.ne_of_lt (by omega))
          iterate 14 (first | exact Nat.ne_of_gt (by assumption) | exact Nat.ne_of_lt (by assumption) | exact ne_lit (by assumption) rfl | exact Ne.symm (ne_lit (by assumption) rfl) | exact ne_c1 | exact Ne.symm ne_c1 | exact ne_c2 | exact Ne.symm ne_c2 | exact ne_c3 | exact Ne.symm ne_c3 | exact ne_c4 | exact Ne.symm ne_c4 | exact ne_c5 | exact Ne.symm ne_c5 | exact Nat.ne_of_gt (by omega) | exact Nat.ne_of_lt (by omega))
          · have := hex q h; first | exact ne_lit (Nat.lt_trans k2v this) rfl | exact Nat.ne_of_gt this | exact Nat.ne_of_gt (Nat.lt_trans f1v this)
          · have := qbl q h; first | exact Nat.ne_of_lt (Nat.lt_trans this e1d) | exact Nat.ne_of_lt (Nat.lt_trans this g1d)
          · exact Ne.symm (hIn (v1, listOf w1 k1) (by (first | k_mem | ((repeat refine' List.Mem.tail _ ?_); refine' List.mem_append_right _ ?_; first | k_mem | (refine' List.mem_append_right _ ?_; k_mem)) | simp)))
        case hQ1 =>
          intro a1 o1 y1 e1 p2 s1 s2 s3 s4 F16 N16 lt16 lt16x lt16a S16 tr16 G16 eo16
          clear F15 N15
          dsimp only [List.cons_append, List.nil_append] at N16 lt16
          repeat' walk1
          refine Mine.held ?_
          rename Fr _ _ _ _ => F17
          rename News _ _ _ _ => N17
          have qv2 : @LT.lt Nat _ v2 e1 := lt16 (v2, listOf w2 k2) (by (first | k_mem | ((repeat refine' List.Mem.tail _ ?_); refine' List.mem_append_right _ ?_; first | k_mem | (refine' List.mem_append_right _ ?_; k_mem)) | simp))
          have qv2y : @LT.lt Nat _ v2 y1 := Nat.lt_trans qv2 lt16x
          have qv2a : @LT.lt Nat _ v2 a1 := Nat.lt_trans qv2y lt16a
          have k3e : @LT.lt Nat _ 485 e1 := Nat.lt_trans k2v qv2
          have k3y : @LT.lt Nat _ 485 y1 := Nat.lt_trans k2v qv2y
          have k3a : @LT.lt Nat _ 485 a1 := Nat.lt_trans k2v qv2a
          refine add_voter (g₀ := #[]) (n := n) (d := d2) (c := c2) (n' := n2) (cvs := cs2) (cc := cc2) (t1 := t21) (t2 := t22) (t3 := t23) ((a1, o1) :: (y1, instObj 579 e1) :: (e1, votD w a1 1 s1 s2 s3) :: []) ((c2, listOf (List.toArray cs2) cc2) :: (x2, instObj 542 d2) :: (d2, profD w c2 n2 v2 t21 t22 t23) :: (v1, listOf (w1.push (.ref y1)) (k1 + 1)) :: (c1, listOf (List.toArray cs1) cc1) :: (x1, instObj 542 d1) :: (d1, profD w c1 n1 v1 t11 t12 t13) :: (D7, LCg.lst ys7) :: (L + 1 + 1 + 1 + 1 + 1 + 1, oGO) :: (L + 1 + 1 + 1 + 1 + 1, oME) :: (L + 1 + 1 + 1 + 1, oLE) :: (L + 1 + 1 + 1, oB8) :: (L + 1 + 1, oCA) :: (L + 1, oN) :: []) (post := (32, tabObj #[]) :: (40, tabObj #[]) :: (485, tabObj #[]) :: (ex ++ (bl ++ [(I, oI)]))) B0 F17 X0 N17 ?hne ?hnv tr16 G16 T0 (by (first | k_mem | ((repeat refine' List.Mem.tail _ ?_); refine' List.mem_append_right _ ?_; first | k_mem | (refine' List.mem_append_right _ ?_; k_mem)) | simp)) (by (first | k_mem | ((repeat refine' List.Mem.tail _ ?_); refine' List.mem_append_right _ ?_; first | k_mem | (refine' List.mem_append_right _ ?_; k_mem)) | simp)) (by (first | k_mem | ((repeat refine' List.Mem.tail _ ?_); refine' List.mem_append_right _ ?_; first | k_mem | (refine' List.mem_append_right _ ?_; k_mem)) | simp)) (range_len hI2') (by omega) (l := l) (vs := vsl) (nn := cl) (by simp [hml]) hpl hbd (fun x hx => lt5_mem (by have := hbn x hx; omega)) hbn (dep_law (by decide)) (uni_law (envOfC (Str.ofString "law") default L fa cd) (by decide)) (by omega) ?hQ1
          case hne =>
            (repeat' (first | refine Mine.all_cons ?_ ?_ | exact Mine.all_nil | refine Mine.all_app ?_ ?_))
            all_goals try intro q h
            iterate 11 (first | exact Nat.ne_of_gt (by assumption) | exact Nat.ne_of_lt (by assumption) | exact ne_lit (by assumption) rfl | exact Ne.symm (ne_lit (by assumption) rfl) | exact ne_c1 | exact Ne.symm ne_c1 | exact ne_c2 | exact Ne.symm ne_c2 | exact ne_c3 | exact Ne.symm ne_c3 | exact ne_c4 | exact Ne.symm ne_c4 | exact ne_c5 | exact Ne.symm ne_c5 | exact Nat.ne_of_gt (by omega) | exact Nat.ne_of_lt (by omega))
            · exact Ne.symm nD.1
            iterate 6 (first | exact Nat.ne_of_gt (by assumption) | exact Nat.ne_of_lt (by assumption) | exact ne_lit (by assumption) rfl | exact Ne.symm (ne_lit (by assumption) rfl) | exact ne_c1 | exact Ne.symm ne_c1 | exact ne_c2 | exact Ne.symm ne_c2 | exact ne_c3 | exact Ne.symm ne_c3 | exact ne_c4 | exact Ne.symm ne_c4 | exact ne_c5 | exact Ne.symm ne_c5 | exact Nat.ne_of_gt (by omega) | exact Nat.ne_of_lt (by omega))
            iterate 3 exact Nat.ne_of_gt (by decide)
            · have := hex q h; first | exact ne_lit (Nat.lt_trans k2v this) rfl | exact Nat.ne_of_gt this | exact Nat.ne_of_gt (Nat.lt_trans f1v this)
            · exact Ne.symm (nbl q h).1
            · exact Ne.symm (hIn (25, tabObj p1) (by (first | k_mem | ((repeat refine' List.Mem.tail _ ?_); refine' List.mem_append_right _ ?_; first | k_mem | (refine' List.mem_append_right _ ?_; k_mem)) | simp)))
          case hnv =>
            (repeat' (first | refine Mine.all_cons ?_ ?_ | exact Mine.all_nil | refine Mine.all_app ?_ ?_))
            all_goals try intro q h
            iterate 3 (first | exact Nat.ne_of_gt (by assumption) | exact Nat.ne_of_lt (by assumption) | exact ne_lit (by assumption) rfl | exact Ne.symm (ne_lit (by assumption) rfl) | exact ne_c1 | exact Ne.symm ne_c1 | exact ne_c2 | exact Ne.symm ne_c2 | exact ne_c3 | exact Ne.symm ne_c3 | exact ne_c4 | exact Ne.symm ne_c4 | exact ne_c5 | exact Ne.symm ne_c5 | exact Nat.ne_of_gt (by omega) | exact Nat.ne_of_lt (by omega))
            iterate 18 (first | exact Nat.ne_of_gt (by assumption) | exact Nat.ne_of_lt (by assumption) | exact ne_lit (by assumption) rfl | exact Ne.symm (ne_lit (by assumption) rfl) | exact ne_c1 | exact Ne.symm ne_c1 | exact ne_c2 | exact Ne.symm ne_c2 | exact ne_c3 | exact Ne.symm ne_c3 | exact ne_c4 | exact Ne.symm ne_c4 | exact ne_c5 | exact Ne.symm ne_c5 | exact Nat.ne_of_gt (by omega) | exact Nat.ne_of_lt (by omega))
            · have := hex q h; first | exact ne_lit (Nat.lt_trans k2v this) rfl | exact Nat.ne_of_gt this | exact Nat.ne_of_gt (Nat.lt_trans f1v this)
            · have := qbl q h; first | exact Nat.ne_of_lt (Nat.lt_trans this e1d) | exact Nat.ne_of_lt (Nat.lt_trans this g1d)
            · exact Ne.symm (hIn (v2, listOf w2 k2) (by (first | k_mem | ((repeat refine' List.Mem.tail _ ?_); refine' List.mem_append_right _ ?_; first | k_mem | (refine' List.mem_append_right _ ?_; k_mem)) | simp)))
          case hQ1 =>
            intro a2 o2 y2 e2 p3 r1 r2 r3 s5 F18 N18 lt18 lt18x lt18a S18 tr18 G18 eo18
            clear F17 N17
            dsimp only [List.cons_append, List.nil_append] at N18 lt18
            repeat' walk1
            rename Fr _ _ _ _ => F19
            rename News _ _ _ _ => N19
            have qI : @LT.lt Nat _ I e1 := lt16 (I, oI) (by (first | k_mem | ((repeat refine' List.Mem.tail _ ?_); refine' List.mem_append_right _ ?_; first | k_mem | (refine' List.mem_append_right _ ?_; k_mem)) | simp))
            have qa1 : @LT.lt Nat _ a1 e2 := lt18 (a1, o1) (by (first | k_mem | ((repeat refine' List.Mem.tail _ ?_); refine' List.mem_append_right _ ?_; first | k_mem | (refine' List.mem_append_right _ ?_; k_mem)) | simp))
            have qI1 : @LT.lt Nat _ I y1 := Nat.lt_trans qI lt16x
            have qI2 : @LT.lt Nat _ I a1 := Nat.lt_trans qI1 lt16a
            have qI3 : @LT.lt Nat _ I e2 := Nat.lt_trans qI2 qa1
            have qI4 : @LT.lt Nat _ I y2 := Nat.lt_trans qI3 lt18x
            have qI5 : @LT.lt Nat _ I a2 := Nat.lt_trans qI4 lt18a
            have qe2 : @LT.lt Nat _ v2 e2 := Nat.lt_trans qv2a qa1
            have qy2 : @LT.lt Nat _ v2 y2 := Nat.lt_trans qe2 lt18x
            have qa2 : @LT.lt Nat _ v2 a2 := Nat.lt_trans qy2 lt18a
            refine ⟨_, _, (v2, listOf (w2.push (.ref y2)) (k2 + 1)) :: (c2, listOf (List.toArray cs2) cc2) :: (x2, instObj 542 d2) :: (d2, profD w c2 n2 v2 t21 t22 t23) :: (v1, listOf (w1.push (.ref y1)) (k1 + 1)) :: (c1, listOf (List.toArray cs1) cc1) :: (x1, instObj 542 d1) :: (d1, profD w c1 n1 v1 t11 t12 t13) :: (D7, LCg.lst ys7) :: (L + 1 + 1 + 1 + 1 + 1 + 1, oGO) :: (L + 1 + 1 + 1 + 1 + 1, oME) :: (L + 1 + 1 + 1 + 1, oLE) :: (L + 1 + 1 + 1, oB8) :: (L + 1 + 1, oCA) :: (L + 1, oN) :: (25, tabObj p3) :: (32, tabObj #[]) :: (40, tabObj #[]) :: (485, tabObj #[]) :: ((a2, o2) :: (y2, instObj 579 e2) :: (e2, votD w a2 1 r1 r2 r3) :: (a1, o1) :: (y1, instObj 579 e1) :: (e1, votD w a1 1 s1 s2 s3) :: ex ++ bl), F19, N19, ?_, by simp, ?_, G18, eo18.trans (eo16.trans eo14), some (.ref l), w1.push (.ref y1), k1 + 1, w2.push (.ref y2), k2 + 1, p3, (a2, o2) :: (y2, instObj 579 e2) :: (e2, votD w a2 1 r1 r2 r3) :: (a1, o1) :: (y1, instObj 579 e1) :: (e1, votD w a1 1 s1 s2 s3) :: ex, rfl, ?_, tr18, ?_, ?_, ?_⟩
            · ((repeat' (first | refine Mine.all_cons ?_ ?_ | exact Mine.all_nil | refine Mine.all_app ?_ ?_)); (all_goals (first | (intro p h; ((repeat (first | exact h | exact List.mem_append_left _ h | exact List.mem_append_right _ h | exact List.mem_append_right _ (List.mem_append_left _ h) | refine' List.Mem.tail _ ?_)); done)) | (first | k_mem | ((repeat refine' List.Mem.tail _ ?_); refine' List.mem_append_right _ ?_; first | k_mem | (refine' List.mem_append_right _ ?_; k_mem)) | simp))))
            · (repeat' (first | refine Mine.all_cons ?_ ?_ | exact Mine.all_nil | refine Mine.all_app ?_ ?_))
              all_goals try intro p h
              · exact hIn (v2, listOf w2 k2) (by (first | k_mem | ((repeat refine' List.Mem.tail _ ?_); refine' List.mem_append_right _ ?_; first | k_mem | (refine' List.mem_append_right _ ?_; k_mem)) | simp))
              · exact hIn (c2, listOf (List.toArray cs2) cc2) (by (first | k_mem | ((repeat refine' List.Mem.tail _ ?_); refine' List.mem_append_right _ ?_; first | k_mem | (refine' List.mem_append_right _ ?_; k_mem)) | simp))
              · exact hIn (x2, instObj 542 d2) (by (first | k_mem | ((repeat refine' List.Mem.tail _ ?_); refine' List.mem_append_right _ ?_; first | k_mem | (refine' List.mem_append_right _ ?_; k_mem)) | simp))
              · exact hIn (d2, profD w c2 n2 v2 t21 t22 t23) (by (first | k_mem | ((repeat refine' List.Mem.tail _ ?_); refine' List.mem_append_right _ ?_; first | k_mem | (refine' List.mem_append_right _ ?_; k_mem)) | simp))
              · exact hIn (v1, listOf w1 k1) (by (first | k_mem | ((repeat refine' List.Mem.tail _ ?_); refine' List.mem_append_right _ ?_; first | k_mem | (refine' List.mem_append_right _ ?_; k_mem)) | simp))
              · exact hIn (c1, listOf (List.toArray cs1) cc1) (by (first | k_mem | ((repeat refine' List.Mem.tail _ ?_); refine' List.mem_append_right _ ?_; first | k_mem | (refine' List.mem_append_right _ ?_; k_mem)) | simp))
              · exact hIn (x1, instObj 542 d1) (by (first | k_mem | ((repeat refine' List.Mem.tail _ ?_); refine' List.mem_append_right _ ?_; first | k_mem | (refine' List.mem_append_right _ ?_; k_mem)) | simp))
              · exact hIn (d1, profD w c1 n1 v1 t11 t12 t13) (by (first | k_mem | ((repeat refine' List.Mem.tail _ ?_); refine' List.mem_append_right _ ?_; first | k_mem | (refine' List.mem_append_right _ ?_; k_mem)) | simp))
              · exact hIn (D7, LCg.lst ys7) (by (first | k_mem | ((repeat refine' List.Mem.tail _ ?_); refine' List.mem_append_right _ ?_; first | k_mem | (refine' List.mem_append_right _ ?_; k_mem)) | simp))
              · exact hIn (L + 1 + 1 + 1 + 1 + 1 + 1, oGO) (by (first | k_mem | ((repeat refine' List.Mem.tail _ ?_); refine' List.mem_append_right _ ?_; first | k_mem | (refine' List.mem_append_right _ ?_; k_mem)) | simp))
              · exact hIn (L + 1 + 1 + 1 + 1 + 1, oME) (by (first | k_mem | ((repeat refine' List.Mem.tail _ ?_); refine' List.mem_append_right _ ?_; first | k_mem | (refine' List.mem_append_right _ ?_; k_mem)) | simp))
              · exact hIn (L + 1 + 1 + 1 + 1, oLE) (by (first | k_mem | ((repeat refine' List.Mem.tail _ ?_); refine' List.mem_append_right _ ?_; first | k_mem | (refine' List.mem_append_right _ ?_; k_mem)) | simp))
              · exact hIn (L + 1 + 1 + 1, oB8) (by (first | k_mem | ((repeat refine' List.Mem.tail _ ?_); refine' List.mem_append_right _ ?_; first | k_mem | (refine' List.mem_append_right _ ?_; k_mem)) | simp))
              · exact hIn (L + 1 + 1, oCA) (by (first | k_mem | ((repeat refine' List.Mem.tail _ ?_); refine' List.mem_append_right _ ?_; first | k_mem | (refine' List.mem_append_right _ ?_; k_mem)) | simp))
              · exact hIn (L + 1, oN) (by (first | k_mem | ((repeat refine' List.Mem.tail _ ?_); refine' List.mem_append_right _ ?_; first | k_mem | (refine' List.mem_append_right _ ?_; k_mem)) | simp))
              · exact hIn (25, tabObj p1) (by (first | k_mem | ((repeat refine' List.Mem.tail _ ?_); refine' List.mem_append_right _ ?_; first | k_mem | (refine' List.mem_append_right _ ?_; k_mem)) | simp))
              · exact hIn (32, tabObj #[]) (by (first | k_mem | ((repeat refine' List.Mem.tail _ ?_); refine' List.mem_append_right _ ?_; first | k_mem | (refine' List.mem_append_right _ ?_; k_mem)) | simp))
              · exact hIn (40, tabObj #[]) (by (first | k_mem | ((repeat refine' List.Mem.tail _ ?_); refine' List.mem_append_right _ ?_; first | k_mem | (refine' List.mem_append_right _ ?_; k_mem)) | simp))
              · exact hIn (485, tabObj #[]) (by (first | k_mem | ((repeat refine' List.Mem.tail _ ?_); refine' List.mem_append_right _ ?_; first | k_mem | (refine' List.mem_append_right _ ?_; k_mem)) | simp))
              iterate 6 (first | exact Nat.ne_of_gt (by assumption) | exact Nat.ne_of_lt (by assumption) | exact ne_lit (by assumption) rfl | exact Ne.symm (ne_lit (by assumption) rfl) | exact ne_c1 | exact Ne.symm ne_c1 | exact ne_c2 | exact Ne.symm ne_c2 | exact ne_c3 | exact Ne.symm ne_c3 | exact ne_c4 | exact Ne.symm ne_c4 | exact ne_c5 | exact Ne.symm ne_c5 | exact Nat.ne_of_gt (by omega) | exact Nat.ne_of_lt (by omega))
              · exact hIn p (by ((repeat (first | exact h | exact List.mem_append_left _ h | exact List.mem_append_right _ h | exact List.mem_append_right _ (List.mem_append_left _ h) | refine' List.Mem.tail _ ?_)); done))
              · exact hIn p (by ((repeat (first | exact h | exact List.mem_append_left _ h | exact List.mem_append_right _ h | exact List.mem_append_right _ (List.mem_append_left _ h) | refine' List.Mem.tail _ ?_)); done))
            · funext y
              by_cases e : y = Str.ofString "ballot"
              · simp only [if_pos e]
              · simp only [if_neg e]
            · exact (hV1.mono fun q hq => .tail _ (.tail _ (.tail _ (.tail _ (.tail _ (.tail _ hq)))))).push hb (.tail _ (.tail _ (.tail _ (.tail _ (.head _))))) (.tail _ (.tail _ (.tail _ (.tail _ (.tail _ (.head _)))))) (.tail _ (.tail _ (.tail _ (.head _)))) S16
            · exact (hV2.mono fun q hq => .tail _ (.tail _ (.tail _ (.tail _ (.tail _ (.tail _ hq)))))).push hb (.tail _ (.head _)) (.tail _ (.tail _ (.head _))) (.head _) S18
            · (repeat' (first | refine Mine.all_cons ?_ ?_ | exact Mine.all_nil | refine Mine.all_app ?_ ?_))
              all_goals try intro q h
              · show @LT.lt Nat _ v2 a2; assumption
              · show @LT.lt Nat _ v2 y2; assumption
              · show @LT.lt Nat _ v2 e2; assumption
              · show @LT.lt Nat _ v2 a1; assumption
              · show @LT.lt Nat _ v2 y1; assumption
              · show @LT.lt Nat _ v2 e1; assumption
              · exact hex q h
      case fin =>
        intro s₂ m' nx F20 N20 G20 eo20 hVJ
        refine ex7_elim hVJ ?_
        clear hVJ
        rintro u w1 k1 w2 k2 p1 ex rfl rfl htr hV1 hV2 hex
        clear F13 N13
        rw [List.take_of_length_le (by have := hB.length; simp only [List.size_toArray]; omega)] at hV1 hV2
        have hM2 : Mark2 := trivial
        repeat' walk1
        refine Mine.held ?_
        rename Mark2 => hM2
        clear hM2
        have hyl : ys7.length = bs.length := hB.length
        obtain ⟨y0, hy0⟩ : ∃ v, ys7[0]? = some v := ⟨_, List.getElem?_eq_getElem (by omega)⟩
        obtain ⟨b0, hb0, lb0, vs0, cl0, rfl, hm0, hp0⟩ := paired_at hB hy0
        obtain ⟨hbd0, hbn0⟩ := hgood hb0
        show wpAny _ _ (subscriptTail _ _ (Value.ref D7) (Value.int ((0 : Nat) : Int) _)) _ _ _
        refine item_N (items := List.toArray ys7) ⟨_, (N20 (D7, LCg.lst ys7) (by (first | k_mem | ((repeat refine' List.Mem.tail _ ?_); refine' List.mem_append_right _ ?_; first | k_mem | (refine' List.mem_append_right _ ?_; k_mem)) | simp))).1, rfl, _, rfl⟩ (by decide) (by simpa using hy0) ?_
        repeat' walk1
        refine Mine.held ?_
        rename Fr _ _ _ _ => F21
        rename News _ _ _ _ => N21
        refine voter_none (g₀ := #[]) (vs := vs0) (nn := cl0) ((v2, listOf w2 k2) :: (c2, listOf (List.toArray cs2) cc2) :: (x2, instObj 542 d2) :: (d2, profD w c2 n2 v2 t21 t22 t23) :: (v1, listOf w1 k1) :: (c1, listOf (List.toArray cs1) cc1) :: (x1, instObj 542 d1) :: (d1, profD w c1 n1 v1 t11 t12 t13) :: (D7, LCg.lst ys7) :: (L + 1 + 1 + 1 + 1 + 1 + 1, oGO) :: (L + 1 + 1 + 1 + 1 + 1, oME) :: (L + 1 + 1 + 1 + 1, oLE) :: (L + 1 + 1 + 1, oB8) :: (L + 1 + 1, oCA) :: (L + 1, oN) :: []) (post := (32, tabObj #[]) :: (40, tabObj #[]) :: (485, tabObj #[]) :: (ex ++ bl)) B0 F21 X0 N21 ?hne htr G20 T0 (by simp [hm0]) hp0 hbd0 (fun x hx => lt5_mem (by have := hbn0 x hx; omega)) (dep_law (by decide)) (uni_law (envOfC (Str.ofString "law") default L fa cd) (by decide)) ?hQ1
        case hne =>
          (repeat' (first | refine Mine.all_cons ?_ ?_ | exact Mine.all_nil | refine Mine.all_app ?_ ?_))
          all_goals try intro q h
          iterate 8 (first | exact Nat.ne_of_gt (by assumption) | exact Nat.ne_of_lt (by assumption) | exact ne_lit (by assumption) rfl | exact Ne.symm (ne_lit (by assumption) rfl) | exact ne_c1 | exact Ne.symm ne_c1 | exact ne_c2 | exact Ne.symm ne_c2 | exact ne_c3 | exact Ne.symm ne_c3 | exact ne_c4 | exact Ne.symm ne_c4 | exact ne_c5 | exact Ne.symm ne_c5 | exact Nat.ne_of_gt (by omega) | exact Nat.ne_of_lt (by omega))
          · exact Ne.symm nD.1
          iterate 6 (first | exact Nat.ne_of_gt (by assumption) | exact Nat.ne_of_lt (by assumption) | exact ne_lit (by assumption) rfl | exact Ne.symm (ne_lit (by assumption) rfl) | exact ne_c1 | exact Ne.symm ne_c1 | exact ne_c2 | exact Ne.symm ne_c2 | exact ne_c3 | exact Ne.symm ne_c3 | exact ne_c4 | exact Ne.symm ne_c4 | exact ne_c5 | exact Ne.symm ne_c5 | exact Nat.ne_of_gt (by omega) | exact Nat.ne_of_lt (by omega))
          iterate 3 exact Nat.ne_of_gt (by decide)
          · have := hex q h; first | exact ne_lit (Nat.lt_trans k2v this) rfl | exact Nat.ne_of_gt this | exact Nat.ne_of_gt (Nat.lt_trans f1v this)
          · exact Ne.symm (nbl q h).1
        case hQ1 =>
          intro a3 o3 y3 e3 p3 s1 s2 s3 s4 F22 N22 lt22 lt22x lt22a S22 tr22 G22 eo22
          clear F21 N21
          dsimp only [List.cons_append, List.nil_append] at N22 lt22
          repeat' walk1
          refine Mine.held ?_
          rename News _ _ _ _ => N23
          refine len_listN (k := bs.length) ⟨_, (N23 (D7, LCg.lst ys7) (by (first | k_mem | ((repeat refine' List.Mem.tail _ ?_); refine' List.mem_append_right _ ?_; first | k_mem | (refine' List.mem_append_right _ ?_; k_mem)) | simp))).1, rfl, _, rfl⟩ hyl (by omega) ?_
          repeat' walk1
          refine Mine.held ?_
          rename Fr _ _ _ _ => F24
          rename News _ _ _ _ => N24
          have hix := idx_fmod head bs.length hbs.1
          rw [hix.1]
          have qv3 : @LT.lt Nat _ v2 e3 := lt22 (v2, listOf w2 k2) (by (first | k_mem | ((repeat refine' List.Mem.tail _ ?_); refine' List.mem_append_right _ ?_; first | k_mem | (refine' List.mem_append_right _ ?_; k_mem)) | simp))
          have qv3y : @LT.lt Nat _ v2 y3 := Nat.lt_trans qv3 lt22x
          have qv3a : @LT.lt Nat _ v2 a3 := Nat.lt_trans qv3y lt22a
          have k4e : @LT.lt Nat _ 485 e3 := Nat.lt_trans k2v qv3
          have k4y : @LT.lt Nat _ 485 y3 := Nat.lt_trans k2v qv3y
          have k4a : @LT.lt Nat _ 485 a3 := Nat.lt_trans k2v qv3a
          refine set_item (g₀ := #[]) (n := n) (y := y3) (dy := e3) (l := a3) (ol := o3) (ns := setOf b0) (d := d2) (c := c2) (n' := n2) (cvs := cs2) (cc := cc2) (t1 := t21) (t2 := t22) (t3 := t23) (t4 := s1) (t5 := s2) (t6 := s3) ((a3, o3) :: (y3, instObj 579 e3) :: (e3, votD w a3 2 s1 s2 s3) :: []) ((c2, listOf (List.toArray cs2) cc2) :: (x2, instObj 542 d2) :: (d2, profD w c2 n2 v2 t21 t22 t23) :: (v1, listOf w1 k1) :: (c1, listOf (List.toArray cs1) cc1) :: (x1, instObj 542 d1) :: (d1, profD w c1 n1 v1 t11 t12 t13) :: (D7, LCg.lst ys7) :: (L + 1 + 1 + 1 + 1 + 1 + 1, oGO) :: (L + 1 + 1 + 1 + 1 + 1, oME) :: (L + 1 + 1 + 1 + 1, oLE) :: (L + 1 + 1 + 1, oB8) :: (L + 1 + 1, oCA) :: (L + 1, oN) :: []) (post := (32, tabObj #[]) :: (40, tabObj #[]) :: (485, tabObj #[]) :: (ex ++ bl)) B0 F24 X0 N24 ?hne ?hnv tr22 G22 T0 (by (first | k_mem | ((repeat refine' List.Mem.tail _ ?_); refine' List.mem_append_right _ ?_; first | k_mem | (refine' List.mem_append_right _ ?_; k_mem)) | simp)) (by (first | k_mem | ((repeat refine' List.Mem.tail _ ?_); refine' List.mem_append_right _ ?_; first | k_mem | (refine' List.mem_append_right _ ?_; k_mem)) | simp)) (by (first | k_mem | ((repeat refine' List.Mem.tail _ ?_); refine' List.mem_append_right _ ?_; first | k_mem | (refine' List.mem_append_right _ ?_; k_mem)) | simp)) (range_len hI2') (by omega) (by (first | k_mem | ((repeat refine' List.Mem.tail _ ?_); refine' List.mem_append_right _ ?_; first | k_mem | (refine' List.mem_append_right _ ?_; k_mem)) | simp)) (by (first | k_mem | ((repeat refine' List.Mem.tail _ ?_); refine' List.mem_append_right _ ?_; first | k_mem | (refine' List.mem_append_right _ ?_; k_mem)) | simp)) (by (first | k_mem | ((repeat refine' List.Mem.tail _ ?_); refine' List.mem_append_right _ ?_; first | k_mem | (refine' List.mem_append_right _ ?_; k_mem)) | simp)) S22 (fun x hx => hbn0 x (mem_setOf.mp hx)) (dep_law (by decide)) (uni_law (envOfC (Str.ofString "law") default L fa cd) (by decide)) (by have := hV2.1; omega) (by have := hV2.1; omega) ?hQ1
          case hne =>
            (repeat' (first | refine Mine.all_cons ?_ ?_ | exact Mine.all_nil | refine Mine.all_app ?_ ?_))
            all_goals try intro q h
            iterate 11 (first | exact Nat.ne_of_gt (by assumption) | exact Nat.ne_of_lt (by assumption) | exact ne_lit (by assumption) rfl | exact Ne.symm (ne_lit (by assumption) rfl) | exact ne_c1 | exact Ne.symm ne_c1 | exact ne_c2 | exact Ne.symm ne_c2 | exact ne_c3 | exact Ne.symm ne_c3 | exact ne_c4 | exact Ne.symm ne_c4 | exact ne_c5 | exact Ne.symm ne_c5 | exact Nat.ne_of_gt (by omega) | exact Nat.ne_of_lt (by omega))
            · exact Ne.symm nD.1
            iterate 6 (first | exact Nat.ne_of_gt (by assumption) | exact Nat.ne_of_lt (by assumption) | exact ne_lit (by assumption) rfl | exact Ne.symm (ne_lit (by assumption) rfl) | exact ne_c1 | exact Ne.symm ne_c1 | exact ne_c2 | exact Ne.symm ne_c2 | exact ne_c3 | exact Ne.symm ne_c3 | exact ne_c4 | exact Ne.symm ne_c4 | exact ne_c5 | exact Ne.symm ne_c5 | exact Nat.ne_of_gt (by omega) | exact Nat.ne_of_lt (by omega))
            iterate 3 exact Nat.ne_of_gt (by decide)
            · have := hex q h; first | exact ne_lit (Nat.lt_trans k2v this) rfl | exact Nat.ne_of_gt this | exact Nat.ne_of_gt (Nat.lt_trans f1v this)
            · exact Ne.symm (nbl q h).1
          case hnv =>
            (repeat' (first | refine Mine.all_cons ?_ ?_ | exact Mine.all_nil | refine Mine.all_app ?_ ?_))
            all_goals try intro q h
            iterate 3 (first | exact Nat.ne_of_gt (by assumption) | exact Nat.ne_of_lt (by assumption) | exact ne_lit (by assumption) rfl | exact Ne.symm (ne_lit (by assumption) rfl) | exact ne_c1 | exact Ne.symm ne_c1 | exact ne_c2 | exact Ne.symm ne_c2 | exact ne_c3 | exact Ne.symm ne_c3 | exact ne_c4 | exact Ne.symm ne_c4 | exact ne_c5 | exact Ne.symm ne_c5 | exact Nat.ne_of_gt (by omega) | exact Nat.ne_of_lt (by omega))
            iterate 18 (first | exact Nat.ne_of_gt (by assumption) | exact Nat.ne_of_lt (by assumption) | exact ne_lit (by assumption) rfl | exact Ne.symm (ne_lit (by assumption) rfl) | exact ne_c1 | exact Ne.symm ne_c1 | exact ne_c2 | exact Ne.symm ne_c2 | exact ne_c3 | exact Ne.symm ne_c3 | exact ne_c4 | exact Ne.symm ne_c4 | exact ne_c5 | exact Ne.symm ne_c5 | exact Nat.ne_of_gt (by omega) | exact Nat.ne_of_lt (by omega))
            · have := hex q h; first | exact ne_lit (Nat.lt_trans k2v this) rfl | exact Nat.ne_of_gt this | exact Nat.ne_of_gt (Nat.lt_trans f1v this)
            · have := qbl q h; first | exact Nat.ne_of_lt (Nat.lt_trans this e1d) | exact Nat.ne_of_lt (Nat.lt_trans this g1d)
          case hQ1 =>
            intro a4 o4 y4 e4 p4 r1 r2 r3 s5 F26 N26 lt26 lt26x lt26a S26 tr26 G26 eo26
            clear F24 N24
            dsimp only [List.cons_append, List.nil_append] at N26 lt26
            repeat' walk1
            refine Mine.held ?_
            rename Fr _ _ _ _ => F27
            rename News _ _ _ _ => N27
            have hV3 := hV2.set (j := idxOf head bs.length) (x := y4) (d := e4) (a := a4) (u1 := r1) (u2 := r2) (u3 := r3) (ex' := (a4, o4) :: (y4, instObj 579 e4) :: (e4, votD w a4 2 r1 r2 r3) :: ex) (fun q hq => .tail _ (.tail _ (.tail _ hq))) (.tail _ (.head _)) (.tail _ (.tail _ (.head _)))
            have hs3 : (w2.setIfInBounds (idxOf head bs.length) (.ref y4)).size = bs.length := by rw [Array.size_setIfInBounds]; exact hV2.1
            generalize w2.setIfInBounds (idxOf head bs.length) (.ref y4) = w3 at *
            have hex3 : ∀ q ∈ (a4, o4) :: (y4, instObj 579 e4) :: (e4, votD w a4 2 r1 r2 r3) :: ex, @LT.lt Nat _ v2 q.1 := by
              have qe4 : @LT.lt Nat _ v2 e4 := lt26 (v2, listOf w2 k2) (by (first | k_mem | ((repeat refine' List.Mem.tail _ ?_); refine' List.mem_append_right _ ?_; first | k_mem | (refine' List.mem_append_right _ ?_; k_mem)) | simp))
              (repeat' (first | refine Mine.all_cons ?_ ?_ | exact Mine.all_nil | refine Mine.all_app ?_ ?_))
              all_goals try intro q h
              · exact Nat.lt_trans (Nat.lt_trans qe4 lt26x) lt26a
              · exact Nat.lt_trans qe4 lt26x
              · exact qe4
              · exact hex q h
            have hV1' : Vot w (fun _ => 1) ((a4, o4) :: (y4, instObj 579 e4) :: (e4, votD w a4 2 r1 r2 r3) :: ex) w1 bs := hV1.mono fun q hq => .tail _ (.tail _ (.tail _ hq))
            generalize hex3' : (a4, o4) :: (y4, instObj 579 e4) :: (e4, votD w a4 2 r1 r2 r3) :: ex = ex3 at hV3 hex3 hV1'
            have N28 := newsSub N27 (news' := (v2, listOf w3 k2) :: (c2, listOf (List.toArray cs2) cc2) :: (x2, instObj 542 d2) :: (d2, profD w c2 n2 v2 t21 t22 t23) :: (v1, listOf w1 k1) :: (c1, listOf (List.toArray cs1) cc1) :: (x1, instObj 542 d1) :: (d1, profD w c1 n1 v1 t11 t12 t13) :: (D7, LCg.lst ys7) :: (L + 1 + 1 + 1 + 1 + 1 + 1, oGO) :: (L + 1 + 1 + 1 + 1 + 1, oME) :: (L + 1 + 1 + 1 + 1, oLE) :: (L + 1 + 1 + 1, oB8) :: (L + 1 + 1, oCA) :: (L + 1, oN) :: (25, tabObj p4) :: (32, tabObj #[]) :: (40, tabObj #[]) :: (485, tabObj #[]) :: (ex3 ++ bl)) (by
              rw [← hex3']
              ((repeat' (first | refine Mine.all_cons ?_ ?_ | exact Mine.all_nil | refine Mine.all_app ?_ ?_)); (all_goals (first | (intro p h; ((repeat (first | exact h | exact List.mem_append_left _ h | exact List.mem_append_right _ h | exact List.mem_append_right _ (List.mem_append_left _ h) | refine' List.Mem.tail _ ?_)); done)) | (first | k_mem | ((repeat refine' List.Mem.tail _ ?_); refine' List.mem_append_right _ ?_; first | k_mem | (refine' List.mem_append_right _ ?_; k_mem)) | simp)))))
            clear N27 hV1 hV2 hex hex3' lt26 lt26x lt26a S26 lt22 lt22x lt22a S22 tr22
            refine gm_resolute (g₀ := #[]) (d := d1) (c := c1) (v := v1) (n' := n1) (vvs := w1) (kk := k1) (cc := cc1) (cvs := cs1) (n := n) (k := k) (t1 := t11) (t2 := t12) (t3 := t13) B0 F27 X0 N28 G26 T0 (by (first | k_mem | ((repeat refine' List.Mem.tail _ ?_); refine' List.mem_append_right _ ?_; first | k_mem | (refine' List.mem_append_right _ ?_; k_mem)) | simp)) (by (first | k_mem | ((repeat refine' List.Mem.tail _ ?_); refine' List.mem_append_right _ ?_; first | k_mem | (refine' List.mem_append_right _ ?_; k_mem)) | simp)) (by (first | k_mem | ((repeat refine' List.Mem.tail _ ?_); refine' List.mem_append_right _ ?_; first | k_mem | (refine' List.mem_append_right _ ?_; k_mem)) | simp)) (range_len hI1) (by (first | k_mem | ((repeat refine' List.Mem.tail _ ?_); refine' List.mem_append_right _ ?_; first | k_mem | (refine' List.mem_append_right _ ?_; k_mem)) | simp)) (by omega) hk.1 hk.2 (by have := hV1'.1; omega) (by have := hV1'.1; omega) (dep_law (by decide)) (uni_law (envOfC (Str.ofString "law") default L fa cd) (by decide)) ?hE
            intro e5 g5 s6 FG5 R5 U5 G5 eo5
            refine law_caught (T' := "NotImplementedError") R5 FG5 B0 U5 X0 T0 (by k_is) PyProof.Rows.Boot.«NotImplementedError» (by decide) PySem.F.isExc_NotImplementedError PySem.F.notTuple_NotImplementedError (by rw [isSubtype_type]; kernel_rfl) (fun h7 F29 N29 => ?_)
            clear F27 N28
            repeat' walk1
            refine Mine.held ?_
            rename Fr _ _ _ _ => F30
            rename News _ _ _ _ => N30
            refine gm_weights (g₀ := #[]) (d := d2) (c := c2) (v := v2) (n' := n2) (vvs := w3) (kk := k2) (cc := cc2) (cvs := cs2) (n := n) (k := k) (t1 := t21) (t2 := t22) (t3 := t23) ((v2, listOf w3 k2) :: (c2, listOf (List.toArray cs2) cc2) :: (x2, instObj 542 d2) :: (d2, profD w c2 n2 v2 t21 t22 t23) :: (v1, listOf w1 k1) :: (c1, listOf (List.toArray cs1) cc1) :: (x1, instObj 542 d1) :: (d1, profD w c1 n1 v1 t11 t12 t13) :: (D7, LCg.lst ys7) :: (L + 1 + 1 + 1 + 1 + 1 + 1, oGO) :: (L + 1 + 1 + 1 + 1 + 1, oME) :: (L + 1 + 1 + 1 + 1, oLE) :: (L + 1 + 1 + 1, oB8) :: (L + 1 + 1, oCA) :: (L + 1, oN) :: (25, tabObj p4) :: (32, tabObj #[]) :: (40, tabObj #[]) :: []) (post := ex3 ++ bl) (fun i => if i = idxOf head bs.length then 2 else 1) B0 F30 X0 N30 ?hne trivial G5 T0 (by (first | k_mem | ((repeat refine' List.Mem.tail _ ?_); refine' List.mem_append_right _ ?_; first | k_mem | (refine' List.mem_append_right _ ?_; k_mem)) | simp)) (by (first | k_mem | ((repeat refine' List.Mem.tail _ ?_); refine' List.mem_append_right _ ?_; first | k_mem | (refine' List.mem_append_right _ ?_; k_mem)) | simp)) (by (first | k_mem | ((repeat refine' List.Mem.tail _ ?_); refine' List.mem_append_right _ ?_; first | k_mem | (refine' List.mem_append_right _ ?_; k_mem)) | simp)) (range_len hI2') (by (first | k_mem | ((repeat refine' List.Mem.tail _ ?_); refine' List.mem_append_right _ ?_; first | k_mem | (refine' List.mem_append_right _ ?_; k_mem)) | simp)) (by omega) hk.1 hk.2 (by omega) (by omega) ?hvv (by rw [hs3]; exact wt_some hix.2) (dep_law (by decide)) (uni_law (envOfC (Str.ofString "law") default L fa cd) (by decide)) ?_
            case hne =>
              (repeat' (first | refine Mine.all_cons ?_ ?_ | exact Mine.all_nil | refine Mine.all_app ?_ ?_))
              all_goals try intro q h
              iterate 8 (first | exact Nat.ne_of_gt (by assumption) | exact Nat.ne_of_lt (by assumption) | exact ne_lit (by assumption) rfl | exact Ne.symm (ne_lit (by assumption) rfl) | exact ne_c1 | exact Ne.symm ne_c1 | exact ne_c2 | exact Ne.symm ne_c2 | exact ne_c3 | exact Ne.symm ne_c3 | exact ne_c4 | exact Ne.symm ne_c4 | exact ne_c5 | exact Ne.symm ne_c5 | exact Nat.ne_of_gt (by omega) | exact Nat.ne_of_lt (by omega))
              · exact Ne.symm nD.2.2.2
              iterate 6 (first | exact Nat.ne_of_gt (by assumption) | exact Nat.ne_of_lt (by assumption) | exact ne_lit (by assumption) rfl | exact Ne.symm (ne_lit (by assumption) rfl) | exact ne_c1 | exact Ne.symm ne_c1 | exact ne_c2 | exact Ne.symm ne_c2 | exact ne_c3 | exact Ne.symm ne_c3 | exact ne_c4 | exact Ne.symm ne_c4 | exact ne_c5 | exact Ne.symm ne_c5 | exact Nat.ne_of_gt (by omega) | exact Nat.ne_of_lt (by omega))
              · show (25 : Nat) ≠ 485; decide
              · show (32 : Nat) ≠ 485; decide
              · show (40 : Nat) ≠ 485; decide
              · have := hex3 q h; first | exact ne_lit (Nat.lt_trans k2v this) rfl | exact Nat.ne_of_gt this | exact Nat.ne_of_gt (Nat.lt_trans f1v this)
              · exact Ne.symm (nbl q h).2.2.2
            case hvv =>
              intro i hi
              refine ex6 (hV3 i hi) ?_
              intro xi di ai z1 z2 z3 hz
              have e1 := hz.1
              have m1 := hz.2.1
              have m2 := hz.2.2
              exact ⟨xi, di, ai, z1, z2, z3, e1, List.mem_append_right _ (List.mem_append_left _ m1), List.mem_append_right _ (List.mem_append_left _ m2)⟩
            intro e8 g8 p8 s8 FG8 R8 U8 tr8 G8 eo8
            refine law_caught (T' := "ValueError") R8 FG8 B0 U8 X0 T0 (by k_is) PyProof.Rows.Boot.«ValueError» (by decide) PySem.F.isExc_ValueError PySem.F.notTuple_ValueError (by rw [isSubtype_type]; kernel_rfl) (fun h9 F31 N31 => ?_)
            clear F30 N30
            dsimp only [List.cons_append, List.nil_append] at N31
            repeat' walk1
            refine Mine.held ?_
            rename Fr _ _ _ _ => F32
            rename News _ _ _ _ => N32
            refine len_listN (k := bs.length) ⟨_, (N32 (D7, LCg.lst ys7) (by (first | k_mem | ((repeat refine' List.Mem.tail _ ?_); refine' List.mem_append_right _ ?_; first | k_mem | (refine' List.mem_append_right _ ?_; k_mem)) | simp))).1, rfl, _, rfl⟩ hyl (by omega) ?_
            repeat' walk1
            rename Fr _ _ _ _ => F33
            rename News _ _ _ _ => N33
            rename_i DL vL cL hLx tLx hIL ltL
            have hPL : Paired IntOf vL (List.range bs.length) := ints_range0 hIL
            have ltL' : ∀ q ∈ (v2, listOf w3 k2) :: (c2, listOf (List.toArray cs2) cc2) :: (x2, instObj 542 d2) :: (d2, profD w c2 n2 v2 t21 t22 t23) :: (v1, listOf w1 k1) :: (c1, listOf (List.toArray cs1) cc1) :: (x1, instObj 542 d1) :: (d1, profD w c1 n1 v1 t11 t12 t13) :: (D7, LCg.lst ys7) :: (L + 1 + 1 + 1 + 1 + 1 + 1, oGO) :: (L + 1 + 1 + 1 + 1 + 1, oME) :: (L + 1 + 1 + 1 + 1, oLE) :: (L + 1 + 1 + 1, oB8) :: (L + 1 + 1, oCA) :: (L + 1, oN) :: (25, tabObj p4) :: (32, tabObj #[]) :: (40, tabObj #[]) :: (485, tabObj p8) :: (ex3 ++ bl), @LT.lt Nat _ q.1 DL := fun q hq => AllLt_mem ((v2, listOf w3 k2) :: (c2, listOf (List.toArray cs2) cc2) :: (x2, instObj 542 d2) :: (d2, profD w c2 n2 v2 t21 t22 t23) :: (v1, listOf w1 k1) :: (c1, listOf (List.toArray cs1) cc1) :: (x1, instObj 542 d1) :: (d1, profD w c1 n1 v1 t11 t12 t13) :: (D7, LCg.lst ys7) :: (L + 1 + 1 + 1 + 1 + 1 + 1, oGO) :: (L + 1 + 1 + 1 + 1 + 1, oME) :: (L + 1 + 1 + 1 + 1, oLE) :: (L + 1 + 1 + 1, oB8) :: (L + 1 + 1, oCA) :: (L + 1, oN) :: (25, tabObj p4) :: (32, tabObj #[]) :: (40, tabObj #[]) :: (485, tabObj p8) :: (ex3 ++ bl)) ltL hq
            obtain ⟨RS, hRS⟩ : ∃ RS, RS = (v2, listOf w3 k2) :: (c2, listOf (List.toArray cs2) cc2) :: (x2, instObj 542 d2) :: (d2, profD w c2 n2 v2 t21 t22 t23) :: (v1, listOf w1 k1) :: (c1, listOf (List.toArray cs1) cc1) :: (x1, instObj 542 d1) :: (d1, profD w c1 n1 v1 t11 t12 t13) :: (25, tabObj p4) :: (32, tabObj #[]) :: (40, tabObj #[]) :: (485, tabObj p8) :: (ex3 ++ bl) := ⟨_, rfl⟩
            have N34 := newsSub N33 (news' := (DL, listOf (List.toArray vL) cL) :: (D7, LCg.lst ys7) :: (L + 1 + 1 + 1 + 1 + 1 + 1, oGO) :: (L + 1 + 1 + 1 + 1 + 1, oME) :: (L + 1 + 1 + 1 + 1, oLE) :: (L + 1 + 1 + 1, oB8) :: (L + 1 + 1, oCA) :: (L + 1, oN) :: RS) (by
              rw [hRS]
              ((repeat' (first | refine Mine.all_cons ?_ ?_ | exact Mine.all_nil | refine Mine.all_app ?_ ?_)); (all_goals (first | (intro p h; ((repeat (first | exact h | exact List.mem_append_left _ h | exact List.mem_append_right _ h | exact List.mem_append_right _ (List.mem_append_left _ h) | refine' List.Mem.tail _ ?_)); done)) | (first | k_mem | ((repeat refine' List.Mem.tail _ ?_); refine' List.mem_append_right _ ?_; first | k_mem | (refine' List.mem_append_right _ ?_; k_mem)) | simp)))))
            have nRS : ∀ q ∈ RS, @Ne Nat q.1 (L + 1) ∧ @Ne Nat q.1 (L + 1 + 1) ∧ @Ne Nat q.1 (L + 1 + 1 + 1) ∧ @Ne Nat q.1 (L + 1 + 1 + 1 + 1) ∧ @Ne Nat q.1 (L + 1 + 1 + 1 + 1 + 1) ∧ @Ne Nat q.1 (L + 1 + 1 + 1 + 1 + 1 + 1) := by
              rw [hRS]
              (repeat' (first | refine Mine.all_cons ?_ ?_ | exact Mine.all_nil | refine Mine.all_app ?_ ?_))
              all_goals try intro q h
              iterate 8 exact ne6_gt (by assumption)
              iterate 4 first | exact ne6_lt qL | exact ne6_lt (Nat.lt_of_le_of_lt (Nat.le_of_ble_eq_true rfl) qL)
              · have := hex3 q h; exact ne6_gt (Nat.lt_trans g6_ this)
              · exact ⟨Ne.symm (hof q h (L + 1, oN) (by (first | k_mem | ((repeat refine' List.Mem.tail _ ?_); refine' List.mem_append_right _ ?_; first | k_mem | (refine' List.mem_append_right _ ?_; k_mem)) | simp))), Ne.symm (hof q h (L + 1 + 1, oCA) (by (first | k_mem | ((repeat refine' List.Mem.tail _ ?_); refine' List.mem_append_right _ ?_; first | k_mem | (refine' List.mem_append_right _ ?_; k_mem)) | simp))), Ne.symm (hof q h (L + 1 + 1 + 1, oBA) (by (first | k_mem | ((repeat refine' List.Mem.tail _ ?_); refine' List.mem_append_right _ ?_; first | k_mem | (refine' List.mem_append_right _ ?_; k_mem)) | simp))), Ne.symm (hof q h (L + 1 + 1 + 1 + 1, oLE) (by (first | k_mem | ((repeat refine' List.Mem.tail _ ?_); refine' List.mem_append_right _ ?_; first | k_mem | (refine' List.mem_append_right _ ?_; k_mem)) | simp))), Ne.symm (hof q h (L + 1 + 1 + 1 + 1 + 1, oME) (by (first | k_mem | ((repeat refine' List.Mem.tail _ ?_); refine' List.mem_append_right _ ?_; first | k_mem | (refine' List.mem_append_right _ ?_; k_mem)) | simp))), Ne.symm (hof q h (L + 1 + 1 + 1 + 1 + 1 + 1, oGO) (by (first | k_mem | ((repeat refine' List.Mem.tail _ ?_); refine' List.mem_append_right _ ?_; first | k_mem | (refine' List.mem_append_right _ ?_; k_mem)) | simp)))⟩
            have n7 : @Ne Nat D7 (L + 1 + 1 + 1 + 1) ∧ @Ne Nat D7 (L + 1 + 1 + 1 + 1 + 1) ∧ @Ne Nat D7 (L + 1 + 1) ∧ @Ne Nat D7 (L + 1 + 1 + 1 + 1 + 1 + 1) := ⟨Ne.symm (o7m (L + 1 + 1 + 1 + 1, oLE) (by (first | k_mem | ((repeat refine' List.Mem.tail _ ?_); refine' List.mem_append_right _ ?_; first | k_mem | (refine' List.mem_append_right _ ?_; k_mem)) | simp))), Ne.symm (o7m (L + 1 + 1 + 1 + 1 + 1, oME) (by (first | k_mem | ((repeat refine' List.Mem.tail _ ?_); refine' List.mem_append_right _ ?_; first | k_mem | (refine' List.mem_append_right _ ?_; k_mem)) | simp))), Ne.symm (o7m (L + 1 + 1, oCA) (by (first | k_mem | ((repeat refine' List.Mem.tail _ ?_); refine' List.mem_append_right _ ?_; first | k_mem | (refine' List.mem_append_right _ ?_; k_mem)) | simp))), Ne.symm (o7m (L + 1 + 1 + 1 + 1 + 1 + 1, oGO) (by (first | k_mem | ((repeat refine' List.Mem.tail _ ?_); refine' List.mem_append_right _ ?_; first | k_mem | (refine' List.mem_append_right _ ?_; k_mem)) | simp)))⟩
            have qL6' : @LT.lt Nat _ (L + 1 + 1 + 1 + 1 + 1 + 1) DL := ltL' (L + 1 + 1 + 1 + 1 + 1 + 1, oGO) (by (first | k_mem | ((repeat refine' List.Mem.tail _ ?_); refine' List.mem_append_right _ ?_; first | k_mem | (refine' List.mem_append_right _ ?_; k_mem)) | simp))
            have qD5 : @LT.lt Nat _ (L + 1 + 1 + 1 + 1 + 1) DL := Nat.lt_of_succ_lt qL6'
            have qD4 : @LT.lt Nat _ (L + 1 + 1 + 1 + 1) DL := Nat.lt_of_succ_lt qD5
            have qD3 : @LT.lt Nat _ (L + 1 + 1 + 1) DL := Nat.lt_of_succ_lt qD4
            have qD2 : @LT.lt Nat _ (L + 1 + 1) DL := Nat.lt_of_succ_lt qD3
            have qD1 : @LT.lt Nat _ (L + 1) DL := Nat.lt_of_succ_lt qD2
            have ltRS : ∀ q ∈ RS, @LT.lt Nat _ q.1 DL := by
              rw [hRS]
              intro q hq
              refine ltL' q ?_
              revert q
              ((repeat' (first | refine Mine.all_cons ?_ ?_ | exact Mine.all_nil | refine Mine.all_app ?_ ?_)); (all_goals (first | (intro p h; ((repeat (first | exact h | exact List.mem_append_left _ h | exact List.mem_append_right _ h | exact List.mem_append_right _ (List.mem_append_left _ h) | refine' List.Mem.tail _ ?_)); done)) | (first | k_mem | ((repeat refine' List.Mem.tail _ ?_); refine' List.mem_append_right _ ?_; first | k_mem | (refine' List.mem_append_right _ ?_; k_mem)) | simp))))
            have lt7 : @LT.lt Nat _ D7 DL := ltL' (D7, LCg.lst ys7) (by (first | k_mem | ((repeat refine' List.Mem.tail _ ?_); refine' List.mem_append_right _ ?_; first | k_mem | (refine' List.mem_append_right _ ?_; k_mem)) | simp))
            clear N33 ltL ltL'
            have hball : ∀ z, z < bs.length → ∃ lb vsb cb, ys7[z]? = some (.ref lb) ∧ (lb, listOf (List.toArray vsb) cb) ∈ RS ∧ Paired IntOf vsb (SL bs z) := by
              intro z hz
              obtain ⟨lb, vsb, cb, z1, z2, z3⟩ := bal_at hB hz
              exact ⟨lb, vsb, cb, z1, by rw [hRS]; have h := List.mem_append_right ex3 z2; ((repeat (first | exact h | exact List.mem_append_left _ h | exact List.mem_append_right _ h | exact List.mem_append_right _ (List.mem_append_left _ h) | refine' List.Mem.tail _ ?_)); done), z3⟩
            have hRS2 : Hide (RS = _) := hRS
            clear hRS
            refine stCN (own := [(DL, _), (D7, _), (L + 1 + 1 + 1 + 1 + 1 + 1, oGO), (L + 1 + 1 + 1 + 1 + 1, oME)]) (c := L + 1 + 1 + 1 + 1) (o := oLE) F33 N34 rfl dLE ?_ ?_ ?_
            · (repeat' (first | refine Mine.all_cons ?_ ?_ | exact Mine.all_nil | refine Mine.all_app ?_ ?_))
              all_goals try intro q h
              · (first | exact Nat.ne_of_gt (by assumption) | exact Nat.ne_of_lt (by assumption) | exact ne_lit (by assumption) rfl | exact Ne.symm (ne_lit (by assumption) rfl) | exact ne_c1 | exact Ne.symm ne_c1 | exact ne_c2 | exact Ne.symm ne_c2 | exact ne_c3 | exact Ne.symm ne_c3 | exact ne_c4 | exact Ne.symm ne_c4 | exact ne_c5 | exact Ne.symm ne_c5 | exact Nat.ne_of_gt (by omega) | exact Nat.ne_of_lt (by omega))
              · exact n7.1
              · (first | exact Nat.ne_of_gt (by assumption) | exact Nat.ne_of_lt (by assumption) | exact ne_lit (by assumption) rfl | exact Ne.symm (ne_lit (by assumption) rfl) | exact ne_c1 | exact Ne.symm ne_c1 | exact ne_c2 | exact Ne.symm ne_c2 | exact ne_c3 | exact Ne.symm ne_c3 | exact ne_c4 | exact Ne.symm ne_c4 | exact ne_c5 | exact Ne.symm ne_c5 | exact Nat.ne_of_gt (by omega) | exact Nat.ne_of_lt (by omega))
              · (first | exact Nat.ne_of_gt (by assumption) | exact Nat.ne_of_lt (by assumption) | exact ne_lit (by assumption) rfl | exact Ne.symm (ne_lit (by assumption) rfl) | exact ne_c1 | exact Ne.symm ne_c1 | exact ne_c2 | exact Ne.symm ne_c2 | exact ne_c3 | exact Ne.symm ne_c3 | exact ne_c4 | exact Ne.symm ne_c4 | exact ne_c5 | exact Ne.symm ne_c5 | exact Nat.ne_of_gt (by omega) | exact Nat.ne_of_lt (by omega))
            · (repeat' (first | refine Mine.all_cons ?_ ?_ | exact Mine.all_nil | refine Mine.all_app ?_ ?_))
              all_goals try intro q h
              · (first | exact Nat.ne_of_gt (by assumption) | exact Nat.ne_of_lt (by assumption) | exact ne_lit (by assumption) rfl | exact Ne.symm (ne_lit (by assumption) rfl) | exact ne_c1 | exact Ne.symm ne_c1 | exact ne_c2 | exact Ne.symm ne_c2 | exact ne_c3 | exact Ne.symm ne_c3 | exact ne_c4 | exact Ne.symm ne_c4 | exact ne_c5 | exact Ne.symm ne_c5 | exact Nat.ne_of_gt (by omega) | exact Nat.ne_of_lt (by omega))
              · (first | exact Nat.ne_of_gt (by assumption) | exact Nat.ne_of_lt (by assumption) | exact ne_lit (by assumption) rfl | exact Ne.symm (ne_lit (by assumption) rfl) | exact ne_c1 | exact Ne.symm ne_c1 | exact ne_c2 | exact Ne.symm ne_c2 | exact ne_c3 | exact Ne.symm ne_c3 | exact ne_c4 | exact Ne.symm ne_c4 | exact ne_c5 | exact Ne.symm ne_c5 | exact Nat.ne_of_gt (by omega) | exact Nat.ne_of_lt (by omega))
              · (first | exact Nat.ne_of_gt (by assumption) | exact Nat.ne_of_lt (by assumption) | exact ne_lit (by assumption) rfl | exact Ne.symm (ne_lit (by assumption) rfl) | exact ne_c1 | exact Ne.symm ne_c1 | exact ne_c2 | exact Ne.symm ne_c2 | exact ne_c3 | exact Ne.symm ne_c3 | exact ne_c4 | exact Ne.symm ne_c4 | exact ne_c5 | exact Ne.symm ne_c5 | exact Nat.ne_of_gt (by omega) | exact Nat.ne_of_lt (by omega))
              · exact (nRS q h).2.2.2.1
            intro h35 oLE35 F35 N35 dLE35
            clear F33 N34
            dsimp only [List.cons_append, List.nil_append] at N35
            repeat' walk1
            rename Fr _ _ _ _ => F36
            rename News _ _ _ _ => N36
            rename_i DM hM2 ltM
            have qM6 : @LT.lt Nat _ (L + 1 + 1 + 1 + 1 + 1 + 1) DM := ltM.2.2.1
            have qM5 : @LT.lt Nat _ (L + 1 + 1 + 1 + 1 + 1) DM := Nat.lt_of_succ_lt qM6
            have qM4 : @LT.lt Nat _ (L + 1 + 1 + 1 + 1) DM := Nat.lt_of_succ_lt qM5
            have qM3 : @LT.lt Nat _ (L + 1 + 1 + 1) DM := Nat.lt_of_succ_lt qM4
            have qM2 : @LT.lt Nat _ (L + 1 + 1) DM := Nat.lt_of_succ_lt qM3
            have qM1 : @LT.lt Nat _ (L + 1) DM := Nat.lt_of_succ_lt qM2
            have kM : @LT.lt Nat _ 485 DM := Nat.lt_trans kL6 qM6
            refine stCN (own := [(DM, listOf #[] 0), (DL, _), (D7, _), (L + 1 + 1 + 1 + 1 + 1 + 1, oGO)]) (c := L + 1 + 1 + 1 + 1 + 1) (o := oME) F36 N36 rfl dME ?_ ?_ ?_
            · (repeat' (first | refine Mine.all_cons ?_ ?_ | exact Mine.all_nil | refine Mine.all_app ?_ ?_))
              all_goals try intro q h
              · exact Nat.ne_of_gt ltM.2.2.2.1
              · (first | exact Nat.ne_of_gt (by assumption) | exact Nat.ne_of_lt (by assumption) | exact ne_lit (by assumption) rfl | exact Ne.symm (ne_lit (by assumption) rfl) | exact ne_c1 | exact Ne.symm ne_c1 | exact ne_c2 | exact Ne.symm ne_c2 | exact ne_c3 | exact Ne.symm ne_c3 | exact ne_c4 | exact Ne.symm ne_c4 | exact ne_c5 | exact Ne.symm ne_c5 | exact Nat.ne_of_gt (by omega) | exact Nat.ne_of_lt (by omega))
              · exact n7.2.1
              · (first | exact Nat.ne_of_gt (by assumption) | exact Nat.ne_of_lt (by assumption) | exact ne_lit (by assumption) rfl | exact Ne.symm (ne_lit (by assumption) rfl) | exact ne_c1 | exact Ne.symm ne_c1 | exact ne_c2 | exact Ne.symm ne_c2 | exact ne_c3 | exact Ne.symm ne_c3 | exact ne_c4 | exact Ne.symm ne_c4 | exact ne_c5 | exact Ne.symm ne_c5 | exact Nat.ne_of_gt (by omega) | exact Nat.ne_of_lt (by omega))
            · (repeat' (first | refine Mine.all_cons ?_ ?_ | exact Mine.all_nil | refine Mine.all_app ?_ ?_))
              all_goals try intro q h
              · (first | exact Nat.ne_of_gt (by assumption) | exact Nat.ne_of_lt (by assumption) | exact ne_lit (by assumption) rfl | exact Ne.symm (ne_lit (by assumption) rfl) | exact ne_c1 | exact Ne.symm ne_c1 | exact ne_c2 | exact Ne.symm ne_c2 | exact ne_c3 | exact Ne.symm ne_c3 | exact ne_c4 | exact Ne.symm ne_c4 | exact ne_c5 | exact Ne.symm ne_c5 | exact Nat.ne_of_gt (by omega) | exact Nat.ne_of_lt (by omega))
              · (first | exact Nat.ne_of_gt (by assumption) | exact Nat.ne_of_lt (by assumption) | exact ne_lit (by assumption) rfl | exact Ne.symm (ne_lit (by assumption) rfl) | exact ne_c1 | exact Ne.symm ne_c1 | exact ne_c2 | exact Ne.symm ne_c2 | exact ne_c3 | exact Ne.symm ne_c3 | exact ne_c4 | exact Ne.symm ne_c4 | exact ne_c5 | exact Ne.symm ne_c5 | exact Nat.ne_of_gt (by omega) | exact Nat.ne_of_lt (by omega))
              · (first | exact Nat.ne_of_gt (by assumption) | exact Nat.ne_of_lt (by assumption) | exact ne_lit (by assumption) rfl | exact Ne.symm (ne_lit (by assumption) rfl) | exact ne_c1 | exact Ne.symm ne_c1 | exact ne_c2 | exact Ne.symm ne_c2 | exact ne_c3 | exact Ne.symm ne_c3 | exact ne_c4 | exact Ne.symm ne_c4 | exact ne_c5 | exact Ne.symm ne_c5 | exact Nat.ne_of_gt (by omega) | exact Nat.ne_of_lt (by omega))
              · (first | exact Nat.ne_of_gt (by assumption) | exact Nat.ne_of_lt (by assumption) | exact ne_lit (by assumption) rfl | exact Ne.symm (ne_lit (by assumption) rfl) | exact ne_c1 | exact Ne.symm ne_c1 | exact ne_c2 | exact Ne.symm ne_c2 | exact ne_c3 | exact Ne.symm ne_c3 | exact ne_c4 | exact Ne.symm ne_c4 | exact ne_c5 | exact Ne.symm ne_c5 | exact Nat.ne_of_gt (by omega) | exact Nat.ne_of_lt (by omega))
              · exact (nRS q h).2.2.2.2.1
            intro h37 oME37 F37 N37 dME37
            clear F36 N36
            dsimp only [List.cons_append, List.nil_append] at N37
            repeat' walk1
            refine Mine.held ?_
            rename Fr _ _ _ _ => F38
            rename News _ _ _ _ => N38
            refine For_rangeM (g₀ := #[]) (h₀ := g0) F38 (LJ (SL bs) bs.length n k L D7 DM (LCg.lst ys7) oB8 oN RS) rfl (show k ≤ 1000 by omega) ?hiter2 (fun _ _ => rfl) ?step2 ?fin2
            case hiter2 =>
              repeat' walk1
              rename Fr _ _ _ _ => F39
              rename News _ _ _ _ => N39
              rename IsRange _ _ _ _ _ _ _ _ => R39
              refine ⟨_, _, _, _, _, rfl, R39, F39, newsSub N39 ?_, G8, rfl, LJ.mk (DL := DL) (lv := vL) (lc := cL) (mv := []) (mc := 0) (fun _ _ _ _ => rfl) dGO dME37 dLE35 dCA hPL .nil ?_⟩
              · ((repeat' (first | refine Mine.all_cons ?_ ?_ | exact Mine.all_nil | refine Mine.all_app ?_ ?_)); (all_goals (first | (intro p h; ((repeat (first | exact h | exact List.mem_append_left _ h | exact List.mem_append_right _ h | exact List.mem_append_right _ (List.mem_append_left _ h) | refine' List.Mem.tail _ ?_)); done)) | (first | k_mem | ((repeat refine' List.Mem.tail _ ?_); refine' List.mem_append_right _ ?_; first | k_mem | (refine' List.mem_append_right _ ?_; k_mem)) | simp))))
              · (repeat' (first | refine Mine.all_cons ?_ ?_ | exact Mine.all_nil | refine Mine.all_app ?_ ?_))
                all_goals try intro q h
                · exact Nat.ne_of_gt ltM.1
                · exact Nat.ne_of_lt lt7
                iterate 6 (first | exact Nat.ne_of_gt (by assumption) | exact Nat.ne_of_lt (by assumption) | exact ne_lit (by assumption) rfl | exact Ne.symm (ne_lit (by assumption) rfl) | exact ne_c1 | exact Ne.symm ne_c1 | exact ne_c2 | exact Ne.symm ne_c2 | exact ne_c3 | exact Ne.symm ne_c3 | exact ne_c4 | exact Ne.symm ne_c4 | exact ne_c5 | exact Ne.symm ne_c5 | exact Nat.ne_of_gt (by omega) | exact Nat.ne_of_lt (by omega))
                · exact Nat.ne_of_lt (ltRS q h)
            case step2 =>
              intro i t m' nx s₃ I oI hi hLJ
              refine LJ.elim hLJ ?_
              clear hLJ
              rintro DL lv lc mv mc oGO' oME' oLE' oCA' vGO vCA u1 u2 u3 rfl rfl g1 g2 g3 g4 pv pm hDL hIn F40 N40 G40 eo40 lI
              clear F38 N38
              dsimp only [List.cons_append] at N40
              repeat' walk1
              refine Mine.held ?_
              rename Fr _ _ _ _ => F41
              rename News _ _ _ _ => N41
              refine Assign_ListComp_Ce F41 rfl (by with_unfolding_all rfl) (by with_unfolding_all rfl) (fun _ => rfl) (fun _ => rfl) (by rfl) (by decide) (fun _ _ => rfl) (by rfl) (by rfl) ?_
              repeat' walk1
              rename Fr _ _ _ _ => F42
              rename News _ _ _ _ => N42
              rename IsRange _ _ _ _ _ _ _ _ => R42
              refine ⟨_, _, _, _, n, _, fun j ys nx => ∃ tl, nx = (DL, listOf (List.toArray lv) lc) :: (DM, listOf (List.toArray mv) mc) :: (D7, LCg.lst ys7) :: (L + 1 + 1 + 1 + 1 + 1 + 1, oGO') :: (L + 1 + 1 + 1 + 1 + 1, oME') :: (L + 1 + 1 + 1 + 1, oLE') :: (L + 1 + 1 + 1, oB8) :: (L + 1 + 1, oCA') :: (L + 1, oN) :: (tl ++ (RS ++ [(I, oI)])) ∧ Paired (PairIn tl) ys (((List.range j).filter fun c => decide (c ∉ (gst (SL bs) bs.length n k i).com)).map fun c => (-(cnt (SL bs) (gst (SL bs) bs.length n k i).rv c : Int), (c : Int))), rfl, rfl, F42, N42, R42, by omega, ⟨[], rfl, .nil⟩, fun g => ?_, ?_⟩
              · rintro j ys nx v I2 oI2 C oC K oK D h6 tk6 E' hj ⟨tl, rfl, hps⟩ ⟨tv, rfl⟩ hK F43 N43 off hne
                clear F42 N42
                rw [show (0 : Int) + (j : Int) = (j : Int) from by omega] at hK
                refine wpAny_tests_one ?_
                walk1
                walk1
                walk1
                have N44 := N43
                refine notin_listN ⟨_, (N44 (DM, listOf (List.toArray mv) mc) (by (first | k_mem | ((repeat refine' List.Mem.tail _ ?_); refine' List.mem_append_right _ ?_; first | k_mem | (refine' List.mem_append_right _ ?_; k_mem)) | simp))).1, rfl, mc, rfl⟩ pm ?_
                by_cases hin : j ∈ (gst (SL bs) bs.length n k i).com
                · rw [decide_eq_true hin]
                  repeat' walk1
                  exact ⟨_, _, _, _, rfl, F43, N43, fun p hp => hp, off, trivial, tl, rfl, marks_no hps (decide_eq_false (fun q => q hin))⟩
                · rw [decide_eq_false hin]
                  repeat' walk1
                  refine Mine.held ?_
                  show wpAny _ _ _ _ _ ⟨_, s₃.gens, s₃.drawn, _, s₃.os⟩
                  refine' LCt.ListComp_T (F₀ := F43) (by with_unfolding_all rfl) (by decide) (by rfl) (by decide) (by rfl) ?_
                  walk1
                  refine LCt.CompSrcT.ledger (its := List.toArray lv) (k := lc) rfl F43 N43 (.tail _ (.tail _ (.tail _ (.tail _ (.head _))))) ?_ (fun g => ?_)
                  · have := rv_len (SL bs) bs.length n k i
                    rw [← pv.length] at this
                    show lv.length ≤ _
                    rw [sizeLine_eq]; omega
                  refine compT_ind (fun i' ys nx => nx = _ ∧ Paired IntOf ys ((((gst (SL bs) bs.length n k i).rv).take i').filter fun z => decide (j ∈ SL bs z))) ?_ ?_ _ 0 [] _ (Nat.zero_add _) ⟨rfl, by simpa using .nil⟩
                  · rintro i3 ys3 nx3 v3 I3 oI3 C3 oC3 D3 m3 h8 tk8 E'' hi3 ⟨rfl, hys⟩ hP3 hC3 hx3 F46 N46 off3 hne3
                    obtain ⟨z3, hz3, tz3, rfl⟩ := paired_at pv (by simpa using hP3)
                    have hz3n := rv_sub (SL bs) bs.length n k i z3 (List.mem_of_getElem? hz3)
                    obtain ⟨lb, vsb, cb, w1', w2', w3'⟩ := hball z3 hz3n
                    have hM2 : Mark2 := trivial
                    repeat' walk1
                    refine Mine.held ?_
                    show wpAny _ _ _ _ _ ⟨_, s₃.gens, s₃.drawn, _, s₃.os⟩
                    refine item_N (items := List.toArray ys7) ⟨_, (N46 (D7, LCg.lst ys7) (by (first | k_mem | ((repeat refine' List.Mem.tail _ ?_); refine' List.mem_append_right _ ?_; first | k_mem | (refine' List.mem_append_right _ ?_; k_mem)) | simp))).1, rfl, _, rfl⟩ (by omega) (by simpa using w1') ?_
                    refine in_listN ⟨_, (N46 (lb, listOf (List.toArray vsb) cb) (by ((repeat (first | exact w2' | exact List.mem_append_left _ w2' | exact List.mem_append_right _ w2' | exact List.mem_append_right _ (List.mem_append_left _ w2') | refine' List.Mem.tail _ ?_)); done))).1, rfl, cb, rfl⟩ w3' ?_
                    by_cases hin2 : j ∈ SL bs z3
                    · rw [decide_eq_true hin2]
                      repeat' walk1
                      exact LCg.CompEnd.intro F46 N46 _ (fun p hp => hp) off3 (.inr ⟨_, .tail _ (.tail _ (.tail _ (.tail _ (.head _)))), rfl, lc, rfl⟩) ⟨rfl, filter_yes hys hz3 (decide_eq_true hin2)⟩
                    · rw [decide_eq_false hin2]
                      repeat' walk1
                      exact LCg.CompEnd.intro F46 N46 _ (fun p hp => hp) off3 (.inr ⟨_, .tail _ (.tail _ (.tail _ (.tail _ (.head _)))), rfl, lc, rfl⟩) ⟨rfl, filter_no hys hz3 (decide_eq_false hin2)⟩
                  · rintro ys3 nx3 ⟨rfl, hys⟩
                    rw [List.take_of_length_le (by simpa using Nat.le_of_eq pv.length.symm)] at hys
                    intro D4 h9 tk9 F47 N47 o47
                    have hcnt : ys3.length = cnt (SL bs) (gst (SL bs) bs.length n k i).rv j := hys.length
                    have hcle : cnt (SL bs) (gst (SL bs) bs.length n k i).rv j ≤ bs.length := Nat.le_trans (List.length_filter_le _ _) (rv_len (SL bs) bs.length n k i)
                    repeat' walk1
                    refine Mine.held ?_
                    show wpAny _ _ _ _ _ ⟨_, s₃.gens, s₃.drawn, _, s₃.os⟩
                    refine len_listN (k := cnt (SL bs) (gst (SL bs) bs.length n k i).rv j) ⟨_, (N47 _ (.head _)).1, rfl, _, rfl⟩ hcnt (by omega) ?_
                    repeat' walk1
                    rename Fr _ _ _ _ => F48
                    rename News _ _ _ _ => N48
                    rename_i T9 hT9 lT9
                    obtain ⟨o9, eo9⟩ := head_obj N48
                    rw [← eo9] at N48
                    refine ⟨_, _, _, (DL, listOf (List.toArray lv) lc) :: (DM, listOf (List.toArray mv) mc) :: (D7, LCg.lst ys7) :: (L + 1 + 1 + 1 + 1 + 1 + 1, oGO') :: (L + 1 + 1 + 1 + 1 + 1, oME') :: (L + 1 + 1 + 1 + 1, oLE') :: (L + 1 + 1 + 1, oB8) :: (L + 1 + 1, oCA') :: (L + 1, oN) :: (((T9, o9) :: tl) ++ (RS ++ [(I, oI)])), rfl, F48, N48, ?_, ?_, trivial, (T9, o9) :: tl, rfl, marks_yes hps (decide_eq_true hin) (fun p hp => .tail _ hp) ⟨T9, o9, _, _, _, rfl, .head _, congrArg Obj.cls eo9, congrArg Obj.data eo9⟩⟩
                    · ((repeat' (first | refine Mine.all_cons ?_ ?_ | exact Mine.all_nil | refine Mine.all_app ?_ ?_)); (all_goals (first | (intro p h; ((repeat (first | exact h | exact List.mem_append_left _ h | exact List.mem_append_right _ h | exact List.mem_append_right _ (List.mem_append_left _ h) | refine' List.Mem.tail _ ?_)); done)) | (first | k_mem | ((repeat refine' List.Mem.tail _ ?_); refine' List.mem_append_right _ ?_; first | k_mem | (refine' List.mem_append_right _ ?_; k_mem)) | simp))))
                    · (repeat' (first | refine Mine.all_cons ?_ ?_ | exact Mine.all_nil | refine Mine.all_app ?_ ?_))
                      all_goals try intro p h
                      iterate 9 exact off _ (by (first | k_mem | ((repeat refine' List.Mem.tail _ ?_); refine' List.mem_append_right _ ?_; first | k_mem | (refine' List.mem_append_right _ ?_; k_mem)) | simp))
                      · exact ⟨Nat.ne_of_gt lT9.2.1, Nat.ne_of_gt lT9.2.2.1, Nat.ne_of_gt lT9.2.2.2.1, Nat.ne_of_gt lT9.2.2.2.2.1⟩
                      · exact off p (by ((repeat (first | exact h | exact List.mem_append_left _ h | exact List.mem_append_right _ h | exact List.mem_append_right _ (List.mem_append_left _ h) | refine' List.Mem.tail _ ?_)); done))
                      · exact off p (by ((repeat (first | exact h | exact List.mem_append_left _ h | exact List.mem_append_right _ h | exact List.mem_append_right _ (List.mem_append_left _ h) | refine' List.Mem.tail _ ?_)); done))
                      · exact off _ (by (first | k_mem | ((repeat refine' List.Mem.tail _ ?_); refine' List.mem_append_right _ ?_; first | k_mem | (refine' List.mem_append_right _ ?_; k_mem)) | simp))
              · rintro D8 g8' tk8 ys8 nx8 F45 N45 o8 ⟨tl, rfl, hps⟩
                clear F42 N42
                iterate 9 walk1
                have hrc := rc_of_com (SL bs) bs.length n k i
                have hrcs := rc_sorted (SL bs) bs.length n k i
                have hrcn := rc_ne (SL bs) bs.length n k i (by omega)
                have hrcl := rc_sub (SL bs) bs.length n k i
                rw [← hrc] at hps
                obtain ⟨c0, r0, hcr⟩ : ∃ c0 r0, (gst (SL bs) bs.length n k i).rc = c0 :: r0 := by
                  cases e : (gst (SL bs) bs.length n k i).rc with
                  | nil => exact absurd e hrcn
                  | cons a b => exact ⟨a, b, rfl⟩
                rw [hcr, List.map_cons] at hps
                refine min_pairs rfl (by simp only [units_in1, units_deeper, units_caller]; rw [cLine_is]; omega) F45 N45 ⟨_, (N45 (D8, LCg.lst ys8) (.head _)).1, rfl, _, rfl⟩ (paired_mono (fun _ _ x => x.mono fun q hq => by simp [hq]) hps) ?_
                intro v9 h9 tk9 hv9 F49 N49
                obtain ⟨aP, oP, nP, tP1, tP2, rfl, hmP, hP1, hP2⟩ := hv9
                rw [min_gsel (SL bs) (gst (SL bs) bs.length n k i).rv c0 r0 (by rw [← hcr]; exact hrcs), ← hcr] at hP2
                have hM2 : Mark2 := trivial
                repeat' walk1
                refine Mine.held ?_
                show wpAny _ _ _ _ _ ⟨_, s₃.gens, s₃.drawn, _, s₃.os⟩
                rename Mark2 => hM2
                clear hM2
                refine item_tupleT (l := [_, .int _ tP2]) (j := 1) ⟨oP, (N49 _ hmP).1, hP1, nP, hP2⟩ (by decide) (by decide) rfl rfl ?_
                have N50 := newsSub N49 (news' := (DL, listOf (List.toArray lv) lc) :: (DM, listOf (List.toArray mv) mc) :: (D7, LCg.lst ys7) :: (L + 1 + 1 + 1 + 1 + 1 + 1, oGO') :: (L + 1 + 1 + 1 + 1 + 1, oME') :: (L + 1 + 1 + 1 + 1, oLE') :: (L + 1 + 1 + 1, oB8) :: (L + 1 + 1, oCA') :: (L + 1, oN) :: (RS ++ [(I, oI)])) (by
                  ((repeat' (first | refine Mine.all_cons ?_ ?_ | exact Mine.all_nil | refine Mine.all_app ?_ ?_)); (all_goals (first | (intro p h; ((repeat (first | exact h | exact List.mem_append_left _ h | exact List.mem_append_right _ h | exact List.mem_append_right _ (List.mem_append_left _ h) | refine' List.Mem.tail _ ?_)); done)) | (first | k_mem | ((repeat refine' List.Mem.tail _ ?_); refine' List.mem_append_right _ ?_; first | k_mem | (refine' List.mem_append_right _ ?_; k_mem)) | simp)))))
                clear N49 N45 F45 hmP
                have qDM : @LT.lt Nat _ (L + 1 + 1 + 1 + 1 + 1 + 1) DM := ltM.2.2.1
                generalize hgs : gsel (SL bs) (gst (SL bs) bs.length n k i).rv (gst (SL bs) bs.length n k i).rc = c1'
                repeat' walk1
                rename Fr _ _ _ _ => F51
                refine stCN (own := [(DL, _), (DM, _), (D7, _), (L + 1 + 1 + 1 + 1 + 1 + 1, oGO'), (L + 1 + 1 + 1 + 1 + 1, oME'), (L + 1 + 1 + 1 + 1, oLE'), (L + 1 + 1 + 1, oB8)]) (c := L + 1 + 1) (o := oCA') F51 N50 rfl g4 ?_ ?_ ?_
                · (repeat' (first | refine Mine.all_cons ?_ ?_ | exact Mine.all_nil | refine Mine.all_app ?_ ?_))
                  all_goals try intro q h
                  · exact Ne.symm (hDL (L + 1 + 1, oCA') (by (first | k_mem | ((repeat refine' List.Mem.tail _ ?_); refine' List.mem_append_right _ ?_; first | k_mem | (refine' List.mem_append_right _ ?_; k_mem)) | simp)))
                  · (first | exact Nat.ne_of_gt (by assumption) | exact Nat.ne_of_lt (by assumption) | exact ne_lit (by assumption) rfl | exact Ne.symm (ne_lit (by assumption) rfl) | exact ne_c1 | exact Ne.symm ne_c1 | exact ne_c2 | exact Ne.symm ne_c2 | exact ne_c3 | exact Ne.symm ne_c3 | exact ne_c4 | exact Ne.symm ne_c4 | exact ne_c5 | exact Ne.symm ne_c5 | exact Nat.ne_of_gt (by omega) | exact Nat.ne_of_lt (by omega))
                  · exact n7.2.2.1
                  iterate 4 (first | exact Nat.ne_of_gt (by assumption) | exact Nat.ne_of_lt (by assumption) | exact ne_lit (by assumption) rfl | exact Ne.symm (ne_lit (by assumption) rfl) | exact ne_c1 | exact Ne.symm ne_c1 | exact ne_c2 | exact Ne.symm ne_c2 | exact ne_c3 | exact Ne.symm ne_c3 | exact ne_c4 | exact Ne.symm ne_c4 | exact ne_c5 | exact Ne.symm ne_c5 | exact Nat.ne_of_gt (by omega) | exact Nat.ne_of_lt (by omega))
                · (repeat' (first | refine Mine.all_cons ?_ ?_ | exact Mine.all_nil | refine Mine.all_app ?_ ?_))
                  all_goals try intro q h
                  · (first | exact Nat.ne_of_gt (by assumption) | exact Nat.ne_of_lt (by assumption) | exact ne_lit (by assumption) rfl | exact Ne.symm (ne_lit (by assumption) rfl) | exact ne_c1 | exact Ne.symm ne_c1 | exact ne_c2 | exact Ne.symm ne_c2 | exact ne_c3 | exact Ne.symm ne_c3 | exact ne_c4 | exact Ne.symm ne_c4 | exact ne_c5 | exact Ne.symm ne_c5 | exact Nat.ne_of_gt (by omega) | exact Nat.ne_of_lt (by omega))
                  · exact (nRS q h).2.1
                  · exact Ne.symm (hIn (L + 1 + 1, oCA') (by (first | k_mem | ((repeat refine' List.Mem.tail _ ?_); refine' List.mem_append_right _ ?_; first | k_mem | (refine' List.mem_append_right _ ?_; k_mem)) | simp)))
                intro h52 oCA52 F52 N52 dCA52
                clear F51 N50
                dsimp only [List.cons_append, List.nil_append] at N52
                repeat' walk1
                refine Mine.held ?_
                rename News _ _ _ _ => N53
                refine len_listN (k := bs.length) ⟨_, (N53 (D7, LCg.lst ys7) (by (first | k_mem | ((repeat refine' List.Mem.tail _ ?_); refine' List.mem_append_right _ ?_; first | k_mem | (refine' List.mem_append_right _ ?_; k_mem)) | simp))).1, rfl, _, rfl⟩ hyl (by omega) ?_
                repeat' walk1
                refine Mine.held ?_
                rename Fr _ _ _ _ => F54
                rename News _ _ _ _ => N54
                have esh : Int.fdiv ((bs.length : Int) + (k : Int) - 1 - (i : Int)) (k : Int) = (gtake bs.length k i : Int) := by
                  rw [gtake_law _ _ _ hk.1 hi, Int.fdiv_eq_ediv_of_nonneg _ (by omega), show (bs.length : Int) + (k : Int) - 1 - (i : Int) = ((bs.length + k - 1 - i : Nat) : Int) from by omega]
                  rfl
                rw [esh] at F54
                refine' LCt.ListComp_T (F₀ := F54) (by with_unfolding_all rfl) (by decide) (by rfl) (by decide) (by rfl) ?_
                walk1
                refine LCt.CompSrcT.ledger (its := List.toArray lv) (k := lc) rfl F54 N54 (.head _) ?_ (fun g => ?_)
                · have := rv_len (SL bs) bs.length n k i
                  rw [← pv.length] at this
                  show lv.length ≤ _
                  rw [sizeLine_eq]; omega
                refine compT_ind (fun i' ys nx => nx = _ ∧ Paired IntOf ys ((((gst (SL bs) bs.length n k i).rv).take i').filter fun z => decide (c1' ∈ SL bs z))) ?_ ?_ _ 0 [] _ (Nat.zero_add _) ⟨rfl, by simpa using .nil⟩
                · rintro i3 ys3 nx3 v3 I3 oI3 C3 oC3 D3 m3 h8 tk8 E'' hi3 ⟨rfl, hys⟩ hP3 hC3 hx3 F56 N56 off3 hne3
                  obtain ⟨z3, hz3, tz3, rfl⟩ := paired_at pv (by simpa using hP3)
                  have hz3n := rv_sub (SL bs) bs.length n k i z3 (List.mem_of_getElem? hz3)
                  obtain ⟨lb, vsb, cb, w1', w2', w3'⟩ := hball z3 hz3n
                  have hM2 : Mark2 := trivial
                  repeat' walk1
                  refine Mine.held ?_
                  refine item_N (items := List.toArray ys7) ⟨_, (N56 (D7, LCg.lst ys7) (by (first | k_mem | ((repeat refine' List.Mem.tail _ ?_); refine' List.mem_append_right _ ?_; first | k_mem | (refine' List.mem_append_right _ ?_; k_mem)) | simp))).1, rfl, _, rfl⟩ (by omega) (by simpa using w1') ?_
                  refine in_listN ⟨_, (N56 (lb, listOf (List.toArray vsb) cb) (by ((repeat (first | exact w2' | exact List.mem_append_left _ w2' | exact List.mem_append_right _ w2' | exact List.mem_append_right _ (List.mem_append_left _ w2') | refine' List.Mem.tail _ ?_)); done))).1, rfl, cb, rfl⟩ w3' ?_
                  by_cases hin2 : c1' ∈ SL bs z3
                  · rw [decide_eq_true hin2]
                    repeat' walk1
                    exact LCg.CompEnd.intro F56 N56 _ (fun p hp => hp) off3 (.inr ⟨_, .head _, rfl, lc, rfl⟩) ⟨rfl, filter_yes hys hz3 (decide_eq_true hin2)⟩
                  · rw [decide_eq_false hin2]
                    repeat' walk1
                    exact LCg.CompEnd.intro F56 N56 _ (fun p hp => hp) off3 (.inr ⟨_, .head _, rfl, lc, rfl⟩) ⟨rfl, filter_no hys hz3 (decide_eq_false hin2)⟩
                · rintro ys3 nx3 ⟨rfl, hys⟩
                  rw [List.take_of_length_le (by simpa using Nat.le_of_eq pv.length.symm)] at hys
                  intro D4 h9' tk9' F57 N57 o57
                  clear F54 N54
                  have hyl3 : ys3.length ≤ bs.length := by
                    rw [hys.length]
                    exact Nat.le_trans (List.length_filter_le _ _) (rv_len (SL bs) bs.length n k i)
                  iterate 5 walk1
                  rename Fr _ _ _ _ => F58
                  rename News _ _ _ _ => N58
                  refine kba_turn (value' := PySem.Expr.Name (PySem.Str.ofString "_") ⟨0, 0, 0, 0⟩) (fun _ => rfl) ?_
                  refine kmk_slice (its := List.toArray ys3) (lo := none) (hi := some (gtake bs.length k i : Int)) F58 N58 ⟨_, (N58 _ (.head _)).1, rfl, _, rfl⟩ .none (.int _ _) ?_ (by with_unfolding_all rfl) (by intro _; with_unfolding_all rfl) (by rw [sizeLine_eq]; simp only [List.size_toArray]; omega)
                  intro DG h59 F59 N59 l59
                  clear F58 N58
                  rw [slicePick_upto'] at N59
                  have qDG : @LT.lt Nat _ (L + 1 + 1 + 1 + 1 + 1 + 1) DG := l59 (L + 1 + 1 + 1 + 1 + 1 + 1, oGO') (by (first | k_mem | ((repeat refine' List.Mem.tail _ ?_); refine' List.mem_append_right _ ?_; first | k_mem | (refine' List.mem_append_right _ ?_; k_mem)) | simp))
                  have hpG : Paired IntOf (ys3.take (gtake bs.length k i)) (gtr (SL bs) (gst (SL bs) bs.length n k i).rv c1' (gtake bs.length k i)) := paired_take hys _
                  refine stCN (own := [(DG, _), (D4, _), (DL, _), (DM, _), (D7, _)]) (c := L + 1 + 1 + 1 + 1 + 1 + 1) (o := oGO') F59 N59 rfl g1 ?_ ?_ ?_
                  · (repeat' (first | refine Mine.all_cons ?_ ?_ | exact Mine.all_nil | refine Mine.all_app ?_ ?_))
                    all_goals try intro q h
                    · (first | exact Nat.ne_of_gt (by assumption) | exact Nat.ne_of_lt (by assumption) | exact ne_lit (by assumption) rfl | exact Ne.symm (ne_lit (by assumption) rfl) | exact ne_c1 | exact Ne.symm ne_c1 | exact ne_c2 | exact Ne.symm ne_c2 | exact ne_c3 | exact Ne.symm ne_c3 | exact ne_c4 | exact Ne.symm ne_c4 | exact ne_c5 | exact Ne.symm ne_c5 | exact Nat.ne_of_gt (by omega) | exact Nat.ne_of_lt (by omega))
                    · exact Ne.symm (off1_mem o57 (L + 1 + 1 + 1 + 1 + 1 + 1, oGO') (by (first | k_mem | ((repeat refine' List.Mem.tail _ ?_); refine' List.mem_append_right _ ?_; first | k_mem | (refine' List.mem_append_right _ ?_; k_mem)) | simp)))
                    · exact Ne.symm (hDL (L + 1 + 1 + 1 + 1 + 1 + 1, oGO') (by (first | k_mem | ((repeat refine' List.Mem.tail _ ?_); refine' List.mem_append_right _ ?_; first | k_mem | (refine' List.mem_append_right _ ?_; k_mem)) | simp)))
                    · (first | exact Nat.ne_of_gt (by assumption) | exact Nat.ne_of_lt (by assumption) | exact ne_lit (by assumption) rfl | exact Ne.symm (ne_lit (by assumption) rfl) | exact ne_c1 | exact Ne.symm ne_c1 | exact ne_c2 | exact Ne.symm ne_c2 | exact ne_c3 | exact Ne.symm ne_c3 | exact ne_c4 | exact Ne.symm ne_c4 | exact ne_c5 | exact Ne.symm ne_c5 | exact Nat.ne_of_gt (by omega) | exact Nat.ne_of_lt (by omega))
                    · exact n7.2.2.2
                  · (repeat' (first | refine Mine.all_cons ?_ ?_ | exact Mine.all_nil | refine Mine.all_app ?_ ?_))
                    all_goals try intro q h
                    iterate 5 (first | exact Nat.ne_of_gt (by assumption) | exact Nat.ne_of_lt (by assumption) | exact ne_lit (by assumption) rfl | exact Ne.symm (ne_lit (by assumption) rfl) | exact ne_c1 | exact Ne.symm ne_c1 | exact ne_c2 | exact Ne.symm ne_c2 | exact ne_c3 | exact Ne.symm ne_c3 | exact ne_c4 | exact Ne.symm ne_c4 | exact ne_c5 | exact Ne.symm ne_c5 | exact Nat.ne_of_gt (by omega) | exact Nat.ne_of_lt (by omega))
                    · exact (nRS q h).2.2.2.2.2
                    · exact Ne.symm (hIn (L + 1 + 1 + 1 + 1 + 1 + 1, oGO') (by (first | k_mem | ((repeat refine' List.Mem.tail _ ?_); refine' List.mem_append_right _ ?_; first | k_mem | (refine' List.mem_append_right _ ?_; k_mem)) | simp)))
                  intro h60 oGO60 F60 N60 dGO60
                  clear F59 N59
                  dsimp only [List.cons_append, List.nil_append] at N60
                  have N61 := newsSub N60 (news' := (DG, listOf (List.toArray (ys3.take (gtake bs.length k i))) 0) :: (DL, listOf (List.toArray lv) lc) :: (DM, listOf (List.toArray mv) mc) :: (D7, LCg.lst ys7) :: (L + 1 + 1 + 1 + 1 + 1 + 1, oGO60) :: (L + 1 + 1 + 1 + 1 + 1, oME') :: (L + 1 + 1 + 1 + 1, oLE') :: (L + 1 + 1 + 1, oB8) :: (L + 1 + 1, oCA52) :: (L + 1, oN) :: (RS ++ [(I, oI)])) (by
                    ((repeat' (first | refine Mine.all_cons ?_ ?_ | exact Mine.all_nil | refine Mine.all_app ?_ ?_)); (all_goals (first | (intro p h; ((repeat (first | exact h | exact List.mem_append_left _ h | exact List.mem_append_right _ h | exact List.mem_append_right _ (List.mem_append_left _ h) | refine' List.Mem.tail _ ?_)); done)) | (first | k_mem | ((repeat refine' List.Mem.tail _ ?_); refine' List.mem_append_right _ ?_; first | k_mem | (refine' List.mem_append_right _ ?_; k_mem)) | simp)))))
                  clear N60
                  iterate 3 walk1
                  refine Mine.held ?_
                  refine' LCt.ListComp_T (F₀ := F60) (by with_unfolding_all rfl) (by decide) (by rfl) (by decide) (by rfl) ?_
                  walk1
                  refine LCt.CompSrcT.ledger (its := List.toArray lv) (k := lc) rfl F60 N61 (.tail _ (.head _)) ?_ (fun g => ?_)
                  · have := rv_len (SL bs) bs.length n k i
                    rw [← pv.length] at this
                    show lv.length ≤ _
                    rw [sizeLine_eq]; omega
                  refine compT_ind (fun i' ys nx => nx = _ ∧ Paired IntOf ys ((((gst (SL bs) bs.length n k i).rv).take i').filter fun z => decide (z ∉ gtr (SL bs) (gst (SL bs) bs.length n k i).rv c1' (gtake bs.length k i)))) ?_ ?_ _ 0 [] _ (Nat.zero_add _) ⟨rfl, by simpa using .nil⟩
                  · rintro i3 ys4 nx3 v3 I3 oI3 C3 oC3 D3 m3 h8 tk8 E'' hi3 ⟨rfl, hys4⟩ hP3 hC3 hx3 F62 N62 off3 hne3
                    obtain ⟨z3, hz3, tz3, rfl⟩ := paired_at pv (by simpa using hP3)
                    iterate 3 walk1
                    refine notin_listN ⟨_, (N62 (DG, listOf (List.toArray (ys3.take (gtake bs.length k i))) 0) (by (first | k_mem | ((repeat refine' List.Mem.tail _ ?_); refine' List.mem_append_right _ ?_; first | k_mem | (refine' List.mem_append_right _ ?_; k_mem)) | simp))).1, rfl, 0, rfl⟩ hpG ?_
                    by_cases hin4 : z3 ∈ gtr (SL bs) (gst (SL bs) bs.length n k i).rv c1' (gtake bs.length k i)
                    · rw [decide_eq_true hin4]
                      repeat' walk1
                      exact LCg.CompEnd.intro F62 N62 _ (fun p hp => hp) off3 (.inr ⟨_, .tail _ (.head _), rfl, lc, rfl⟩) ⟨rfl, filter_no hys4 hz3 (decide_eq_false (fun q => q hin4))⟩
                    · rw [decide_eq_false hin4]
                      repeat' walk1
                      exact LCg.CompEnd.intro F62 N62 _ (fun p hp => hp) off3 (.inr ⟨_, .tail _ (.head _), rfl, lc, rfl⟩) ⟨rfl, filter_yes hys4 hz3 (decide_eq_true hin4)⟩
                  · rintro ys4 nx3 ⟨rfl, hys4⟩
                    rw [List.take_of_length_le (by simpa using Nat.le_of_eq pv.length.symm)] at hys4
                    intro DN h9'' tk9'' F63 N63 o63
                    clear F60 N61
                    refine stCN (own := [(DN, _), (DG, _), (DL, _), (DM, _), (D7, _), (L + 1 + 1 + 1 + 1 + 1 + 1, oGO60), (L + 1 + 1 + 1 + 1 + 1, oME')]) (c := L + 1 + 1 + 1 + 1) (o := oLE') F63 N63 rfl g3 ?_ ?_ ?_
                    · (repeat' (first | refine Mine.all_cons ?_ ?_ | exact Mine.all_nil | refine Mine.all_app ?_ ?_))
                      all_goals try intro q h
                      · exact Ne.symm (off1_mem o63 (L + 1 + 1 + 1 + 1, oLE') (by (first | k_mem | ((repeat refine' List.Mem.tail _ ?_); refine' List.mem_append_right _ ?_; first | k_mem | (refine' List.mem_append_right _ ?_; k_mem)) | simp)))
                      · (first | exact Nat.ne_of_gt (by assumption) | exact Nat.ne_of_lt (by assumption) | exact ne_lit (by assumption) rfl | exact Ne.symm (ne_lit (by assumption) rfl) | exact ne_c1 | exact Ne.symm ne_c1 | exact ne_c2 | exact Ne.symm ne_c2 | exact ne_c3 | exact Ne.symm ne_c3 | exact ne_c4 | exact Ne.symm ne_c4 | exact ne_c5 | exact Ne.symm ne_c5 | exact Nat.ne_of_gt (by omega) | exact Nat.ne_of_lt (by omega))
                      · exact Ne.symm (hDL (L + 1 + 1 + 1 + 1, oLE') (by (first | k_mem | ((repeat refine' List.Mem.tail _ ?_); refine' List.mem_append_right _ ?_; first | k_mem | (refine' List.mem_append_right _ ?_; k_mem)) | simp)))
                      · (first | exact Nat.ne_of_gt (by assumption) | exact Nat.ne_of_lt (by assumption) | exact ne_lit (by assumption) rfl | exact Ne.symm (ne_lit (by assumption) rfl) | exact ne_c1 | exact Ne.symm ne_c1 | exact ne_c2 | exact Ne.symm ne_c2 | exact ne_c3 | exact Ne.symm ne_c3 | exact ne_c4 | exact Ne.symm ne_c4 | exact ne_c5 | exact Ne.symm ne_c5 | exact Nat.ne_of_gt (by omega) | exact Nat.ne_of_lt (by omega))
                      · exact n7.1
                      · (first | exact Nat.ne_of_gt (by assumption) | exact Nat.ne_of_lt (by assumption) | exact ne_lit (by assumption) rfl | exact Ne.symm (ne_lit (by assumption) rfl) | exact ne_c1 | exact Ne.symm ne_c1 | exact ne_c2 | exact Ne.symm ne_c2 | exact ne_c3 | exact Ne.symm ne_c3 | exact ne_c4 | exact Ne.symm ne_c4 | exact ne_c5 | exact Ne.symm ne_c5 | exact Nat.ne_of_gt (by omega) | exact Nat.ne_of_lt (by omega))
                      · (first | exact Nat.ne_of_gt (by assumption) | exact Nat.ne_of_lt (by assumption) | exact ne_lit (by assumption) rfl | exact Ne.symm (ne_lit (by assumption) rfl) | exact ne_c1 | exact Ne.symm ne_c1 | exact ne_c2 | exact Ne.symm ne_c2 | exact ne_c3 | exact Ne.symm ne_c3 | exact ne_c4 | exact Ne.symm ne_c4 | exact ne_c5 | exact Ne.symm ne_c5 | exact Nat.ne_of_gt (by omega) | exact Nat.ne_of_lt (by omega))
                    · (repeat' (first | refine Mine.all_cons ?_ ?_ | exact Mine.all_nil | refine Mine.all_app ?_ ?_))
                      all_goals try intro q h
                      iterate 3 (first | exact Nat.ne_of_gt (by assumption) | exact Nat.ne_of_lt (by assumption) | exact ne_lit (by assumption) rfl | exact Ne.symm (ne_lit (by assumption) rfl) | exact ne_c1 | exact Ne.symm ne_c1 | exact ne_c2 | exact Ne.symm ne_c2 | exact ne_c3 | exact Ne.symm ne_c3 | exact ne_c4 | exact Ne.symm ne_c4 | exact ne_c5 | exact Ne.symm ne_c5 | exact Nat.ne_of_gt (by omega) | exact Nat.ne_of_lt (by omega))
                      · exact (nRS q h).2.2.2.1
                      · exact Ne.symm (hIn (L + 1 + 1 + 1 + 1, oLE') (by (first | k_mem | ((repeat refine' List.Mem.tail _ ?_); refine' List.mem_append_right _ ?_; first | k_mem | (refine' List.mem_append_right _ ?_; k_mem)) | simp)))
                    intro h64 oLE64 F64 N64 dLE64
                    clear F63 N63
                    dsimp only [List.cons_append, List.nil_append] at N64
                    repeat' walk1
                    rename Fr _ _ _ _ => F65
                    rename News _ _ _ _ => N65
                    refine append_N (v := DM) (As := [(DN, _), (DG, _), (DL, _)]) (Bs := (D7, LCg.lst ys7) :: (L + 1 + 1 + 1 + 1 + 1 + 1, oGO60) :: (L + 1 + 1 + 1 + 1 + 1, oME') :: (L + 1 + 1 + 1 + 1, oLE64) :: (L + 1 + 1 + 1, oB8) :: (L + 1 + 1, oCA52) :: (L + 1, oN) :: (RS ++ [(I, oI)])) F65 N65 ?_ ?_ ?_
                    · (repeat' (first | refine Mine.all_cons ?_ ?_ | exact Mine.all_nil | refine Mine.all_app ?_ ?_))
                      all_goals try intro q h
                      · exact Ne.symm (off1_mem o63 (DM, listOf (List.toArray mv) mc) (by (first | k_mem | ((repeat refine' List.Mem.tail _ ?_); refine' List.mem_append_right _ ?_; first | k_mem | (refine' List.mem_append_right _ ?_; k_mem)) | simp)))
                      · exact Nat.ne_of_gt (l59 (DM, listOf (List.toArray mv) mc) (by (first | k_mem | ((repeat refine' List.Mem.tail _ ?_); refine' List.mem_append_right _ ?_; first | k_mem | (refine' List.mem_append_right _ ?_; k_mem)) | simp)))
                      · exact Ne.symm (hDL (DM, listOf (List.toArray mv) mc) (by (first | k_mem | ((repeat refine' List.Mem.tail _ ?_); refine' List.mem_append_right _ ?_; first | k_mem | (refine' List.mem_append_right _ ?_; k_mem)) | simp)))
                      · exact Nat.ne_of_lt (Nat.lt_trans lt7 ltM.1)
                      iterate 6 (first | exact Nat.ne_of_gt (by assumption) | exact Nat.ne_of_lt (by assumption) | exact ne_lit (by assumption) rfl | exact Ne.symm (ne_lit (by assumption) rfl) | exact ne_c1 | exact Ne.symm ne_c1 | exact ne_c2 | exact Ne.symm ne_c2 | exact ne_c3 | exact Ne.symm ne_c3 | exact ne_c4 | exact Ne.symm ne_c4 | exact ne_c5 | exact Ne.symm ne_c5 | exact Nat.ne_of_gt (by omega) | exact Nat.ne_of_lt (by omega))
                      · exact Nat.ne_of_lt (Nat.lt_trans (ltRS q h) ltM.1)
                      · exact Ne.symm (hIn (DM, listOf (List.toArray mv) mc) (by (first | k_mem | ((repeat refine' List.Mem.tail _ ?_); refine' List.mem_append_right _ ?_; first | k_mem | (refine' List.mem_append_right _ ?_; k_mem)) | simp)))
                    · have := pm.length
                      rw [com_length] at this
                      show mv.length ≤ _
                      rw [sizeLine_eq]; omega
                    intro h66 F66 N66
                    clear F65 N65
                    rw [List.push_toArray mv] at N66
                    dsimp only [List.cons_append, List.nil_append] at N66
                    repeat' walk1
                    have hcom : (gst (SL bs) bs.length n k (i + 1)).com = (gst (SL bs) bs.length n k i).com ++ [c1'] := by rw [← hgs]; rfl
                    have hrv : (gst (SL bs) bs.length n k (i + 1)).rv = (gst (SL bs) bs.length n k i).rv.filter fun z => decide (z ∉ gtr (SL bs) (gst (SL bs) bs.length n k i).rv c1' (gtake bs.length k i)) := by rw [← hgs]; rfl
                    refine ⟨_, _, _, F66, N66, ?_, ?_, ?_, G40, eo40, LJ.mk (DL := DN) (lv := ys4) (lc := ys4.length) (mv := mv ++ [.int (c1' : Int) tP2]) (mc := mc + 1) ?_ dGO60 g2 dLE64 dCA52 (by rw [hrv]; exact hys4) (by rw [hcom]; exact paired_append pm (.cons ⟨tP2, rfl⟩ .nil)) ?_⟩
                    · ((repeat' (first | refine Mine.all_cons ?_ ?_ | exact Mine.all_nil | refine Mine.all_app ?_ ?_)); (all_goals (first | (intro p h; ((repeat (first | exact h | exact List.mem_append_left _ h | exact List.mem_append_right _ h | exact List.mem_append_right _ (List.mem_append_left _ h) | refine' List.Mem.tail _ ?_)); done)) | (first | k_mem | ((repeat refine' List.Mem.tail _ ?_); refine' List.mem_append_right _ ?_; first | k_mem | (refine' List.mem_append_right _ ?_; k_mem)) | simp))))
                    · (first | k_mem | ((repeat refine' List.Mem.tail _ ?_); refine' List.mem_append_right _ ?_; first | k_mem | (refine' List.mem_append_right _ ?_; k_mem)) | simp)
                    · (repeat' (first | refine Mine.all_cons ?_ ?_ | exact Mine.all_nil | refine Mine.all_app ?_ ?_))
                      all_goals try intro p h
                      · exact Ne.symm (off1_mem o63 (I, oI) (by (first | k_mem | ((repeat refine' List.Mem.tail _ ?_); refine' List.mem_append_right _ ?_; first | k_mem | (refine' List.mem_append_right _ ?_; k_mem)) | simp)))
                      · exact hIn (DM, listOf (List.toArray mv) mc) (by (first | k_mem | ((repeat refine' List.Mem.tail _ ?_); refine' List.mem_append_right _ ?_; first | k_mem | (refine' List.mem_append_right _ ?_; k_mem)) | simp))
                      · exact hIn (D7, LCg.lst ys7) (by (first | k_mem | ((repeat refine' List.Mem.tail _ ?_); refine' List.mem_append_right _ ?_; first | k_mem | (refine' List.mem_append_right _ ?_; k_mem)) | simp))
                      · exact hIn (L + 1 + 1 + 1 + 1 + 1 + 1, oGO') (by (first | k_mem | ((repeat refine' List.Mem.tail _ ?_); refine' List.mem_append_right _ ?_; first | k_mem | (refine' List.mem_append_right _ ?_; k_mem)) | simp))
                      · exact hIn (L + 1 + 1 + 1 + 1 + 1, oME') (by (first | k_mem | ((repeat refine' List.Mem.tail _ ?_); refine' List.mem_append_right _ ?_; first | k_mem | (refine' List.mem_append_right _ ?_; k_mem)) | simp))
                      · exact hIn (L + 1 + 1 + 1 + 1, oLE') (by (first | k_mem | ((repeat refine' List.Mem.tail _ ?_); refine' List.mem_append_right _ ?_; first | k_mem | (refine' List.mem_append_right _ ?_; k_mem)) | simp))
                      · exact hIn (L + 1 + 1 + 1, oB8) (by (first | k_mem | ((repeat refine' List.Mem.tail _ ?_); refine' List.mem_append_right _ ?_; first | k_mem | (refine' List.mem_append_right _ ?_; k_mem)) | simp))
                      · exact hIn (L + 1 + 1, oCA') (by (first | k_mem | ((repeat refine' List.Mem.tail _ ?_); refine' List.mem_append_right _ ?_; first | k_mem | (refine' List.mem_append_right _ ?_; k_mem)) | simp))
                      · exact hIn (L + 1, oN) (by (first | k_mem | ((repeat refine' List.Mem.tail _ ?_); refine' List.mem_append_right _ ?_; first | k_mem | (refine' List.mem_append_right _ ?_; k_mem)) | simp))
                      · exact hIn p (by ((repeat (first | exact h | exact List.mem_append_left _ h | exact List.mem_append_right _ h | exact List.mem_append_right _ (List.mem_append_left _ h) | refine' List.Mem.tail _ ?_)); done))
                    · intro y n1 n2 n3
                      simp only [if_neg n1, if_neg n2, if_neg n3]
                    · (repeat' (first | refine Mine.all_cons ?_ ?_ | exact Mine.all_nil | refine Mine.all_app ?_ ?_))
                      all_goals try intro q h
                      · exact off1_mem o63 (DM, listOf (List.toArray mv) mc) (by (first | k_mem | ((repeat refine' List.Mem.tail _ ?_); refine' List.mem_append_right _ ?_; first | k_mem | (refine' List.mem_append_right _ ?_; k_mem)) | simp))
                      · exact off1_mem o63 (D7, LCg.lst ys7) (by (first | k_mem | ((repeat refine' List.Mem.tail _ ?_); refine' List.mem_append_right _ ?_; first | k_mem | (refine' List.mem_append_right _ ?_; k_mem)) | simp))
                      · exact off1_mem o63 (L + 1 + 1 + 1 + 1 + 1 + 1, oGO60) (by (first | k_mem | ((repeat refine' List.Mem.tail _ ?_); refine' List.mem_append_right _ ?_; first | k_mem | (refine' List.mem_append_right _ ?_; k_mem)) | simp))
                      · exact off1_mem o63 (L + 1 + 1 + 1 + 1 + 1, oME') (by (first | k_mem | ((repeat refine' List.Mem.tail _ ?_); refine' List.mem_append_right _ ?_; first | k_mem | (refine' List.mem_append_right _ ?_; k_mem)) | simp))
                      · exact off1_mem o63 (L + 1 + 1 + 1 + 1, oLE') (by (first | k_mem | ((repeat refine' List.Mem.tail _ ?_); refine' List.mem_append_right _ ?_; first | k_mem | (refine' List.mem_append_right _ ?_; k_mem)) | simp))
                      · exact off1_mem o63 (L + 1 + 1 + 1, oB8) (by (first | k_mem | ((repeat refine' List.Mem.tail _ ?_); refine' List.mem_append_right _ ?_; first | k_mem | (refine' List.mem_append_right _ ?_; k_mem)) | simp))
                      · exact off1_mem o63 (L + 1 + 1, oCA52) (by (first | k_mem | ((repeat refine' List.Mem.tail _ ?_); refine' List.mem_append_right _ ?_; first | k_mem | (refine' List.mem_append_right _ ?_; k_mem)) | simp))
                      · exact off1_mem o63 (L + 1, oN) (by (first | k_mem | ((repeat refine' List.Mem.tail _ ?_); refine' List.mem_append_right _ ?_; first | k_mem | (refine' List.mem_append_right _ ?_; k_mem)) | simp))
                      · exact off1_mem o63 q (by ((repeat (first | exact h | exact List.mem_append_left _ h | exact List.mem_append_right _ h | exact List.mem_append_right _ (List.mem_append_left _ h) | refine' List.Mem.tail _ ?_)); done))
            case fin2 =>
              intro s₃ m3 nx3 F70 N70 G70 eo70 hLJ
              refine LJ.elim hLJ ?_
              clear hLJ
              rintro DL lv lc mv mc oGO' oME' oLE' oCA' vGO vCA u1 u2 u3 rfl rfl g1 g2 g3 g4 pv pm hDL
              clear F38 N38
              have hRS : RS = _ := hRS2
              clear hRS2
              repeat' walk1
              refine Mine.held ?_
              refine' LCg.ListComp_U (F₀ := F70) (by with_unfolding_all rfl) (by decide) (by rfl) (by decide) (by rfl) ?_
              repeat' walk1
              refine Mine.held ?_
              rename Fr _ _ _ _ => F71
              rename News _ _ _ _ => N71
              obtain ⟨pre, hpre⟩ : ∃ pre, pre = (DL, listOf (List.toArray lv) lc) :: (DM, listOf (List.toArray mv) mc) :: (D7, LCg.lst ys7) :: (L + 1 + 1 + 1 + 1 + 1 + 1, oGO') :: (L + 1 + 1 + 1 + 1 + 1, oME') :: (L + 1 + 1 + 1 + 1, oLE') :: (L + 1 + 1 + 1, oB8) :: (L + 1 + 1, oCA') :: (L + 1, oN) :: (v2, listOf w3 k2) :: (c2, listOf (List.toArray cs2) cc2) :: (x2, instObj 542 d2) :: (d2, profD w c2 n2 v2 t21 t22 t23) :: (v1, listOf w1 k1) :: (c1, listOf (List.toArray cs1) cc1) :: (x1, instObj 542 d1) :: (d1, profD w c1 n1 v1 t11 t12 t13) :: (ex3 ++ bl) := ⟨_, rfl⟩
              have N72 := newsSub N71 (news' := pre ++ [(25, tabObj p4), (32, tabObj #[]), (40, tabObj #[]), (485, tabObj p8)]) (by
                rw [hpre]
                rw [hRS]
                ((repeat' (first | refine Mine.all_cons ?_ ?_ | exact Mine.all_nil | refine Mine.all_app ?_ ?_)); (all_goals (first | (intro p h; ((repeat (first | exact h | exact List.mem_append_left _ h | exact List.mem_append_right _ h | exact List.mem_append_right _ (List.mem_append_left _ h) | refine' List.Mem.tail _ ?_)); done)) | (first | k_mem | ((repeat refine' List.Mem.tail _ ?_); refine' List.mem_append_right _ ?_; first | k_mem | (refine' List.mem_append_right _ ?_; k_mem)) | simp)))))
              refine gm_ok (g₀ := #[]) (d := d1) (c := c1) (v := v1) (n' := n1) (vvs := w1) (kk := k1) (cc := cc1) (cvs := cs1) (n := n) (k := k) (t1 := t11) (t2 := t12) (t3 := t13) pre (fun i => setOf (SL bs i)) B0 F71 X0 N72 ?hneA tr26 trivial trivial tr8 G70 T0 (by rw [hpre]; (first | k_mem | ((repeat refine' List.Mem.tail _ ?_); refine' List.mem_append_right _ ?_; first | k_mem | (refine' List.mem_append_right _ ?_; k_mem)) | simp)) (by rw [hpre]; (first | k_mem | ((repeat refine' List.Mem.tail _ ?_); refine' List.mem_append_right _ ?_; first | k_mem | (refine' List.mem_append_right _ ?_; k_mem)) | simp)) (by rw [hpre]; (first | k_mem | ((repeat refine' List.Mem.tail _ ?_); refine' List.mem_append_right _ ?_; first | k_mem | (refine' List.mem_append_right _ ?_; k_mem)) | simp)) ?hciA (by rw [hpre]; (first | k_mem | ((repeat refine' List.Mem.tail _ ?_); refine' List.mem_append_right _ ?_; first | k_mem | (refine' List.mem_append_right _ ?_; k_mem)) | simp)) (by omega) hk.1 hk.2 (by have := hV1'.1; omega) (by have := hV1'.1; omega) ?hvvA (dep_law (by decide)) (uni_law (envOfC (Str.ofString "law") default L fa cd) (by decide)) ?_
              case hneA =>
                have qDM2 : @LT.lt Nat _ (L + 1 + 1 + 1 + 1 + 1 + 1) DM := ltM.2.2.1
                rw [hpre]
                (repeat' (first | refine Mine.all_cons ?_ ?_ | exact Mine.all_nil | refine Mine.all_app ?_ ?_))
                all_goals try intro q h
                · exact ⟨Ne.symm (hDL (25, tabObj p4) (by rw [hRS]; (first | k_mem | ((repeat refine' List.Mem.tail _ ?_); refine' List.mem_append_right _ ?_; first | k_mem | (refine' List.mem_append_right _ ?_; k_mem)) | simp))), Ne.symm (hDL (32, tabObj #[]) (by rw [hRS]; (first | k_mem | ((repeat refine' List.Mem.tail _ ?_); refine' List.mem_append_right _ ?_; first | k_mem | (refine' List.mem_append_right _ ?_; k_mem)) | simp))), Ne.symm (hDL (40, tabObj #[]) (by rw [hRS]; (first | k_mem | ((repeat refine' List.Mem.tail _ ?_); refine' List.mem_append_right _ ?_; first | k_mem | (refine' List.mem_append_right _ ?_; k_mem)) | simp))), Ne.symm (hDL (485, tabObj p8) (by rw [hRS]; (first | k_mem | ((repeat refine' List.Mem.tail _ ?_); refine' List.mem_append_right _ ?_; first | k_mem | (refine' List.mem_append_right _ ?_; k_mem)) | simp)))⟩
                · exact ne4_gt (by assumption)
                · exact ⟨Ne.symm nD.1, Ne.symm nD.2.1, Ne.symm nD.2.2.1, Ne.symm nD.2.2.2⟩
                iterate 14 exact ne4_gt (by assumption)
                · have := hex3 q h
                  exact ne4_gt (Nat.lt_trans k2v this)
                · exact ⟨Ne.symm (nbl q h).1, Ne.symm (nbl q h).2.1, Ne.symm (nbl q h).2.2.1, Ne.symm (nbl q h).2.2.2⟩
              case hciA => exact ints_range0 hI1
              case hvvA =>
                intro i hi
                have hb : bs[i]? = some (SL bs i) := by
                  have hi' : i < bs.length := by have := hV1'.1; omega
                  rw [List.getElem?_eq_getElem hi', SL_at (List.getElem?_eq_getElem hi')]
                refine ex7 (hV1'.2 i _ hb) ?_
                intro xi di ai oi z1 z2 z3 hz
                have e1 := hz.1
                have m1 := hz.2.1
                have m2 := hz.2.2.1
                have m3 := hz.2.2.2.1
                have m4 := hz.2.2.2.2
                exact ⟨xi, di, ai, oi, z1, z2, z3, 0, e1, by rw [hpre]; have h := List.mem_append_left bl m1; ((repeat (first | exact h | exact List.mem_append_left _ h | exact List.mem_append_right _ h | exact List.mem_append_right _ (List.mem_append_left _ h) | refine' List.Mem.tail _ ?_)); done), by
                  rw [hpre]
                  iterate 17 refine List.Mem.tail _ ?_
                  exact List.mem_append_left _ m2, by rw [hpre]; have h := List.mem_append_left bl m3; ((repeat (first | exact h | exact List.mem_append_left _ h | exact List.mem_append_right _ h | exact List.mem_append_right _ (List.mem_append_left _ h) | refine' List.Mem.tail _ ?_)); done), m4, rfl⟩
              intro DG aG oG cG q1 q2 q3 q4 s73 F73 N73' lG lG2 lG3 SG G73 eo73
              obtain ⟨pre2, hpre2⟩ : ∃ pre2, pre2 = [(DM, listOf (List.toArray mv) mc), (L + 1 + 1 + 1 + 1 + 1, oME'), (25, tabObj q1), (32, tabObj q2), (40, tabObj q3), (485, tabObj q4)] := ⟨_, rfl⟩
              have N73 := newsSub N73' (news' := (DG, listOf #[.ref aG] cG) :: (aG, oG) :: pre2) (by
                have hp1 : ∀ q ∈ pre, q ∈ (DG, listOf #[.ref aG] cG) :: (aG, oG) :: (pre ++ [(25, tabObj q1), (32, tabObj q2), (40, tabObj q3), (485, tabObj q4)]) := fun q hq => .tail _ (.tail _ (List.mem_append_left _ hq))
                rw [hpre2]
                exact all_cons (.head _) (all_cons (.tail _ (.head _)) (all_cons (hp1 _ (by rw [hpre]; (first | k_mem | ((repeat refine' List.Mem.tail _ ?_); refine' List.mem_append_right _ ?_; first | k_mem | (refine' List.mem_append_right _ ?_; k_mem)) | simp))) (all_cons (hp1 _ (by rw [hpre]; (first | k_mem | ((repeat refine' List.Mem.tail _ ?_); refine' List.mem_append_right _ ?_; first | k_mem | (refine' List.mem_append_right _ ?_; k_mem)) | simp))) (fun q hq => .tail _ (.tail _ (List.mem_append_right _ hq)))))))
              clear N73'
              repeat' walk1
              refine Mine.held ?_
              rename Fr _ _ _ _ => F74
              rename News _ _ _ _ => N74
              refine sorted_setN F74 N74 rfl (N74 (aG, oG) (by (first | k_mem | ((repeat refine' List.Mem.tail _ ?_); refine' List.mem_append_right _ ?_; first | k_mem | (refine' List.mem_append_right _ ?_; k_mem)) | simp))).1 SG.toO ?_
              intro h75 tk75 vs75 e75 a75 F75 N75 lt75 P75
              repeat' walk1
              rename (_ ∧ _ ∧ LCg.Off3 _ _ _ _) => off74
              refine LCg.CompEnd.intro F75 N75 ((a75, listOf (List.toArray vs75) e75) :: (DG, listOf #[.ref aG] cG) :: (aG, oG) :: pre2) ?subE ⟨⟨Nat.ne_of_gt lt75.1, Nat.ne_of_gt lt75.2.1, Nat.ne_of_gt lt75.2.2.1⟩, off74⟩ (.inr ⟨_, .tail _ (.head _), rfl, _, rfl⟩) ?_
              case subE =>
                ((repeat' (first | refine Mine.all_cons ?_ ?_ | exact Mine.all_nil | refine Mine.all_app ?_ ?_)); (all_goals (first | (intro p h; ((repeat (first | exact h | exact List.mem_append_left _ h | exact List.mem_append_right _ h | exact List.mem_append_right _ (List.mem_append_left _ h) | refine' List.Mem.tail _ ?_)); done)) | (first | k_mem | ((repeat refine' List.Mem.tail _ ?_); refine' List.mem_append_right _ ?_; first | k_mem | (refine' List.mem_append_right _ ?_; k_mem)) | simp))))
              intro D76 h76 tk76 F76 N76 o76
              clear F75 N75 F74 N74
              rw [hpre2] at N76
              repeat' walk1
              refine Mine.held ?_
              rename Fr _ _ _ _ => F77
              rename News _ _ _ _ => N77
              obtain ⟨hcn, hcl⟩ := com_good (SL bs) bs.length n k k hk.2
              refine sorted_listN (items := List.toArray mv) F77 N77 ⟨_, (N77 (DM, listOf (List.toArray mv) mc) (by (first | k_mem | ((repeat refine' List.Mem.tail _ ?_); refine' List.mem_append_right _ ?_; first | k_mem | (refine' List.mem_append_right _ ?_; k_mem)) | simp))).1, rfl, _, rfl⟩ pm hcn (fun x hx => lt5_mem (by have := hcl x hx; omega)) ?_
              intro h78 vs78 e78 a78 F78 N78 lt78 P78
              have hgs2 : gst (fun i => setOf (SL bs i)) w1.size n k k = gst (SL bs) bs.length n k k := by
                rw [hV1'.1]
                exact gst_set (fun i c => mem_setOf) _ _ _ _
              rw [hgs2] at P75
              clear F77 N77
              repeat' walk1
              refine Mine.held ?_
              rename Fr _ _ _ _ => F79
              rename News _ _ _ _ => N79
              refine eq_one_list (a := a75) (b := a78) (xs := vs75) (ys := vs78) (N79 (D76, LCg.lst ([] ++ [.ref a75])) (by (first | k_mem | ((repeat refine' List.Mem.tail _ ?_); refine' List.mem_append_right _ ?_; first | k_mem | (refine' List.mem_append_right _ ?_; k_mem)) | simp))).1 (N79 _ (.head _)).1 ⟨_, (N79 (a75, listOf (List.toArray vs75) e75) (by (first | k_mem | ((repeat refine' List.Mem.tail _ ?_); refine' List.mem_append_right _ ?_; first | k_mem | (refine' List.mem_append_right _ ?_; k_mem)) | simp))).1, rfl, _, rfl⟩ ⟨_, (N79 (a78, listOf (List.toArray vs78) e78) (by (first | k_mem | ((repeat refine' List.Mem.tail _ ?_); refine' List.mem_append_right _ ?_; first | k_mem | (refine' List.mem_append_right _ ?_; k_mem)) | simp))).1, rfl, _, rfl⟩ P75 P78 (uni_law (envOfC (Str.ofString "law") default L fa cd) (by decide)) ?_
              refine ⟨rfl, F79.keep, ?osA, G73.1, ⟨_, (N79 (25, tabObj q1) (by (first | k_mem | ((repeat refine' List.Mem.tail _ ?_); refine' List.mem_append_right _ ?_; first | k_mem | (refine' List.mem_append_right _ ?_; k_mem)) | simp))).1⟩, ⟨_, (N79 (32, tabObj q2) (by (first | k_mem | ((repeat refine' List.Mem.tail _ ?_); refine' List.mem_append_right _ ?_; first | k_mem | (refine' List.mem_append_right _ ?_; k_mem)) | simp))).1⟩, ⟨_, (N79 (40, tabObj q3) (by (first | k_mem | ((repeat refine' List.Mem.tail _ ?_); refine' List.mem_append_right _ ?_; first | k_mem | (refine' List.mem_append_right _ ?_; k_mem)) | simp))).1⟩, ⟨_, (N79 (485, tabObj q4) (by (first | k_mem | ((repeat refine' List.Mem.tail _ ?_); refine' List.mem_append_right _ ?_; first | k_mem | (refine' List.mem_append_right _ ?_; k_mem)) | simp))).1⟩, trivial⟩
              case osA => exact eo73.trans (eo70.trans (eo8.trans (eo5.trans (eo26.trans (eo22.trans eo20)))))
end
end Mine
theorem PySem.Challenge.cw_jg0002_01_holds : PySem.Challenge.rw_jg0002_01.Holds := by
  exact Mine.lw
