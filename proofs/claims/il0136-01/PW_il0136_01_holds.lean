import PyProof.Rows.All
import Wide.All
import OpenK.AllK
import Wide.FinOn
import Lean
import PySem.Challenge.RW_il0136_01
open PySem PySem.W PyProof.Rows
set_option Elab.async false
namespace Mine
theorem same0 : PyProof.Rows.importsNone = PyProof.Rows.importsNone := rfl
name_quick tw7232422423428716515 for PyProof.Rows.importsNone by Mine.same0
name_quick tw6004533443673955352 for PyProof.Rows.importsNone by Mine.same0
name_quick tw17517737089405305841 for PyProof.Rows.importsNone by Mine.same0
name_quick tw219737044198020058 for PyProof.Rows.importsNone by Mine.same0
name_quick tw9011979029575296479 for PyProof.Rows.importsNone by Mine.same0
name_quick tw7250012664060256230 for PyProof.Rows.importsNone by Mine.same0
name_quick tw43969757491396457 for PyProof.Rows.importsNone by Mine.same0
name_quick tw12682352545654495088 for PyProof.Rows.importsNone by Mine.same0
name_quick tw1291980286583624508 for PyProof.Rows.importsNone by Mine.same0
name_quick tw15560500314895047343 for PyProof.Rows.importsNone by Mine.same0
name_quick tw1258717718454355964 for PyProof.Rows.importsNone by Mine.same0
name_quick tw282004115355043989 for PyProof.Rows.importsNone by Mine.same0
name_quick tw4636218855388986860 for PyProof.Rows.importsNone by Mine.same0
name_quick tw13640514254501968386 for PyProof.Rows.importsNone by Mine.same0
name_quick tw17804436615005485693 for PyProof.Rows.importsNone by Mine.same0
name_quick tw3093977132361051618 for PyProof.Rows.importsNone by Mine.same0
name_quick tw7721631327575515661 for PyProof.Rows.importsNone by Mine.same0
name_quick tw20320146153715357 for PyProof.Rows.importsNone by Mine.same0
name_quick tw7275051467321613617 for PyProof.Rows.importsNone by Mine.same0
name_quick tw10528696920762540405 for PyProof.Rows.importsNone by Mine.same0
name_quick tw12233582284571471492 for PyProof.Rows.importsNone by Mine.same0
name_quick tw17730448691065144110 for PyProof.Rows.importsNone by Mine.same0
name_quick tw3619232141914619222 for PyProof.Rows.importsNone by Mine.same0
name_quick tw4829060927144295115 for PyProof.Rows.importsNone by Mine.same0
name_quick tw3766158894648301139 for PyProof.Rows.importsNone by Mine.same0
name_quick tw11306939235166856333 for PyProof.Rows.importsNone by Mine.same0
name_quick tw4011157648589011858 for PyProof.Rows.importsNone by Mine.same0
name_quick tw13180171748994924942 for PyProof.Rows.importsNone by Mine.same0
name_quick tw12161983667900066180 for PyProof.Rows.importsNone by Mine.same0
name_quick tw460243522976405022 for PyProof.Rows.importsNone by Mine.same0
name_quick tw8147914164515108645 for PyProof.Rows.importsNone by Mine.same0
name_quick tw9787463984185863102 for PyProof.Rows.importsNone by Mine.same0
name_quick tw18350330562280901221 for PyProof.Rows.importsNone by Mine.same0
name_quick tw10010936943081839664 for PyProof.Rows.importsNone by Mine.same0
name_quick tw14896874001708588922 for PyProof.Rows.importsNone by Mine.same0
name_quick tw151948405760981731 for PyProof.Rows.importsNone by Mine.same0
name_quick tw9759809726879904816 for PyProof.Rows.importsNone by Mine.same0
name_quick tw14311459727803291754 for PyProof.Rows.importsNone by Mine.same0
name_quick tw13607416678640721797 for PyProof.Rows.importsNone by Mine.same0
name_quick tw11277716924127702174 for PyProof.Rows.importsNone by Mine.same0
name_quick tw9285146279643344392 for PyProof.Rows.importsNone by Mine.same0
name_quick tw11130039905162102590 for PyProof.Rows.importsNone by Mine.same0
name_quick tw18101931140130867144 for PyProof.Rows.importsNone by Mine.same0
name_quick tw10073347824450446311 for PyProof.Rows.importsNone by Mine.same0
name_quick tw15007238320947547705 for PyProof.Rows.importsNone by Mine.same0
name_quick tw15168306246750427876 for PyProof.Rows.importsNone by Mine.same0
name_quick tw951843321253372498 for PyProof.Rows.importsNone by Mine.same0
name_quick tw14386061602966655976 for PyProof.Rows.importsNone by Mine.same0
name_quick tw3891137856419664920 for PyProof.Rows.importsNone by Mine.same0
name_quick tw13789449189825218787 for PyProof.Rows.importsNone by Mine.same0
name_quick tw16643379632663270332 for PyProof.Rows.importsNone by Mine.same0
name_quick tw16966814322356759819 for PyProof.Rows.importsNone by Mine.same0
name_quick tw4658958612460137192 for PyProof.Rows.importsNone by Mine.same0
name_quick tw8708707556590381134 for PyProof.Rows.importsNone by Mine.same0
name_quick tw9851784056462626060 for PyProof.Rows.importsNone by Mine.same0
name_quick tw17964007177503468958 for PyProof.Rows.importsNone by Mine.same0
name_quick tw7299951869573292228 for PyProof.Rows.importsNone by Mine.same0
name_quick tw17888162413812561239 for PyProof.Rows.importsNone by Mine.same0
name_quick tw14537914154153760125 for PyProof.Rows.importsNone by Mine.same0
name_quick tw5882768191206486792 for PyProof.Rows.importsNone by Mine.same0
name_quick tw8463832687750770573 for PyProof.Rows.importsNone by Mine.same0
name_quick tw14108194823987119177 for PyProof.Rows.importsNone by Mine.same0
name_quick tw2354135333415324597 for PyProof.Rows.importsNone by Mine.same0
name_quick tw15172853278717766862 for PyProof.Rows.importsNone by Mine.same0
name_quick tw5853683300791708862 for PyProof.Rows.importsNone by Mine.same0
name_quick tw18260038339965228139 for PyProof.Rows.importsNone by Mine.same0
name_quick tw9979284746773624096 for PyProof.Rows.importsNone by Mine.same0
name_quick tw14126943448341045398 for PyProof.Rows.importsNone by Mine.same0
name_quick tw6589095468515690095 for PyProof.Rows.importsNone by Mine.same0
name_quick tw11270796479367742343 for PyProof.Rows.importsNone by Mine.same0
name_quick tw3820604794100220378 for PyProof.Rows.importsNone by Mine.same0
name_quick tw10948738476641704880 for PyProof.Rows.importsNone by Mine.same0
name_quick tw17975652961387846372 for PyProof.Rows.importsNone by Mine.same0
name_quick tw8032284361305108907 for PyProof.Rows.importsNone by Mine.same0
name_quick tw7492464533870168345 for PyProof.Rows.importsNone by Mine.same0
name_quick tw15278061642289888581 for PyProof.Rows.importsNone by Mine.same0
name_quick tw3698559305507148144 for PyProof.Rows.importsNone by Mine.same0
name_quick tw9051711117073984157 for PyProof.Rows.importsNone by Mine.same0
name_quick tw17274371674624000324 for PyProof.Rows.importsNone by Mine.same0
name_quick tw5357591511691535388 for PyProof.Rows.importsNone by Mine.same0
name_quick tw4527066259768149269 for PyProof.Rows.importsNone by Mine.same0
name_quick tw14333388528381170442 for PyProof.Rows.importsNone by Mine.same0
name_quick tw11853533878840232495 for PyProof.Rows.importsNone by Mine.same0
name_quick tw8579058602437062094 for PyProof.Rows.importsNone by Mine.same0
name_quick tw4319705520415482375 for PyProof.Rows.importsNone by Mine.same0
name_quick tw17552769576498331613 for PyProof.Rows.importsNone by Mine.same0
name_quick tw4978915544186085027 for PyProof.Rows.importsNone by Mine.same0
name_quick tw15900120412870309639 for PyProof.Rows.importsNone by Mine.same0
name_quick tw4292500188555128830 for PyProof.Rows.importsNone by Mine.same0
name_quick tw16531745337717519161 for PyProof.Rows.importsNone by Mine.same0
name_quick tw14884601019740666482 for PyProof.Rows.importsNone by Mine.same0
name_quick tw7496433998918960881 for PyProof.Rows.importsNone by Mine.same0
name_quick tw17069979004554194336 for PyProof.Rows.importsNone by Mine.same0
name_quick tw9518749785886187100 for PyProof.Rows.importsNone by Mine.same0
name_quick tw14834023430324568649 for PyProof.Rows.importsNone by Mine.same0
name_quick tw1503297043503765363 for PyProof.Rows.importsNone by Mine.same0
name_quick tw13016732220969518872 for PyProof.Rows.importsNone by Mine.same0
name_quick tw5076957145309523181 for PyProof.Rows.importsNone by Mine.same0
name_quick tw15263041282635125899 for PyProof.Rows.importsNone by Mine.same0
name_quick tw12659028871203227004 for PyProof.Rows.importsNone by Mine.same0
name_quick tw9931943479562821362 for PyProof.Rows.importsNone by Mine.same0
name_quick tw136631920214876835 for PyProof.Rows.importsNone by Mine.same0
name_quick tw5721027456603625697 for PyProof.Rows.importsNone by Mine.same0
name_quick tw13317431791736044220 for PyProof.Rows.importsNone by Mine.same0
name_quick tw12290603225136948437 for PyProof.Rows.importsNone by Mine.same0
name_quick tw6122645084068987007 for PyProof.Rows.importsNone by Mine.same0
name_quick tw1537898542681612871 for PyProof.Rows.importsNone by Mine.same0
name_quick tw14714103240675001986 for PyProof.Rows.importsNone by Mine.same0
name_quick tw57612305304379694 for PyProof.Rows.importsNone by Mine.same0
name_quick tw2422670821966735624 for PyProof.Rows.importsNone by Mine.same0
name_quick tw8860024209350480642 for PyProof.Rows.importsNone by Mine.same0
name_quick tw8719427161674164953 for PyProof.Rows.importsNone by Mine.same0
name_quick tw9594665118957945026 for PyProof.Rows.importsNone by Mine.same0
name_quick tw3778451253796500701 for PyProof.Rows.importsNone by Mine.same0
name_quick tw17476080006546285661 for PyProof.Rows.importsNone by Mine.same0
name_quick tw204358133426689153 for PyProof.Rows.importsNone by Mine.same0
name_quick tw11333186260410459676 for PyProof.Rows.importsNone by Mine.same0
name_quick tw15930095272721905579 for PyProof.Rows.importsNone by Mine.same0
name_quick tw3282434896037501709 for PyProof.Rows.importsNone by Mine.same0
name_quick tw2627984346626558326 for PyProof.Rows.importsNone by Mine.same0
name_quick tw16752143609539240740 for PyProof.Rows.importsNone by Mine.same0
name_quick tw183835017167291270 for PyProof.Rows.importsNone by Mine.same0
name_quick tw7198390536060210744 for PyProof.Rows.importsNone by Mine.same0
name_quick tw4075660801711882420 for PyProof.Rows.importsNone by Mine.same0
name_quick tw2460228577881660442 for PyProof.Rows.importsNone by Mine.same0
name_quick tw5189142188285759775 for PyProof.Rows.importsNone by Mine.same0
name_quick tw16350708796919097252 for PyProof.Rows.importsNone by Mine.same0
name_quick tw2283851925072248500 for PyProof.Rows.importsNone by Mine.same0
name_quick tw17954471519018878134 for PyProof.Rows.importsNone by Mine.same0
name_quick tw11588390666370768167 for PyProof.Rows.importsNone by Mine.same0
name_quick tw161092056333428459 for PyProof.Rows.importsNone by Mine.same0
name_quick tw5529568453561195837 for PyProof.Rows.importsNone by Mine.same0
name_quick tw12767683915131110723 for PyProof.Rows.importsNone by Mine.same0
name_quick tw667198328695590252 for PyProof.Rows.importsNone by Mine.same0
name_quick tw1574873078441994576 for PyProof.Rows.importsNone by Mine.same0
name_quick tw16439824349840649037 for PyProof.Rows.importsNone by Mine.same0
name_quick tw16593013826814733010 for PyProof.Rows.importsNone by Mine.same0
name_quick tw15490439104401381959 for PyProof.Rows.importsNone by Mine.same0
name_quick tw16643706677886111943 for PyProof.Rows.importsNone by Mine.same0
name_quick tw16374537267813192141 for PyProof.Rows.importsNone by Mine.same0
name_quick tw5557055217656661889 for PyProof.Rows.importsNone by Mine.same0
name_quick tw10887116778572429059 for PyProof.Rows.importsNone by Mine.same0
name_quick tw10323183001455561277 for PyProof.Rows.importsNone by Mine.same0
name_quick tw3424931102881643321 for PyProof.Rows.importsNone by Mine.same0
name_quick tw5349121933718820234 for PyProof.Rows.importsNone by Mine.same0
name_quick tw9136488742655976645 for PyProof.Rows.importsNone by Mine.same0
name_quick tw15919542637913265678 for PyProof.Rows.importsNone by Mine.same0
name_quick tw15980859228951719591 for PyProof.Rows.importsNone by Mine.same0
name_quick tw17532440430192770315 for PyProof.Rows.importsNone by Mine.same0
name_quick tw10364871936736126669 for PyProof.Rows.importsNone by Mine.same0
name_quick tw1292529035401554430 for PyProof.Rows.importsNone by Mine.same0
name_quick tw2670528217467546775 for PyProof.Rows.importsNone by Mine.same0
name_quick tw2478078296215019888 for PyProof.Rows.importsNone by Mine.same0
name_quick tw11964429278604863157 for PyProof.Rows.importsNone by Mine.same0
name_quick tw2611137233208623240 for PyProof.Rows.importsNone by Mine.same0
name_quick tw8206430501311747189 for PyProof.Rows.importsNone by Mine.same0
name_quick tw3105397867545767578 for PyProof.Rows.importsNone by Mine.same0
name_quick tw1402947280878808549 for PyProof.Rows.importsNone by Mine.same0
name_quick tw16296994325663420285 for PyProof.Rows.importsNone by Mine.same0
name_quick tw3976722010076183465 for PyProof.Rows.importsNone by Mine.same0
name_quick tw16846860572762119324 for PyProof.Rows.importsNone by Mine.same0
name_quick tw17672482021469178181 for PyProof.Rows.importsNone by Mine.same0
name_quick tw5396446701170858492 for PyProof.Rows.importsNone by Mine.same0
name_quick tw6679490504615227074 for PyProof.Rows.importsNone by Mine.same0
name_quick tw9763268239775435451 for PyProof.Rows.importsNone by Mine.same0
name_quick tw14168537005229113720 for PyProof.Rows.importsNone by Mine.same0
name_quick tw7392212959928792091 for PyProof.Rows.importsNone by Mine.same0
name_quick tw2480624987951253665 for PyProof.Rows.importsNone by Mine.same0
name_quick tw8693227569615203950 for PyProof.Rows.importsNone by Mine.same0
name_quick tw3442601649717412197 for PyProof.Rows.importsNone by Mine.same0
name_quick tw8753696776887207221 for PyProof.Rows.importsNone by Mine.same0
name_quick tw932993149863042379 for PyProof.Rows.importsNone by Mine.same0
name_quick tw2567998274259142822 for PyProof.Rows.importsNone by Mine.same0
name_quick tw3264259588550801142 for PyProof.Rows.importsNone by Mine.same0
name_quick tw6380047634161181297 for PyProof.Rows.importsNone by Mine.same0
name_quick tw14073706353221006472 for PyProof.Rows.importsNone by Mine.same0
name_quick tw13678640442995254988 for PyProof.Rows.importsNone by Mine.same0
name_quick tw11543547407058413889 for PyProof.Rows.importsNone by Mine.same0
name_quick tw1702518465993881591 for PyProof.Rows.importsNone by Mine.same0
name_quick tw7249307268997179994 for PyProof.Rows.importsNone by Mine.same0
name_quick tw4549333791460862111 for PyProof.Rows.importsNone by Mine.same0
name_quick tw6019396324639902685 for PyProof.Rows.importsNone by Mine.same0
name_quick tw12022285260146216970 for PyProof.Rows.importsNone by Mine.same0
name_quick tw8075568018651887793 for PyProof.Rows.importsNone by Mine.same0
name_quick tw14433975572909055671 for PyProof.Rows.importsNone by Mine.same0
name_quick tw5268983451555188008 for PyProof.Rows.importsNone by Mine.same0
name_quick tw3094477031063562474 for PyProof.Rows.importsNone by Mine.same0
name_quick tw17100903815162463580 for PyProof.Rows.importsNone by Mine.same0
name_quick tw15066959818950650227 for PyProof.Rows.importsNone by Mine.same0
name_quick tw4090926877573551719 for PyProof.Rows.importsNone by Mine.same0
name_quick tw12813236842856870187 for PyProof.Rows.importsNone by Mine.same0
name_quick tw11313170107247368264 for PyProof.Rows.importsNone by Mine.same0
name_quick tw9151444980202551346 for PyProof.Rows.importsNone by Mine.same0
name_quick tw313226197891681235 for PyProof.Rows.importsNone by Mine.same0
name_quick tw1641718772566732887 for PyProof.Rows.importsNone by Mine.same0
name_quick tw16018607276475445134 for PyProof.Rows.importsNone by Mine.same0
name_quick tw3152983702415266003 for PyProof.Rows.importsNone by Mine.same0
name_quick tw10942035263794033107 for PyProof.Rows.importsNone by Mine.same0
name_quick tw2862820112641550484 for PyProof.Rows.importsNone by Mine.same0
name_quick tw13254397897704925713 for PyProof.Rows.importsNone by Mine.same0
name_quick tw7269565832213808900 for PyProof.Rows.importsNone by Mine.same0
name_quick tw11625766737575182897 for PyProof.Rows.importsNone by Mine.same0
name_quick tw6550987210724342151 for PyProof.Rows.importsNone by Mine.same0
name_quick tw900395245841561262 for PyProof.Rows.importsNone by Mine.same0
name_quick tw11445135464325071761 for PyProof.Rows.importsNone by Mine.same0
name_quick tw11788150170368784547 for PyProof.Rows.importsNone by Mine.same0
name_quick tw17212508698807437452 for PyProof.Rows.importsNone by Mine.same0
name_quick tw12945451867199242903 for PyProof.Rows.importsNone by Mine.same0
name_quick tw7401281599722004195 for PyProof.Rows.importsNone by Mine.same0
name_quick tw11310463157757771331 for PyProof.Rows.importsNone by Mine.same0
name_quick tw1962928258387122110 for PyProof.Rows.importsNone by Mine.same0
name_quick tw16241802466949684156 for PyProof.Rows.importsNone by Mine.same0
name_quick tw9315938663221665524 for PyProof.Rows.importsNone by Mine.same0
name_quick tw7554892946129407724 for PyProof.Rows.importsNone by Mine.same0
name_quick tw10996506086634736982 for PyProof.Rows.importsNone by Mine.same0
name_quick tw1333364371103165705 for PyProof.Rows.importsNone by Mine.same0
name_quick tw2674751590239303475 for PyProof.Rows.importsNone by Mine.same0
name_quick tw6662432510661729299 for PyProof.Rows.importsNone by Mine.same0
name_quick tw15663404670287596823 for PyProof.Rows.importsNone by Mine.same0
name_quick tw8603108125212654177 for PyProof.Rows.importsNone by Mine.same0
name_quick tw18117665064421353527 for PyProof.Rows.importsNone by Mine.same0
name_quick tw11994158751524154303 for PyProof.Rows.importsNone by Mine.same0
name_quick tw4039474712603431140 for PyProof.Rows.importsNone by Mine.same0
name_quick tw13615603153576403970 for PyProof.Rows.importsNone by Mine.same0
name_quick tw1218959903707654005 for PyProof.Rows.importsNone by Mine.same0
name_quick tw8238876669374634799 for PyProof.Rows.importsNone by Mine.same0
name_quick tw10205541121877940668 for PyProof.Rows.importsNone by Mine.same0
name_quick tw7299303143086499733 for PyProof.Rows.importsNone by Mine.same0
name_quick tw16916688483869632129 for PyProof.Rows.importsNone by Mine.same0
name_quick tw17828083071136270317 for PyProof.Rows.importsNone by Mine.same0
name_quick tw8703263022893421829 for PyProof.Rows.importsNone by Mine.same0
name_quick tw8017206721242287953 for PyProof.Rows.importsNone by Mine.same0
name_quick tw6434138532213402376 for PyProof.Rows.importsNone by Mine.same0
name_quick tw1620339239838986703 for PyProof.Rows.importsNone by Mine.same0
name_quick tw14553827428707814869 for PyProof.Rows.importsNone by Mine.same0
name_quick tw3039592710220408265 for PyProof.Rows.importsNone by Mine.same0
name_quick tw2660918139993853925 for PyProof.Rows.importsNone by Mine.same0
name_quick tw7581352650102555174 for PyProof.Rows.importsNone by Mine.same0
name_quick tw17532718790514356516 for PyProof.Rows.importsNone by Mine.same0
name_quick tw15323854079317868165 for PyProof.Rows.importsNone by Mine.same0
name_quick tw13141144453892091621 for PyProof.Rows.importsNone by Mine.same0
name_quick tw9948023125614773506 for PyProof.Rows.importsNone by Mine.same0
name_quick tw4933834842325187142 for PyProof.Rows.importsNone by Mine.same0
name_quick tw10938465397075749097 for PyProof.Rows.importsNone by Mine.same0
name_quick tw721709456127091705 for PyProof.Rows.importsNone by Mine.same0
name_quick tw17730428716208468724 for PyProof.Rows.importsNone by Mine.same0
name_quick tw1414301608579184545 for PyProof.Rows.importsNone by Mine.same0
name_quick tw14223099787259518943 for PyProof.Rows.importsNone by Mine.same0
name_quick tw17018628822417861297 for PyProof.Rows.importsNone by Mine.same0
name_quick tw15475462885187679331 for PyProof.Rows.importsNone by Mine.same0
name_quick tw5706481520468235054 for PyProof.Rows.importsNone by Mine.same0
name_quick tw6929956602132211858 for PyProof.Rows.importsNone by Mine.same0
name_quick tw16979880578912567463 for PyProof.Rows.importsNone by Mine.same0
name_quick tw13236226663087606529 for PyProof.Rows.importsNone by Mine.same0
name_quick tw17057272898397164401 for PyProof.Rows.importsNone by Mine.same0
name_quick tw12392613427281201732 for PyProof.Rows.importsNone by Mine.same0
name_quick tw392140993173905013 for PyProof.Rows.importsNone by Mine.same0
name_quick tw18056578402003937789 for PyProof.Rows.importsNone by Mine.same0
name_quick tw14574368915667082918 for PyProof.Rows.importsNone by Mine.same0
name_quick tw10029231156530900338 for PyProof.Rows.importsNone by Mine.same0
name_quick tw8119918657739134586 for PyProof.Rows.importsNone by Mine.same0
name_quick tw18416463498863911781 for PyProof.Rows.importsNone by Mine.same0
name_quick tw6695012665549500446 for PyProof.Rows.importsNone by Mine.same0
name_quick tw8537084889766193716 for PyProof.Rows.importsNone by Mine.same0
name_quick tw17497748084772794779 for PyProof.Rows.importsNone by Mine.same0
name_quick tw4071324889030633612 for PyProof.Rows.importsNone by Mine.same0
name_quick tw3131671291697673992 for PyProof.Rows.importsNone by Mine.same0
name_quick tw662354867322794072 for PyProof.Rows.importsNone by Mine.same0
name_quick tw15112985482279097393 for PyProof.Rows.importsNone by Mine.same0
name_quick tw12635297910168745909 for PyProof.Rows.importsNone by Mine.same0
name_quick tw18340240734955500558 for PyProof.Rows.importsNone by Mine.same0
name_quick tw13336175834630783545 for PyProof.Rows.importsNone by Mine.same0
name_quick tw13559156169165276386 for PyProof.Rows.importsNone by Mine.same0
name_quick tw12850107946570832962 for PyProof.Rows.importsNone by Mine.same0
name_quick tw4558998842232669794 for PyProof.Rows.importsNone by Mine.same0
name_quick tw2664551874359636763 for PyProof.Rows.importsNone by Mine.same0
name_quick tw18220123701641295943 for PyProof.Rows.importsNone by Mine.same0
name_quick tw4552823106982906706 for PyProof.Rows.importsNone by Mine.same0
name_quick tw6733733256287894996 for PyProof.Rows.importsNone by Mine.same0
name_quick tw18174066517961740512 for PyProof.Rows.importsNone by Mine.same0
name_quick tw10706342367453228570 for PyProof.Rows.importsNone by Mine.same0
name_quick tw6448080314894763839 for PyProof.Rows.importsNone by Mine.same0
name_quick tw4679858250743294509 for PyProof.Rows.importsNone by Mine.same0
name_quick tw13145125596335152023 for PyProof.Rows.importsNone by Mine.same0
name_quick tw15140604188634761816 for PyProof.Rows.importsNone by Mine.same0
name_quick tw5032809538720368765 for PyProof.Rows.importsNone by Mine.same0
name_quick tw9908251947323293946 for PyProof.Rows.importsNone by Mine.same0
name_quick tw505943868828395459 for PyProof.Rows.importsNone by Mine.same0
name_quick tw9407582987413476825 for PyProof.Rows.importsNone by Mine.same0
name_quick tw7276740287692124622 for PyProof.Rows.importsNone by Mine.same0
name_quick tw10314498396905981064 for PyProof.Rows.importsNone by Mine.same0
name_quick tw1092655722715705105 for PyProof.Rows.importsNone by Mine.same0
name_quick tw3739230766472764640 for PyProof.Rows.importsNone by Mine.same0
name_quick tw7998005718110087594 for PyProof.Rows.importsNone by Mine.same0
name_quick tw14224011070414065920 for PyProof.Rows.importsNone by Mine.same0
name_quick tw11317593695737139937 for PyProof.Rows.importsNone by Mine.same0
name_quick tw11420187438672877268 for PyProof.Rows.importsNone by Mine.same0
name_quick tw12866136484021002089 for PyProof.Rows.importsNone by Mine.same0
name_quick tw5111356299099525756 for PyProof.Rows.importsNone by Mine.same0
name_quick tw8642067239939848140 for PyProof.Rows.importsNone by Mine.same0
name_quick tw11013792430000457035 for PyProof.Rows.importsNone by Mine.same0
name_quick tw7745614565497352828 for PyProof.Rows.importsNone by Mine.same0
name_quick tw8727135674562949291 for PyProof.Rows.importsNone by Mine.same0
name_quick tw14979626087600564940 for PyProof.Rows.importsNone by Mine.same0
name_quick tw470574548607681690 for PyProof.Rows.importsNone by Mine.same0
name_quick tw2408619945344806742 for PyProof.Rows.importsNone by Mine.same0
name_quick tw3560238982266916124 for PyProof.Rows.importsNone by Mine.same0
name_quick tw8424611434330503625 for PyProof.Rows.importsNone by Mine.same0
name_quick tw14023627001141898710 for PyProof.Rows.importsNone by Mine.same0
name_quick tw9862997608875712007 for PyProof.Rows.importsNone by Mine.same0
name_quick tw8376441433122354887 for PyProof.Rows.importsNone by Mine.same0
name_quick tw4980102563643897964 for PyProof.Rows.importsNone by Mine.same0
name_quick tw15894407043143930727 for PyProof.Rows.importsNone by Mine.same0
name_quick tw4224760802259116069 for PyProof.Rows.importsNone by Mine.same0
name_quick tw6634754526749712025 for PyProof.Rows.importsNone by Mine.same0
name_quick tw13036272033356848781 for PyProof.Rows.importsNone by Mine.same0
name_quick tw13981391230805400906 for PyProof.Rows.importsNone by Mine.same0
name_quick tw13044745171469061596 for PyProof.Rows.importsNone by Mine.same0
name_quick tw10227693086864044499 for PyProof.Rows.importsNone by Mine.same0
name_quick tw14326252917377295143 for PyProof.Rows.importsNone by Mine.same0
name_quick tw6245536207120538393 for PyProof.Rows.importsNone by Mine.same0
name_quick tw16414604833108395602 for PyProof.Rows.importsNone by Mine.same0
name_quick tw16349804527192203551 for PyProof.Rows.importsNone by Mine.same0
name_quick tw15450981722951097364 for PyProof.Rows.importsNone by Mine.same0
name_quick tw14683798417357897080 for PyProof.Rows.importsNone by Mine.same0
name_quick tw5200128776193632040 for PyProof.Rows.importsNone by Mine.same0
name_quick tw1377046205977697930 for PyProof.Rows.importsNone by Mine.same0
name_quick tw9564595351457756722 for PyProof.Rows.importsNone by Mine.same0
name_quick tw387338674003428930 for PyProof.Rows.importsNone by Mine.same0
name_quick tw7323676302269181137 for PyProof.Rows.importsNone by Mine.same0
name_quick tw17000458434675057986 for PyProof.Rows.importsNone by Mine.same0
name_quick tw5135500740108067664 for PyProof.Rows.importsNone by Mine.same0
name_quick tw2719445374943340272 for PyProof.Rows.importsNone by Mine.same0
name_quick tw3880421473898291048 for PyProof.Rows.importsNone by Mine.same0
name_quick tw15480198773659482676 for PyProof.Rows.importsNone by Mine.same0
name_quick tw7650934615059315214 for PyProof.Rows.importsNone by Mine.same0
name_quick tw16049961110935095269 for PyProof.Rows.importsNone by Mine.same0
name_quick tw9529234661008812162 for PyProof.Rows.importsNone by Mine.same0
name_quick tw18211773271919218964 for PyProof.Rows.importsNone by Mine.same0
name_quick tw9467589175468403638 for PyProof.Rows.importsNone by Mine.same0
name_quick tw15742981410569661332 for PyProof.Rows.importsNone by Mine.same0
name_quick tw10317580896714288900 for PyProof.Rows.importsNone by Mine.same0
name_quick tw4775785305629353868 for PyProof.Rows.importsNone by Mine.same0
name_quick tw14530364306720264245 for PyProof.Rows.importsNone by Mine.same0
name_quick tw5902227825499142635 for PyProof.Rows.importsNone by Mine.same0
name_quick tw3764465048917985505 for PyProof.Rows.importsNone by Mine.same0
name_quick tw17279654841073493023 for PyProof.Rows.importsNone by Mine.same0
name_quick tw5656341101305198845 for PyProof.Rows.importsNone by Mine.same0
name_quick tw9800571698397750058 for PyProof.Rows.importsNone by Mine.same0
name_quick tw11566699232636054958 for PyProof.Rows.importsNone by Mine.same0
name_quick tw10424941004445345732 for PyProof.Rows.importsNone by Mine.same0
name_quick tw13512673800721320934 for PyProof.Rows.importsNone by Mine.same0
set_option maxRecDepth 100000 in
set_option maxHeartbeats 8000000 in
open_top hd for PySem.Challenge.rw_il0136_01
end Mine

section Base
open PySem PySem.W PyProof.Rows
namespace Mine
noncomputable abbrev Loose : List Str := looseW hd.view_39 [Str.ofString "_tuplegetter", Str.ofString "Pair"] ++
        List.map (fun x => x.name) (recsOf hd.view_39) ++
      List.map (fun x => x.fst) (litsOf hd.view_39) ++
    List.map (fun x => x.name)
      (clssOf hd.view_39 (looseW hd.view_39 [Str.ofString "_tuplegetter", Str.ofString "Pair"]))
def Con (f : Addr) (pre : Prop) (vs : List Value) (R : Tok → Value) : Prop :=
  ∀ (w : World) (mean : ExcName → Option Value) (mg mb : Str → Option Value) (news : List (Addr × Obj))
    (dp un : Nat) (gd : Option (List Code)) (cn : Str) (cs : Scope) (a : Addr) (ccd : Value) (cl : List (Str × Addr)) (outer : List Env) (A₀ : Around) (base h₀ : Heap) (L : Addr) (m : Str → Option Value) (s : Shared) (Q E : Value → Shared → Prop),
    Below A₀ base outer h₀ → Fr h₀ L s.heap m → (hd.heap_39 w.params).In h₀ → News h₀ L s.heap news → Top topProg Loose mean mg mb h₀ → cs.kind = .function →
    pre → dp + 4 < recursionLimit → un + 400 < cLine →
    (∀ (t : Tok) (h' : Heap) (tk' : Nat), Fr h₀ L h' m → News h₀ L h' news → Q (R t) { s with heap := h', toks := tk' }) →
    wpAny (model PySem.Challenge.rw_il0136_01.row.prog w) (ktrTop dp un gd cn cs L a ccd cl outer) (call (.ref f) vs) Q E s
theorem all_ne {news : List (Addr × Obj)} {L a : Addr} (h : ∀ p ∈ news, p.1 < L) (hle : @LE.le Nat _ L a) : ∀ p ∈ news, p.1 ≠ a := fun p hp => Nat.ne_of_lt (Nat.lt_of_lt_of_le (h p hp) hle)
def Stop (P : Prop) : Prop := P
theorem stop {P : Prop} (h : Stop P) : P := h
theorem Stop.out {P : Prop} (h : P) : Stop P := h
end Mine
end Base

section StrR
open PySem PySem.W PyProof.Rows
namespace Mine
open Builtin Builtin.Str
def find4 (x y : Str) (i j : Int) : Int := match occurrences x y (fromIndex x.length i) (min (fromIndex x.length j) x.length) 1 with | k :: _ => (k : Int) | [] => -1
def rfind4 (x y : Str) (i j : Int) : Int := match lastOccurrence x y (fromIndex x.length i) (min (fromIndex x.length j) x.length) with | some k => (k : Int) | none => -1
theorem gives_find4 (x y : Str) (i j : Int) (t u v z : Tok) : Gives («str.find» ⟨[.str x t, .str y u, .int i v, .int j z], []⟩) (.int (find4 x y i j)) := by
  show Gives (match occurrences x y (fromIndex x.length i) (min (fromIndex x.length j) x.length) 1 with | k :: _ => retInt k | [] => (do rule "str.find.not-found"; retInt (-1))) _
  unfold find4
  cases occurrences x y (fromIndex x.length i) (min (fromIndex x.length j) x.length) 1 with
  | nil => exact .rule (.of_eq rfl)
  | cons k _ => exact .of_eq rfl
theorem gives_rfind4 (x y : Str) (i j : Int) (t u v z : Tok) : Gives («str.rfind» ⟨[.str x t, .str y u, .int i v, .int j z], []⟩) (.int (rfind4 x y i j)) := by
  show Gives (match lastOccurrence x y (fromIndex x.length i) (min (fromIndex x.length j) x.length) with | some k => retInt k | none => (do rule "str.rfind.not-found"; retInt (-1))) _
  unfold rfind4
  cases lastOccurrence x y (fromIndex x.length i) (min (fromIndex x.length j) x.length) with
  | none => exact .rule (.of_eq rfl)
  | some k => exact .of_eq rfl
section
variable {prog : Program} {w : World} {A : Around} {E : Value → Shared → Prop} {s : Shared} {x y : Str} {t u v z : Tok} {i j : Int} {Q : Value → Shared → Prop}
theorem call_find4 (hq : Q (.int (find4 x y i j) s.toks) { s with toks := s.toks + 1 }) : wpAny (model prog w) A (call (.builtin "str.find") [.str x t, .str y u, .int i v, .int j z]) Q E s :=
  call_gives F.slot_str_find (typeIs_str _ _ _) F.entry_str_find (F.args_str_find_4 _ _ _ _) (gives_find4 x y i j t u v z) hq
theorem call_rfind4 (hq : Q (.int (rfind4 x y i j) s.toks) { s with toks := s.toks + 1 }) : wpAny (model prog w) A (call (.builtin "str.rfind") [.str x t, .str y u, .int i v, .int j z]) Q E s :=
  call_gives F.slot_str_rfind (typeIs_str _ _ _) F.entry_str_rfind (F.args_str_rfind_4 _ _ _ _) (gives_rfind4 x y i j t u v z) hq
end
end Mine
end StrR

section CompL
open PySem PySem.W PyProof.Rows
namespace Mine
open LCt LCg
inductive TurnE (h₀ : Heap) (L : Addr) (m : Str → Option Value) (s : Shared) (news : List (Addr × Obj)) (J : Prop) : Shared → Prop
  | mk (h' : Heap) (tk' : Nat) (F : Fr h₀ L h' m) (N : News h₀ L h' news) (j : J) : TurnE h₀ L m s news J { s with heap := h', toks := tk' }
theorem TurnE.intro {h₀ : Heap} {L : Addr} {m : Str → Option Value} {s : Shared} {news all : List (Addr × Obj)} {J : Prop} {h' : Heap} {tk : Nat} (F : Fr h₀ L h' m) (N : News h₀ L h' all) (sub : ∀ p ∈ news, p ∈ all) (j : J) :
    TurnE h₀ L m s news J { s with heap := h', toks := tk } := .mk h' tk F (fun p hp => N p (sub p hp)) j
section
variable {prog : Program} {w : World} {A : Around} {E : Value → Shared → Prop} {s : Shared} {h₀ : Heap} {L : Addr} {m : Str → Option Value} {env : Env}
theorem CompRest_inv {elt : Expr} {x : Str} {scope : Scope} {cl : List (Str × Addr)} {S : List (Addr × Obj) → Prop} {P : Nat → Value → Prop} {Fin : List Value → List (Addr × Obj) → Prop} {news : List (Addr × Obj)} {n : Nat}
    (Inv : Nat → List Value → Prop) (hS : S news) (h0 : Inv 0 [])
    (turn : ∀ i ys v I oI C oC D m₂ h tk (E' : Value → Shared → Prop), i < n → Inv i ys → P i v → NsObj oC m₂ → m₂ x = some v → Fr h₀ L h m → News h₀ L h ((I, oI) :: (C, oC) :: (D, lst ys) :: news) → Off3 I C D news → ((@Ne Nat I C) ∧ (@Ne Nat I D) ∧ (@Ne Nat C D)) →
      wpAny (model prog w) A (eval elt (compEnvC scope cl C env)) (fun y s' => TurnE h₀ L m s ((I, oI) :: (C, oC) :: (D, lst ys) :: news) (Inv (i + 1) (ys ++ [y])) s') E' { s with heap := h, toks := tk })
    (fin : ∀ ys, Inv n ys → Fin ys news) : CompRest prog w A h₀ L m env elt x scope cl s S P Fin n 0 [] news := by
  have key : ∀ k i ys, i + k = n → Inv i ys → CompRest prog w A h₀ L m env elt x scope cl s S P Fin k i ys news := by
    intro k
    induction k with
    | zero => intro i ys hi hv; have : i = n := hi; subst this; exact CompRest.zero (fin ys hv)
    | succ k ih =>
      intro i ys hi hv
      refine CompRest.succ ?_
      intro v I oI C oC D m₂ h tk E' hP hO hm F N off ne
      refine wpAny_mono (turn i ys v I oI C oC D m₂ h tk E' (by omega) hv hP hO hm F N off ne) (fun y s' hq => ?_) fun _ _ e => e
      obtain ⟨h', tk', F', N', hj⟩ := hq
      exact ⟨h', tk', news, rfl, F', N', off, hS, ih (i + 1) _ (by omega) hj⟩
  exact key n 0 [] (by omega) h0
theorem CompRestT_inv {ct elt : Expr} {x : Str} {scope : Scope} {cl : List (Str × Addr)} {S : List (Addr × Obj) → Prop} {P : Nat → Value → Prop} {Fin : List Value → List (Addr × Obj) → Prop} {news : List (Addr × Obj)} {n : Nat}
    (Inv : Nat → List Value → Prop) (hS : S news) (h0 : Inv 0 [])
    (turn : ∀ i ys v I oI C oC D m₂ h tk (E' : Value → Shared → Prop), i < n → Inv i ys → P i v → NsObj oC m₂ → m₂ x = some v → Fr h₀ L h m → News h₀ L h ((I, oI) :: (C, oC) :: (D, lst ys) :: news) → Off3 I C D news → ((@Ne Nat I C) ∧ (@Ne Nat I D) ∧ (@Ne Nat C D)) →
      wpAny (model prog w) A (isTrue ct (compEnvC scope cl C env) (eval ct (compEnvC scope cl C env))) (fun ok s' => if ok = true then
        wpAny (model prog w) A (eval elt (compEnvC scope cl C env)) (fun y s' => TurnE h₀ L m s ((I, oI) :: (C, oC) :: (D, lst ys) :: news) (Inv (i + 1) (ys ++ [y])) s') E' s'
        else TurnE h₀ L m s ((I, oI) :: (C, oC) :: (D, lst ys) :: news) (Inv (i + 1) ys) s') E' { s with heap := h, toks := tk })
    (fin : ∀ ys, Inv n ys → Fin ys news) : CompRestT prog w A h₀ L m env ct elt x scope cl s S P Fin n 0 [] news := by
  have key : ∀ k i ys, i + k = n → Inv i ys → CompRestT prog w A h₀ L m env ct elt x scope cl s S P Fin k i ys news := by
    intro k
    induction k with
    | zero => intro i ys hi hv; have : i = n := hi; subst this; exact CompRestT.zero (fin ys hv)
    | succ k ih =>
      intro i ys hi hv
      refine CompRestT.succ ?_
      intro v I oI C oC D m₂ h tk E' hP hO hm F N off ne
      refine wpAny_mono (turn i ys v I oI C oC D m₂ h tk E' (by omega) hv hP hO hm F N off ne) (fun ok s' hq => ?_) fun _ _ e => e
      cases ok with
      | true =>
        simp only [if_true] at hq ⊢
        refine wpAny_mono hq (fun y s' hq => ?_) fun _ _ e => e
        obtain ⟨h', tk', F', N', hj⟩ := hq
        exact ⟨h', tk', news, rfl, F', N', off, hS, ih (i + 1) _ (by omega) hj⟩
      | false =>
        simp only [Bool.false_eq_true, if_false] at hq ⊢
        obtain ⟨h', tk', F', N', hj⟩ := hq
        exact ⟨h', tk', news, rfl, F', N', off, hS, ih (i + 1) _ (by omega) hj⟩
  exact key n 0 [] (by omega) h0
def WStep (h₀ : Heap) (L : Addr) (m : Str → Option Value) (s : Shared) (J : Nat → List (Addr × Obj) → Prop) (Q : Flow → Shared → Prop) (n : Nat) (f : Flow) (s₃ : Shared) : Prop :=
  match f with
  | .ret v => Q (.ret v) s₃
  | .brk => Q .next s₃
  | _ => ∃ h' tk nx n', s₃ = { s with heap := h', toks := tk } ∧ Fr h₀ L h' m ∧ News h₀ L h' nx ∧ n' < n ∧ J n' nx
theorem WStep.intro {J : Nat → List (Addr × Obj) → Prop} {Q : Flow → Shared → Prop} {n n' : Nat} {nx all : List (Addr × Obj)} {h' : Heap} {tk : Nat} (F : Fr h₀ L h' m) (N : News h₀ L h' all) (sub : ∀ p ∈ nx, p ∈ all) (hn : n' < n) (hj : J n' nx) :
    WStep h₀ L m s J Q n .next { s with heap := h', toks := tk } := ⟨h', tk, nx, n', rfl, F, fun p hp => N p (sub p hp), hn, hj⟩
theorem While_led {Q : Flow → Shared → Prop} {test : Expr} {body : List Stmt} {pos : Pos} {news : List (Addr × Obj)} (J : Nat → List (Addr × Obj) → Prop) {n₀ : Nat}
    (F : Fr h₀ L s.heap m) (N : News h₀ L s.heap news) (hJ : J n₀ news)
    (turn : ∀ n nx h tk, Fr h₀ L h m → News h₀ L h nx → J n nx →
      wpAny (model prog w) A (isTrue test env (eval test env)) (fun b s₂ =>
        if b = true then wpAny (model prog w) A (execs body env) (WStep h₀ L m s J Q n) E s₂ else Q .next s₂) E { s with heap := h, toks := tk })
    (hE : PassesOwn (model prog w) A env E := by passes_own) :
    wpAny (model prog w) A (exec (.While test body [] pos) env) Q E s := by
  refine While_inv2 (fun n m' nx => m' = m ∧ J n nx) F N ⟨rfl, hJ⟩ ?_ hE
  rintro n m₁ nx h tk F₁ N₁ ⟨rfl, hj⟩
  refine wpAny_mono (turn n nx h tk F₁ N₁ hj) (fun b s₂ p => ?_) fun _ _ x => x
  cases b with
  | false => simpa using p
  | true =>
    simp only [if_true] at p ⊢
    refine wpAny_mono p (fun f s₃ q => ?_) fun _ _ x => x
    cases f with
    | ret v => exact q
    | brk => exact q
    | next => obtain ⟨h', tk', nx', n', rfl, F', N', hn, hj'⟩ := q; exact ⟨h', tk', m₁, nx', n', rfl, F', N', hn, rfl, hj'⟩
    | cont => obtain ⟨h', tk', nx', n', rfl, F', N', hn, hj'⟩ := q; exact ⟨h', tk', m₁, nx', n', rfl, F', N', hn, rfl, hj'⟩
end
end Mine
end CompL

section PStr
open PySem PySem.W PyProof.Rows
namespace Mine
open Builtin Builtin.Str
theorem slice_is (x : Str) (l u : Option Int) : Txt.slice x l u = StrLaws.sliceText x l u := rfl
theorem idx_clip (a b n : Nat) : strSliceIndices (some (a : Int)) (some (b : Int)) 1 n = strSliceIndices (some ((min a n : Nat) : Int)) (some ((min b n : Nat) : Int)) 1 n := by
  unfold strSliceIndices
  have h : ∀ k : Nat, ¬ ((k : Int) < 0) := fun k => by omega
  simp only [h, if_false, show (1 : Int) > 0 by decide, if_true]
  have e : ∀ k : Nat, max (0 : Int) (min (k : Int) (n : Int)) = max (0 : Int) (min ((min k n : Nat) : Int) (n : Int)) := fun k => by omega
  rw [e a, e b]
theorem slice_nat (x : Str) {a b : Nat} (hab : a ≤ b) : Txt.slice x (some (a : Int)) (some (b : Int)) = ⟨((x.cps.toList.drop a).take (b - a)).toArray⟩ := by
  have e : Txt.slice x (some (a : Int)) (some (b : Int)) = Txt.slice x (some ((min a x.length : Nat) : Int)) (some ((min b x.length : Nat) : Int)) := by
    unfold Txt.slice
    rw [idx_clip]
  rw [e, slice_is, StrLaws.sliceText_nat x (by omega) (by omega)]
  congr 2
  have hl : x.length = x.cps.toList.length := by simp [Str.length]
  by_cases h : a ≤ x.length
  · rw [Nat.min_eq_left h]
    by_cases h2 : b ≤ x.length
    · rw [Nat.min_eq_left h2]
    · rw [Nat.min_eq_right (by omega)]
      rw [List.take_of_length_le (by rw [List.length_drop]; omega), List.take_of_length_le (by rw [List.length_drop]; omega)]
  · rw [Nat.min_eq_right (by omega), Nat.min_eq_right (by omega), List.drop_of_length_le (by omega), List.drop_of_length_le (by omega)]
    simp
theorem slice_int (x : Str) {a b : Int} (h0 : 0 ≤ a) (hab : a ≤ b) : Txt.slice x (some a) (some b) = ⟨((x.cps.toList.drop a.toNat).take (b.toNat - a.toNat)).toArray⟩ := by
  have := slice_nat x (a := a.toNat) (b := b.toNat) (by omega)
  rwa [Int.toNat_of_nonneg h0, Int.toNat_of_nonneg (by omega)] at this
theorem item_len (x : Str) (i : Int) : (Txt.item x i).length = 1 := rfl
theorem slice1_lt {x y : Str} {k i : Int} (h0 : 0 ≤ k) (h : (Txt.slice y (some k) (some (k + 1)) == Txt.item x i) = true) : k + 1 ≤ (y.length : Int) := by
  have e := congrArg Str.length (eq_of_beq h)
  rw [item_len, slice_int y h0 (by omega)] at e
  have hl : y.length = y.cps.toList.length := by simp [Str.length]
  simp only [Str.length, List.size_toArray, List.length_take, List.length_drop] at e
  rw [hl]
  omega
end Mine
end PStr

section StripC
open PySem PySem.W PyProof.Rows
namespace Mine
local macro_rules | `(tactic| units_room) => `(tactic| ktr_units)
local macro_rules | `(tactic| walk_at "call builtin:str.find") => `(tactic| refine Mine.call_find4 ?_)
local macro_rules | `(tactic| walk_at "call builtin:str.rfind") => `(tactic| refine Mine.call_rfind4 ?_)
def stripE1 (x : Str) : Int := if 0 ≤ Txt.find x (Str.ofString "\n") then Txt.find x (Str.ofString "\n") else (x.length : Int)
def stripE2 (x : Str) (e : Int) : Int := if 0 ≤ find4 x (Str.ofString ":") 0 e then find4 x (Str.ofString ":") 0 e else e
def stripS (x : Str) (e : Int) : Int := if 0 ≤ rfind4 x (Str.ofString ".") 0 e then rfind4 x (Str.ofString ".") 0 e + 1 else 0
def stripF (x : Str) : Str := Txt.slice x (some (stripS x (stripE2 x (stripE1 x)))) (some (stripE2 x (stripE1 x)))
theorem ite_eq {c : Prop} [Decidable c] {a b r : Int} (h : (c ∧ r = a) ∨ (¬ c ∧ r = b)) : r = if c then a else b := by
  rcases h with ⟨h1, h2⟩ | ⟨h1, h2⟩
  · rw [if_pos h1, h2]
  · rw [if_neg h1, h2]
theorem strip_eq {x : Str} {r e s : Int} (h1 : (0 ≤ Txt.find x (Str.ofString "\n") ∧ r = Txt.find x (Str.ofString "\n")) ∨ (¬ 0 ≤ Txt.find x (Str.ofString "\n") ∧ r = (x.length : Int)))
    (h2 : (0 ≤ find4 x (Str.ofString ":") 0 r ∧ e = find4 x (Str.ofString ":") 0 r) ∨ (¬ 0 ≤ find4 x (Str.ofString ":") 0 r ∧ e = r))
    (h3 : (0 ≤ rfind4 x (Str.ofString ".") 0 e ∧ s = rfind4 x (Str.ofString ".") 0 e + 1) ∨ (¬ 0 ≤ rfind4 x (Str.ofString ".") 0 e ∧ s = 0)) : Txt.slice x (some s) (some e) = stripF x := by
  have e1 : r = stripE1 x := ite_eq h1
  have e2 : e = stripE2 x r := ite_eq h2
  have e3 : s = stripS x e := ite_eq h3
  rw [e3, e2, e1]; rfl
set_option maxRecDepth 100000 in
set_option maxHeartbeats 8000000 in
theorem strip_con (x : Str) (t : Tok) : Con 53 (x.length ≤ 1000) [.str x t] (fun t => .str (stripF x) t) := by
  unfold Con
  k_with_none
  w_top off
  k_fill
  intro w mean mg mb news
  intros
  rename_i hret
  refine wpAny_call ?_
  cell_enter
  k_steps
  all_goals (
    refine cb_retS hret ?_ (by assumption) (cb_drop (by assumption) (by kcj_all))
    have hr9 := ‹(_ ∧ _ = _) ∨ (_ ∧ _ = _)›
    exact strip_eq hr9 (by first | exact .inl ⟨by assumption, rfl⟩ | exact .inr ⟨by assumption, rfl⟩) (by first | exact .inl ⟨by assumption, rfl⟩ | exact .inr ⟨by assumption, rfl⟩))
end Mine
end StripC

section FitsC
open PySem PySem.W PyProof.Rows
namespace Mine
local macro_rules | `(tactic| units_room) => `(tactic| ktr_units)
open LCt LCg
local macro_rules | `(tactic| k_ne) => `(tactic| k_extra "NE")
local macro_rules | `(tactic| k_all) => `(tactic| k_extra "ALL")
theorem drop13 {α : Type} {a b c : α} {r : List α} : ∀ p ∈ b :: r, p ∈ a :: b :: c :: r := fun p hp => (List.mem_cons.mp hp).elim (fun e => e ▸ .tail _ (.head _)) (fun h => .tail _ (.tail _ (.tail _ h)))
inductive Reach (x y : Str) : Nat → List Int → Prop
  | start : Reach x y 0 [0]
  | dots {i : Nat} {ps : List Int} : Reach x y i ps → i < x.length → Txt.slice x (some (i : Int)) (some ((i : Int) + 3)) = Str.ofString "..." → Reach x y (i + 3) ((rangeKs 0 (y.length + 1)).filter fun k => !ps.isEmpty && decide (ps.headD 0 ≤ k))
  | one {i : Nat} {ps : List Int} : Reach x y i ps → i < x.length → Txt.slice x (some (i : Int)) (some ((i : Int) + 3)) ≠ Str.ofString "..." → Reach x y (i + 1) ((ps.filter fun k => Txt.slice y (some k) (some (k + 1)) == Txt.item x (i : Int)).map (· + 1))
inductive FJ (x y : Str) (t u : Tok) (L' : Nat) (news : List (Addr × Obj)) : Nat → List (Addr × Obj) → Prop
  | mk (i : Nat) (lp : Nat) (vs : List Value) (ps : List Int) (pn : Nat) (ti : Tok) (oa op oT oP : Obj) (hvs : IntsAre vs ps)
    (ha : oa.data = .cell (some (.int (i : Int) ti))) (hp : op.data = .cell (some (.ref lp))) (hT : oT.data = .cell (some (.str y u))) (hP : oP.data = .cell (some (.str x t)))
    (l1 : lp ≠ L' + 1 + 1 + 1 + 1 ∧ lp ≠ L' + 1 + 1 + 1 ∧ lp ≠ L' + 1 + 1 ∧ lp ≠ L' + 1) (hi : i ≤ x.length + 2) (hR : Reach x y i ps) (hps : ∀ k ∈ ps, 0 ≤ k ∧ k ≤ (y.length : Int)) (hpl : ps.length ≤ y.length + 1) :
    FJ x y t u L' news (x.length - i) ((lp, W.listOf vs.toArray pn) :: (L' + 1 + 1 + 1 + 1, oa) :: (L' + 1 + 1 + 1, op) :: (L' + 1 + 1, oT) :: (L' + 1, oP) :: news)
theorem FJ.of {x y : Str} {t u : Tok} {L' : Nat} {news : List (Addr × Obj)} {n : Nat} {nx : List (Addr × Obj)} {i : Nat} {ii : Int} {lp : Nat} {vs : List Value} {ps : List Int} {pn : Nat} {ti : Tok} {oa op oT oP : Obj} (e : nx = (lp, W.listOf vs.toArray pn) :: (L' + 1 + 1 + 1 + 1, oa) :: (L' + 1 + 1 + 1, op) :: (L' + 1 + 1, oT) :: (L' + 1, oP) :: news) (hvs : IntsAre vs ps)
    (ha : oa.data = .cell (some (.int ii ti))) (hp : op.data = .cell (some (.ref lp))) (hT : oT.data = .cell (some (.str y u))) (hP : oP.data = .cell (some (.str x t)))
    (l1 : lp ≠ L' + 1 + 1 + 1 + 1 ∧ lp ≠ L' + 1 + 1 + 1 ∧ lp ≠ L' + 1 + 1 ∧ lp ≠ L' + 1) (hii : ii = (i : Int)) (hn : n = x.length - i) (hi : i ≤ x.length + 2) (hR : Reach x y i ps) (hps : ∀ k ∈ ps, 0 ≤ k ∧ k ≤ (y.length : Int)) (hpl : ps.length ≤ y.length + 1) : FJ x y t u L' news n nx := by
  subst e hii hn; exact .mk i lp vs ps pn ti oa op oT oP hvs ha hp hT hP l1 hi hR hps hpl
theorem ia_app : ∀ {a b : List Value} {m n : List Int}, IntsAre a m → IntsAre b n → IntsAre (a ++ b) (m ++ n)
  | _, _, _, _, .nil, h => h
  | _, _, _, _, .cons n t r, h => .cons n t (ia_app r h)
theorem ia_one (n : Int) (t : Tok) : IntsAre [.int n t] [n] := .cons n t .nil
theorem rk_succ (j : Nat) : rangeKs 0 (j + 1) = rangeKs 0 j ++ [(0 : Int) + (j : Int)] := by simp [rangeKs, List.range_succ]
theorem rk_yes {p : Int → Bool} {ys : List Value} {j : Nat} {t : Tok} (h : IntsAre ys ((rangeKs 0 j).filter p)) (hp : p ((0 : Int) + (j : Int)) = true) : IntsAre (ys ++ [.int (0 + (j : Int)) t]) ((rangeKs 0 (j + 1)).filter p) := by
  rw [rk_succ, List.filter_append, List.filter_cons_of_pos hp]; exact ia_app h (ia_one _ _)
theorem rk_no {p : Int → Bool} {ys : List Value} {j : Nat} (h : IntsAre ys ((rangeKs 0 j).filter p)) (hp : p ((0 : Int) + (j : Int)) = false) : IntsAre ys ((rangeKs 0 (j + 1)).filter p) := by
  rw [rk_succ, List.filter_append, List.filter_cons_of_neg (by rw [hp]; decide), List.filter_nil, List.append_nil]; exact h
theorem tk_yes {p : Int → Bool} {ys : List Value} {ps : List Int} {j : Nat} {k : Int} {t : Tok} (h : IntsAre ys (((ps.take j).filter p).map (· + 1))) (hj : ps[j]? = some k) (hp : p k = true) : IntsAre (ys ++ [.int (k + 1) t]) (((ps.take (j + 1)).filter p).map (· + 1)) := by
  rw [List.take_add_one, hj, Option.toList_some, List.filter_append, List.filter_cons_of_pos hp, List.map_append]; exact ia_app h (ia_one _ _)
theorem tk_no {p : Int → Bool} {ys : List Value} {ps : List Int} {j : Nat} {k : Int} (h : IntsAre ys (((ps.take j).filter p).map (· + 1))) (hj : ps[j]? = some k) (hp : p k = false) : IntsAre ys (((ps.take (j + 1)).filter p).map (· + 1)) := by
  rw [List.take_add_one, hj, Option.toList_some, List.filter_append, List.filter_cons_of_neg (by rw [hp]; decide), List.filter_nil, List.append_nil]; exact h
set_option maxRecDepth 100000 in
set_option maxHeartbeats 1600000 in
theorem fits_con (x y : Str) (t u : Tok) (b : Bool) (hend : ∀ i ps, Reach x y i ps → x.length ≤ i → (ps.any fun k => k == (y.length : Int)) = b) : Con 225 (x.length ≤ 1000 ∧ y.length ≤ 1000) [.str x t, .str y u] (fun _ => .bool b) := by
  unfold Con
  k_with_none
  w_top off
  k_fill
  (k_with "ALL" => refine Mine.all_ne (by assumption) (by omega))
  (k_with "NE" => (refine neN ?_; (try dsimp only); with_reducible (first | assumption | exact Ne.symm (by assumption) | exact Nat.ne_of_lt (by assumption) | exact Nat.ne_of_gt (by assumption) | k_extra "CONJNE")))
  (k_with "CONJNE" => (rename (@LT.lt Nat _ _ _ ∧ _) => q; first | exact Nat.ne_of_gt q.1 | (replace q := And.right q; k_extra "CONJNE")))
  intro w mean mg mb news
  intros
  rename_i hret
  rename_i hpre _ _
  obtain ⟨hx, hy⟩ := hpre
  refine wpAny_call ?_
  (refine' code_defC ?k1 ?k2 ?k3 ?k4 ?k5 ?kA ?kF ?kK ?k6 ?k7 ?k8 ?k9 ?kB ?kD ?_ ?c2 ?c3 ?c4; (case kA => exact rfl); (case kF => exact rfl); (case kK => assumption); (case k1 => k_asm); (case k2 => k_asm); (case k3 => k_asm); (case k4 => k_asm); (case k5 => k_asm); (case k6 => k_is); (case k7 => k_is); (case k8 => ktr_room); (case k9 => exact BindsTo.of_eq rfl); (case kB => exact rfl); (case kD => decide +kernel); (case c2 => exact rfl); (case c3 => exact rfl); (case c4 => exact rfl); k_whole; intro g' L' h' tk' cells' FG' F' N' Y' B' X' T' l1; (try k_lt l1); k_cells Y'; (try simp only [List.cons_append, List.nil_append] at N'); (try dsimp only); (try k_lift B'); (try k_fold))
  (k_with "exec While Compare cons nil" => refine Mine.stop ?_)
  (k_with "CompSrcT" => refine Mine.stop ?_)
  k_steps
  refine Mine.Stop.out ?_
  rename News _ _ _ _ => N0
  refine' While_led (FJ x y t u L' news) (n₀ := x.length) ?kF (cb_drop N0 (fun p hp => List.mem_cons_of_mem _ hp)) ?kJ ?kT ?kE
  case kF => k_asm
  case kJ => exact .of (i := 0) (ps := [0]) rfl (by repeat constructor) (by assumption) (by assumption) (by assumption) (by assumption) (by omega) rfl (by omega) (by omega) .start (by simp) (by simp)
  case kE => passes_own
  case kT =>
    rintro n nx hh tkk F N ⟨i, lp, vs, ps, pn, ti, oa, op, oT, oP, hvs, ha, hp, hT, hP, l1', hi, hR, hps, hpl⟩
    try dsimp only
    try k_fold
    k_steps
    · refine Mine.Stop.out ?_
      refine CompSrcT.range (n := y.length + 1) (by rfl) (by k_asm) (by k_asm) (by assumption) (by exact small_one (by omega) (by omega) (by omega) (by omega)) (by exact rangeSize_nat _ _) (by size_fits) ?_
      intro g9
      refine CompRestT_inv (fun i ys => IntsAre ys ((rangeKs 0 i).filter fun k => !ps.isEmpty && decide (ps.headD 0 ≤ k))) trivial .nil ?_ ?_
      · rintro j ys v I oI C oC D m₂ h9 tk9 E9 hj hinv ⟨tt, rfl⟩ hO hm F9 N9 off ne
        cases hvs
        · try k_fold
          k_steps
          exact TurnE.intro (by k_asm) (by assumption) (fun p hp => List.mem_cons_of_mem _ hp) (rk_no hinv (by simp))
        · try k_fold
          k_steps
          · exfalso; simp_all
          · exact TurnE.intro (by k_asm) (by assumption) (fun p hp => List.mem_cons_of_mem _ hp) (rk_yes hinv (by simp_all))
          · exact TurnE.intro (by k_asm) (by assumption) (fun p hp => List.mem_cons_of_mem _ hp) (rk_no hinv (by simp_all))
      · intro ys hys
        unfold FinE
        intro D h9 tk9 F9 N9 off
        obtain ⟨o1, o2, o3, o4, o5, -⟩ := off
        dsimp only at o1 o2 o3 o4 o5
        try dsimp only
        try k_fold
        k_steps
        rename News _ _ _ _ => N1
        have hi9 := ‹(i : Int) < (x.length : Int)›
        have hb9 : (Txt.slice x (some (i : Int)) (some ((i : Int) + 3)) == Str.ofString "...") = true := by assumption
        refine WStep.intro (n' := x.length - (i + 3)) (by k_asm) N1 drop13 (by omega) ?_
        · refine .of (i := i + 3) rfl hys (by assumption) (by assumption) hT hP (by first | exact ⟨Ne.symm o2, Ne.symm o3, Ne.symm o4, Ne.symm o5⟩ | omega) (by omega) rfl (by omega) (.dots hR (by omega) (eq_of_beq hb9)) ?_ ?_
          · intro k hk
            have := mem_rangeKs (List.mem_filter.mp hk).1
            omega
          · refine Nat.le_trans (List.length_filter_le _ _) ?_
            rw [rangeKs_length]; exact Nat.le_refl _
    · refine Mine.Stop.out ?_
      have hsz9 := hvs.length
      refine CompSrcT.ledger (its := vs.toArray) (by rfl) (by k_asm) (by k_asm) (by k_mem) (by simp only [List.size_toArray]; size_fits) ?_
      intro g9
      refine CompRestT_inv (fun i' ys => IntsAre ys (((ps.take i').filter fun k => Txt.slice y (some k) (some (k + 1)) == Txt.item x (i : Int)).map (· + 1))) (.inr ⟨_, by k_mem, rfl, _, rfl⟩) .nil ?_ ?_
      · rintro j ys v I oI C oC D m₂ h9 tk9 E9 hj hinv hv hO hm F9 N9 off ne
        have hj' : j < ps.length := by simpa [hsz9] using hj
        obtain ⟨tt, hx9⟩ := hvs.get j ps[j] (by simp [hj'])
        have hv' : v = .int ps[j] tt := by
          have hP' : vs[j]? = some v := by simpa using hv
          rw [hx9] at hP'; exact (Option.some.inj hP').symm
        subst hv'
        have hk9 : ps[j]? = some ps[j] := by simp [hj']
        have hb9 := hps ps[j] (List.getElem_mem hj')
        generalize ps[j] = kk at *
        try dsimp only
        try k_fold
        k_steps
        · exact TurnE.intro (by k_asm) (by assumption) (fun p hp => hp) (tk_yes hinv hk9 (by assumption))
        · exact TurnE.intro (by k_asm) (by assumption) (fun p hp => hp) (tk_no hinv hk9 (by assumption))
      · intro ys hys
        unfold FinE
        intro D h9 tk9 F9 N9 off
        obtain ⟨o1, o2, o3, o4, o5, -⟩ := off
        dsimp only at o1 o2 o3 o4 o5
        try dsimp only
        try k_fold
        k_steps
        rename News _ _ _ _ => N1
        have hi9 := ‹(i : Int) < (x.length : Int)›
        have hb9 : (Txt.slice x (some (i : Int)) (some ((i : Int) + 3)) == Str.ofString "...") = false := by assumption
        refine WStep.intro (n' := x.length - (i + 1)) (by k_asm) N1 drop13 (by omega) ?_
        rw [List.size_toArray, hsz9, List.take_length] at hys
        refine .of (i := i + 1) rfl hys (by assumption) (by assumption) hT hP (by first | exact ⟨Ne.symm o2, Ne.symm o3, Ne.symm o4, Ne.symm o5⟩ | omega) (by omega) rfl (by omega) (.one hR (by omega) (by simpa using hb9)) ?_ ?_
        · intro k hk
          obtain ⟨k', hk', rfl⟩ := List.mem_map.mp hk
          have h1 := hps k' (List.mem_filter.mp hk').1
          have h2 := slice1_lt h1.1 (List.mem_filter.mp hk').2
          omega
        · rw [List.length_map]; exact Nat.le_trans (List.length_filter_le _ _) hpl
    · exact cb_retB hret (hend i ps hR (by omega)) (by assumption) (cb_drop (by assumption) (fun p hp => List.mem_append_right [_, _, _, _, _] hp))
end Mine
end FitsC

section ListR
open PySem PySem.W PyProof.Rows
namespace Mine
abbrev lobj (vs : List Value) (n : Nat) : Obj := { cls := .type "list", data := .seq vs.toArray n }
section
variable {prog : Program} {w : World} {A : Around} {E : Value → Shared → Prop} {s : Shared} {h₀ : Heap} {L l : Addr} {m : Str → Option Value} {news news' : List (Addr × Obj)} {n : Nat} {u : Tok}
theorem lobj_list {vs : List Value} (N : News h₀ L s.heap news) (hm : (l, lobj vs n) ∈ news) : s.heap.IsList l vs.toArray := ⟨_, (N _ hm).1, rfl, n, rfl⟩
theorem len_led {vs : List Value} {Q : Value → Shared → Prop} (N : News h₀ L s.heap news) (hm : (l, lobj vs n) ∈ news) (hfit : vs.length < 2 ^ 62) (h : Q (.int (vs.length : Int) (s.toks + 1)) { s with toks := s.toks + 1 + 1 }) :
    wpAny (model prog w) A (call (.builtin "len") [.ref l]) Q E s := by
  have e : (vs.toArray.size : Int) = (vs.length : Int) := by simp
  exact len_list (lobj_list N hm) (by rw [e]; omega) (by rw [e]; exact h)
theorem item0_led {value slice : Expr} {v : Value} {vs : List Value} {Q : Value → Shared → Prop} (N : News h₀ L s.heap news) (hm : (l, lobj (v :: vs) n) ∈ news) (h : Q v s)
    (hs : subscripted slice false (.ref l) (.int 0 u) = operate [.ref l, .int 0 u] (getItem (.ref l) (.int 0 u)) := by with_unfolding_all rfl) : wpAny (model prog w) A (subscriptTail value slice (.ref l) (.int 0 u)) Q E s :=
  tail_any (lobj_list N hm).typeIs slot_list_getitem.lookup (wpAny_getItem_list (lobj_list N hm) (by decide) (by decide) (by simp) h) hs
theorem itemN_led {value slice : Expr} {v : Value} {vs : List Value} {Q : Value → Shared → Prop} (N : News h₀ L s.heap news) (hm : (l, lobj (vs ++ [v]) n) ∈ news) (h : Q v s)
    (hs : subscripted slice false (.ref l) (.int (-1) u) = operate [.ref l, .int (-1) u] (getItem (.ref l) (.int (-1) u)) := by with_unfolding_all rfl) : wpAny (model prog w) A (subscriptTail value slice (.ref l) (.int (-1) u)) Q E s :=
  tail_any (lobj_list N hm).typeIs slot_list_getitem.lookup (wpAny_getItem_list_neg (lobj_list N hm) (by decide) (by simp; omega) (by decide) (by
    have e : ((-1 : Int) + (((vs ++ [v]).toArray.size : Nat) : Int)).toNat = vs.length := by simp; omega
    rw [e]; simp) h) hs
theorem itemN1_led {value slice : Expr} {v a : Value} {vs : List Value} {Q : Value → Shared → Prop} (N : News h₀ L s.heap news) (hm : (l, lobj (a :: (vs ++ [v])) n) ∈ news) (h : Q v s)
    (hs : subscripted slice false (.ref l) (.int (-1) u) = operate [.ref l, .int (-1) u] (getItem (.ref l) (.int (-1) u)) := by with_unfolding_all rfl) : wpAny (model prog w) A (subscriptTail value slice (.ref l) (.int (-1) u)) Q E s :=
  itemN_led (vs := a :: vs) N hm h hs
theorem delL_last (v : Value) : ∀ vs : List Value, ki_delL (vs ++ [v]) vs.length = some vs
  | [] => rfl
  | x :: r => by
    have e := delL_last v r
    show (match ki_delL (r ++ [v]) r.length with | some q => some (x :: q) | none => none) = some (x :: r)
    rw [e]
theorem del0_led {v : Value} {vs : List Value} {Q : Unit → Shared → Prop} (F : Fr h₀ L s.heap m) (N : News h₀ L s.heap news) (U : Upd l (lobj (v :: vs) n) (lobj vs (n + 1)) news news') (hz : (v :: vs).length ≤ sizeLine)
    (h : ∀ h', Fr h₀ L h' m → News h₀ L h' news' → Q () { s with heap := h' }) : wpAny (model prog w) A (delItem (.ref l) (.int 0 u)) Q E s :=
  ki_del (its := (v :: vs).toArray) (k := 0) (q := vs) F N (by decide) (by simp [seqIndex?]) rfl U (by simpa using hz) h
theorem delN_led {v : Value} {vs : List Value} {Q : Unit → Shared → Prop} (F : Fr h₀ L s.heap m) (N : News h₀ L s.heap news) (U : Upd l (lobj (vs ++ [v]) n) (lobj vs (n + 1)) news news') (hz : (vs ++ [v]).length ≤ sizeLine)
    (h : ∀ h', Fr h₀ L h' m → News h₀ L h' news' → Q () { s with heap := h' }) : wpAny (model prog w) A (delItem (.ref l) (.int (-1) u)) Q E s :=
  ki_del (its := (vs ++ [v]).toArray) (k := vs.length) (q := vs) F N (by decide) (by simp [seqIndex?]; omega) (by simpa using delL_last v vs) U (by simpa using hz) h
theorem delN1_led {v a : Value} {vs : List Value} {Q : Unit → Shared → Prop} (F : Fr h₀ L s.heap m) (N : News h₀ L s.heap news) (U : Upd l (lobj (a :: (vs ++ [v])) n) (lobj (a :: vs) (n + 1)) news news') (hz : (a :: (vs ++ [v])).length ≤ sizeLine)
    (h : ∀ h', Fr h₀ L h' m → News h₀ L h' news' → Q () { s with heap := h' }) : wpAny (model prog w) A (delItem (.ref l) (.int (-1) u)) Q E s :=
  delN_led (vs := a :: vs) F N U hz h
theorem split_led {x y : Str} {t : Tok} {Q : Value → Shared → Prop} (F : Fr h₀ L s.heap m) (N : News h₀ L s.heap news) (hy : (y.length == 0) = false)
    (h : ∀ D l h' k, (∀ p ∈ news, p.1 < D) → l.map (·.1) = Txt.split x y → Fr h₀ L h' m → News h₀ L h' ((D, lobj (strValues l) 0) :: news) → Q (.ref D) { s with heap := h', toks := k })
    (hsz : x.length + 2 ≤ sizeLine := by size_fits) : wpAny (model prog w) A (call (.builtin "str.split") [.str x t, .str y u]) Q E s :=
  splitN1 F N hy (fun l h' k e F' N' => h _ l h' k (fun p hp => Heap.lt_size (N p hp).1) e F' N') hsz
end
end Mine
end ListR

section Loop
open PySem PySem.W PyProof.Rows
namespace Mine
open PySem.Calls
def FStep (h₀ : Heap) (L : Addr) (s : Shared) (I : Addr) (oI : Obj) (J : (Str → Option Value) → List (Addr × Obj) → Prop) (Q : Flow → Shared → Prop) (f : Flow) (s₃ : Shared) : Prop :=
  match f with
  | .ret v => Q (.ret v) s₃
  | .brk => Q .next s₃
  | _ => ∃ h' tk m' nx', s₃ = { s with heap := h', toks := tk } ∧ Fr h₀ L h' m' ∧ News h₀ L h' ((I, oI) :: nx') ∧ (∀ p ∈ nx', p.1 ≠ I) ∧ J m' nx'
theorem FStep.intro {h₀ : Heap} {L : Addr} {s : Shared} {I : Addr} {oI : Obj} {J : (Str → Option Value) → List (Addr × Obj) → Prop} {Q : Flow → Shared → Prop} {h' : Heap} {tk : Nat} {m' : Str → Option Value} {all nx' : List (Addr × Obj)}
    (F : Fr h₀ L h' m') (N : News h₀ L h' all) (sub : ∀ p ∈ (I, oI) :: nx', p ∈ all) (ne : ∀ p ∈ nx', p.1 ≠ I) (j : J m' nx') : FStep h₀ L s I oI J Q .next { s with heap := h', toks := tk } :=
  ⟨h', tk, m', nx', rfl, F, fun p hp => N p (sub p hp), ne, j⟩
def ForSrc (prog : Program) (w : World) (A : Around) (E : Value → Shared → Prop) (h₀ : Heap) (env : Env) (target : Expr) (body : List Stmt) (J : Nat → (Str → Option Value) → List (Addr × Obj) → Prop) (Q : Flow → Shared → Prop) (xv : Value) (s₁ : Shared) : Prop :=
  ∃ (l : Addr) (vs : List Value) (nn : Nat) (m : Str → Option Value) (news : List (Addr × Obj)), xv = .ref l ∧ A.handled = none ∧ Fr h₀ env.locals s₁.heap m ∧ News h₀ env.locals s₁.heap news ∧ J 0 m news ∧
    (∀ i m nx, J i m nx → (l, listOf vs.toArray nn) ∈ nx) ∧
    (∀ i v m₁ nx h tk I oI, vs[i]? = some v → J i m₁ nx → (∀ p ∈ nx, p.1 ≠ I) → Fr h₀ env.locals h m₁ → News h₀ env.locals h ((I, oI) :: nx) →
      wpAny (model prog w) A (assign target env v) (fun _ s₃ => wpAny (model prog w) A (execs body env) (FStep h₀ env.locals s₁ I oI (J (i + 1)) Q) E s₃) E { s₁ with heap := h, toks := tk }) ∧
    (∀ m₁ nx h tk, J vs.length m₁ nx → Fr h₀ env.locals h m₁ → News h₀ env.locals h nx → Q .next { s₁ with heap := h, toks := tk })
theorem ForSrc.intro {prog : Program} {w : World} {A : Around} {E : Value → Shared → Prop} {h₀ : Heap} {env : Env} {target : Expr} {body : List Stmt} {J : Nat → (Str → Option Value) → List (Addr × Obj) → Prop} {Q : Flow → Shared → Prop} {s₁ : Shared} {l : Addr} (vs : List Value) {nn : Nat} {m : Str → Option Value} {news : List (Addr × Obj)}
    (hh : A.handled = none) (F : Fr h₀ env.locals s₁.heap m) (N : News h₀ env.locals s₁.heap news) (_hl : (l, listOf vs.toArray nn) ∈ news) (h0 : J 0 m news) (hJl : ∀ i m nx, J i m nx → (l, listOf vs.toArray nn) ∈ nx)
    (turn : ∀ i v m₁ nx h tk I oI, vs[i]? = some v → J i m₁ nx → (∀ p ∈ nx, p.1 ≠ I) → Fr h₀ env.locals h m₁ → News h₀ env.locals h ((I, oI) :: nx) →
      wpAny (model prog w) A (assign target env v) (fun _ s₃ => wpAny (model prog w) A (execs body env) (FStep h₀ env.locals s₁ I oI (J (i + 1)) Q) E s₃) E { s₁ with heap := h, toks := tk })
    (done : ∀ m₁ nx h tk, J vs.length m₁ nx → Fr h₀ env.locals h m₁ → News h₀ env.locals h nx → Q .next { s₁ with heap := h, toks := tk }) :
    ForSrc prog w A E h₀ env target body J Q (.ref l) s₁ := ⟨l, vs, nn, m, news, rfl, hh, F, N, h0, hJl, turn, done⟩
section
variable {prog : Program} {w : World} {A : Around} {E : Value → Shared → Prop} {s : Shared} {h₀ : Heap} {env : Env}
theorem fr_name {L : Addr} {h : Heap} {m : Str → Option Value} (F : Fr h₀ L h m) : ∃ m0, Fr h₀ L h m0 ∧ m0 = m := ⟨m, F, rfl⟩
theorem news_name {L : Addr} {h : Heap} {l : List (Addr × Obj)} (N : News h₀ L h l) : ∃ l0, News h₀ L h l0 ∧ l0 = l := ⟨l, N, rfl⟩
def ForAny (prog : Program) (w : World) (A : Around) (E : Value → Shared → Prop) (h₀ : Heap) (env : Env) (target : Expr) (body : List Stmt) (Q : Flow → Shared → Prop) (xv : Value) (s₁ : Shared) : Prop :=
  ∃ J, ForSrc prog w A E h₀ env target body J Q xv s₁
theorem ForAny.of {target : Expr} {body : List Stmt} {Q : Flow → Shared → Prop} {xv : Value} {s₁ : Shared} (J : Nat → (Str → Option Value) → List (Addr × Obj) → Prop) (h : ForSrc prog w A E h₀ env target body J Q xv s₁) : ForAny prog w A E h₀ env target body Q xv s₁ := ⟨J, h⟩
/-- where a loop over a list stands -/
inductive ForI (h₀ : Heap) (L I l : Addr) (vs : List Value) (s₁ : Shared) (J : Nat → (Str → Option Value) → List (Addr × Obj) → Prop) : Nat → Shared → Prop
  | mk (h' : Heap) (tk i : Nat) (m' : Str → Option Value) (nx : List (Addr × Obj)) (oI : Obj) (hi : i ≤ vs.length) (st1 : h'.IsListIter I l i) (st2 : h'.IsList l vs.toArray) (F : Fr h₀ L h' m') (N : News h₀ L h' ((I, oI) :: nx)) (off : ∀ p ∈ nx, p.1 ≠ I) (hJ : J i m' nx) :
    ForI h₀ L I l vs s₁ J (vs.length + 1 - i) { s₁ with heap := h', toks := tk }
theorem fr_iter {L I : Addr} {h' h₂ : Heap} {m' : Str → Option Value} {nx : List (Addr × Obj)} {oI : Obj} (hLI : L ≠ I) (hI₀ : h₀.get? I = none) (F : Fr h₀ L h' m') (N : News h₀ L h' ((I, oI) :: nx)) (off : ∀ p ∈ nx, p.1 ≠ I) (hk : ∀ b o, b ∉ [I] → h'.get? b = some o → h₂.get? b = some o) : Fr h₀ L h₂ m' ∧ News h₀ L h₂ nx :=
  have hk' : ∀ b o, b ≠ I → h'.get? b = some o → h₂.get? b = some o := fun b o hb => hk b o fun h => hb (List.mem_singleton.mp h)
  ⟨⟨F.ns.at' fun o e => hk' _ o hLI e, fun b o e => hk' b o (fun hb => by rw [hb, hI₀] at e; cases e) (F.keep b o e), F.above⟩,
    fun p hp => ⟨hk' _ _ (off p hp) (N p (.tail _ hp)).1, (N p (.tail _ hp)).2⟩⟩
theorem news_it {L I : Addr} {h : Heap} {nx : List (Addr × Obj)} {oI : Obj} (hLI : L ≠ I) (hI₀ : h₀.get? I = none) (e : h.get? I = some oI) (N : News h₀ L h nx) : News h₀ L h ((I, oI) :: nx) := fun p hp => by
  rcases List.mem_cons.mp hp with rfl | hp
  · exact ⟨e, Ne.symm hLI, hI₀⟩
  · exact N p hp
theorem For_led2 {Q : Flow → Shared → Prop} {target iter : Expr} {pos : Pos} {body : List Stmt} {m₀ : Str → Option Value} (_F : Fr h₀ env.locals s.heap m₀)
    (h : wpAny (model prog w) A (eval iter env) (ForAny prog w A E h₀ env target body Q) E s)
    (hs : ∀ x, foldedSetIterable iter env x = pure x := by intro _; rfl)
    (hE : PassesOwn (model prog w) A env E := by passes_own) :
    wpAny (model prog w) A (exec (.For target iter body [] pos) env) Q E s := by
  clear _F
  refine wpAny_For (wpAny_mono h (fun xv s₁ h₁ => ?_) fun _ _ e => e) hs
  obtain ⟨J, l, vs, nn, m, news, rfl, hh, F, N, h0, hJl, turn, done⟩ := h₁
  have hol : s₁.heap.get? l = some (listOf vs.toArray nn) := (N _ (hJl _ _ _ h0)).1
  have hls : s₁.heap.IsList l vs.toArray := ⟨_, hol, rfl, nn, rfl⟩
  have hne : l ≠ s₁.heap.objs.size := Nat.ne_of_lt (Heap.lt_size hol)
  refine wpAny_pyIter_list hls ?_
  have W := Walks.list (prog := prog) (w := w) hh s₁.heap.objs.size l hne vs.toArray
  have hI₀ : h₀.get? s₁.heap.objs.size = none := next_is_new F
  have hLI : env.locals ≠ s₁.heap.objs.size := Nat.ne_of_lt F.ns.lt
  have hNI : ∀ p ∈ news, p.1 ≠ s₁.heap.objs.size := fun p hp => Nat.ne_of_lt (Heap.lt_size (N p hp).1)
  have hnew : (s₁.heap.push { cls := .type "list_iterator", data := .fields #[.ref l, .int 0 0] }).get? s₁.heap.objs.size = some ({ cls := .type "list_iterator", data := .fields #[.ref l, .int 0 0] } : Obj) := Heap.get?_push_size _ rfl
  have hF : Fr h₀ env.locals (s₁.heap.push { cls := .type "list_iterator", data := .fields #[.ref l, .int 0 0] }) m := F.push _
  have hN : News h₀ env.locals (s₁.heap.push { cls := .type "list_iterator", data := .fields #[.ref l, .int 0 0] }) news := fun p hp => ⟨Heap.get?_push_of_some _ (N p hp).1, (N p hp).2⟩
  have hls' := hls.at fun o e => Heap.get?_push_of_some { cls := .type "list_iterator", data := .fields #[.ref l, .int 0 0] } e
  generalize (s₁.heap.push { cls := .type "list_iterator", data := .fields #[.ref l, .int 0 0] }) = H1 at hnew hF hN hls' ⊢
  generalize s₁.heap.objs.size = I at hne W hI₀ hLI hNI hnew ⊢
  refine codeAny_forLoop_any (ForI h₀ env.locals I l vs s₁ J) ?_ (vs.length + 1) (.mk H1 s₁.toks 0 m news _ (Nat.zero_le _) ⟨_, hnew, rfl, rfl⟩ hls' hF (news_it hLI hI₀ hnew hN) hNI h0)
  clear hol hls hF hN hls' hnew hNI h0 F N
  intro k s' hI
  cases hI with
  | mk h' tk i m' nx oI hi st1 st2 F' N' hoff hJ =>
  by_cases hlt : i < vs.length
  · refine W.item i _ _ _ (by rw [List.size_toArray]; exact hlt) ⟨st1, st2⟩ fun v h₂ tk₂ hP hst₂ hk₂ => ?_
    obtain ⟨F₂, N₂⟩ := fr_iter hLI hI₀ F' N' hoff hk₂
    refine letGo_listiter hst₂.1 ?_
    obtain ⟨oI₂, hoI₂, hoI₃⟩ := hst₂.1
    refine wpAny_mono (wpAny_passesOwn hE (turn i v m' nx h₂ tk₂ I oI₂ (by simpa using hP) hJ hoff F₂ (news_it hLI hI₀ hoI₂ N₂))) (fun _ s₃ h₃ => wpAny_mono (wpAny_passesOwn hE h₃) (fun f s₄ h₄ => ?_) fun _ _ e => e) fun _ _ e => e
    have fin : FStep h₀ env.locals s₁ I oI₂ (J (i + 1)) Q .next s₄ → ∃ m, m < vs.length + 1 - i ∧ ForI h₀ env.locals I l vs s₁ J m s₄ := by
      rintro ⟨h₄', tk₄, m₄, nx₄, rfl, F₄, N₄, off₄, J₄⟩
      exact ⟨vs.length + 1 - (i + 1), by omega, .mk h₄' tk₄ (i + 1) m₄ nx₄ oI₂ hlt ⟨oI₂, (N₄ _ (.head _)).1, hoI₃⟩ ⟨_, (N₄ _ (.tail _ (hJl _ _ _ J₄))).1, rfl, nn, rfl⟩ F₄ N₄ off₄ J₄⟩
    cases f with
    | ret v => exact h₄
    | brk => exact h₄
    | next => exact fin h₄
    | cont => exact fin h₄
  · obtain rfl : i = vs.length := Nat.le_antisymm hi (Nat.not_lt.mp hlt)
    refine W.done _ _ _ (by rw [List.size_toArray]; exact ⟨st1, st2⟩) fun h₂ tk₂ hk₂ => wpAny_execs_nil ?_
    obtain ⟨F₂, N₂⟩ := fr_iter hLI hI₀ F' N' hoff hk₂
    exact done m' nx h₂ tk₂ hJ F₂ N₂
theorem For_led {Q : Flow → Shared → Prop} {target iter : Expr} {pos : Pos} {body : List Stmt} {m₀ : Str → Option Value} (_F : Fr h₀ env.locals s.heap m₀) (J : Nat → (Str → Option Value) → List (Addr × Obj) → Prop)
    (h : wpAny (model prog w) A (eval iter env) (ForSrc prog w A E h₀ env target body J Q) E s)
    (hs : ∀ x, foldedSetIterable iter env x = pure x := by intro _; rfl)
    (hE : PassesOwn (model prog w) A env E := by passes_own) :
    wpAny (model prog w) A (exec (.For target iter body [] pos) env) Q E s :=
  For_led2 _F (wpAny_mono h (fun _ _ h₁ => ⟨J, h₁⟩) fun _ _ e => e) hs hE
end
end Mine
end Loop

section MatchC
open PySem PySem.W PyProof.Rows
namespace Mine
local macro_rules | `(tactic| walk_at "PAD") => `(tactic| fail "pad")
local macro_rules | `(tactic| units_room) => `(tactic| ktr_units)
local macro_rules | `(tactic| k_ne) => `(tactic| k_extra "NE")
local macro_rules | `(tactic| k_all) => `(tactic| k_extra "ALL")
theorem split_shape {l : List (Str × Tok)} {w0 wn : Str} {mid : List Str} (h : l.map (·.1) = w0 :: (mid ++ [wn])) : ∃ t0 lm tn, l = (w0, t0) :: (lm ++ [(wn, tn)]) ∧ lm.map (·.1) = mid := by
  cases l with
  | nil => cases h
  | cons p r =>
    obtain ⟨h1, h2⟩ := List.cons.inj h
    obtain ⟨a, b, hab, ha, hb⟩ := List.map_eq_append_iff.mp h2
    cases b with
    | nil => cases hb
    | cons q b' =>
      obtain ⟨h3, h4⟩ := List.cons.inj hb
      have : b' = [] := List.map_eq_nil_iff.mp h4
      subst this
      exact ⟨p.2, a, q.2, by rw [hab, ← h1, ← h3], ha⟩
theorem sv_shape (w0 : Str) (t0 : Tok) (lm : List (Str × Tok)) (wn : Str) (tn : Tok) : strValues ((w0, t0) :: (lm ++ [(wn, tn)])) = .str w0 t0 :: (strValues lm ++ [.str wn tn]) := by simp [strValues]
def midRun (got : Str) (e : Int) : List Str → Int → Bool
  | [], _ => true
  | w :: ws, s => if find4 got w s e < 0 then false else midRun got e ws (find4 got w s e + w.length)
def ellTail (got w0 : Str) (mid : List Str) (wn : Str) : Bool :=
  if w0.length ≠ 0 ∧ Txt.startswith got w0 = false then false
  else if wn.length ≠ 0 ∧ Txt.endswith got wn = false then false
  else if (if wn.length ≠ 0 then (got.length : Int) - wn.length else got.length) < (if w0.length ≠ 0 then (w0.length : Int) else 0) then false
  else midRun got (if wn.length ≠ 0 then (got.length : Int) - wn.length else got.length) ((if w0.length ≠ 0 then [] else [w0]) ++ mid ++ (if wn.length ≠ 0 then [] else [wn])) (if w0.length ≠ 0 then (w0.length : Int) else 0)
def ellS (w0 : Str) : Int := if w0.length ≠ 0 then (w0.length : Int) else 0
def ellE (got wn : Str) : Int := if wn.length ≠ 0 then (got.length : Int) - wn.length else got.length
theorem ell_f1 {y w0 : Str} {mid : List Str} {wn : Str} (h0 : (w0.length : Int) ≠ 0) (h1 : Txt.startswith y w0 = false) : false = ellTail y w0 mid wn := by
  unfold ellTail
  rw [if_pos ⟨by omega, h1⟩]
theorem ell_f2 {y w0 : Str} {mid : List Str} {wn : Str} (h0 : (wn.length : Int) ≠ 0) (h1 : Txt.endswith y wn = false) : false = ellTail y w0 mid wn := by
  unfold ellTail
  split
  · rfl
  · rw [if_pos ⟨by omega, h1⟩]
theorem ell_f3 {y w0 : Str} {mid : List Str} {wn : Str} {e s : Int} (he : e = ellE y wn) (hs : s = ellS w0) (h : e < s) : false = ellTail y w0 mid wn := by
  unfold ellTail
  split
  · rfl
  · split
    · rfl
    · rw [if_pos (by rw [he, hs] at h; exact h)]
theorem ell_run {y w0 : Str} {mid : List Str} {wn : Str} {e s : Int} {zs : List Str} (h1 : (w0.length : Int) = 0 ∨ Txt.startswith y w0 = true) (h2 : (wn.length : Int) = 0 ∨ Txt.endswith y wn = true) (he : e = ellE y wn) (hs : s = ellS w0)
    (hz : zs = (if w0.length ≠ 0 then [] else [w0]) ++ mid ++ (if wn.length ≠ 0 then [] else [wn])) (h : ¬ e < s) : midRun y e zs s = ellTail y w0 mid wn := by
  unfold ellTail
  rw [if_neg (by rintro ⟨a, b⟩; rcases h1 with h1 | h1; exact a (by omega); rw [h1] at b; cases b), if_neg (by rintro ⟨a, b⟩; rcases h2 with h2 | h2; exact a (by omega); rw [h2] at b; cases b), if_neg (by rw [he, hs] at h; exact h), hz, he, hs]
  rfl
theorem ellS_y {w0 : Str} (h : (w0.length : Int) ≠ 0) : (w0.length : Int) = ellS w0 := by unfold ellS; rw [if_pos (by omega)]
theorem ellS_n {w0 : Str} (h : (w0.length : Int) = 0) : 0 = ellS w0 := by unfold ellS; rw [if_neg (by omega)]
theorem ellE_y {y wn : Str} (h : (wn.length : Int) ≠ 0) : (y.length : Int) - wn.length = ellE y wn := by unfold ellE; rw [if_pos (by omega)]
theorem ellE_n {y wn : Str} (h : (wn.length : Int) = 0) : (y.length : Int) = ellE y wn := by unfold ellE; rw [if_neg (by omega)]
theorem zs_if {w0 : Str} (l : List Str) (h : (w0.length : Int) ≠ 0) : (if w0.length ≠ 0 then [] else l) = ([] : List Str) := by rw [if_pos (by omega)]
theorem zs_nif {w0 : Str} (l : List Str) (h : (w0.length : Int) = 0) : (if w0.length ≠ 0 then [] else l) = l := by rw [if_neg (by omega)]
theorem map5 {m0 : Str → Option Value} {a b : Str} {v1 v2 v3 v5 v6 : Option Value} : (fun z => if z = a then v1 else if z = a then v2 else if z = b then v3 else if z = a then v5 else if z = b then v6 else m0 z) = fun z => if z = a then v1 else if z = b then v3 else m0 z := by
  funext z
  by_cases h1 : z = a
  · simp [h1]
  · by_cases h2 : z = b
    · subst h2; simp [h1]
    · simp [h1, h2]
theorem sa_of : ∀ {l : List (Str × Tok)} {ys : List Str}, l.map (·.1) = ys → StrsAre (strValues l) ys
  | [], _, h => by subst h; exact .nil
  | p :: r, _, h => by subst h; exact .cons _ _ (sa_of rfl)
theorem sa_item : ∀ {vs : List Value} {ys : List Str} {i : Nat} {v : Value}, StrsAre vs ys → vs[i]? = some v → ∃ z t, v = .str z t ∧ ys[i]? = some z
  | _, _, 0, v, .cons y t _, h => by simp at h; exact ⟨y, t, h.symm, rfl⟩
  | _, _, i + 1, v, .cons _ _ r, h => by simpa using sa_item r (by simpa using h)
theorem two_names {m0 : Str → Option Value} {a b : Str} {v : Value} (h : m0 a = some v) : m0 = fun z => if z = a then some v else if z = b then m0 b else m0 z := by
  funext z
  by_cases h1 : z = a
  · subst h1; simp [h]
  · by_cases h2 : z = b
    · subst h2; simp [h1]
    · simp [h1, h2]
theorem drop_at {ys : List Str} {i : Nat} {z : Str} (h : ys[i]? = some z) : ys.drop i = z :: ys.drop (i + 1) := by
  obtain ⟨hi, rfl⟩ := List.getElem?_eq_some_iff.mp h
  exact List.drop_eq_getElem_cons hi
set_option maxRecDepth 100000 in
set_option maxHeartbeats 4000000 in
theorem match_con (x y : Str) (t u : Tok) (w0 : Str) (mid : List Str) (wn : Str) (hs : Txt.split x (Str.ofString "...") = w0 :: (mid ++ [wn])) (hne : (Builtin.Str.occurrences x (Str.ofString "...") 0 x.length 1).isEmpty = false)
    (hw0 : w0.length ≤ 1000) (hwn : wn.length ≤ 1000) (hmn : mid.length ≤ 1000) (hmL : ∀ z ∈ mid, z.length ≤ 1000) : Con 46 (x.length ≤ 1000 ∧ y.length ≤ 1000) [.str x t, .str y u] (fun _ => .bool (ellTail y w0 mid wn)) := by
  unfold Con
  k_with_none
  w_top off
  k_fill
  (k_with "ALL" => refine Mine.all_ne (by assumption) (by omega))
  (k_with "NE" => (refine neN ?_; (try dsimp only); with_reducible (first | assumption | exact Ne.symm (by assumption) | exact Nat.ne_of_lt (by assumption) | exact Nat.ne_of_gt (by assumption) | k_extra "CONJNE")))
  (k_with "CONJNE" => (rename (@LT.lt Nat _ _ _ ∧ _) => q; first | exact Nat.ne_of_gt q.1 | (replace q := And.right q; k_extra "CONJNE")))
  intro w mean mg mb news
  intros
  rename_i hret
  rename_i hpre _ _
  obtain ⟨hx, hy⟩ := hpre
  refine wpAny_call ?_
  cell_enter
  (k_with "call builtin:str.split" => ((refine split_led (by k_asm) (by k_asm) (by rfl) ?_); intro D l h' k' hD e' F' N'; (obtain ⟨t0, lm, tn, rfl, hlm⟩ := split_shape (e'.trans hs)); clear e'; rw [sv_shape] at N'; (have hsl : (strValues lm).length ≤ 1000 := by (have := congrArg List.length hlm; simp [strValues] at this ⊢; omega))))
  (k_with "call builtin:len" => ((refine len_led (by k_asm) (by k_mem) ?_ ?_); (case _ => (simp only [List.length_cons, List.length_append, List.length_nil]; omega)); (simp only [List.length_cons, List.length_append, List.length_nil])))
  (k_with "subscriptTail Name Constant ref int" => ((with_reducible show wpAny _ _ (subscriptTail _ _ (Value.ref _) (Value.int 0 _)) _ _ _); refine' item0_led ?iN ?im ?_ ?is; (case iN => k_asm); (case im => k_mem); (case is => with_unfolding_all rfl)))
  (k_with "subscriptTail Name UnaryOp ref int" => ((with_reducible show wpAny _ _ (subscriptTail _ _ (Value.ref _) (Value.int (-1) _)) _ _ _); first | (refine' itemN1_led ?iN ?im ?_ ?is; (case iN => k_asm); (case im => k_mem); (case is => with_unfolding_all rfl)) | (refine' itemN_led ?iN ?im ?_ ?is; (case iN => k_asm); (case im => k_mem); (case is => with_unfolding_all rfl))))
  (k_with "delItem ref int" => first | ((with_reducible show wpAny _ _ (delItem (Value.ref _) (Value.int 0 _)) _ _ _); refine' del0_led ?dF ?dN ?dU ?dz ?_; (case dF => k_asm); (case dN => k_asm); (case dU => k_upd); (case dz => (simp only [List.length_cons, List.length_append, List.length_nil]; rw [sizeLine_eq]; omega)); k_whole; intro h' F' N') | ((with_reducible show wpAny _ _ (delItem (Value.ref _) (Value.int (-1) _)) _ _ _); refine' delN1_led ?dF ?dN ?dU ?dz ?_; (case dF => k_asm); (case dN => k_asm); (case dU => k_upd); (case dz => (simp only [List.length_cons, List.length_append, List.length_nil]; rw [sizeLine_eq]; omega)); k_whole; intro h' F' N') | ((with_reducible show wpAny _ _ (delItem (Value.ref _) (Value.int (-1) _)) _ _ _); refine' delN_led ?dF ?dN ?dU ?dz ?_; (case dF => k_asm); (case dN => k_asm); (case dU => k_upd); (case dz => (simp only [List.length_cons, List.length_append, List.length_nil]; rw [sizeLine_eq]; omega)); k_whole; intro h' F' N'))
  k_steps
  (k_with "call builtin:str.find" => refine Mine.call_find4 ?_)
  · exact cb_retB hret (ell_f3 (ellE_y (by assumption)) (ellS_y (by assumption)) (by assumption)) (by assumption) (cb_drop (by assumption) (fun p hp => .tail _ (.tail _ hp)))
  · rename Fr _ _ _ _ => F0
    rename News _ _ _ _ => N0
    obtain ⟨m0, F1, hm0⟩ := fr_name F0
    obtain ⟨l0, N1, hl0⟩ := news_name N0
    clear F0 N0
    have hzS : StrsAre (strValues lm) (mid) := sa_of hlm
    have hzL : ∀ z ∈ mid, z.length ≤ 1000 := by
      intro z hz
      try simp only [List.mem_cons, List.mem_append, List.not_mem_nil, or_false] at hz
      first | exact hmL z hz | (rcases hz with rfl | hz; exact hw0; exact hmL z hz) | (rcases hz with hz | rfl; exact hmL z hz; exact hwn) | (rcases hz with rfl | hz | rfl; exact hw0; exact hmL z hz; exact hwn)
    refine For_led F1 (fun i m nx => nx = l0 ∧ ∃ (sp : Int) (tsp : Tok) (vw : Option Value), m = (fun z => if z = Str.ofString "startpos" then some (.int sp tsp) else if z = Str.ofString "w" then vw else m0 z) ∧ midRun y ((y.length : Int) - wn.length) ((mid).drop i) sp = ellTail y w0 mid wn) ?_ (by intro _; rfl) (by passes_own)
    subst hm0 hl0
    try dsimp only
    try k_fold
    k_steps
    refine ForSrc.intro (strValues lm) (by rfl) (by k_asm) (by assumption) (by k_mem) ⟨rfl, _, _, _, two_names (a := Str.ofString "startpos") (b := Str.ofString "w") rfl, ?_⟩ ?_ ?_ ?_
    · exact ell_run (.inr (by assumption)) (.inr (by assumption)) (ellE_y (by assumption)) (ellS_y (by assumption)) (by rw [zs_if _ (by assumption), zs_if _ (by assumption)]; simp) (by assumption)
    · rintro i m nx ⟨rfl, -⟩; k_mem
    · rintro i v m₁ nx hh tkk I oI hv ⟨rfl, sp, tsp, vw, rfl, hrun⟩ hI F9 N9
      obtain ⟨z, tz, rfl, hz⟩ := sa_item hzS hv
      rw [drop_at hz] at hrun
      have hzl : z.length ≤ 1000 := hzL z (List.mem_of_getElem? hz)
      try dsimp only
      try k_fold
      k_steps
      · unfold FStep; dsimp only
        k_steps
        refine cb_retB hret ?_ (by assumption) (cb_drop (by assumption) (fun p hp => .tail _ (.tail _ (.tail _ hp))))
        have hlt9 : find4 y z sp ((y.length : Int) - wn.length) < 0 := by assumption
        rw [← hrun]; unfold midRun; rw [if_pos hlt9]
      · refine FStep.intro (by k_asm) (by assumption) (fun p hp => hp) hI ⟨rfl, _, _, _, map5, ?_⟩
        have hlt9 : ¬ find4 y z sp ((y.length : Int) - wn.length) < 0 := by assumption
        rw [← hrun]; conv => rhs; unfold midRun
        rw [if_neg hlt9]
    · rintro m₁ nx hh tkk ⟨rfl, sp, tsp, vw, rfl, hrun⟩ F9 N9
      try dsimp only
      try k_fold
      k_steps
      refine cb_retB hret ?_ (by assumption) (cb_drop (by assumption) (fun p hp => .tail _ (.tail _ hp)))
      rw [← hrun, List.drop_of_length_le (by rw [hzS.length]; exact Nat.le_refl _)]; rfl
  · exact cb_retB hret (ell_f2 (by assumption) (by assumption)) (by assumption) (cb_drop (by assumption) (fun p hp => .tail _ (.tail _ hp)))
  · exact cb_retB hret (ell_f3 (ellE_n (by assumption)) (ellS_y (by assumption)) (by assumption)) (by assumption) (cb_drop (by assumption) (fun p hp => .tail _ (.tail _ hp)))
  · rename Fr _ _ _ _ => F0
    rename News _ _ _ _ => N0
    obtain ⟨m0, F1, hm0⟩ := fr_name F0
    obtain ⟨l0, N1, hl0⟩ := news_name N0
    clear F0 N0
    have hzS : StrsAre (strValues lm ++ [.str wn tn]) (mid ++ [wn]) := StrsAre.append' (sa_of hlm) (.cons _ _ .nil)
    have hzL : ∀ z ∈ mid ++ [wn], z.length ≤ 1000 := by
      intro z hz
      try simp only [List.mem_cons, List.mem_append, List.not_mem_nil, or_false] at hz
      first | exact hmL z hz | (rcases hz with rfl | hz; exact hw0; exact hmL z hz) | (rcases hz with hz | rfl; exact hmL z hz; exact hwn) | (rcases hz with rfl | hz | rfl; exact hw0; exact hmL z hz; exact hwn)
    refine For_led F1 (fun i m nx => nx = l0 ∧ ∃ (sp : Int) (tsp : Tok) (vw : Option Value), m = (fun z => if z = Str.ofString "startpos" then some (.int sp tsp) else if z = Str.ofString "w" then vw else m0 z) ∧ midRun y ((y.length : Int)) ((mid ++ [wn]).drop i) sp = ellTail y w0 mid wn) ?_ (by intro _; rfl) (by passes_own)
    subst hm0 hl0
    try dsimp only
    try k_fold
    k_steps
    refine ForSrc.intro (strValues lm ++ [.str wn tn]) (by rfl) (by k_asm) (by assumption) (by k_mem) ⟨rfl, _, _, _, two_names (a := Str.ofString "startpos") (b := Str.ofString "w") rfl, ?_⟩ ?_ ?_ ?_
    · exact ell_run (.inr (by assumption)) (.inl (by assumption)) (ellE_n (by assumption)) (ellS_y (by assumption)) (by rw [zs_if _ (by assumption), zs_nif _ (by assumption)]; simp) (by assumption)
    · rintro i m nx ⟨rfl, -⟩; k_mem
    · rintro i v m₁ nx hh tkk I oI hv ⟨rfl, sp, tsp, vw, rfl, hrun⟩ hI F9 N9
      obtain ⟨z, tz, rfl, hz⟩ := sa_item hzS hv
      rw [drop_at hz] at hrun
      have hzl : z.length ≤ 1000 := hzL z (List.mem_of_getElem? hz)
      try dsimp only
      try k_fold
      k_steps
      · unfold FStep; dsimp only
        k_steps
        refine cb_retB hret ?_ (by assumption) (cb_drop (by assumption) (fun p hp => .tail _ (.tail _ (.tail _ hp))))
        have hlt9 : find4 y z sp ((y.length : Int)) < 0 := by assumption
        rw [← hrun]; unfold midRun; rw [if_pos hlt9]
      · refine FStep.intro (by k_asm) (by assumption) (fun p hp => hp) hI ⟨rfl, _, _, _, map5, ?_⟩
        have hlt9 : ¬ find4 y z sp ((y.length : Int)) < 0 := by assumption
        rw [← hrun]; conv => rhs; unfold midRun
        rw [if_neg hlt9]
    · rintro m₁ nx hh tkk ⟨rfl, sp, tsp, vw, rfl, hrun⟩ F9 N9
      try dsimp only
      try k_fold
      k_steps
      refine cb_retB hret ?_ (by assumption) (cb_drop (by assumption) (fun p hp => .tail _ (.tail _ hp)))
      rw [← hrun, List.drop_of_length_le (by rw [hzS.length]; exact Nat.le_refl _)]; rfl
  · exact cb_retB hret (ell_f1 (by assumption) (by assumption)) (by assumption) (cb_drop (by assumption) (fun p hp => .tail _ (.tail _ hp)))
  · exact cb_retB hret (ell_f3 (ellE_y (by assumption)) (ellS_n (by assumption)) (by assumption)) (by assumption) (cb_drop (by assumption) (fun p hp => .tail _ (.tail _ hp)))
  · rename Fr _ _ _ _ => F0
    rename News _ _ _ _ => N0
    obtain ⟨m0, F1, hm0⟩ := fr_name F0
    obtain ⟨l0, N1, hl0⟩ := news_name N0
    clear F0 N0
    have hzS : StrsAre (Value.str w0 t0 :: strValues lm) (w0 :: mid) := .cons _ _ (sa_of hlm)
    have hzL : ∀ z ∈ w0 :: mid, z.length ≤ 1000 := by
      intro z hz
      try simp only [List.mem_cons, List.mem_append, List.not_mem_nil, or_false] at hz
      first | exact hmL z hz | (rcases hz with rfl | hz; exact hw0; exact hmL z hz) | (rcases hz with hz | rfl; exact hmL z hz; exact hwn) | (rcases hz with rfl | hz | rfl; exact hw0; exact hmL z hz; exact hwn)
    refine For_led F1 (fun i m nx => nx = l0 ∧ ∃ (sp : Int) (tsp : Tok) (vw : Option Value), m = (fun z => if z = Str.ofString "startpos" then some (.int sp tsp) else if z = Str.ofString "w" then vw else m0 z) ∧ midRun y ((y.length : Int) - wn.length) ((w0 :: mid).drop i) sp = ellTail y w0 mid wn) ?_ (by intro _; rfl) (by passes_own)
    subst hm0 hl0
    try dsimp only
    try k_fold
    k_steps
    refine ForSrc.intro (Value.str w0 t0 :: strValues lm) (by rfl) (by k_asm) (by assumption) (by k_mem) ⟨rfl, _, _, _, two_names (a := Str.ofString "startpos") (b := Str.ofString "w") rfl, ?_⟩ ?_ ?_ ?_
    · exact ell_run (.inl (by assumption)) (.inr (by assumption)) (ellE_y (by assumption)) (ellS_n (by assumption)) (by rw [zs_nif _ (by assumption), zs_if _ (by assumption)]; simp) (by assumption)
    · rintro i m nx ⟨rfl, -⟩; k_mem
    · rintro i v m₁ nx hh tkk I oI hv ⟨rfl, sp, tsp, vw, rfl, hrun⟩ hI F9 N9
      obtain ⟨z, tz, rfl, hz⟩ := sa_item hzS hv
      rw [drop_at hz] at hrun
      have hzl : z.length ≤ 1000 := hzL z (List.mem_of_getElem? hz)
      try dsimp only
      try k_fold
      k_steps
      · unfold FStep; dsimp only
        k_steps
        refine cb_retB hret ?_ (by assumption) (cb_drop (by assumption) (fun p hp => .tail _ (.tail _ (.tail _ hp))))
        have hlt9 : find4 y z sp ((y.length : Int) - wn.length) < 0 := by assumption
        rw [← hrun]; unfold midRun; rw [if_pos hlt9]
      · refine FStep.intro (by k_asm) (by assumption) (fun p hp => hp) hI ⟨rfl, _, _, _, map5, ?_⟩
        have hlt9 : ¬ find4 y z sp ((y.length : Int) - wn.length) < 0 := by assumption
        rw [← hrun]; conv => rhs; unfold midRun
        rw [if_neg hlt9]
    · rintro m₁ nx hh tkk ⟨rfl, sp, tsp, vw, rfl, hrun⟩ F9 N9
      try dsimp only
      try k_fold
      k_steps
      refine cb_retB hret ?_ (by assumption) (cb_drop (by assumption) (fun p hp => .tail _ (.tail _ hp)))
      rw [← hrun, List.drop_of_length_le (by rw [hzS.length]; exact Nat.le_refl _)]; rfl
  · exact cb_retB hret (ell_f2 (by assumption) (by assumption)) (by assumption) (cb_drop (by assumption) (fun p hp => .tail _ (.tail _ hp)))
  · rename Fr _ _ _ _ => F0
    rename News _ _ _ _ => N0
    obtain ⟨m0, F1, hm0⟩ := fr_name F0
    obtain ⟨l0, N1, hl0⟩ := news_name N0
    clear F0 N0
    have hzS : StrsAre (Value.str w0 t0 :: (strValues lm ++ [.str wn tn])) (w0 :: (mid ++ [wn])) := .cons _ _ (StrsAre.append' (sa_of hlm) (.cons _ _ .nil))
    have hzL : ∀ z ∈ w0 :: (mid ++ [wn]), z.length ≤ 1000 := by
      intro z hz
      try simp only [List.mem_cons, List.mem_append, List.not_mem_nil, or_false] at hz
      first | exact hmL z hz | (rcases hz with rfl | hz; exact hw0; exact hmL z hz) | (rcases hz with hz | rfl; exact hmL z hz; exact hwn) | (rcases hz with rfl | hz | rfl; exact hw0; exact hmL z hz; exact hwn)
    refine For_led F1 (fun i m nx => nx = l0 ∧ ∃ (sp : Int) (tsp : Tok) (vw : Option Value), m = (fun z => if z = Str.ofString "startpos" then some (.int sp tsp) else if z = Str.ofString "w" then vw else m0 z) ∧ midRun y ((y.length : Int)) ((w0 :: (mid ++ [wn])).drop i) sp = ellTail y w0 mid wn) ?_ (by intro _; rfl) (by passes_own)
    subst hm0 hl0
    try dsimp only
    try k_fold
    k_steps
    refine ForSrc.intro (Value.str w0 t0 :: (strValues lm ++ [.str wn tn])) (by rfl) (by k_asm) (by assumption) (by k_mem) ⟨rfl, _, _, _, two_names (a := Str.ofString "startpos") (b := Str.ofString "w") rfl, ?_⟩ ?_ ?_ ?_
    · exact ell_run (.inl (by assumption)) (.inl (by assumption)) (ellE_n (by assumption)) (ellS_n (by assumption)) (by rw [zs_nif _ (by assumption), zs_nif _ (by assumption)]; simp) (by omega)
    · rintro i m nx ⟨rfl, -⟩; k_mem
    · rintro i v m₁ nx hh tkk I oI hv ⟨rfl, sp, tsp, vw, rfl, hrun⟩ hI F9 N9
      obtain ⟨z, tz, rfl, hz⟩ := sa_item hzS hv
      rw [drop_at hz] at hrun
      have hzl : z.length ≤ 1000 := hzL z (List.mem_of_getElem? hz)
      try dsimp only
      try k_fold
      k_steps
      · unfold FStep; dsimp only
        k_steps
        refine cb_retB hret ?_ (by assumption) (cb_drop (by assumption) (fun p hp => .tail _ (.tail _ (.tail _ hp))))
        have hlt9 : find4 y z sp ((y.length : Int)) < 0 := by assumption
        rw [← hrun]; unfold midRun; rw [if_pos hlt9]
      · refine FStep.intro (by k_asm) (by assumption) (fun p hp => hp) hI ⟨rfl, _, _, _, map5, ?_⟩
        have hlt9 : ¬ find4 y z sp ((y.length : Int)) < 0 := by assumption
        rw [← hrun]; conv => rhs; unfold midRun
        rw [if_neg hlt9]
    · rintro m₁ nx hh tkk ⟨rfl, sp, tsp, vw, rfl, hrun⟩ F9 N9
      try dsimp only
      try k_fold
      k_steps
      refine cb_retB hret ?_ (by assumption) (cb_drop (by assumption) (fun p hp => .tail _ (.tail _ hp)))
      rw [← hrun, List.drop_of_length_le (by rw [hzS.length]; exact Nat.le_refl _)]; rfl
set_option maxRecDepth 100000 in
set_option maxHeartbeats 1600000 in
theorem match_con0 (x y : Str) (t u : Tok) (hne : (Builtin.Str.occurrences x (Str.ofString "...") 0 x.length 1).isEmpty = true) : Con 46 (x.length ≤ 1000 ∧ y.length ≤ 1000) [.str x t, .str y u] (fun _ => .bool (x == y)) := by
  unfold Con
  k_fill
  (k_with "ALL" => refine Mine.all_ne (by assumption) (by omega))
  (k_with "NE" => (refine neN ?_; (try dsimp only); with_reducible (first | assumption | exact Ne.symm (by assumption) | exact Nat.ne_of_lt (by assumption) | exact Nat.ne_of_gt (by assumption) | k_extra "CONJNE")))
  (k_with "CONJNE" => (rename (@LT.lt Nat _ _ _ ∧ _) => q; first | exact Nat.ne_of_gt q.1 | (replace q := And.right q; k_extra "CONJNE")))
  intro w mean mg mb news
  intros
  rename_i hret
  rename_i hpre _ _
  obtain ⟨hx, hy⟩ := hpre
  refine wpAny_call ?_
  cell_enter
  k_steps
  all_goals exact cb_retB hret rfl (by assumption) (by assumption)
end Mine
end MatchC

section L1
open PySem PySem.W PyProof.Rows
namespace Mine
open PySem.Calls Builtin Builtin.ObjectAttr
set_option maxRecDepth 100000
set_option maxHeartbeats 1600000
abbrev ddObj (dx : Addr) (es : Array DictEntry) (n : Nat) : Obj := { cls := .ref 122, dict := some dx, data := .dict es n, slots := #[some (.type "list")] }
section
variable {w : World} {h : Heap} {prog : Program}
theorem lk_init (X : (hd.heap_39 w.params).In h) : Looks (model prog w) h (typeLookup (.ref 122) "__init__") (some (.builtin "collections.defaultdict.__init__")) :=
  looks_findIn X (by kernel_rfl)
theorem lk_made (X : (hd.heap_39 w.params).In h) : Looks (model prog w) h (Bind.madeBy (.ref 122)) (some "dict.__new__") :=
  Looks.of_peek X (by kernel_rfl)
theorem lk_base (X : (hd.heap_39 w.params).In h) : Looks (model prog w) h (Bind.staticBase (.ref 122)) (.ref 122) :=
  Looks.of_peek X (by kernel_rfl)
theorem lk_call (X : (hd.heap_39 w.params).In h) : Looks (model prog w) h (specialOf (.ref 122) "__call__") (some (.builtin "type.__call__")) :=
  Looks.of_peek X (by kernel_rfl)
theorem lk_type (X : (hd.heap_39 w.params).In h) : Looks (model prog w) h (isInstance (.ref 122) (.type "type")) true :=
  Looks.of_peek X (by kernel_rfl)
theorem lk_isT (X : (hd.heap_39 w.params).In h) : Looks (model prog w) h (isType (.ref 122)) true :=
  Looks.of_peek X (by kernel_rfl)
theorem lk_self (X : (hd.heap_39 w.params).In h) : Looks (model prog w) h (isSubtype (.ref 122) (.ref 122)) true :=
  Looks.of_peek X (by kernel_rfl)
theorem lk_subd (X : (hd.heap_39 w.params).In h) : Looks (model prog w) h (isSubtype (.ref 122) (.type "dict")) true :=
  Looks.of_peek X (by kernel_rfl)
theorem lk_subdd (X : (hd.heap_39 w.params).In h) : Looks (model prog w) h (isSubtype (.ref 122) (.type "collections.defaultdict")) true :=
  Looks.of_peek X (by kernel_rfl)
theorem lk_mro (X : (hd.heap_39 w.params).In h) : Looks (model prog w) h (mroOf (.ref 122)) [.ref 122, .type "collections.defaultdict", .type "dict", .type "object"] :=
  Looks.of_peek X (by kernel_rfl)
theorem lk_del (X : (hd.heap_39 w.params).In h) : Looks (model prog w) h (classHasDel 122) false :=
  Looks.of_peek X (by kernel_rfl)
theorem e_dnew : entryFor table "dict.__new__" = some Builtin.«dict.__new__» := entryFor_of_tree (by kernel_rfl)
theorem e_ddinit : entryFor table "collections.defaultdict.__init__" = some Builtin.«collections.defaultdict.__init__» := entryFor_of_tree (by kernel_rfl)
theorem e_dinit : entryFor table "dict.__init__" = some Builtin.«dict.__init__» := entryFor_of_tree (by kernel_rfl)
theorem k_dnew : builtinKind "dict.__new__" = some .builtinFn := by decide +kernel
theorem k_ddinit : builtinKind "collections.defaultdict.__init__" = some .slot := by decide +kernel
theorem k_dinit : builtinKind "dict.__init__" = some .slot := by decide +kernel
theorem s_dnew : splitId "dict.__new__" = some ("dict", "__new__") := by decide +kernel
theorem s_ddinit : splitId "collections.defaultdict.__init__" = some ("collections.defaultdict", "__init__") := by decide +kernel
theorem s_dinit : splitId "dict.__init__" = some ("dict", "__init__") := by decide +kernel
theorem a_ddinit (a b : Value) : argsOk "collections.defaultdict.__init__" ⟨[a, b], []⟩ := by unfold argsOk; kernel_rfl
theorem a_dinit (a : Value) : argsOk "dict.__init__" ⟨[a], []⟩ := by unfold argsOk; kernel_rfl
theorem ddi_bind (self : Value) : bindSpecial (.builtin "collections.defaultdict.__init__") self = pure (.builtin "collections.defaultdict.__init__", [self]) := by
  have hop : withoutEnding? "collections.defaultdict.__init__" "#opaque" = none := by decide +kernel
  have hdat : withoutEnding? "collections.defaultdict.__init__" "#data" = none := by decide +kernel
  simp only [bindSpecial, typeOf, builtinType, hop, hdat, k_ddinit]; rfl
end
section
variable {w : World} {prog : Program} {A : Around} {E : Value → Shared → Prop} {R : Result → Shared → Prop} {h : Heap} {g : Array GenState} {d : Drawn} {t : Nat} {os : OsState}
theorem dnew_code (X : (hd.heap_39 w.params).In h) (hq : R (.ok (.ret (.ref (h.objs.size + 1)))) ⟨(h.push emptyDict).push { cls := .ref 122, dict := some h.objs.size, data := .dict #[] }, g, d, t, os⟩) :
    codeAny (model prog w) A (.call (.builtin "dict.__new__") ⟨[.ref 122, .type "list"], []⟩) R ⟨h, g, d, t, os⟩ := by
  refine codeAny_call_builtin_at (Code.quiet_builtin _ (by decide +kernel)) e_dnew ?_
  have l1 := lk_isT (prog := prog) X
  have l2 := lk_subd (prog := prog) X
  have l3 := lk_base (prog := prog) X
  have l4 := lk_made (prog := prog) X
  have l5 := lk_mro (prog := prog) X
  have l6 : Looks (model prog w) ((h.push { cls := .type "dict", data := .dict #[] }).push { cls := .ref 122, dict := some h.objs.size, data := .dict #[] }) (classHasDel 122) false :=
    (lk_del X).keeps fun b o e => Heap.get?_push_of_some _ (Heap.get?_push_of_some _ e)
  simp only [checkBuiltinCall, k_dnew, s_dnew]
  repeat (first | lk)
  have e : (h.push { cls := .type "dict", data := .dict #[] }).objs.size = h.objs.size + 1 := Heap.size_push ..
  rw [e]
  exact hq
theorem dinit_code {x dx : Addr} (X : (hd.heap_39 w.params).In h) {es : Array DictEntry} {n : Nat} {sl : Array (Option Value)} (hx : h.get? x = some { cls := .ref 122, dict := some dx, data := .dict es n, slots := sl }) (hq : R (.ok (.ret .none)) ⟨h, g, d, t, os⟩) :
    codeAny (model prog w) A (.builtin "dict.__init__" ⟨[.ref x], []⟩) R ⟨h, g, d, t, os⟩ := by
  refine codeAny_builtin e_dinit ?_
  unfold Builtin.«dict.__init__»
  have l5 := lk_mro (prog := prog) X
  repeat (first | lk)
  exact hq
theorem ddinit_code {x dx : Addr} (X : (hd.heap_39 w.params).In h) (X' : (hd.heap_39 w.params).In (h.update x (fun o => { o with slots := (o.slots ++ Array.replicate (0 + 1 - o.slots.size) none).setIfInBounds 0 (some (.type "list")) }))) (hx : h.get? x = some { cls := .ref 122, dict := some dx, data := .dict #[] })
    (hq : R (.ok (.ret .none)) ⟨h.update x (fun o => { o with slots := (o.slots ++ Array.replicate (0 + 1 - o.slots.size) none).setIfInBounds 0 (some (.type "list")) }), g, d, t, os⟩) :
    codeAny (model prog w) A (.call (.builtin "collections.defaultdict.__init__") ⟨[.ref x, .type "list"], []⟩) R ⟨h, g, d, t, os⟩ := by
  have t1 : Looks (model prog w) h (isInstance (.ref x) (.type "collections.defaultdict")) true := ((Looks.ld hx).andThen .now).andThen (lk_subdd X)
  have q1 : (Code.builtin "collections.defaultdict.__init__" ⟨[.ref x, .type "list"], []⟩).quiet = true := Code.quiet_builtin _ (by decide +kernel)
  refine codeAny_call_builtin_at q1 e_ddinit ?_
  refine @check_slot (model prog w) _ _ _ "collections.defaultdict.__init__" "collections.defaultdict" "__init__" (.ref x) [.type "list"] [] _ k_ddinit s_ddinit t1 (a_ddinit _ _) ?_
  unfold Builtin.«collections.defaultdict.__init__»
  have l1 : Looks (model prog w) h (specialOf (.type "list") "__call__") (some (.builtin "type.__call__")) := Looks.of_peek X (by kernel_rfl)
  iterate 25 (try lk)
  show wpAny _ _ (slotLetsGo _ Value.none _) _ _ _
  unfold slotLetsGo
  refine wpAny_pure ?_
  show wpAny _ _ (setSlotAt x 0 (some (Value.type "list"))) _ _ _
  unfold setSlotAt
  lk
  lk
  refine wpAny_updatePart hx ?_
  with_reducible refine wpAny_bind ?_
  with_reducible refine wpAny_holding ?_
  with_reducible refine wpAny_runValue ?_
  refine dinit_code (dx := dx) (es := #[]) (n := 0) (sl := #[some (.type "list")]) X' ?_ ?_
  · exact Heap.get?_update_self _ hx rfl
  · exact wpAny_pure hq
theorem c122 (p : Params) : ∃ cd sl, (hd.heap_39 p).lookup 122 = some ⟨.type "type", none, .cls cd, sl⟩ := ⟨_, _, rfl⟩
theorem isI_dd {x dx : Addr} {es : Array DictEntry} {n : Nat} {sl : Array (Option Value)} (X : (hd.heap_39 w.params).In h) (hx : h.get? x = some { cls := .ref 122, dict := some dx, data := .dict es n, slots := sl }) {c : Value} {b : Bool} (hc : Looks (model prog w) h (isSubtype (.ref 122) c) b) :
    Looks (model prog w) h (isInstance (.ref x) c) b := ((Looks.ld hx).andThen .now).andThen hc
theorem make_dd (X : (hd.heap_39 w.params).In h) (X' : (hd.heap_39 w.params).In (((h.push emptyDict).push { cls := .ref 122, dict := some h.objs.size, data := .dict #[] }).update (h.objs.size + 1) (fun o => { o with slots := (o.slots ++ Array.replicate (0 + 1 - o.slots.size) none).setIfInBounds 0 (some (.type "list")) })))
    (hq : R (.ok (.ret (.ref (h.objs.size + 1)))) ⟨((h.push emptyDict).push { cls := .ref 122, dict := some h.objs.size, data := .dict #[] }).update (h.objs.size + 1) (fun o => { o with slots := (o.slots ++ Array.replicate (0 + 1 - o.slots.size) none).setIfInBounds 0 (some (.type "list")) }), g, d, t, os⟩) :
    codeAny (model prog w) A (.call (.ref 122) ⟨[.type "list"], []⟩) R ⟨h, g, d, t, os⟩ := by
  have k : ∀ b o, h.get? b = some o → ((h.push emptyDict).push { cls := .ref 122, dict := some h.objs.size, data := .dict #[] }).get? b = some o := fun b o e => Heap.get?_push_of_some _ (Heap.get?_push_of_some _ e)
  have hx : ((h.push emptyDict).push { cls := .ref 122, dict := some h.objs.size, data := .dict #[] }).get? (h.objs.size + 1) = some { cls := .ref 122, dict := some h.objs.size, data := .dict #[] } := by heap_get
  have call := lk_call (prog := prog) X
  have typ := lk_type (prog := prog) X
  have made := lk_made (prog := prog) X
  have hm := lk_mro (prog := prog) X
  obtain ⟨cd, sl, hC0⟩ := c122 w.params
  have hC := X 122 _ hC0
  refine codeAny_of_tree ?_
  show wpAny _ _ (callAny (.ref 122) _) _ _ _
  refine nd_load hC ?_
  show wpAny _ _ (callAny.viaDunder (.ref 122) _) _ _ _
  unfold callAny.viaDunder
  refine wpAny_bind (call.at ?_)
  dsimp only
  rw [tc_bind]
  refine wpAny_bind (wpAny_pure (wpAny_bind (wpAny_pure ?_)))
  refine wpAny_pure (a := Fin.again (.call (.builtin "type.__call__") ⟨[.ref 122, .type "list"], []⟩)) (And.intro rfl ?_)
  refine codeAny_call_builtin_at (Code.quiet_builtin _ (by decide +kernel)) entry_typeCall (@check_slot (model prog w) _ _ _ "type.__call__" "type" "__call__" (.ref 122) [.type "list"] [] _ tc_kind tc_split typ (tc_args _ _ _) ?_)
  unfold Builtin.«type.__call__»
  repeat (first | with_reducible refine wpAny_call ?_ | lk)
  refine dnew_code X ?_
  have t1 := isI_dd (prog := prog) (X.keeps k) hx (lk_self (X.keeps k))
  have i1 : Looks (model prog w) ((h.push emptyDict).push { cls := .ref 122, dict := some h.objs.size, data := .dict #[] }) (specialOf (.ref (h.objs.size + 1)) "__init__") (some (.builtin "collections.defaultdict.__init__")) := ((Looks.ld hx).andThen .now).andThen (lk_init (X.keeps k))
  have b1 : Looks (model prog w) ((h.push emptyDict).push { cls := .ref 122, dict := some h.objs.size, data := .dict #[] }) (bindSpecial (.builtin "collections.defaultdict.__init__") (.ref (h.objs.size + 1))) (.builtin "collections.defaultdict.__init__", [.ref (h.objs.size + 1)]) := Looks.of_pure (ddi_bind _)
  unfold callSpecial?
  repeat (first | with_reducible refine wpAny_call ?_ | lk)
  refine ddinit_code (dx := h.objs.size) (X.keeps k) X' hx ?_
  repeat (first | lk)
  exact hq
end
end Mine
end L1

section L2
open PySem PySem.W PyProof.Rows
namespace Mine
open PySem.Calls Builtin Builtin.ObjectAttr
set_option maxRecDepth 100000
set_option maxHeartbeats 1600000
section
variable {prog : Program} {w : World} {A : Around} {E : Value → Shared → Prop} {s : Shared} {h₀ : Heap} {L : Addr} {m : Str → Option Value} {news : List (Addr × Obj)} {Q : Value → Shared → Prop}
theorem news_upd {h h' : Heap} {x : Addr} {o o' : Obj} {pre post : List (Addr × Obj)} (N : News h₀ L h (pre ++ (x, o) :: post)) (a : ∀ p ∈ pre, p.1 ≠ x) (b : ∀ p ∈ post, p.1 ≠ x) (hs : Heap.SameBut x h h') (e : h'.get? x = some o') : News h₀ L h' (pre ++ (x, o') :: post) := by
  intro p hp
  have zx := N (x, o) (List.mem_append.mpr (.inr (.head _)))
  rcases List.mem_append.mp hp with hp | hp
  · have z := N p (List.mem_append.mpr (.inl hp)); exact ⟨hs.extBut _ _ (a p hp) z.1, z.2⟩
  · rcases List.mem_cons.mp hp with rfl | hp
    · exact ⟨e, zx.2⟩
    · have z := N p (List.mem_append.mpr (.inr (.tail _ hp))); exact ⟨hs.extBut _ _ (b p hp) z.1, z.2⟩
theorem call_dd (F : Fr h₀ L s.heap m) (X₀ : (hd.heap_39 w.params).In h₀) (N : News h₀ L s.heap news)
    (h : ∀ x dx h', Fr h₀ L h' m → News h₀ L h' ((x, ddObj dx #[] 0) :: (dx, emptyDict) :: news) → (∀ p ∈ news, p.1 < dx) → dx < x → Q (.ref x) { s with heap := h' }) :
    wpAny (model prog w) A (call (.ref 122) [.type "list"]) Q E s := by
  obtain ⟨hh, g, d, t, os⟩ := s
  have N1 := (N.push F emptyDict).push (F.push _) { cls := .ref 122, dict := some hh.objs.size, data := .dict #[] }
  rw [Heap.size_push] at N1
  have zx := N1 _ (.head _)
  have hs : Heap.SameBut (hh.objs.size + 1) ((hh.push emptyDict).push { cls := .ref 122, dict := some hh.objs.size, data := .dict #[] }) (((hh.push emptyDict).push { cls := .ref 122, dict := some hh.objs.size, data := .dict #[] }).update (hh.objs.size + 1) (fun o => { o with slots := (o.slots ++ Array.replicate (0 + 1 - o.slots.size) none).setIfInBounds 0 (some (.type "list")) })) := Heap.SameBut.update ..
  have F2 := ((F.push emptyDict).push { cls := .ref 122, dict := some hh.objs.size, data := .dict #[] }).change hs zx.2.1 zx.2.2
  refine wpAny_call (make_dd (X₀.keeps F.keep) (X₀.keeps F2.keep) (h _ hh.objs.size _ F2 ?_ (fun p hp => Heap.lt_size (N p hp).1) (Nat.lt_succ_self _)))
  refine news_upd (pre := []) N1 (fun _ hp => nomatch hp) (fun p hp => ?_) hs (Heap.get?_update_self _ zx.1 rfl)
  rcases List.mem_cons.mp hp with rfl | hp
  · exact Nat.ne_of_lt (Nat.lt_succ_self _)
  · exact Nat.ne_of_lt (Nat.lt_succ_of_lt (Heap.lt_size (N p hp).1))
end
end Mine
end L2

section ConL
open PySem PySem.W PyProof.Rows
namespace Mine
def ConL (D U : Nat) (f : Addr) (news : List (Addr × Obj)) (vs : List Value) (Post : Value → List (Addr × Obj) → Prop) : Prop :=
  ∀ (w : World) (mean : ExcName → Option Value) (mg mb : Str → Option Value)
    (dp un : Nat) (gd : Option (List Code)) (cn : Str) (cs : Scope) (a : Addr) (ccd : Value) (cl : List (Str × Addr)) (outer : List Env) (A₀ : Around) (base h₀ : Heap) (L : Addr) (m : Str → Option Value) (s : Shared) (Q E : Value → Shared → Prop),
    Below A₀ base outer h₀ → Fr h₀ L s.heap m → (hd.heap_39 w.params).In h₀ → News h₀ L s.heap news → Top topProg Loose mean mg mb h₀ → cs.kind = .function →
    dp + D < recursionLimit → un + U < cLine →
    (∀ v news' (h' : Heap) (tk' : Nat), Fr h₀ L h' m → News h₀ L h' news' → Post v news' → Q v { s with heap := h', toks := tk' }) →
    codeAny (model PySem.Challenge.rw_il0136_01.row.prog w) (ktrTop dp un gd cn cs L a ccd cl outer) (.call (.ref f) ⟨vs, []⟩) (fun r s' => match r with | .ok (.ret v) => Q v s' | .ok _ => False | .error e => E e s') s
end Mine
end ConL

section L3
open PySem PySem.W PyProof.Rows
namespace Mine
open PySem.Calls Builtin Builtin.ObjectAttr
set_option maxRecDepth 100000
set_option maxHeartbeats 1600000
section
variable {prog : Program} {w : World} {A : Around} {E : Value → Shared → Prop} {s : Shared} {h₀ : Heap} {L : Addr} {m : Str → Option Value}
theorem attr_type {K : Frag} {T : String} {name : Str} {v : Value} {expr : Bool} {Q : Value → Shared → Prop} (F : Fr h₀ L s.heap m) (X₀ : K.In h₀) (ht : typeOf (.type T) = pure (.type "type")) (hs : Manifest.isStub T = false)
    (e : findCls K (.type T) (.type "type") name = some (.val v)) (hh : handedIn v = true) (h : Q v { s with toks := s.toks + 1 }) : wpAny (model prog w) A (getAttr (.type T) name expr) Q E s := by
  have X := X₀.keeps F.keep
  have hstub : opaqueClassAbove (.type T) = pure none := by unfold opaqueClassAbove; dsimp only; rw [hs]; rfl
  refine cls_open X (Looks.of_pure hstub) (Looks.of_pure ht) type_tga (looks_hook X (r := none) (by kernel_rfl)) (by show subIn K _ _ = _; kernel_rfl) e ?_
  exact wpAny_pure (by show wpAny _ _ (handedOut v) _ _ _; rw [handedOut_of hh]; exact wpAny_pure h)
theorem ts1 : typeOf (.type "str") = pure (.type "type") := by kernel_rfl
theorem ts2 : Manifest.isStub "str" = false := by decide +kernel
theorem ts3 (w : World) : findCls (hd.heap_39 w.params) (.type "str") (.type "type") "strip" = some (.val (.builtin "str.strip")) := by kernel_rfl
theorem ts4 : handedIn (.builtin "str.strip") = true := by kernel_rfl
theorem attr_strip {expr : Bool} {Q : Value → Shared → Prop} (F : Fr h₀ L s.heap m) (X₀ : (hd.heap_39 w.params).In h₀) (h : Q (.builtin "str.strip") { s with toks := s.toks + 1 }) : wpAny (model prog w) A (getAttr (.type "str") "strip" expr) Q E s :=
  @attr_type prog w A E s h₀ L m (hd.heap_39 w.params) "str" "strip" (.builtin "str.strip") expr Q F X₀ ts1 ts2 (ts3 w) ts4 h
end
end Mine
end L3

section MapR
open PySem PySem.W PyProof.Rows
namespace Mine
open PySem.Calls Builtin Builtin.ObjectAttr
set_option maxRecDepth 100000
set_option maxHeartbeats 1600000
theorem mro_map : mroOf (.type "map") = pure [.type "map", .type "object"] := by rw [mroOf_type]; kernel_rfl
theorem lookup_map_new : typeLookup (.type "map") "__new__" = pure (some (.builtin "map.__new__")) := by rw [typeLookup_type, builtinLookup_eq_fast]; kernel_rfl
theorem slot_map_init : Slot "map" "__init__" "object.__init__" :=
  .of (owner := "object") (n := "__init__") (by rw [typeLookup_type, builtinLookup_eq_fast]; kernel_rfl) (by decide +kernel) (by decide +kernel) (by decide +kernel) (.inl (by decide +kernel)) (by rw [isSubtype_type]; kernel_rfl)
theorem slot_map_next : Slot "map" "__next__" "map.__next__" :=
  .of (owner := "map") (n := "__next__") (by rw [typeLookup_type, builtinLookup_eq_fast]; kernel_rfl) (by decide +kernel) (by decide +kernel) (by decide +kernel) (.inl (by decide +kernel)) (by rw [isSubtype_type]; kernel_rfl)
theorem called_map : TypeCalled "map" "map.__new__" "object.__init__" :=
  ⟨by decide +kernel, by decide +kernel, ⟨_, _, mro_map⟩, madeBy_type mro_map lookup_map_new (by decide +kernel), by decide +kernel, by rw [isSubtype_type]; kernel_rfl, slot_map_init⟩
theorem typeCall_map (a b : Value) : checkTypeCall "map" ⟨[a, b], []⟩ = pure () := by kernel_rfl
theorem newCall_map (a b : Value) : checkBuiltinCall "map.__new__" ⟨[.type "map", a, b], []⟩ = pure () := by kernel_rfl
theorem entry_map_new : entryFor table "map.__new__" = some Builtin.«map.__new__» := entryFor_of_tree (by kernel_rfl)
theorem entry_map_next : entryFor table "map.__next__" = some Builtin.«map.__next__» := entryFor_of_tree (by kernel_rfl)
theorem args_map_next (a : Value) : argsOk "map.__next__" ⟨[a], []⟩ := by unfold argsOk; kernel_rfl
theorem args_oi3 (a b c : Value) : argsOk "object.__init__" ⟨[a, b, c], []⟩ := by unfold argsOk; kernel_rfl
theorem sub_map : isSubtype (.type "map") (.type "map") = pure true := by rw [isSubtype_type]; kernel_rfl
abbrev itObj (l : Addr) (i : Nat) : Obj := { cls := .type "list_iterator", data := .fields #[.ref l, .int i 0] }
abbrev tupObj (vs : List Value) : Obj := { cls := .type "tuple", data := .seq vs.toArray }
abbrev mapObj (tp : Addr) (f : Value) : Obj := { cls := .type "map", data := .fields #[.ref tp, f] }
theorem meets_map (f : Value) (l : Addr) (items : Array Value) :
    Meets (Builtin.«map.__new__» ⟨[.type "map", f, .ref l], []⟩) (fun _ R s => s.heap.IsList l items ∧
      R (.ok (.ret (.ref (s.heap.objs.size + 2)))) { s with heap := ((s.heap.push (itObj l 0)).push (tupObj [.ref s.heap.objs.size])).push (mapObj (s.heap.objs.size + 1) f) }) :=
  .of_wp fun prog w A R s h => by
    obtain ⟨hp, g, d, tk, os⟩ := s; obtain ⟨hl, h⟩ := h
    have hsub := sub_map
    wp_walk using wpAny_pyIter_list hl
    exact ⟨_, rfl, by simp only [Heap.size_push]; exact h⟩
end Mine
end MapR

section MapW
open PySem PySem.W PyProof.Rows
namespace Mine
open PySem.Calls Builtin Builtin.ObjectAttr
set_option maxRecDepth 100000
set_option maxHeartbeats 1600000
section
variable {prog : Program} {w : World} {A : Around} {E : Value → Shared → Prop} {s : Shared}
def MapAt (h : Heap) (M T It l : Addr) (items : Array Value) (i : Nat) : Prop :=
  h.get? M = some (mapObj T (.builtin "str.strip")) ∧ h.get? T = some (tupObj [.ref It]) ∧ h.IsListIter It l i ∧ h.IsList l items
theorem map_item {M T It l : Addr} {i : Nat} {items : Array Value} {x : Str} {t : Tok} {Q : Option Value → Shared → Prop} (hm : MapAt s.heap M T It l items i) (hx : items[i]? = some (.str x t)) (hsz : x.length ≤ sizeLine)
    (hQ : ∀ h' t' tk', h'.IsListIter It l (i + 1) → Heap.SameBut It s.heap h' → Q (some (.str (Txt.strip x) t')) { s with heap := h', toks := tk' }) :
    wpAny (model prog w) A (pyNext (.ref M)) Q E s := by
  obtain ⟨hM, hT, hit, hl⟩ := hm
  have hTM : s.TypeIs (.ref M) "map" := ⟨_, hM, rfl⟩
  have hMI : M ≠ It := fun e => by obtain ⟨o, ho, hc, _⟩ := hit; rw [e, ho] at hM; cases hM; exact absurd (show Value.type "map" = Value.type "list_iterator" from hc) (by decide)
  unfold pyNext
  refine wpAny_bind (wpAny_attempt (wpAny_callSpecial?_slot (name := Str.ofString "__next__") hTM slot_map_next
    (wpAny_call_entry slot_map_next hTM entry_map_next ?_ (args_map_next _))))
  show wpAny _ _ (field (.ref M) 0 >>= _) _ _ _
  refine wpAny_bind (wpAny_field hM rfl (x := .ref T) rfl ?_)
  show wpAny _ _ (seqItems? (.ref T) >>= _) _ _ _
  refine wpAny_bind (wpAny_seqItems hT rfl ?_)
  dsimp only
  simp only [← Array.forIn_toList, List.forIn_cons, List.forIn_nil]
  refine wpAny_bind (wpAny_bind ?_)
  show wpAny _ _ (Builtin.SmallTypes.nextOf (.ref It) >>= _) _ _ _
  refine wpAny_bind (wpAny_nextOf_list_item hit hl hx fun h₁ hit₁ hs₁ => ?_)
  have hM₁ := hs₁.extBut M _ hMI hM
  refine wpAny_pure (wpAny_pure ?_)
  show wpAny _ _ (field (.ref M) 1 >>= _) _ _ _
  refine wpAny_bind (wpAny_field hM₁ rfl (x := .builtin "str.strip") rfl ?_)
  show wpAny _ _ (call (.builtin "str.strip") [.str x t] >>= _) _ _ _
  refine wpAny_bind (SC.strip (fun t' k => ?_) hsz)
  refine wpAny_bind (wpAny_letGo (wpAny_pure ⟨_, rfl, wpAny_pure ?_⟩))
  exact hQ h₁ t' k hit₁ hs₁
theorem map_end {M T It l : Addr} {i : Nat} {items : Array Value} {Q : Option Value → Shared → Prop} (hh : A.handled = none) (hm : MapAt s.heap M T It l items i) (hx : items[i]? = none)
    (hQ : ∀ h', Heap.ExtBut It s.heap h' → Q none { s with heap := h' }) :
    wpAny (model prog w) A (pyNext (.ref M)) Q E s := by
  obtain ⟨hM, hT, hit, hl⟩ := hm
  have hTM : s.TypeIs (.ref M) "map" := ⟨_, hM, rfl⟩
  unfold pyNext
  refine wpAny_bind (wpAny_attempt (wpAny_callSpecial?_slot (name := Str.ofString "__next__") hTM slot_map_next
    (wpAny_call_entry slot_map_next hTM entry_map_next ?_ (args_map_next _))))
  show wpAny _ _ (field (.ref M) 0 >>= _) _ _ _
  refine wpAny_bind (wpAny_field hM rfl (x := .ref T) rfl ?_)
  show wpAny _ _ (seqItems? (.ref T) >>= _) _ _ _
  refine wpAny_bind (wpAny_seqItems hT rfl ?_)
  dsimp only
  simp only [← Array.forIn_toList, List.forIn_cons, List.forIn_nil]
  refine wpAny_bind (wpAny_bind ?_)
  show wpAny _ _ (Builtin.SmallTypes.nextOf (.ref It) >>= _) _ _ _
  refine wpAny_bind (wpAny_nextOf_list_end hh hit hl hx fun h' x he' hx' => ?_)
  obtain ⟨o, ho, hc⟩ := hx'
  refine wpAny_bind (wpAny_isInstance (T := "StopIteration") (b := true) ⟨o, ho, hc⟩ isSubtype_stop ?_)
  exact wpAny_pure (hQ _ he')
theorem slot_map_iter : Slot "map" "__iter__" "map.__iter__" :=
  .of (owner := "map") (n := "__iter__") (by rw [typeLookup_type, builtinLookup_eq_fast]; kernel_rfl) (by decide +kernel) (by decide +kernel) (by decide +kernel) (.inl (by decide +kernel)) (by rw [isSubtype_type]; kernel_rfl)
theorem entry_map_iter : entryFor table "map.__iter__" = some Builtin.«dict_keyiterator.__iter__» :=
  entryFor_alias (id' := "dict_keyiterator.__iter__") (by kernel_rfl) (by first | rfl | decide +kernel | (unfold String.splitOn; simp +decide [String.splitOnAux])) (by decide +kernel) (by kernel_rfl)
theorem args_map_iter (a : Value) : argsOk "map.__iter__" ⟨[a], []⟩ := by unfold argsOk; kernel_rfl
theorem iter_map {M T : Addr} {f : Value} {Q : Value → Shared → Prop} (hM : s.heap.get? M = some (mapObj T f)) (h : Q (.ref M) s) : wpAny (model prog w) A (pyIter (.ref M)) Q E s := by
  have hT : s.TypeIs (.ref M) "map" := ⟨_, hM, rfl⟩
  refine wpAny_pyIter_slot hT slot_map_iter (wpAny_call_entry slot_map_iter hT entry_map_iter ?_ (args_map_iter _))
  show wpAny _ _ (ret (.ref M)) _ _ s
  exact wpAny_pure ⟨_, rfl, "map", _, hT, slot_map_next.lookup, h⟩
theorem no_len : typeLookup (.type "map") "__len__" = pure none := by rw [typeLookup_type, builtinLookup_eq_fast]; kernel_rfl
theorem no_hint : typeLookup (.type "map") "__length_hint__" = pure none := by rw [typeLookup_type, builtinLookup_eq_fast]; kernel_rfl
theorem MapAt.ne {h : Heap} {M T It l : Addr} {items : Array Value} {i : Nat} (x : MapAt h M T It l items i) : M ≠ It ∧ T ≠ It ∧ l ≠ It := by
  obtain ⟨hM, hT, ⟨o, ho, hc, _⟩, ⟨ol, hol, hcl, _⟩⟩ := x
  refine ⟨fun e => ?_, fun e => ?_, fun e => ?_⟩
  · rw [e, ho] at hM; cases hM; exact absurd (show Value.type "map" = Value.type "list_iterator" from hc) (by decide)
  · rw [e, ho] at hT; cases hT; exact absurd (show Value.type "tuple" = Value.type "list_iterator" from hc) (by decide)
  · rw [e, ho] at hol; cases hol; exact absurd (hcl.symm.trans hc) (by decide)
theorem walks_map (hh : A.handled = none) {M T It l : Addr} (xs : List (Str × Tok)) (hsz : ∀ p ∈ xs, p.1.length ≤ sizeLine) :
    Walks prog w A M [M, T, It, l] [It] xs.length (fun i v => ∃ x t, (xs.map (·.1))[i]? = some x ∧ v = .str (Txt.strip x) t) (fun i h => MapAt h M T It l (strValues xs).toArray i) where
  sub := fun b hb => by simp at hb; simp [hb]
  frame := fun i h h' st hk => ⟨hk M (by simp) _ st.1, hk T (by simp) _ st.2.1, st.2.2.1.at fun o e => hk It (by simp) o e, st.2.2.2.at fun o e => hk l (by simp) o e⟩
  item := fun i s Q E hi st hQ => by
    have hp : xs[i] ∈ xs := List.getElem_mem hi
    refine map_item (x := xs[i].1) (t := xs[i].2) st (by simp [strValues, hi]) (hsz _ hp) fun h' t' tk' hit' hs' => ?_
    obtain ⟨n1, n2, n3⟩ := st.ne
    refine hQ _ h' tk' ⟨_, t', by simp [hi], rfl⟩ ⟨hs'.extBut _ _ n1 st.1, hs'.extBut _ _ n2 st.2.1, hit', st.2.2.2.extBut hs'.extBut n3⟩ fun b o hb e => hs'.extBut b o (fun h => hb (by simp [h])) e
  done := fun s Q E st hQ => map_end hh st (by simp [strValues]) fun h' he' => hQ h' s.toks fun b o hb e => he' b o (fun h => hb (by simp [h])) e
  self := fun i s Q E st hQ => iter_map st.1 hQ
theorem not_iter {Q : Bool → Shared → Prop} {M T : Addr} {f : Value} (hM : s.heap.get? M = some (mapObj T f)) (h : Q false s) : wpAny (model prog w) A (notIterableAtAll (.ref M)) Q E s := by
  have hT : s.TypeIs (.ref M) "map" := ⟨_, hM, rfl⟩
  unfold notIterableAtAll
  refine wpAny_bind (wpAny_specialOf hT slot_map_iter.lookup ?_)
  exact wpAny_pure h
end
end Mine
end MapW

section MapC
open PySem PySem.W PyProof.Rows
namespace Mine
open PySem.Calls Builtin Builtin.ObjectAttr
set_option maxRecDepth 100000
set_option maxHeartbeats 1600000
section
variable {prog : Program} {w : World} {A : Around} {E : Value → Shared → Prop} {s : Shared}
theorem collect_map {I : Addr} {fp wr : List Addr} {G : Array GenState → Array GenState → Prop} {n : Nat} {P : Nat → Value → Prop} {St : Nat → Shared → Prop} {Q : List Value → Shared → Prop} (W : WalksS prog w A.in1 I fp wr G n P St) (hT : ∀ i s, St i s → s.TypeIs (.ref I) "map") (hst : St 0 s) (hfp : ∀ b ∈ fp, b < s.heap.objs.size) (hI : I ∈ fp)
    (hQ : ∀ s' acc, Moved wr G s s' → ItemsOf P acc n → Q acc.toList s') (hn : n ≤ sizeLine := by size_fits) : wpAny (model prog w) A (collect (.ref I)) Q E s := by
  have hSf : s.heap.objs.size ∉ fp := fun hm => Nat.lt_irrefl _ (hfp _ hm)
  have hSI : s.heap.objs.size ≠ I := fun e => hSf (e ▸ hI)
  unfold collect
  refine wpAny_bind (wpAny_runValue (codeAny_builtin F.entry_proto_collect ?_))
  rw [Around.under_plainId F.plain_proto_collect _]
  show wpAny _ A.in1 (newList [] >>= fun l => again (.builtin "list.__iadd__" ⟨[l, .ref I], []⟩)) _ _ s
  refine wpAny_bind (wpAny_newObj_type ?_)
  refine wpAny_pure ⟨plainId_quiet F.plain_list_iadd _, codeAny_builtin F.entry_list_iadd ?_⟩
  rw [Around.under_plainId F.plain_list_iadd _]
  have hst₁ := W.frame 0 s (s.heap.push { cls := .type "list", data := .seq ([] : List Value).toArray }) s.toks hst (Nat.le_refl _) fun b _ o e => Heap.get?_push_of_some _ e
  show wpAny _ A.in1 (Builtin.List.listExtendWith (.ref s.heap.objs.size) (.ref I) (.ref s.heap.objs.size)) _ _ _
  unfold Builtin.List.listExtendWith
  refine wpAny_bind (wpAny_typeOf (hT 0 _ hst₁) ?_)
  have h1 : Builtin.List.listSameRef (.ref s.heap.objs.size) (.ref I) = false := by simp [Builtin.List.listSameRef, hSI]
  have h2 : (Value.type "map" == Value.type "list") = false := by decide
  have h3 : (Value.type "map" == Value.type "tuple") = false := by decide
  simp only [h1, h2, h3, Bool.or_false, Bool.false_eq_true, if_false]
  refine wpAny_bind (W.self 0 _ _ _ hst₁ ?_)
  refine wpAny_bind (wpAny_holding ?_)
  unfold Builtin.List.listLengthHint
  refine wpAny_bind (wpAny_specialOf (hT 0 _ hst₁) no_len ?_)
  show wpAny _ A.in1 (specialOf (Value.ref I) (Str.ofString "__length_hint__") >>= _) _ _ _
  refine wpAny_bind (wpAny_specialOf (hT 0 _ hst₁) no_hint ?_)
  refine wpAny_pure ?_
  show wpAny _ A.in1 (rule "list.extend.makes-room" >>= fun _ => Builtin.List.listTouch (.ref s.heap.objs.size) >>= fun _ =>
    again (.builtin "list.extend.loop" ⟨[.ref s.heap.objs.size, .ref I, .ref s.heap.objs.size], []⟩)) _ _ _
  refine wpAny_bind (wpAny_rule ?_)
  have hS₁ : (s.heap.push { cls := .type "list", data := .seq ([] : List Value).toArray }).get? s.heap.objs.size = some { cls := .type "list", data := .seq ([] : List Value).toArray } := Heap.get?_push_size _ rfl
  refine wpAny_bind ?_
  show wpAny _ A.in1 (updateSeq s.heap.objs.size (·.push .none) >>= fun _ => updateSeq s.heap.objs.size (·.pop)) _ _ _
  refine wpAny_bind (wpAny_updateSeq hS₁ rfl ?_)
  have hS₂ := Heap.get?_update_self (Obj.mapSeq (·.push Value.none)) hS₁ rfl
  refine wpAny_updateSeq hS₂ rfl ?_
  have hS₃ := Heap.get?_update_self (Obj.mapSeq (·.pop)) hS₂ rfl
  have oth : ∀ b o, b ≠ s.heap.objs.size → (s.heap.push { cls := .type "list", data := .seq ([] : List Value).toArray }).get? b = some o →
      (((s.heap.push { cls := .type "list", data := .seq ([] : List Value).toArray }).update s.heap.objs.size (Obj.mapSeq (·.push Value.none))).update s.heap.objs.size (Obj.mapSeq (·.pop))).get? b = some o :=
    fun b o hb e => (Heap.get?_update_other _ _ (Ne.symm hb)).trans ((Heap.get?_update_other _ _ (Ne.symm hb)).trans e)
  refine wpAny_pure ⟨plainId_quiet F.plain_extend_loop _, codeAny_extend_loopS W hn _ hSf _ n 0 _ _ _ rfl (Nat.zero_le _)
    (W.frame 0 ({ s with heap := s.heap.push { cls := .type "list", data := .seq ([] : List Value).toArray } } : Shared) _ s.toks hst₁ (Nat.le_refl _) fun b hb o e => oth b o (fun h => hSf (h ▸ hb)) e) hS₃ (ItemsOf.nil P) fun s' acc' c' hm hS' hacc => ?_⟩
  show wpAny _ A (load s.heap.objs.size >>= _) _ _ s'
  refine wpAny_bind (wpAny_load hS' ?_)
  refine wpAny_pure (hQ s' acc' (Moved.drop_new (o := { cls := .type "list", data := .seq ([] : List Value).toArray }) (tk := s.toks) (Moved.trans W.gtrans ((Moved.refl W.grefl).then_heap (by first | exact Nat.le_refl _ | exact Nat.le_succ _ | omega) fun b o hb e => ?_) hm) (Nat.le_refl _)) hacc)
  exact (oth b o (fun h => hb (by rw [h]; exact List.mem_cons_self)) e)
end
end Mine
end MapC

section MapK
open PySem PySem.W PyProof.Rows
namespace Mine
open PySem.Calls Builtin Builtin.ObjectAttr
set_option maxRecDepth 100000
set_option maxHeartbeats 1600000
section
variable {prog : Program} {w : World} {A : Around} {E : Value → Shared → Prop} {s : Shared} {h₀ : Heap} {L : Addr} {m : Str → Option Value} {news : List (Addr × Obj)}
theorem call_map {f : Value} {l : Addr} {vs : List Value} {n : Nat} {Q : Value → Shared → Prop} (F : Fr h₀ L s.heap m) (N : News h₀ L s.heap news) (hl : (l, lobj vs n) ∈ news)
    (h : ∀ It T M h', (∀ p ∈ news, p.1 < It) → It < T → T < M → Fr h₀ L h' m → News h₀ L h' ((M, mapObj T f) :: (T, tupObj [.ref It]) :: (It, itObj l 0) :: news) → Q (.ref M) { s with heap := h' }) :
    wpAny (model prog w) A (call (.type "map") [f, .ref l]) Q E s := by
  refine callType_new called_map (by decide) (typeCall_map _ _) (newCall_map _ _) (fun obj => args_oi3 obj _ _) entry_map_new (meets_map f l vs.toArray) ⟨lobj_list N hl, ?_⟩
  have N1 := ((N.push F (itObj l 0)).push (F.push _) (tupObj [.ref s.heap.objs.size])).push ((F.push _).push _) (mapObj (s.heap.objs.size + 1) f)
  simp only [Heap.size_push] at N1
  exact ⟨⟨_, (N1 _ (.head _)).1, rfl⟩, h _ _ _ _ (fun p hp => Heap.lt_size (N p hp).1) (Nat.lt_succ_self _) (Nat.lt_succ_self _) (((F.push _).push _).push _) N1⟩
theorem collect_led {M T It l : Addr} {xs : List (Str × Tok)} {n : Nat} {Q : List Value → Shared → Prop} (hh : A.handled = none) (F : Fr h₀ L s.heap m) (N : News h₀ L s.heap ((M, mapObj T (.builtin "str.strip")) :: (T, tupObj [.ref It]) :: (It, itObj l 0) :: news))
    (hl : (l, lobj (strValues xs) n) ∈ news) (hI : ∀ p ∈ news, p.1 ≠ It) (hsz : ∀ p ∈ xs, p.1.length ≤ sizeLine) (hn : xs.length ≤ sizeLine)
    (h : ∀ ys h' tk', ys.length = xs.length → (∀ (i : Nat) (v : Value), ys[i]? = some v → ∃ x t, (xs.map (·.1))[i]? = some x ∧ v = .str (Txt.strip x) t) → Fr h₀ L h' m → News h₀ L h' news → Q ys { s with heap := h', toks := tk' }) :
    wpAny (model prog w) A (collect (.ref M)) Q E s := by
  have zM := N _ (.head _)
  have zT := N _ (.tail _ (.head _))
  have zI := N _ (.tail _ (.tail _ (.head _)))
  have zl := N _ (.tail _ (.tail _ (.tail _ hl)))
  have st : MapAt s.heap M T It l (strValues xs).toArray 0 := ⟨zM.1, zT.1, ⟨_, zI.1, rfl, rfl⟩, ⟨_, zl.1, rfl, n, rfl⟩⟩
  have hh1 : A.in1.handled = none := hh
  have W := (walks_map (prog := prog) (w := w) hh1 (M := M) (T := T) (It := It) (l := l) xs hsz).toS
  refine collect_map W (fun i s' x => ⟨_, x.1, rfl⟩) st ?_ (by simp) (fun s' acc hm hacc => ?_) hn
  · intro b hb
    simp only [List.mem_cons, List.not_mem_nil, or_false] at hb
    rcases hb with rfl | rfl | rfl | rfl
    · exact Heap.lt_size zM.1
    · exact Heap.lt_size zT.1
    · exact Heap.lt_size zI.1
    · exact Heap.lt_size zl.1
  · obtain ⟨h', g', d', tk', os'⟩ := s'
    obtain ⟨hk, rfl, rfl, rfl, _⟩ := hm
    refine h acc.toList h' tk' (by have e := hacc.1; simpa using e) (fun i v e => hacc.2 i v (by simpa using e)) ?_ ?_
    · exact ⟨F.ns.at' fun o e => hk _ o (by simpa using zI.2.1.symm) e, fun b o e => hk b o (fun hb => by rw [List.mem_singleton.mp hb, zI.2.2] at e; cases e) (F.keep b o e), F.above⟩
    · exact fun p hp => ⟨hk _ _ (by simpa using hI p hp) (N p (.tail _ (.tail _ (.tail _ hp)))).1, (N p (.tail _ (.tail _ (.tail _ hp)))).2⟩
end
end Mine
end MapK

section T1
open PySem PySem.W PyProof.Rows
namespace Mine
open PySem.Calls Builtin Builtin.ObjectAttr
set_option maxRecDepth 100000
set_option maxHeartbeats 1600000
abbrev pairObj (d : Addr) (vs : List Value) : Obj := { cls := .ref 217, dict := some d, data := .seq vs.toArray }
theorem e_tnew : entryFor table "tuple.__new__" = some Builtin.«tuple.__new__» := entryFor_of_tree (by kernel_rfl)
theorem k_tnew : builtinKind "tuple.__new__" = some .builtinFn := by decide +kernel
theorem s_tnew : splitId "tuple.__new__" = some ("tuple", "__new__") := by decide +kernel
section
variable {w : World} {h : Heap} {prog : Program}
theorem pr_made (X : (hd.heap_39 w.params).In h) : Looks (model prog w) h (Bind.madeBy (.ref 217)) none :=
  Looks.of_peek X (by kernel_rfl)
theorem pr_call (X : (hd.heap_39 w.params).In h) : Looks (model prog w) h (specialOf (.ref 217) "__call__") (some (.builtin "type.__call__")) :=
  Looks.of_peek X (by kernel_rfl)
theorem pr_type (X : (hd.heap_39 w.params).In h) : Looks (model prog w) h (isInstance (.ref 217) (.type "type")) true :=
  Looks.of_peek X (by kernel_rfl)
theorem pr_isT (X : (hd.heap_39 w.params).In h) : Looks (model prog w) h (isType (.ref 217)) true :=
  Looks.of_peek X (by kernel_rfl)
theorem pr_subt (X : (hd.heap_39 w.params).In h) : Looks (model prog w) h (isSubtype (.ref 217) (.type "tuple")) true :=
  Looks.of_peek X (by kernel_rfl)
theorem pr_base (X : (hd.heap_39 w.params).In h) : Looks (model prog w) h (Bind.staticBase (.ref 217)) (.type "tuple") :=
  Looks.of_peek X (by kernel_rfl)
theorem pr_here (X : (hd.heap_39 w.params).In h) : Looks (model prog w) h (Bind.madeHere "tuple.__new__" (.ref 217)) () :=
  Looks.of_peek X (by kernel_rfl)
theorem pr_init (X : (hd.heap_39 w.params).In h) : Looks (model prog w) h (typeLookup (.ref 217) "__init__") (some (.builtin "object.__init__")) :=
  looks_findIn X (by kernel_rfl)
theorem pr_del (X : (hd.heap_39 w.params).In h) : Looks (model prog w) h (classHasDel 217) false :=
  Looks.of_peek X (by kernel_rfl)
theorem pr_mro (X : (hd.heap_39 w.params).In h) : Looks (model prog w) h (mroOf (.ref 217)) [.ref 217, .ref 194, .type "tuple", .type "object"] :=
  Looks.of_peek X (by kernel_rfl)
theorem c217 (p : Params) : ∃ cd sl, (hd.heap_39 p).lookup 217 = some ⟨.type "type", none, .cls cd, sl⟩ := ⟨_, _, rfl⟩
end
section
variable {w : World} {prog : Program} {A : Around} {E : Value → Shared → Prop} {s : Shared} {h₀ : Heap} {L : Addr} {m : Str → Option Value} {news : List (Addr × Obj)} {Q : Value → Shared → Prop}
theorem collect_tup {T : Addr} {vs : List Value} {Q : List Value → Shared → Prop} (F : Fr h₀ L s.heap m) (N : News h₀ L s.heap news) (ha : (T, tupObj vs) ∈ news) (hz : vs.length ≤ sizeLine) (h : ∀ h', Fr h₀ L h' m → News h₀ L h' news → Q vs { s with heap := h' }) : wpAny (model prog w) A (collect (.ref T)) Q E s := by
  have e : vs.toArray.toList = vs := by simp
  refine wpAny_collect_seq T (.inr rfl) (N _ ha).1 rfl rfl (fun h' hk => e.symm ▸ h h' ?_ fun p hp => ⟨hk _ _ (N p hp).1, (N p hp).2⟩) (by simpa using hz)
  obtain ⟨oL, es, ep, hL, r⟩ := F.ns
  exact ⟨⟨oL, es, ep, hk _ _ hL, r⟩, fun b x q => hk _ _ (F.keep b x q), F.above⟩
theorem call_tnew {T : Addr} {vs : List Value} (X₀ : (hd.heap_39 w.params).In h₀) (F0 : Fr h₀ L s.heap m) (N : News h₀ L s.heap news) (ha : (T, tupObj vs) ∈ news) (hz : vs.length ≤ sizeLine)
    (hq : ∀ d x h', (∀ p ∈ news, p.1 < d) → d < x → Fr h₀ L h' m → News h₀ L h' ((x, pairObj d vs) :: (d, emptyDict) :: news) → Q (.ref x) { s with heap := h' }) :
    wpAny (model prog w) A (call (.builtin "tuple.__new__") [.ref 217, .ref T]) Q E s := by
  refine wpAny_call (codeAny_call_builtin_at (Code.quiet_builtin _ (by decide +kernel)) e_tnew ?_)
  have X := X₀.keeps F0.keep
  have l1 := pr_isT (prog := prog) X
  have l2 := pr_subt (prog := prog) X
  have l3 := pr_base (prog := prog) X
  have l4 := pr_made (prog := prog) X
  have l5 := pr_mro (prog := prog) X
  have l6 := pr_init (prog := prog) X
  have l7 := pr_here (prog := prog) X
  have l8 : Looks (model prog w) s.heap (Bind.madeBy (.type "tuple")) (some "tuple.__new__") := Looks.of_pure F.called_tuple.made
  simp only [checkBuiltinCall, k_tnew, s_tnew]
  unfold Builtin.«tuple.__new__»
  repeat ((fail_if_success (with_reducible show wpAny _ _ (collect _) _ _ _)); (fail_if_success (with_reducible show wpAny _ _ (collect _ >>= _) _ _ _)); first | lk)
  refine wpAny_bind (collect_tup F0 N ha hz fun h' F1 N1 => ?_)
  have X1 := X₀.keeps F1.keep
  have N2 := (N1.push F1 emptyDict).push (F1.push _) (pairObj h'.objs.size vs)
  have F2 := (F1.push emptyDict).push (pairObj h'.objs.size vs)
  have l9 : Looks (model prog w) ((h'.push { cls := .type "dict", data := .dict #[] }).push (pairObj h'.objs.size vs)) (classHasDel 217) false := pr_del (X₀.keeps F2.keep)
  rw [Heap.size_push] at N2
  have e : (h'.push { cls := .type "dict", data := .dict #[] }).objs.size = h'.objs.size + 1 := Heap.size_push ..
  repeat (first | lk)
  rw [if_neg (by simpa using hz)]
  repeat (first | lk)
  rw [e]
  exact hq _ _ _ (fun p hp => Heap.lt_size (N1 p hp).1) (Nat.lt_succ_self _) F2 N2
end
end Mine
end T1

section T2
open PySem PySem.W PyProof.Rows
namespace Mine
open PySem.Calls Builtin Builtin.ObjectAttr
set_option maxRecDepth 100000
set_option maxHeartbeats 1600000
theorem tt1 : typeOf (.type "tuple") = pure (.type "type") := by kernel_rfl
theorem tt2 : Manifest.isStub "tuple" = false := by decide +kernel
theorem tt3 (w : World) : findCls (hd.heap_39 w.params) (.type "tuple") (.type "type") "__new__" = some (.val (.builtin "tuple.__new__")) := by kernel_rfl
theorem tt4 : handedIn (.builtin "tuple.__new__") = true := by kernel_rfl
theorem meth_tnew {prog : Program} {w : World} {A : Around} {E : Value → Shared → Prop} {s : Shared} {h₀ : Heap} {L : Addr} {m : Str → Option Value} {pl : Sem Bool} {Q : Value × List Value → Shared → Prop} (F : Fr h₀ L s.heap m) (X₀ : (hd.heap_39 w.params).In h₀) (h : Q (.builtin "tuple.__new__", []) { s with toks := s.toks + 1 }) : wpAny (model prog w) A (getMethod (.type "tuple") "__new__" pl) Q E s :=
  @method_type prog w A E s (hd.heap_39 w.params) L h₀ m "__new__" (.builtin "tuple.__new__") "tuple" pl Q F X₀ tt1 tt2 (tt3 w) tt4 h
local macro_rules | `(tactic| units_room) => `(tactic| ktr_units)
local macro_rules | `(tactic| k_all) => `(tactic| k_extra "ALL")
theorem pnew_con (a b : Str) (ta tb : Tok) (news : List (Addr × Obj)) : ConL 3 100 144 news [.ref 217, .str a ta, .str b tb] (fun v news' => ∃ x d, (∀ p ∈ news, p.1 < d) ∧ d < x ∧ v = .ref x ∧ news' = (x, pairObj d [.str a ta, .str b tb]) :: (d, emptyDict) :: news) := by
  unfold ConL
  k_with_none
  w_top off
  k_fill
  (k_with "ALL" => refine Mine.all_ne (by assumption) (by omega))
  intro w mean mg mb
  intros
  rename_i hret
  cell_enter
  (k_with "getMethod type:tuple" => ((with_reducible show wpAny _ _ (getMethod (Value.type "tuple") "__new__" _) _ _ _); refine' meth_tnew ?cF ?cX ?_; (case cF => k_asm); (case cX => k_asm); k_whole))
  (k_with "call builtin:tuple.__new__" => (refine' call_tnew ?cX ?cF ?cN ?cm ?cz ?_; (case cX => k_asm); (case cF => k_asm); (case cN => k_asm); (case cm => k_mem); (case cz => (show 2 ≤ sizeLine; decide)); k_whole; intro d x hT hdn hdx FT NT))
  k_steps
  rename Fr _ _ _ _ => kF
  rename News _ _ _ _ => kN
  refine hret _ _ _ _ kF (fun p hp => kN p ?_) ⟨x, d, fun p hp => hdn p (.tail _ hp), hdx, rfl, rfl⟩
  rcases List.mem_cons.mp hp with rfl | hp
  · exact .head _
  · rcases List.mem_cons.mp hp with rfl | hp
    · exact .tail _ (.head _)
    · exact .tail _ (.tail _ (.tail _ hp))
end Mine
end T2

section T3
open PySem PySem.W PyProof.Rows
namespace Mine
open PySem.Calls Builtin Builtin.ObjectAttr
set_option maxRecDepth 100000
set_option maxHeartbeats 1600000
theorem under_tc (A : Around) (a b : Value) : A.under (.builtin "type.__call__" ⟨[.ref 217, a, b], []⟩) = { A with depth := A.depth + 1, units := A.units + 1 } := by
  have h1 : (Code.builtin "type.__call__" ⟨[.ref 217, a, b], []⟩).weight = 1 := rfl
  have h2 : (Code.builtin "type.__call__" ⟨[.ref 217, a, b], []⟩).cUnits = 1 := rfl
  have h3 : (Code.builtin "type.__call__" ⟨[.ref 217, a, b], []⟩).envs = [] := rfl
  have h4 : (Code.builtin "type.__call__" ⟨[.ref 217, a, b], []⟩).guards = [] := rfl
  obtain ⟨hd, d, fr, gs, u⟩ := A
  unfold Around.under
  rw [h1, h2, h3, h4]
  cases fr <;> cases gs <;> rfl
section
variable {w : World} {h : Heap} {prog : Program}
theorem pr_self (X : (hd.heap_39 w.params).In h) : Looks (model prog w) h (isSubtype (.ref 217) (.ref 217)) true :=
  Looks.of_peek X (by kernel_rfl)
theorem isI_pr {x dx : Addr} {vs : List Value} (hx : h.get? x = some (pairObj dx vs)) {c : Value} {b : Bool} (hc : Looks (model prog w) h (isSubtype (.ref 217) c) b) :
    Looks (model prog w) h (isInstance (.ref x) c) b := ((Looks.ld hx).andThen .now).andThen hc
theorem fc_new (w : World) : findCls (hd.heap_39 w.params) (.ref 217) (.type "type") "__new__" = some (.get (.builtin "staticmethod.__get__") (.ref 195) .none (.ref 217)) := by kernel_rfl
theorem rc_new (w : World) : recIn (hd.heap_39 w.params) 195 "staticmethod" = some [.ref 144] := by kernel_rfl
theorem ty_new (w : World) : typeIn (hd.heap_39 w.params) (.ref 217) = some (.type "type") := by kernel_rfl
theorem rd_new (w : World) : readsIn (hd.heap_39 w.params) 217 (.type "type") = true := by kernel_rfl
theorem hn_new : handedIn (.ref 144) = true := by kernel_rfl
end
theorem k_oi : builtinKind "object.__init__" = some .slot := by decide +kernel
theorem s_oi : splitId "object.__init__" = some ("object", "__init__") := by decide +kernel
theorem e_oi : entryFor table "object.__init__" = some Builtin.«object.__init__» := entryFor_of_tree (by kernel_rfl)
theorem a_oi (a b c : Value) : argsOk "object.__init__" ⟨[a, b, c], []⟩ := by unfold argsOk; kernel_rfl
section
variable {w : World} {h : Heap} {prog : Program} {A : Around} {R : Result → Shared → Prop} {g : Array GenState} {d : Drawn} {t : Nat} {os : OsState}
theorem pr_subo (X : (hd.heap_39 w.params).In h) : Looks (model prog w) h (isSubtype (.ref 217) (.type "object")) true :=
  Looks.of_peek X (by kernel_rfl)
theorem oi_code {x dx : Addr} {vs : List Value} {a b : Value} (X : (hd.heap_39 w.params).In h) (hx : h.get? x = some (pairObj dx vs)) (hq : R (.ok (.ret .none)) ⟨h, g, d, t, os⟩) :
    codeAny (model prog w) A (.call (.builtin "object.__init__") ⟨[.ref x, a, b], []⟩) R ⟨h, g, d, t, os⟩ := by
  have q1 : (Code.builtin "object.__init__" ⟨[.ref x, a, b], []⟩).quiet = true := Code.quiet_builtin _ (by decide +kernel)
  have t1 := isI_pr (prog := prog) hx (pr_subo X)
  refine codeAny_call_builtin_at q1 e_oi ?_
  refine @check_slot (model prog w) _ _ _ "object.__init__" "object" "__init__" (.ref x) [a, b] [] _ k_oi s_oi t1 (a_oi _ _ _) ?_
  unfold Builtin.«object.__init__»
  have l1 := pr_made (prog := prog) X
  have l2 := pr_init (prog := prog) X
  repeat (first | lk)
  exact hq
end
section
variable {w : World} {prog : Program} {A : Around} {E : Value → Shared → Prop} {s : Shared} {h₀ : Heap} {L : Addr} {m : Str → Option Value} {news : List (Addr × Obj)} {Q : Value → Shared → Prop}
theorem call_pair {a b : Value} (X₀ : (hd.heap_39 w.params).In h₀) (F0 : Fr h₀ L s.heap m) 
    (hq : wpAny (model prog w) { A with depth := A.depth + 1, units := A.units + 1 } (call (.ref 144) [.ref 217, a, b]) (fun v s' => ∃ x d vs, v = .ref x ∧ s'.heap.get? x = some (pairObj d vs) ∧ (hd.heap_39 w.params).In s'.heap ∧ Q (.ref x) s') E { s with toks := s.toks + 1 }) :
    wpAny (model prog w) A (call (.ref 217) [a, b]) Q E s := by
  have X := X₀.keeps F0.keep
  have call := pr_call (prog := prog) X
  have typ := pr_type (prog := prog) X
  have made := pr_made (prog := prog) X
  have hm := pr_mro (prog := prog) X
  obtain ⟨cd, sl, hC0⟩ := c217 w.params
  have hC := X 217 _ hC0
  refine wpAny_call ?_
  refine codeAny_of_tree ?_
  show wpAny _ _ (callAny (.ref 217) _) _ _ _
  refine nd_load hC ?_
  show wpAny _ _ (callAny.viaDunder (.ref 217) _) _ _ _
  unfold callAny.viaDunder
  refine wpAny_bind (call.at ?_)
  dsimp only
  rw [tc_bind]
  refine wpAny_bind (wpAny_pure (wpAny_bind (wpAny_pure ?_)))
  refine wpAny_pure (a := Fin.again (.call (.builtin "type.__call__") ⟨[.ref 217, a, b], []⟩)) (And.intro rfl ?_)
  refine codeAny_call_builtin_at (Code.quiet_builtin _ (by decide +kernel)) entry_typeCall (@check_slot (model prog w) _ _ _ "type.__call__" "type" "__call__" (.ref 217) [a, b] [] _ tc_kind tc_split typ (tc_args _ _ _) ?_)
  rw [under_tc]
  unfold Builtin.«type.__call__»
  repeat ((fail_if_success (with_reducible show wpAny _ _ (getAttr _ _ _) _ _ _)); (fail_if_success (with_reducible show wpAny _ _ (getAttr _ _ _ >>= _) _ _ _)); first | lk)
  refine wpAny_bind (cls_sm (C := 217) (name := "__new__") (mc := .type "type") (p := 195) (f := .ref 144) (rest := []) F0 X₀ (ty_new w) (rd_new w) (fc_new w) (rc_new w) hn_new ?_)
  with_reducible refine wpAny_bind ?_
  with_reducible refine wpAny_holding ?_
  refine wpAny_mono hq (fun v s' hv => ?_) fun _ _ e => e
  obtain ⟨x, d, vs, rfl, hx, X', hQ⟩ := hv
  have t1 := isI_pr (prog := prog) hx (pr_self X')
  have i1 : Looks (model prog w) s'.heap (specialOf (.ref x) "__init__") (some (.builtin "object.__init__")) := ((Looks.ld hx).andThen .now).andThen (pr_init X')
  have b1 : Looks (model prog w) s'.heap (bindSpecial (.builtin "object.__init__") (.ref x)) (.builtin "object.__init__", [.ref x]) := Looks.of_pure (oi_bind _)
  unfold callSpecial?
  repeat (first | with_reducible refine wpAny_call ?_ | lk)
  refine oi_code X' hx ?_
  repeat (first | lk)
  exact hQ
end
end Mine
end T3

section T4
open PySem PySem.W PyProof.Rows
namespace Mine
local macro_rules | `(tactic| walk_at "PAD") => `(tactic| fail "pad")
open PySem.Calls Builtin Builtin.ObjectAttr
set_option maxRecDepth 100000
set_option maxHeartbeats 1600000
section
variable {prog : Program} {w : World} {A : Around} {E : Value → Shared → Prop} {s : Shared} {h₀ : Heap} {L : Addr} {m : Str → Option Value} {news : List (Addr × Obj)}
theorem star_map {M T It l : Addr} {xs : List (Str × Tok)} {a b : Str} {n : Nat} {Q : List Value → Shared → Prop} (hh : A.handled = none) (F : Fr h₀ L s.heap m) (N : News h₀ L s.heap ((M, mapObj T (.builtin "str.strip")) :: (T, tupObj [.ref It]) :: (It, itObj l 0) :: news))
    (hl : (l, lobj (strValues xs) n) ∈ news) (hI : ∀ p ∈ news, p.1 ≠ It) (hx : xs.map (·.1) = [a, b]) (ha : a.length ≤ 1000) (hb : b.length ≤ 1000)
    (h : ∀ t u h' tk', Fr h₀ L h' m → News h₀ L h' news → Q [.str (Txt.strip a) t, .str (Txt.strip b) u] { s with heap := h', toks := tk' }) :
    StarOf (model prog w) A E (.ref M) Q s := by
  unfold StarOf
  have zM := N _ (.head _)
  match xs, hx with
  | [(a', ta), (b', tb)], hx => ?_
  cases hx
  have hsl : 1000 ≤ sizeLine := by decide
  refine not_iter zM.1 ⟨rfl, collect_led hh F N hl hI ?_ (by show 2 ≤ sizeLine; omega) fun ys h' tk' hy hys F' N' => ?_⟩
  · intro p hp
    rcases List.mem_cons.mp hp with rfl | hp
    · exact Nat.le_trans ha hsl
    · rcases List.mem_cons.mp hp with rfl | hp
      · exact Nat.le_trans hb hsl
      · cases hp
  · match ys, hy with
    | [y1, y2], _ =>
      obtain ⟨x1, t1, e1, rfl⟩ := hys 0 _ rfl
      obtain ⟨x2, t2, e2, rfl⟩ := hys 1 _ rfl
      cases e1; cases e2
      exact h _ _ _ _ F' N'
theorem split2_led {x y : Str} {a b : Str} {t u v : Tok} {Q : Value → Shared → Prop} (F : Fr h₀ L s.heap m) (N : News h₀ L s.heap news) (hy : (y.length == 0) = false) (e : Txt.splitMax x y 1 = [a, b]) (hx : x.length ≤ 1000)
    (h : ∀ D l h' k, (∀ p ∈ news, p.1 < D) → l.map (·.1) = [a, b] → a.length ≤ 1000 → b.length ≤ 1000 → Fr h₀ L h' m → News h₀ L h' ((D, lobj (strValues l) 0) :: news) → Q (.ref D) { s with heap := h', toks := k }) : wpAny (model prog w) A (call (.builtin "str.split") [.str x t, .str y u, .int 1 v]) Q E s :=
  splitN2A F N hy (by decide) (fun l h' k e1 _ hsz _ F' N' => by
    rw [e] at e1
    rw [e1] at hsz
    exact h _ l h' k (fun p hp => Heap.lt_size (N p hp).1) e1 (Nat.le_trans (hsz a (by simp)) hx) (Nat.le_trans (hsz b (by simp)) hx) F' N') (Nat.le_trans (Nat.add_le_add_right hx 2) (by decide))
end
local macro_rules | `(tactic| units_room) => `(tactic| ktr_units)
local macro_rules | `(tactic| k_all) => `(tactic| k_extra "ALL")
set_option maxRecDepth 100000 in
set_option maxHeartbeats 1600000 in
theorem parse_con (z a b : Str) (tz : Tok) (hz : z.length ≤ 1000) (hs : Txt.splitMax z "=" 1 = [a, b]) (news : List (Addr × Obj)) : ConL 8 300 211 news [.ref 217, .str z tz] (fun v news' => ∃ x d t u, (∀ p ∈ news, p.1 < d) ∧ d < x ∧ v = .ref x ∧ news' = (x, pairObj d [.str (Txt.strip a) t, .str (Txt.strip b) u]) :: (d, emptyDict) :: news) := by
  unfold ConL
  k_with_none
  w_top off
  k_fill
  (k_with "ALL" => refine Mine.all_ne (by assumption) (by omega))
  intro w mean mg mb
  intros
  rename_i hret
  cell_enter
  (k_with "getAttr type:str" => ((with_reducible show wpAny _ _ (getAttr (Value.type "str") "strip" _) _ _ _); refine' attr_strip ?cF ?cX ?_; (case cF => k_asm); (case cX => k_asm); k_whole))
  (k_with "call builtin:str.split" => ((with_reducible show wpAny _ _ (call (Value.builtin "str.split") [_, _, _]) _ _ _); refine' split2_led ?cF ?cN ?cy ?ce ?cz ?_; (case cF => k_asm); (case cN => k_asm); (case cy => (decide +kernel)); (case ce => exact hs); (case cz => assumption); k_whole; intro D ls hD k hlt hls hla hlb FD ND))
  (k_with "call type:map" => (refine' call_map ?cF ?cN ?cm ?_; (case cF => k_asm); (case cN => k_asm); (case cm => k_mem); k_whole; intro It T M hM hItl hIT hTM FM NM))
  (k_with "StarOf ref" => (refine' star_map ?ch ?cF ?cN ?cm ?ci ?cx ?ca ?cb ?_; (case ch => exact rfl); (case cF => k_asm); (case cN => k_asm); (case cm => k_mem); (case cx => assumption); (case ca => assumption); (case cb => assumption); (case ci => exact all_ne hItl (Nat.le_refl _)); k_whole; intro tS uS hS kS FS NS))
  (k_with "call ref" => ((with_reducible show wpAny _ _ (call (Value.ref 217) _) _ _ _); (refine' call_pair ?cX ?cF ?_; (case cX => k_asm); (case cF => k_asm)); (have hPn := pnew_con (Txt.strip a) (Txt.strip b) tS uS); unfold ConL at hPn; refine' wpAny_call (hPn _ w mean mg mb _ _ _ _ _ _ _ _ _ _ _ _ _ _ _ _ _ ?k1 ?k2 ?k3 ?k4 ?k5 ?kK ?kd ?ku ?kR); (case k1 => k_asm); (case k2 => k_asm); (case k3 => k_asm); (case k4 => k_asm); (case k5 => k_asm); (case kK => exact rfl); (case kd => ktr_room); (case ku => ktr_units); k_whole; rintro v5 news5 h5 tk5 F5 N5 ⟨x5, d5, hdn5, hdx5, rfl, rfl⟩; (refine' ⟨x5, d5, _, rfl, (N5 _ (.head _)).1, Frag.In.keeps ?kY F5.keep, ?_⟩); (case kY => k_asm); k_whole))
  k_steps
  rename Fr _ _ _ _ => kF
  rename News _ _ _ _ => kN
  refine hret _ _ _ _ kF (fun p hp => kN p ?_) ⟨x5, d5, tS, uS, fun p hp => hdn5 p (.tail _ hp), hdx5, rfl, rfl⟩
  rcases List.mem_cons.mp hp with rfl | hp
  · exact .head _
  · rcases List.mem_cons.mp hp with rfl | hp
    · exact .tail _ (.head _)
    · exact .tail _ (.tail _ (.tail _ hp))
end Mine
end T4

section U1
open PySem PySem.W PyProof.Rows
namespace Mine
open PySem.Calls Builtin Builtin.ObjectAttr
set_option maxRecDepth 100000
set_option maxHeartbeats 1600000
theorem k_tgi : builtinKind "tuple.__getitem__" = some .slot := by decide +kernel
theorem s_tgi : splitId "tuple.__getitem__" = some ("tuple", "__getitem__") := by decide +kernel
theorem e_tgi : entryFor table "tuple.__getitem__" = some Builtin.«tuple.__getitem__» := entryFor_of_tree (by kernel_rfl)
theorem a_tgi (a b : Value) : argsOk "tuple.__getitem__" ⟨[a, b], []⟩ := by unfold argsOk; kernel_rfl
theorem bind_tgi (self : Value) : bindSpecial (.builtin "tuple.__getitem__") self = pure (.builtin "tuple.__getitem__", [self]) := slot_tuple_getitem.bind self
section
variable {w : World} {prog : Program} {h : Heap}
theorem pr_gi (X : (hd.heap_39 w.params).In h) : Looks (model prog w) h (typeLookup (.ref 217) "__getitem__") (some (.builtin "tuple.__getitem__")) :=
  looks_findIn X (by kernel_rfl)
theorem pr_seq (X : (hd.heap_39 w.params).In h) : Looks (model prog w) h (seqItemTypes.anyM fun n => isSubtype (.ref 217) (.type n)) false :=
  Looks.of_peek X (by kernel_rfl)
theorem dd_gi (X : (hd.heap_39 w.params).In h) : Looks (model prog w) h (typeLookup (.ref 122) "__getitem__") (some (.builtin "dict.__getitem__")) :=
  looks_findIn X (by kernel_rfl)
theorem dd_seq (X : (hd.heap_39 w.params).In h) : Looks (model prog w) h (seqItemTypes.anyM fun n => isSubtype (.ref 122) (.type n)) false :=
  Looks.of_peek X (by kernel_rfl)
end
section
variable {w : World} {prog : Program} {A : Around} {E : Value → Shared → Prop} {s : Shared}
theorem tail_obj {value slice : Expr} {x : Addr} {o : Obj} {id : String} {i : Value} {Q : Value → Shared → Prop} (hx : s.heap.get? x = some o) (hl : Looks (model prog w) s.heap (typeLookup o.cls "__getitem__") (some (.builtin id)))
    (hg : wpAny (model prog w) A (getItem (.ref x) i) Q E s) (hs : ∃ ops, subscripted slice false (.ref x) i = operate ops (getItem (.ref x) i)) : wpAny (model prog w) A (subscriptTail value slice (.ref x) i) Q E s := by
  obtain ⟨ops, hs⟩ := hs
  have l1 : Looks (model prog w) s.heap (specialOf (.ref x) "__getitem__") (some (.builtin id)) := ((Looks.ld hx).andThen .now).andThen hl
  unfold subscriptTail
  refine wpAny_bind ?_
  rw [getitemInPython_of_ne (by nofun)]
  refine wpAny_bind (l1.here ?_)
  refine wpAny_pure (wpAny_bind ?_)
  rw [hs]
  exact wpAny_operating (wpAny_mono hg (fun r s₃ h₃ => wpAny_bind (wpAny_letTemporaryGo (wpAny_pure h₃))) fun _ _ x => x)
theorem getitem_obj {x : Addr} {o : Obj} {C : Addr} {id : String} {i : Value} {Q : Value → Shared → Prop} (hx : s.heap.get? x = some o) (hC : o.cls = .ref C) (hl : Looks (model prog w) s.heap (typeLookup (.ref C) "__getitem__") (some (.builtin id)))
    (hsq : Looks (model prog w) s.heap (seqItemTypes.anyM fun n => isSubtype (.ref C) (.type n)) false) (hb : ∀ self, bindSpecial (.builtin id) self = pure (.builtin id, [self]))
    (hg : codeAny (model prog w) A (.call (.builtin id) ⟨[.ref x, i], []⟩) (fun r s' => match r with | .ok (.ret v) => Q v s' | .ok _ => False | .error e => E e s') s) : wpAny (model prog w) A (getItem (.ref x) i) Q E s := by
  have l0 : Looks (model prog w) s.heap (typeOf (.ref x)) (.ref C) := hC ▸ (Looks.ld hx).andThen .now
  have l1 : Looks (model prog w) s.heap (specialOf (.ref x) "__getitem__") (some (.builtin id)) := l0.andThen hl
  unfold getItem
  with_reducible refine wpAny_holding ?_
  refine wpAny_bind ?_
  unfold sequenceKey
  refine wpAny_bind (l0.here ?_)
  dsimp only
  refine wpAny_bind (hsq.here ?_)
  refine wpAny_pure ?_
  unfold callSpecial?
  refine wpAny_bind (wpAny_bind (l1.here ?_))
  dsimp only
  refine wpAny_holding ?_
  rw [hb]
  refine wpAny_bind (wpAny_pure ?_)
  exact wpAny_bind (wpAny_mono (wpAny_call hg) (fun v s' hv => wpAny_pure (wpAny_pure hv)) fun _ _ e => e)
theorem tgi_code {R : Result → Shared → Prop} {h : Heap} {g : Array GenState} {d : Drawn} {t : Nat} {os : OsState} {x dx : Addr} {v0 v1 : Value} {u : Tok} {k : Int} {v : Value} (X : (hd.heap_39 w.params).In h) (hx : h.get? x = some (pairObj dx [v0, v1])) (hk : (k = 0 ∧ v = v0) ∨ (k = 1 ∧ v = v1)) (hq : R (.ok (.ret v)) ⟨h, g, d, t, os⟩) :
    codeAny (model prog w) A (.call (.builtin "tuple.__getitem__") ⟨[.ref x, .int k u], []⟩) R ⟨h, g, d, t, os⟩ := by
  have q1 : (Code.builtin "tuple.__getitem__" ⟨[.ref x, .int k u], []⟩).quiet = true := Code.quiet_builtin _ (by decide +kernel)
  have t1 := isI_pr (prog := prog) hx (pr_subt X)
  have t2 : Looks (model prog w) h (specialOf (.int k u) "__index__") (some (.builtin "int.__index__")) := Looks.of_pure (by unfold specialOf; rw [show typeOf (.int k u) = pure (.type "int") from rfl]; exact int_index)
  refine codeAny_call_builtin_at q1 e_tgi ?_
  refine @check_slot (model prog w) _ _ _ "tuple.__getitem__" "tuple" "__getitem__" (.ref x) [.int k u] [] _ k_tgi s_tgi t1 (a_tgi _ _) ?_
  unfold Builtin.«tuple.__getitem__»
  rcases hk with ⟨rfl, rfl⟩ | ⟨rfl, rfl⟩
  all_goals (repeat (first | lk))
  all_goals exact hq
end
end Mine
end U1

section U2
open PySem PySem.W PyProof.Rows
namespace Mine
open PySem.Calls Builtin Builtin.ObjectAttr
set_option maxRecDepth 100000
set_option maxHeartbeats 1600000
theorem tg3 (w : World) : findCls (hd.heap_39 w.params) (.type "tuple") (.type "type") "__getitem__" = some (.val (.builtin "tuple.__getitem__")) := by kernel_rfl
theorem tg4 : handedIn (.builtin "tuple.__getitem__") = true := by kernel_rfl
theorem meth_tgi {prog : Program} {w : World} {A : Around} {E : Value → Shared → Prop} {s : Shared} {h₀ : Heap} {L : Addr} {m : Str → Option Value} {pl : Sem Bool} {Q : Value × List Value → Shared → Prop} (F : Fr h₀ L s.heap m) (X₀ : (hd.heap_39 w.params).In h₀) (h : Q (.builtin "tuple.__getitem__", []) { s with toks := s.toks + 1 }) : wpAny (model prog w) A (getMethod (.type "tuple") "__getitem__" pl) Q E s :=
  @method_type prog w A E s (hd.heap_39 w.params) L h₀ m "__getitem__" (.builtin "tuple.__getitem__") "tuple" pl Q F X₀ tt1 tt2 (tg3 w) tg4 h
section
variable {w : World} {prog : Program} {A : Around} {E : Value → Shared → Prop} {s : Shared} {h₀ : Heap} {L : Addr} {m : Str → Option Value} {news : List (Addr × Obj)} {Q : Value → Shared → Prop}
theorem call_tgi {x dx : Addr} {v0 v1 : Value} {u : Tok} (X₀ : (hd.heap_39 w.params).In h₀) (F0 : Fr h₀ L s.heap m) (N : News h₀ L s.heap news) (hm : (x, pairObj dx [v0, v1]) ∈ news) (hq : Q v1 s) :
    wpAny (model prog w) A (call (.builtin "tuple.__getitem__") [.ref x, .int 1 u]) Q E s :=
  wpAny_call (tgi_code (X₀.keeps F0.keep) (N _ hm).1 (.inr ⟨rfl, rfl⟩) hq)
theorem pr_psub {h : Heap} (X : (hd.heap_39 w.params).In h) : Looks (model prog w) h (Builtin.«issubclass.nested» ⟨[.ref 217, .type "tuple", rawInt 0], []⟩) (.done (.ret (.bool true))) :=
  Looks.of_peek X (by kernel_rfl)
theorem issub_pair (X₀ : (hd.heap_39 w.params).In h₀) (F0 : Fr h₀ L s.heap m) (hq : Q (.bool true) s) : wpAny (model prog w) A (call (.builtin "issubclass") [.ref 217, .type "tuple"]) Q E s := by
  have X := X₀.keeps F0.keep
  have l1 := pr_psub (prog := prog) X
  refine wpAny_call (codeAny_call_builtin PySem.F.plain_issubclass PySem.F.entry_issubclass ?_)
  have ok := PySem.F.args_issubclass_2 (.ref 217) (.type "tuple")
  simp only [checkBuiltinCall, PySem.F.kind_issubclass]
  have hf : wpAny (model prog w) A.in1 (Builtin.«issubclass» ⟨[.ref 217, .type "tuple"], []⟩) (fun fin s' => match fin with | .done f => wants Q E (.ok f) s' | .again c' => c'.quiet = true ∧ codeAny (model prog w) A c' (wants Q E) s') (fun e s' => wants Q E (.error e) s') s := by
    refine issubclass_outer ?_
    exact l1.here hq
  cases hsig : Manifest.signature? "issubclass" with
  | none => exact wpAny_pure hf
  | some sig =>
    simp only [argsOk, hsig] at ok
    have h2 : Bind.checkArgs "issubclass" sig ⟨[.ref 217, .type "tuple"], []⟩ = pure () := ok
    show wpAny _ _ (Bind.checkArgs "issubclass" sig ⟨[.ref 217, .type "tuple"], []⟩) _ _ s
    rw [h2]; exact wpAny_pure hf
theorem type_pair {x dx : Addr} {v0 v1 : Value} (N : News h₀ L s.heap news) (hm : (x, pairObj dx [v0, v1]) ∈ news) (hq : Q (.ref 217) s) : wpAny (model prog w) A (call (.type "type") [.ref x]) Q E s := by
  obtain ⟨hh, g, d, t, os⟩ := s
  exact call_type_obj (N _ hm).1 rfl hq
theorem tail_pair0 {value slice : Expr} {x dx : Addr} {v0 v1 : Value} {u : Tok} (X₀ : (hd.heap_39 w.params).In h₀) (F0 : Fr h₀ L s.heap m) (N : News h₀ L s.heap news) (hm : (x, pairObj dx [v0, v1]) ∈ news) (hq : Q v0 s)
    (hs : subscripted slice false (.ref x) (.int 0 u) = operate [.ref x, .int 0 u] (getItem (.ref x) (.int 0 u)) := by with_unfolding_all rfl) : wpAny (model prog w) A (subscriptTail value slice (.ref x) (.int 0 u)) Q E s := by
  have X := X₀.keeps F0.keep
  exact tail_obj (N _ hm).1 (pr_gi X) (getitem_obj (N _ hm).1 rfl (pr_gi X) (pr_seq X) bind_tgi (tgi_code X (N _ hm).1 (.inl ⟨rfl, rfl⟩) hq)) ⟨_, hs⟩
end
local macro_rules | `(tactic| units_room) => `(tactic| ktr_units)
local macro_rules | `(tactic| k_all) => `(tactic| k_extra "ALL")
theorem get_con (x d : Addr) (v0 v1 : Value) (news : List (Addr × Obj)) (hm : (x, pairObj d [v0, v1]) ∈ news) : ConL 5 200 75 news [.ref 189, .ref x, .ref 217] (fun v news' => v = v1 ∧ news' = news) := by
  unfold ConL
  k_with_none
  w_top off
  k_fill
  (k_with "ALL" => refine Mine.all_ne (by assumption) (by omega))
  intro w mean mg mb
  intros
  rename_i hret
  (refine' code_def ?k1 ?k2 ?k3 ?k4 ?k5 ?kA ?kF ?kK ?k6 ?k7 ?k8 ?k9 ?kB ?_ ?c2 ?c3 ?c4 ?c5; (case kA => exact rfl); (case kF => exact rfl); (case kK => assumption); (case k1 => k_asm); (case k2 => k_asm); (case k3 => k_asm); (case k4 => k_asm); (case k5 => k_asm); (case k6 => k_is); (case k7 => k_is); (case k8 => ktr_room); (case k9 => exact binds_K (by k_in) rfl (by k_is) rfl rfl rfl); (case c5 => decide); (case kB => exact locs rfl); (case c2 => exact rfl); (case c3 => exact rfl); (case c4 => exact rfl); k_whole; intro g' L' h' FG' F' N' B' X' T'; (try dsimp only); (try k_lift B'); (try k_fold))
  (k_with "getMethod type:tuple" => ((with_reducible show wpAny _ _ (getMethod (Value.type "tuple") "__getitem__" _) _ _ _); refine' meth_tgi ?cF ?cX ?_; (case cF => k_asm); (case cX => k_asm); k_whole))
  (k_with "call builtin:tuple.__getitem__" => (refine' call_tgi ?cX ?cF ?cN ?cm ?_; (case cX => k_asm); (case cF => k_asm); (case cN => k_asm); (case cm => exact hm); k_whole))
  (k_with "call type:type" => (refine' type_pair ?cN ?cm ?_; (case cN => k_asm); (case cm => exact hm); k_whole))
  (k_with "call builtin:issubclass" => (refine' issub_pair ?cX ?cF ?_; (case cX => k_asm); (case cF => k_asm); k_whole))
  k_steps
  rename Fr _ _ _ _ => kF
  rename News _ _ _ _ => kN
  exact hret _ _ _ _ kF kN ⟨rfl, rfl⟩
end Mine
end U2

section U3
open PySem PySem.W PyProof.Rows
namespace Mine
open PySem.Calls Builtin Builtin.ObjectAttr
set_option maxRecDepth 100000
set_option maxHeartbeats 1600000
theorem ga217 (w : World) : findIn (hd.heap_39 w.params) (.ref 217) "__getattribute__" = some (some (.builtin "tuple.__getattribute__")) := by kernel_rfl
theorem fo217 (w : World) (od : Option Obj) : findObj (hd.heap_39 w.params) 217 od "value" = some (.bind (.ref 75) (.ref 189)) := by kernel_rfl
theorem e_tga : entryFor table "tuple.__getattribute__" = some Builtin.«object.__getattribute__» :=
  entryFor_alias (id' := "object.__getattribute__") (by kernel_rfl) (by first | rfl | decide +kernel | (unfold String.splitOn; simp +decide [String.splitOnAux])) (by decide +kernel) (by kernel_rfl)
theorem k_tga : builtinKind "tuple.__getattribute__" = some .slot := by decide +kernel
theorem s_tga : splitId "tuple.__getattribute__" = some ("tuple", "__getattribute__") := by decide +kernel
section
variable {w : World} {prog : Program} {A : Around} {E : Value → Shared → Prop} {s : Shared} {h₀ : Heap} {L : Addr} {m : Str → Option Value} {news : List (Addr × Obj)} {Q : Value → Shared → Prop} {expr : Bool}
theorem pr_hook {h : Heap} (X : (hd.heap_39 w.params).In h) : Looks (model prog w) h (hookBefore (.ref 217)) none :=
  Looks.of_peek X (by kernel_rfl)
theorem attr_value {x d : Addr} {v0 v1 : Value} (X₀ : (hd.heap_39 w.params).In h₀) (F0 : Fr h₀ L s.heap m) (N : News h₀ L s.heap news) (hm : (x, pairObj d [v0, v1]) ∈ news) (hd' : (d, emptyDict) ∈ news)
    (h : ∀ E', wpAny (model prog w) A.in1 (call (.ref 75) [.ref 189, .ref x, .ref 217]) (fun v s' => wpAny (model prog w) A (handedOut v) Q E s') E' { s with toks := s.toks + 1 }) :
    wpAny (model prog w) A (getAttr (.ref x) "value" expr) Q E s := by
  have X := X₀.keeps F0.keep
  have I : InstAt s.heap x (pairObj d [v0, v1]) 217 (some emptyDict) := ⟨(N _ hm).1, rfl, rfl, (N _ hd').1⟩
  obtain ⟨hh, g, dr, t, os⟩ := s
  have L0 := I.type (M := model prog w)
  have L1 := looks_findIn (M := model prog w) X (ga217 w)
  have L2 := looks_find (M := model prog w) X I (fo217 w _)
  have L3 := pr_hook (prog := prog) X
  have t1 := isI_pr (prog := prog) (N _ hm).1 (pr_subt X)
  unfold getAttr getAttrBy
  refine wpAny_bind (wpAny_mkText (wpAny_holding (wpAny_bind (L0.at (wpAny_bind (L1.at ?_))))))
  show wpAny _ _ (getAttrByItsOwn _ _ _ _ _ _) _ _ _
  unfold getAttrByItsOwn
  refine wpAny_bind (L3.at (wpAny_bind (wpAny_attempt (wpAny_holding ?_))))
  unfold callGetattribute
  rw [show (expr && onTheHeap (Value.builtin "tuple.__getattribute__")) = false from Bool.and_false _, if_neg (by decide)]
  unfold boundAndCalled
  rw [PySem.F.slot_tuple_getattribute.bind]
  refine wpAny_bind (wpAny_pure ?_)
  show wpAny _ _ (call (.builtin "tuple.__getattribute__") [.ref x, .str "value" t]) _ _ _
  refine wpAny_call ?_
  refine codeAny_call_builtin PySem.F.slot_tuple_getattribute.plain e_tga ?_
  refine @check_slot (model prog w) _ _ _ "tuple.__getattribute__" "tuple" "__getattribute__" (.ref x) [.str "value" t] [] _ k_tga s_tga t1 (PySem.F.args_tuple_getattribute_2 _ _) ?_
  unfold Builtin.«object.__getattribute__»
  repeat ((fail_if_success (with_reducible show wpAny _ _ (bindTo _ _ _ _) _ _ _)); first | lk)
  show wpAny _ _ (holding [.ref 189] (call (.ref 75) [.ref 189, .ref x, .ref 217]) >>= ret) _ _ _
  exact wpAny_bind (wpAny_holding (wpAny_mono (h _) (fun v s' z => wpAny_pure z) fun _ _ z => z))
end
end Mine
end U3

section V1
open PySem PySem.W PyProof.Rows
namespace Mine
open PySem.Calls Builtin Builtin.ObjectAttr
set_option maxRecDepth 100000
set_option maxHeartbeats 1600000
def ents (w : World) (B : List (Str × Tok × Addr)) : Array DictEntry := (B.map fun e => (⟨hashStr w e.1, .str e.1 e.2.1, .ref e.2.2⟩ : DictEntry)).toArray
def lookB (B : List (Str × Tok × Addr)) (k : Str) : Option Addr := (B.find? fun e => e.1 == k).map fun e => e.2.2
section
variable {w : World} {prog : Program} {A : Around} {E : Value → Shared → Prop} {s : Shared}
theorem keysOf_ents (B : List (Str × Tok × Addr)) : PySem.KeysOf (PySem.strKind prog w) (ents w B) := by
  intro e he
  simp only [ents, List.mem_toArray, List.mem_map] at he
  obtain ⟨x, _, rfl⟩ := he
  exact ⟨x.1, by simp [PySem.strKind, Value.isStrOf], rfl⟩
theorem get_ents (B : List (Str × Tok × Addr)) (k : Str) : findBy Value.isStrOf (ents w B) k = (lookB B k).map .ref := by
  unfold findBy ents lookB
  rw [← Array.find?_toList]
  induction B with
  | nil => rfl
  | cons e B ih =>
    simp only [List.map_cons, List.toList_toArray, List.find?_cons] at ih ⊢
    have e1 : Value.isStrOf k (.str e.1 e.2.1) = (e.1 == k) := rfl
    rw [e1]
    cases e.1 == k with
    | true => rfl
    | false => simpa using ih
theorem dictGet_book {bx dx : Addr} {B : List (Str × Tok × Addr)} {n : Nat} {k : Str} {t : Tok} {Q : Option Value → Shared → Prop} (ho : s.heap.get? bx = some (ddObj dx (ents w B) n)) (h : Q ((lookB B k).map .ref) { s with toks := s.toks + 1 }) :
    wpAny (model prog w) A (dictGet bx (.str k t)) Q E s := by
  have hkey : (PySem.strKind prog w).is k (.str k t) = true := by simp [PySem.strKind, Value.isStrOf]
  unfold dictGet
  try with_reducible refine wpAny_holding ?_
  refine wpAny_bind ((PySem.strKind prog w).pyHash hkey (wpAny_bind (wpAny_dictFind_of (knd := PySem.strKind prog w) (s := { s with toks := s.toks + 1 }) hkey ho rfl (keysOf_ents B) ?_)))
  have hg := get_ents (w := w) B k
  rw [findBy_of_findIdx?] at hg
  show wpAny _ _ (match Array.findIdx? (fun e => Value.isStrOf k e.key) (ents w B) with | some i => _ | none => _) _ _ _
  cases hi : (ents w B).findIdx? fun e => Value.isStrOf k e.key with
  | none => rw [hi] at hg; rw [← hg] at h; exact wpAny_pure h
  | some i => rw [hi] at hg; rw [← hg] at h; exact wpAny_bind (wpAny_dictEntries (s := { s with toks := s.toks + 1 }) ho rfl (wpAny_pure h))
end
end Mine
end V1

section V2
open PySem PySem.W PyProof.Rows
namespace Mine
open PySem.Calls Builtin Builtin.ObjectAttr
set_option maxRecDepth 100000
set_option maxHeartbeats 1600000
theorem k_dgi : builtinKind "dict.__getitem__" = some .method := by decide +kernel
theorem s_dgi : splitId "dict.__getitem__" = some ("dict", "__getitem__") := by decide +kernel
theorem e_dgi : entryFor table "dict.__getitem__" = some Builtin.«dict.__getitem__» := entryFor_of_tree (by kernel_rfl)
theorem a_dgi (a b : Value) : argsOk "dict.__getitem__" ⟨[a, b], []⟩ := by unfold argsOk; kernel_rfl
theorem check_method {M : Model} {A : Around} {E : Value → Shared → Prop} {s : Shared} {i owner n : String} {self : Value} {rest : List Value} {kw : List (Str × Value)} {Q : Unit → Shared → Prop}
    (hk : builtinKind i = some .method) (hs : splitId i = some (owner, n)) (hi : Looks M s.heap (isInstance self (.type owner)) true) (ha : argsOk i ⟨self :: rest, kw⟩) (q : Q () s) :
    wpAny M A (checkBuiltinCall i ⟨self :: rest, kw⟩) Q E s := by
  simp only [checkBuiltinCall, hk, hs]
  refine wpAny_bind (hi.here ?_)
  simp only [Bool.not_true, Bool.false_eq_true, if_false]
  cases hsig : Manifest.signature? i with
  | none => exact wpAny_pure q
  | some sig =>
    simp only [argsOk, hsig] at ha
    have h2 : Bind.checkArgs i sig ⟨self :: rest, kw⟩ = pure () := ha
    show wpAny _ _ (Bind.checkArgs i sig ⟨self :: rest, kw⟩) _ _ s
    rw [h2]; exact wpAny_pure q
section
variable {w : World} {prog : Program} {A : Around} {E : Value → Shared → Prop} {h : Heap} {g : Array GenState} {d : Drawn} {t : Nat} {os : OsState} {R : Result → Shared → Prop} {bx dx : Addr} {B : List (Str × Tok × Addr)} {n : Nat} {k : Str} {u : Tok}
theorem isI_bk (hx : h.get? bx = some (ddObj dx (ents w B) n)) {c : Value} {b : Bool} (hc : Looks (model prog w) h (isSubtype (.ref 122) c) b) :
    Looks (model prog w) h (isInstance (.ref bx) c) b := ((Looks.ld hx).andThen .now).andThen hc
theorem ty_bk (hx : h.get? bx = some (ddObj dx (ents w B) n)) : Looks (model prog w) h (typeOf (.ref bx)) (.ref 122) := (Looks.ld hx).andThen .now
theorem lk_miss (X : (hd.heap_39 w.params).In h) : Looks (model prog w) h (typeLookup (.ref 122) "__missing__") (some (.ref 112)) :=
  looks_findIn X (by kernel_rfl)
theorem bd_miss (X : (hd.heap_39 w.params).In h) (self : Value) : Looks (model prog w) h (bindSpecial (.ref 112) self) (.ref 112, [self]) :=
  bind_fn X self (by kernel_rfl)
theorem dgi_hit {a : Addr} (X : (hd.heap_39 w.params).In h) (hx : h.get? bx = some (ddObj dx (ents w B) n)) (hk : lookB B k = some a) (hq : R (.ok (.ret (.ref a))) ⟨h, g, d, t + 1, os⟩) :
    codeAny (model prog w) A (.call (.builtin "dict.__getitem__") ⟨[.ref bx, .str k u], []⟩) R ⟨h, g, d, t, os⟩ := by
  have q1 : (Code.builtin "dict.__getitem__" ⟨[.ref bx, .str k u], []⟩).quiet = true := Code.quiet_builtin _ (by decide +kernel)
  have t1 := isI_bk (prog := prog) hx (lk_subd X)
  refine codeAny_call_builtin_at q1 e_dgi ?_
  refine @check_method (model prog w) _ _ _ "dict.__getitem__" "dict" "__getitem__" (.ref bx) [.str k u] [] _ k_dgi s_dgi t1 (a_dgi _ _) ?_
  unfold Builtin.«dict.__getitem__»
  repeat ((fail_if_success (with_reducible show wpAny _ _ (dictGet _ _ >>= _) _ _ _)); (fail_if_success (with_reducible show wpAny _ _ (dictGet _ _) _ _ _)); first | lk)
  refine wpAny_bind (dictGet_book hx ?_)
  rw [hk]
  exact wpAny_pure hq
theorem dgi_miss (X : (hd.heap_39 w.params).In h) (hx : h.get? bx = some (ddObj dx (ents w B) n)) (hk : lookB B k = none) (hs : (bx == sysModules) = false)
    (hq : wpAny (model prog w) A.in1 (call (.ref 112) [.ref bx, .str k u]) (fun v s' => R (.ok (.ret v)) s') (fun e s' => R (.error e) s') ⟨h, g, d, t + 1, os⟩) :
    codeAny (model prog w) A (.call (.builtin "dict.__getitem__") ⟨[.ref bx, .str k u], []⟩) R ⟨h, g, d, t, os⟩ := by
  have q1 : (Code.builtin "dict.__getitem__" ⟨[.ref bx, .str k u], []⟩).quiet = true := Code.quiet_builtin _ (by decide +kernel)
  have t1 := isI_bk (prog := prog) hx (lk_subd X)
  have t2 := ty_bk (prog := prog) hx
  have l1 := lk_miss (prog := prog) X
  have l2 := bd_miss (prog := prog) X (.ref bx)
  refine codeAny_call_builtin_at q1 e_dgi ?_
  refine @check_method (model prog w) _ _ _ "dict.__getitem__" "dict" "__getitem__" (.ref bx) [.str k u] [] _ k_dgi s_dgi t1 (a_dgi _ _) ?_
  unfold Builtin.«dict.__getitem__»
  repeat ((fail_if_success (with_reducible show wpAny _ _ (dictGet _ _ >>= _) _ _ _)); (fail_if_success (with_reducible show wpAny _ _ (dictGet _ _) _ _ _)); first | lk)
  refine wpAny_bind (dictGet_book hx ?_)
  rw [hk]
  refine wpAny_bind (wpAny_missed_other hs ?_)
  dsimp only
  refine wpAny_bind (t2.at ?_)
  rw [if_pos (by decide)]
  refine wpAny_bind ?_
  unfold callSpecial?
  refine wpAny_bind ((t2.andThen l1 : Looks (model prog w) h (specialOf (.ref bx) "__missing__") _).at ?_)
  dsimp only
  refine wpAny_holding ?_
  refine wpAny_bind (l2.at ?_)
  rw [Around.under_plainId (by decide +kernel) _]
  refine wpAny_bind (wpAny_mono hq (fun v s' hv => ?_) fun _ _ e => e)
  refine wpAny_pure ?_
  exact wpAny_bind (wpAny_rule (wpAny_pure hv))
end
end Mine
end V2

section V0
open PySem PySem.W PyProof.Rows
namespace Mine
open PySem.Calls
section
variable {α : Type} {M : Model} {A : Around} {c : Code} {E : Value → Shared → Prop} {s : Shared} {env : Env}
abbrev pAt (M : Model) (A : Around) (c : Code) (t : Sem α) (Q : α → Shared → Prop) (E : Value → Shared → Prop) (s : Shared) : Prop := PySem.wpAt M A c t Q E s
theorem at_pure {a : α} {Q : α → Shared → Prop} (h : Q a s) : pAt M A c (pure a) Q E s := PySem.wpAt_of_wpAny (wpAny_pure h)
theorem at_spliced_cons {x : Sem Value} {rest : List (Bool × Sem Value)} {Q : List Value → Shared → Prop}
    (h : pAt M A c x (fun v s₁ => pAt M A c (spliced rest) (fun vs s₂ => Q (v :: vs) s₂) E s₁) E s) : pAt M A c (spliced ((false, x) :: rest)) Q E s := by
  unfold pAt
  rw [spliced]
  refine PySem.wpAt_bind (PySem.wpAt_mono h (fun v s₁ h₁ => ?_) fun _ _ x => x)
  simp only [Bool.false_eq_true, if_false]
  exact PySem.wpAt_bind (at_pure (PySem.wpAt_bind (ks_wpAt_holding (PySem.wpAt_mono h₁ (fun vs s₂ h₂ => at_pure h₂) fun _ _ x => x))))
theorem at_evalArgs {f : Value} {x : Sem Value} {rest : List (Bool × Sem Value)} {Q : Args → Shared → Prop}
    (h : pAt M A c (spliced ((false, x) :: rest)) (fun vs s' => Q ⟨vs, []⟩ s') E s) : pAt M A c (evalArgs f true ((false, x) :: rest) []) Q E s := by
  unfold evalArgs pAt
  show PySem.wpAt M A c (spliced ((false, x) :: rest) >>= _) Q E s
  refine PySem.wpAt_bind (PySem.wpAt_mono h (fun vs s' h' => ?_) fun _ _ x => x)
  refine PySem.wpAt_of_wpAny (wpAny_holding ?_)
  exact wpAny_bind (wpAny_pure (wpAny_bind (wpAny_pure (wpAny_pure h'))))
theorem at_callWith {pos : Pos} {id : String} {args : List (Bool × Sem Value)} {Q : Value → Shared → Prop} (hplain : args.any (·.1) = false)
    (h : pAt M A c (evalArgs (.builtin id) true args []) (fun a s₁ => wpAny M A (call (.builtin id) a.pos a.kw) Q E s₁) E s) :
    pAt M A c (callWith pos (.builtin id) [] args []) Q E s := by
  unfold callWith pAt
  refine PySem.wpAt_bind (ks_wpAt_holding (PySem.wpAt_mono h (fun a s₁ h₁ => PySem.wpAt_of_wpAny (wpAny_bind (wpAny_standAt ?_))) fun _ _ x => x))
  simp only [hplain, List.any_nil, Bool.or_false]
  refine wpAny_bind (wpAny_pure ?_)
  exact wpAny_bind (wpAny_mono h₁ (fun r s₂ hr => wpAny_bind (wpAny_holding (wpAny_point (wpAny_pure hr)))) fun _ _ x => x)
/-- `return g(x, y, z)(w)`: the third argument read in the activation itself. -/
theorem at_ret3 {x y z fn k : Expr} {pos p1 p2 : Pos} {id : String} {Q : Flow → Shared → Prop}
    (h : wpAny M A (eval fn env) (fun f s₀ => f = .builtin id ∧ wpAny M A (eval x env) (fun a s₁ => wpAny M A (eval y env) (fun b s₂ =>
      Stop (pAt M A c (eval z env) (fun d s₃ => wpAny M A (call (.builtin id) [a, b, d]) (fun g s₄ => wpAny M A (callWith p2 g [] (backTo p2 (starEach [k] env)) []) (fun v => Q (.ret v)) E s₄) E s₃) E s₂)) E s₁) E s₀) E s)

    (he1 : eval (.Call (.Call fn [x, y, z] [] p1) [k] [] p2) env = (do callWith p2 (← eval (.Call fn [x, y, z] [] p1) env) [] (backTo p2 (starEach [k] env)) (backToKw p2 (keywordEach [] env))) := by rfl)
    (he2 : eval (.Call fn [x, y, z] [] p1) env = (do callWith p1 (← eval fn env) [] (backTo p1 (starEach [x, y, z] env)) (backToKw p1 (keywordEach [] env))) := by rfl)
    (hst : starEach [x, y, z] env = [(false, eval x env), (false, eval y env), (false, eval z env)] := by rfl) :
    pAt M A c (exec (.Return (some (.Call (.Call fn [x, y, z] [] p1) [k] [] p2)) pos) env) Q E s := by
  refine ks_wpAt_Return_some ?_
  rw [he1]
  refine PySem.wpAt_bind ?_
  rw [he2]
  refine PySem.wpAt_bind (PySem.wpAt_of_wpAny (wpAny_mono h (fun f s₀ h₀ => ?_) fun _ _ e => e))
  obtain ⟨rfl, h₀⟩ := h₀
  rw [hst]
  refine at_callWith rfl (at_evalArgs (at_spliced_cons (PySem.wpAt_of_wpAny (wpAny_mono h₀ (fun a s₁ h₁ => at_spliced_cons (PySem.wpAt_of_wpAny (wpAny_mono h₁ (fun b s₂ h₂ => at_spliced_cons (PySem.wpAt_mono h₂ (fun d s₃ h₃ => ?_) fun _ _ e => e)) fun _ _ e => e))) fun _ _ e => e))))
  refine at_pure (wpAny_mono h₃ (fun g s₄ h₄ => ?_) fun _ _ e => e)
  exact PySem.wpAt_of_wpAny h₄
theorem at_super {prog : Program} {w : World} {attr : Str} {p0 p1 pos : Pos} {Q : Value → Shared → Prop} (h : pAt (model prog w) A c (attributeBase (.Call (.Name "super" p0) [] [] p1) attr env (eval (.Call (.Name "super" p0) [] [] p1) env)) (fun so s₁ => wpAny (model prog w) A (getAttr so attr true) Q E s₁) E s)
    (he : eval (.Attribute (.Call (.Name "super" p0) [] [] p1) attr pos) env = (do
      let ov ← attributeBase (.Call (.Name "super" p0) [] [] p1) attr env (eval (.Call (.Name "super" p0) [] [] p1) env)
      standAt pos.atName
      let r ← holding [ov] (getAttr ov attr true)
      letTemporaryGo (.Call (.Name "super" p0) [] [] p1) ov r
      pure r) := by rfl) : pAt (model prog w) A c (eval (.Attribute (.Call (.Name "super" p0) [] [] p1) attr pos) env) Q E s := by
  rw [he]
  exact PySem.wpAt_bind (PySem.wpAt_mono h (fun so s₁ h₁ => PySem.wpAt_of_wpAny (wpAny_bind (wpAny_standAt (wpAny_bind (wpAny_holding (wpAny_mono h₁ (fun r s₂ h₂ => wpAny_bind (wpAny_letTemporaryGo (wpAny_pure h₂))) fun _ _ e => e)))))) fun _ _ e => e)
end
end Mine
end V0

section V4
open PySem PySem.W PyProof.Rows
namespace Mine
open PySem.Calls Builtin Builtin.ObjectAttr
set_option maxRecDepth 100000
set_option maxHeartbeats 1600000
abbrev bmObj (id : String) (x : Addr) : Obj := { cls := .type "builtin_function_or_method", data := .fields #[.builtin id, .ref x] }
theorem slot_mdget : Slot "method_descriptor" "__get__" "method_descriptor.__get__" :=
  .of (owner := "method_descriptor") (n := "__get__") (by rw [typeLookup_type, builtinLookup_eq_fast]; kernel_rfl) (by decide +kernel) (by decide +kernel) (by decide +kernel) (.inl (by decide +kernel)) (by rw [isSubtype_type]; kernel_rfl)
theorem entry_mdget : entryFor table "method_descriptor.__get__" = some Builtin.«method_descriptor.__get__» := entryFor_of_tree (by kernel_rfl)
theorem args_mdget (a b c : Value) : argsOk "method_descriptor.__get__" ⟨[a, b, c], []⟩ := by unfold argsOk; kernel_rfl
theorem type_ddm : typeOf (.builtin "collections.defaultdict.__missing__") = pure (.type "method_descriptor") := by show builtinType _ = _; rw [builtinType_eq_fast]; kernel_rfl
section
variable {w : World} {prog : Program} {A : Around} {E : Value → Shared → Prop} {h : Heap} {g : Array GenState} {d : Drawn} {t : Nat} {os : OsState}
theorem own_ddm (X : (hd.heap_39 w.params).In h) : Looks (model prog w) h (classOwn (.type "collections.defaultdict") "__missing__") (some (.builtin "collections.defaultdict.__missing__")) :=
  Looks.of_peek X (by kernel_rfl)
theorem opq_dd (X : (hd.heap_39 w.params).In h) : Looks (model prog w) h (opaqueClassAbove (.ref 122)) none := looks_opaque X (by kernel_rfl)
theorem owner_ddm : (".".intercalate ("collections.defaultdict.__missing__".cutAt '.').dropLast) = "collections.defaultdict" := by decide +kernel
theorem mdget {x : Addr} {o : Obj} {Q : Fin → Shared → Prop} (X : (hd.heap_39 w.params).In h) (hx : h.get? x = some o) (hc : o.cls = .ref 122) (hq : Q (.done (.ret (.ref h.objs.size))) ⟨h.push (bmObj "collections.defaultdict.__missing__" x), g, d, t, os⟩) :
    wpAny (model prog w) A (Builtin.«method_descriptor.__get__» ⟨[.builtin "collections.defaultdict.__missing__", .ref x, .ref 122], []⟩) Q E ⟨h, g, d, t, os⟩ := by
  obtain ⟨c, di, da, sl⟩ := o
  cases hc
  have l1 : Looks (model prog w) h (isSubtype (.ref 122) (.type (".".intercalate ("collections.defaultdict.__missing__".cutAt '.').dropLast))) true := by rw [owner_ddm]; exact lk_subdd X
  unfold Builtin.«method_descriptor.__get__»
  repeat (first | lk)
  exact hq
theorem ssga {so x : Addr} {o : Obj} {tk : Tok} {Q : Fin → Shared → Prop} (X : (hd.heap_39 w.params).In h) (hso : h.get? so = some (ks_superObj 122 x 122)) (hx : h.get? x = some o) (hc : o.cls = .ref 122) (hne : x ≠ 122)
    (hq : Q (.done (.ret (.ref h.objs.size))) ⟨h.push (bmObj "collections.defaultdict.__missing__" x), g, d, t, os⟩) :
    wpAny (model prog w) A (Builtin.«super.__getattribute__» ⟨[.ref so, .str "__missing__" tk], []⟩) Q E ⟨h, g, d, t, os⟩ := by
  have l1 := own_ddm (prog := prog) X
  have l2 := opq_dd (prog := prog) X
  have l3 := lk_mro (prog := prog) X
  have l4 : Looks (model prog w) h (typeOf (.builtin "collections.defaultdict.__missing__")) (.type "method_descriptor") := Looks.of_pure type_ddm
  have l5 : Looks (model prog w) h (typeLookup (.type "method_descriptor") "__get__") (some (.builtin "method_descriptor.__get__")) := Looks.of_pure slot_mdget.lookup
  have hT : (⟨h, g, d, t, os⟩ : Shared).TypeIs (.builtin "collections.defaultdict.__missing__") "method_descriptor" := type_ddm
  have hb : (Value.ref x == Value.ref 122) = false := by simp [hne]
  have hn : (("__missing__" : Str) == ("__class__" : Str)) = false := by decide +kernel
  unfold Builtin.«super.__getattribute__»
  have hdt : (ks_superObj 122 x 122).data = .fields #[.ref 122, .ref x, .ref 122] := rfl
  have f0 : (#[.ref 122, .ref x, .ref 122] : Array Value)[0]? = some (.ref 122) := rfl
  have f1 : (#[.ref 122, .ref x, .ref 122] : Array Value)[1]? = some (.ref x) := rfl
  have f2 : (#[.ref 122, .ref x, .ref 122] : Array Value)[2]? = some (.ref 122) := rfl
  repeat (first
    | (with_reducible refine wpAny_field hso hdt f0 ?_) | (with_reducible refine wpAny_field hso hdt f1 ?_) | (with_reducible refine wpAny_field hso hdt f2 ?_)
    | (with_reducible refine ks_wpAny_notOpaque l2 ?_)
    | (with_reducible refine Looks.at l3 ?_)
    | (with_reducible refine Looks.at l1 ?_)
    | (with_reducible refine Looks.at l5 ?_)
    | (with_reducible refine wpAny_typeOf hT ?_)
    | (with_reducible refine mdget X hx hc ?_)
    | (with_reducible refine wpAny_call_entry slot_mdget hT entry_mdget ?_ (args_mdget _ _ _))
    | (with_reducible refine ⟨_, rfl, ?_⟩)
    | (simp only [hn, hb, Bool.or_false, Bool.false_eq_true, if_false])
    | wp_step
    | dsimp only)
  exact hq
theorem attr_super {s : Shared} {expr : Bool} {Q : Value → Shared → Prop} {so x : Addr} {o : Obj} (X : (hd.heap_39 w.params).In s.heap) (hso : s.heap.get? so = some (ks_superObj 122 x 122)) (hx : s.heap.get? x = some o) (hc : o.cls = .ref 122) (hne : x ≠ 122)
    (hq : Q (.ref s.heap.objs.size) { s with heap := s.heap.push (bmObj "collections.defaultdict.__missing__" x), toks := s.toks + 1 }) :
    wpAny (model prog w) A (getAttr (.ref so) "__missing__" expr) Q E s := by
  obtain ⟨h, g, d, t, os⟩ := s
  have hlk := PySem.F.ks_slot_super_ga.lookup
  have hT : ∀ t', (⟨h, g, d, t', os⟩ : Shared).TypeIs (.ref so) "super" := fun _ => ⟨_, hso, rfl⟩
  unfold getAttr getAttrBy
  refine wpAny_bind (wpAny_mkText (wpAny_holding (wpAny_bind (wpAny_typeOf (hT _) (wpAny_bind (wpAny_of_eq hlk ?_))))))
  show wpAny _ _ (getAttrByItsOwn (.ref so) (.str "__missing__" t) (.type "super") (.builtin "super.__getattribute__") true expr) _ _ _
  unfold getAttrByItsOwn hookBefore callGetattribute
  rw [show (expr && onTheHeap (Value.builtin "super.__getattribute__")) = false from Bool.and_false _, if_neg (by decide : ¬ (false = true))]
  unfold boundAndCalled
  refine wpAny_bind (wpAny_of_eq (show (if onTheHeap (.type "super") then typeLookup (.type "super") "__getattr__" else pure none) = pure none from rfl) ?_)
  refine wpAny_bind (wpAny_attempt (wpAny_holding ?_))
  refine wpAny_bind (wpAny_of_eq (PySem.F.ks_slot_super_ga.bind _) ?_)
  refine wpAny_mono (Q := fun v s' => v = .ref h.objs.size ∧ s' = ⟨h.push (bmObj "collections.defaultdict.__missing__" x), g, d, t + 1, os⟩) (E := fun _ _ => False)
    (wpAny_call_entry PySem.F.ks_slot_super_ga (hT _) PySem.F.ks_entry_super_ga (ssga X hso hx hc hne ⟨_, rfl, rfl, rfl⟩) (PySem.F.ks_gaArgs_super _ _)) (fun v s' hv => ?_) fun _ _ z => z.elim
  obtain ⟨rfl, rfl⟩ := hv
  exact wpAny_pure hq
end
end Mine
end V4

section V5
open PySem PySem.W PyProof.Rows
namespace Mine
open PySem.Calls Builtin Builtin.ObjectAttr
set_option maxRecDepth 100000
set_option maxHeartbeats 1600000
theorem ga122 (w : World) : findIn (hd.heap_39 w.params) (.ref 122) "__getattribute__" = some (some (.builtin "collections.defaultdict.__getattribute__")) := by kernel_rfl
theorem fo122 (w : World) : findObj (hd.heap_39 w.params) 122 (some emptyDict) "_frozen" = some .missing := by kernel_rfl
theorem e_gattr : entryFor table "getattr" = some Builtin.«getattr» := entryFor_of_tree (by kernel_rfl)
theorem k_gattr : builtinKind "getattr" = none := by decide +kernel
theorem p_gattr : plainId "getattr" = true := by decide +kernel
theorem a_gattr (a b c : Value) : argsOk "getattr" ⟨[a, b, c], []⟩ := by unfold argsOk; kernel_rfl
theorem k_dga : builtinKind "collections.defaultdict.__getattribute__" = some .slot := by decide +kernel
theorem s_dga : splitId "collections.defaultdict.__getattribute__" = some ("collections.defaultdict", "__getattribute__") := by decide +kernel
theorem e_dga : entryFor table "collections.defaultdict.__getattribute__" = some Builtin.«object.__getattribute__» :=
  entryFor_alias (id' := "object.__getattribute__") (by kernel_rfl) (by first | rfl | decide +kernel | (unfold String.splitOn; simp +decide [String.splitOnAux])) (by decide +kernel) (by kernel_rfl)
theorem a_dga (a b : Value) : argsOk "collections.defaultdict.__getattribute__" ⟨[a, b], []⟩ := by unfold argsOk; kernel_rfl
theorem slot_dga : Slot "collections.defaultdict" "__getattribute__" "collections.defaultdict.__getattribute__" :=
  .of (owner := "collections.defaultdict") (n := "__getattribute__") (by rw [typeLookup_type, builtinLookup_eq_fast]; kernel_rfl) (by decide +kernel) (by decide +kernel) (by decide +kernel) (.inl (by decide +kernel)) (by rw [isSubtype_type]; kernel_rfl)
section
variable {w : World} {prog : Program} {A : Around} {E : Value → Shared → Prop} {s : Shared} {Q : Value → Shared → Prop}
theorem dd_hook {h : Heap} (X : (hd.heap_39 w.params).In h) : Looks (model prog w) h (hookBefore (.ref 122)) none :=
  Looks.of_peek X (by kernel_rfl)
theorem dd_mod {h : Heap} (X : (hd.heap_39 w.params).In h) : Looks (model prog w) h (isSubtype (.ref 122) (.type "module")) false :=
  Looks.of_peek X (by kernel_rfl)
theorem getattr_miss {bx dx : Addr} {B : List (Str × Tok × Addr)} {n : Nat} {tk : Tok} {dv : Value} (X : (hd.heap_39 w.params).In s.heap) (hA : A.handled = none) (hx : s.heap.get? bx = some (ddObj dx (ents w B) n)) (hdx : s.heap.get? dx = some emptyDict)
    (hq : ∀ h' tk', (∀ b o, s.heap.get? b = some o → h'.get? b = some o) → Q dv { s with heap := h', toks := tk' }) :
    wpAny (model prog w) A (call (.builtin "getattr") [.ref bx, .str "_frozen" tk, dv]) Q E s := by
  obtain ⟨h, g, d, t, os⟩ := s
  have I : InstAt h bx (ddObj dx (ents w B) n) 122 (some emptyDict) := ⟨hx, rfl, rfl, hdx⟩
  have L0 := I.type (M := model prog w)
  have L1 := looks_findIn (M := model prog w) X (ga122 w)
  have L2 := looks_find (M := model prog w) X I (fo122 w)
  have L3 := dd_hook (prog := prog) X
  have L4 : Looks (model prog w) h (isInstance (.ref bx) (.type "module")) false := isI_bk hx (dd_mod X)
  have t1 := isI_bk (prog := prog) hx (lk_subd X)
  refine wpAny_call (codeAny_call_builtin p_gattr e_gattr ?_)
  have ok := a_gattr (.ref bx) (.str "_frozen" tk) dv
  simp only [checkBuiltinCall, k_gattr]
  have hf : wpAny (model prog w) A.in1 (Builtin.«getattr» ⟨[.ref bx, .str "_frozen" tk, dv], []⟩) (fun fin s' => match fin with | .done f => wants Q E (.ok f) s' | .again c' => c'.quiet = true ∧ codeAny (model prog w) A c' (wants Q E) s') (fun e s' => wants Q E (.error e) s') ⟨h, g, d, t, os⟩ := by
    unfold Builtin.«getattr»
    repeat ((fail_if_success (with_reducible show wpAny _ _ (getAttrBy? _ _ >>= _) _ _ _)); (fail_if_success (with_reducible show wpAny _ _ (getAttrBy? _ _) _ _ _)); first | lk)
    refine wpAny_bind ?_
    unfold getAttrBy?
    refine wpAny_bind (wpAny_attempt ?_)
    unfold getAttrBy
    refine wpAny_holding (wpAny_bind (L0.at (wpAny_bind (L1.at ?_))))
    show wpAny _ _ (getAttrByItsOwn _ _ _ _ _ _) _ _ _
    unfold getAttrByItsOwn
    refine wpAny_bind (L3.at (wpAny_bind (wpAny_attempt (wpAny_holding ?_))))
    unfold callGetattribute
    rw [show (false && onTheHeap (Value.builtin "collections.defaultdict.__getattribute__")) = false from rfl, if_neg (by decide : ¬ (false = true))]
    unfold boundAndCalled
    rw [slot_dga.bind]
    refine wpAny_bind (wpAny_pure ?_)
    show wpAny _ _ (call (.builtin "collections.defaultdict.__getattribute__") [.ref bx, .str "_frozen" tk]) _ _ _
    refine wpAny_call (codeAny_call_builtin slot_dga.plain e_dga ?_)
    refine @check_slot (model prog w) _ _ _ "collections.defaultdict.__getattribute__" "collections.defaultdict" "__getattribute__" (.ref bx) [.str "_frozen" tk] [] _ k_dga s_dga (isI_bk hx (lk_subdd X)) (a_dga _ _) ?_
    unfold Builtin.«object.__getattribute__»
    repeat ((fail_if_success (with_reducible show wpAny _ _ (noSuchAttribute _ _) _ _ _)); (fail_if_success (with_reducible show wpAny _ _ (raiseAttrError _ _ _) _ _ _)); first | lk)
    unfold noSuchAttribute
    have L5 : Looks (model prog w) h (typeNameCut 100 (.ref 122)) "FreezableDefaultDict" := Looks.of_peek X (by kernel_rfl)
    repeat ((fail_if_success (with_reducible show wpAny _ _ (raiseAttrError _ _ _) _ _ _)); first | lk)
    refine wpAny_raiseAttrError hA (fun h' tk' e hn => ?_) (by decide +kernel)
    have hty : (⟨h', g, d, tk', os⟩ : Shared).TypeIs (.ref e) "AttributeError" := by obtain ⟨t', u', he⟩ := hn.there; exact ⟨_, he, rfl⟩
    have hsub := sub_AttributeError
    show wpAny _ _ (getattributeRaised _ _ _ _ _ _ _) _ _ _
    unfold getattributeRaised
    refine wpAny_bind (wpAny_isInstance hty hsub ?_)
    repeat (any_goals (first | assumption | wp_step))
    exact hq h' tk' hn.keeps
  cases hsig : Manifest.signature? "getattr" with
  | none => exact wpAny_pure hf
  | some sig =>
    simp only [argsOk, hsig] at ok
    have h2 : Bind.checkArgs "getattr" sig ⟨[.ref bx, .str "_frozen" tk, dv], []⟩ = pure () := ok
    show wpAny _ _ (Bind.checkArgs "getattr" sig ⟨[.ref bx, .str "_frozen" tk, dv], []⟩) _ _ _
    rw [h2]; exact wpAny_pure hf
theorem attr_superL {h₀ : Heap} {L : Addr} {m : Str → Option Value} {news : List (Addr × Obj)} {expr : Bool} {so x : Addr} {o : Obj} (X₀ : (hd.heap_39 w.params).In h₀) (F : Fr h₀ L s.heap m) (N : News h₀ L s.heap news) (hso : (so, ks_superObj 122 x 122) ∈ news) (hx : (x, o) ∈ news) (hc : o.cls = .ref 122) (hno : ∀ c, o.data ≠ .cls c)
    (hq : ∀ q h', (∀ p ∈ news, p.1 < q) → Fr h₀ L h' m → News h₀ L h' ((q, bmObj "collections.defaultdict.__missing__" x) :: news) → Q (.ref q) { s with heap := h', toks := s.toks + 1 }) :
    wpAny (model prog w) A (getAttr (.ref so) "__missing__" expr) Q E s := by
  have X := X₀.keeps F.keep
  refine attr_super X (N _ hso).1 (N _ hx).1 hc ?_ (hq _ _ (fun p hp => Heap.lt_size (N p hp).1) (F.push _) (N.push F _))
  rintro rfl
  obtain ⟨cd, sl, hC0⟩ := c122 w.params
  have e1 := X 122 _ hC0
  rw [(N _ hx).1] at e1
  cases e1
  exact hno _ rfl
theorem getattr_missL {h₀ : Heap} {L : Addr} {m : Str → Option Value} {news : List (Addr × Obj)} {bx dx : Addr} {B : List (Str × Tok × Addr)} {n : Nat} {tk : Tok} {dv : Value} (X₀ : (hd.heap_39 w.params).In h₀) (hA : A.handled = none) (F : Fr h₀ L s.heap m) (N : News h₀ L s.heap news) (hx : (bx, ddObj dx (ents w B) n) ∈ news) (hdx : (dx, emptyDict) ∈ news)
    (hq : ∀ h' tk', Fr h₀ L h' m → News h₀ L h' news → Q dv { s with heap := h', toks := tk' }) :
    wpAny (model prog w) A (call (.builtin "getattr") [.ref bx, .str "_frozen" tk, dv]) Q E s :=
  getattr_miss (X₀.keeps F.keep) hA (N _ hx).1 (N _ hdx).1 fun h' tk' hk =>
    hq h' tk' ⟨F.ns.at' fun o e => hk _ o e, fun b o e => hk b o (F.keep b o e), F.above⟩ fun p hp => ⟨hk _ _ (N p hp).1, (N p hp).2⟩
end
end Mine
end V5

section V6
open PySem PySem.W PyProof.Rows
namespace Mine
open PySem.Calls Builtin Builtin.ObjectAttr
set_option maxRecDepth 100000
set_option maxHeartbeats 1600000
theorem e_ddmiss : entryFor table "collections.defaultdict.__missing__" = some Builtin.«collections.defaultdict.__missing__» := entryFor_of_tree (by kernel_rfl)
theorem q_ddmiss (args : Args) : (Code.builtin "collections.defaultdict.__missing__" args).quiet = true := Code.quiet_builtin _ (by decide +kernel)
theorem e_setdef : entryFor table "dict.setdefault" = some Builtin.«dict.setdefault» := entryFor_of_tree (by kernel_rfl)
section
variable {w : World} {prog : Program} {A : Around} {E : Value → Shared → Prop}
theorem callWith_bm {M : Model} {s : Shared} {q x : Addr} {id : String} {pos : Pos} {args : List (Bool × Sem Value)} {Q : Value → Shared → Prop} (hplain : args.any (·.1) = false)
    (h : wpAny M A (evalArgs (.ref q) true args []) (fun a s₁ => s₁.heap.get? q = some (bmObj id x) ∧ wpAny M A (call (.ref q) a.pos a.kw) Q E s₁) E s) :
    wpAny M A (callWith pos (.ref q) [] args []) Q E s := by
  unfold callWith
  refine wpAny_bind (wpAny_holding (wpAny_mono h (fun a s₁ h₁ => wpAny_bind (wpAny_standAt ?_)) fun _ _ x => x))
  simp only [hplain, List.any_nil, Bool.or_false]
  have l : Looks M s₁.heap (keeperOf (.ref q)) .machine := (Looks.ld h₁.1).andThen .now
  refine wpAny_bind (l.here ?_)
  exact wpAny_bind (wpAny_mono h₁.2 (fun r s₂ hr => wpAny_bind (wpAny_holding (wpAny_point (wpAny_pure hr)))) fun _ _ x => x)
theorem c122q (p : Params) : ∃ cd sl, (hd.heap_39 p).lookup 122 = some ⟨.type "type", none, .cls cd, sl⟩ ∧ cd.qualname = "FreezableDefaultDict" ∧ cd.mro = [.ref 122, .type "collections.defaultdict", .type "dict", .type "object"] := ⟨_, _, rfl, rfl, rfl⟩
theorem call_bm {h : Heap} {g : Array GenState} {d : Drawn} {tt : Nat} {os : OsState} {q bx dx : Addr} {B : List (Str × Tok × Addr)} {n : Nat} {k : Str} {t : Tok} {R : Result → Shared → Prop} (X : (hd.heap_39 w.params).In h) (hx : h.get? bx = some (ddObj dx (ents w B) n)) (hqo : h.get? q = some (bmObj "collections.defaultdict.__missing__" bx))
    (hq : codeAny (model prog w) A (.builtin "collections.defaultdict.__missing__" ⟨[.ref bx, .str k t], []⟩) R ⟨h, g, d, tt, os⟩) :
    codeAny (model prog w) A (.call (.ref q) ⟨[.str k t], []⟩) R ⟨h, g, d, tt, os⟩ := by
  have l1 : Looks (model prog w) h (isInstance (.ref bx) (.type "module")) false := isI_bk hx (dd_mod X)
  have l2 := ty_bk (prog := prog) hx
  obtain ⟨⟨cn, cb, cm, cns, cq, ca⟩, sl, hC0, hqn, hmr⟩ := c122q w.params
  have hC := X 122 _ hC0
  cases hqn
  cases hmr
  refine codeAny_of_tree ?_
  show wpAny _ A.in1 (callAny (.ref q) _) _ _ _
  simp only [callAny]
  refine wpAny_bind (wpAny_load hqo ?_)
  refine wpAny_bind (m := checkBoundCall _ _) ?_
  unfold checkBoundCall
  repeat (first | lk)
  exact ⟨q_ddmiss _, hq⟩
theorem wp_borrowed {M : Model} {A : Around} {E : Value → Shared → Prop} {s : Shared} {f : Value} {pos : List Value} {Q : Value → Shared → Prop}
    (h : wpAny M A (call f pos) Q E s) : wpAny M A (callBorrowed f pos) Q E s := by
  intro Γ p hΓ
  have h3 : Sem.wp M Γ (runValue (.call f ⟨pos, []⟩)) (fun a _ s' => Q a s') (fun e _ s' => E e s') p s := h Γ p hΓ
  rw [Sem.wp_runValue] at h3
  unfold callBorrowed
  rw [Sem.wp_call]
  refine wpCode_mono (fun r s' hr => ?_) h3
  cases r with
  | error e => exact hr
  | ok f => cases f <;> first | exact hr | exact hr.elim
theorem typeCall_list_0 : checkTypeCall "list" ⟨[], []⟩ = pure () := by kernel_rfl
theorem newCall_list_0 : checkBuiltinCall "list.__new__" ⟨[.type "list"], []⟩ = pure () := by kernel_rfl
theorem args_list_init_0 (a : Value) : argsOk "list.__init__" ⟨[a], []⟩ := by unfold argsOk; kernel_rfl
theorem e_linit : entryFor table "list.__init__" = some Builtin.«list.__init__» := entryFor_of_tree (by kernel_rfl)
theorem list_new0 {s : Shared} {Q₁ : Value → Shared → Prop}
    (h : Q₁ (.ref s.heap.objs.size) { s with heap := s.heap.push { cls := .type "list", data := .seq #[] } }) :
    codeAny (model prog w) A (.call (.builtin "list.__new__") ⟨[.type "list"], []⟩) (wants Q₁ E) s := by
  refine codeAny_of_tree ?_
  show wpAny _ A.in1 (do checkBuiltinCall "list.__new__" ⟨[.type "list"], []⟩; again (.builtin "list.__new__" ⟨[.type "list"], []⟩)) _ _ s
  refine wpAny_bind (wpAny_of_eq newCall_list_0 (wpAny_pure ⟨plainId_quiet PySem.F.plain_list_new _, codeAny_builtin_stack PySem.F.entry_list_new rfl fun p st => ?_⟩))
  rw [Around.under_plainId PySem.F.plain_list_new _]
  have hsub := sub_list_self
  have hown := owner_list_new
  obtain ⟨hp, g, d, tk, os⟩ := s
  simp only [hown]
  wp_walk
  exact h
theorem call_list0 {s : Shared} {Q : Value → Shared → Prop} (hq : ∀ h' c, (∀ b o, s.heap.get? b = some o → h'.get? b = some o) → h'.get? s.heap.objs.size = some (lobj [] c) → h'.objs.size = s.heap.objs.size + 1 → Q (.ref s.heap.objs.size) { s with heap := h' }) :
    wpAny (model prog w) A (call (.type "list") []) Q E s := by
  refine callType_codes (Q₁ := fun obj s₁ => obj = .ref s.heap.objs.size ∧ s₁ = { s with heap := s.heap.push (lobj [] 0) }) PySem.F.called_list typeCall_list_0 e_linit (list_new0 ⟨rfl, rfl⟩) fun obj s₁ h₁ => ?_
  obtain ⟨rfl, rfl⟩ := h₁
  obtain ⟨hp, g, d, tk, os⟩ := s
  have hx : (hp.push (lobj [] 0)).get? hp.objs.size = some (lobj [] 0) := Heap.get?_push_size _ rfl
  refine ⟨⟨_, hx, rfl⟩, args_list_init_0 _, ?_⟩
  obtain ⟨c, hc⟩ : ∃ c, ((hp.push (lobj [] 0)).update hp.objs.size (Obj.mapSeq fun _ => #[])).get? hp.objs.size = some (lobj [] c) := ⟨_, get?_update_seq hx (fun _ => #[])⟩
  unfold Builtin.«list.__init__»
  repeat ((fail_if_success (with_reducible show wpAny _ _ (Sem.update _ _ _ _) _ _ _)); first | lk)
  refine wpAny_update hx ?_
  refine wpAny_lookBehind hc rfl ?_
  repeat (first | lk)
  refine ⟨rfl, hq _ c (fun b o e => ?_) hc ?_⟩
  · exact (Heap.get?_update_other _ _ (Ne.symm (Nat.ne_of_lt (Heap.lt_size e)))).trans (Heap.get?_push_of_some _ e)
  · rw [Heap.size_update, Heap.size_push]
theorem ents_push (B : List (Str × Tok × Addr)) (k : Str) (t : Tok) (a : Addr) : (ents w B).push ⟨hashStr w k, .str k t, .ref a⟩ = ents w (B ++ [(k, t, a)]) := by
  simp [ents]
theorem setdef_book {s : Shared} {bx dx : Addr} {B : List (Str × Tok × Addr)} {n : Nat} {k : Str} {t : Tok} {a : Addr} {Q : Value → Shared → Prop} (ho : s.heap.get? bx = some (ddObj dx (ents w B) n)) (hk : lookB B k = none) (hB : B.length ≤ 1000)
    (hq : ∀ h' n', Heap.SameBut bx s.heap h' → h'.get? bx = some (ddObj dx (ents w (B ++ [(k, t, a)])) n') → Q (.ref a) { s with heap := h', toks := s.toks + 1 }) :
    wpAny (model prog w) A (dictSetDefault bx (.str k t) (.ref a)) Q E s := by
  have hkey : (PySem.strKind prog w).is k (.str k t) = true := by simp [PySem.strKind, Value.isStrOf]
  have hg := get_ents (w := w) B k
  rw [findBy_of_findIdx?, hk] at hg
  unfold dictSetDefault
  try with_reducible refine wpAny_holding ?_
  refine wpAny_bind ((PySem.strKind prog w).pyHash hkey ?_)
  refine wpAny_bind (wpAny_dictFind_of (knd := PySem.strKind prog w) (s := { s with toks := s.toks + 1 }) hkey ho rfl (keysOf_ents B) ?_)
  show wpAny _ _ (match Array.findIdx? (fun e => Value.isStrOf k e.key) (ents w B) with | some i => _ | none => _) _ _ _
  cases hi : (ents w B).findIdx? fun e => Value.isStrOf k e.key with
  | some i =>
    exfalso
    rw [hi] at hg
    have hlt : i < (ents w B).size := (Array.findIdx?_eq_some_iff_findIdx_eq.mp hi).1
    have hg' : Option.map (fun x : DictEntry => x.val) (ents w B)[i]? = none := hg
    rw [Array.getElem?_eq_getElem hlt] at hg'
    exact nomatch hg'
  | none =>
    have hsz : (ents w B).size ≤ sizeLine := by
      have e : (ents w B).size = B.length := by simp [ents]
      rw [e]; exact Nat.le_trans hB (by decide)
    refine wpAny_bind (wpAny_rule (wpAny_bind (wpAny_updateDictKeys (hz := hsz) (s := { s with toks := s.toks + 1 }) ho rfl (wpAny_pure ?_))))
    refine hq _ (n + 1) (Heap.SameBut.update ..) ?_
    refine (Heap.get?_update_self _ ho rfl).trans ?_
    rw [← ents_push]
    rfl
theorem ddmiss_code {h : Heap} {g : Array GenState} {d : Drawn} {tt : Nat} {os : OsState} {bx dx : Addr} {B : List (Str × Tok × Addr)} {n : Nat} {k : Str} {t : Tok} {R : Result → Shared → Prop} (X : (hd.heap_39 w.params).In h) (hx : h.get? bx = some (ddObj dx (ents w B) n)) (hk : lookB B k = none) (hB : B.length ≤ 1000) (hs : (bx == sysModules) = false)
    (hq : ∀ h' c n' tt', (∀ b o, b ≠ bx → h.get? b = some o → h'.get? b = some o) → h'.get? h.objs.size = some (lobj [] c) → h'.get? bx = some (ddObj dx (ents w (B ++ [(k, t, h.objs.size)])) n') → R (.ok (.ret (.ref h.objs.size))) ⟨h', g, d, tt', os⟩) :
    codeAny (model prog w) A (.builtin "collections.defaultdict.__missing__" ⟨[.ref bx, .str k t], []⟩) R ⟨h, g, d, tt, os⟩ := by
  refine codeAny_builtin e_ddmiss ?_
  unfold Builtin.«collections.defaultdict.__missing__»
  repeat ((fail_if_success (with_reducible show wpAny _ _ (callOutOfASlot _ _) _ _ _)); (fail_if_success (with_reducible show wpAny _ _ (callOutOfASlot _ _ >>= _) _ _ _)); first | lk)
  refine wpAny_bind ?_
  show wpAny _ _ (callBorrowed (.type "list") []) _ _ _
  refine wp_borrowed (call_list0 fun h₁ c hk₁ hn₁ hz₁ => ?_)
  refine wpAny_pure ⟨Code.quiet_builtin _ (by decide +kernel), codeAny_builtin e_setdef ?_⟩
  have hx₁ := hk₁ _ _ hx
  have X₁ : (hd.heap_39 w.params).In h₁ := fun a o e => hk₁ _ _ (X a o e)
  have m1 := lk_mro (prog := prog) X₁
  unfold Builtin.«dict.setdefault»
  repeat ((fail_if_success (with_reducible show wpAny _ _ (dictSetDefault _ _ _) _ _ _)); (fail_if_success (with_reducible show wpAny _ _ (dictSetDefault _ _ _ >>= _) _ _ _)); first | lk)
  rw [if_neg (by rw [hs]; decide)]
  refine wpAny_bind (setdef_book hx₁ hk hB fun h₂ n₂ hs₂ hx₂ => ?_)
  refine wpAny_pure (hq h₂ c n₂ _ (fun b o hb e => hs₂.extBut b o hb (hk₁ b o e)) (hs₂.extBut _ _ ?_ hn₁) hx₂)
  exact Nat.ne_of_gt (Heap.lt_size hx)
end
end Mine
end V6

section V7
open PySem PySem.W PyProof.Rows
namespace Mine
open PySem.Calls Builtin Builtin.ObjectAttr
set_option maxRecDepth 100000
set_option maxHeartbeats 1600000
section
variable {w : World} {prog : Program} {A : Around} {E : Value → Shared → Prop} {s : Shared} {h₀ : Heap} {L : Addr} {m : Str → Option Value} {env : Env}
theorem callWith_bm1 {M : Model} {q x : Addr} {id : String} {pos : Pos} {e : Expr} {Q : Value → Shared → Prop}
    (h : wpAny M A (eval e env) (fun v s₁ => s₁.heap.get? q = some (bmObj id x) ∧ wpAny M A (call (.ref q) [v]) Q E s₁) E s)
    (he : starEach [e] env = [(false, eval e env)] := by rfl) :
    wpAny M A (callWith pos (.ref q) [] (backTo pos (starEach [e] env)) []) Q E s := by
  rw [he]
  refine callWith_bm (id := id) (x := x) rfl (Calls.evalArgs_plain (Calls.spliced_cons (wpAny_mono h (fun v s₁ h₁ => Calls.spliced_nil h₁) fun _ _ e => e)))
theorem ne_mod {bx : Addr} (hb : @LT.lt Nat _ 1 bx) : (bx == sysModules) = false := by
  cases h : bx == sysModules with
  | false => rfl
  | true =>
    have e : bx = 1 := by simpa [sysModules] using h
    rw [e] at hb
    exact absurd hb (Nat.lt_irrefl _)
theorem call_missL {q bx dx : Addr} {B : List (Str × Tok × Addr)} {n : Nat} {k : Str} {t : Tok} {more : List (Addr × Obj)} {Q : Value → Shared → Prop} (X₀ : (hd.heap_39 w.params).In h₀) (F : Fr h₀ L s.heap m) (N : News h₀ L s.heap ((bx, ddObj dx (ents w B) n) :: more)) (hne : ∀ p ∈ more, p.1 ≠ bx)
    (hqo : s.heap.get? q = some (bmObj "collections.defaultdict.__missing__" bx)) (hk : lookB B k = none) (hB : B.length ≤ 1000) (h1 : @LT.lt Nat _ 1 bx)
    (hq : ∀ a h' c n' tk', (∀ p ∈ (bx, ddObj dx (ents w B) n) :: more, p.1 < a) → Fr h₀ L h' m → News h₀ L h' ((a, lobj [] c) :: (bx, ddObj dx (ents w (B ++ [(k, t, a)])) n') :: more) → Q (.ref a) { s with heap := h', toks := tk' }) :
    wpAny (model prog w) A (call (.ref q) [.str k t]) Q E s := by
  have X := X₀.keeps F.keep
  have zb := N _ (.head _)
  obtain ⟨h, g, d, tt, os⟩ := s
  refine wpAny_call (call_bm X zb.1 hqo (ddmiss_code X zb.1 hk hB (ne_mod h1) fun h' c n' tt' hk' ha hb => ?_))
  have hLb : L ≠ bx := Ne.symm zb.2.1
  have hF : Fr h₀ L h' m := ⟨F.ns.at' fun o e => hk' _ o hLb e, fun b o e => hk' b o (fun hb => by rw [hb, zb.2.2] at e; cases e) (F.keep b o e), F.above⟩
  have hlt : ∀ p ∈ (bx, ddObj dx (ents w B) n) :: more, p.1 < h.objs.size := fun p hp => Heap.lt_size (N p hp).1
  refine hq h.objs.size h' c n' tt' hlt hF ?_
  have hnew : h.objs.size ≠ L ∧ h₀.get? h.objs.size = none := ⟨Nat.ne_of_gt F.ns.lt, next_is_new F⟩
  intro p hp
  rcases List.mem_cons.mp hp with rfl | hp
  · exact ⟨ha, hnew⟩
  · rcases List.mem_cons.mp hp with rfl | hp
    · exact ⟨hb, zb.2⟩
    · exact ⟨hk' _ _ (hne p hp) (N p (.tail _ hp)).1, (N p (.tail _ hp)).2⟩
end
end Mine
end V7

section V3
open PySem PySem.W PyProof.Rows
namespace Mine
local macro_rules | `(tactic| walk_at "PAD") => `(tactic| fail "pad")
open PySem.Calls Builtin Builtin.ObjectAttr
set_option maxRecDepth 100000
set_option maxHeartbeats 1600000
def ConV (w : World) (D U : Nat) (f : Addr) (news : List (Addr × Obj)) (vs : List Value) (Post : Value → List (Addr × Obj) → Prop) : Prop :=
  ∀ (mean : ExcName → Option Value) (mg mb : Str → Option Value)
    (dp un : Nat) (gd : Option (List Code)) (cn : Str) (cs : Scope) (a : Addr) (ccd : Value) (cl : List (Str × Addr)) (outer : List Env) (A₀ : Around) (base h₀ : Heap) (L : Addr) (m : Str → Option Value) (s : Shared) (Q E : Value → Shared → Prop),
    Below A₀ base outer h₀ → Fr h₀ L s.heap m → (hd.heap_39 w.params).In h₀ → News h₀ L s.heap news → Top topProg Loose mean mg mb h₀ → cs.kind = .function →
    dp + D < recursionLimit → un + U < cLine →
    (∀ v news' (h' : Heap) (tk' : Nat), Fr h₀ L h' m → News h₀ L h' news' → Post v news' → Q v { s with heap := h', toks := tk' }) →
    codeAny (model PySem.Challenge.rw_il0136_01.row.prog w) (ktrTop dp un gd cn cs L a ccd cl outer) (.call (.ref f) ⟨vs, []⟩) (fun r s' => match r with | .ok (.ret v) => Q v s' | .ok _ => False | .error e => E e s') s
local macro_rules | `(tactic| units_room) => `(tactic| ktr_units)
local macro_rules | `(tactic| k_all) => `(tactic| k_extra "ALL")
theorem miss_con (w : World) (bx dx : Addr) (B : List (Str × Tok × Addr)) (n : Nat) (k : Str) (t : Tok) (rest : List (Addr × Obj)) (hk : lookB B k = none) (hB : B.length ≤ 1000) (h1 : @LT.lt Nat _ 1 bx) (hdx : dx ≠ bx) (hne : ∀ p ∈ rest, p.1 ≠ bx) :
    ConV w 10 200 112 ((bx, ddObj dx (ents w B) n) :: (dx, emptyDict) :: rest) [.ref bx, .str k t] (fun v news' => ∃ a c n', v = .ref a ∧ (∀ p ∈ (bx, ddObj dx (ents w B) n) :: (dx, emptyDict) :: rest, p.1 < a) ∧ news' = (a, lobj [] c) :: (bx, ddObj dx (ents w (B ++ [(k, t, a)])) n') :: (dx, emptyDict) :: rest) := by
  unfold ConV
  k_with_none
  w_top off
  k_fill
  (k_with "ALL" => refine Mine.all_ne (by assumption) (by omega))
  intro mean mg mb
  intros
  rename_i hret
  (refine' ks_code_super ?k1 ?k2 ?k3 ?k4 ?k5 ?kA ?kF ?kK ?k6 ?k7 ?k8 ?k9 ?kB ?_ ?c1 ?c2 ?c3 ?c4; (case kA => exact rfl); (case kF => exact rfl); (case kK => assumption); (case k1 => k_asm); (case k2 => k_asm); (case k3 => k_asm); (case k4 => k_asm); (case k5 => k_asm); (case k6 => k_is); (case k7 => k_is); (case k8 => ktr_room); (case k9 => exact BindsTo.of_eq rfl); (case kB => exact locs rfl); (case c1 => decide); (case c2 => exact rfl); (case c3 => exact rfl); (case c4 => exact rfl); intro g' L' h' FG' F' N' B' X' T' l1; (try k_lt l1); (try dsimp only); (try k_lift B'))
  refine ks_wpAt_execs_cons ?_
  refine at_ret3 (id := "getattr") ?_
  try dsimp only
  try k_fold
  k_steps
  refine Mine.Stop.out ?_
  refine at_super ?_ (by rfl)
  rename Fr _ _ _ _ => F7
  rename News _ _ _ _ => N7
  have I7 := (⟨(N7 _ (.head _)).1, rfl, rfl, (N7 _ (.tail _ (.head _))).1⟩ : InstAt _ bx (ddObj dx (ents w B) n) 122 (some emptyDict))
  (refine ks_node (by k_asm) (by k_asm) (by k_asm) (by k_asm) (by k_is) (by rfl) (by rfl) I7 (by k_is) (by rfl) (by first | rfl | decide +kernel) (by k_is) (by k_is) (by k_is) (by k_is) (by decide) (by rfl) (by rfl) (by rfl) (by rfl) (by decide +kernel) (by first | boot_by_name | rfl | kernel_rfl) ?_; intro so' h8 F8 N8 l8)
  refine attr_superL (o := ddObj dx (ents w B) n) (by k_asm) F8 N8 (.head _) (.tail _ (.head _)) rfl (by intro c; nofun) ?_
  intro q9 h9 l9 F9 N9
  refine getattr_missL (dx := dx) (B := B) (n := n) (by k_asm) rfl F9 N9 (.tail _ (.tail _ (.head _))) (.tail _ (.tail _ (.tail _ (.head _)))) ?_
  intro hA tkA FA NA
  clear N9 F9 N8 F8 N7 F7 I7
  refine callWith_bm1 (x := bx) (id := "collections.defaultdict.__missing__") ?_ (by rfl)
  try dsimp only
  try k_fold
  k_steps
  · exact (NA _ (.head _)).1
  · refine call_missL (bx := bx) (dx := dx) (B := B) (n := n) (more := (dx, emptyDict) :: rest) (by k_asm) FA (fun p hp => NA p (.tail _ (.tail _ hp))) ?_ (NA _ (.head _)).1 hk hB h1 ?_
    · intro p hp
      rcases List.mem_cons.mp hp with rfl | hp
      · exact hdx
      · exact hne p hp
    intro a9 hB9 c9 n9 tk9 lt9 FB NB
    clear NA FA
    try dsimp only
    try k_fold
    k_steps
    rename Fr _ _ _ _ => kF
    rename News _ _ _ _ => kN
    exact hret _ _ _ _ kF kN ⟨a9, c9, n9, rfl, lt9, rfl⟩
end Mine
end V3

section V8
open PySem PySem.W PyProof.Rows
namespace Mine
open PySem.Calls Builtin Builtin.ObjectAttr
set_option maxRecDepth 100000
set_option maxHeartbeats 1600000
section
variable {w : World} {prog : Program} {A : Around} {E : Value → Shared → Prop} {s : Shared} {h₀ : Heap} {L : Addr} {m : Str → Option Value} {news : List (Addr × Obj)}
theorem bind_dgi (self : Value) : bindSpecial (.builtin "dict.__getitem__") self = pure (.builtin "dict.__getitem__", [self]) := slot_dict_getitem.bind self
theorem tail_book {value slice : Expr} {bx dx : Addr} {B : List (Str × Tok × Addr)} {n : Nat} {k : Str} {u : Tok} {Q : Value → Shared → Prop} (X₀ : (hd.heap_39 w.params).In h₀) (F : Fr h₀ L s.heap m) (N : News h₀ L s.heap news) (hm : (bx, ddObj dx (ents w B) n) ∈ news) (h1 : @LT.lt Nat _ 1 bx)
    (hhit : ∀ a, lookB B k = some a → Q (.ref a) { s with toks := s.toks + 1 })
    (hmiss : lookB B k = none → wpAny (model prog w) A.in1 (call (.ref 112) [.ref bx, .str k u]) (fun v s' => Q v s') E { s with toks := s.toks + 1 })
    (hs : ∃ ops, subscripted slice false (.ref bx) (.str k u) = operate ops (getItem (.ref bx) (.str k u))) : wpAny (model prog w) A (subscriptTail value slice (.ref bx) (.str k u)) Q E s := by
  have X := X₀.keeps F.keep
  refine tail_obj (N _ hm).1 (dd_gi X) (getitem_obj (N _ hm).1 rfl (dd_gi X) (dd_seq X) bind_dgi ?_) hs
  obtain ⟨h, g, d, t, os⟩ := s
  cases hk : lookB B k with
  | some a => exact dgi_hit X (N _ hm).1 hk (hhit a hk)
  | none => exact dgi_miss X (N _ hm).1 hk (ne_mod h1) (hmiss hk)
end
end Mine
end V8

section G1
open PySem PySem.W PyProof.Rows
namespace Mine
structure BEnt where
  name : Str
  tok : Tok
  addr : Addr
  vals : List Value
  cnt : Nat
def eB (C : List BEnt) : List (Str × Tok × Addr) := C.map fun e => (e.name, e.tok, e.addr)
def eL (C : List BEnt) : List (Addr × Obj) := C.map fun e => (e.addr, lobj e.vals e.cnt)
def addG : List (Str × List Str) → Str → Str → List (Str × List Str)
  | [], n, p => [(n, [p])]
  | g :: r, n, p => if g.1 == n then (g.1, g.2 ++ [p]) :: r else g :: addG r n p
def bookOf (prs : List (Str × Str)) : List (Str × List Str) := prs.foldl (fun G q => addG G q.1 q.2) []
inductive BookIs : List BEnt → List (Str × List Str) → Prop
  | nil : BookIs [] []
  | cons {e : BEnt} {C : List BEnt} {ps : List Str} {G : List (Str × List Str)} : StrsAre e.vals ps → BookIs C G → BookIs (e :: C) ((e.name, ps) :: G)
theorem eL_app (a b : List BEnt) : eL (a ++ b) = eL a ++ eL b := List.map_append
theorem eB_app (a b : List BEnt) : eB (a ++ b) = eB a ++ eB b := List.map_append
theorem lookB_hit {C : List BEnt} {k : Str} {a : Addr} (h : lookB (eB C) k = some a) : ∃ C1 e C2, C = C1 ++ e :: C2 ∧ e.addr = a ∧ e.name = k ∧ lookB (eB C1) k = none := by
  induction C with
  | nil => cases h
  | cons e C ih =>
    unfold lookB eB at h
    rw [List.map_cons, List.find?_cons] at h
    cases he : e.name == k with
    | true =>
      simp only [he] at h
      exact ⟨[], e, C, rfl, Option.some.inj h, eq_of_beq he, rfl⟩
    | false =>
      simp only [he] at h
      obtain ⟨C1, e', C2, rfl, h1, h2, h3⟩ := ih h
      refine ⟨e :: C1, e', C2, rfl, h1, h2, ?_⟩
      unfold lookB eB
      rw [List.map_cons, List.find?_cons]
      simp only [he]
      exact h3
theorem add_hit {p : Str} {u : Tok} {c : Nat} : ∀ {C1 : List BEnt} {e : BEnt} {C2 : List BEnt} {G : List (Str × List Str)}, lookB (eB C1) e.name = none → BookIs (C1 ++ e :: C2) G →
    BookIs (C1 ++ ⟨e.name, e.tok, e.addr, e.vals ++ [.str p u], c⟩ :: C2) (addG G e.name p)
  | [], e, C2, _, _, .cons (ps := ps) h r => by
    have e1 : (e.name == e.name) = true := beq_self_eq_true _
    simp only [List.nil_append, addG, e1, if_true]
    exact .cons (StrsAre.append' h (.cons _ _ .nil)) r
  | d :: C1, e, C2, _, hl, .cons (ps := ps) h r => by
    unfold lookB eB at hl
    rw [List.map_cons, List.find?_cons] at hl
    cases he : d.name == e.name with
    | true => simp [he] at hl
    | false =>
      simp only [he] at hl
      simp only [List.cons_append, addG, he, Bool.false_eq_true, if_false]
      exact .cons h (add_hit hl r)
theorem add_miss {k p : Str} {u t : Tok} {a : Addr} {c : Nat} : ∀ {C : List BEnt} {G : List (Str × List Str)}, lookB (eB C) k = none → BookIs C G → BookIs (C ++ [⟨k, t, a, [.str p u], c⟩]) (addG G k p)
  | [], _, _, .nil => .cons (.cons _ _ .nil) .nil
  | d :: C, _, hl, .cons h r => by
    unfold lookB eB at hl
    rw [List.map_cons, List.find?_cons] at hl
    cases he : d.name == k with
    | true => simp [he] at hl
    | false =>
      simp only [he] at hl
      simp only [List.cons_append, addG, he, Bool.false_eq_true, if_false]
      exact .cons h (add_miss hl r)
theorem bookOf_take {prs : List (Str × Str)} {i : Nat} {n p : Str} (h : prs[i]? = some (n, p)) : bookOf (prs.take (i + 1)) = addG (bookOf (prs.take i)) n p := by
  rw [List.take_add_one, h, Option.toList_some, bookOf, List.foldl_append]; rfl
theorem eB_upd (C1 C2 : List BEnt) (e : BEnt) (v : List Value) (c : Nat) : eB (C1 ++ ⟨e.name, e.tok, e.addr, v, c⟩ :: C2) = eB (C1 ++ e :: C2) := by simp [eB]
/-- what the loop of the book keeps -/
def Inv2 (x : Addr) (prs : List (Str × Str)) (i : Nat) (C : List BEnt) : Prop :=
  BookIs C (bookOf (prs.take i)) ∧ C.length ≤ i ∧ (∀ e ∈ C, @LT.lt Nat _ x e.addr ∧ e.vals.length ≤ i) ∧ C.Pairwise fun a b => @LT.lt Nat _ a.addr b.addr
theorem Inv2.zero (x : Addr) (prs : List (Str × Str)) : Inv2 x prs 0 [] := ⟨.nil, Nat.le_refl _, fun _ h => (nomatch h), .nil⟩
theorem Inv2.hit {x : Addr} {prs : List (Str × Str)} {i : Nat} {C1 : List BEnt} {e : BEnt} {C2 : List BEnt} {p : Str} {u : Tok} {c : Nat} (h : Inv2 x prs i (C1 ++ e :: C2)) (hp : prs[i]? = some (e.name, p)) (hl : lookB (eB C1) e.name = none) :
    Inv2 x prs (i + 1) (C1 ++ ⟨e.name, e.tok, e.addr, e.vals ++ [.str p u], c⟩ :: C2) := by
  obtain ⟨h1, h2, h3, h4⟩ := h
  refine ⟨by rw [bookOf_take hp]; exact add_hit hl h1, by simp only [List.length_append, List.length_cons] at h2 ⊢; omega, ?_, ?_⟩
  · intro d hd
    rcases List.mem_append.mp hd with hd | hd
    · have := h3 d (List.mem_append.mpr (.inl hd)); exact ⟨this.1, Nat.le_succ_of_le this.2⟩
    · rcases List.mem_cons.mp hd with rfl | hd
      · have := h3 e (List.mem_append.mpr (.inr (.head _))); exact ⟨this.1, by simpa using this.2⟩
      · have := h3 d (List.mem_append.mpr (.inr (.tail _ hd))); exact ⟨this.1, Nat.le_succ_of_le this.2⟩
  · rw [List.pairwise_append, List.pairwise_cons] at h4 ⊢
    refine ⟨h4.1, h4.2.1, fun a ha b hb => ?_⟩
    rcases List.mem_cons.mp hb with rfl | hb
    · exact h4.2.2 a ha e (.head _)
    · exact h4.2.2 a ha b (.tail _ hb)
theorem Inv2.miss {x : Addr} {prs : List (Str × Str)} {i : Nat} {C : List BEnt} {k p : Str} {u t : Tok} {a : Addr} {c : Nat} (h : Inv2 x prs i C) (hp : prs[i]? = some (k, p)) (hl : lookB (eB C) k = none) (hx : @LT.lt Nat _ x a) (ha : ∀ p ∈ eL C, p.1 < a) :
    Inv2 x prs (i + 1) (C ++ [⟨k, t, a, [.str p u], c⟩]) := by
  obtain ⟨h1, h2, h3, h4⟩ := h
  refine ⟨by rw [bookOf_take hp]; exact add_miss hl h1, by simp only [List.length_append, List.length_cons, List.length_nil]; omega, ?_, ?_⟩
  · intro d hd
    rcases List.mem_append.mp hd with hd | hd
    · have := h3 d hd; exact ⟨this.1, Nat.le_succ_of_le this.2⟩
    · rw [List.mem_singleton] at hd; subst hd; exact ⟨hx, by simp⟩
  · rw [List.pairwise_append]
    refine ⟨h4, by simp, fun d hd b hb => ?_⟩
    rw [List.mem_singleton] at hb; subst hb
    exact ha (d.addr, lobj d.vals d.cnt) (List.mem_map.mpr ⟨d, hd, rfl⟩)
theorem eL_ne {C1 C2 : List BEnt} {e : BEnt} (h : (C1 ++ e :: C2).Pairwise fun a b => @LT.lt Nat _ a.addr b.addr) : ∀ p ∈ eL C1 ++ eL C2, p.1 ≠ e.addr := by
  rw [List.pairwise_append, List.pairwise_cons] at h
  intro p hp
  rcases List.mem_append.mp hp with hp | hp
  · obtain ⟨d, hd, rfl⟩ := List.mem_map.mp hp
    exact Nat.ne_of_lt (h.2.2 d hd e (.head _))
  · obtain ⟨d, hd, rfl⟩ := List.mem_map.mp hp
    exact Nat.ne_of_gt (h.2.1.1 d hd)
open PySem.Calls Builtin Builtin.ObjectAttr in
set_option maxRecDepth 100000 in
set_option maxHeartbeats 1600000 in
theorem call_dd2 {prog : Program} {w : World} {A : Around} {E : Value → Shared → Prop} {s : Shared} {h₀ : Heap} {L : Addr} {m : Str → Option Value} {news : List (Addr × Obj)} {Q : Value → Shared → Prop} (F : Fr h₀ L s.heap m) (X₀ : (hd.heap_39 w.params).In h₀) (N : News h₀ L s.heap news)
    (h : ∀ x dx h', Fr h₀ L h' m → News h₀ L h' ((x, ddObj dx #[] 0) :: (dx, emptyDict) :: news) → (∀ p ∈ news, p.1 < dx) → dx < x → @LT.lt Nat _ 217 dx → Q (.ref x) { s with heap := h' }) :
    wpAny (model prog w) A (call (.ref 122) [.type "list"]) Q E s := by
  obtain ⟨hh, g, d, t, os⟩ := s
  have N1 := (N.push F emptyDict).push (F.push _) { cls := .ref 122, dict := some hh.objs.size, data := .dict #[] }
  rw [Heap.size_push] at N1
  have zx := N1 _ (.head _)
  have hs : Heap.SameBut (hh.objs.size + 1) ((hh.push emptyDict).push { cls := .ref 122, dict := some hh.objs.size, data := .dict #[] }) (((hh.push emptyDict).push { cls := .ref 122, dict := some hh.objs.size, data := .dict #[] }).update (hh.objs.size + 1) (fun o => { o with slots := (o.slots ++ Array.replicate (0 + 1 - o.slots.size) none).setIfInBounds 0 (some (.type "list")) })) := Heap.SameBut.update ..
  have F2 := ((F.push emptyDict).push { cls := .ref 122, dict := some hh.objs.size, data := .dict #[] }).change hs zx.2.1 zx.2.2
  refine wpAny_call (make_dd (X₀.keeps F.keep) (X₀.keeps F2.keep) (h _ hh.objs.size _ F2 ?_ (fun p hp => Heap.lt_size (N p hp).1) (Nat.lt_succ_self _) ?_))
  rotate_left
  · obtain ⟨cd, sl, hC0⟩ := c217 w.params
    exact Heap.lt_size ((X₀.keeps F.keep) 217 _ hC0)
  refine news_upd (pre := []) N1 (fun _ hp => nomatch hp) (fun p hp => ?_) hs (Heap.get?_update_self _ zx.1 rfl)
  rcases List.mem_cons.mp hp with rfl | hp
  · exact Nat.ne_of_lt (Nat.lt_succ_self _)
  · exact Nat.ne_of_lt (Nat.lt_succ_of_lt (Heap.lt_size (N p hp).1))
end Mine
end G1

section F1
open PySem PySem.W PyProof.Rows
namespace Mine
open PySem.Calls Builtin Builtin.ObjectAttr
set_option maxRecDepth 100000
set_option maxHeartbeats 1600000
section
variable {w : World} {prog : Program} {A : Around} {E : Value → Shared → Prop} {s : Shared} {h₀ : Heap} {L : Addr} {m : Str → Option Value} {news : List (Addr × Obj)}
theorem canon_dga : Manifest.canonical "collections.defaultdict.__getattribute__" = "object.__getattribute__" := by decide +kernel
theorem fz122 (w : World) : findIn (hd.heap_39 w.params) (.ref 122) "freeze" = some (some (.ref 119)) := by kernel_rfl
theorem gt122 (w : World) : findIn (hd.heap_39 w.params) (.ref 122) "__getattr__" = some none := by kernel_rfl
theorem tf119 (w : World) : typeIn (hd.heap_39 w.params) (.ref 119) = some (.type "function") := by kernel_rfl
theorem meth_freeze {bx dx : Addr} {es : Array DictEntry} {n : Nat} {pl : Sem Bool} {Q : Value × List Value → Shared → Prop} (X₀ : (hd.heap_39 w.params).In h₀) (F : Fr h₀ L s.heap m) (N : News h₀ L s.heap news) (hx : (bx, ddObj dx es n) ∈ news) (hdx : (dx, emptyDict) ∈ news)
    (h : Q (.ref 119, [.ref bx]) s) : wpAny (model prog w) A (getMethod (.ref bx) "freeze" pl) Q E s := by
  have X := X₀.keeps F.keep
  have I : InstAt s.heap bx (ddObj dx es n) 122 (some emptyDict) := ⟨(N _ hx).1, rfl, rfl, (N _ hdx).1⟩
  unfold getMethod specialOf
  refine wpAny_bind (wpAny_bind (I.type.here ((looks_findIn X (ga122 w)).here ?_)))
  dsimp only
  rw [canon_dga, if_neg (by decide)]
  refine wpAny_bind (wpAny_bind (I.type.here ((looks_findIn X (gt122 w)).here ?_)))
  refine wpAny_bind (wpAny_bind (I.type.here ((looks_findIn X (fz122 w)).here (wpAny_bind ((looks_typeIn X (tf119 w)).here ?_)))))
  rw [if_neg (by decide +kernel)]
  refine wpAny_bind (wpAny_loadPart I.at_ ?_)
  refine wpAny_bind (wpAny_bind (wpAny_loadPart (N _ hdx).1 ?_))
  have hs : (lookIn "freeze" emptyDict).map (·.isSome) = some false := by kernel_rfl
  obtain ⟨r, a, b⟩ := Option.map_eq_some_iff.mp hs
  rw [nsLook_of a]
  refine wpAny_pure ?_
  rw [b]
  exact wpAny_bind (wpAny_rule (wpAny_pure h))
end
end Mine
end F1

section F2
open PySem PySem.W PyProof.Rows
namespace Mine
open PySem.Calls Builtin Builtin.ObjectAttr
set_option maxRecDepth 100000
set_option maxHeartbeats 1600000
theorem refuse_dd (x : Addr) : refuseLoop (.ref x) "__setattr__" [.ref 122, .type "collections.defaultdict", .type "dict", .type "object"] = pure () := by
  rw [refuseLoop_ref]
  kernel_rfl
section
variable {w : World} {prog : Program} {A : Around} {E : Value → Shared → Prop} {s : Shared} {h₀ : Heap} {L : Addr} {m : Str → Option Value} {news : List (Addr × Obj)} {R : Result → Shared → Prop}
theorem osa_dd {bx dx : Addr} {es : Array DictEntry} {n : Nat} {v : Value} {tk : Tok} {pre post : List (Addr × Obj)} (X₀ : (hd.heap_39 w.params).In h₀) (F : Fr h₀ L s.heap m) (N : News h₀ L s.heap (pre ++ (dx, emptyDict) :: post)) (hx : (bx, ddObj dx es n) ∈ pre ++ (dx, emptyDict) :: post)
    (h1 : ∀ p ∈ pre, p.1 ≠ dx) (h2 : ∀ p ∈ post, p.1 ≠ dx)
    (h : ∀ h', Fr h₀ L h' m → News h₀ L h' (pre ++ (dx, Obj.putName "_frozen" (PyData.keyHash w.params "_frozen") (.str "_frozen" s.toks) v emptyDict) :: post) → R (.ok (.ret .none)) { s with heap := h', toks := s.toks + 1 }) :
    codeAny (model prog w) A (.call (.builtin "object.__setattr__") ⟨[.ref bx, .str "_frozen" tk, v], []⟩) R s := by
  have X := X₀.keeps F.keep
  have D := (N (dx, emptyDict) (by simp)).1
  have I : InstAt s.heap bx (ddObj dx es n) 122 (some emptyDict) := ⟨(N _ hx).1, rfl, rfl, D⟩
  have SF := PySem.F.store_object
  have sub : Looks (model prog w) s.heap (isInstance (.ref bx) (.type "object")) true := I.type.andThen (Looks.of_peek X (by kernel_rfl))
  have hm := lk_mro (prog := prog) X
  have fa : findIn (hd.heap_39 w.params) (.ref 122) "_frozen" = some none := by kernel_rfl
  have l1 := looks_findIn (M := model prog w) X fa
  refine codeAny_call_builtin SF.slot.plain SF.entry (@check_slot (model prog w) _ _ s "object.__setattr__" "object" "__setattr__" (.ref bx) [.str "_frozen" tk, v] [] _ SF.kind SF.split sub (SF.args (.ref bx) (.str "_frozen" tk) v) ?_)
  rw [osa_eq, refuse_eq]
  refine wpAny_bind (wpAny_bind (I.type.here (wpAny_bind (hm.here ?_))))
  rw [refuse_dd]
  refine wpAny_pure (wpAny_bind (I.type.here (wpAny_bind (l1.here (wpAny_bind (Looks.now.here ?_))))))
  have hh : (clsIn (hd.heap_39 w.params) 122).any (·.hasDict) = true := by kernel_rfl
  obtain ⟨cd, hc, hd'⟩ := any_some hh
  obtain ⟨U1, U2⟩ := PySem.W.news_upd (f := Obj.putName "_frozen" (PyData.keyHash w.params "_frozen") (.str "_frozen" s.toks) v) F N h1 h2 rfl rfl
  have D' := (U2 (dx, Obj.putName "_frozen" (PyData.keyHash w.params "_frozen") (.str "_frozen" s.toks) v emptyDict) (by simp)).1
  refine wpAny_bind (wpAny_pure (wpAny_bind (wpAny_bind (wpAny_loadPart (N _ hx).1 (wpAny_bind ((looks_clsIn X hc).here ?_))))))
  rw [hd']
  refine wpAny_pure (a := some dx) (wpAny_bind (wpAny_pure (wpAny_bind ?_)))
  unfold nsSet
  refine wpAny_bind (wpAny_bind (wpAny_askSetting (wpAny_pure (wpAny_bind (wpAny_mkText (wpAny_bind (wpAny_loadPart D ?_)))))))
  have c : (!(#[] : Array DictEntry).any (·.key.isStr "_frozen") && (#[] : Array DictEntry).any (·.refKey)) = false := by simp
  dsimp only
  rw [aRefKeyMayBeTheName_at, c]
  refine wpAny_updatePart D ?_
  refine wpAny_bind (wpAny_lookBehind D' (by kernel_rfl) ?_)
  exact wpAny_pure (h _ U1 U2)
theorem set_frozen {bx dx : Addr} {es : Array DictEntry} {n : Nat} {v : Value} {pre post : List (Addr × Obj)} {Q : Unit → Shared → Prop} (X₀ : (hd.heap_39 w.params).In h₀) (F : Fr h₀ L s.heap m) (N : News h₀ L s.heap (pre ++ (dx, emptyDict) :: post)) (hx : (bx, ddObj dx es n) ∈ pre ++ (dx, emptyDict) :: post)
    (h1 : ∀ p ∈ pre, p.1 ≠ dx) (h2 : ∀ p ∈ post, p.1 ≠ dx)
    (h : ∀ h' t, Fr h₀ L h' m → News h₀ L h' (pre ++ (dx, Obj.putName "_frozen" (PyData.keyHash w.params "_frozen") (.str "_frozen" t) v emptyDict) :: post) → Q () { s with heap := h', toks := s.toks + 2 }) :
    wpAny (model prog w) A (setAttr (.ref bx) "_frozen" v) Q E s := by
  have D := (N (dx, emptyDict) (by simp)).1
  have I : InstAt s.heap bx (ddObj dx es n) 122 (some emptyDict) := ⟨(N _ hx).1, rfl, rfl, D⟩
  have sa : findIn (hd.heap_39 w.params) (.ref 122) "__setattr__" = some (some (.builtin "object.__setattr__")) := by kernel_rfl
  exact set_plain (X₀.keeps F.keep) I sa (osa_dd (s := { s with toks := s.toks + 1 }) X₀ F N hx h1 h2 fun h' F' N' => h h' _ F' N')
end
end Mine
end F2

section F4
open PySem PySem.W PyProof.Rows
namespace Mine
open PySem.Calls Builtin Builtin.ObjectAttr Builtin.Getset_descriptor Builtin.Collections_defaultdict
set_option maxRecDepth 100000
set_option maxHeartbeats 1600000
section
variable {w : World} {prog : Program} {A : Around} {E : Value → Shared → Prop} {s : Shared} {h₀ : Heap} {L : Addr} {m : Str → Option Value} {news : List (Addr × Obj)} {expr : Bool}
abbrev fzDict (w : World) (f : Addr) (t : Tok) : Obj := Obj.putName "_frozen" (PyData.keyHash w.params "_frozen") (.str "_frozen" t) (.ref f) emptyDict
theorem fdf (w : World) (f : Addr) (t : Tok) : findObj (hd.heap_39 w.params) 122 (some (fzDict w f t)) "default_factory" = some (.bind (.builtin "member_descriptor.__get__") (.builtin "collections.defaultdict.default_factory")) := by kernel_rfl
theorem fdfin (w : World) : findIn (hd.heap_39 w.params) (.ref 122) "default_factory" = some (some (.builtin "collections.defaultdict.default_factory")) := by kernel_rfl
theorem type_df : typeOf (.builtin "collections.defaultdict.default_factory") = pure (.type "member_descriptor") := by show builtinType _ = _; rw [builtinType_eq_fast]; kernel_rfl
theorem e_ddf : entryFor table "collections.defaultdict.default_factory" = some Builtin.«collections.defaultdict.default_factory» := entryFor_of_tree (by kernel_rfl)
theorem attr_factory {bx dx f : Addr} {t0 : Tok} {es : Array DictEntry} {n : Nat} {Q : Value → Shared → Prop} (X₀ : (hd.heap_39 w.params).In h₀) (F0 : Fr h₀ L s.heap m) (N : News h₀ L s.heap news) (hm : (bx, ddObj dx es n) ∈ news) (hdx : (dx, fzDict w f t0) ∈ news)
    (h : Q (.type "list") { s with toks := s.toks + 1 }) :
    wpAny (model prog w) A (getAttr (.ref bx) "default_factory" expr) Q E s := by
  have X := X₀.keeps F0.keep
  have I : InstAt s.heap bx (ddObj dx es n) 122 (some (fzDict w f t0)) := ⟨(N _ hm).1, rfl, rfl, (N _ hdx).1⟩
  obtain ⟨hh, g, dr, t, os⟩ := s
  have L0 := I.type (M := model prog w)
  have L1 := looks_findIn (M := model prog w) X (ga122 w)
  have L2 := looks_find (M := model prog w) X I (fdf w f t0)
  have L3 := dd_hook (prog := prog) X
  have t1 : Looks (model prog w) hh (isInstance (.ref bx) (.type "collections.defaultdict")) true := I.type.andThen (lk_subdd X)
  unfold getAttr getAttrBy
  refine wpAny_bind (wpAny_mkText (wpAny_holding (wpAny_bind (L0.at (wpAny_bind (L1.at ?_))))))
  show wpAny _ _ (getAttrByItsOwn _ _ _ _ _ _) _ _ _
  unfold getAttrByItsOwn
  refine wpAny_bind (L3.at (wpAny_bind (wpAny_attempt (wpAny_holding ?_))))
  unfold callGetattribute
  rw [show (expr && onTheHeap (Value.builtin "collections.defaultdict.__getattribute__")) = false from Bool.and_false _, if_neg (by decide)]
  unfold boundAndCalled
  rw [slot_dga.bind]
  refine wpAny_bind (wpAny_pure ?_)
  show wpAny _ _ (call (.builtin "collections.defaultdict.__getattribute__") [.ref bx, .str "default_factory" t]) _ _ _
  refine wpAny_call (codeAny_call_builtin slot_dga.plain e_dga ?_)
  refine @check_slot (model prog w) _ _ _ "collections.defaultdict.__getattribute__" "collections.defaultdict" "__getattribute__" (.ref bx) [.str "default_factory" t] [] _ k_dga s_dga t1 (a_dga _ _) ?_
  unfold Builtin.«object.__getattribute__»
  repeat ((fail_if_success (with_reducible show wpAny _ _ (bindTo _ _ _ _) _ _ _)); first | lk)
  show wpAny _ _ (holding [.builtin "collections.defaultdict.default_factory"] (call (.builtin "member_descriptor.__get__") [.builtin "collections.defaultdict.default_factory", .ref bx, .ref 122]) >>= ret) _ _ _
  refine wpAny_bind (wpAny_holding (wpAny_call (codeAny_call_builtin KF.slot_mem.plain KF.entry_mem (KF.slot_mem.check _ _ _ _ _ _ _ _ type_df (KF.args_mem _ _ _) ?_))))
  unfold Builtin.«member_descriptor.__get__» descrGet
  rw [dga_obj]
  refine wpAny_bind (wpAny_pure ?_)
  have en : descrOwnerAndName "collections.defaultdict.default_factory" = ("collections.defaultdict", "default_factory") := by decide +kernel
  unfold descrGetter descrCheckInstance descrNameAndClass
  simp only [en]
  repeat (first | (with_reducible refine wpAny_bind (t1.at ?_)) | lk)
  refine ⟨Code.quiet_builtin _ (by decide +kernel), codeAny_builtin e_ddf ?_⟩
  unfold Builtin.«collections.defaultdict.default_factory»
  have hx := (N _ hm).1
  repeat ((fail_if_success (with_reducible show wpAny _ _ (handedOut _) _ _ _)); first | lk)
  exact handed_on rfl h
theorem meth_factory {bx dx f : Addr} {t0 : Tok} {es : Array DictEntry} {n : Nat} {pl : Sem Bool} {Q : Value × List Value → Shared → Prop} (X₀ : (hd.heap_39 w.params).In h₀) (F : Fr h₀ L s.heap m) (N : News h₀ L s.heap news) (hm : (bx, ddObj dx es n) ∈ news) (hdx : (dx, fzDict w f t0) ∈ news)
    (h : Q (.type "list", []) { s with toks := s.toks + 1 }) : wpAny (model prog w) A (getMethod (.ref bx) "default_factory" pl) Q E s := by
  have X := X₀.keeps F.keep
  have I : InstAt s.heap bx (ddObj dx es n) 122 (some (fzDict w f t0)) := ⟨(N _ hm).1, rfl, rfl, (N _ hdx).1⟩
  unfold getMethod specialOf
  refine wpAny_bind (wpAny_bind (I.type.here ((looks_findIn X (ga122 w)).here ?_)))
  dsimp only
  rw [canon_dga, if_neg (by decide)]
  refine wpAny_bind (wpAny_bind (I.type.here ((looks_findIn X (gt122 w)).here ?_)))
  refine wpAny_bind (wpAny_bind (I.type.here ((looks_findIn X (fdfin w)).here (wpAny_bind (wpAny_of_eq type_df ?_)))))
  rw [if_pos (by decide +kernel)]
  refine wpAny_bind (attr_factory X₀ F N hm hdx ?_)
  exact wpAny_pure h
theorem call_list0L {Q : Value → Shared → Prop} (F : Fr h₀ L s.heap m) (N : News h₀ L s.heap news)
    (hq : ∀ a c h', (∀ p ∈ news, p.1 < a) → Fr h₀ L h' m → News h₀ L h' ((a, lobj [] c) :: news) → Q (.ref a) { s with heap := h' }) : wpAny (model prog w) A (call (.type "list") []) Q E s := by
  refine call_list0 fun h' c hk ha hz => hq _ c h' (fun p hp => Heap.lt_size (N p hp).1) ⟨F.ns.at' fun o e => hk _ o e, fun b o e => hk b o (F.keep b o e), F.above⟩ ?_
  intro p hp
  rcases List.mem_cons.mp hp with rfl | hp
  · exact ⟨ha, Nat.ne_of_gt F.ns.lt, next_is_new F⟩
  · exact ⟨hk _ _ (N p hp).1, (N p hp).2⟩
end
end Mine
end F4

section F3
open PySem PySem.W PyProof.Rows
namespace Mine
open PySem.Calls Builtin Builtin.ObjectAttr
set_option maxRecDepth 100000
set_option maxHeartbeats 1600000
def ConC (w : World) (D U : Nat) (f : Addr) (news : List (Addr × Obj)) (vs : List Value) (Post : Value → List (Addr × Obj) → Prop) : Prop :=
  ∀ (mean : ExcName → Option Value) (mg mb : Str → Option Value)
    (dp un : Nat) (gd : Option (List Code)) (cn : Str) (cs : Scope) (a : Addr) (ccd : Value) (cl : List (Str × Addr)) (outer : List Env) (A₀ : Around) (base h₀ : Heap) (L : Addr) (m : Str → Option Value) (s : Shared) (Q E : Value → Shared → Prop),
    CodeHd base 118 114 → Below A₀ base outer h₀ → Fr h₀ L s.heap m → (hd.heap_39 w.params).In h₀ → News h₀ L s.heap news → Top topProg Loose mean mg mb h₀ → cs.kind = .function →
    dp + D < recursionLimit → un + U < cLine →
    (∀ v news' (h' : Heap) (tk' : Nat), Fr h₀ L h' m → News h₀ L h' news' → Post v news' → Q v { s with heap := h', toks := tk' }) →
    codeAny (model PySem.Challenge.rw_il0136_01.row.prog w) (ktrTop dp un gd cn cs L a ccd cl outer) (.call (.ref f) ⟨vs, []⟩) (fun r s' => match r with | .ok (.ret v) => Q v s' | .ok _ => False | .error e => E e s') s
local macro_rules | `(tactic| units_room) => `(tactic| ktr_units)
local macro_rules | `(tactic| k_all) => `(tactic| k_extra "ALL")
def LamOk (w : World) (bx f : Addr) (fz : List (Addr × Obj)) : Prop := (∃ oc od fd sl, (f, (⟨oc, od, .func fd, sl⟩ : Obj)) ∈ fz) ∧ ∀ (dx : Addr) (t0 : Tok) (es : Array DictEntry) (n : Nat) (rest : List (Addr × Obj)) (k : Str) (t : Tok),
  ConV w 8 150 f ((bx, ddObj dx es n) :: (dx, fzDict w f t0) :: (fz ++ rest)) [.str k t] (fun v news' => ∃ a c, v = .ref a ∧ (∀ p ∈ (bx, ddObj dx es n) :: (dx, fzDict w f t0) :: (fz ++ rest), p.1 < a) ∧ news' = (a, lobj [] c) :: (bx, ddObj dx es n) :: (dx, fzDict w f t0) :: (fz ++ rest))
theorem freeze_con (w : World) (bx dx : Addr) (es : Array DictEntry) (n : Nat) (rest : List (Addr × Obj)) (hlt : @LT.lt Nat _ dx bx) (h217 : @LT.lt Nat _ 217 dx) (hr114 : ∀ p ∈ rest, p.1 ≠ 114) (hne : ∀ p ∈ rest, p.1 ≠ dx ∧ p.1 ≠ bx) :
    ConC w 10 200 119 ((bx, ddObj dx es n) :: (dx, emptyDict) :: (114, tabObj #[]) :: rest) [.ref bx] (fun v news' => ∃ f fz t P', v = .none ∧ news' = fz ++ ((bx, ddObj dx es n) :: (dx, fzDict w f t) :: (114, tabObj P') :: rest) ∧ LamOk w bx f fz ∧ ∀ p ∈ fz, @LT.lt Nat _ bx p.1) := by
  unfold ConC
  k_with_none
  w_top off
  k_fill
  (k_with "ALL" => first | with_reducible assumption | refine Mine.all_ne (by assumption) (by omega))
  intro mean mg mb
  intros
  rename_i hret
  (refine' code_defC ?k1 ?k2 ?k3 ?k4 ?k5 ?kA ?kF ?kK ?k6 ?k7 ?k8 ?k9 ?kB ?kD ?_ ?c2 ?c3 ?c4; (case kA => exact rfl); (case kF => exact rfl); (case kK => assumption); (case k1 => k_asm); (case k2 => k_asm); (case k3 => k_asm); (case k4 => k_asm); (case k5 => k_asm); (case k6 => k_is); (case k7 => k_is); (case k8 => ktr_room); (case k9 => exact BindsTo.of_eq rfl); (case kB => exact rfl); (case kD => decide +kernel); (case c2 => exact rfl); (case c3 => exact rfl); (case c4 => exact rfl); k_whole; intro g' L' h' tk' cells' FG' F' N' Y' B' X' T' l1; (try k_lt l1); k_cells Y'; (try simp only [List.cons_append, List.nil_append] at N'); (try dsimp only); (try k_lift B'); (try k_fold))
  k_with "setAttr ref" => refine Mine.stop ?_
  k_steps
  refine Mine.Stop.out ?_
  rename Fr _ _ _ _ => F9
  rename News _ _ _ _ => N9
  refine set_frozen (bx := bx) (dx := dx) (es := es) (n := n) (pre := [_, _, _, _]) (post := _ :: rest) (by k_asm) F9 N9 (.tail _ (.tail _ (.tail _ (.head _)))) ?h1 ?h2 ?_
  case h1 =>
    intro p hp
    simp only [List.mem_cons, List.not_mem_nil, or_false] at hp
    rcases hp with rfl | rfl | rfl | rfl
    · show @Ne Nat _ _; omega
    · show @Ne Nat _ _; omega
    · show @Ne Nat _ _; omega
    · show @Ne Nat _ _; omega
  case h2 =>
    intro p hp
    rcases List.mem_cons.mp hp with rfl | hp
    · show @Ne Nat _ _; omega
    · exact (hne p hp).1
  intro hA tA FA NA
  clear F9 N9
  try dsimp only
  try k_fold
  k_steps
  rename Fr _ _ _ _ => kF
  rename News _ _ _ _ => kN
  refine hret _ _ _ _ kF kN ⟨_, [_, _, _], _, _, rfl, rfl, ?lam, ?lt⟩
  case lt =>
    intro p hp
    simp only [List.mem_cons, List.not_mem_nil, or_false] at hp
    rcases hp with rfl | rfl | rfl
    · show @LT.lt Nat _ _ _; omega
    · show @LT.lt Nat _ _ _; omega
    · show @LT.lt Nat _ _ _; omega
  case lam =>
    unfold LamOk ConV
    refine ⟨⟨_, _, _, _, .head _⟩, ?_⟩
    k_fill
    (k_with "ALL" => first | with_reducible assumption | refine Mine.all_ne (by assumption) (by omega))
    simp only [List.cons_append, List.nil_append]
    intro dx2 t2 es2 n2 rest2 k2 tk2 mean2 mg2 mb2
    intros
    rename_i hret2
    (refine' kla_code ?k1 ?k2 ?k3 ?k4 ?k5 ?kA ?kF ?kK ?k6 ?k7 ?k8 ?k9 ?kB ?_ ?c2 ?c3 ?c4 ?c5; (case kA => exact rfl); (case kF => exact rfl); (case kK => assumption); (case k1 => k_asm); (case k2 => k_asm); (case k3 => k_asm); (case k4 => k_asm); (case k5 => k_asm); (case k6 => k_mem); (case k7 => exact codeRec_news (by k_asm) (by k_mem) (by assumption) (by assumption)); (case k8 => ktr_room); (case k9 => exact rfl); (case c5 => decide); (case kB => exact locs rfl); (case c2 => exact rfl); (case c3 => exact rfl); (case c4 => exact rfl); k_whole; intro g' L' h' FG' F' N' B' X' T'; (try dsimp only); (try k_lift B'); (try k_fold))
    (k_with "getMethod ref" => ((with_reducible show wpAny _ _ (getMethod (Value.ref _) (PySem.Str.ofString "default_factory") _) _ _ _); refine' meth_factory ?cX ?cF ?cN ?cm ?cd ?_; (case cX => k_asm); (case cF => k_asm); (case cN => k_asm); (case cm => k_mem); (case cd => k_mem); k_whole))
    (k_with "call type:list" => ((with_reducible show wpAny _ _ (call (Value.type "list") []) _ _ _); refine' call_list0L ?cF ?cN ?_; (case cF => k_asm); (case cN => k_asm); k_whole; intro a9 c9 h9 hlt9 F9 N9))
    k_steps
    rename Fr _ _ _ _ => kF2
    rename News _ _ _ _ => kN2
    exact hret2 _ _ _ _ kF2 kN2 ⟨a9, c9, rfl, hlt9, rfl⟩
end Mine
end F3

section B3
open PySem PySem.W PyProof.Rows
namespace Mine
local macro_rules | `(tactic| walk_at "PAD") => `(tactic| fail "pad")
local macro_rules | `(tactic| units_room) => `(tactic| ktr_units)
local macro_rules | `(tactic| k_ne) => `(tactic| k_extra "NE")
local macro_rules | `(tactic| k_all) => `(tactic| k_extra "ALL")
def LineOf (v : Value) (n p : Str) : Prop := ∃ z tz a b, v = .str z tz ∧ z.length ≤ 1000 ∧ Txt.splitMax z "=" 1 = [a, b] ∧ Txt.strip a = n ∧ Txt.strip b = p
theorem names2 {m0 : Str → Option Value} {a b : Str} : m0 = fun z => if z = a then m0 a else if z = b then m0 b else m0 z := by
  funext z
  by_cases h1 : z = a
  · subst h1; simp
  · by_cases h2 : z = b
    · subst h2; simp [h1]
    · simp [h1, h2]
theorem names4 {m0 : Str → Option Value} {a b : Str} {v1 v2 v3 v4 : Option Value} : (fun z => if z = a then v1 else if z = b then v2 else if z = a then v3 else if z = b then v4 else m0 z) = fun z => if z = a then v1 else if z = b then v2 else m0 z := by
  funext z
  by_cases h1 : z = a
  · simp [h1]
  · by_cases h2 : z = b
    · subst h2; simp [h1]
    · simp [h1, h2]
set_option maxRecDepth 100000 in
set_option maxHeartbeats 1600000 in
theorem book_con (w : World) (l : Addr) (vs : List Value) (n : Nat) (rest : List (Addr × Obj)) (prs : List (Str × Str)) (hv : ∀ (i : Nat) (v : Value), vs[i]? = some v → ∃ n p, prs[i]? = some (n, p) ∧ LineOf v n p) (hvl : vs.length ≤ 100) (hlen : prs.length = vs.length) (hr114 : ∀ p ∈ (l, lobj vs n) :: rest, p.1 ≠ 114) : ConC w 30 600 232 ((l, lobj vs n) :: (114, tabObj #[]) :: rest) [.ref l]
    (fun v news' => ∃ x dx f fz t P' C nb, v = .ref x ∧ news' = fz ++ ((x, ddObj dx (ents w (eB C)) nb) :: (dx, fzDict w f t) :: (114, tabObj P') :: (l, lobj vs n) :: (eL C ++ rest)) ∧ LamOk w x f fz ∧ Inv2 x prs prs.length C ∧ @LT.lt Nat _ 217 dx ∧ @LT.lt Nat _ dx x ∧ (∀ p ∈ fz, @LT.lt Nat _ x p.1) ∧ ∀ p ∈ (l, lobj vs n) :: (114, tabObj #[]) :: rest, @LT.lt Nat _ p.1 dx) := by
  unfold ConC
  k_with_none
  w_top off
  k_fill
  (k_with "ALL" => refine Mine.all_ne (by assumption) (by omega))
  (k_with "NE" => (refine neN ?_; (try dsimp only); with_reducible (first | assumption | exact Ne.symm (by assumption) | exact Nat.ne_of_lt (by assumption) | exact Nat.ne_of_gt (by assumption) | k_extra "CONJNE")))
  (k_with "CONJNE" => (rename (@LT.lt Nat _ _ _ ∧ _) => q; first | exact Nat.ne_of_gt q.1 | (replace q := And.right q; k_extra "CONJNE")))
  intro mean mg mb
  intros
  rename_i hret
  cell_enter
  (k_with "call ref" => ((with_reducible show wpAny _ _ (call (Value.ref 122) _) _ _ _); refine' call_dd2 ?cF ?cX ?cN ?_; (case cF => k_asm); (case cX => k_asm); (case cN => k_asm); k_whole; intro x dx h' F' N' hdx hx hd217))
  (k_with "exec For Name Name cons nil" => refine Mine.stop ?_)
  k_steps
  refine Mine.Stop.out ?_
  rename Fr _ _ _ _ => F0
  rename News _ _ _ _ => N0
  obtain ⟨m0, F1, hm0⟩ := fr_name F0
  obtain ⟨l0, N1, hl0⟩ := news_name N0
  clear F0 N0
  have hdx' : ∀ p ∈ (l, lobj vs n) :: (114, tabObj #[]) :: rest, @LT.lt Nat _ p.1 dx := hdx
  refine For_led F1 (fun i m nx => (∃ C nb, nx = (x, ddObj dx (ents w (eB C)) nb) :: (dx, emptyDict) :: (l, lobj vs n) :: (114, tabObj #[]) :: (eL C ++ rest) ∧ Inv2 x prs i C) ∧ ∃ vp vl : Option Value, m = (fun z => if z = Str.ofString "pair" then vp else if z = Str.ofString "line" then vl else m0 z)) ?_ (by intro _; rfl) (by passes_own)
  subst hm0 hl0
  try dsimp only
  try k_fold
  k_steps
  refine ForSrc.intro vs (by rfl) (by k_asm) (by assumption) (by k_mem) ⟨⟨[], 0, rfl, Inv2.zero _ _⟩, _, _, names2 (a := Str.ofString "pair") (b := Str.ofString "line")⟩ ?_ ?_ ?_
  · rintro i m nx ⟨⟨C, nb, rfl, -⟩, -⟩; k_mem
  · rintro i v m₁ nx hh tkk I oI hvi ⟨⟨C, nb, rfl, hC⟩, vp, vl, rfl⟩ hI F9 N9
    obtain ⟨nm, pt, hpr, z, tz, za, zb, rfl, hzl, hsp, hna, hpb⟩ := hv i v hvi
    have hil : i < 100 := by
      have := (List.getElem?_eq_some_iff.mp hvi).1
      omega
    try k_fold
    (k_with "call ref" => ((with_reducible show wpAny _ _ (call (Value.ref _) [Value.str _ _]) _ _ _); refine' call_meth (f := .ref 211) (self := .ref 217) ?cN ?cm ?_; (case cN => k_asm); (case cm => k_mem); (have hPc := parse_con z za zb tz hzl hsp); unfold ConL at hPc; (refine (hPc _ w mean mg mb) _ _ _ _ _ _ _ _ _ _ _ _ _ _ _ _ _ (by k_asm) (by k_asm) (by k_asm) (by k_asm) (by k_asm) (by exact rfl) (by ktr_room) (by ktr_units) ?_; k_whole); rintro v5 news5 h5 tk5 F5 N5 ⟨x5, d5, t5, u5, hdn5, hdx5, rfl, rfl⟩; rw [hna, hpb] at N5; k_whole))
    (k_with "subscriptTail Name Constant ref int" => ((with_reducible show wpAny _ _ (subscriptTail _ _ (Value.ref _) (Value.int 0 _)) _ _ _); refine' tail_pair0 ?cX ?cF ?cN ?cm ?_ ?_; (case cX => k_asm); (case cF => k_asm); (case cN => k_asm); (case cm => exact .head _); k_whole))
    (k_with "subscriptTail Name Subscript ref str" => refine Mine.stop ?_)
    (k_with "getAttr ref" => ((with_reducible show wpAny _ _ (getAttr (Value.ref _) (PySem.Str.ofString "value") _) _ _ _); refine' attr_value ?cX ?cF ?cN ?cm ?cd ?_; (case cX => k_asm); (case cF => k_asm); (case cN => k_asm); (case cm => k_mem); (case cd => k_mem); k_whole; intro E9; refine' wpAny_call ?_; (refine (hG9 w mean mg mb) _ _ _ _ _ _ _ _ _ _ _ _ _ _ _ _ _ (by k_asm) (by k_asm) (by k_asm) (by k_asm) (by k_asm) (by exact rfl) (by ktr_room) (by ktr_units) ?_; k_whole); rintro v6 news6 h6 tk6 F6 N6 ⟨rfl, rfl⟩; refine' handed_on rfl ?_; k_whole))
    (k_with "call builtin:list.append" => ((with_reducible show wpAny _ _ (call (Value.builtin _) [Value.ref _, _]) _ _ _); refine' append_K ?k1 ?k2 (Upd.head ?k3) ?_ ?z; (case k1 => k_asm); (case k2 => k_asm); (case k3 => exact hne9); (case z => (simp only [List.size_toArray]; exact Nat.le_trans hvz (by decide))); k_whole; intro hh' FF' NN'))
    k_steps
    refine Mine.Stop.out ?_
    rename Fr _ _ _ _ => F3
    rename News _ _ _ _ => N3
    have h1x : @LT.lt Nat _ 1 x := Nat.lt_trans (Nat.lt_trans (by decide) hd217) hx
    refine' tail_book (dx := dx) (B := eB C) (n := nb) ?cX F3 N3 ?cm h1x ?_ ?_ ?hs
    (case hs => exact ⟨_, by with_unfolding_all rfl⟩)
    (case cX => k_asm)
    (case cm => k_mem)
    · intro a9 hk9
      obtain ⟨C1, e, C2, rfl, rfl, hen, hl9⟩ := lookB_hit hk9
      have N4 : News _ _ _ ((e.addr, lobj e.vals e.cnt) :: (x5, pairObj d5 [.str nm t5, .str pt u5]) :: (d5, emptyDict) :: (I, oI) :: (x, ddObj dx (ents w (eB (C1 ++ e :: C2))) nb) :: (dx, emptyDict) :: (l, lobj vs n) :: (114, tabObj #[]) :: (eL C1 ++ (eL C2 ++ rest))) := fun p hp => N3 p (by
        rw [eL_app]
        simp only [List.mem_cons, List.mem_append, eL, List.map_cons] at hp ⊢
        rcases hp with h | h | h | h | h | h | h | h | h | h | h <;> simp [h])
      have hme : (e.addr, lobj e.vals e.cnt) ∈ eL (C1 ++ e :: C2) ++ rest := List.mem_append.mpr (.inl (by rw [eL_app]; exact List.mem_append.mpr (.inr (.head _))))
      have hlt5 : @LT.lt Nat _ e.addr d5 := hdn5 _ (.tail _ (.tail _ (.tail _ (.tail _ (.tail _ (.tail _ hme))))))
      have hIe : e.addr ≠ I := hI _ (.tail _ (.tail _ (.tail _ (.tail _ hme))))
      have hxe : @LT.lt Nat _ x e.addr := (hC.2.2.1 e (List.mem_append.mpr (.inr (.head _)))).1
      have hne9 : ∀ p ∈ (x5, pairObj d5 [.str nm t5, .str pt u5]) :: (d5, emptyDict) :: (I, oI) :: (x, ddObj dx (ents w (eB (C1 ++ e :: C2))) nb) :: (dx, emptyDict) :: (l, lobj vs n) :: (114, tabObj #[]) :: (eL C1 ++ (eL C2 ++ rest)), p.1 ≠ e.addr := by
        have hlow : ∀ p ∈ (l, lobj vs n) :: (114, tabObj #[]) :: rest, p.1 ≠ e.addr := fun p hp => Nat.ne_of_lt (Nat.lt_trans (hdx' p hp) (Nat.lt_trans hx hxe))
        intro p hp
        simp only [List.mem_cons, List.mem_append] at hp
        rcases hp with rfl | rfl | rfl | rfl | rfl | rfl | rfl | hp | hp | hp
        · exact Nat.ne_of_gt (Nat.lt_trans hlt5 hdx5)
        · exact Nat.ne_of_gt hlt5
        · exact Ne.symm hIe
        · exact Nat.ne_of_lt hxe
        · exact Nat.ne_of_lt (Nat.lt_trans hx hxe)
        · exact hlow _ (.head _)
        · exact hlow _ (.tail _ (.head _))
        · exact eL_ne hC.2.2.2 p (List.mem_append.mpr (.inl hp))
        · exact eL_ne hC.2.2.2 p (List.mem_append.mpr (.inr hp))
        · exact hlow _ (.tail _ (.tail _ hp))
      have hG9 := get_con x5 d5 (.str nm t5) (.str pt u5) _ (.tail _ (.head _) : (x5, pairObj d5 [.str nm t5, .str pt u5]) ∈ (e.addr, lobj e.vals e.cnt) :: (x5, pairObj d5 [.str nm t5, .str pt u5]) :: (d5, emptyDict) :: (I, oI) :: (x, ddObj dx (ents w (eB (C1 ++ e :: C2))) nb) :: (dx, emptyDict) :: (l, lobj vs n) :: (114, tabObj #[]) :: (eL C1 ++ (eL C2 ++ rest)))
      unfold ConL at hG9
      have hvz : e.vals.length ≤ 1000 := by
        have := (hC.2.2.1 e (List.mem_append.mpr (.inr (.head _)))).2
        omega
      clear N3
      try dsimp only
      try k_fold
      k_steps
      rename Fr _ _ _ _ => FZ
      rename News _ _ _ _ => NZ
      refine FStep.intro FZ NZ ?hsub ?hnI ⟨⟨C1 ++ ⟨e.name, e.tok, e.addr, e.vals ++ [.str pt u5], e.cnt + 1⟩ :: C2, nb, rfl, Inv2.hit hC (by rw [hen]; exact hpr) (by rw [hen]; exact hl9)⟩, _, _, names4 (a := Str.ofString "pair") (b := Str.ofString "line")⟩
      case hsub =>
        intro p hp
        rw [eB_upd, eL_app] at hp
        simp only [List.mem_cons, List.mem_append, eL, List.map_cons] at hp ⊢
        rcases hp with h | h | h | h | h | (h | h | h) | h <;> simp [h]
      case hnI =>
        intro p hp
        rw [eB_upd, eL_app] at hp
        rw [eL_app] at hI
        simp only [List.mem_cons, List.mem_append, eL, List.map_cons] at hp hI
        rcases hp with h | h | h | h | (h | h | h) | h
        · exact hI p (by simp [h])
        · exact hI p (by simp [h])
        · exact hI p (by simp [h])
        · exact hI p (by simp [h])
        · exact hI p (by simp [h])
        · rw [h]; exact hIe
        · exact hI p (by simp [h])
        · exact hI p (by simp [h])
    · intro hk9
      refine wpAny_call ?_
      have hM9 := miss_con w x dx (eB C) nb nm t5 ((x5, pairObj d5 [.str nm t5, .str pt u5]) :: (d5, emptyDict) :: (I, oI) :: (l, lobj vs n) :: (114, tabObj #[]) :: (eL C ++ rest)) hk9 ?hB h1x (Nat.ne_of_lt hx) ?hne
      case hB =>
        have := hC.2.1
        simp only [eB, List.length_map]; omega
      case hne =>
        intro p hp
        simp only [List.mem_cons, List.mem_append] at hp
        have hxd : @LT.lt Nat _ x d5 := hdn5 _ (.tail _ (.tail _ (.head _)))
        rcases hp with rfl | rfl | rfl | rfl | rfl | hp | hp
        · exact Nat.ne_of_gt (Nat.lt_trans hxd hdx5)
        · exact Nat.ne_of_gt hxd
        · exact Ne.symm (hI _ (.head _))
        · exact Nat.ne_of_lt (Nat.lt_trans (hdx' _ (.head _)) hx)
        · exact Nat.ne_of_lt (Nat.lt_trans (hdx' _ (.tail _ (.head _))) hx)
        · obtain ⟨d, hd, rfl⟩ := List.mem_map.mp hp
          exact Nat.ne_of_gt (hC.2.2.1 d hd).1
        · exact Nat.ne_of_lt (Nat.lt_trans (hdx' _ (.tail _ (.tail _ hp))) hx)
      unfold ConV at hM9
      have N4 : News _ _ _ ((x, ddObj dx (ents w (eB C)) nb) :: (dx, emptyDict) :: (x5, pairObj d5 [.str nm t5, .str pt u5]) :: (d5, emptyDict) :: (I, oI) :: (l, lobj vs n) :: (114, tabObj #[]) :: (eL C ++ rest)) := fun p hp => N3 p (by
        simp only [List.mem_cons, List.mem_append] at hp ⊢
        rcases hp with h | h | h | h | h | h | h | h | h <;> simp [h])
      clear N3
      (refine (hM9 mean mg mb) _ _ _ _ _ _ _ _ _ _ _ _ _ _ _ _ _ (by k_asm) (by k_asm) (by k_asm) (by k_asm) (by k_asm) (by exact rfl) (by ktr_room) (by ktr_units) ?_; k_whole)
      rintro v7 news7 h7 tk7 F7 N7 ⟨a7, c7, n7, rfl, hlt7, rfl⟩
      have hne9 : ∀ p ∈ (x, ddObj dx (ents w (eB C ++ [(nm, t5, a7)])) n7) :: (dx, emptyDict) :: (x5, pairObj d5 [.str nm t5, .str pt u5]) :: (d5, emptyDict) :: (I, oI) :: (l, lobj vs n) :: (114, tabObj #[]) :: (eL C ++ rest), p.1 ≠ a7 := by
        intro p hp
        rcases List.mem_cons.mp hp with rfl | hp
        · exact Nat.ne_of_lt (hlt7 (x, ddObj dx (ents w (eB C)) nb) (.head _))
        · exact Nat.ne_of_lt (hlt7 p (.tail _ hp))
      have hG9 := get_con x5 d5 (.str nm t5) (.str pt u5) _ (.tail _ (.tail _ (.tail _ (.head _))) : (x5, pairObj d5 [.str nm t5, .str pt u5]) ∈ (a7, lobj [] c7) :: (x, ddObj dx (ents w (eB C ++ [(nm, t5, a7)])) n7) :: (dx, emptyDict) :: (x5, pairObj d5 [.str nm t5, .str pt u5]) :: (d5, emptyDict) :: (I, oI) :: (l, lobj vs n) :: (114, tabObj #[]) :: (eL C ++ rest))
      unfold ConL at hG9
      have hvz : ([] : List Value).length ≤ 1000 := Nat.zero_le _
      clear N4
      try dsimp only
      try k_fold
      k_steps
      rename Fr _ _ _ _ => FZ
      rename News _ _ _ _ => NZ
      refine FStep.intro FZ NZ ?hsub ?hnI ⟨⟨C ++ [⟨nm, t5, a7, [.str pt u5], c7 + 1⟩], n7, rfl, Inv2.miss hC hpr hk9 (hlt7 _ (.head _)) ?hlA⟩, _, _, names4 (a := Str.ofString "pair") (b := Str.ofString "line")⟩
      case hlA => exact fun p hp => hlt7 p (.tail _ (.tail _ (.tail _ (.tail _ (.tail _ (.tail _ (.tail _ (List.mem_append.mpr (.inl hp)))))))))
      case hsub =>
        intro p hp
        rw [eB_app, eL_app] at hp
        simp only [List.mem_cons, List.mem_append, eL, eB, List.map_cons, List.map_nil, List.not_mem_nil, or_false] at hp ⊢
        rcases hp with h | h | h | h | h | (h | h) | h <;> simp [h]
      case hnI =>
        intro p hp
        rw [eB_app, eL_app] at hp
        simp only [List.mem_cons, List.mem_append, eL, List.map_cons, List.map_nil, List.not_mem_nil, or_false] at hp hI
        rcases hp with h | h | h | h | (h | h) | h
        · rw [h]; exact hI (x, ddObj dx (ents w (eB C)) nb) (by simp)
        · exact hI p (by simp [h])
        · exact hI p (by simp [h])
        · exact hI p (by simp [h])
        · exact hI p (by simp [h])
        · rw [h]; exact Nat.ne_of_gt (hlt7 (I, oI) (.tail _ (.tail _ (.tail _ (.tail _ (.head _))))))
        · exact hI p (by simp [h])
  · rintro m₁ nx hh tkk ⟨⟨C, nb, rfl, hC⟩, vp, vl, rfl⟩ F9 N9
    have hlow : ∀ p ∈ (l, lobj vs n) :: (eL C ++ rest), p.1 ≠ 114 ∧ p.1 ≠ dx ∧ p.1 ≠ x := by
      have h0 : ∀ p ∈ (l, lobj vs n) :: rest, p.1 ≠ 114 ∧ p.1 ≠ dx ∧ p.1 ≠ x := fun p hp => by
        have hd := hdx' p (by rcases List.mem_cons.mp hp with h | h <;> simp [h])
        exact ⟨hr114 p hp, Nat.ne_of_lt hd, Nat.ne_of_lt (Nat.lt_trans hd hx)⟩
      intro p hp
      simp only [List.mem_cons, List.mem_append] at hp
      rcases hp with rfl | hp | hp
      · exact h0 _ (.head _)
      · obtain ⟨d, hd, rfl⟩ := List.mem_map.mp hp
        have h1 := (hC.2.2.1 d hd).1
        exact ⟨Nat.ne_of_gt (Nat.lt_trans (Nat.lt_trans (Nat.lt_trans (by decide) hd217) hx) h1), Nat.ne_of_gt (Nat.lt_trans hx h1), Nat.ne_of_gt h1⟩
      · exact h0 p (.tail _ hp)
    have N4 : News _ _ _ ((x, ddObj dx (ents w (eB C)) nb) :: (dx, emptyDict) :: (114, tabObj #[]) :: (l, lobj vs n) :: (eL C ++ rest)) := fun p hp => N9 p (by
      simp only [List.mem_cons, List.mem_append] at hp ⊢
      rcases hp with h | h | h | h | h | h <;> simp [h])
    clear N9
    have hZ9 := freeze_con w x dx (ents w (eB C)) nb ((l, lobj vs n) :: (eL C ++ rest)) hx hd217 (fun p hp => (hlow p hp).1) (fun p hp => (hlow p hp).2)
    unfold ConC at hZ9
    (k_with "getMethod ref" => ((with_reducible show wpAny _ _ (getMethod (Value.ref _) (PySem.Str.ofString "freeze") _) _ _ _); refine' meth_freeze ?cX ?cF ?cN ?cm ?cd ?_; (case cX => k_asm); (case cF => k_asm); (case cN => k_asm); (case cm => k_mem); (case cd => k_mem); k_whole))
    (k_with "call ref" => ((with_reducible show wpAny _ _ (call (Value.ref 119) _) _ _ _); refine' wpAny_call ?_; (refine (hZ9 mean mg mb) _ _ _ _ _ _ _ _ _ _ _ _ _ _ _ _ _ (by k_asm) (by k_asm) (by k_asm) (by k_asm) (by k_asm) (by k_asm) (by exact rfl) (by ktr_room) (by ktr_units) ?_; k_whole); rintro v6 news6 h6 tk6 F6 N6 ⟨f6, fz6, t6, P6, rfl, rfl, hLam6, hfz6⟩))
    try dsimp only
    try k_fold
    k_steps
    rename Fr _ _ _ _ => kF
    rename News _ _ _ _ => kN
    refine hret _ _ _ _ kF kN ⟨x, dx, f6, fz6, t6, P6, C, nb, rfl, rfl, hLam6, ?_, hd217, hx, hfz6, hdx'⟩
    rw [hlen]; exact hC
end Mine
end B3

section M1
open PySem PySem.W PyProof.Rows
namespace Mine
open PySem.Calls Builtin Builtin.ObjectAttr
set_option maxRecDepth 100000
set_option maxHeartbeats 1600000
section
variable {w : World} {prog : Program} {A : Around} {E : Value → Shared → Prop} {s : Shared} {Q : Value → Shared → Prop}
theorem fo122z (w : World) (f : Addr) (t : Tok) : findObj (hd.heap_39 w.params) 122 (some (fzDict w f t)) "_frozen" = some (.value (.ref f)) := by kernel_rfl
theorem getattr_hit {bx dx f : Addr} {t0 : Tok} {es : Array DictEntry} {n : Nat} {tk : Tok} {dv : Value} (X : (hd.heap_39 w.params).In s.heap) (hx : s.heap.get? bx = some (ddObj dx es n)) (hdx : s.heap.get? dx = some (fzDict w f t0))
    (hq : Q (.ref f) s) :
    wpAny (model prog w) A (call (.builtin "getattr") [.ref bx, .str "_frozen" tk, dv]) Q E s := by
  obtain ⟨h, g, d, t, os⟩ := s
  have I : InstAt h bx (ddObj dx es n) 122 (some (fzDict w f t0)) := ⟨hx, rfl, rfl, hdx⟩
  have L0 := I.type (M := model prog w)
  have L1 := looks_findIn (M := model prog w) X (ga122 w)
  have L2 := looks_find (M := model prog w) X I (fo122z w f t0)
  have L3 := dd_hook (prog := prog) X
  have L4 : Looks (model prog w) h (isInstance (.ref bx) (.type "module")) false := I.type.andThen (dd_mod X)
  have t1 : Looks (model prog w) h (isInstance (.ref bx) (.type "collections.defaultdict")) true := I.type.andThen (lk_subdd X)
  refine wpAny_call (codeAny_call_builtin p_gattr e_gattr ?_)
  have ok := a_gattr (.ref bx) (.str "_frozen" tk) dv
  simp only [checkBuiltinCall, k_gattr]
  have hf : wpAny (model prog w) A.in1 (Builtin.«getattr» ⟨[.ref bx, .str "_frozen" tk, dv], []⟩) (fun fin s' => match fin with | .done f => wants Q E (.ok f) s' | .again c' => c'.quiet = true ∧ codeAny (model prog w) A c' (wants Q E) s') (fun e s' => wants Q E (.error e) s') ⟨h, g, d, t, os⟩ := by
    unfold Builtin.«getattr»
    repeat ((fail_if_success (with_reducible show wpAny _ _ (getAttrBy? _ _ >>= _) _ _ _)); (fail_if_success (with_reducible show wpAny _ _ (getAttrBy? _ _) _ _ _)); first | lk)
    refine wpAny_bind ?_
    unfold getAttrBy?
    refine wpAny_bind (wpAny_attempt ?_)
    unfold getAttrBy
    refine wpAny_holding (wpAny_bind (L0.at (wpAny_bind (L1.at ?_))))
    show wpAny _ _ (getAttrByItsOwn _ _ _ _ _ _) _ _ _
    unfold getAttrByItsOwn
    refine wpAny_bind (L3.at (wpAny_bind (wpAny_attempt (wpAny_holding ?_))))
    unfold callGetattribute
    rw [show (false && onTheHeap (Value.builtin "collections.defaultdict.__getattribute__")) = false from rfl, if_neg (by decide : ¬ (false = true))]
    unfold boundAndCalled
    rw [slot_dga.bind]
    refine wpAny_bind (wpAny_pure ?_)
    show wpAny _ _ (call (.builtin "collections.defaultdict.__getattribute__") [.ref bx, .str "_frozen" tk]) _ _ _
    refine wpAny_call (codeAny_call_builtin slot_dga.plain e_dga ?_)
    refine @check_slot (model prog w) _ _ _ "collections.defaultdict.__getattribute__" "collections.defaultdict" "__getattribute__" (.ref bx) [.str "_frozen" tk] [] _ k_dga s_dga t1 (a_dga _ _) ?_
    unfold Builtin.«object.__getattribute__»
    repeat ((fail_if_success (with_reducible show wpAny _ _ (handedOut _) _ _ _)); first | lk)
    refine handed_on rfl ?_
    repeat (any_goals (first | exact hq | assumption | wp_step))
  cases hsig : Manifest.signature? "getattr" with
  | none => exact wpAny_pure hf
  | some sig =>
    simp only [argsOk, hsig] at ok
    have h2 : Bind.checkArgs "getattr" sig ⟨[.ref bx, .str "_frozen" tk, dv], []⟩ = pure () := ok
    show wpAny _ _ (Bind.checkArgs "getattr" sig ⟨[.ref bx, .str "_frozen" tk, dv], []⟩) _ _ _
    rw [h2]; exact wpAny_pure hf
end
local macro_rules | `(tactic| units_room) => `(tactic| ktr_units)
local macro_rules | `(tactic| k_all) => `(tactic| k_extra "ALL")
theorem miss2_con (w : World) (bx dx f : Addr) (fz : List (Addr × Obj)) (es : Array DictEntry) (n : Nat) (t0 : Tok) (k : Str) (t : Tok) (rest : List (Addr × Obj)) (hL : LamOk w bx f fz) :
    ConV w 20 400 112 ((bx, ddObj dx es n) :: (dx, fzDict w f t0) :: (fz ++ rest)) [.ref bx, .str k t] (fun v news' => ∃ a c, v = .ref a ∧ (∀ p ∈ (bx, ddObj dx es n) :: (dx, fzDict w f t0) :: (fz ++ rest), p.1 < a) ∧ news' = (a, lobj [] c) :: ((bx, ddObj dx es n) :: (dx, fzDict w f t0) :: (fz ++ rest))) := by
  unfold ConV
  k_with_none
  w_top off
  k_fill
  (k_with "ALL" => refine Mine.all_ne (by assumption) (by omega))
  intro mean mg mb
  intros
  rename_i hret
  (refine' ks_code_super ?k1 ?k2 ?k3 ?k4 ?k5 ?kA ?kF ?kK ?k6 ?k7 ?k8 ?k9 ?kB ?_ ?c1 ?c2 ?c3 ?c4; (case kA => exact rfl); (case kF => exact rfl); (case kK => assumption); (case k1 => k_asm); (case k2 => k_asm); (case k3 => k_asm); (case k4 => k_asm); (case k5 => k_asm); (case k6 => k_is); (case k7 => k_is); (case k8 => ktr_room); (case k9 => exact BindsTo.of_eq rfl); (case kB => exact locs rfl); (case c1 => decide); (case c2 => exact rfl); (case c3 => exact rfl); (case c4 => exact rfl); intro g' L' h' FG' F' N' B' X' T' l1; (try k_lt l1); (try dsimp only); (try k_lift B'))
  refine ks_wpAt_execs_cons ?_
  refine at_ret3 (id := "getattr") ?_
  try dsimp only
  try k_fold
  k_steps
  refine Mine.Stop.out ?_
  refine at_super ?_ (by rfl)
  rename Fr _ _ _ _ => F7
  rename News _ _ _ _ => N7
  have I7 := (⟨(N7 _ (.head _)).1, rfl, rfl, (N7 _ (.tail _ (.head _))).1⟩ : InstAt _ bx (ddObj dx es n) 122 (some (fzDict w f t0)))
  (refine ks_node (by k_asm) (by k_asm) (by k_asm) (by k_asm) (by k_is) (by rfl) (by rfl) I7 (by k_is) (by rfl) (by first | rfl | decide +kernel) (by k_is) (by k_is) (by k_is) (by k_is) (by decide) (by rfl) (by rfl) (by rfl) (by rfl) (by decide +kernel) (by first | boot_by_name | rfl | kernel_rfl) ?_; intro so' h8 F8 N8 l8)
  refine attr_superL (o := ddObj dx es n) (by k_asm) F8 N8 (.head _) (.tail _ (.head _)) rfl (by intro c; nofun) ?_
  intro q9 h9 l9 F9 N9
  refine getattr_hit (f := f) (dx := dx) (es := es) (n := n) (t0 := t0) (Frag.In.keeps (by k_asm) F9.keep) (N9 _ (.tail _ (.tail _ (.head _)))).1 (N9 _ (.tail _ (.tail _ (.tail _ (.head _))))).1 ?_
  obtain ⟨⟨oc, od, fd, sl, hfd⟩, hL⟩ := hL
  refine callWith_F (FnAt.of N9 (.tail _ (.tail _ (.tail _ (.tail _ (List.mem_append.mpr (.inl hfd))))))) ?_ (by rfl) (by rfl)
  try dsimp only
  try k_fold
  k_steps
  · exact FnAt.of N9 (.tail _ (.tail _ (.tail _ (.tail _ (List.mem_append.mpr (.inl hfd))))))
  · refine wpAny_call ?_
    have hL9 := hL dx t0 es n rest k t
    unfold ConV at hL9
    have N4 : News _ _ _ ((bx, ddObj dx es n) :: (dx, fzDict w f t0) :: (fz ++ rest)) := fun p hp => N9 p (.tail _ (.tail _ hp))
    clear N9 N8 N7 F8 F7 I7
    (refine (hL9 mean mg mb) _ _ _ _ _ _ _ _ _ _ _ _ _ _ _ _ _ (by k_asm) (by k_asm) (by k_asm) (by k_asm) (by k_asm) (by exact rfl) (by ktr_room) (by ktr_units) ?_; k_whole)
    rintro v6 news6 h6 tk6 F6 N6 ⟨a6, c6, rfl, hlt6, rfl⟩
    clear N4
    try dsimp only
    try k_fold
    k_steps
    rename Fr _ _ _ _ => kF
    rename News _ _ _ _ => kN
    exact hret _ _ _ _ kF kN ⟨a6, c6, rfl, hlt6, rfl⟩
end Mine
end M1

section S1
open PySem PySem.W PyProof.Rows
namespace Mine
open Builtin Builtin.Str StrLaws
theorem len_list (x : Str) : x.length = x.cps.toList.length := by simp [Str.length]
theorem mk_len (l : List Nat) : (⟨l.toArray⟩ : Str).length = l.length := by simp [Str.length]
theorem str_ext {x y : Str} (h : x.cps.toList = y.cps.toList) : x = y := by
  cases x with | mk a => cases y with | mk b => cases a with | mk l => cases b with | mk m => simp at h; rw [h]
theorem at_iff (x y : Str) (hi i : Nat) : At x y hi i ↔ i + y.length ≤ hi ∧ (x.cps.toList.drop i).take y.length = y.cps.toList := by
  unfold At
  rw [subAt_eq]
  simp
theorem at_one (x : Str) (c hi i : Nat) (hh : hi ≤ x.length) : At x ⟨#[c]⟩ hi i ↔ i < hi ∧ x.cps.toList[i]? = some c := by
  have h := subAt_one x c i
  have e : (⟨#[c]⟩ : Str).length = 1 := rfl
  unfold At
  rw [e] at h ⊢
  constructor
  · intro ⟨h1, h2⟩; exact ⟨by omega, h.mp ⟨by omega, h2⟩⟩
  · intro ⟨h1, h2⟩
    have := h.mpr h2
    exact ⟨by omega, this.2⟩
theorem from_nat (n i : Nat) : fromIndex n (i : Int) = i := by
  unfold fromIndex
  have h : ¬ ((i : Int) < 0) := by omega
  rw [if_neg h]
  omega
theorem occ_from_hi (x y : Str) (lo hi : Nat) :
    (occurrences x y lo hi 1 = [] ∧ ∀ i, lo ≤ i → ¬ At x y hi i) ∨
    ∃ i r, occurrences x y lo hi 1 = i :: r ∧ lo ≤ i ∧ At x y hi i ∧ ∀ k, lo ≤ k → k < i → ¬ At x y hi k := by
  rw [occ_eq]
  rcases occ_first x y hi 1 (Nat.le_refl _) (List.range' lo (hi + 1 - lo)) lo (fun i hi => by have := List.mem_range'_1.mp hi; omega) with ⟨h0, hn⟩ | ⟨pre, a, post, e, h0, ha, hn⟩
  · refine .inl ⟨by rw [h0], fun i hlo hi => ?_⟩
    exact hn i (by have := hi.1; rw [List.mem_range'_1]; omega) hi
  · have hs := range'_split_from e
    refine .inr ⟨a, ((forIn (List.range' lo (hi + 1 - lo)) ((#[] : Array Nat), lo) (occBody x y hi 1)).run.fst.toList).tail, ?_, hs.1, ha, fun k hk0 hk => hn k (hs.2 k hk0 hk)⟩
    generalize (forIn (List.range' lo (hi + 1 - lo)) ((#[] : Array Nat), lo) (occBody x y hi 1)).run.fst = arr at h0
    have h1 : arr.toList[0]? = some a := by simpa using h0
    cases hL : arr.toList with
    | nil => rw [hL] at h1; cases h1
    | cons b t => rw [hL] at h1; simp at h1; rw [h1]; rfl
theorem find4_spec (x y : Str) (i j : Nat) (hj : j ≤ x.length) :
    (find4 x y i j = -1 ∧ ∀ k, i ≤ k → ¬ At x y j k) ∨ ∃ k : Nat, find4 x y i j = (k : Int) ∧ i ≤ k ∧ At x y j k ∧ ∀ k', i ≤ k' → k' < k → ¬ At x y j k' := by
  unfold find4
  rw [from_nat, from_nat, Nat.min_eq_left hj]
  rcases occ_from_hi x y i j with ⟨h, hn⟩ | ⟨k, r, h, h1, h2, h3⟩
  · rw [h]; exact .inl ⟨rfl, hn⟩
  · rw [h]; exact .inr ⟨k, rfl, h1, h2, h3⟩
theorem find_spec (x y : Str) : (Txt.find x y = -1 ∧ ∀ k, ¬ At x y x.length k) ∨ ∃ k : Nat, Txt.find x y = (k : Int) ∧ At x y x.length k ∧ ∀ k', k' < k → ¬ At x y x.length k' := by
  unfold Txt.find
  rcases occ_from_hi x y 0 x.length with ⟨h, hn⟩ | ⟨k, r, h, h1, h2, h3⟩
  · rw [h]; exact .inl ⟨rfl, fun k => hn k (Nat.zero_le _)⟩
  · rw [h]; exact .inr ⟨k, rfl, h2, fun k' => h3 k' (Nat.zero_le _)⟩
theorem rfind4_spec (x y : Str) (j : Nat) (hj : j ≤ x.length) :
    (rfind4 x y 0 j = -1 ∧ ∀ k, ¬ At x y j k) ∨ ∃ k : Nat, rfind4 x y 0 j = (k : Int) ∧ At x y j k ∧ ∀ k', k < k' → ¬ At x y j k' := by
  unfold rfind4
  rw [show fromIndex x.length 0 = 0 from from_nat _ 0, from_nat, Nat.min_eq_left hj, last_eq]
  have key := last_run x y j (List.range' 0 (j + 1 - 0)) [] none (fun _ h => nomatch h) (fun _ h => nomatch h) (by simpa using List.pairwise_lt_range' (s := 0) (n := j + 1 - 0))
  have hmem : ∀ k, At x y j k → k ∈ ([] ++ List.range' 0 (j + 1 - 0) : List Nat) := fun k hk => by
    have := hk.1
    rw [List.nil_append, List.mem_range'_1]; omega
  cases hr : (forIn (List.range' 0 (j + 1 - 0)) none (lastBody x y j)).run with
  | none =>
    rw [hr] at key
    exact .inl ⟨rfl, fun k hk => key k (hmem k hk) hk⟩
  | some a =>
    rw [hr] at key
    exact .inr ⟨a, rfl, key.1, fun k' hk' hk => key.2 k' (hmem k' hk) hk' hk⟩
theorem msg_gen {P R : List Nat} {s : Nat} {x : Str} (hx : x.cps.toList = P ++ 58 :: 32 :: R) (h10 : 10 ∉ P) (h58 : 58 ∉ P) (hs : s ≤ P.length) (hdot : (s = 0 ∧ 46 ∉ P) ∨ (P[s - 1]? = some 46 ∧ 0 < s ∧ 46 ∉ P.drop s)) : stripF x = ⟨(P.drop s).toArray⟩ := by
  have hl : x.length = P.length + 2 + R.length := by rw [len_list, hx]; simp; omega
  have e10 : Str.ofString "\n" = ⟨#[10]⟩ := by decide
  have e58 : Str.ofString ":" = ⟨#[58]⟩ := by decide
  have e46 : Str.ofString "." = ⟨#[46]⟩ := by decide
  have hxi : ∀ i, i < P.length → x.cps.toList[i]? = P[i]? := fun i hi => by rw [hx, List.getElem?_append_left hi]
  have hx0 : x.cps.toList[P.length]? = some 58 := by rw [hx, List.getElem?_append_right (Nat.le_refl _)]; simp
  have hx1 : x.cps.toList[P.length + 1]? = some 32 := by rw [hx, List.getElem?_append_right (by omega)]; simp
  have notIn : ∀ {c i : Nat}, c ∉ P → i < P.length → x.cps.toList[i]? ≠ some c := fun {c i} hc hi h => hc (List.mem_of_getElem? (by rw [← hxi i hi]; exact h))
  -- the first line's end
  obtain ⟨e1, he1, hb1, hu1⟩ : ∃ e1 : Nat, stripE1 x = (e1 : Int) ∧ P.length + 2 ≤ e1 ∧ e1 ≤ x.length := by
    unfold stripE1
    rw [e10]
    rcases find_spec x ⟨#[10]⟩ with ⟨h, -⟩ | ⟨k, h, hk, -⟩
    · rw [h, if_neg (by omega)]; exact ⟨x.length, rfl, by omega, Nat.le_refl _⟩
    · rw [h, if_pos (by omega)]
      have hk' := (at_one x 10 x.length k (Nat.le_refl _)).mp hk
      refine ⟨k, rfl, ?_, by omega⟩
      by_cases h1 : k < P.length
      · exact absurd hk'.2 (notIn h10 h1)
      by_cases h2 : k = P.length
      · rw [h2, hx0] at hk'; simp at hk'
      by_cases h3 : k = P.length + 1
      · rw [h3, hx1] at hk'; simp at hk'
      omega
  have he2 : stripE2 x (stripE1 x) = (P.length : Int) := by
    rw [he1]
    unfold stripE2
    rw [e58]
    have hat : At x ⟨#[58]⟩ e1 P.length := (at_one x 58 e1 _ hu1).mpr ⟨by omega, hx0⟩
    rcases find4_spec x ⟨#[58]⟩ 0 e1 hu1 with ⟨h, hn⟩ | ⟨k, h, -, hk, hn⟩
    · exact absurd hat (hn _ (Nat.zero_le _))
    · have h' : find4 x ⟨#[58]⟩ 0 (e1 : Int) = (k : Int) := h
      rw [h', if_pos (by omega)]
      have hk' := (at_one x 58 e1 k hu1).mp hk
      have : k = P.length := by
        rcases Nat.lt_trichotomy k P.length with h1 | h1 | h1
        · exact absurd hk'.2 (notIn h58 h1)
        · exact h1
        · exact absurd hat (hn _ (Nat.zero_le _) h1)
      rw [this]
  have he3 : stripS x (P.length : Int) = (s : Int) := by
    unfold stripS
    rw [e46]
    rcases rfind4_spec x ⟨#[46]⟩ P.length (by omega) with ⟨h, hn⟩ | ⟨k, h, hk, hn⟩
    · rw [h, if_neg (by omega)]
      rcases hdot with ⟨h0, -⟩ | ⟨h1, h2, -⟩
      · rw [h0]; rfl
      · exact absurd ((at_one x 46 P.length (s - 1) (by omega)).mpr ⟨by omega, by rw [hxi _ (by omega)]; exact h1⟩) (hn _)
    · rw [h, if_pos (by omega)]
      have hk' := (at_one x 46 P.length k (by omega)).mp hk
      have hkP : P[k]? = some 46 := by rw [← hxi k hk'.1]; exact hk'.2
      rcases hdot with ⟨h0, h1⟩ | ⟨h1, h2, h3⟩
      · exact absurd (List.mem_of_getElem? hkP) h1
      · have : k = s - 1 := by
          rcases Nat.lt_trichotomy k (s - 1) with h4 | h4 | h4
          · exact absurd ((at_one x 46 P.length (s - 1) (by omega)).mpr ⟨by omega, by rw [hxi _ (by omega)]; exact h1⟩) (hn _ h4)
          · exact h4
          · exfalso
            apply h3
            have : (P.drop s)[k - s]? = some 46 := by rw [List.getElem?_drop]; rw [show s + (k - s) = k by omega]; exact hkP
            exact List.mem_of_getElem? this
        rw [this]; omega
  unfold stripF
  rw [he2, he3]
  rw [slice_int x (by omega) (by omega)]
  simp only [Int.toNat_natCast]
  congr 1
  rw [hx, List.drop_append_of_le_length hs, List.take_append_of_le_length (by rw [List.length_drop]; omega), List.take_of_length_le (by rw [List.length_drop]; omega)]
end Mine
end S1

section S2
open PySem PySem.W PyProof.Rows
namespace Mine
open Builtin Builtin.Str StrLaws
theorem sub_list (x : Str) (i j : Nat) : (strSub x i j).cps.toList = (x.cps.toList.drop i).take (j - i) := strSub_toList x i j
theorem takeWhile_rep {p : Nat → Bool} {a : List Nat} (h : ∀ c ∈ a, p c = true) (r : List Nat) : (a ++ r).takeWhile p = a ++ r.takeWhile p := by
  induction a with
  | nil => rfl
  | cons c a ih => rw [List.cons_append, List.takeWhile_cons, h c (.head _), if_pos rfl, ih fun d hd => h d (.tail _ hd), List.cons_append]
theorem takeWhile_no {p : Nat → Bool} {c : Nat} {r : List Nat} (h : p c = false) : (c :: r).takeWhile p = [] := by
  rw [List.takeWhile_cons, h, if_neg (by decide)]
theorem strip_pad {x : Str} {a c b : List Nat} (hx : x.cps.toList = a ++ (c ++ b)) (ha : ∀ k ∈ a, Unicode.isSpace k = true) (hb : ∀ k ∈ b, Unicode.isSpace k = true) (hc : ∀ k ∈ c, Unicode.isSpace k = false) : Txt.strip x = ⟨c.toArray⟩ := by
  unfold Txt.strip
  rw [PyProof.Rows.stripBy_eq]
  have hl : x.length = a.length + (c.length + b.length) := by rw [len_list, hx]; simp
  cases c with
  | nil =>
    have e1 : stripLo Unicode.isSpace true x = x.length := by
      unfold stripLo
      rw [if_pos rfl, hx, takeWhile_rep ha, List.nil_append]
      have := takeWhile_rep hb []
      rw [List.append_nil] at this
      rw [this, hl]; simp
    have e2 : stripHi Unicode.isSpace true x x.length = x.length := by
      unfold stripHi
      rw [if_pos rfl, List.drop_of_length_le (by rw [len_list]; exact Nat.le_refl _)]; simp
    rw [e1, e2]
    exact str_ext (by rw [sub_list]; simp)
  | cons k r =>
    have e1 : stripLo Unicode.isSpace true x = a.length := by
      unfold stripLo
      rw [if_pos rfl, hx, takeWhile_rep ha, List.cons_append, takeWhile_no (hc k (.head _))]; simp
    have e2 : stripHi Unicode.isSpace true x a.length = a.length + (k :: r).length := by
      unfold stripHi
      rw [if_pos rfl, hx, List.drop_append_of_le_length (Nat.le_refl _), List.drop_length, List.nil_append, List.reverse_append, takeWhile_rep (fun d hd => hb d (List.mem_reverse.mp hd))]
      have hne : (k :: r).reverse ≠ [] := by simp
      obtain ⟨d, q, hq⟩ := List.exists_cons_of_ne_nil hne
      have hd : d ∈ k :: r := List.mem_reverse.mp (by rw [hq]; exact .head _)
      rw [hq, takeWhile_no (hc d hd), List.append_nil, hl, List.length_reverse]
      omega
    rw [e1, e2]
    refine str_ext ?_
    rw [sub_list, hx, List.drop_append_of_le_length (Nat.le_refl _), List.drop_length, List.nil_append, Nat.add_sub_cancel_left, List.take_append_of_le_length (Nat.le_refl _), List.take_length]
theorem split1 {x : Str} {a b : List Nat} {c : Nat} (hx : x.cps.toList = a ++ c :: b) (ha : c ∉ a) : Txt.splitMax x ⟨#[c]⟩ 1 = [⟨a.toArray⟩, ⟨b.toArray⟩] := by
  have hl : x.length = a.length + (b.length + 1) := by rw [len_list, hx]; simp
  have hmem : c ∈ x.cps.toList := by rw [hx]; simp
  have hxi : ∀ i, i < a.length → x.cps.toList[i]? = a[i]? := fun i hi => by rw [hx, List.getElem?_append_left hi]
  have hx0 : x.cps.toList[a.length]? = some c := by rw [hx, List.getElem?_append_right (Nat.le_refl _)]; simp
  have e1 : (⟨#[c]⟩ : Str).length = 1 := rfl
  have hlim : limitOf x 1 = 1 := by unfold limitOf; rw [if_neg (by decide)]; rfl
  have hk : ¬ strKind x < strKind ⟨#[c]⟩ := fun h => kind_free x c h hmem
  have hat : At x ⟨#[c]⟩ x.length a.length := (at_one x c x.length _ (Nat.le_refl _)).mpr ⟨by omega, hx0⟩
  have hocc : occurrences x ⟨#[c]⟩ 0 x.length 1 = [a.length] := by
    have hlen := occ_length_le x ⟨#[c]⟩ 0 x.length 1
    rcases occ_from_hi x ⟨#[c]⟩ 0 x.length with ⟨-, hn⟩ | ⟨i, r, h, -, hi, hn⟩
    · exact absurd hat (hn _ (Nat.zero_le _))
    · rw [h] at hlen ⊢
      have hr : r = [] := by simpa using hlen
      have hi' := (at_one x c x.length i (Nat.le_refl _)).mp hi
      have : i = a.length := by
        rcases Nat.lt_trichotomy i a.length with h1 | h1 | h1
        · exact absurd (List.mem_of_getElem? (by rw [← hxi i h1]; exact hi'.2)) ha
        · exact h1
        · exact absurd hat (hn _ (Nat.zero_le _) h1)
      rw [hr, this]
  unfold Txt.splitMax
  rw [if_neg (by simp [hk, e1, hl]), hlim, hocc, if_neg (by simp), partsBetween_eq]
  show [strSub x 0 a.length, strSub x (a.length + 1) x.length] = _
  have p1 : strSub x 0 a.length = ⟨a.toArray⟩ := str_ext (by rw [sub_list, hx]; simp)
  have p2 : strSub x (a.length + 1) x.length = ⟨b.toArray⟩ := str_ext (by
    rw [sub_list, hx, hl]
    have : (a ++ c :: b).drop (a.length + 1) = b := by rw [← List.drop_drop, List.drop_append_of_le_length (Nat.le_refl _), List.drop_length]; rfl
    rw [this, List.take_of_length_le (by omega)])
  rw [p1, p2]
theorem app_list (x y : Str) : (x ++ y).cps.toList = x.cps.toList ++ y.cps.toList := by rw [Str.cps_append]; simp
theorem join_flat (ts : List Str) : (Txt.join (Str.ofString "") ts).cps.toList = (ts.map (·.cps.toList)).flatten := by
  unfold Txt.join
  rw [StrLaws.glued_eq_join]
  induction ts with
  | nil => rfl
  | cons t r ih =>
    cases r with
    | nil => simp [Str.join]
    | cons u r =>
      have e : Str.join (Str.ofString "") (t :: u :: r) = t ++ Str.ofString "" ++ Str.join (Str.ofString "") (u :: r) := rfl
      rw [e, app_list, app_list, ih]
      have : (Str.ofString "").cps.toList = [] := by decide
      rw [this]; simp
theorem join_len' (ts : List Str) : (Txt.join (Str.ofString "") ts).length = (ts.map (·.length)).sum := by
  rw [len_list, join_flat, List.length_flatten, List.map_map]
  congr 1
end Mine
end S2

section P1
open PySem PySem.W PyProof.Rows
namespace Mine
inductive RefsAre {α : Type} (P : Addr → α → Prop) : List Value → List α → Prop
  | nil : RefsAre P [] []
  | cons {a : Addr} {x : α} {vs : List Value} {xs : List α} : P a x → RefsAre P vs xs → RefsAre P (.ref a :: vs) (x :: xs)
theorem RefsAre.mono {α : Type} {P Q : Addr → α → Prop} (h : ∀ a x, P a x → Q a x) : ∀ {vs : List Value} {xs : List α}, RefsAre P vs xs → RefsAre Q vs xs
  | _, _, .nil => .nil
  | _, _, .cons p r => .cons (h _ _ p) (r.mono h)
theorem RefsAre.snoc {α : Type} {P : Addr → α → Prop} {a : Addr} {x : α} (p : P a x) : ∀ {vs : List Value} {xs : List α}, RefsAre P vs xs → RefsAre P (vs ++ [.ref a]) (xs ++ [x])
  | _, _, .nil => .cons p .nil
  | _, _, .cons q r => .cons q (r.snoc p)
theorem RefsAre.length {α : Type} {P : Addr → α → Prop} : ∀ {vs : List Value} {xs : List α}, RefsAre P vs xs → vs.length = xs.length
  | _, _, .nil => rfl
  | _, _, .cons _ r => by rw [List.length_cons, List.length_cons, r.length]
theorem RefsAre.item {α : Type} {P : Addr → α → Prop} : ∀ {vs : List Value} {xs : List α} {i : Nat} {v : Value}, RefsAre P vs xs → vs[i]? = some v → ∃ a x, v = .ref a ∧ xs[i]? = some x ∧ P a x
  | _, _, 0, v, .cons (a := a) (x := x) p _, h => by simp at h; exact ⟨a, x, h.symm, rfl, p⟩
  | _, _, i + 1, v, .cons _ r, h => by simpa using r.item (by simpa using h)
abbrev Names3 : List Str := [Str.ofString "E", Str.ofString "Er", Str.ofString "KeyE"]
def ruleAt (tl : List (Addr × Obj)) (a : Addr) (r : Str × Str) : Prop := ∃ t u, (a, tupObj [.str r.1 t, .str r.2 u]) ∈ tl
def msgAt (tl : List (Addr × Obj)) (a : Addr) (r : Str × Str × Str) : Prop := ∃ t u v, (a, tupObj [.str r.1 t, .str r.2.1 u, .str r.2.2 v]) ∈ tl
def MenuP : List Str := [Str.ofString "...", Str.ofString "a", Str.ofString "b", Str.ofString ".", Str.ofString "=...", Str.ofString ""]
def GoodRule (r : Str × Str) : Prop := r.1 ∈ Names3 ∧ r.2.length ≤ 16 ∧ PyData.strOk r.2 = true
def GoodMsg (r : Str × Str × Str) : Prop := r.1 ∈ Names3 ∧ r.2.1.length ≤ 1000 ∧ r.2.2.length ≤ 1000 ∧ stripF r.2.2 = r.1
theorem menu_any {prog : Program} {w : World} {A : Around} {E : Value → Shared → Prop} {s : Shared} {h₀ : Heap} {L l : Addr} {news : List (Addr × Obj)} {n : Nat} {u : Tok} {value slice : Expr} {its : List Value} {zs : List Str} {k : Int} {Q : Value → Shared → Prop}
    (N : News h₀ L s.heap news) (hm : (l, lobj its n) ∈ news) (hS : StrsAre its zs) (h0 : 0 ≤ k) (h1 : k < (zs.length : Int)) (hz : zs.length ≤ 1000) (hb : ∀ z ∈ zs, z.length ≤ 10) (h : ∀ z t, z ∈ zs → z.length ≤ 10 → Q (.str z t) s)
    (hs : subscripted slice false (.ref l) (.int k u) = operate [.ref l, .int k u] (getItem (.ref l) (.int k u)) := by with_unfolding_all rfl) : wpAny (model prog w) A (subscriptTail value slice (.ref l) (.int k u)) Q E s := by
  have hl := hS.length
  have hk : k.toNat < its.length := by omega
  obtain ⟨z, t, hv, hz'⟩ := sa_item hS (List.getElem?_eq_getElem hk)
  have hx : its.toArray[k.toNat]? = some its[k.toNat] := by simp [hk]
  refine tail_any (lobj_list N hm).typeIs slot_list_getitem.lookup (wpAny_getItem_list (lobj_list N hm) h0 (by omega) hx ?_) hs
  rw [hv]
  exact h z t (List.mem_of_getElem? hz') (hb z (List.mem_of_getElem? hz'))
def Joined (Menu : List Str) (p : Str) : Prop := ∃ ts : List Str, ts.length = 4 ∧ (∀ z ∈ ts, z ∈ Menu) ∧ p = Txt.join (Str.ofString "") ts
theorem join_len (ts : List Str) : (Txt.join (Str.ofString "") ts).length = (ts.map (·.length)).sum := join_len' ts
theorem sum_le {ts : List Str} {b : Nat} (h : ∀ z ∈ ts, z.length ≤ b) : (ts.map (·.length)).sum ≤ ts.length * b := by
  induction ts with
  | nil => simp
  | cons z r ih =>
    have h1 := h z (.head _)
    have h2 := ih fun y hy => h y (.tail _ hy)
    simp only [List.map_cons, List.sum_cons, List.length_cons, Nat.add_mul]
    omega
theorem menuP_le : ∀ z ∈ MenuP, z.length ≤ 4 := by decide
def MenuD : List Str := [Str.ofString "a", Str.ofString "b", Str.ofString ".", Str.ofString "ab", Str.ofString "", Str.ofString "=:\n"]
theorem menuD_le : ∀ z ∈ MenuD, z.length ≤ 4 := by decide
def Blank (b : Str) : Prop := ∃ k : Int, 0 ≤ k ∧ k < 3 ∧ b = Txt.mul (Str.ofString " ") k
theorem blank_len {b : Str} (h : Blank b) : b.length ≤ 2 := by
  obtain ⟨k, h0, h3, rfl⟩ := h
  obtain rfl | rfl | rfl : k = 0 ∨ k = 1 ∨ k = 2 := by omega
  all_goals decide
theorem names_len {z : Str} (h : z ∈ [Str.ofString "E", Str.ofString "Er", Str.ofString "KeyE"]) : z.length ≤ 4 := by
  have : ∀ z ∈ [Str.ofString "E", Str.ofString "Er", Str.ofString "KeyE"], z.length ≤ 4 := by decide
  exact this z h
theorem four_strs {vs : List Value} {bs : List Str} (h : StrsAre vs bs) (hl : bs.length = 4) : ∃ b0 b1 b2 b3 t0 t1 t2 t3, bs = [b0, b1, b2, b3] ∧ vs = [.str b0 t0, .str b1 t1, .str b2 t2, .str b3 t3] := by
  cases h with
  | nil => cases hl
  | cons a0 t0 h => cases h with
    | nil => cases hl
    | cons a1 t1 h => cases h with
      | nil => cases hl
      | cons a2 t2 h => cases h with
        | nil => cases hl
        | cons a3 t3 h => cases h with
          | nil => exact ⟨a0, a1, a2, a3, t0, t1, t2, t3, rfl, rfl⟩
          | cons a4 t4 h => simp at hl
theorem item_led {prog : Program} {w : World} {A : Around} {E : Value → Shared → Prop} {s : Shared} {h₀ : Heap} {L l : Addr} {news : List (Addr × Obj)} {n : Nat} {u : Tok} {value slice : Expr} {its : List Value} {k : Int} {v : Value} {Q : Value → Shared → Prop}
    (N : News h₀ L s.heap news) (hm : (l, lobj its n) ∈ news) (h0 : 0 ≤ k) (h1 : k < 1000) (hx : its[k.toNat]? = some v) (h : Q v s)
    (hs : subscripted slice false (.ref l) (.int k u) = operate [.ref l, .int k u] (getItem (.ref l) (.int k u)) := by with_unfolding_all rfl) : wpAny (model prog w) A (subscriptTail value slice (.ref l) (.int k u)) Q E s :=
  tail_any (lobj_list N hm).typeIs slot_list_getitem.lookup (wpAny_getItem_list (lobj_list N hm) h0 (by omega) (by simpa using hx) h) hs
theorem news_drop4 {h₀ h : Heap} {L : Addr} {a b c d e : Addr × Obj} {r : List (Addr × Obj)} (N : News h₀ L h (a :: b :: c :: d :: e :: r)) : News h₀ L h (a :: r) := fun p hp => N p (by
  rcases List.mem_cons.mp hp with rfl | hp
  · exact .head _
  · exact .tail _ (.tail _ (.tail _ (.tail _ (.tail _ hp)))))
theorem led1 {h₀ h : Heap} {L : Addr} {a : Addr} {o : Obj} {r : List (Addr × Obj)} (_N : News h₀ L h ((a, o) :: r)) : ∃ a', a' = a := ⟨_, rfl⟩
theorem mul_list : ∀ k ∈ [(0 : Int), 1, 2], ∀ c ∈ (Txt.mul (Str.ofString " ") k).cps.toList, Unicode.isSpace c = true := by decide +kernel
theorem blank_sp {b : Str} (h : Blank b) : ∀ c ∈ b.cps.toList, Unicode.isSpace c = true ∧ c ≠ 61 := by
  obtain ⟨k, h0, h3, rfl⟩ := h
  have hk : k ∈ [(0 : Int), 1, 2] := by
    obtain rfl | rfl | rfl : k = 0 ∨ k = 1 ∨ k = 2 := by omega
    all_goals decide
  intro c hc
  refine ⟨mul_list k hk c hc, ?_⟩
  rintro rfl
  exact absurd (mul_list k hk 61 hc) (by decide +kernel)
theorem names_sp : ∀ n ∈ Names3, ∀ c ∈ n.cps.toList, Unicode.isSpace c = false ∧ c ≠ 61 ∧ c ≠ 46 ∧ c ≠ 58 ∧ c ≠ 10 := by decide +kernel
theorem menuP_sp : ∀ n ∈ MenuP, ∀ c ∈ n.cps.toList, Unicode.isSpace c = false := by decide +kernel
theorem joined_sp {p : Str} (h : Joined MenuP p) : ∀ c ∈ p.cps.toList, Unicode.isSpace c = false := by
  obtain ⟨ts, -, hts, rfl⟩ := h
  intro c hc
  rw [join_flat] at hc
  obtain ⟨l, hl, hcl⟩ := List.mem_flatten.mp hc
  obtain ⟨z, hz, rfl⟩ := List.mem_map.mp hl
  exact menuP_sp z (hts z hz) c hcl
theorem menuP_ok : ∀ n ∈ MenuP, ∀ c ∈ n.cps.toList, c < 0x110000 := by decide +kernel
theorem joined_ok {p : Str} (h : Joined MenuP p) : PyData.strOk p = true := by
  obtain ⟨ts, -, hts, rfl⟩ := h
  unfold PyData.strOk
  rw [Array.all_eq_true']
  intro c hc
  have hc' : c ∈ (Txt.join (Str.ofString "") ts).cps.toList := by simpa using hc
  rw [join_flat] at hc'
  obtain ⟨l, hl, hcl⟩ := List.mem_flatten.mp hc'
  obtain ⟨z, hz, rfl⟩ := List.mem_map.mp hl
  simpa using menuP_ok z (hts z hz) c hcl
theorem good_rule {n p : Str} (hn : n ∈ Names3) (hp : Joined MenuP p) (hl : p.length ≤ 16) : GoodRule (n, p) := ⟨hn, hl, joined_ok hp⟩
theorem names_ok {n : Str} (h : n ∈ Names3) : PyData.strOk n = true := by
  have : ∀ n ∈ Names3, PyData.strOk n = true := by decide +kernel
  exact this n h
theorem ofList (x : Str) : (⟨x.cps.toList.toArray⟩ : Str) = x := by cases x; simp
theorem line_good {b0 b1 b2 b3 n p : Str} {t : Tok} (h0 : Blank b0) (h1 : Blank b1) (h2 : Blank b2) (h3 : Blank b3) (hn : n ∈ Names3) (hp : Joined MenuP p) (hpl : p.length ≤ 16) : LineOf (.str (b0 ++ n ++ b1 ++ Str.ofString "=" ++ b2 ++ p ++ b3) t) n p := by
  have e61 : (Str.ofString "=").cps.toList = [61] := by decide
  have e61' : Str.ofString "=" = ⟨#[61]⟩ := by decide
  refine ⟨_, t, ⟨(b0.cps.toList ++ (n.cps.toList ++ b1.cps.toList)).toArray⟩, ⟨(b2.cps.toList ++ (p.cps.toList ++ b3.cps.toList)).toArray⟩, rfl, ?_, ?_, ?_, ?_⟩
  · have l0 := blank_len h0; have l1 := blank_len h1; have l2 := blank_len h2; have l3 := blank_len h3; have ln := names_len hn
    have le : (Str.ofString "=").length = 1 := rfl
    simp only [Str.length_append, le]; omega
  · show Txt.splitMax _ (Str.ofString "=") 1 = _
    rw [e61']
    refine split1 ?_ ?_
    · simp only [app_list]; simp
    · intro h
      rcases List.mem_append.mp h with h | h
      · exact (blank_sp h0 _ h).2 rfl
      · rcases List.mem_append.mp h with h | h
        · exact (names_sp n hn _ h).2.1 rfl
        · exact (blank_sp h1 _ h).2 rfl
  · rw [strip_pad (a := b0.cps.toList) (c := n.cps.toList) (b := b1.cps.toList) (by simp) (fun c hc => (blank_sp h0 c hc).1) (fun c hc => (blank_sp h1 c hc).1) (fun c hc => (names_sp n hn c hc).1), ofList]
  · rw [strip_pad (a := b2.cps.toList) (c := p.cps.toList) (b := b3.cps.toList) (by simp) (fun c hc => (blank_sp h2 c hc).1) (fun c hc => (blank_sp h3 c hc).1) (joined_sp hp), ofList]
abbrev Fronts : List Str := [Str.ofString "", Str.ofString "m.", Str.ofString "m.n."]
abbrev Tails : List Str := [Str.ofString "", Str.ofString "\n", Str.ofString "\nm.Er: b"]
theorem msg_a : ∀ f ∈ Fronts, ∀ n ∈ Names3, ∀ t ∈ Tails, stripF (f ++ n ++ Str.ofString "" ++ t) = n ∧ (f ++ n ++ Str.ofString "" ++ t).length ≤ 1000 := by decide +kernel
theorem fronts_ok : ∀ f ∈ Fronts, (∀ c ∈ f.cps.toList, c ≠ 58 ∧ c ≠ 10) ∧ (f.cps.toList = [] ∨ f.cps.toList[f.cps.toList.length - 1]? = some 46) := by decide +kernel
theorem msg_b0 {f n t d : Str} (hf : f ∈ Fronts) (hn : n ∈ Names3) : stripF (f ++ n ++ (Str.ofString ": " ++ d) ++ t) = n := by
  have e : (Str.ofString ": ").cps.toList = [58, 32] := by decide
  obtain ⟨hf1, hf2⟩ := fronts_ok f hf
  have hN := names_sp n hn
  have h46 : 46 ∉ n.cps.toList := fun h => (hN _ h).2.2.1 rfl
  rw [msg_gen (P := f.cps.toList ++ n.cps.toList) (R := d.cps.toList ++ t.cps.toList) (s := f.cps.toList.length) (by simp only [app_list, e]; simp) ?_ ?_ (by simp) ?_]
  · rw [List.drop_append_of_le_length (Nat.le_refl _), List.drop_length, List.nil_append, ofList]
  · intro h
    rcases List.mem_append.mp h with h | h
    · exact (hf1 _ h).2 rfl
    · exact (hN _ h).2.2.2.2 rfl
  · intro h
    rcases List.mem_append.mp h with h | h
    · exact (hf1 _ h).1 rfl
    · exact (hN _ h).2.2.2.1 rfl
  · rcases hf2 with h | h
    · left
      rw [h]; exact ⟨rfl, by simpa using h46⟩
    · right
      have hpos : 0 < f.cps.toList.length := by
        cases hq : f.cps.toList with
        | nil => rw [hq] at h; simp at h
        | cons c r => simp
      refine ⟨?_, hpos, ?_⟩
      · rw [List.getElem?_append_left (by omega)]; exact h
      · rw [List.drop_append_of_le_length (Nat.le_refl _), List.drop_length, List.nil_append]; exact h46
theorem msg_b {f n t d : Str} (hf : f ∈ Fronts) (hn : n ∈ Names3) (_ht : t ∈ Tails) : stripF (f ++ n ++ (Str.ofString ": " ++ d) ++ t) = n := msg_b0 hf hn
theorem msg_l {f n t d : Str} (hf : f ∈ Fronts) (hn : n ∈ Names3) (ht : t ∈ Tails) (hd : d.length ≤ 16) : (f ++ n ++ (Str.ofString ": " ++ d) ++ t).length ≤ 1000 := by
  have h1 : ∀ f ∈ Fronts, f.length ≤ 10 := by decide
  have h2 : ∀ f ∈ Names3, f.length ≤ 10 := by decide
  have h3 : ∀ f ∈ Tails, f.length ≤ 10 := by decide
  have e : (Str.ofString ": ").length = 2 := rfl
  have := h1 f hf; have := h2 n hn; have := h3 t ht
  simp only [Str.length_append, e]; omega
theorem good_a {f n t d : Str} (hf : f ∈ Fronts) (hn : n ∈ Names3) (ht : t ∈ Tails) (hd : d.length ≤ 1000) : GoodMsg (n, d, f ++ n ++ Str.ofString "" ++ t) :=
  ⟨hn, hd, (msg_a f hf n hn t ht).2, (msg_a f hf n hn t ht).1⟩
theorem good_b {f n t d e : Str} (hf : f ∈ Fronts) (hn : n ∈ Names3) (ht : t ∈ Tails) (hd : d.length ≤ 1000) (he : e.length ≤ 16) : GoodMsg (n, d, f ++ n ++ (Str.ofString ": " ++ e) ++ t) :=
  ⟨hn, hd, msg_l hf hn ht he, msg_b hf hn ht⟩
theorem join_menu {prog : Program} {w : World} {A : Around} {E : Value → Shared → Prop} {s : Shared} {h₀ : Heap} {L D : Addr} {news : List (Addr × Obj)} {its : List Value} {n : Nat} {ts Menu : List Str} {t : Tok} {Q : Value → Shared → Prop}
    (N : News h₀ L s.heap news) (hm : (D, lobj its n) ∈ news) (hS : StrsAre its ts) (hl : ts.length = 4) (hz : ∀ z ∈ ts, z ∈ Menu) (hM : ∀ z ∈ Menu, z.length ≤ 4)
    (h : ∀ p t' k, Joined Menu p → p.length ≤ 16 → Q (.str p t') { s with toks := k }) : wpAny (model prog w) A (call (.builtin "str.join") [.str (Str.ofString "") t, .ref D]) Q E s := by
  have hs : (ts.map (·.length)).sum ≤ 16 := by
    have := sum_le fun z hz' => hM z (hz z hz')
    rw [hl] at this; exact this
  refine join_list (lobj_list N hm) (by simpa using hS) (by have e : (Str.ofString "").length = 0 := rfl
                                                            rw [e, hl]; omega) fun t' k => h _ t' k ⟨ts, hl, hz, rfl⟩ (by rw [join_len]; exact hs)
/-- seven names set anew over an elder map -/
theorem names7 {m m0 : Str → Option Value} {a1 a2 a3 a4 a5 a6 a7 : Str} (h : ∀ z, z ≠ a1 → z ≠ a2 → z ≠ a3 → z ≠ a4 → z ≠ a5 → z ≠ a6 → z ≠ a7 → m z = m0 z) :
    m = fun z => if z = a1 then m a1 else if z = a2 then m a2 else if z = a3 then m a3 else if z = a4 then m a4 else if z = a5 then m a5 else if z = a6 then m a6 else if z = a7 then m a7 else m0 z := by
  funext z
  by_cases h1 : z = a1
  · simp [h1]
  rw [if_neg h1]
  by_cases h2 : z = a2
  · simp [h2]
  rw [if_neg h2]
  by_cases h3 : z = a3
  · simp [h3]
  rw [if_neg h3]
  by_cases h4 : z = a4
  · simp [h4]
  rw [if_neg h4]
  by_cases h5 : z = a5
  · simp [h5]
  rw [if_neg h5]
  by_cases h6 : z = a6
  · simp [h6]
  rw [if_neg h6]
  by_cases h7 : z = a7
  · simp [h7]
  rw [if_neg h7]
  exact h z h1 h2 h3 h4 h5 h6 h7
theorem led4 {h₀ h : Heap} {L : Addr} {a b c d : Addr} {oa ob oc od : Obj} {r : List (Addr × Obj)} (_N : News h₀ L h ((a, oa) :: (b, ob) :: (c, oc) :: (d, od) :: r)) : ∃ a' b' c' d', a' = a ∧ b' = b ∧ c' = c ∧ d' = d := ⟨_, _, _, _, rfl, rfl, rfl, rfl⟩
theorem ia_item : ∀ {vs : List Value} {ns : List Int} {i : Nat} {v : Value}, IntsAre vs ns → vs[i]? = some v → ∃ n t, v = .int n t ∧ ns[i]? = some n
  | _, _, 0, v, .cons n t _, h => by simp at h; exact ⟨n, t, h.symm, rfl⟩
  | _, _, i + 1, v, .cons _ _ r, h => by simpa using ia_item r (by simpa using h)
theorem all_gt {news : List (Addr × Obj)} {d a : Addr} (h : ∀ p ∈ news, @LT.lt Nat _ d p.1) (hle : @LE.le Nat _ a d) : ∀ p ∈ news, p.1 ≠ a := fun p hp => Nat.ne_of_gt (Nat.lt_of_le_of_lt hle (h p hp))
theorem all11 {I a1 a2 a3 a4 a5 a6 a7 a8 a9 : Addr} {x1 x2 x3 x4 x5 x6 x7 x8 x9 : Obj} {r : List (Addr × Obj)} (h : ∀ p ∈ (a1, x1) :: (a2, x2) :: (a3, x3) :: (a4, x4) :: (a5, x5) :: (a6, x6) :: (a7, x7) :: (a8, x8) :: (a9, x9) :: r, p.1 ≠ I) :
    @Ne Nat a1 I ∧ @Ne Nat a2 I ∧ @Ne Nat a3 I ∧ @Ne Nat a4 I ∧ @Ne Nat a5 I ∧ @Ne Nat a6 I ∧ @Ne Nat a7 I ∧ @Ne Nat a8 I ∧ @Ne Nat a9 I :=
  ⟨h (a1, x1) (.head _), h (a2, x2) (.tail _ (.head _)), h (a3, x3) (.tail _ (.tail _ (.head _))), h (a4, x4) (.tail _ (.tail _ (.tail _ (.head _)))), h (a5, x5) (.tail _ (.tail _ (.tail _ (.tail _ (.head _))))), h (a6, x6) (.tail _ (.tail _ (.tail _ (.tail _ (.tail _ (.head _)))))), h (a7, x7) (.tail _ (.tail _ (.tail _ (.tail _ (.tail _ (.tail _ (.head _))))))), h (a8, x8) (.tail _ (.tail _ (.tail _ (.tail _ (.tail _ (.tail _ (.tail _ (.head _)))))))), h (a9, x9) (.tail _ (.tail _ (.tail _ (.tail _ (.tail _ (.tail _ (.tail _ (.tail _ (.head _)))))))))⟩
theorem ledV {h₀ h : Heap} {L : Addr} {a : Addr} {vs : List Value} {r : List (Addr × Obj)} (_N : News h₀ L h ((a, W.listOf vs.toArray 0) :: r)) : ∃ a' vs', a' = a ∧ vs' = vs := ⟨_, _, rfl, rfl⟩
inductive LinesAre : List Value → List (Str × Str) → Prop
  | nil : LinesAre [] []
  | cons {v : Value} {vs : List Value} {r : Str × Str} {rs : List (Str × Str)} : LineOf v r.1 r.2 → LinesAre vs rs → LinesAre (v :: vs) (r :: rs)
theorem LinesAre.snoc {v : Value} {r : Str × Str} (h : LineOf v r.1 r.2) : ∀ {vs : List Value} {rs : List (Str × Str)}, LinesAre vs rs → LinesAre (vs ++ [v]) (rs ++ [r])
  | _, _, .nil => .cons h .nil
  | _, _, .cons q t => .cons q (t.snoc h)
theorem LinesAre.length : ∀ {vs : List Value} {rs : List (Str × Str)}, LinesAre vs rs → vs.length = rs.length
  | _, _, .nil => rfl
  | _, _, .cons _ r => by rw [List.length_cons, List.length_cons, r.length]
theorem LinesAre.item : ∀ {vs : List Value} {rs : List (Str × Str)}, LinesAre vs rs → ∀ (i : Nat) (v : Value), vs[i]? = some v → ∃ n p, rs[i]? = some (n, p) ∧ LineOf v n p
  | _, _, .cons (r := r) q _, 0, v, h => by simp at h; subst h; exact ⟨r.1, r.2, rfl, q⟩
  | _, _, .cons _ t, i + 1, v, h => by simpa using t.item i v (by simpa using h)
theorem ledO {h₀ h : Heap} {L : Addr} {p1 p2 p3 p4 : Addr × Obj} {a1 a2 a3 a4 a5 : Addr} {o1 o2 o3 o4 o5 : Obj} {r : List (Addr × Obj)} (_N : News h₀ L h (p1 :: p2 :: p3 :: p4 :: (a1, o1) :: (a2, o2) :: (a3, o3) :: (a4, o4) :: (a5, o5) :: r)) : ∃ x1 x2 x3 x4 x5, x1 = o1 ∧ x2 = o2 ∧ x3 = o3 ∧ x4 = o4 ∧ x5 = o5 := ⟨_, _, _, _, _, rfl, rfl, rfl, rfl, rfl⟩
theorem ghost_name {s : Shared} {T : List (Addr × Addr)} {L : Addr} {h : Heap} {m : Str → Option Value} (_F : Fr (ghostOf s.heap T) L h m) : ∃ s', s' = s := ⟨_, rfl⟩
end Mine
end P1

section P2
open PySem PySem.W PyProof.Rows
namespace Mine
inductive LawJ (b dl lm lr ll : Nat) (vs : List Value) (o5 : Obj) (m0 : Str → Option Value) (i : Nat) : (Str → Option Value) → List (Addr × Obj) → Prop
  | mk (R : List (Str × Str)) (M : List (Str × Str × Str)) (rs ms ls : List Value) (cm cr cl : Nat) (p1 p2 p3 p4 : Obj) (tl : List (Addr × Obj)) (c1 c2 c3 c4 v1 v2 v3 v4 v5 v6 v7 : Option Value)
    (h1 : p1.data = .cell c1) (h2 : p2.data = .cell c2) (h3 : p3.data = .cell c3) (h4 : p4.data = .cell c4) (hRM : R.length + M.length ≤ i) (hR : RefsAre (ruleAt tl) rs R) (hM : RefsAre (msgAt tl) ms M) (hL : LinesAre ls R) (gR : ∀ r ∈ R, GoodRule r) (gM : ∀ r ∈ M, GoodMsg r) (htl : ∀ p ∈ tl, @LT.lt Nat _ dl p.1) :
    LawJ b dl lm lr ll vs o5 m0 i (fun z => if z = Str.ofString "x" then v1 else if z = Str.ofString "figures" then v2 else if z = Str.ofString "pattern" then v3 else if z = Str.ofString "blanks" then v4 else if z = Str.ofString "front" then v5 else if z = Str.ofString "tail" then v6 else if z = Str.ofString "alone" then v7 else m0 z)
      ((dl, lobj vs 0) :: (lm, lobj ms cm) :: (lr, lobj rs cr) :: (ll, lobj ls cl) :: (b + 1 + 1 + 1 + 1 + 1, p1) :: (b + 1 + 1 + 1 + 1, p2) :: (b + 1 + 1 + 1, p3) :: (b + 1 + 1, p4) :: (b + 1, o5) :: (114, tabObj #[]) :: tl)
theorem news_pick {h₀ h : Heap} {L : Addr} {A : List (Addr × Obj)} (N : News h₀ L h A) (is : List Nat) (k : Nat) : News h₀ L h (is.filterMap (fun i => A[i]?) ++ A.drop k) := fun p hp => N p (by
  rcases List.mem_append.mp hp with hp | hp
  · obtain ⟨i, -, e⟩ := List.mem_filterMap.mp hp
    exact List.mem_of_getElem? e
  · exact List.mem_of_mem_drop hp)
theorem ne_ins {A B tl : List (Addr × Obj)} {I T : Nat} {o : Obj} (hI : ∀ p ∈ A ++ tl, p.1 ≠ I) (hT : @Ne Nat T I) (e : A.map (·.1) = B.map (·.1)) : ∀ p ∈ B ++ (T, o) :: tl, p.1 ≠ I := by
  intro p hp
  rcases List.mem_append.mp hp with hp | hp
  · have : p.1 ∈ A.map (·.1) := by rw [e]; exact List.mem_map.mpr ⟨p, hp, rfl⟩
    obtain ⟨q, hq, hqp⟩ := List.mem_map.mp this
    rw [← hqp]; exact hI q (List.mem_append.mpr (.inl hq))
  · rcases List.mem_cons.mp hp with rfl | hp
    · exact hT
    · exact hI p (List.mem_append.mpr (.inr hp))
theorem all_snoc {α : Type} {P : α → Prop} {l : List α} {a : α} (h : ∀ r ∈ l, P r) (ha : P a) : ∀ r ∈ l ++ [a], P r := fun r hr => by
  rcases List.mem_append.mp hr with hr | hr
  · exact h r hr
  · rw [List.mem_singleton.mp hr]; exact ha
theorem all_cons {α : Type} {P : α → Prop} {l : List α} {a : α} (ha : P a) (h : ∀ r ∈ l, P r) : ∀ r ∈ a :: l, P r := fun r hr => by
  rcases List.mem_cons.mp hr with rfl | hr
  · exact ha
  · exact h r hr
theorem len_r {α β : Type} {R : List α} {M : List β} {i : Nat} {a : α} (h : R.length + M.length ≤ i) : (R ++ [a]).length + M.length ≤ i + 1 := by rw [List.length_append, List.length_singleton]; omega
theorem len_m {α β : Type} {R : List α} {M : List β} {i : Nat} {a : β} (h : R.length + M.length ≤ i) : R.length + (M ++ [a]).length ≤ i + 1 := by rw [List.length_append, List.length_singleton]; omega
theorem push_eq {vs : List Value} {v : Value} : vs.toArray.push v = (vs ++ [v]).toArray := by simp
theorem push1_news {h₀ h : Heap} {L lm : Addr} {p1 q : Addr × Obj} {r : List (Addr × Obj)} {ms : List Value} {v : Value} {c : Nat} (N : News h₀ L h (p1 :: q :: (lm, W.listOf (ms.toArray.push v) c) :: r)) : News h₀ L h (p1 :: q :: (lm, lobj (ms ++ [v]) c) :: r) := by
  rw [push_eq] at N; exact N
theorem push2_news {h₀ h : Heap} {L lr ll : Addr} {p1 q q2 : Addr × Obj} {r : List (Addr × Obj)} {rs ls : List Value} {v u : Value} {c d : Nat} (N : News h₀ L h (p1 :: q :: q2 :: (lr, W.listOf (rs.toArray.push v) c) :: (ll, W.listOf (ls.toArray.push u) d) :: r)) : News h₀ L h (p1 :: q :: q2 :: (lr, lobj (rs ++ [v]) c) :: (ll, lobj (ls ++ [u]) d) :: r) := by
  rw [push_eq, push_eq] at N; exact N
section
variable {b dl lm lr ll I T : Nat} {vs : List Value} {o5 oI : Obj} {m0 m m' : Str → Option Value} {i : Nat} {R : List (Str × Str)} {M : List (Str × Str × Str)} {rs ms ls : List Value} {cm cr cl : Nat} {p1 p2 p3 p4 : Obj} {tl : List (Addr × Obj)} {c1 c2 c3 c4 : Option Value}
theorem ruleAt.mono {tl : List (Addr × Obj)} (q : Addr × Obj) : ∀ a r, ruleAt tl a r → ruleAt (q :: tl) a r := fun _ _ ⟨t, u, h⟩ => ⟨t, u, .tail _ h⟩
theorem msgAt.mono {tl : List (Addr × Obj)} (q : Addr × Obj) : ∀ a r, msgAt tl a r → msgAt (q :: tl) a r := fun _ _ ⟨t, u, v, h⟩ => ⟨t, u, v, .tail _ h⟩
theorem law_map {nx : List (Addr × Obj)} (e : m = m') (h : LawJ b dl lm lr ll vs o5 m0 i m' nx) : LawJ b dl lm lr ll vs o5 m0 i m nx := e ▸ h
theorem law_zero {o1 o2 o3 o4 : Obj} (h1 : o1.data = .cell c1) (h2 : o2.data = .cell c2) (h3 : o3.data = .cell c3) (h4 : o4.data = .cell c4) :
    LawJ b dl lm lr ll vs o5 m0 0 m0 ((dl, lobj vs 0) :: (lm, lobj [] 0) :: (lr, lobj [] 0) :: (ll, lobj [] 0) :: (b + 1 + 1 + 1 + 1 + 1, o1) :: (b + 1 + 1 + 1 + 1, o2) :: (b + 1 + 1 + 1, o3) :: (b + 1 + 1, o4) :: (b + 1, o5) :: (114, tabObj #[]) :: []) :=
  law_map (names7 (m := m0) (m0 := m0) (fun _ _ _ _ _ _ _ _ => rfl)) <| LawJ.mk [] [] [] [] [] 0 0 0 _ _ _ _ [] _ _ _ _ _ _ _ _ _ _ _ h1 h2 h3 h4 (Nat.le_refl _) .nil .nil .nil (fun _ h => (nomatch h)) (fun _ h => (nomatch h)) (fun _ h => (nomatch h))
variable {h₀ h' : Heap} {L : Addr} {s : Shared} {Q : Flow → Shared → Prop} {tk : Nat}
theorem law_even {q : Addr × Obj} {x1 x2 x3 y1 y2 y3 y4 y5 y6 : Obj} {n p : Str} {t u : Tok} {v : Value} {cr' cl' : Nat} (F : Fr h₀ L h' m')
    (N : News h₀ L h' ((T, tupObj [.str n t, .str p u]) :: q :: (I, oI) :: (dl, lobj vs 0) :: (lm, lobj ms cm) :: (lr, W.listOf (rs.toArray.push (.ref T)) cr') :: (ll, W.listOf (ls.toArray.push v) cl') :: (b + 1 + 1 + 1 + 1 + 1, p1) :: (b + 1 + 1 + 1 + 1, p2) :: (b + 1 + 1 + 1, p3) :: (b + 1 + 1, p4) :: (b + 1, o5) :: (114, tabObj #[]) :: tl))
    (h1 : p1.data = .cell c1) (h2 : p2.data = .cell c2) (h3 : p3.data = .cell c3) (h4 : p4.data = .cell c4) (hRM : R.length + M.length ≤ i) (hRs : RefsAre (ruleAt tl) rs R) (hMs : RefsAre (msgAt tl) ms M) (hLs : LinesAre ls R) (hgR : ∀ r ∈ R, GoodRule r) (hgM : ∀ r ∈ M, GoodMsg r) (htl : ∀ p ∈ tl, @LT.lt Nat _ dl p.1)
    (hI : ∀ p ∈ (dl, lobj vs 0) :: (lm, x1) :: (lr, x2) :: (ll, x3) :: (b + 1 + 1 + 1 + 1 + 1, y1) :: (b + 1 + 1 + 1 + 1, y2) :: (b + 1 + 1 + 1, y3) :: (b + 1 + 1, y4) :: (b + 1, y5) :: (114, y6) :: tl, p.1 ≠ I)
    (hIT : I < T) (hdT : dl < T) (hline : LineOf v n p) (hgood : GoodRule (n, p))
    (hm : ∀ z, z ≠ Str.ofString "x" → z ≠ Str.ofString "figures" → z ≠ Str.ofString "pattern" → z ≠ Str.ofString "blanks" → z ≠ Str.ofString "front" → z ≠ Str.ofString "tail" → z ≠ Str.ofString "alone" → m' z = m0 z) :
    FStep h₀ L s I oI (LawJ b dl lm lr ll vs o5 m0 (i + 1)) Q .next { s with heap := h', toks := tk } :=
  FStep.intro (nx' := (dl, lobj vs 0) :: (lm, lobj ms cm) :: (lr, lobj (rs ++ [.ref T]) cr') :: (ll, lobj (ls ++ [v]) cl') :: (b + 1 + 1 + 1 + 1 + 1, p1) :: (b + 1 + 1 + 1 + 1, p2) :: (b + 1 + 1 + 1, p3) :: (b + 1 + 1, p4) :: (b + 1, o5) :: (114, tabObj #[]) :: (T, tupObj [.str n t, .str p u]) :: tl) F
    (push2_news (news_pick N [2, 3, 4, 5, 6, 7, 8, 9, 10, 11, 12, 0] 13)) (fun _ h => h) (ne_ins (A := [(dl, lobj vs 0), (lm, x1), (lr, x2), (ll, x3), (b + 1 + 1 + 1 + 1 + 1, y1), (b + 1 + 1 + 1 + 1, y2), (b + 1 + 1 + 1, y3), (b + 1 + 1, y4), (b + 1, y5), (114, y6)]) (B := [_, _, _, _, _, _, _, _, _, _]) hI (Nat.ne_of_gt hIT) rfl)
    (law_map (names7 hm) (.mk (R ++ [(n, p)]) M (rs ++ [.ref T]) ms (ls ++ [v]) cm cr' cl' p1 p2 p3 p4 ((T, tupObj [.str n t, .str p u]) :: tl) c1 c2 c3 c4 _ _ _ _ _ _ _ h1 h2 h3 h4 (len_r hRM) (RefsAre.snoc (P := ruleAt ((T, tupObj [.str n t, .str p u]) :: tl)) (x := (n, p)) ⟨t, u, .head _⟩ (hRs.mono (ruleAt.mono _))) (hMs.mono (msgAt.mono _)) (hLs.snoc hline) (all_snoc hgR hgood) hgM (all_cons hdT htl)))
theorem law_odd {q1 q2 q3 q4 : Addr × Obj} {x1 x2 x3 y1 y2 y3 y4 y5 y6 : Obj} {n d z : Str} {t u v : Tok} {cm' : Nat} (F : Fr h₀ L h' m')
    (N : News h₀ L h' ((T, tupObj [.str n t, .str d u, .str z v]) :: q1 :: q2 :: q3 :: q4 :: (I, oI) :: (dl, lobj vs 0) :: (lm, W.listOf (ms.toArray.push (.ref T)) cm') :: (lr, lobj rs cr) :: (ll, lobj ls cl) :: (b + 1 + 1 + 1 + 1 + 1, p1) :: (b + 1 + 1 + 1 + 1, p2) :: (b + 1 + 1 + 1, p3) :: (b + 1 + 1, p4) :: (b + 1, o5) :: (114, tabObj #[]) :: tl))
    (h1 : p1.data = .cell c1) (h2 : p2.data = .cell c2) (h3 : p3.data = .cell c3) (h4 : p4.data = .cell c4) (hRM : R.length + M.length ≤ i) (hRs : RefsAre (ruleAt tl) rs R) (hMs : RefsAre (msgAt tl) ms M) (hLs : LinesAre ls R) (hgR : ∀ r ∈ R, GoodRule r) (hgM : ∀ r ∈ M, GoodMsg r) (htl : ∀ p ∈ tl, @LT.lt Nat _ dl p.1)
    (hI : ∀ p ∈ (dl, lobj vs 0) :: (lm, x1) :: (lr, x2) :: (ll, x3) :: (b + 1 + 1 + 1 + 1 + 1, y1) :: (b + 1 + 1 + 1 + 1, y2) :: (b + 1 + 1 + 1, y3) :: (b + 1 + 1, y4) :: (b + 1, y5) :: (114, y6) :: tl, p.1 ≠ I)
    (hIT : I < T) (hdT : dl < T) (hgood : GoodMsg (n, d, z))
    (hm : ∀ z, z ≠ Str.ofString "x" → z ≠ Str.ofString "figures" → z ≠ Str.ofString "pattern" → z ≠ Str.ofString "blanks" → z ≠ Str.ofString "front" → z ≠ Str.ofString "tail" → z ≠ Str.ofString "alone" → m' z = m0 z) :
    FStep h₀ L s I oI (LawJ b dl lm lr ll vs o5 m0 (i + 1)) Q .next { s with heap := h', toks := tk } :=
  FStep.intro (nx' := (dl, lobj vs 0) :: (lm, lobj (ms ++ [.ref T]) cm') :: (lr, lobj rs cr) :: (ll, lobj ls cl) :: (b + 1 + 1 + 1 + 1 + 1, p1) :: (b + 1 + 1 + 1 + 1, p2) :: (b + 1 + 1 + 1, p3) :: (b + 1 + 1, p4) :: (b + 1, o5) :: (114, tabObj #[]) :: (T, tupObj [.str n t, .str d u, .str z v]) :: tl) F
    (push1_news (news_pick N [5, 6, 7, 8, 9, 10, 11, 12, 13, 14, 15, 0] 16)) (fun _ h => h) (ne_ins (A := [(dl, lobj vs 0), (lm, x1), (lr, x2), (ll, x3), (b + 1 + 1 + 1 + 1 + 1, y1), (b + 1 + 1 + 1 + 1, y2), (b + 1 + 1 + 1, y3), (b + 1 + 1, y4), (b + 1, y5), (114, y6)]) (B := [_, _, _, _, _, _, _, _, _, _]) hI (Nat.ne_of_gt hIT) rfl)
    (law_map (names7 hm) (.mk R (M ++ [(n, d, z)]) rs (ms ++ [.ref T]) ls cm' cr cl p1 p2 p3 p4 ((T, tupObj [.str n t, .str d u, .str z v]) :: tl) c1 c2 c3 c4 _ _ _ _ _ _ _ h1 h2 h3 h4 (len_m hRM) (hRs.mono (ruleAt.mono _)) (RefsAre.snoc (P := msgAt ((T, tupObj [.str n t, .str d u, .str z v]) :: tl)) (x := (n, d, z)) ⟨t, u, v, .head _⟩ (hMs.mono (msgAt.mono _))) hLs hgR (all_snoc hgM hgood) (all_cons hdT htl)))
end
theorem fr_cut {h₀ h : Heap} {L : Addr} {a b : Str} {va vb : Option Value} {mr : Str → Option Value} (F : Fr h₀ L h (fun y => if y = a then va else if y = b then vb else mr y)) : ∃ mr' : Str → Option Value, Fr h₀ L h (fun y => if y = a then va else if y = b then vb else mr' y) := ⟨mr, F⟩
theorem news_drop1 {h₀ h : Heap} {L : Addr} {a b : Addr × Obj} {r : List (Addr × Obj)} (N : News h₀ L h (a :: b :: r)) : News h₀ L h (a :: r) := fun p hp => N p (by
  rcases List.mem_cons.mp hp with rfl | hp
  · exact .head _
  · exact .tail _ (.tail _ hp))
theorem news_drop2 {h₀ h : Heap} {L : Addr} {a b c : Addr × Obj} {r : List (Addr × Obj)} (N : News h₀ L h (a :: b :: c :: r)) : News h₀ L h (a :: r) := news_drop1 (news_drop1 N)
end Mine
end P2

section S4
open PySem PySem.W PyProof.Rows
namespace Mine
open Builtin Builtin.Str StrLaws
def G : List Nat → List Nat → Prop
  | 46 :: 46 :: 46 :: p, t => ∃ k, G p (t.drop k)
  | c :: p, t => ∃ t', t = c :: t' ∧ G p t'
  | [], t => t = []
theorem G_dots (p t : List Nat) : G (46 :: 46 :: 46 :: p) t ↔ ∃ k, G p (t.drop k) := by rw [G]
theorem G_nil (t : List Nat) : G [] t ↔ t = [] := by rw [G]
theorem G_cons {c : Nat} {p : List Nat} (h : (c :: p).take 3 ≠ [46, 46, 46]) (t : List Nat) : G (c :: p) t ↔ ∃ t', t = c :: t' ∧ G p t' := by
  rw [G]
  rintro p' hc hp
  exact h (by rw [hc, hp]; rfl)
theorem slice3 (x : Str) (i : Nat) : Txt.slice x (some (i : Int)) (some ((i : Int) + 3)) = Str.ofString "..." ↔ (x.cps.toList.drop i).take 3 = [46, 46, 46] := by
  have e : ((i : Int) + 3) = ((i + 3 : Nat) : Int) := by omega
  have e3 : Str.ofString "..." = ⟨#[46, 46, 46]⟩ := by decide
  rw [e, slice_nat x (by omega : i ≤ i + 3), e3, show i + 3 - i = 3 by omega]
  constructor
  · intro h; have := congrArg (fun z : Str => z.cps.toList) h; simpa using this
  · intro h; rw [h]
theorem slice1 (x y : Str) (i k : Nat) (hi : i < x.length) : (Txt.slice y (some (k : Int)) (some ((k : Int) + 1)) == Txt.item x (i : Int)) = true ↔ (y.cps.toList.drop k).take 1 = [x.cps.toList[i]'(by rw [← len_list]; exact hi)] := by
  have e : ((k : Int) + 1) = ((k + 1 : Nat) : Int) := by omega
  have hx : (x.cps[i]?) = some (x.cps.toList[i]'(by rw [← len_list]; exact hi)) := by simp
  have ec : Txt.item x (i : Int) = ⟨#[x.cps.toList[i]'(by rw [← len_list]; exact hi)]⟩ := by
    unfold Txt.item Txt.charAt
    rw [StrLaws.at_nonneg (n := x.cps.toList[i]'(by rw [← len_list]; exact hi)) (by omega) (by simp)]
    rfl
  rw [e, slice_nat y (by omega : k ≤ k + 1), ec, show k + 1 - k = 1 by omega, beq_iff_eq]
  constructor
  · intro h; have := congrArg (fun z : Str => z.cps.toList) h; simpa using this
  · intro h; rw [h]
theorem drop_cons_at {l : List Nat} {k c : Nat} {t : List Nat} (h : l.drop k = c :: t) : l.drop (k + 1) = t := by
  rw [← List.drop_drop, h]; rfl
/-- what the places tell at every step -/
theorem reach_G {x y : Str} {i : Nat} {ps : List Int} (h : Reach x y i ps) : (∀ k ∈ ps, 0 ≤ k ∧ k ≤ (y.length : Int)) ∧ ps.Pairwise (· < ·) ∧
    ((∃ k ∈ ps, G (x.cps.toList.drop i) (y.cps.toList.drop k.toNat)) ↔ G x.cps.toList y.cps.toList) := by
  induction h with
  | start =>
    refine ⟨by simp, by simp, ?_⟩
    simp
  | @dots i ps hR hi hd ih =>
    obtain ⟨ih1, ih2, ih3⟩ := ih
    have h3 := (slice3 x i).mp hd
    obtain ⟨r, hr⟩ : ∃ r, x.cps.toList.drop i = 46 :: 46 :: 46 :: r := by
      match hq : x.cps.toList.drop i, h3 with
      | [], h3 => simp at h3
      | [a], h3 => simp at h3
      | [a, b], h3 => simp at h3
      | a :: b :: c :: r, h3 => simp at h3; obtain ⟨rfl, rfl, rfl⟩ := h3; exact ⟨r, rfl⟩
    have hr3 : x.cps.toList.drop (i + 3) = r := by rw [← List.drop_drop, hr]; rfl
    refine ⟨?_, ?_, ?_⟩
    · intro k hk
      have := mem_rangeKs (List.mem_filter.mp hk).1
      omega
    · refine List.Pairwise.filter _ ?_
      unfold rangeKs
      rw [List.pairwise_map]
      exact List.Pairwise.imp (fun h => by omega) List.pairwise_lt_range
    · rw [← ih3, hr, hr3]
      constructor
      · rintro ⟨k, hk, hG⟩
        obtain ⟨hk1, hk2⟩ := List.mem_filter.mp hk
        have hkr := mem_rangeKs hk1
        cases ps with
        | nil => simp at hk2
        | cons p0 pr =>
          have hp0 : p0 ≤ k := by simpa using hk2
          have hp00 := ih1 p0 (.head _)
          refine ⟨p0, .head _, (G_dots _ _).mpr ⟨k.toNat - p0.toNat, ?_⟩⟩
          rw [List.drop_drop, show p0.toNat + (k.toNat - p0.toNat) = k.toNat by omega]
          exact hG
      · rintro ⟨p, hp, hG⟩
        obtain ⟨k, hG⟩ := (G_dots _ _).mp hG
        rw [List.drop_drop] at hG
        have hp1 := ih1 p hp
        refine ⟨((min (p.toNat + k) y.length : Nat) : Int), List.mem_filter.mpr ⟨?_, ?_⟩, ?_⟩
        · unfold rangeKs
          simp only [List.mem_map, List.mem_range]
          exact ⟨min (p.toNat + k) y.length, by omega, by omega⟩
        · cases ps with
          | nil => cases hp
          | cons p0 pr =>
            have h0 : p0 ≤ p := by
              rcases List.mem_cons.mp hp with rfl | hp
              · exact Int.le_refl _
              · exact Int.le_of_lt ((List.pairwise_cons.mp ih2).1 p hp)
            simp only [List.isEmpty_cons, Bool.not_false, Bool.true_and, List.headD_cons]
            apply decide_eq_true
            have := ih1 p0 (.head _)
            omega
        · rw [Int.toNat_natCast]
          by_cases hle : p.toNat + k ≤ y.length
          · rw [Nat.min_eq_left hle]; exact hG
          · rw [Nat.min_eq_right (by omega), List.drop_of_length_le (by rw [len_list]; exact Nat.le_refl _)]
            rwa [List.drop_of_length_le (by rw [← len_list]; omega)] at hG
  | @one i ps hR hi hd ih =>
    obtain ⟨ih1, ih2, ih3⟩ := ih
    have h3 : (x.cps.toList.drop i).take 3 ≠ [46, 46, 46] := fun h => hd ((slice3 x i).mpr h)
    have hil : i < x.cps.toList.length := by rw [← len_list]; exact hi
    have hr : x.cps.toList.drop i = x.cps.toList[i] :: x.cps.toList.drop (i + 1) := List.drop_eq_getElem_cons hil
    refine ⟨?_, ?_, ?_⟩
    · intro k hk
      obtain ⟨k', hk', rfl⟩ := List.mem_map.mp hk
      have h1 := ih1 k' (List.mem_filter.mp hk').1
      have h2 := slice1_lt h1.1 (List.mem_filter.mp hk').2
      omega
    · rw [List.pairwise_map]
      exact List.Pairwise.imp (fun h => by omega) (List.Pairwise.filter _ ih2)
    · rw [← ih3]
      rw [hr] at h3
      constructor
      · rintro ⟨k, hk, hG⟩
        obtain ⟨k', hk', rfl⟩ := List.mem_map.mp hk
        obtain ⟨hk1, hk2⟩ := List.mem_filter.mp hk'
        have h1 := ih1 k' hk1
        refine ⟨k', hk1, ?_⟩
        rw [hr, G_cons h3]
        have hk2' := hk2
        rw [show k' = ((k'.toNat : Nat) : Int) by omega] at hk2'
        have hs := (slice1 x y i k'.toNat hi).mp hk2'
        cases hq : y.cps.toList.drop k'.toNat with
        | nil => rw [hq] at hs; simp at hs
        | cons c t =>
          rw [hq] at hs
          simp at hs
          refine ⟨t, by rw [hs]; simp, ?_⟩
          rw [show (k' + 1).toNat = k'.toNat + 1 by omega, drop_cons_at hq] at hG
          exact hG
      · rintro ⟨k, hk, hG⟩
        have h1 := ih1 k hk
        rw [hr, G_cons h3] at hG
        obtain ⟨t, ht, hG⟩ := hG
        refine ⟨k + 1, List.mem_map.mpr ⟨k, List.mem_filter.mpr ⟨hk, ?_⟩, rfl⟩, ?_⟩
        · have := (slice1 x y i k.toNat hi).mpr (by rw [ht]; rfl)
          rwa [show ((k.toNat : Nat) : Int) = k by omega] at this
        · rw [show (k + 1).toNat = k.toNat + 1 by omega, drop_cons_at ht]
          exact hG
theorem reach_end {x y : Str} {i : Nat} {ps : List Int} (h : Reach x y i ps) (hi : x.length ≤ i) : (ps.any fun k => k == (y.length : Int)) = true ↔ G x.cps.toList y.cps.toList := by
  obtain ⟨h1, -, h3⟩ := reach_G h
  rw [← h3, List.drop_of_length_le (by rw [← len_list]; exact hi), List.any_eq_true]
  constructor
  · rintro ⟨k, hk, he⟩
    refine ⟨k, hk, (G_nil _).mpr ?_⟩
    rw [eq_of_beq he]
    exact List.drop_of_length_le (by rw [← len_list]; simp)
  · rintro ⟨k, hk, he⟩
    have he' := (G_nil _).mp he
    have := h1 k hk
    have hl := congrArg List.length he'
    rw [List.length_drop, ← len_list] at hl
    refine ⟨k, hk, ?_⟩
    simp at hl ⊢
    omega
end Mine
end S4

section S5
open PySem PySem.W PyProof.Rows
namespace Mine
open Builtin Builtin.Str StrLaws
def PM : List (List Nat) → List Nat → Prop
  | [], _ => False
  | [w], t => t = w
  | w :: v :: ws, t => ∃ t', t = w ++ t' ∧ ∃ k, PM (v :: ws) (t'.drop k)
abbrev dots : Str := Str.ofString "..."
theorem dots_l : dots.cps.toList = [46, 46, 46] := by decide
theorem dots_n : dots.length = 3 := rfl
theorem not_at {x : Str} {a : Nat} (h : ¬ At x dots x.length a) : (x.cps.toList.drop a).take 3 ≠ [46, 46, 46] := by
  intro h3
  apply h
  rw [at_iff, dots_l, dots_n]
  refine ⟨?_, h3⟩
  have := congrArg List.length h3
  rw [List.length_take, List.length_drop, ← len_list] at this
  simp at this
  omega
theorem litG {x : Str} {t : List Nat} : ∀ (n a : Nat), a + n ≤ x.length → (∀ k, a ≤ k → k < a + n → ¬ At x dots x.length k) →
    (G (x.cps.toList.drop a) t ↔ ∃ t', t = (x.cps.toList.drop a).take n ++ t' ∧ G (x.cps.toList.drop (a + n)) t') := by
  intro n
  induction n generalizing t with
  | zero => intro a _ _; simp
  | succ n ih =>
    intro a hle hno
    have hil : a < x.cps.toList.length := by rw [← len_list]; omega
    have hr : x.cps.toList.drop a = x.cps.toList[a] :: x.cps.toList.drop (a + 1) := List.drop_eq_getElem_cons hil
    have h3 := not_at (hno a (Nat.le_refl _) (by omega))
    rw [hr] at h3 ⊢
    rw [G_cons h3, show a + (n + 1) = a + 1 + n by omega]
    constructor
    · rintro ⟨t1, rfl, hG⟩
      obtain ⟨t', rfl, hG'⟩ := (ih (a + 1) (by omega) (fun k h1 h2 => hno k (by omega) (by omega))).mp hG
      exact ⟨t', by simp, hG'⟩
    · rintro ⟨t', rfl, hG'⟩
      refine ⟨(x.cps.toList.drop (a + 1)).take n ++ t', by simp, (ih (a + 1) (by omega) (fun k h1 h2 => hno k (by omega) (by omega))).mpr ⟨t', rfl, hG'⟩⟩
theorem pm_cons {w : List Nat} {ws : List (List Nat)} (h : ws ≠ []) (t : List Nat) : PM (w :: ws) t ↔ ∃ t', t = w ++ t' ∧ ∃ k, PM ws (t'.drop k) := by
  cases ws with
  | nil => exact absurd rfl h
  | cons v ws => rw [PM]
theorem chain_G {x : Str} : ∀ (cuts : List Nat) (a f : Nat) (t : List Nat), ChainG x dots x.length a cuts f → (∀ k, f ≤ k → ¬ At x dots x.length k) → a ≤ x.length →
    (G (x.cps.toList.drop a) t ↔ PM ((partsFrom x 3 a cuts).map (·.cps.toList)) t)
  | [], a, f, t, h, hf, ha => by
    have haf : f = a := h
    subst haf
    have hd : x.cps.toList.drop x.length = [] := List.drop_of_length_le (by rw [len_list]; exact Nat.le_refl _)
    rw [litG (x.length - f) f (by omega) (fun k h1 _ => hf k h1), show f + (x.length - f) = x.length by omega, hd]
    show _ ↔ t = (strSub x f x.length).cps.toList
    rw [sub_list]
    constructor
    · rintro ⟨t', rfl, h⟩; rw [(G_nil _).mp h, List.append_nil]
    · intro h; exact ⟨[], by rw [h, List.append_nil], (G_nil _).mpr rfl⟩
  | c :: r, a, f, t, h, hf, ha => by
    obtain ⟨h1, h2, h3, h4⟩ := h
    have h2' := (at_iff x dots x.length c).mp h2
    rw [dots_l, dots_n] at h2'
    have ih := fun t => chain_G r (c + 3) f t h4 hf h2'.1
    obtain ⟨q, hq⟩ : ∃ q, x.cps.toList.drop c = 46 :: 46 :: 46 :: q := by
      have h3 := h2'.2
      match hq : x.cps.toList.drop c, h3 with
      | [], h3 => simp at h3
      | [a], h3 => simp at h3
      | [a, b], h3 => simp at h3
      | a :: b :: d :: q, h3 => simp at h3; obtain ⟨rfl, rfl, rfl⟩ := h3; exact ⟨q, rfl⟩
    have hq3 : x.cps.toList.drop (c + 3) = q := by rw [← List.drop_drop, hq]; rfl
    rw [litG (c - a) a (by omega) (fun k h5 h6 => h3 k h5 (by omega)), show a + (c - a) = c by omega]
    show _ ↔ PM ((strSub x a c).cps.toList :: (partsFrom x 3 (c + 3) r).map (·.cps.toList)) t
    obtain ⟨p0, r0, hp0⟩ := partsFrom_ne x 3 (c + 3) r
    rw [pm_cons (by rw [hp0]; simp), sub_list]
    constructor
    · rintro ⟨t', e, hG⟩
      rw [hq, G_dots] at hG
      obtain ⟨k, hG⟩ := hG
      rw [← hq3] at hG
      exact ⟨t', e, k, (ih _).mp hG⟩
    · rintro ⟨t', e, k, hP⟩
      refine ⟨t', e, ?_⟩
      rw [hq, G_dots]
      refine ⟨k, ?_⟩
      rw [← hq3]
      exact (ih _).mpr hP
/-- words laid one behind the other from place s to place e -/
def Laid (y : Str) (e : Nat) : List Str → Nat → Prop
  | [], s => s ≤ e
  | w :: ws, s => ∃ k, s ≤ k ∧ At y w e k ∧ Laid y e ws (k + w.length)
theorem Laid.mono {y : Str} {e : Nat} : ∀ {ws : List Str} {s s' : Nat}, Laid y e ws s → s' ≤ s → Laid y e ws s'
  | [], s, s', h, h' => Nat.le_trans h' h
  | w :: ws, s, s', ⟨k, h1, h2, h3⟩, h' => ⟨k, Nat.le_trans h' h1, h2, h3⟩
theorem midRun_iff {y : Str} {e : Nat} (he : e ≤ y.length) : ∀ (ws : List Str) (s : Nat), s ≤ e → (midRun y (e : Int) ws (s : Int) = true ↔ Laid y e ws s)
  | [], s, hs => by simp [midRun, Laid, hs]
  | w :: ws, s, hs => by
    unfold midRun
    rcases find4_spec y w s e he with ⟨h, hn⟩ | ⟨k, h, h1, h2, h3⟩
    · rw [h, if_pos (by omega)]
      constructor
      · intro h; cases h
      · rintro ⟨k, h1, h2, -⟩; exact absurd h2 (hn k h1)
    · rw [h, if_neg (by omega), show ((k : Int) + (w.length : Int)) = ((k + w.length : Nat) : Int) by omega, midRun_iff he ws (k + w.length) h2.1]
      constructor
      · intro hl; exact ⟨k, h1, h2, hl⟩
      · rintro ⟨k', h1', h2', h3'⟩
        have : k ≤ k' := by
          by_cases hlt : k' < k
          · exact absurd h2' (h3 k' h1' hlt)
          · omega
        exact h3'.mono (by omega)
theorem laid_le {y : Str} {e : Nat} : ∀ {ws : List Str} {s : Nat}, Laid y e ws s → s ≤ e
  | [], _, h => h
  | w :: ws, s, ⟨k, h1, h2, _⟩ => by have := h2.1; omega
theorem at_split {y w : Str} {e k : Nat} (he : e ≤ y.length) : At y w e k ↔ k + w.length ≤ e ∧ ∃ t, y.cps.toList.drop k = w.cps.toList ++ t := by
  rw [at_iff]
  constructor
  · rintro ⟨h1, h2⟩
    refine ⟨h1, (y.cps.toList.drop k).drop w.length, ?_⟩
    rw [← h2, List.take_append_drop]
  · rintro ⟨h1, t, h2⟩
    refine ⟨h1, ?_⟩
    rw [h2, len_list w, List.take_append_of_le_length (Nat.le_refl _), List.take_length]
theorem pm_laid {y wn : Str} : ∀ (mid : List Str) (s : Nat), ((∃ k, s ≤ k ∧ k ≤ y.length ∧ PM ((mid ++ [wn]).map (·.cps.toList)) (y.cps.toList.drop k)) ↔
    wn.length ≤ y.length ∧ y.cps.toList.drop (y.length - wn.length) = wn.cps.toList ∧ Laid y (y.length - wn.length) mid s)
  | [], s => by
    constructor
    · rintro ⟨k, h1, h2, h3⟩
      have h3 : y.cps.toList.drop k = wn.cps.toList := h3
      have hl := congrArg List.length h3
      rw [List.length_drop, ← len_list, ← len_list] at hl
      refine ⟨by omega, ?_, ?_⟩
      · rw [← hl, show y.length - (y.length - k) = k by omega]; exact h3
      · show s ≤ y.length - wn.length; omega
    · rintro ⟨h1, h2, h3⟩
      exact ⟨y.length - wn.length, h3, by omega, h2⟩
  | w :: ws, s => by
    have hne : (ws ++ [wn]).map (·.cps.toList) ≠ [] := by simp
    have ih := fun s => pm_laid (y := y) (wn := wn) ws s
    show (∃ k, s ≤ k ∧ k ≤ y.length ∧ PM (w.cps.toList :: (ws ++ [wn]).map (·.cps.toList)) (y.cps.toList.drop k)) ↔ _
    constructor
    · rintro ⟨k, h1, h2, h3⟩
      obtain ⟨t', e, j, h4⟩ := (pm_cons hne _).mp h3
      have hd : y.cps.toList.drop (k + w.length) = t' := by rw [← List.drop_drop, e, len_list w, List.drop_append_of_le_length (Nat.le_refl _), List.drop_length, List.nil_append]
      have hl := congrArg List.length e
      rw [List.length_drop, List.length_append, ← len_list, ← len_list] at hl
      have hkw : k + w.length ≤ y.length := by omega
      rw [← hd, List.drop_drop] at h4
      have h5 : ∃ q, k + w.length ≤ q ∧ q ≤ y.length ∧ PM ((ws ++ [wn]).map (·.cps.toList)) (y.cps.toList.drop q) := by
        by_cases hq : k + w.length + j ≤ y.length
        · exact ⟨_, by omega, hq, h4⟩
        · refine ⟨y.length, hkw, Nat.le_refl _, ?_⟩
          rw [List.drop_of_length_le (by rw [← len_list]; omega)] at h4
          rw [List.drop_of_length_le (by rw [← len_list]; exact Nat.le_refl _)]
          exact h4
      obtain ⟨a1, a2, a3⟩ := (ih _).mp h5
      refine ⟨a1, a2, k, h1, ?_, a3⟩
      have h6 : k + w.length ≤ y.length - wn.length := laid_le a3
      exact (at_split (by omega)).mpr ⟨h6, t', e⟩
    · rintro ⟨a1, a2, k, h1, h2, a3⟩
      obtain ⟨h3, t', e⟩ := (at_split (by omega)).mp h2
      obtain ⟨q, b1, b2, b3⟩ := (ih _).mpr ⟨a1, a2, a3⟩
      have hd : y.cps.toList.drop (k + w.length) = t' := by rw [← List.drop_drop, e, len_list w, List.drop_append_of_le_length (Nat.le_refl _), List.drop_length, List.nil_append]
      refine ⟨k, h1, by omega, (pm_cons hne _).mpr ⟨t', e, q - (k + w.length), ?_⟩⟩
      rw [← hd, List.drop_drop, show k + w.length + (q - (k + w.length)) = q by omega]
      exact b3
end Mine
end S5

section S6
open PySem PySem.W PyProof.Rows
namespace Mine
open Builtin Builtin.Str StrLaws
theorem start_iff (y w : Str) : Txt.startswith y w = true ↔ ∃ t, y.cps.toList = w.cps.toList ++ t := by
  have h := at_split (y := y) (w := w) (e := y.length) (k := 0) (Nat.le_refl _)
  unfold Txt.startswith
  have h' : (decide (0 + w.length ≤ y.length) && subAt y w 0) = true ↔ At y w y.length 0 := by unfold At; simp
  rw [h', h]
  constructor
  · rintro ⟨-, t, ht⟩; exact ⟨t, ht⟩
  · rintro ⟨t, ht⟩
    refine ⟨?_, t, ht⟩
    rw [len_list y, ht, len_list w]; simp
theorem end_iff (y w : Str) : Txt.endswith y w = true ↔ w.length ≤ y.length ∧ y.cps.toList.drop (y.length - w.length) = w.cps.toList := by
  unfold Txt.endswith
  have h' : (decide (0 + w.length ≤ y.length) && subAt y w (y.length - w.length)) = true ↔ w.length ≤ y.length ∧ subAt y w (y.length - w.length) = true := by simp
  rw [h', subAt_eq]
  constructor
  · rintro ⟨h1, h2⟩
    refine ⟨h1, ?_⟩
    rw [← eq_of_beq h2, List.take_of_length_le]
    rw [List.length_drop, ← len_list]; omega
  · rintro ⟨h1, h2⟩
    refine ⟨h1, ?_⟩
    rw [h2, len_list w, List.take_length]; simp
theorem at_empty {y w : Str} {e k : Nat} (hw : w.length = 0) (h : k ≤ e) : At y w e k := by
  rw [at_iff]
  have : w.cps.toList = [] := List.eq_nil_of_length_eq_zero (by rw [← len_list]; exact hw)
  rw [hw, this]
  exact ⟨by omega, by simp⟩
theorem laid_first {y w : Str} {e s : Nat} {ws : List Str} (hw : w.length = 0) : Laid y e (w :: ws) s ↔ Laid y e ws s := by
  constructor
  · rintro ⟨k, h1, h2, h3⟩
    exact h3.mono (by omega)
  · intro h
    exact ⟨s, Nat.le_refl _, at_empty hw (laid_le h), by rw [hw]; exact h⟩
theorem laid_last {y w : Str} {e : Nat} (hw : w.length = 0) : ∀ {ws : List Str} {s : Nat}, Laid y e (ws ++ [w]) s ↔ Laid y e ws s
  | [], s => laid_first hw
  | v :: ws, s => by
    show (∃ k, s ≤ k ∧ At y v e k ∧ Laid y e (ws ++ [w]) (k + v.length)) ↔ ∃ k, s ≤ k ∧ At y v e k ∧ Laid y e ws (k + v.length)
    constructor
    · rintro ⟨k, h1, h2, h3⟩; exact ⟨k, h1, h2, (laid_last hw).mp h3⟩
    · rintro ⟨k, h1, h2, h3⟩; exact ⟨k, h1, h2, (laid_last hw).mpr h3⟩
theorem ell_spec (y w0 : Str) (mid : List Str) (wn : Str) : ellTail y w0 mid wn = true ↔ (∃ t, y.cps.toList = w0.cps.toList ++ t) ∧ wn.length ≤ y.length ∧ y.cps.toList.drop (y.length - wn.length) = wn.cps.toList ∧ Laid y (y.length - wn.length) mid w0.length := by
  have e0 : ∀ {w : Str}, w.length = 0 → w.cps.toList = [] := fun hw => List.eq_nil_of_length_eq_zero (by rw [← len_list]; exact hw)
  unfold ellTail
  by_cases h0 : w0.length ≠ 0 ∧ Txt.startswith y w0 = false
  · rw [if_pos h0]
    constructor
    · intro h; cases h
    · rintro ⟨h1, -⟩
      have := (start_iff y w0).mpr h1
      rw [h0.2] at this; cases this
  rw [if_neg h0]
  have hp : ∃ t, y.cps.toList = w0.cps.toList ++ t := by
    by_cases hz : w0.length = 0
    · exact ⟨_, by rw [e0 hz, List.nil_append]⟩
    · exact (start_iff y w0).mp (by
        cases hq : Txt.startswith y w0 with
        | true => rfl
        | false => exact absurd ⟨hz, hq⟩ h0)
  by_cases h1 : wn.length ≠ 0 ∧ Txt.endswith y wn = false
  · rw [if_pos h1]
    constructor
    · intro h; cases h
    · rintro ⟨-, h2, h3, -⟩
      have := (end_iff y wn).mpr ⟨h2, h3⟩
      rw [h1.2] at this; cases this
  rw [if_neg h1]
  have hq : wn.length ≤ y.length ∧ y.cps.toList.drop (y.length - wn.length) = wn.cps.toList := by
    by_cases hz : wn.length = 0
    · refine ⟨by omega, ?_⟩
      rw [e0 hz, hz]
      exact List.drop_of_length_le (by rw [← len_list]; omega)
    · exact (end_iff y wn).mp (by
        cases hq : Txt.endswith y wn with
        | true => rfl
        | false => exact absurd ⟨hz, hq⟩ h1)
  have hE : (if wn.length ≠ 0 then (y.length : Int) - wn.length else y.length) = ((y.length - wn.length : Nat) : Int) := by
    split
    · omega
    · omega
  have hS : (if w0.length ≠ 0 then (w0.length : Int) else 0) = ((w0.length : Nat) : Int) := by
    split
    · rfl
    · omega
  rw [hE, hS]
  have hzs : ∀ s, Laid y (y.length - wn.length) ((if w0.length ≠ 0 then [] else [w0]) ++ mid ++ (if wn.length ≠ 0 then [] else [wn])) s ↔ Laid y (y.length - wn.length) mid s := by
    intro s
    by_cases a : w0.length = 0
    · rw [if_neg (by omega)]
      by_cases b : wn.length = 0
      · rw [if_neg (by omega)]
        show Laid y _ (w0 :: (mid ++ [wn])) s ↔ _
        rw [laid_first a, laid_last b]
      · rw [if_pos b, List.append_nil]
        exact laid_first a
    · rw [if_pos a, List.nil_append]
      by_cases b : wn.length = 0
      · rw [if_neg (by omega), laid_last b]
      · rw [if_pos b, List.append_nil]
  by_cases hlt : ((y.length - wn.length : Nat) : Int) < ((w0.length : Nat) : Int)
  · rw [if_pos hlt]
    constructor
    · intro h; cases h
    · rintro ⟨-, -, -, h⟩
      have := laid_le h
      omega
  · rw [if_neg hlt, midRun_iff (by omega) _ _ (by omega), hzs]
    exact ⟨fun h => ⟨hp, hq.1, hq.2, h⟩, fun h => h.2.2.2⟩
theorem ell_G {x y w0 wn : Str} {mid : List Str} (hs : Txt.split x dots = w0 :: (mid ++ [wn])) : G x.cps.toList y.cps.toList ↔ ellTail y w0 mid wn = true := by
  obtain ⟨f, hG, hn⟩ := occ_tight x dots (by rw [dots_n]; decide)
  have hp : partsFrom x 3 0 (occurrences x dots 0 x.length (x.length + 1)) = w0 :: (mid ++ [wn]) := by
    unfold Txt.split at hs
    split at hs
    · have := congrArg List.length hs
      simp at this
    · split at hs
      · have := congrArg List.length hs
        simp at this
      · rw [partsBetween_eq, dots_n] at hs
        exact hs
  have h1 := chain_G (x := x) _ 0 f y.cps.toList hG hn (Nat.zero_le _)
  rw [List.drop_zero, hp] at h1
  rw [h1, ell_spec]
  have hne : (mid ++ [wn]).map (·.cps.toList) ≠ [] := by simp
  show PM (w0.cps.toList :: (mid ++ [wn]).map (·.cps.toList)) _ ↔ _
  rw [pm_cons hne, ← pm_laid mid w0.length]
  constructor
  · rintro ⟨t', e, k, hP⟩
    refine ⟨⟨t', e⟩, ?_⟩
    have hl := congrArg List.length e
    rw [List.length_append, ← len_list, ← len_list] at hl
    have hd : y.cps.toList.drop w0.length = t' := by rw [e, len_list w0, List.drop_append_of_le_length (Nat.le_refl _), List.drop_length, List.nil_append]
    rw [← hd, List.drop_drop] at hP
    by_cases hq : w0.length + k ≤ y.length
    · exact ⟨_, by omega, hq, hP⟩
    · refine ⟨y.length, by omega, Nat.le_refl _, ?_⟩
      rw [List.drop_of_length_le (by rw [← len_list]; omega)] at hP
      rw [List.drop_of_length_le (by rw [← len_list]; exact Nat.le_refl _)]
      exact hP
  · rintro ⟨⟨t', e⟩, k, h1, h2, hP⟩
    have hd : y.cps.toList.drop w0.length = t' := by rw [e, len_list w0, List.drop_append_of_le_length (Nat.le_refl _), List.drop_length, List.nil_append]
    refine ⟨t', e, k - w0.length, ?_⟩
    rw [← hd, List.drop_drop, show w0.length + (k - w0.length) = k by omega]
    exact hP
theorem none_G {x y : Str} (h : (occurrences x dots 0 x.length 1).isEmpty = true) : G x.cps.toList y.cps.toList ↔ (x == y) = true := by
  have hno : ∀ k, ¬ At x dots x.length k := by
    rcases occ_from_hi x dots 0 x.length with ⟨-, hn⟩ | ⟨i, r, h', -, -, -⟩
    · exact fun k => hn k (Nat.zero_le _)
    · rw [h'] at h; cases h
  have h1 := litG (x := x) (t := y.cps.toList) x.length 0 (by omega) (fun k _ _ => hno k)
  have hd : x.cps.toList.drop x.length = [] := List.drop_of_length_le (by rw [len_list]; exact Nat.le_refl _)
  rw [List.drop_zero, Nat.zero_add, hd, len_list, List.take_length] at h1
  rw [h1, beq_iff_eq]
  constructor
  · rintro ⟨t', e, hG⟩
    rw [(G_nil _).mp hG, List.append_nil] at e
    exact (str_ext e).symm
  · rintro rfl; exact ⟨[], by simp, (G_nil _).mpr rfl⟩
theorem split_shape2 {x : Str} (h : (occurrences x dots 0 x.length 1).isEmpty = false) : ∃ w0 mid wn, Txt.split x dots = w0 :: (mid ++ [wn]) := by
  obtain ⟨c, hc⟩ : ∃ c, At x dots x.length c := by
    rcases occ_from_hi x dots 0 x.length with ⟨h', -⟩ | ⟨i, r, -, -, hi, -⟩
    · rw [h'] at h; cases h
    · exact ⟨i, hi⟩
  obtain ⟨f, hG, hn⟩ := occ_tight x dots (by rw [dots_n]; decide)
  have hc' := (at_iff x dots x.length c).mp hc
  rw [dots_l, dots_n] at hc'
  have h46 : 46 ∈ x.cps.toList := by
    have : 46 ∈ (x.cps.toList.drop c).take 3 := by rw [hc'.2]; simp
    exact List.mem_of_mem_drop (List.mem_of_mem_take this)
  have hk : ¬ strKind x < strKind dots := fun h => kind_free x 46 (by rw [show strKind (⟨#[46]⟩ : Str) = strKind dots by decide +kernel]; exact h) h46
  have hocc : occurrences x dots 0 x.length (x.length + 1) ≠ [] := by
    intro h0
    rw [h0] at hG
    have hf : f = 0 := hG
    exact hn c (by omega) hc
  unfold Txt.split
  rw [if_neg (by rw [Bool.or_eq_true, decide_eq_true_eq, decide_eq_true_eq, dots_n]; rintro (h | h); omega; exact hk h), if_neg (by simpa using hocc), partsBetween_eq, dots_n]
  cases hq : occurrences x dots 0 x.length (x.length + 1) with
  | nil => exact absurd hq hocc
  | cons d r =>
    show ∃ w0 mid wn, strSub x 0 d :: partsFrom x 3 (d + 3) r = w0 :: (mid ++ [wn])
    obtain ⟨p0, r0, hp0⟩ := partsFrom_ne x 3 (d + 3) r
    rw [hp0]
    refine ⟨strSub x 0 d, (p0 :: r0).dropLast, (p0 :: r0).getLast (by simp), ?_⟩
    rw [List.dropLast_concat_getLast]
theorem split_small {x : Str} {w0 wn : Str} {mid : List Str} (h : Txt.split x dots = w0 :: (mid ++ [wn])) (hx : x.length ≤ 900) : w0.length ≤ 1000 ∧ wn.length ≤ 1000 ∧ mid.length ≤ 1000 ∧ ∀ z ∈ mid, z.length ≤ 1000 := by
  have hlen : ∀ z ∈ Txt.split x dots, z.length ≤ 900 := by
    intro z hz
    unfold Txt.split at hz
    split at hz
    · rw [List.mem_singleton.mp hz]; exact hx
    · split at hz
      · rw [List.mem_singleton.mp hz]; exact hx
      · rw [partsBetween_eq] at hz
        have : ∀ (cuts : List Nat) (a : Nat), ∀ z ∈ partsFrom x dots.length a cuts, z.length ≤ 900 := by
          intro cuts
          induction cuts with
          | nil =>
            intro a z hz
            rw [List.mem_singleton.mp hz, len_list, sub_list]
            refine Nat.le_trans (List.length_take_le _ _) ?_
            omega
          | cons c r ih =>
            intro a z hz
            rcases List.mem_cons.mp hz with rfl | hz
            · rw [len_list, sub_list]
              refine Nat.le_trans (List.length_take_le' _ _) ?_
              rw [List.length_drop, ← len_list]; omega
            · exact ih _ z hz
        exact this _ _ z hz
  have hcnt : (Txt.split x dots).length ≤ 1000 := by
    unfold Txt.split
    split
    · simp
    · split
      · simp
      · rw [partsBetween_eq]
        have : ∀ (cuts : List Nat) (a : Nat), (partsFrom x dots.length a cuts).length = cuts.length + 1 := by
          intro cuts
          induction cuts with
          | nil => intro a; rfl
          | cons c r ih => intro a; show (partsFrom x dots.length (c + dots.length) r).length + 1 = _; rw [ih]; rfl
        rw [this]
        have := occ_length_le x dots 0 x.length (x.length + 1)
        omega
  rw [h] at hlen hcnt
  refine ⟨Nat.le_trans (hlen w0 (.head _)) (by decide), Nat.le_trans (hlen wn (by simp)) (by decide), ?_, fun z hz => Nat.le_trans (hlen z (by simp [hz])) (by decide)⟩
  simp at hcnt; omega
end Mine
end S6

section C1
open PySem PySem.W PyProof.Rows
namespace Mine
open Builtin Builtin.Str StrLaws
open Classical in
noncomputable def globB (x y : Str) : Bool := decide (G x.cps.toList y.cps.toList)
theorem globB_iff (x y : Str) : globB x y = true ↔ G x.cps.toList y.cps.toList := by unfold globB; simp
theorem bool_eq {a b : Bool} {P : Prop} (h1 : a = true ↔ P) (h2 : b = true ↔ P) : a = b := by
  cases a <;> cases b <;> simp_all
theorem fits_b (x y : Str) (t u : Tok) : Con 225 (x.length ≤ 1000 ∧ y.length ≤ 1000) [.str x t, .str y u] (fun _ => .bool (globB x y)) :=
  fits_con x y t u _ fun _ _ hR hi => bool_eq (reach_end hR hi) (globB_iff x y)
theorem match_b (x y : Str) (t u : Tok) (hx : x.length ≤ 900) : Con 46 (x.length ≤ 1000 ∧ y.length ≤ 1000) [.str x t, .str y u] (fun _ => .bool (globB x y)) := by
  cases hne : (occurrences x dots 0 x.length 1).isEmpty with
  | true =>
    have e : globB x y = (x == y) := bool_eq (globB_iff x y) (none_G hne).symm
    rw [e]
    exact match_con0 x y t u hne
  | false =>
    obtain ⟨w0, mid, wn, hs⟩ := split_shape2 hne
    obtain ⟨h1, h2, h3, h4⟩ := split_small hs hx
    have e : globB x y = ellTail y w0 mid wn := bool_eq (globB_iff x y) (ell_G hs).symm
    rw [e]
    exact match_con x y t u w0 mid wn hs hne h1 h2 h3 h4
end Mine
end C1

section P3
open PySem PySem.W PyProof.Rows
namespace Mine
theorem all_out {X : List (Addr × Obj)} {lo hi a : Nat} (h : ∀ p ∈ X, @LT.lt Nat _ hi p.1 ∨ @LE.le Nat _ p.1 lo) (h1 : a ≤ hi) (h2 : lo < a) : ∀ p ∈ X, p.1 ≠ a := fun p hp e => by
  rcases h p hp with h | h
  · rw [e] at h; exact absurd h (Nat.not_lt.mpr h1)
  · rw [e] at h; exact absurd h2 (Nat.not_lt.mpr h)
theorem strip_n (x n : Str) (t : Tok) (h : stripF x = n) : Con 53 (x.length ≤ 1000) [.str x t] (fun t => .str n t) := by
  rw [← h]; exact strip_con x t
theorem all4 {I a1 a2 a3 a4 : Addr} {x1 x2 x3 x4 : Obj} {r : List (Addr × Obj)} (h : ∀ p ∈ (a1, x1) :: (a2, x2) :: (a3, x3) :: (a4, x4) :: r, p.1 ≠ I) :
    @Ne Nat a1 I ∧ @Ne Nat a2 I ∧ @Ne Nat a3 I ∧ @Ne Nat a4 I :=
  ⟨h (a1, x1) (.head _), h (a2, x2) (.tail _ (.head _)), h (a3, x3) (.tail _ (.tail _ (.head _))), h (a4, x4) (.tail _ (.tail _ (.tail _ (.head _))))⟩
theorem fr_cut1 {h₀ h : Heap} {L : Addr} {a : Str} {va : Option Value} {mr : Str → Option Value} (F : Fr h₀ L h (fun y => if y = a then va else mr y)) : ∃ mr' : Str → Option Value, Fr h₀ L h (fun y => if y = a then va else mr' y) := ⟨mr, F⟩
theorem names2' {m m0 : Str → Option Value} {a1 a2 : Str} (h : ∀ z, z ≠ a1 → z ≠ a2 → m z = m0 z) : m = fun z => if z = a1 then m a1 else if z = a2 then m a2 else m0 z := by
  funext z
  by_cases h1 : z = a1
  · simp [h1]
  rw [if_neg h1]
  by_cases h2 : z = a2
  · simp [h2]
  rw [if_neg h2]
  exact h z h1 h2
inductive LawJ2 (b : Nat) (X : List (Addr × Obj)) (m0 : Str → Option Value) (i : Nat) : (Str → Option Value) → List (Addr × Obj) → Prop
  | mk (p1 p2 p3 p4 : Obj) (c1 c2 c3 c4 v1 v2 : Option Value) (h1 : p1.data = .cell c1) (h2 : p2.data = .cell c2) (h3 : p3.data = .cell c3) (h4 : p4.data = .cell c4) :
    LawJ2 b X m0 i (fun z => if z = Str.ofString "held" then v1 else if z = Str.ofString "message" then v2 else m0 z) ((b + 1 + 1 + 1 + 1 + 1, p1) :: (b + 1 + 1 + 1 + 1, p2) :: (b + 1 + 1 + 1, p3) :: (b + 1 + 1, p4) :: X)
theorem law2_map {b : Nat} {X : List (Addr × Obj)} {m m' m0 : Str → Option Value} {i : Nat} {nx : List (Addr × Obj)} (e : m = m') (h : LawJ2 b X m0 i m' nx) : LawJ2 b X m0 i m nx := e ▸ h
theorem ne_same {A B tl : List (Addr × Obj)} {I : Nat} (hI : ∀ p ∈ A ++ tl, p.1 ≠ I) (e : A.map (·.1) = B.map (·.1)) : ∀ p ∈ B ++ tl, p.1 ≠ I := by
  intro p hp
  rcases List.mem_append.mp hp with hp | hp
  · have : p.1 ∈ A.map (·.1) := by rw [e]; exact List.mem_map.mpr ⟨p, hp, rfl⟩
    obtain ⟨q, hq, hqp⟩ := List.mem_map.mp this
    rw [← hqp]; exact hI q (List.mem_append.mpr (.inl hq))
  · exact hI p (List.mem_append.mpr (.inr hp))
theorem law2_end {b I : Nat} {X Y : List (Addr × Obj)} {m0 m' : Str → Option Value} {i : Nat} {oI p1 p2 p3 p4 y1 y2 y3 y4 : Obj} {c1 c2 c3 c4 : Option Value} {h₀ h' : Heap} {L : Addr} {s : Shared} {Q : Flow → Shared → Prop} {tk : Nat} (F : Fr h₀ L h' m')
    (N : News h₀ L h' (Y ++ (I, oI) :: (b + 1 + 1 + 1 + 1 + 1, p1) :: (b + 1 + 1 + 1 + 1, p2) :: (b + 1 + 1 + 1, p3) :: (b + 1 + 1, p4) :: X))
    (h1 : p1.data = .cell c1) (h2 : p2.data = .cell c2) (h3 : p3.data = .cell c3) (h4 : p4.data = .cell c4)
    (hI : ∀ p ∈ (b + 1 + 1 + 1 + 1 + 1, y1) :: (b + 1 + 1 + 1 + 1, y2) :: (b + 1 + 1 + 1, y3) :: (b + 1 + 1, y4) :: X, p.1 ≠ I)
    (hm : ∀ z, z ≠ Str.ofString "held" → z ≠ Str.ofString "message" → m' z = m0 z) :
    FStep h₀ L s I oI (LawJ2 b X m0 (i + 1)) Q .next { s with heap := h', toks := tk } :=
  FStep.intro (nx' := (b + 1 + 1 + 1 + 1 + 1, p1) :: (b + 1 + 1 + 1 + 1, p2) :: (b + 1 + 1 + 1, p3) :: (b + 1 + 1, p4) :: X) F N (fun _ hq => List.mem_append.mpr (.inr hq))
    (ne_same (A := [(b + 1 + 1 + 1 + 1 + 1, y1), (b + 1 + 1 + 1 + 1, y2), (b + 1 + 1 + 1, y3), (b + 1 + 1, y4)]) (B := [_, _, _, _]) hI rfl)
    (law2_map (names2' hm) (.mk p1 p2 p3 p4 c1 c2 c3 c4 _ _ h1 h2 h3 h4))
theorem all_app {P : Addr × Obj → Prop} {A B : List (Addr × Obj)} (h1 : ∀ p ∈ A, P p) (h2 : ∀ p ∈ B, P p) : ∀ p ∈ A ++ B, P p := fun p hp => (List.mem_append.mp hp).elim (h1 p) (h2 p)
theorem mid_front {A M T : List (Addr × Obj)} : ∀ p ∈ M ++ (A ++ T), p ∈ A ++ (M ++ T) := fun p hp => (List.mem_append.mp hp).elim (fun h => List.mem_append.mpr (.inr (List.mem_append.mpr (.inl h)))) fun h => (List.mem_append.mp h).elim (fun h => List.mem_append.mpr (.inl h)) fun h => List.mem_append.mpr (.inr (List.mem_append.mpr (.inr h)))
theorem inl_app {a : Addr × Obj} {A B : List (Addr × Obj)} (h : a ∈ A) : a ∈ A ++ B := List.mem_append.mpr (.inl h)
theorem inr_app {a : Addr × Obj} {A B : List (Addr × Obj)} (h : a ∈ B) : a ∈ A ++ B := List.mem_append.mpr (.inr h)
theorem led_msgs {w : World} {h₀ h : Heap} {L : Addr} {b bx dx dl lm lr ll fr : Nat} {fz tl : List (Addr × Obj)} {es : Array DictEntry} {nb : Nat} {tfz : Tok} {P6 : Array Value} {C : List BEnt} {rs ms ls : List Value} {cm cr cl : Nat} {p1 p2 p3 p4 o5 : Obj} {prs : List (Str × Str)}
    (N : News h₀ L h (fz ++ ((bx, ddObj dx es nb) :: (dx, fzDict w fr tfz) :: (114, tabObj P6) :: (ll, lobj ls cl) :: (eL C ++ ((lr, lobj rs cr) :: (lm, lobj ms cm) :: (b + 1 + 1 + 1 + 1 + 1, p1) :: (b + 1 + 1 + 1 + 1, p2) :: (b + 1 + 1 + 1, p3) :: (b + 1 + 1, p4) :: (b + 1, o5) :: tl)))))
    (hC : Inv2 bx prs prs.length C) (hdx : @LT.lt Nat _ dx bx) (hfz : ∀ p ∈ fz, @LT.lt Nat _ bx p.1) (hlow : @LT.lt Nat _ lm dx) (h114 : 114 < b) (h5 : b + 1 + 1 + 1 + 1 + 1 < ll) (h6 : ll < lr) (h7 : lr < lm) (h8 : lm < dl) (htl : ∀ p ∈ tl, @LT.lt Nat _ dl p.1) :
    ∃ X, News h₀ L h ((b + 1 + 1 + 1 + 1 + 1, p1) :: (b + 1 + 1 + 1 + 1, p2) :: (b + 1 + 1 + 1, p3) :: (b + 1 + 1, p4) :: X) ∧ (∀ p ∈ X, @LT.lt Nat _ (b + 1 + 1 + 1 + 1 + 1) p.1 ∨ @LE.le Nat _ p.1 (b + 1)) ∧
      (bx, ddObj dx es nb) ∈ X ∧ (dx, fzDict w fr tfz) ∈ X ∧ (114, tabObj P6) ∈ X ∧ (lm, lobj ms cm) ∈ X ∧ (lr, lobj rs cr) ∈ X ∧ (b + 1, o5) ∈ X ∧ (∀ p ∈ eL C, p ∈ X) ∧ (∀ p ∈ tl, p ∈ X) ∧ ∀ p ∈ fz, p ∈ X := by
  have e : fz ++ ((bx, ddObj dx es nb) :: (dx, fzDict w fr tfz) :: (114, tabObj P6) :: (ll, lobj ls cl) :: (eL C ++ ((lr, lobj rs cr) :: (lm, lobj ms cm) :: (b + 1 + 1 + 1 + 1 + 1, p1) :: (b + 1 + 1 + 1 + 1, p2) :: (b + 1 + 1 + 1, p3) :: (b + 1 + 1, p4) :: (b + 1, o5) :: tl)))
      = (fz ++ ([(bx, ddObj dx es nb), (dx, fzDict w fr tfz), (114, tabObj P6), (ll, lobj ls cl)] ++ (eL C ++ [(lr, lobj rs cr), (lm, lobj ms cm)]))) ++ ([(b + 1 + 1 + 1 + 1 + 1, p1), (b + 1 + 1 + 1 + 1, p2), (b + 1 + 1 + 1, p3), (b + 1 + 1, p4)] ++ ((b + 1, o5) :: tl)) := by
    rw [List.append_assoc, List.append_assoc, List.append_assoc]; rfl
  rw [e] at N
  have l2 := Nat.lt_trans h5 h6
  have l3 := Nat.lt_trans l2 h7
  have l4 := Nat.lt_trans l3 hlow
  have l5 := Nat.lt_trans l4 hdx
  have l6 := Nat.lt_trans l3 h8
  refine ⟨(fz ++ ([(bx, ddObj dx es nb), (dx, fzDict w fr tfz), (114, tabObj P6), (ll, lobj ls cl)] ++ (eL C ++ [(lr, lobj rs cr), (lm, lobj ms cm)]))) ++ ((b + 1, o5) :: tl), fun p hp => N p (mid_front p hp), ?_,
    inl_app (inr_app (inl_app (.head _))), inl_app (inr_app (inl_app (.tail _ (.head _)))), inl_app (inr_app (inl_app (.tail _ (.tail _ (.head _))))), inl_app (inr_app (inr_app (inr_app (.tail _ (.head _))))), inl_app (inr_app (inr_app (inr_app (.head _)))), inr_app (.head _),
    fun p hp => inl_app (inr_app (inr_app (inl_app hp))), fun p hp => inr_app (.tail _ hp), fun p hp => inl_app (inl_app hp)⟩
  refine all_app (all_app (fun p hp => .inl (Nat.lt_trans l5 (hfz p hp))) (all_app ?_ (all_app ?_ ?_))) (all_cons (.inr (Nat.le_refl _)) fun p hp => .inl (Nat.lt_trans l6 (htl p hp)))
  · exact all_cons (.inl l5) (all_cons (.inl l4) (all_cons (.inr (Nat.le_succ_of_le (Nat.le_of_lt h114))) (all_cons (.inl h5) fun _ h => (nomatch h))))
  · intro q hq
    obtain ⟨d, hd, rfl⟩ := List.mem_map.mp hq
    exact .inl (Nat.lt_trans l5 (hC.2.2.1 d hd).1)
  · exact all_cons (.inl l2) (all_cons (.inl l3) fun _ h => (nomatch h))
end Mine
end P3

section P4
open PySem PySem.W PyProof.Rows
namespace Mine
def patsOf (R : List (Str × Str)) (n : Str) : List Str := (R.filter fun r => r.1 == n).map (·.2)
def lookG (G : List (Str × List Str)) (n : Str) : Option (List Str) := (G.find? fun g => g.1 == n).map (·.2)
theorem look_add (k p n : Str) : ∀ G : List (Str × List Str), lookG (addG G k p) n = if k == n then some ((lookG G n).getD [] ++ [p]) else lookG G n
  | [] => by
    unfold lookG addG
    by_cases h : (k == n) = true
    · simp [h]
    · simp [h]
  | g :: r => by
    have ih := look_add k p n r
    unfold lookG at ih ⊢
    unfold addG
    by_cases hg : (g.1 == k) = true
    · rw [if_pos hg]
      have e : g.1 = k := eq_of_beq hg
      by_cases h : (k == n) = true
      · simp [e, h]
      · simp [e, h]
    · rw [if_neg hg, List.find?_cons]
      by_cases hgn : (g.1 == n) = true
      · have hkn : ¬ (k == n) = true := fun h => hg (by rw [eq_of_beq hgn, eq_of_beq h]; exact beq_self_eq_true _)
        rw [if_neg hkn, List.find?_cons]
        simp [hgn]
      · rw [List.find?_cons]
        simp only [hgn]
        exact ih
theorem patsOf_snoc (R : List (Str × Str)) (k p n : Str) : patsOf (R ++ [(k, p)]) n = if k == n then patsOf R n ++ [p] else patsOf R n := by
  unfold patsOf
  rw [List.filter_append]
  by_cases h : (k == n) = true
  · simp [h]
  · simp [h]
theorem bookOf_snoc (R : List (Str × Str)) (k p : Str) : bookOf (R ++ [(k, p)]) = addG (bookOf R) k p := by unfold bookOf; rw [List.foldl_append]; rfl
theorem look_book (n : Str) : ∀ R : List (Str × Str), lookG (bookOf R) n = if patsOf R n = [] then none else some (patsOf R n) := by
  have key : ∀ R : List (Str × Str), lookG (bookOf R.reverse) n = if patsOf R.reverse n = [] then none else some (patsOf R.reverse n) := by
    intro R
    induction R with
    | nil => rfl
    | cons r R ih =>
      obtain ⟨k, p⟩ := r
      rw [List.reverse_cons, bookOf_snoc, look_add, patsOf_snoc, ih]
      by_cases h : (k == n) = true
      · rw [if_pos h, if_pos h]
        by_cases h2 : patsOf R.reverse n = []
        · rw [h2]; simp
        · rw [if_neg h2]; simp
      · rw [if_neg h, if_neg h]
  intro R
  have := key R.reverse
  rwa [List.reverse_reverse] at this
theorem bookIs_look {n : Str} : ∀ {C : List BEnt} {G : List (Str × List Str)}, BookIs C G → (∀ a, lookB (eB C) n = some a → ∃ e ∈ C, e.addr = a ∧ ∃ ps, lookG G n = some ps ∧ StrsAre e.vals ps) ∧ (lookB (eB C) n = none → lookG G n = none)
  | _, _, .nil => ⟨fun _ h => (nomatch h), fun _ => rfl⟩
  | _, _, .cons (e := e) (C := C) (ps := ps) (G := G) h r => by
    have ih := bookIs_look (n := n) r
    have e1 : lookB (eB (e :: C)) n = if e.name == n then some e.addr else lookB (eB C) n := by
      unfold lookB eB
      rw [List.map_cons, List.find?_cons]
      cases e.name == n <;> rfl
    have e2 : lookG ((e.name, ps) :: G) n = if e.name == n then some ps else lookG G n := by
      unfold lookG
      rw [List.find?_cons]
      cases e.name == n <;> rfl
    rw [e1, e2]
    by_cases hn : (e.name == n) = true
    · rw [if_pos hn, if_pos hn]
      exact ⟨fun a ha => ⟨e, .head _, Option.some.inj ha, ps, rfl, h⟩, fun h => (nomatch h)⟩
    · rw [if_neg hn, if_neg hn]
      refine ⟨fun a ha => ?_, ih.2⟩
      obtain ⟨d, hd, h1, h2⟩ := ih.1 a ha
      exact ⟨d, .tail _ hd, h1, h2⟩
theorem held_hit {C : List BEnt} {R : List (Str × Str)} {n : Str} {a : Addr} (h : BookIs C (bookOf R)) (ha : lookB (eB C) n = some a) : ∃ e ∈ C, e.addr = a ∧ StrsAre e.vals (patsOf R n) := by
  obtain ⟨e, he, h1, ps, h2, h3⟩ := (bookIs_look h).1 a ha
  rw [look_book] at h2
  split at h2
  · cases h2
  · cases h2; exact ⟨e, he, h1, h3⟩
theorem held_miss {C : List BEnt} {R : List (Str × Str)} {n : Str} (h : BookIs C (bookOf R)) (ha : lookB (eB C) n = none) : patsOf R n = [] := by
  have h2 := (bookIs_look h).2 ha
  rw [look_book] at h2
  split at h2
  · assumption
  · cases h2
/-- the names with a rule, as they first came -/
def firsts (R : List (Str × Str)) : List Str := (bookOf R).map (·.1)
def HeldPost (h₀ : Heap) (L : Addr) (m : Str → Option Value) (s : Shared) (base : List (Addr × Obj)) (pats : List Str) (v : Value) (s' : Shared) : Prop :=
  ∃ ah vals c h' tk', v = .ref ah ∧ s' = { s with heap := h', toks := tk' } ∧ Fr h₀ L h' m ∧ News h₀ L h' ((ah, lobj vals c) :: base) ∧ StrsAre vals pats
theorem held_mono {prog : Program} {w : World} {A : Around} {E : Value → Shared → Prop} {t : Sem Value} {h₀ : Heap} {L : Addr} {m : Str → Option Value} {s : Shared} {base : List (Addr × Obj)} (pats : List Str) {Q : Value → Shared → Prop} (F : Fr h₀ L s.heap m) (N : News h₀ L s.heap base)
    (h1 : Fr h₀ L s.heap m → News h₀ L s.heap base → wpAny (model prog w) A t (HeldPost h₀ L m s base pats) E s) (h2 : ∀ ah vals c h' tk', Fr h₀ L h' m → News h₀ L h' ((ah, lobj vals c) :: base) → StrsAre vals pats → Q (.ref ah) { s with heap := h', toks := tk' }) : wpAny (model prog w) A t Q E s :=
  wpAny_mono (h1 F N) (fun v s' hv => by obtain ⟨ah, vals, c, h', tk', rfl, rfl, F', N', hS⟩ := hv; exact h2 ah vals c h' tk' F' N' hS) fun _ _ e => e
end Mine
end P4

section K1
open PySem PySem.W PyProof.Rows
set_option maxRecDepth 100000
namespace Mine
theorem mem_of {a : Addr × Obj} {l : List (Addr × Obj)} (h : a ∈ l) : List.Mem a l := h
open PySem.Calls LCt LCg PySem.W
/-- what a comprehension over a list of pairs with one test asks: source, invariant, turn, end; the ledger stays -/
def SrcPT (prog : Program) (w : World) (A : Around) (h₀ : Heap) (L : Addr) (m : Str → Option Value) (env : Env) (ct elt : Expr) (x x₂ : Str) (scope : Scope) (cl : List (Str × Addr)) (Q : Value → Shared → Prop) (xv : Value) (s₁ : Shared) : Prop :=
  ∃ (ax : Addr) (vs : List Value) (k : Nat) (news : List (Addr × Obj)) (Inv : Nat → List Value → Prop), xv = .ref ax ∧ A.handled = none ∧ Fr h₀ L s₁.heap m ∧ News h₀ L s₁.heap news ∧ (ax, lobj vs k) ∈ news ∧ vs.length ≤ sizeLine ∧ Inv 0 [] ∧
    (∀ i ys v, vs[i]? = some v → Inv i ys → ∃ t v₁ v₂, v = .ref t ∧ (t, ({ cls := .type "tuple", data := .seq #[v₁, v₂] } : Obj)) ∈ news ∧
      ∀ I oI C oC D m₂ h tk (E' : Value → Shared → Prop), NsObj oC m₂ → m₂ x = some v₁ → m₂ x₂ = some v₂ → Fr h₀ L h m → News h₀ L h ((I, oI) :: (C, oC) :: (D, lst ys) :: news) → Off3 I C D news → ((@Ne Nat I C) ∧ (@Ne Nat I D) ∧ (@Ne Nat C D)) →
        wpAny (model prog w) A (isTrue ct (compEnvC scope cl C env) (eval ct (compEnvC scope cl C env))) (fun ok s' => if ok = true then
          wpAny (model prog w) A (eval elt (compEnvC scope cl C env)) (fun y s'' => TurnE h₀ L m s₁ ((I, oI) :: (C, oC) :: (D, lst ys) :: news) (Inv (i + 1) (ys ++ [y])) s'') E' s'
          else TurnE h₀ L m s₁ ((I, oI) :: (C, oC) :: (D, lst ys) :: news) (Inv (i + 1) ys) s') E' { s₁ with heap := h, toks := tk }) ∧
    (∀ ys D h tk, Inv vs.length ys → Fr h₀ L h m → News h₀ L h ((D, lst ys) :: news) → Off1 D news → Q (.ref D) { s₁ with heap := h, toks := tk })
inductive PTI (h₀ : Heap) (L : Addr) (m : Str → Option Value) (n0 ax : Addr) (vs : List Value) (s₁ : Shared) (news : List (Addr × Obj)) (Inv : Nat → List Value → Prop) : Nat → Shared → Prop
  | mk (h' : Heap) (tk i : Nat) (ys : List Value) (m' : Str → Option Value) (hi : i ≤ vs.length) (hyl : ys.length ≤ i) (st1 : h'.IsListIter n0 ax i) (st2 : h'.IsList ax vs.toArray) (F : Fr h₀ L h' m) (hn : h'.Ns (n0 + 1 + 1) m') (N : News h₀ L h' ((n0 + 1, lst ys) :: news)) (hinv : Inv i ys) :
    PTI h₀ L m n0 ax vs s₁ news Inv (vs.length + 1 - i) { s₁ with heap := h', toks := tk }
section
variable {prog : Program} {w : World} {A : Around} {E : Value → Shared → Prop} {s : Shared} {h₀ : Heap} {L : Addr} {m : Str → Option Value} {env : Env}
theorem ListComp_PT {elt ct iter : Expr} {x x₂ : Str} {px px₂ tp : Pos} {tk} {scope : Scope} {cl : List (Str × Addr)} {pos : Pos} {Q : Value → Shared → Prop} (_F₀ : Fr h₀ L s.heap m)
    (hclos : closureFor scope env = pure cl) (hcell : ∀ y ∈ scope.names, y.2 ≠ .cell) (hkind : scope.kind = .function)
    (hnames : ∀ y ∈ scope.names, y.2 = .local → scope.names.lookup y.1 = some .local) (hx : scope.names.lookup x = some .local) (hx₂ : scope.names.lookup x₂ = some .local) (hxx : x ≠ x₂)
    (h : wpAny (model prog w) A (eval iter env) (SrcPT prog w A h₀ L m env ct elt x x₂ scope cl Q) E s)
    (hs : ∀ x, foldedSetIterable iter env x = pure x := by intro _; rfl) :
    wpAny (model prog w) A (eval (.ListComp elt [⟨.Tuple [.Name x px, .Name x₂ px₂] tk tp, iter, [ct], 0⟩] scope pos) env) Q E s := by
  rw [eval_ListComp]
  refine wpAny_comprehension_free (use := none) rfl hs hclos hkind hnames (wpAny_mono h (fun xv s₁ h₁ => ?_) fun _ _ e => e)
  obtain ⟨ax, vs, kk, news, Inv, rfl, hh, F, N, hm, hsz, inv0, turn, fin⟩ := h₁
  have hl : s₁.heap.IsList ax vs.toArray := lobj_list N hm
  have hax : ax < s₁.heap.objs.size := by obtain ⟨_, e, _⟩ := hl; exact Heap.lt_size e
  refine wpAny_pyIter_list hl ?_
  have hneI : ax ≠ s₁.heap.objs.size := Nat.ne_of_lt hax
  have W := Walks.list (prog := prog) (w := w) hh s₁.heap.objs.size ax hneI vs.toArray
  have hI₀ : h₀.get? s₁.heap.objs.size = none := next_is_new F
  have hLI : L ≠ s₁.heap.objs.size := Nat.ne_of_lt F.ns.lt
  have hLlt : L < s₁.heap.objs.size := F.ns.lt
  have hsz' : vs.toArray.size = vs.length := by simp
  have hoff : ∀ p ∈ news, p.1 < s₁.heap.objs.size := fun p hp => Heap.lt_size (N p hp).1
  have hnone : ∀ a, s₁.heap.objs.size ≤ a → h₀.get? a = none := fun a ha => Heap.get?_none_of_le (Nat.le_trans F.above (Nat.le_trans (Nat.le_of_lt hLlt) ha))
  refine wpAny_newObj_type (wpAny_newFunctionEnv hcell (by intro y hy; simp at hy) (fun h₁ hns₁ hsb₁ => ?_) hkind)
  dsimp only at hns₁ hsb₁ ⊢
  generalize hH1 : s₁.heap.push { cls := .type "list_iterator", data := .fields #[.ref ax, .int 0 0] } = H1 at hns₁ hsb₁ ⊢
  generalize hH2 : H1.push { cls := .type "list", dict := none, data := .seq ([] : List Value).toArray } = H2 at hns₁ hsb₁ ⊢
  have z1 : H1.objs.size = s₁.heap.objs.size + 1 := by rw [← hH1]; exact Heap.size_push ..
  have z2 : H2.objs.size = s₁.heap.objs.size + 1 + 1 := by rw [← hH2, Heap.size_push, z1]
  obtain ⟨n0, hn0⟩ : ∃ n0, n0 = s₁.heap.objs.size := ⟨_, rfl⟩
  rw [z2] at hns₁ hsb₁
  rw [z1, z2]
  rw [← hn0] at hneI W hI₀ hLI hLlt hoff hnone hax hns₁ hsb₁ ⊢
  have kept : ∀ b o, b < n0 → s₁.heap.get? b = some o → h₁.get? b = some o := fun b o hb e => hsb₁.extBut b o (Nat.ne_of_lt (Nat.lt_succ_of_lt (Nat.lt_succ_of_lt hb))) (Heap.get?_push_of_some _ (by rw [← hH2]; exact Heap.get?_push_of_some _ (by rw [← hH1]; exact Heap.get?_push_of_some _ e)))
  have hit : h₁.get? n0 = some ({ cls := .type "list_iterator", data := .fields #[.ref ax, .int 0 0] } : Obj) := hsb₁.extBut _ _ (Nat.ne_of_lt (Nat.lt_succ_of_lt (Nat.lt_succ_self _))) (Heap.get?_push_of_some _ (by rw [← hH2]; exact Heap.get?_push_of_some _ (by rw [← hH1, hn0]; exact Heap.get?_push_size _ rfl)))
  have hac : h₁.get? (n0 + 1) = some (lst []) := hsb₁.extBut _ _ (Nat.ne_of_lt (by omega)) (Heap.get?_push_of_some _ (by rw [← hH2, hn0, ← z1]; exact Heap.get?_push_size _ rfl))
  have hst₁ : h₁.IsListIter n0 ax 0 ∧ h₁.IsList ax vs.toArray := ⟨⟨_, hit, rfl, rfl⟩, ⟨_, kept _ _ hax (N _ hm).1, rfl, kk, rfl⟩⟩
  have F₁ : Fr h₀ L h₁ m := ⟨F.ns.at' fun o e => kept _ o hLlt e, fun b o e => kept b o (by rw [hn0]; exact Heap.lt_size (F.keep b o e)) (F.keep b o e), F.above⟩
  have N₁ : News h₀ L h₁ ((n0 + 1, lst []) :: news) := fun p hp => by
    rcases List.mem_cons.mp hp with rfl | hp
    · exact ⟨hac, Nat.ne_of_gt (Nat.lt_succ_of_lt hLlt), hnone _ (Nat.le_succ _)⟩
    · exact ⟨kept _ _ (hoff p hp) (N p hp).1, (N p hp).2⟩
  have off3 : Off3 n0 (n0 + 1 + 1) (n0 + 1) news := Off3.of fun p hp => by
    have := hoff p hp
    exact ⟨Nat.ne_of_lt this, Nat.ne_of_lt (Nat.lt_succ_of_lt (Nat.lt_succ_of_lt this)), Nat.ne_of_lt (Nat.lt_succ_of_lt this)⟩
  have hD₀ : h₀.get? (n0 + 1) = none := hnone _ (Nat.le_succ _)
  have hC₀ : h₀.get? (n0 + 1 + 1) = none := hnone _ (Nat.le_succ_of_le (Nat.le_succ _))
  have hCL : n0 + 1 + 1 ≠ L := Nat.ne_of_gt (Nat.lt_succ_of_lt (Nat.lt_succ_of_lt hLlt))
  have hDL : n0 + 1 ≠ L := Nat.ne_of_gt (Nat.lt_succ_of_lt hLlt)
  have hCI : n0 ≠ n0 + 1 + 1 := by omega
  have hDI : n0 ≠ n0 + 1 := by omega
  have hDC : n0 + 1 ≠ n0 + 1 + 1 := by omega
  have off3m := off3.mem
  have oldN : ∀ (h' h'' : Heap) (ys : List Value) (c : Addr), News h₀ L h' ((n0 + 1, lst ys) :: news) → (c = n0 ∨ c = n0 + 1 + 1 ∨ False) → (∀ b o, b ≠ c → h'.get? b = some o → h''.get? b = some o) → News h₀ L h'' ((n0 + 1, lst ys) :: news) := by
    intro h' h'' ys c N' hc hk p hp
    refine ⟨hk _ _ ?_ (N' p hp).1, (N' p hp).2⟩
    rcases List.mem_cons.mp hp with rfl | hp2
    · rcases hc with rfl | rfl | hc
      · exact Ne.symm hDI
      · exact hDC
      · exact hc.elim
    · rcases hc with rfl | rfl | hc
      · exact (off3m p hp2).1
      · exact (off3m p hp2).2.1
      · exact hc.elim
  have loop : ∀ s₃ : Shared, s₃ = { s₁ with heap := h₁, toks := s₁.toks + ([] : List (Str × Value)).length } →
      codeAny (model prog w) A (.compLoop (.ListComp elt [⟨.Tuple [.Name x px, .Name x₂ px₂] tk tp, iter, [ct], 0⟩] scope pos) 0 (.ref n0) (.ref (n0 + 1)) (compEnvC scope cl (n0 + 1 + 1) env))
        (compPost (model prog w) A E none Q (.ref (n0 + 1)) (n0 + 1 + 1)) s₃ := by
    rintro s₃ rfl
    refine kct_loop (PTI h₀ L m n0 ax vs s₁ news Inv) ?_ (vs.length + 1) (.mk h₁ _ 0 [] _ (Nat.zero_le _) (Nat.le_refl _) hst₁.1 hst₁.2 F₁ hns₁ N₁ inv0)
    clear hst₁ F₁ hns₁ N₁ hsb₁ kept hit hac hnone hoff hH1 hH2 z1 z2 hn0
    intro k s' hI
    cases hI with
    | mk h' tk i ys m' hi hyl st1 st2 F' hn' N' hinv =>
    have hst' : h'.IsListIter n0 ax i ∧ h'.IsList ax vs.toArray := ⟨st1, st2⟩
    by_cases hlt : i < vs.length
    · refine W.item i _ _ _ (by simpa using hlt) hst' fun v h₂ tk₂ hPv hst₂ hk₂ => ?_
      obtain ⟨t, v₁, v₂, rfl, hmt, body⟩ := turn i ys v (by simpa using hPv) hinv
      have N₂ : News h₀ L h₂ ((n0 + 1, lst ys) :: news) := oldN h' h₂ ys n0 N' (.inl rfl) fun b o hb e => hk₂ b o (by simpa using hb) e
      have ht : IsTup h₂ t #[v₁, v₂] := ⟨_, (N₂ _ (List.mem_cons_of_mem _ hmt)).1, rfl, _, rfl⟩
      refine wpAny_letOwnedTupleGo_listiter hst₂.1 ?_
      refine assign_Tuple_tuple hh ht rfl rfl fun h₅ he => ?_
      have he' : ∀ b o, h₂.get? b = some o → h₅.get? b = some o := fun b o e => he b o (Nat.ne_of_lt (Heap.lt_size e)) e
      refine assignInOrder_cons (wpAny_assign_Name (wpAny_storeName_local (lookup_relabel_local hx) ((hn'.at' fun o e => hk₂ _ o (by simpa using Ne.symm hCI) e).at' fun o e => he' _ o e) (fun h₆ hn₆ hs₆ => ?_) (by simp [compEnvC, relabel, hkind])))
      refine assignInOrder_cons (wpAny_assign_Name (wpAny_storeName_local (lookup_relabel_local hx₂) hn₆ (fun h₃ hn₃ hs₃ => ?_) (by simp [compEnvC, relabel, hkind])))
      refine assignInOrder_nil ?_
      have old3 : ∀ b o, b ≠ n0 + 1 + 1 → h₂.get? b = some o → h₃.get? b = some o := fun b o hb e => hs₃.extBut b o hb (hs₆.extBut b o hb (he' b o e))
      have hit₃ : h₃.IsListIter n0 ax (i + 1) := hst₂.1.at fun o e => old3 _ o hCI e
      obtain ⟨oI, heI, hoI⟩ := id hit₃
      obtain ⟨oC, heC, hoC⟩ := ns_obj hn₃
      have F₃ : Fr h₀ L h₃ m := (((fr_but F' hk₂ hLI hI₀).keeps he').change hs₆ hCL hC₀).change hs₃ hCL hC₀
      have N₃' := oldN h₂ h₃ ys (n0 + 1 + 1) N₂ (.inr (.inl rfl)) old3
      have N₃ : News h₀ L h₃ ((n0, oI) :: (n0 + 1 + 1, oC) :: (n0 + 1, lst ys) :: news) := fun p hp => by
        rcases List.mem_cons.mp hp with rfl | hp
        · exact ⟨heI, Ne.symm hLI, hI₀⟩
        · rcases List.mem_cons.mp hp with rfl | hp
          · exact ⟨heC, hCL, hC₀⟩
          · exact N₃' p hp
      have fin : ∀ (ys' : List Value) (h₅ : Heap) (tk₅ : Nat), ys'.length ≤ i + 1 → Fr h₀ L h₅ m → News h₀ L h₅ ((n0, oI) :: (n0 + 1 + 1, oC) :: (n0 + 1, lst ys') :: news) → Inv (i + 1) ys' →
          ∃ q', q' < vs.length + 1 - i ∧ PTI h₀ L m n0 ax vs s₁ news Inv q' { s₁ with heap := h₅, toks := tk₅ } := by
        intro ys' h₅ tk₅ hl₅ F₅ N₅ j₅
        have zI := (N₅ (n0, oI) List.mem_cons_self).1
        have zC := (N₅ (n0 + 1 + 1, oC) (List.mem_cons_of_mem _ List.mem_cons_self)).1
        exact ⟨vs.length + 1 - (i + 1), by omega, .mk h₅ tk₅ (i + 1) ys' _ hlt hl₅ ⟨oI, zI, hoI⟩ ⟨_, (N₅ _ (List.mem_cons_of_mem _ (List.mem_cons_of_mem _ (List.mem_cons_of_mem _ hm)))).1, rfl, _, rfl⟩ F₅ (hoC.ns zC) (fun q hq => N₅ q (List.mem_cons_of_mem _ (List.mem_cons_of_mem _ hq))) j₅⟩
      refine wpAny_mono (body n0 oI (n0 + 1 + 1) oC (n0 + 1) _ h₃ _ _ hoC (by simp [hxx]) (by simp) F₃ N₃ off3 ⟨hCI, hDI, Ne.symm hDC⟩) (fun okb s₅ h₅ => ?_) fun _ _ e => e
      cases okb with
      | false =>
        simp only [Bool.false_eq_true, if_false] at h₅ ⊢
        obtain ⟨h₅, tk₅, F₅, N₅, j₅⟩ := h₅
        exact fin ys h₅ tk₅ (Nat.le_succ_of_le hyl) F₅ N₅ j₅
      | true =>
        simp only [if_true] at h₅ ⊢
        refine wpAny_mono h₅ (fun y s₆ h₆ => ?_) fun _ _ e => e
        obtain ⟨h₅, tk₅, F₅, N₅, j₅⟩ := h₆
        have zD := (N₅ (n0 + 1, lst ys) (List.mem_cons_of_mem _ (List.mem_cons_of_mem _ List.mem_cons_self))).1
        refine append_at (hsz := by show ys.toArray.size ≤ sizeLine; rw [List.size_toArray]; exact Nat.le_trans hyl (Nat.le_trans hi hsz)) zD fun h₆ hs₆ hD₆ => ?_
        refine fin (ys ++ [y]) h₆ _ (by rw [List.length_append, List.length_singleton]; exact Nat.succ_le_succ hyl) (F₅.change hs₆ hDL hD₀) (fun q hq => ?_) j₅
        have keep : ∀ r, r ∈ (n0, oI) :: (n0 + 1 + 1, oC) :: (n0 + 1, lst ys) :: news → r.1 ≠ n0 + 1 → h₆.get? r.1 = some r.2 ∧ r.1 ≠ L ∧ h₀.get? r.1 = none := fun r hr hne => ⟨hs₆.extBut _ _ hne (N₅ r hr).1, (N₅ r hr).2⟩
        rcases List.mem_cons.mp hq with rfl | hq
        · exact keep _ List.mem_cons_self hDI
        rcases List.mem_cons.mp hq with rfl | hq
        · exact keep _ (List.mem_cons_of_mem _ List.mem_cons_self) (Ne.symm hDC)
        rcases List.mem_cons.mp hq with rfl | hq
        · exact ⟨hD₆.trans (congrArg some (lst_snoc ys y)), hDL, hD₀⟩
        · exact keep q (List.mem_cons_of_mem _ (List.mem_cons_of_mem _ (List.mem_cons_of_mem _ hq))) (off3m q hq).2.2
    · obtain rfl : i = vs.length := Nat.le_antisymm hi (Nat.not_lt.mp hlt)
      refine W.done _ _ _ (by rw [hsz']; exact hst') fun h₂ tk₂ hk₂ => ?_
      have F₂ := fr_but F' hk₂ hLI hI₀
      have N₂ := oldN h' h₂ ys n0 N' (.inl rfl) fun b o hb e => hk₂ b o (by simpa using hb) e
      refine ⟨m', hn'.at' fun o e => hk₂ _ o (by simpa using Ne.symm hCI) e, fun h'' hs'' => fin ys (n0 + 1) h'' tk₂ hinv (F₂.change hs'' hCL hC₀) (oldN h₂ h'' ys (n0 + 1 + 1) N₂ (.inr (.inl rfl)) hs''.extBut) off3.one⟩
  exact codeAny_compStart_list (loop _ rfl) (W.self 0 _ _ _ hst₁ (loop _ rfl))
theorem SrcPT.intro {ct elt : Expr} {x x₂ : Str} {scope : Scope} {cl : List (Str × Addr)} {Q : Value → Shared → Prop} {s₁ : Shared} {ax : Addr} {vs : List Value} {k : Nat} {news : List (Addr × Obj)} (Inv : Nat → List Value → Prop) (hh : A.handled = none) (F : Fr h₀ L s₁.heap m) (N : News h₀ L s₁.heap news) (hm : (ax, lobj vs k) ∈ news) (hsz : vs.length ≤ sizeLine) (h0 : Inv 0 [])
    (turn : ∀ i ys v, vs[i]? = some v → Inv i ys → ∃ t v₁ v₂, v = .ref t ∧ (t, ({ cls := .type "tuple", data := .seq #[v₁, v₂] } : Obj)) ∈ news ∧
      ∀ I oI C oC D m₂ h tk (E' : Value → Shared → Prop), NsObj oC m₂ → m₂ x = some v₁ → m₂ x₂ = some v₂ → Fr h₀ L h m → News h₀ L h ((I, oI) :: (C, oC) :: (D, lst ys) :: news) → Off3 I C D news → ((@Ne Nat I C) ∧ (@Ne Nat I D) ∧ (@Ne Nat C D)) →
        wpAny (model prog w) A (isTrue ct (compEnvC scope cl C env) (eval ct (compEnvC scope cl C env))) (fun ok s' => if ok = true then
          wpAny (model prog w) A (eval elt (compEnvC scope cl C env)) (fun y s'' => TurnE h₀ L m s₁ ((I, oI) :: (C, oC) :: (D, lst ys) :: news) (Inv (i + 1) (ys ++ [y])) s'') E' s'
          else TurnE h₀ L m s₁ ((I, oI) :: (C, oC) :: (D, lst ys) :: news) (Inv (i + 1) ys) s') E' { s₁ with heap := h, toks := tk })
    (fin : ∀ ys D h tk, Inv vs.length ys → Fr h₀ L h m → News h₀ L h ((D, lst ys) :: news) → Off1 D news → Q (.ref D) { s₁ with heap := h, toks := tk }) :
    SrcPT prog w A h₀ L m env ct elt x x₂ scope cl Q (.ref ax) s₁ := ⟨ax, vs, k, news, Inv, rfl, hh, F, N, hm, hsz, h0, turn, fin⟩
end
end Mine
end K1

section EqS
open PySem PySem.W PyProof.Rows
set_option maxRecDepth 100000
namespace Mine
open PySem.Calls PyProof.V PySem.Spec
theorem es_canLay : ∀ ns : List Str, (∀ n ∈ ns, PyData.strOk n = true) → PyData.canLayAll0 (ns.map PyData.str) = true
  | [], _ => rfl
  | a :: r, h => by simp [PyData.canLayAll0, PyData.canLay0, es_canLay r fun n hn => h n (.tail _ hn), h a (.head _)]
theorem es_depth : ∀ ns : List Str, PyData.depthAll (ns.map PyData.str) = 0
  | [] => rfl
  | _ :: r => by simp [PyData.depthAll, PyData.depth, es_depth r]
theorem es_shaped (ns : List Str) (h : ∀ n ∈ ns, PyData.strOk n = true) : SeqAt.shaped (.list (ns.map PyData.str)) = true := by
  simp [SeqAt.shaped, PyData.canLay0, PyData.depth, es_canLay ns h, es_depth]
theorem es_sameAll : ∀ ns : List Str, PySem.Spec.sameAll (ns.map PyData.str) (ns.map PyData.str) = true
  | [] => by simp [PySem.Spec.sameAll]
  | a :: r => by simp [PySem.Spec.sameAll, PySem.Spec.same, es_sameAll r]
theorem es_same (ns : List Str) : PySem.Spec.same (.list (ns.map PyData.str)) (.list (ns.map PyData.str)) = true := by
  simp only [PySem.Spec.same]; exact es_sameAll ns
section
variable {prog : Program} {w : World} {A : Around} {E : Value → Shared → Prop} {s : Shared} {a b : Addr} {xs ys : List Value} {ns : List Str} {Q : Value → Shared → Prop}
theorem eq_strs (ha : s.heap.IsList a xs.toArray) (hb : s.heap.IsList b ys.toArray) (hk : ∀ n ∈ ns, PyData.strOk n = true) (hi : StrsAre xs ns) (hj : StrsAre ys ns) (hu : A.units + 64 < cLine) (h : Q (.bool true) s) :
    wpAny (model prog w) A (compareOp .Eq (.ref a) (.ref b)) Q E s :=
  eq_dataH_same (reads_newData ha hi.carried) (reads_newData hb hj.carried) (es_shaped _ hk) (es_shaped _ hk) hu (SeqAt.noMix_of_shape (.list .str) rfl _ _ (list_map_has fun _ => rfl) (list_map_has fun _ => rfl)) (by rw [es_same]; exact h)
theorem ne_strs (ha : s.heap.IsList a xs.toArray) (hb : s.heap.IsList b ys.toArray) (hk : ∀ n ∈ ns, PyData.strOk n = true) (hi : StrsAre xs ns) (hj : StrsAre ys ns) (hu : A.units + 64 < cLine) (h : Q (.bool false) s) :
    wpAny (model prog w) A (compareOp .NotEq (.ref a) (.ref b)) Q E s :=
  ne_dataH_same (reads_newData ha hi.carried) (reads_newData hb hj.carried) (es_shaped _ hk) (es_shaped _ hk) hu (SeqAt.noMix_of_shape (.list .str) rfl _ _ (list_map_has fun _ => rfl) (list_map_has fun _ => rfl)) (by rw [es_same]; exact h)
end
end Mine
end EqS

section LB
open PySem PySem.W PyProof.Rows
namespace Mine
open PySem.Calls Builtin Builtin.ObjectAttr
set_option maxRecDepth 100000
set_option maxHeartbeats 1600000
theorem k_diter : builtinKind "dict.__iter__" = some .slot := by decide +kernel
theorem s_diter : splitId "dict.__iter__" = some ("dict", "__iter__") := by decide +kernel
theorem k_dlen : builtinKind "dict.__len__" = some .slot := by decide +kernel
theorem s_dlen : splitId "dict.__len__" = some ("dict", "__len__") := by decide +kernel
abbrev keyIt (bx i n ep : Nat) : Obj := { cls := .type "dict_keyiterator", data := .fields #[.ref bx, .int i 0, .int n 0, .int ep 0] }
section
variable {w : World} {prog : Program} {A : Around} {E : Value → Shared → Prop} {h : Heap} {g : Array GenState} {d : Drawn} {t : Nat} {os : OsState} {R : Result → Shared → Prop} {bx dx : Addr} {B : List (Str × Tok × Addr)} {n : Nat}
theorem lk_iter (X : (hd.heap_39 w.params).In h) : Looks (model prog w) h (typeLookup (.ref 122) "__iter__") (some (.builtin "dict.__iter__")) :=
  looks_findIn X (by kernel_rfl)
theorem lk_len (X : (hd.heap_39 w.params).In h) : Looks (model prog w) h (typeLookup (.ref 122) "__len__") (some (.builtin "dict.__len__")) :=
  looks_findIn X (by kernel_rfl)
theorem lk_ord (X : (hd.heap_39 w.params).In h) : Looks (model prog w) h (isSubtype (.ref 122) (.type "collections.OrderedDict")) false :=
  Looks.of_peek X (by kernel_rfl)
theorem di_bind (self : Value) : bindSpecial (.builtin "dict.__iter__") self = pure (.builtin "dict.__iter__", [self]) := by
  have hop : withoutEnding? "dict.__iter__" "#opaque" = none := by decide +kernel
  have hdat : withoutEnding? "dict.__iter__" "#data" = none := by decide +kernel
  simp only [bindSpecial, typeOf, builtinType, hop, hdat, k_diter]; rfl
theorem dl_bind (self : Value) : bindSpecial (.builtin "dict.__len__") self = pure (.builtin "dict.__len__", [self]) := by
  have hop : withoutEnding? "dict.__len__" "#opaque" = none := by decide +kernel
  have hdat : withoutEnding? "dict.__len__" "#data" = none := by decide +kernel
  simp only [bindSpecial, typeOf, builtinType, hop, hdat, k_dlen]; rfl
theorem diter_code (X : (hd.heap_39 w.params).In h) (hx : h.get? bx = some (ddObj dx (ents w B) n)) (hs : (bx == sysModules) = false)
    (hq : R (.ok (.ret (.ref h.objs.size))) ⟨h.push (keyIt bx 0 B.length n), g, d, t, os⟩) :
    codeAny (model prog w) A (.call (.builtin "dict.__iter__") ⟨[.ref bx], []⟩) R ⟨h, g, d, t, os⟩ := by
  have q1 : (Code.builtin "dict.__iter__" ⟨[.ref bx], []⟩).quiet = true := Code.quiet_builtin _ (by decide +kernel)
  have t1 := isI_bk (prog := prog) hx (lk_subd X)
  have t2 := ty_bk (prog := prog) hx
  have t3 := lk_ord (prog := prog) X
  refine codeAny_call_builtin_at q1 F.entry_dict_iter ?_
  refine @check_slot (model prog w) _ _ _ "dict.__iter__" "dict" "__iter__" (.ref bx) [] [] _ k_diter s_diter t1 (F.args_dict_iter_1 _) ?_
  unfold Builtin.«dict.__iter__»
  repeat ((fail_if_success (with_reducible show wpAny _ _ (Builtin.Dict.showsAll _ >>= _) _ _ _)); (fail_if_success (with_reducible show wpAny _ _ (Builtin.Dict.showsAll _) _ _ _)); first | lk)
  unfold Builtin.Dict.showsAll
  rw [if_neg (by rw [hs]; exact Bool.false_ne_true)]
  refine wpAny_bind (wpAny_pure ?_)
  refine wpAny_bind (wpAny_dictEntries hx rfl ?_)
  refine wpAny_bind (wpAny_dictEpoch hx rfl ?_)
  have hsz : (ents w B).size = B.length := by simp [ents]
  refine wpAny_bind (wpAny_newObj_type (wpAny_pure ?_))
  rw [hsz]
  exact hq
theorem pyIter_book {Q : Value → Shared → Prop} (X : (hd.heap_39 w.params).In h) (hx : h.get? bx = some (ddObj dx (ents w B) n)) (hs : (bx == sysModules) = false)
    (hq : Q (.ref h.objs.size) ⟨h.push (keyIt bx 0 B.length n), g, d, t, os⟩) : wpAny (model prog w) A (pyIter (.ref bx)) Q E ⟨h, g, d, t, os⟩ := by
  have t2 := ty_bk (prog := prog) hx
  have l1 := lk_iter (prog := prog) X
  have l2 : Looks (model prog w) h (bindSpecial (.builtin "dict.__iter__") (.ref bx)) (.builtin "dict.__iter__", [.ref bx]) := Looks.of_pure (di_bind _)
  unfold pyIter
  refine wpAny_bind ((t2.andThen l1 : Looks (model prog w) h (specialOf (.ref bx) "__iter__") _).at ?_)
  dsimp only
  refine wpAny_bind ?_
  unfold callSpecialIfBoundUnlessNone? bindSpecialIfBound?
  repeat ((fail_if_success (with_reducible show wpAny _ _ (ite _ _ _) _ _ _)); first | lk)
  refine wpAny_ite_split (fun _ => wpAny_bind (l2.at (wpAny_pure ?_))) (fun _ => wpAny_tryCatch (wpAny_bind (l2.at (wpAny_pure ?_))))
  all_goals
    dsimp only
    simp only [builtin_beq_none, Bool.false_eq_true, if_false]
    refine wpAny_bind (wpAny_call (diter_code X hx hs ?_))
    refine wpAny_pure ?_
    dsimp only
    refine wpAny_bind (wpAny_specialOf (T := "dict_keyiterator") ⟨_, Heap.get?_push_size _ rfl, rfl⟩ F.slot_dict_keyiterator_next.lookup ?_)
    exact wpAny_pure hq
theorem dlen_code (X : (hd.heap_39 w.params).In h) (hx : h.get? bx = some (ddObj dx (ents w B) n)) (hs : (bx == sysModules) = false)
    (hq : R (.ok (.ret (.int (B.length : Int) t))) ⟨h, g, d, t + 1, os⟩) :
    codeAny (model prog w) A (.call (.builtin "dict.__len__") ⟨[.ref bx], []⟩) R ⟨h, g, d, t, os⟩ := by
  have q1 : (Code.builtin "dict.__len__" ⟨[.ref bx], []⟩).quiet = true := Code.quiet_builtin _ (by decide +kernel)
  have t1 := isI_bk (prog := prog) hx (lk_subd X)
  have t2 := ty_bk (prog := prog) hx
  have t3 := lk_ord (prog := prog) X
  have hsz : (ents w B).size = B.length := by simp [ents]
  refine codeAny_call_builtin_at q1 F.entry_dict_len ?_
  refine @check_slot (model prog w) _ _ _ "dict.__len__" "dict" "__len__" (.ref bx) [] [] _ k_dlen s_dlen t1 (F.args_dict_len_1 _) ?_
  unfold Builtin.«dict.__len__»
  repeat ((fail_if_success (with_reducible show wpAny _ _ (dictSize _ >>= _) _ _ _)); (fail_if_success (with_reducible show wpAny _ _ (dictSize _) _ _ _)); first | lk)
  unfold dictSize
  refine wpAny_bind (wpAny_bind (wpAny_dictEntries hx rfl (wpAny_pure ?_)))
  refine wpAny_bind (wpAny_pendingCount_other hs ?_)
  rw [hsz]
  exact wpAny_bind (wpAny_mkInt (wpAny_pure hq))
theorem len_book {Q : Value → Shared → Prop} (X : (hd.heap_39 w.params).In h) (hx : h.get? bx = some (ddObj dx (ents w B) n)) (hs : (bx == sysModules) = false) (hB : B.length ≤ 1000)
    (hq : Q (.int (B.length : Int) (t + 1)) ⟨h, g, d, t + 1 + 1, os⟩) : wpAny (model prog w) A (call (.builtin "len") [.ref bx]) Q E ⟨h, g, d, t, os⟩ := by
  have t2 := ty_bk (prog := prog) hx
  have l1 := lk_len (prog := prog) X
  have l2 : Looks (model prog w) h (bindSpecial (.builtin "dict.__len__") (.ref bx)) (.builtin "dict.__len__", [.ref bx]) := Looks.of_pure (dl_bind _)
  refine call_function_entry kind_len plain_len entry_len (args_len1 _) ?_
  unfold Builtin.«len»
  refine wpAny_bind (m := oneArg "len" _) (wpAny_pure ?_)
  refine wpAny_bind ?_
  unfold callSpecial?
  refine wpAny_bind ((t2.andThen l1 : Looks (model prog w) h (specialOf (.ref bx) "__len__") _).at ?_)
  dsimp only
  refine wpAny_holding (wpAny_bind (l2.at ?_))
  dsimp only
  refine wpAny_bind (wpAny_call (dlen_code X hx hs ?_))
  refine wpAny_pure ?_
  dsimp only
  refine wpAny_bind (wpAny_holding (wpAny_pure ?_))
  refine wpAny_bind (wpAny_letGo ?_)
  show wpAny _ _ (if ((B.length : Nat) : Int) < 0 then _ else _) _ _ _
  rw [if_neg (by omega)]
  show wpAny _ _ (if ((B.length : Nat) : Int) ≥ 2 ^ 63 then _ else _) _ _ _
  rw [if_neg (by omega)]
  exact wpAny_bind (wpAny_mkInt (wpAny_pure ⟨_, rfl, hq⟩))
theorem hint_book {Q : Bool → Shared → Prop} (X : (hd.heap_39 w.params).In h) (hx : h.get? bx = some (ddObj dx (ents w B) n)) (hs : (bx == sysModules) = false) (hB : B.length ≤ 1000)
    (hq : ∀ b k, Q b ⟨h, g, d, k, os⟩) : wpAny (model prog w) A (Builtin.List.listLengthHint (.ref bx)) Q E ⟨h, g, d, t, os⟩ := by
  have t1 := isI_bk (prog := prog) hx (lk_subd X)
  have t2 := ty_bk (prog := prog) hx
  have l1 := lk_len (prog := prog) X
  unfold Builtin.List.listLengthHint
  refine wpAny_bind ((t2.andThen l1 : Looks (model prog w) h (specialOf (.ref bx) "__len__") _).at ?_)
  generalize hid : ("dict.__len__" : String) = id0
  wp_delta
  rw [show splitId id0 = some ("dict", "__len__") from by subst hid; decide +kernel]
  subst hid
  refine wpAny_bind (t1.at ?_)
  refine wpAny_ite_split (fun hab => absurd hab (by decide)) (fun _ => ?_)
  refine wpAny_ite_split (fun _ => ?_) (fun hab => absurd (by decide +kernel) hab)
  refine wpAny_bind (t2.at ?_)
  dsimp only
  refine wpAny_bind (len_book X hx hs hB ?_)
  refine wpAny_bind (wpAny_pure ?_)
  exact wpAny_pure (hq _ _)
theorem next_book {Q : Option Value → Shared → Prop} {I i : Nat} {e : Str × Tok × Addr} (hi : h.IsKeyIter I bx i B.length n) (hx : h.get? bx = some (ddObj dx (ents w B) n)) (he : B[i]? = some e)
    (hq : ∀ h', h'.IsKeyIter I bx (i + 1) B.length n → Heap.SameBut I h h' → Q (some (.str e.1 e.2.1)) ⟨h', g, d, t, os⟩) :
    wpAny (model prog w) A (pyNext (.ref I)) Q E ⟨h, g, d, t, os⟩ := by
  obtain ⟨o, ho, hc, hdt⟩ := id hi
  have hT : (⟨h, g, d, t, os⟩ : Shared).TypeIs (.ref I) "dict_keyiterator" := ⟨o, ho, hc⟩
  have hsz : (ents w B).size = B.length := by simp [ents]
  have hlt : i < B.length := (List.getElem?_eq_some_iff.mp he).1
  have hent : (ents w B)[i]? = some ⟨hashStr w e.1, .str e.1 e.2.1, .ref e.2.2⟩ := by simp [ents, he]
  unfold pyNext
  refine wpAny_bind (wpAny_attempt (wpAny_callSpecial?_slot (name := Str.ofString "__next__") hT F.slot_dict_keyiterator_next
    (wpAny_call_entry F.slot_dict_keyiterator_next hT F.entry_dict_keyiterator_next ?_ (F.args_dict_keyiterator_next_1 _))))
  refine wpAny_bind (wpAny_pure ?_)
  refine wpAny_bind (wpAny_bind (wpAny_bind (wpAny_typeNameOfWhole_keyiter hT (wpAny_pure ?_))))
  refine wpAny_bind (wpAny_fieldsOf ho hdt ?_)
  have hown : Builtin.Dict_items.ownsTuple "dict_keyiterator" = false := by decide
  simp only [hown, Bool.false_eq_true, if_false]
  show wpAny _ _ (if (Value.ref bx == Value.none) = true then _ else _) _ _ _
  rw [if_neg (show ¬ ((Value.ref bx == Value.none) = true) from Bool.false_ne_true)]
  refine wpAny_bind (wpAny_pure (wpAny_bind (wpAny_dictEntries hx rfl ?_)))
  rw [if_neg (by rw [hsz]; simp)]
  refine wpAny_bind (wpAny_pure (wpAny_bind (wpAny_dictEpoch hx rfl ?_)))
  rw [if_neg (by simp)]
  refine wpAny_pure ?_
  simp only [show ¬ ((i : Int) < 0) from by omega, if_false, Int.toNat_natCast, hent]
  refine wpAny_bind (wpAny_bind (wpAny_typeNameOfWhole_keyiter hT (wpAny_pure ?_)))
  refine wpAny_bind (wpAny_isOneOf_keyiter hT ?_)
  show wpAny _ _ (setField (.ref I) 1 (rawInt ((i : Int) + 1)) >>= _) _ _ _
  refine wpAny_bind (wpAny_setField ho hdt (by simp) ?_)
  have hi' : (h.update I (Obj.mapFields (·.setIfInBounds 1 (rawInt ((i : Int) + 1))))).IsKeyIter I bx (i + 1) B.length n :=
    ⟨_, Heap.get?_update_self _ ho (Obj.isFreed_of_fields (Obj.data_mapFields hdt _)), (Obj.cls_mapFields ..).trans hc, by rw [Obj.data_mapFields hdt]; simp [rawInt]⟩
  refine wpAny_bind (wpAny_holding ?_)
  refine wpAny_bind (wpAny_isOneOf_keyiter (s := ⟨h.update I (Obj.mapFields (·.setIfInBounds 1 (rawInt ((i : Int) + 1)))), g, d, t, os⟩) hi'.typeIs ?_)
  exact wpAny_pure (wpAny_pure ⟨_, rfl, wpAny_pure (hq _ hi' (Heap.SameBut.update ..))⟩)
theorem end_book {Q : Option Value → Shared → Prop} {I : Nat} (hh : A.handled = none) (hi : h.IsKeyIter I bx B.length B.length n) (hx : h.get? bx = some (ddObj dx (ents w B) n))
    (hq : ∀ h', Heap.ExtBut I h h' → Q none ⟨h', g, d, t, os⟩) :
    wpAny (model prog w) A (pyNext (.ref I)) Q E ⟨h, g, d, t, os⟩ := by
  obtain ⟨o, ho, hc, hdt⟩ := id hi
  have hT : (⟨h, g, d, t, os⟩ : Shared).TypeIs (.ref I) "dict_keyiterator" := ⟨o, ho, hc⟩
  have hsz : (ents w B).size = B.length := by simp [ents]
  have hent : (ents w B)[B.length]? = none := by simp [ents]
  unfold pyNext
  refine wpAny_bind (wpAny_attempt (wpAny_callSpecial?_slot (name := Str.ofString "__next__") hT F.slot_dict_keyiterator_next
    (wpAny_call_entry F.slot_dict_keyiterator_next hT F.entry_dict_keyiterator_next ?_ (F.args_dict_keyiterator_next_1 _))))
  refine wpAny_bind (wpAny_pure ?_)
  refine wpAny_bind (wpAny_bind (wpAny_bind (wpAny_typeNameOfWhole_keyiter hT (wpAny_pure ?_))))
  refine wpAny_bind (wpAny_fieldsOf ho hdt ?_)
  have hown : Builtin.Dict_items.ownsTuple "dict_keyiterator" = false := by decide
  simp only [hown, Bool.false_eq_true, if_false]
  show wpAny _ _ (if (Value.ref bx == Value.none) = true then _ else _) _ _ _
  rw [if_neg (show ¬ ((Value.ref bx == Value.none) = true) from Bool.false_ne_true)]
  refine wpAny_bind (wpAny_pure (wpAny_bind (wpAny_dictEntries hx rfl ?_)))
  rw [if_neg (by rw [hsz]; simp)]
  refine wpAny_bind (wpAny_pure (wpAny_bind (wpAny_dictEpoch hx rfl ?_)))
  rw [if_neg (by simp)]
  refine wpAny_pure ?_
  simp only [show ¬ ((B.length : Int) < 0) from by omega, if_false, Int.toNat_natCast, hent]
  refine wpAny_bind (wpAny_bind (wpAny_typeNameOfWhole_keyiter hT (wpAny_pure ?_)))
  show wpAny _ _ (setField (.ref I) 0 .none >>= _) _ _ _
  refine wpAny_bind (wpAny_setField ho hdt (by simp) ?_)
  show wpAny _ _ (newExc (.type "StopIteration") [] >>= _) _ _ _
  refine wpAny_bind ?_
  simp only [newExc, newTuple]
  refine wpAny_bind (wpAny_newObj_type ?_ (by size_fits))
  refine wpAny_bind (m := firstArgMember _ _) (wpAny_of_eq (a := Value.none) (by first | rfl | (simp only [firstArgMember]; rfl)) ?_)
  refine wpAny_newObj_type ?_ (by size_fits)
  simp only [raiseNew]
  refine wpAny_bind (wpAny_handled ?_)
  rw [show A.in1.handled = none from hh]
  refine wpAny_bind (wpAny_pure (wpAny_throw ?_))
  refine wpAny_bind (wpAny_isInstance (T := "StopIteration") (b := true) ⟨_, Heap.get?_push_size _ rfl, rfl⟩ isSubtype_stop ?_)
  exact wpAny_pure (hq _ (((Heap.SameBut.update ..).extBut.push _).push _))
theorem walks_book (hh : A.handled = none) (I : Nat) (hne : bx ≠ I) : Walks prog w A I [I, bx] [I] B.length (fun i v => ∃ e, B[i]? = some e ∧ v = .str e.1 e.2.1) (fun i h => h.IsKeyIter I bx i B.length n ∧ h.get? bx = some (ddObj dx (ents w B) n)) where
  sub := fun b hb => by simp at hb; simp [hb]
  frame := fun _ _ _ st hk => ⟨st.1.at fun o e => hk I (by simp) o e, hk bx (by simp) _ st.2⟩
  item := fun i s Q E hi st hQ => by
    have he : B[i]? = some B[i] := by simp [hi]
    refine next_book st.1 st.2 he fun h' hit' hs' => ?_
    exact hQ _ h' s.toks ⟨_, he, rfl⟩ ⟨hit', hs'.extBut _ _ hne st.2⟩ fun b o hb e => hs'.extBut b o (fun h => hb (by simp [h])) e
  done := fun s Q E st hQ => end_book hh st.1 st.2 fun h' he' => hQ h' s.toks fun b o hb e => he' b o (fun h => hb (by simp [h])) e
  self := fun _ _ _ _ st hQ => wpAny_pyIter_keyiter st.1 hQ
theorem extend_book {S : Addr} {res : Value} {c₀ : Nat} (X : (hd.heap_39 w.params).In h) (hx : h.get? bx = some (ddObj dx (ents w B) n)) (hs : (bx == sysModules) = false) (hB : B.length ≤ 1000) (hh : A.handled = none) (hSx : S ≠ bx)
    (hS : h.get? S = some { cls := .type "list", data := .seq #[] c₀ }) (hL : ∀ h' : Heap, (∀ b o, b ≠ S → h.get? b = some o → h'.get? b = some o) → (hd.heap_39 w.params).In h')
    (hR : ∀ h' tk acc' c', (∀ b o, b ≠ S → h.get? b = some o → h'.get? b = some o) → h'.get? S = some { cls := .type "list", dict := none, data := .seq acc' c', slots := #[] } → ItemsOf (fun i v => ∃ e, B[i]? = some e ∧ v = .str e.1 e.2.1) acc' B.length → R (.ok (.ret res)) ⟨h', g, d, tk, os⟩) :
    wpAny (model prog w) A.in1 (Builtin.List.listExtendWith (.ref S) (.ref bx) res)
      (fun fin s' => match fin with | .done f => R (.ok f) s' | .again c' => c'.quiet = true ∧ codeAny (model prog w) A c' R s') (fun e s' => R (.error e) s') ⟨h, g, d, t, os⟩ := by
  have t2 := ty_bk (prog := prog) hx
  have hSI : S ≠ h.objs.size := Nat.ne_of_lt (Heap.lt_size hS)
  have hxI : bx ≠ h.objs.size := Nat.ne_of_lt (Heap.lt_size hx)
  have hSf : S ∉ [h.objs.size, bx] := by simp only [List.mem_cons, List.not_mem_nil, or_false, not_or]; exact ⟨hSI, hSx⟩
  have W := walks_book (prog := prog) (w := w) (A := A.in1) (B := B) (n := n) (dx := dx) hh h.objs.size hxI
  have key : ∀ (h2 : Heap) (c₁ tk : Nat), (h2.IsKeyIter h.objs.size bx 0 B.length n ∧ h2.get? bx = some (ddObj dx (ents w B) n)) → (∀ b o, b ≠ S → h.get? b = some o → h2.get? b = some o) →
      h2.get? S = some { cls := .type "list", data := .seq #[] c₁ } → codeAny (model prog w) A (.builtin "list.extend.loop" ⟨[.ref S, .ref h.objs.size, res], []⟩) R ⟨h2, g, d, tk, os⟩ := by
    intro h2 c₁ tk hst hk hS₁
    refine codeAny_extend_loopS W.toS (Nat.le_trans hB (by decide)) S hSf res B.length 0 _ #[] c₁ rfl (Nat.zero_le _) hst hS₁ (ItemsOf.nil _) fun s' acc' c' hm hS' hacc => ?_
    rw [Moved.eq_with hm]
    refine hR s'.heap s'.toks acc' c' (fun b o hb e => hm.heap b o (fun hmem => ?_) (hk b o hb e)) hS' hacc
    rcases List.mem_cons.mp hmem with e' | hmem
    · exact hb e'
    · exact absurd (Heap.lt_size e) (by rw [List.mem_singleton.mp hmem]; exact Nat.lt_irrefl _)
  unfold Builtin.List.listExtendWith
  refine wpAny_bind (t2.at ?_)
  have h1 : Builtin.List.listSameRef (.ref S) (.ref bx) = false := by simp [Builtin.List.listSameRef, hSx]
  have h2 : (Value.ref 122 == Value.type "list") = false := rfl
  have h3 : (Value.ref 122 == Value.type "tuple") = false := rfl
  simp only [h1, h2, h3, Bool.or_false, Bool.false_eq_true, if_false]
  refine wpAny_bind (pyIter_book X hx hs ?_)
  have hS₁ := Heap.get?_push_of_some (keyIt bx 0 B.length n) hS
  have hst : (h.push (keyIt bx 0 B.length n)).IsKeyIter h.objs.size bx 0 B.length n ∧ (h.push (keyIt bx 0 B.length n)).get? bx = some (ddObj dx (ents w B) n) := ⟨⟨_, Heap.get?_push_size _ rfl, rfl, rfl⟩, Heap.get?_push_of_some _ hx⟩
  refine wpAny_bind (wpAny_holding (hint_book (hL _ fun b o _ e => Heap.get?_push_of_some _ e) hst.2 hs hB fun bb kk => ?_))
  refine wpAny_ite_split (fun _ => ?_) (fun _ => wpAny_pure ⟨plainId_quiet PySem.F.plain_extend_loop _, key _ c₀ _ hst (fun b o _ e => Heap.get?_push_of_some _ e) hS₁⟩)
  refine wpAny_bind (wpAny_rule ?_)
  refine wpAny_bind ?_
  show wpAny _ _ (updateSeq S (·.push .none) >>= fun _ => updateSeq S (·.pop)) _ _ _
  refine wpAny_bind (wpAny_updateSeq hS₁ rfl ?_)
  have hS₂ := Heap.get?_update_self (Obj.mapSeq (·.push Value.none)) hS₁ rfl
  refine wpAny_updateSeq (hz := by seq_fits) hS₂ rfl ?_
  have hS₃ := Heap.get?_update_self (Obj.mapSeq (·.pop)) hS₂ rfl
  have oth : ∀ b o, b ≠ S → (h.push (keyIt bx 0 B.length n)).get? b = some o → (((h.push (keyIt bx 0 B.length n)).update S (Obj.mapSeq (·.push Value.none))).update S (Obj.mapSeq (·.pop))).get? b = some o := fun b o hb e =>
    (Heap.get?_update_other _ _ (Ne.symm hb)).trans ((Heap.get?_update_other _ _ (Ne.symm hb)).trans e)
  refine wpAny_pure ⟨plainId_quiet PySem.F.plain_extend_loop _, key _ _ _ ?_ (fun b o hb e => oth b o hb (Heap.get?_push_of_some _ e)) hS₃⟩
  exact W.frame 0 _ _ hst fun b hb o e => oth b o (fun q => hSf (q ▸ hb)) e
theorem init_book {S : Addr} (_X : (hd.heap_39 w.params).In h) (hx : h.get? bx = some (ddObj dx (ents w B) n)) (hs : (bx == sysModules) = false) (hB : B.length ≤ 1000) (hh : A.handled = none) (hSx : S ≠ bx)
    (hS : h.get? S = some { cls := .type "list", data := .seq #[] }) (hL : ∀ h' : Heap, (∀ b o, b ≠ S → h.get? b = some o → h'.get? b = some o) → (hd.heap_39 w.params).In h')
    (hR : ∀ h' tk acc' c', (∀ b o, b ≠ S → h.get? b = some o → h'.get? b = some o) → h'.get? S = some { cls := .type "list", dict := none, data := .seq acc' c', slots := #[] } → ItemsOf (fun i v => ∃ e, B[i]? = some e ∧ v = .str e.1 e.2.1) acc' B.length → R (.ok (.ret .none)) ⟨h', g, d, tk, os⟩) :
    wpAny (model prog w) A.in1 (Builtin.«list.__init__» ⟨[.ref S, .ref bx], []⟩)
      (fun fin s' => match fin with | .done f => R (.ok f) s' | .again c' => c'.quiet = true ∧ codeAny (model prog w) A c' R s') (fun e s' => R (.error e) s') ⟨h, g, d, t, os⟩ := by
  show wpAny _ _ (do let old ← Builtin.List.listItems (.ref S); Builtin.List.listUpdate (.ref S) (fun _ => #[]); letGo old.toList.reverse; Builtin.List.listExtendWith (.ref S) (.ref bx) .none) _ _ _
  refine wpAny_bind ?_
  unfold Builtin.List.listItems
  refine wpAny_bind (wpAny_seqItems hS rfl (wpAny_pure ?_))
  show wpAny _ _ (updateSeq S (fun _ => #[]) >>= fun _ => letGo (#[] : Array Value).toList.reverse >>= fun _ => Builtin.List.listExtendWith (.ref S) (.ref bx) .none) _ _ _
  refine wpAny_bind (wpAny_updateSeq hS rfl ?_)
  have hS₂ := Heap.get?_update_self (Obj.mapSeq (fun _ => (#[] : Array Value))) hS rfl
  have oth : ∀ b o, b ≠ S → h.get? b = some o → (h.update S (Obj.mapSeq (fun _ => (#[] : Array Value)))).get? b = some o :=
    fun b o hb e => (Heap.get?_update_other _ _ (Ne.symm hb)).trans e
  refine wpAny_bind (wpAny_letGo ?_)
  exact extend_book (hL _ oth) (oth _ _ (Ne.symm hSx) hx) hs hB hh hSx hS₂ (fun h' hk => hL h' fun b o hb e => hk b o hb (oth b o hb e)) (fun h' tk acc' c' hk hS' hacc => hR h' tk acc' c' (fun b o hb e => hk b o hb (oth b o hb e)) hS' hacc)
theorem list_book {Q : Value → Shared → Prop} (X : (hd.heap_39 w.params).In h) (hx : h.get? bx = some (ddObj dx (ents w B) n)) (hs : (bx == sysModules) = false) (hB : B.length ≤ 1000) (hh : A.handled = none)
    (hQ : ∀ h' tk acc' c', (∀ b o, h.get? b = some o → h'.get? b = some o) → h'.get? h.objs.size = some { cls := .type "list", dict := none, data := .seq acc' c', slots := #[] } → ItemsOf (fun i v => ∃ e, B[i]? = some e ∧ v = .str e.1 e.2.1) acc' B.length → Q (.ref h.objs.size) ⟨h', g, d, tk, os⟩) :
    wpAny (model prog w) A (call (.type "list") [.ref bx]) Q E ⟨h, g, d, t, os⟩ := by
  refine callType_codes (Q₁ := fun obj s₁ => obj = .ref h.objs.size ∧ s₁ = ⟨h.push { cls := .type "list", data := .seq #[] }, g, d, t, os⟩) PySem.F.called_list (PySem.F.typeCall_list_1 _) PySem.F.entry_list_init
    (code_list_new _ ⟨rfl, rfl⟩) fun obj s₁ h₁ => ?_
  obtain ⟨rfl, rfl⟩ := h₁
  have hS : (h.push { cls := .type "list", data := .seq #[] }).get? h.objs.size = some { cls := .type "list", data := .seq #[] } := Heap.get?_push_size _ rfl
  have up : ∀ b o, h.get? b = some o → (h.push { cls := .type "list", data := .seq #[] }).get? b = some o := fun b o e => Heap.get?_push_of_some _ e
  refine ⟨⟨_, hS, rfl⟩, PySem.F.args_list_init_2 _ _, init_book (A := A.in1) (X.keeps up) (up _ _ hx) hs hB hh (Nat.ne_of_gt (Heap.lt_size hx)) hS (fun h' hk => X.keeps fun b o e => hk b o (Nat.ne_of_lt (Heap.lt_size e)) (up b o e)) (fun h' tk acc' c' hk hS' hacc => ?_)⟩
  exact ⟨rfl, hQ h' tk acc' c' (fun b o e => hk b o (Nat.ne_of_lt (Heap.lt_size e)) (up b o e)) hS' hacc⟩
theorem book_keys {acc : List Value} : ∀ {B : List (Str × Tok × Addr)}, acc.length = B.length → (∀ (i : Nat) v, acc[i]? = some v → ∃ e, B[i]? = some e ∧ v = .str e.1 e.2.1) → StrsAre acc (B.map (·.1)) := by
  induction acc with
  | nil => intro B hl _; cases B with
    | nil => exact .nil
    | cons _ _ => cases hl
  | cons v r ih => intro B hl hi; cases B with
    | nil => cases hl
    | cons e B =>
      obtain ⟨e', he, rfl⟩ := hi 0 v rfl
      cases he
      exact .cons _ _ (ih (by simpa using hl) fun i v hv => hi (i + 1) v (by simpa using hv))
theorem list_bookN {Q : Value → Shared → Prop} {s : Shared} {h₀ : Heap} {L : Addr} {m : Str → Option Value} {news : List (Addr × Obj)} (X₀ : (hd.heap_39 w.params).In h₀) (F : Fr h₀ L s.heap m) (N : News h₀ L s.heap news) (hm : (bx, ddObj dx (ents w B) n) ∈ news) (hs : (bx == sysModules) = false) (hB : B.length ≤ 1000) (hh : A.handled = none)
    (hQ : ∀ (D : Addr) c h' tk (vs : List Value), Fr h₀ L h' m → News h₀ L h' ((D, lobj vs c) :: news) → (∀ q ∈ news, q.1 < D) → StrsAre vs (B.map (·.1)) → Q (.ref D) { s with heap := h', toks := tk }) :
    wpAny (model prog w) A (call (.type "list") [.ref bx]) Q E s := by
  have X := X₀.keeps F.keep
  obtain ⟨h, g, d, t, os⟩ := s
  refine list_book X (N _ hm).1 hs hB hh fun h' tk acc' c' hk hD hacc => hQ _ c' h' tk acc'.toList (F.keeps hk) (news_pushed F N hk (by first | (rw [Array.toArray_toList]; exact hD) | simpa using hD) rfl) (fun q hq => Heap.lt_size (N q hq).1) ?_
  exact book_keys (by rw [Array.length_toList]; exact hacc.1) fun j v e => hacc.2 j v (by rw [← Array.getElem?_toList]; exact e)
end
end Mine
end LB

section P5
open PySem PySem.W PyProof.Rows
namespace Mine
theorem pats_take {R : List (Str × Str)} {j : Nat} {who pat n : Str} (h : R[j]? = some (who, pat)) : patsOf (R.take (j + 1)) n = if who == n then patsOf (R.take j) n ++ [pat] else patsOf (R.take j) n := by
  rw [List.take_add_one, h]
  exact patsOf_snoc _ _ _ _
theorem pats_hit {R : List (Str × Str)} {j : Nat} {who pat n : Str} {ys : List Value} {t : Tok} (h : R[j]? = some (who, pat)) (e : (who == n) = true) (hy : StrsAre ys (patsOf (R.take j) n)) : StrsAre (ys ++ [.str pat t]) (patsOf (R.take (j + 1)) n) := by
  rw [pats_take h, if_pos e]
  exact hy.append' (.cons _ _ .nil)
theorem pats_miss {R : List (Str × Str)} {j : Nat} {who pat n : Str} {ys : List Value} (h : R[j]? = some (who, pat)) (e : (who == n) = false) (hy : StrsAre ys (patsOf (R.take j) n)) : StrsAre ys (patsOf (R.take (j + 1)) n) := by
  rw [pats_take h, if_neg (by simp [e])]
  exact hy
theorem pats_of {R : List (Str × Str)} {n p : Str} (hg : ∀ r ∈ R, GoodRule r) (h : p ∈ patsOf R n) : p.length ≤ 16 ∧ PyData.strOk p = true := by
  unfold patsOf at h
  obtain ⟨r, hr, rfl⟩ := List.mem_map.mp h
  exact (hg r (List.mem_filter.mp hr).1).2
end Mine
end P5

section P6
open PySem PySem.W PyProof.Rows
set_option maxRecDepth 100000
namespace Mine
open PySem.Calls LCt LCg LCp
theorem names_add (n p : Str) : ∀ G : List (Str × List Str), (addG G n p).map (·.1) = if (G.map (·.1)).any (· == n) then G.map (·.1) else G.map (·.1) ++ [n]
  | [] => by simp [addG]
  | g :: r => by
    have ih := names_add n p r
    unfold addG
    by_cases h : (g.1 == n) = true
    · simp [h]
    · rw [if_neg h, List.map_cons, ih]
      simp only [List.map_cons, List.any_cons, h, Bool.false_or]
      split <;> rfl
theorem firsts_take {R : List (Str × Str)} {j : Nat} {who pat : Str} (h : R[j]? = some (who, pat)) : firsts (R.take (j + 1)) = if (firsts (R.take j)).any (· == who) then firsts (R.take j) else firsts (R.take j) ++ [who] := by
  unfold firsts
  rw [bookOf_take h]
  exact names_add _ _ _
theorem firsts_any (n : Str) {R : List (Str × Str)} : ∀ j, j ≤ R.length → (firsts (R.take j)).any (· == n) = ((R.take j).map (·.1)).any (· == n) := by
  intro j
  induction j with
  | zero => intro _; rfl
  | succ j ih =>
    intro hj
    have hj' : j < R.length := hj
    have e : R[j]? = some (R[j].1, R[j].2) := by simp [hj']
    have ih' := ih (Nat.le_of_lt hj')
    rw [firsts_take e]
    have e2 : (R.take (j + 1)).map (·.1) = (R.take j).map (·.1) ++ [R[j].1] := by rw [List.take_add_one, e]; simp
    rw [e2, List.any_append, ← ih']
    split
    · rename_i hq
      by_cases hn : (R[j].1 == n) = true
      · have : R[j].1 = n := eq_of_beq hn
        rw [this] at hq
        rw [hq]; simp
      · simp [hn]
    · rw [List.any_append]
theorem firsts_new {R : List (Str × Str)} {j : Nat} {who pat : Str} {ys : List Value} {t : Tok} (h : R[j]? = some (who, pat)) (e : (((R.take j).map (·.1)).any (· == who)) = false) (hy : StrsAre ys (firsts (R.take j))) : StrsAre (ys ++ [.str who t]) (firsts (R.take (j + 1))) := by
  have hj : j < R.length := (List.getElem?_eq_some_iff.mp h).1
  rw [firsts_take h, firsts_any _ _ (Nat.le_of_lt hj), e]
  exact hy.append' (.cons _ _ .nil)
theorem firsts_old {R : List (Str × Str)} {j : Nat} {who pat : Str} {ys : List Value} (h : R[j]? = some (who, pat)) (e : (((R.take j).map (·.1)).any (· == who)) = true) (hy : StrsAre ys (firsts (R.take j))) : StrsAre ys (firsts (R.take (j + 1))) := by
  have hj : j < R.length := (List.getElem?_eq_some_iff.mp h).1
  rw [firsts_take h, firsts_any _ _ (Nat.le_of_lt hj), e]
  exact hy
theorem book_names : ∀ {C : List BEnt} {G : List (Str × List Str)}, BookIs C G → (eB C).map (·.1) = G.map (·.1)
  | _, _, .nil => rfl
  | _, _, .cons _ r => by
    have := book_names r
    simp only [eB, List.map_cons, List.map_map] at this ⊢
    rw [this]
theorem firsts_in {R : List (Str × Str)} {n : Str} (h : n ∈ firsts R) : n ∈ R.map (·.1) := by
  have h1 := firsts_any n (R := R) R.length (Nat.le_refl _)
  rw [List.take_length] at h1
  have h2 : (firsts R).any (· == n) = true := List.any_eq_true.mpr ⟨n, h, beq_self_eq_true _⟩
  rw [h2] at h1
  obtain ⟨x, hx, he⟩ := List.any_eq_true.mp h1.symm
  rw [← eq_of_beq he]; exact hx
theorem firsts_ok {R : List (Str × Str)} (hg : ∀ r ∈ R, GoodRule r) : ∀ n ∈ firsts R, PyData.strOk n = true := fun n hn => by
  obtain ⟨r, hr, rfl⟩ := List.mem_map.mp (firsts_in hn)
  exact names_ok (hg r hr).1
theorem slice_take (vs : List Value) (k : Nat) : (slicePick vs.toArray none (some (k : Int)) none).toList = vs.take k := by
  have e : sliceBounds none (some (k : Int)) none vs.toArray.size = (((0 : Nat) : Int), ((min k vs.toArray.size : Nat) : Int), 1) := by
    simp only [sliceBounds, Option.getD_none, show (1 : Int) > 0 by decide, if_true, if_neg (show ¬ ((k : Int) < 0) by omega)]
    congr 1
    congr 1
    omega
  rw [kmk_pick_nat _ e]
  show (vs.drop 0).take (min k vs.toArray.size - 0) = _
  rw [List.drop_zero, Nat.sub_zero, List.size_toArray, kmk_take_min]
theorem slice_row {prog : Program} {w : World} {A : Around} {E : Value → Shared → Prop} {h : Heap} {g : Array GenState} {d : Drawn} {t : Nat} {os : OsState} {h₀ : Heap} {L l : Addr} {m : Str → Option Value} {news : List (Addr × Obj)} {value slice : Expr} {vs : List Value} {vl vu : Value} {n k : Nat} {Q : Value → Shared → Prop}
    (F : Fr h₀ L h m) (N : News h₀ L h news) (hm : (l, lobj vs n) ∈ news) (pl : IsPart vl none) (pu : IsPart vu (some (k : Int))) (hz : vs.length ≤ 100)
    (hq : ∀ D h', Fr h₀ L h' m → News h₀ L h' ((D, lobj (vs.take k) 0) :: news) → (∀ p ∈ news, p.1 < D) → Q (.ref D) ⟨h', g, d, t, os⟩)
    (hs : subscripted slice false (.ref l) (.ref h.objs.size) = operate [.ref h.objs.size, .ref l] (getItem (.ref l) (.ref h.objs.size))) (ht : ∀ r, letTemporaryGo value (.ref l) r = pure ()) :
    wpAny (model prog w) A (subscriptTail value slice (.ref l) (.ref h.objs.size)) Q E ⟨h.push { cls := .type "slice", data := .fields #[vl, vu, .none] }, g, d, t, os⟩ :=
  kmk_slice_lit (s := ⟨h, g, d, t, os⟩) F N (lobj_list (s := ⟨h, g, d, t, os⟩) N hm) pl pu (slice_take vs k) hq hs ht (by rw [List.size_toArray]; exact Nat.le_trans hz (by decide))
theorem item_at {prog : Program} {w : World} {A : Around} {E : Value → Shared → Prop} {s : Shared} {h₀ : Heap} {L l : Addr} {news : List (Addr × Obj)} {n : Nat} {u : Tok} {value slice : Expr} {its : List Value} {k : Nat} {v : Value} {Q : Value → Shared → Prop}
    (N : News h₀ L s.heap news) (hm : (l, lobj its n) ∈ news) (h1 : k < 1000) (hx : its[k]? = some v) (h : Q v s)
    (hs : subscripted slice false (.ref l) (.int (k : Int) u) = operate [.ref l, .int (k : Int) u] (getItem (.ref l) (.int (k : Int) u)) := by with_unfolding_all rfl) : wpAny (model prog w) A (subscriptTail value slice (.ref l) (.int (k : Int) u)) Q E s :=
  item_led N hm (by omega) (by omega) (by simpa using hx) h hs
section
variable {prog : Program} {w : World} {A : Around} {E : Value → Shared → Prop} {s : Shared} {h₀ : Heap} {L : Addr} {m : Str → Option Value} {env : Env}
theorem CompRestP_inv {elt : Expr} {x x₂ : Str} {scope : Scope} {cl : List (Str × Addr)} {S : List (Addr × Obj) → Prop} {P : Nat → Value → Prop} {Fin : List Value → List (Addr × Obj) → Prop} {news : List (Addr × Obj)} {n : Nat}
    (Inv : Nat → List Value → Prop) (hS : S news) (h0 : Inv 0 [])
    (turn : ∀ i ys v, i < n → Inv i ys → P i v → ∃ (t : Addr) (ot : Obj) (v₁ v₂ : Value) (nt : Nat), v = .ref t ∧ (t, ot) ∈ news ∧ ot.cls = .type "tuple" ∧ ot.data = .seq #[v₁, v₂] nt ∧
      ∀ I oI C oC D m₂ h tk (E' : Value → Shared → Prop), NsObj oC m₂ → m₂ x = some v₁ → m₂ x₂ = some v₂ → Fr h₀ L h m → News h₀ L h ((I, oI) :: (C, oC) :: (D, lst ys) :: news) → Off3 I C D news → ((@Ne Nat I C) ∧ (@Ne Nat I D) ∧ (@Ne Nat C D)) →
      wpAny (model prog w) A (eval elt (compEnvC scope cl C env)) (fun y s' => TurnE h₀ L m s ((I, oI) :: (C, oC) :: (D, lst ys) :: news) (Inv (i + 1) (ys ++ [y])) s') E' { s with heap := h, toks := tk })
    (fin : ∀ ys, Inv n ys → Fin ys news) : CompRestP prog w A h₀ L m env elt x x₂ scope cl s S P Fin n 0 [] news := by
  have key : ∀ k i ys, i + k = n → Inv i ys → CompRestP prog w A h₀ L m env elt x x₂ scope cl s S P Fin k i ys news := by
    intro k
    induction k with
    | zero => intro i ys hi hv; have : i = n := hi; subst this; exact CompRestP.zero (fin ys hv)
    | succ k ih =>
      intro i ys hi hv
      refine CompRestP.succ ?_
      intro v hP
      obtain ⟨t, ot, v₁, v₂, nt, rfl, hmt, hc, hd, body⟩ := turn i ys v (by omega) hv hP
      refine ⟨t, ot, v₁, v₂, nt, rfl, hmt, hc, hd, ?_⟩
      intro I oI C oC D m₂ h tk E' hO h1 h2 F N off ne
      refine wpAny_mono (body I oI C oC D m₂ h tk E' hO h1 h2 F N off ne) (fun y s' hq => ?_) fun _ _ e => e
      obtain ⟨h', tk', F', N', hj⟩ := hq
      exact ⟨h', tk', news, rfl, F', N', off, hS, ih (i + 1) _ (by omega) hj⟩
  exact key n 0 [] (by omega) h0
end
end Mine
end P6

section P7
open PySem PySem.W PyProof.Rows
namespace Mine
theorem chain_le {b ll lr lm dl : Nat} (h1 : 114 < b) (h2 : b + 1 + 1 + 1 + 1 + 1 < ll) (h3 : ll < lr) (h4 : lr < lm) (h5 : lm < dl) :
    @LE.le Nat _ (b + 1) dl ∧ @LE.le Nat _ (b + 1 + 1) dl ∧ @LE.le Nat _ (b + 1 + 1 + 1) dl ∧ @LE.le Nat _ (b + 1 + 1 + 1 + 1) dl ∧ @LE.le Nat _ (b + 1 + 1 + 1 + 1 + 1) dl ∧ @LE.le Nat _ ll dl ∧ @LE.le Nat _ lr dl ∧ @LE.le Nat _ lm dl ∧ @LE.le Nat _ 114 dl := by omega
theorem chain_lo {b : Nat} : @LE.le Nat _ (b + 1 + 1) (b + 1 + 1 + 1 + 1 + 1) ∧ @LE.le Nat _ (b + 1 + 1 + 1) (b + 1 + 1 + 1 + 1 + 1) ∧ @LE.le Nat _ (b + 1 + 1 + 1 + 1) (b + 1 + 1 + 1 + 1 + 1) ∧ @LE.le Nat _ (b + 1 + 1 + 1 + 1 + 1) (b + 1 + 1 + 1 + 1 + 1) ∧ @LT.lt Nat _ (b + 1) (b + 1 + 1) ∧ @LT.lt Nat _ (b + 1) (b + 1 + 1 + 1) ∧ @LT.lt Nat _ (b + 1) (b + 1 + 1 + 1 + 1) ∧ @LT.lt Nat _ (b + 1) (b + 1 + 1 + 1 + 1 + 1) := by omega
theorem rest_ne {b ll lr lm dl : Nat} {x1 x2 x3 y1 y2 y3 y4 y5 : Obj} {tl : List (Addr × Obj)} (h1 : 114 < b) (h2 : b + 1 + 1 + 1 + 1 + 1 < ll) (h3 : ll < lr) (h4 : lr < lm) (h5 : lm < dl) (htl : ∀ p ∈ tl, @LT.lt Nat _ dl p.1) :
    ∀ p ∈ (ll, x1) :: (lr, x2) :: (lm, x3) :: (b + 1 + 1 + 1 + 1 + 1, y1) :: (b + 1 + 1 + 1 + 1, y2) :: (b + 1 + 1 + 1, y3) :: (b + 1 + 1, y4) :: (b + 1, y5) :: tl, p.1 ≠ 114 := by
  have a1 : @LT.lt Nat _ 114 (b + 1) := Nat.lt_succ_of_lt h1
  have a2 : @LT.lt Nat _ 114 (b + 1 + 1) := Nat.lt_succ_of_lt a1
  have a3 : @LT.lt Nat _ 114 (b + 1 + 1 + 1) := Nat.lt_succ_of_lt a2
  have a4 : @LT.lt Nat _ 114 (b + 1 + 1 + 1 + 1) := Nat.lt_succ_of_lt a3
  have a5 : @LT.lt Nat _ 114 (b + 1 + 1 + 1 + 1 + 1) := Nat.lt_succ_of_lt a4
  have a6 := Nat.lt_trans a5 h2
  have a7 := Nat.lt_trans a6 h3
  have a8 := Nat.lt_trans a7 h4
  have a9 := Nat.lt_trans a8 h5
  exact all_cons (Nat.ne_of_gt a6) (all_cons (Nat.ne_of_gt a7) (all_cons (Nat.ne_of_gt a8) (all_cons (Nat.ne_of_gt a5) (all_cons (Nat.ne_of_gt a4) (all_cons (Nat.ne_of_gt a3) (all_cons (Nat.ne_of_gt a2) (all_cons (Nat.ne_of_gt a1) fun p hp => Nat.ne_of_gt (Nat.lt_trans a9 (htl p hp)))))))))
theorem len_refs {α : Type} {P : Addr → α → Prop} {rs : List Value} {R : List α} {k i : Nat} (h : RefsAre P rs R) (hk : R.length + k ≤ i) (hi : i ≤ 13) : rs.length ≤ 100 := by have := h.length; omega
theorem len_refs' {α : Type} {P : Addr → α → Prop} {rs : List Value} {R : List α} {k i : Nat} (h : RefsAre P rs R) (hk : k + R.length ≤ i) (hi : i ≤ 13) : rs.length ≤ 100 := by have := h.length; omega
theorem len_lines {ls : List Value} {R : List (Str × Str)} {k i : Nat} (h : LinesAre ls R) (hk : R.length + k ≤ i) (hi : i ≤ 13) : ls.length ≤ 100 := by have := h.length; omega
theorem lt4 {j : Nat} (h : j < 4) : j = 0 ∨ j = 1 ∨ j = 2 ∨ j = 3 := by omega
theorem small4 : Builtin.Range.small 0 4 1 = true := small_one (by decide) (by decide) (by decide) (by decide)
theorem fr_bool {h₀ h : Heap} {L : Addr} {a : Str} {c : Bool} {mr : Str → Option Value} (F : Fr h₀ L h (fun y => if y = a then some (.bool c) else mr y)) : ∃ b, Fr h₀ L h (fun y => if y = a then some (.bool b) else mr y) := ⟨c, F⟩
theorem ForSrc.introZ {prog : Program} {w : World} {A : Around} {E : Value → Shared → Prop} {h₀ : Heap} {env : Env} {target : Expr} {body : List Stmt} {J : Nat → (Str → Option Value) → List (Addr × Obj) → Prop} {Q : Flow → Shared → Prop} {s₁ : Shared} {l : Addr} (vs : List Value) {nn : Nat} {m : Str → Option Value} {news : List (Addr × Obj)}
    (hh : A.handled = none) (F : Fr h₀ env.locals s₁.heap m) (N : News h₀ env.locals s₁.heap news) (hl : (l, listOf vs.toArray nn) ∈ news) (h0 : J 0 m news) (hJl : ∀ i m nx, J i m nx → (l, listOf vs.toArray nn) ∈ nx)
    (turn : ∀ i v m₁ nx h tk I oI, vs[i]? = some v → J i m₁ nx → (∀ p ∈ nx, p.1 ≠ I) → Fr h₀ env.locals h m₁ → News h₀ env.locals h ((I, oI) :: nx) →
      ∀ (Z : Flow → Shared → Prop) (E' : Value → Shared → Prop), (∀ s₃, FStep h₀ env.locals s₁ I oI (J (i + 1)) (fun _ _ => False) .next s₃ → Z .next s₃) →
      wpAny (model prog w) A (assign target env v) (fun _ s₃ => wpAny (model prog w) A (execs body env) Z E' s₃) E' { s₁ with heap := h, toks := tk })
    (done : ∀ m₁ nx h tk, J vs.length m₁ nx → Fr h₀ env.locals h m₁ → News h₀ env.locals h nx → Q .next { s₁ with heap := h, toks := tk }) :
    ForSrc prog w A E h₀ env target body J Q (.ref l) s₁ :=
  ForSrc.intro vs hh F N hl h0 hJl (fun i v m₁ nx h tk I oI hv hj hI F N => turn i v m₁ nx h tk I oI hv hj hI F N _ _ fun _ h => h) done
end Mine
end P7

section Law10
open PySem PySem.W PyProof.Rows LCt LCg
namespace Mine
local macro_rules | `(tactic| k_mem) => `(tactic| k_extra "MEM")
local macro_rules | `(tactic| walk_at "SrcPT") => `(tactic| k_extra "SRCPT")
local macro_rules | `(tactic| walk_at "eval Name") => `(tactic| k_dflt (k_extra "RULES"))
local macro_rules | `(tactic| k_ne) => `(tactic| k_extra "NE")
local macro_rules | `(tactic| k_all) => `(tactic| k_extra "ALL")
local macro_rules | `(tactic| walk_at "subscriptTail List cons BinOp ref int") => `(tactic| k_dflt (k_extra "MENU"))
local macro_rules | `(tactic| walk_at "subscriptTail List cons Name ref int") => `(tactic| k_dflt (k_extra "MENU"))
local macro_rules | `(tactic| walk_at "call builtin:str.join") => `(tactic| k_dflt (k_extra "JOIN"))
local macro_rules | `(tactic| walk_at "subscriptTail Name Constant ref int") => `(tactic| k_dflt (k_extra "ITEMC"))
local macro_rules | `(tactic| walk_at "CompSrc") => `(tactic| k_extra "CSRC")
local macro_rules | `(tactic| walk_at "CompSrcT") => `(tactic| k_extra "CSRC")
local macro_rules | `(tactic| walk_at "execs cons") => `(tactic| k_dflt (k_extra "EXECS"))
local macro_rules | `(tactic| walk_at "call ref") => `(tactic| k_dflt (k_extra "CALLR"))
local macro_rules | `(tactic| walk_at "subscriptTail") => `(tactic| k_dflt (k_extra "SUBT"))
local macro_rules | `(tactic| walk_at "eval ListComp") => `(tactic| k_dflt (k_extra "LCOMP"))
local macro_rules | `(tactic| walk_at "SrcLP") => `(tactic| k_extra "SRCLP")
local macro_rules | `(tactic| walk_at "call type:list") => `(tactic| k_dflt (k_extra "LISTB"))
local macro_rules | `(tactic| walk_at "call builtin:len") => `(tactic| k_dflt (k_extra "LENR"))
local macro_rules | `(tactic| walk_at "subscriptTail Name Name ref int") => `(tactic| k_dflt (k_extra "ITEMJ"))
local macro_rules | `(tactic| walk_at "subscriptTail Name Slice ref ref") => `(tactic| k_dflt (k_extra "SLICE"))
local macro_rules | `(tactic| walk_at "compareOp Eq ref ref") => `(tactic| k_dflt (k_extra "EQREF"))
local macro_rules | `(tactic| walk_at "exec Expr") => `(tactic| k_dflt (k_extra "EXPR"))
set_option maxRecDepth 100000 in
set_option maxHeartbeats 8000000 in
theorem law_holds : PySem.Challenge.rw_il0136_01.Holds := hd (by
  k_with_none
  w_top off
  k_go0
  (k_with "NE" => (refine neN ?_; (try dsimp only); with_reducible (first | assumption | exact Ne.symm (by assumption) | exact Nat.ne_of_lt (by assumption) | exact Nat.ne_of_gt (by assumption) | k_extra "CONJNE")))
  (k_with "CONJNE" => (rename (@LT.lt Nat _ _ _ ∧ _) => q; first | exact Nat.ne_of_gt q.1 | (replace q := And.right q; k_extra "CONJNE")))
  (k_with "ALL" => first | refine Mine.all_out (by with_reducible assumption) (by first | with_reducible assumption | omega) (by first | with_reducible assumption | omega) | refine Mine.all_gt (by with_reducible assumption) (by with_reducible assumption) | refine Mine.all_ne (by assumption) (by omega) | refine Mine.all_gt (by assumption) (by omega))
  (k_with "MEM" => ((first | refine Mine.mem_of ?_ | skip); with_reducible assumption))
  (k_with "RULES" => ((with_reducible show wpAny _ _ (eval (Expr.Name (PySem.Str.ofString "rules") _) _) _ _ _); refine nameX_C (by k_asm) (by rfl) (by k_mem) (by k_asm) ?_ (by rfl) (by rfl); k_whole))
  (k_with "ITEMC" => (k_here; refine item_led (by k_asm) (by k_mem) (by decide) (by decide) rfl ?_ (by with_unfolding_all rfl); k_whole))
  all_goals try k_fold
  k_with "exec For Name BinOp cons nil" => refine Mine.stop ?_
  k_steps
  refine Mine.Stop.out ?_
  rename Fr _ _ _ _ => F0
  rename News _ _ _ _ => N0
  obtain ⟨D0, lm, lr, ll, e1, e2, e3, e4⟩ := led4 N0
  subst e1 e2 e3 e4
  obtain ⟨o1, o2, o3, o4, o5, e1, e2, e3, e4, e5⟩ := ledO N0
  subst e1 e2 e3 e4 e5
  obtain ⟨s1, e1⟩ := ghost_name F0
  subst e1
  obtain ⟨m0, F1, hm0⟩ := fr_name F0
  obtain ⟨l0, N1, hl0⟩ := news_name N0
  clear F0 N0
  refine For_led2 F1 ?_ (by intro _; rfl) (by passes_own)
  subst hm0 hl0
  try dsimp only
  try k_fold
  k_steps
  rename News _ _ _ _ => N2
  rename Fr _ _ _ _ => F2
  rename IntsAre _ _ => hIv
  obtain ⟨dl, vs, e1, e2⟩ := ledV N2
  subst e1 e2
  have ho5 : o5.data = Data.cell (some (Value.ref lr)) := by with_reducible assumption
  have hord : @LT.lt Nat _ 114 (s1.heap.objs.size) := by with_reducible assumption
  have hord2 : @LT.lt Nat _ (s1.heap.objs.size + 1 + 1 + 1 + 1 + 1) ll := by omega
  have hord3 : @LT.lt Nat _ ll lr := by omega
  have hord4 : @LT.lt Nat _ lr lm := by omega
  have hord5 : @LT.lt Nat _ lm dl := by omega
  obtain ⟨le1, le2, le3, le4, le5, le6, le7, le8, le9⟩ := chain_le hord hord2 hord3 hord4 hord5
  obtain ⟨lo2, lo3, lo4, lo5, lu2, lu3, lu4, lu5⟩ := @chain_lo s1.heap.objs.size
  have hvl : vs.length ≤ 13 := by
    have := hIv.length
    simp only [List.length_append, List.length_cons, List.length_nil, List.length_take] at this
    omega
  obtain ⟨mr, F2'⟩ := fr_cut F2
  obtain ⟨m0, F3, hm0⟩ := fr_name F2'
  refine ForAny.of (LawJ s1.heap.objs.size dl lm lr ll vs o5 m0) ?_
  subst hm0
  refine ForSrc.introZ (l := dl) (nn := 0) (m := _) (news := (dl, lobj vs 0) :: (lm, lobj [] 0) :: (lr, lobj [] 0) :: (ll, lobj [] 0) :: (s1.heap.objs.size + 1 + 1 + 1 + 1 + 1, o1) :: (s1.heap.objs.size + 1 + 1 + 1 + 1, o2) :: (s1.heap.objs.size + 1 + 1 + 1, o3) :: (s1.heap.objs.size + 1 + 1, o4) :: (s1.heap.objs.size + 1, o5) :: (114, tabObj #[]) :: []) vs ?hh F3 (fun p hp => N2 p ?hsub) (.head _) ?hJ0 ?hJl ?turn ?done
  case hh => rfl
  case hsub => revert hp; simp only [List.mem_cons, List.not_mem_nil, or_false]; intro hp; rcases hp with h | h | h | h | h | h | h | h | h | h <;> simp [h]
  case hJ0 => exact law_zero (by assumption) (by assumption) (by assumption) (by assumption)
  all_goals try clear N2 F3 F2'
  case hJl => intro i m nx h; cases h; exact .head _
  case turn =>
    revert ho5
    repeat (rename (Obj.data _ = Data.cell _) => q9; clear q9)
    intro ho5
    repeat (rename (@LT.lt Nat _ _ _ ∧ _) => q9; clear q9)
    rintro i v m₁ nx hh tkk I oI hvi ⟨R, M, rs, ms, ls, cm, cr, cl, p1, p2, p3, p4, tl, c1, c2, c3, c4, v1, v2, v3, v4, v5, v6, v7, hp1, hp2, hp3, hp4, hRM, hRs, hMs, hLs, hgR, hgM, htl⟩ hI F9 N9 Z E8 hZ
    obtain ⟨x, tx, rfl, hxi⟩ := ia_item hIv hvi
    have hi13 : i ≤ 13 := Nat.le_of_lt (Nat.lt_of_lt_of_le (List.getElem?_eq_some_iff.mp hvi).1 hvl)
    obtain ⟨ni1, ni2, ni3, ni4, ni5, ni6, ni7, ni8, ni9⟩ := all11 hI
    (k_with "CSRC" => refine Mine.stop ?_)
    (k_with "MENU" => ((refine menu_any (by k_asm) (by k_mem) (by first | exact .cons _ _ (.cons _ _ (.cons _ _ .nil)) | exact .cons _ _ (.cons _ _ (.cons _ _ (.cons _ _ (.cons _ _ (.cons _ _ .nil)))))) (by first | exact Int.fmod_nonneg_of_pos _ (by decide) | omega | l_fact) (by first | exact Int.fmod_lt_of_pos _ (by decide) | (show (_ : Int) < 6; omega) | l_fact) (by decide) (by decide) ?_ (by with_unfolding_all rfl); k_whole); intro zM tM hzM hzl))
    try dsimp only
    try k_fold
    k_steps
    refine Mine.Stop.out ?_
    refine CompSrc.range (n := 4) (by rfl) (by k_asm) (by k_asm) (by assumption) small4 (by exact rangeSize_nat _ _) (by size_fits) ?_
    intro g9
    refine CompRest_inv (fun i ys => ∃ ks, IntsAre ys ks ∧ ks.length = i ∧ ∀ k ∈ ks, 0 ≤ k ∧ k < 6) trivial ⟨[], .nil, rfl, fun _ h => (nomatch h)⟩ ?_ ?_
    · rintro j ys v I2 oI2 C2 oC2 D2 m₂ h9 tk9 E9 hj ⟨ks, hks, hkl, hkb⟩ ⟨tt, rfl⟩ hO hm F9 N9 off ne
      obtain rfl | rfl | rfl | rfl := lt4 hj
      all_goals (
        try dsimp only
        try k_fold
        k_steps
        refine TurnE.intro (by k_asm) (by assumption) (fun p hp => hp) ⟨ks ++ [_], ia_app hks (ia_one _ _), by simp [hkl], ?_⟩
        intro k hk
        rcases List.mem_append.mp hk with hk | hk
        · exact hkb k hk
        · rw [List.mem_singleton.mp hk]
          exact ⟨Int.fmod_nonneg_of_pos _ (by decide), Int.fmod_lt_of_pos _ (by decide)⟩)
    · intro ys hys
      unfold FinA
      intro Df hf tkf Ff Nf offf
      obtain ⟨ks, hks, hkl, hkb⟩ := hys
      have Nf2 := news_drop2 Nf
      clear Nf
      obtain ⟨-, -, f1, f2, f3, f4, f5, f6, f7, f8, f9, f10, f11, -⟩ := offf
      dsimp only at f1 f2 f3 f4 f5 f6 f7 f8 f9 f10 f11
      repeat (rename (@LT.lt Nat _ _ _ ∧ _) => q9; clear q9)
      try dsimp only
      try k_fold
      k_steps
      · refine Mine.Stop.out ?_
        have hyl : ys.length = 4 := by rw [hks.length, hkl]
        refine CompSrc.ledger (its := ys.toArray) (by rfl) (by k_asm) (by k_asm) (by k_mem) (by simp only [List.size_toArray]; size_fits) ?_
        intro g8
        refine CompRest_inv (fun i' zs => ∃ ts, StrsAre zs ts ∧ ts.length = i' ∧ ∀ z ∈ ts, z ∈ MenuP) (.inr ⟨_, by k_mem, rfl, _, rfl⟩) ⟨[], .nil, rfl, fun _ h => (nomatch h)⟩ ?_ ?_
        · rintro j zs v I2 oI2 C2 oC2 D2 m₂ h9 tk9 E9 hj ⟨ts, hts, htz, htm⟩ hv hO hm F9 N9 off ne
          obtain ⟨k, tkk, rfl, hk⟩ := ia_item hks (show ys[j]? = some v by simpa using hv)
          have hk0 := hkb k (List.mem_of_getElem? hk)
          try dsimp only
          try k_fold
          k_steps
          refine TurnE.intro (by k_asm) (by assumption) (fun p hp => by first | exact hp | exact .tail _ hp) ⟨ts ++ [zM], StrsAre.append' hts (.cons _ _ .nil), by simp [htz], ?_⟩
          intro z hz
          rcases List.mem_append.mp hz with hz | hz
          · exact htm z hz
          · rw [List.mem_singleton.mp hz]; exact hzM
        · rintro zs ⟨ts, hts, htz, htm⟩
          have htz4 : ts.length = 4 := by rw [htz, List.size_toArray, hyl]
          unfold FinE
          (k_with "JOIN" => ((refine join_menu (by k_asm) (by k_mem) (by assumption) (by assumption) (by assumption) (by first | exact menuP_le | exact menuD_le) ?_; k_whole); intro pat tpat kpat hpat hpl))
          intro Dp hp tkp Fp Np offp
          try dsimp only
          try k_fold
          k_steps
          refine Mine.Stop.out ?_
          refine CompSrc.range (n := 4) (by rfl) (by k_asm) (by k_asm) (by assumption) small4 (by exact rangeSize_nat _ _) (by size_fits) ?_
          intro g7
          refine CompRest_inv (fun i ys => ∃ bs, StrsAre ys bs ∧ bs.length = i ∧ ∀ b ∈ bs, Blank b) trivial ⟨[], .nil, rfl, fun _ h => (nomatch h)⟩ ?_ ?_
          · rintro j zs v I2 oI2 C2 oC2 D2 m₂ h9 tk9 E9 hj ⟨bs, hbs, hbl, hbm⟩ ⟨tt, rfl⟩ hO hm F9 N9 off ne
            obtain rfl | rfl | rfl | rfl := lt4 hj
            all_goals (
              try dsimp only
              try k_fold
              k_steps
              refine TurnE.intro (by k_asm) (by assumption) (fun p hp => hp) ⟨bs ++ [_], StrsAre.append' hbs (.cons _ _ .nil), by simp [hbl], ?_⟩
              intro b hb
              rcases List.mem_append.mp hb with hb | hb
              · exact hbm b hb
              · rw [List.mem_singleton.mp hb]
                exact ⟨_, Int.fmod_nonneg_of_pos _ (by decide), Int.fmod_lt_of_pos _ (by decide), rfl⟩)
          · rintro zs ⟨bs, hbs, hbl, hbm⟩
            unfold FinA
            intro Db hb tkb Fb Nb offb
            obtain ⟨b0, b1, b2, b3, tb0, tb1, tb2, tb3, rfl, rfl⟩ := four_strs hbs hbl
            have hb0 := hbm b0 (by simp)
            have hb1 := hbm b1 (by simp)
            have hb2 := hbm b2 (by simp)
            have hb3 := hbm b3 (by simp)
            have lb0 := blank_len hb0
            have lb1 := blank_len hb1
            have lb2 := blank_len hb2
            have lb3 := blank_len hb3
            have lzM := names_len hzM
            have Nb2 := news_drop2 Nb
            clear Nb
            obtain ⟨-, -, of1, of2, of3, of4, of5, -⟩ := offb
            repeat (rename (@LT.lt Nat _ _ _ ∧ _) => q9; clear q9)
            dsimp only at of1 of2 of3 of4 of5
            have hsz1 : ls.length ≤ 100 := len_lines hLs hRM hi13
            have hsz2 : rs.length ≤ 100 := len_refs hRs hRM hi13
            try dsimp only
            try k_fold
            k_steps
            rename Fr _ _ _ _ => FZ
            rename News _ _ _ _ => NZ
            refine hZ _ ?_
            rename (@LT.lt Nat _ _ _ ∧ _) => hq
            apply law_even FZ NZ
            case h1 => with_reducible assumption
            case h2 => with_reducible assumption
            case h3 => with_reducible assumption
            case h4 => with_reducible assumption
            case hRM => exact hRM
            case hRs => exact hRs
            case hMs => exact hMs
            case hLs => exact hLs
            case hgR => exact hgR
            case hgM => exact hgM
            case htl => exact htl
            case hI => exact hI
            case hIT => first | exact hq.2.1 | omega
            case hdT => first | exact hq.2.2.1 | omega
            case hline => exact line_good hb0 hb1 hb2 hb3 hzM hpat hpl
            case hgood => exact good_rule hzM hpat hpl
            case hm =>
              intro z h1 h2 h3 h4 h5 h6 h7
              simp [h1, h2, h3, h4, h5, h6, h7]
      · refine Mine.Stop.out ?_
        have hyl : ys.length = 4 := by rw [hks.length, hkl]
        refine CompSrc.ledger (its := ys.toArray) (by rfl) (by k_asm) (by k_asm) (by k_mem) (by simp only [List.size_toArray]; size_fits) ?_
        intro g8
        refine CompRest_inv (fun i' zs => ∃ ts, StrsAre zs ts ∧ ts.length = i' ∧ ∀ z ∈ ts, z ∈ MenuD) (.inr ⟨_, by k_mem, rfl, _, rfl⟩) ⟨[], .nil, rfl, fun _ h => (nomatch h)⟩ ?_ ?_
        · rintro j zs v I2 oI2 C2 oC2 D2 m₂ h9 tk9 E9 hj ⟨ts, hts, htz, htm⟩ hv hO hm F9 N9 off ne
          obtain ⟨k, tkk, rfl, hk⟩ := ia_item hks (show ys[j]? = some v by simpa using hv)
          have hk0 := hkb k (List.mem_of_getElem? hk)
          try dsimp only
          try k_fold
          k_steps
          refine TurnE.intro (by k_asm) (by assumption) (fun p hp => by first | exact hp | exact .tail _ hp) ⟨ts ++ [zM], StrsAre.append' hts (.cons _ _ .nil), by simp [htz], ?_⟩
          intro z hz
          rcases List.mem_append.mp hz with hz | hz
          · exact htm z hz
          · rw [List.mem_singleton.mp hz]; exact hzM
        · rintro zs ⟨ts, hts, htz, htm⟩
          have htz4 : ts.length = 4 := by rw [htz, List.size_toArray, hyl]
          unfold FinE
          (k_with "JOIN" => ((refine join_menu (by k_asm) (by k_mem) (by assumption) (by assumption) (by assumption) (by first | exact menuP_le | exact menuD_le) ?_; k_whole); intro det tdet kdet hdet hdl))
          intro Dp hp tkp Fp Np offp
          have Np2 := news_drop1 Np
          clear Np
          obtain ⟨-, g1, g2, g3, g4, g5, g6, g7, g8, g9, g10, g11, -⟩ := offp
          dsimp only at g1 g2 g3 g4 g5 g6 g7 g8 g9 g10 g11
          repeat (rename (@LT.lt Nat _ _ _ ∧ _) => q9; clear q9)
          have hsz3 : ms.length ≤ 100 := len_refs' hMs hRM hi13
          (k_with "EXPR" => refine Mine.stop ?_)
          try dsimp only
          try k_fold
          k_steps
          refine Mine.Stop.out ?_
          rename Fr _ _ _ _ => FA
          obtain ⟨bb, FB⟩ := fr_bool FA
          clear FA
          k_with_none
          (k_with "NE" => (refine neN ?_; (try dsimp only); with_reducible (first | assumption | exact Ne.symm (by assumption) | exact Nat.ne_of_lt (by assumption) | exact Nat.ne_of_gt (by assumption) | k_extra "CONJNE")))
          (k_with "CONJNE" => (rename (@LT.lt Nat _ _ _ ∧ _) => q; first | exact Nat.ne_of_gt q.1 | (replace q := And.right q; k_extra "CONJNE")))
          (k_with "ALL" => first | refine Mine.all_out (by with_reducible assumption) (by first | with_reducible assumption | omega) (by first | with_reducible assumption | omega) | refine Mine.all_gt (by with_reducible assumption) (by with_reducible assumption) | refine Mine.all_ne (by assumption) (by omega) | refine Mine.all_gt (by assumption) (by omega))
          (k_with "MEM" => ((first | refine Mine.mem_of ?_ | skip); with_reducible assumption))
          (k_with "RULES" => ((with_reducible show wpAny _ _ (eval (Expr.Name (PySem.Str.ofString "rules") _) _) _ _ _); refine nameX_C (by k_asm) (by rfl) (by k_mem) (by k_asm) ?_ (by rfl) (by rfl); k_whole))
          (k_with "ITEMC" => (k_here; refine item_led (by k_asm) (by k_mem) (by decide) (by decide) rfl ?_ (by with_unfolding_all rfl); k_whole))
          (k_with "JOIN" => ((refine join_menu (by k_asm) (by k_mem) (by assumption) (by assumption) (by assumption) (by first | exact menuP_le | exact menuD_le) ?_; k_whole); intro det tdet kdet hdet hdl))
          cases bb
          all_goals k_steps
          all_goals (
            rename Fr _ _ _ _ => FZ
            rename News _ _ _ _ => NZ
            refine hZ _ ?_
            rename (@LT.lt Nat _ _ _ ∧ _) => hq
            apply law_odd FZ NZ
            case h1 => with_reducible assumption
            case h2 => with_reducible assumption
            case h3 => with_reducible assumption
            case h4 => with_reducible assumption
            case hRM => exact hRM
            case hRs => exact hRs
            case hMs => exact hMs
            case hLs => exact hLs
            case hgR => exact hgR
            case hgM => exact hgM
            case htl => exact htl
            case hI => exact hI
            case hIT => first | exact hq.2.2.2.2.1 | omega
            case hdT => first | exact hq.2.2.2.2.2.1 | omega
            case hm =>
              intro z h1 h2 h3 h4 h5 h6 h7
              simp [h1, h2, h3, h4, h5, h6, h7]
            case hgood =>
              first
              | (with_reducible refine good_a ?_ ?_ ?_ ?_)
              | (with_reducible refine good_b ?_ ?_ ?_ ?_ hdl)
              all_goals first | with_reducible assumption | decide | omega)
  case done =>
    revert ho5
    repeat (rename (Obj.data _ = Data.cell _) => q9; clear q9)
    intro ho5
    repeat (rename (@LT.lt Nat _ _ _ ∧ _) => q9; clear q9)
    clear hIv
    rintro m₁ nx hh tkk ⟨R, M, rs, ms, ls, cm, cr, cl, p1, p2, p3, p4, tl, c1, c2, c3, c4, v1, v2, v3, v4, v5, v6, v7, hp1, hp2, hp3, hp4, hRM, hRs, hMs, hLs, hgR, hgM, htl⟩ F9 N9
    have hlsl := hLs.length
    have hrest := rest_ne (x1 := lobj ls cl) (x2 := lobj rs cr) (x3 := lobj ms cm) (y1 := p1) (y2 := p2) (y3 := p3) (y4 := p4) (y5 := o5) hord hord2 hord3 hord4 hord5 htl
    have N4 : News _ _ _ ((ll, lobj ls cl) :: (114, tabObj #[]) :: (lr, lobj rs cr) :: (lm, lobj ms cm) :: (s1.heap.objs.size + 1 + 1 + 1 + 1 + 1, p1) :: (s1.heap.objs.size + 1 + 1 + 1 + 1, p2) :: (s1.heap.objs.size + 1 + 1 + 1, p3) :: (s1.heap.objs.size + 1 + 1, p4) :: (s1.heap.objs.size + 1, o5) :: tl) := news_pick N9 [3, 9, 2, 1, 4, 5, 6, 7, 8] 10
    clear N9
    (k_with "CALLR" => refine Mine.stop ?_)
    (k_with "exec For" => refine Mine.stop ?_)
    try dsimp only
    try k_fold
    k_steps
    refine Mine.Stop.out ?_
    refine' wpAny_call ?_
    (refine book_con _ _ _ _ _ _ (LinesAre.item (by assumption)) (by omega) (by omega) (by assumption) _ _ _ _ _ _ _ _ _ _ _ _ _ _ _ _ _ _ _ _ (by k_asm) (by k_asm) (by k_asm) (by k_asm) (by k_asm) (by k_asm) (by exact rfl) (by ktr_room) (by ktr_units) ?_; k_whole)
    rintro v6 news6 h6 tk6 F6 N6 ⟨bx, dx, fr, fz, tfz, P6, C, nb, rfl, rfl, hLam, hC, hd217, hdx, hfz, hlowdx⟩
    (k_with "EXECS" => refine Mine.stop ?_)
    try dsimp only
    try k_fold
    k_steps
    refine Mine.Stop.out ?_
    refine wpAny_execs_cons ?_
    k_with_none
    (k_with "NE" => (refine neN ?_; (try dsimp only); with_reducible (first | assumption | exact Ne.symm (by assumption) | exact Nat.ne_of_lt (by assumption) | exact Nat.ne_of_gt (by assumption) | k_extra "CONJNE")))
    (k_with "CONJNE" => (rename (@LT.lt Nat _ _ _ ∧ _) => q; first | exact Nat.ne_of_gt q.1 | (replace q := And.right q; k_extra "CONJNE")))
    (k_with "ALL" => first | refine Mine.all_out (by with_reducible assumption) (by first | with_reducible assumption | omega) (by first | with_reducible assumption | omega) | refine Mine.all_gt (by with_reducible assumption) (by with_reducible assumption) | refine Mine.all_ne (by assumption) (by omega) | refine Mine.all_gt (by assumption) (by omega))
    (k_with "MEM" => ((first | refine Mine.mem_of ?_ | skip); with_reducible assumption))
    (k_with "RULES" => ((with_reducible show wpAny _ _ (eval (Expr.Name (PySem.Str.ofString "rules") _) _) _ _ _); refine nameX_C (by k_asm) (by rfl) (by k_mem) (by k_asm) ?_ (by rfl) (by rfl); k_whole))
    (k_with "ITEMC" => (k_here; refine item_led (by k_asm) (by k_mem) (by decide) (by decide) rfl ?_ (by with_unfolding_all rfl); k_whole))
    have hlmdx : @LT.lt Nat _ lm dx := hlowdx (lm, lobj ms cm) (by simp)
    rename Fr _ _ _ _ => F7
    rename News _ _ _ _ => N7
    obtain ⟨X, N8, hX, hmB, hmD, hm114, hmL, hmR, hmO, hmE, hmT, hmF⟩ := led_msgs N7 hC hdx hfz hlmdx hord hord2 hord3 hord4 hord5 htl
    clear N7; try clear N6; try clear N4
    refine For_led2 F7 ?_ (by intro _; rfl) (by passes_own)
    try clear F6; try clear F9
    try dsimp only
    try k_fold
    k_steps
    rename News _ _ _ _ => N9
    rename Fr _ _ _ _ => F9
    obtain ⟨mr, F9'⟩ := fr_cut1 F9
    obtain ⟨m0, F3, hm0⟩ := fr_name F9'
    refine ForAny.of (LawJ2 s1.heap.objs.size X m0) ?_
    subst hm0
    refine ForSrc.introZ (l := lm) (nn := cm) (m := _) (news := (s1.heap.objs.size + 1 + 1 + 1 + 1 + 1, p1) :: (s1.heap.objs.size + 1 + 1 + 1 + 1, p2) :: (s1.heap.objs.size + 1 + 1 + 1, p3) :: (s1.heap.objs.size + 1 + 1, p4) :: X) ms ?hh F3 N9 ?hl0 ?hJ0 ?hJl ?turn2 ?done2
    case hh => rfl
    case hl0 => exact .tail _ (.tail _ (.tail _ (.tail _ hmL)))
    case hJ0 => exact law2_map (names2' (fun _ _ _ => rfl)) (.mk p1 p2 p3 p4 _ _ _ _ _ _ hp1 hp2 hp3 hp4)
    case hJl => intro i m nx h; cases h; exact .tail _ (.tail _ (.tail _ (.tail _ hmL)))
    all_goals (try clear N9); all_goals (try clear F3); all_goals (try clear F9'); all_goals (try clear F9); all_goals (try clear F7); all_goals clear hp1 hp2 hp3 hp4
    case turn2 =>
      rintro i v m₁ nx hh tkk I oI hvi ⟨p1, p2, p3, p4, c1, c2, c3, c4, v1, v2, hp1, hp2, hp3, hp4⟩ hI F9 N9 Z E8 hZ
      obtain ⟨a, ⟨n, d, z⟩, rfl, hMi, t1, t2, t3, hmem⟩ := hMs.item hvi
      have hmem' : (a, tupObj [.str n t1, .str d t2, .str z t3]) ∈ X := hmT _ hmem
      obtain ⟨hgn, hgd, hgz, hgs⟩ : n ∈ Names3 ∧ d.length ≤ 1000 ∧ z.length ≤ 1000 ∧ stripF z = n := hgM _ (List.mem_of_getElem? hMi)
      obtain ⟨ni1, ni2, ni3, ni4⟩ := all4 hI
      have ht9 : IsTup hh a #[.str n t1, .str d t2, .str z t3] := ⟨_, (N9 _ (.tail _ (.tail _ (.tail _ (.tail _ (.tail _ hmem')))))).1, rfl, _, rfl⟩
      refine unpackN_ F9 N9 ht9 rfl rfl rfl ?_
      intro hh2 F10 N10
      clear F9 N9 ht9
      (k_with "CALLR" => ((with_reducible show wpAny _ _ (call (Value.ref 53) _) _ _ _); (refine strip_n _ _ _ (by assumption) _ _ _ _ _ _ _ _ _ _ _ _ _ _ _ _ _ _ _ _ _ _ (by k_asm) (by k_asm) (by k_asm) (by k_asm) (by k_asm) (by exact rfl) (by assumption) (by ktr_room) (by ktr_units) ?_; k_whole); intro t7 h7 tk7 F7 N7))
      (k_with "SUBT" => refine Mine.stop ?_)
      try dsimp only
      try k_fold
      k_steps
      refine Mine.Stop.out ?_
      rename Fr _ _ _ _ => F12
      rename News _ _ _ _ => N12
      obtain ⟨mm, F13, hmm⟩ := fr_name F12
      obtain ⟨base, N13, hbase⟩ := news_name N12
      have hsubX : ∀ p ∈ X, p ∈ base := fun p hp => by rw [hbase]; exact .tail _ (.tail _ (.tail _ (.tail _ (.tail _ hp))))
      have hbk : BookIs C (bookOf R) := by have := hC.1; rwa [List.take_length] at this
      have h1x : @LT.lt Nat _ 1 bx := Nat.lt_trans (Nat.lt_trans (by decide) hd217) hdx
      clear F12 N12
      refine held_mono (patsOf R n) F13 N13 ?zTail ?zRest
      case zTail =>
        clear F13 N13
        intro F13 N13
        refine tail_book (dx := dx) (B := eB C) (n := nb) ?cX F13 N13 ?cm h1x ?_ ?_ ?hs
        case hs => exact ⟨_, by with_unfolding_all rfl⟩
        case cX => k_asm
        case cm => exact hsubX _ hmB
        · intro a9 hk9
          obtain ⟨e, he, rfl, hes⟩ := held_hit hbk hk9
          refine ⟨e.addr, e.vals, e.cnt, _, _, rfl, rfl, F13, fun p hp => ?_, hes⟩
          rcases List.mem_cons.mp hp with rfl | hp
          · exact N13 _ (hsubX _ (hmE _ (List.mem_map.mpr ⟨e, he, rfl⟩)))
          · exact N13 p hp
        · intro hk9
          have hp0 := held_miss hbk hk9
          refine wpAny_call ?_
          have N4 : News _ _ _ ((bx, ddObj dx (ents _ (eB C)) nb) :: (dx, fzDict _ fr tfz) :: (fz ++ base)) := fun p hp => by
            rcases List.mem_cons.mp hp with rfl | hp
            · exact N13 _ (hsubX _ hmB)
            rcases List.mem_cons.mp hp with rfl | hp
            · exact N13 _ (hsubX _ hmD)
            rcases List.mem_append.mp hp with hp | hp
            · exact N13 _ (hsubX _ (hmF _ hp))
            · exact N13 p hp
          clear N13
          (refine miss2_con _ _ _ _ _ _ _ _ _ _ _ (by assumption) _ _ _ _ _ _ _ _ _ _ _ _ _ _ _ _ _ _ _ _ (by k_asm) (by k_asm) (by k_asm) (by k_asm) (by k_asm) (by exact rfl) (by ktr_room) (by ktr_units) ?_; k_whole)
          rintro v8 news8 h8 tk8 F8 N8 ⟨a8, c8, rfl, hlt8, rfl⟩
          refine ⟨a8, [], c8, _, _, rfl, rfl, F8, fun p hp => N8 p ?_, by rw [hp0]; exact .nil⟩
          rcases List.mem_cons.mp hp with rfl | hp
          · exact .head _
          · exact .tail _ (.tail _ (.tail _ (List.mem_append.mpr (.inr hp))))
      case zRest =>
        clear N13 F13
        intro ah vals ch hh3 tk3 F14 N14 hS
        subst hbase hmm
        (k_with "EXECS" => refine Mine.stop ?_)
        try dsimp only
        try k_fold
        k_steps
        refine Mine.Stop.out ?_
        refine wpAny_execs_cons ?_
        (k_with "LCOMP" => refine Mine.stop ?_)
        (k_with "CSRC" => refine Mine.stop ?_)
        k_steps
        refine Mine.Stop.out ?_
        rename Fr _ _ _ _ => FA
        rename News _ _ _ _ => NA
        refine ListComp_PT FA (by with_unfolding_all rfl) (by decide) (by rfl) (by decide) (by rfl) (by rfl) (by decide) ?_
        (k_with "SRCPT" => refine Mine.stop ?_)
        k_steps
        refine Mine.Stop.out ?_
        refine SrcPT.intro (fun i ys => StrsAre ys (patsOf (R.take i) n)) (by rfl) FA NA (by k_mem) ?hsz .nil ?hturn ?hfin
        case hsz =>
          have := hRs.length
          exact Nat.le_trans (show rs.length ≤ 100 by omega) (by decide)
        case hturn =>
          clear hbk
          rintro j ys v hvj hys
          obtain ⟨a2, ⟨who, pat⟩, rfl, hRj, u1, u2, hmem2⟩ := hRs.item hvj
          refine ⟨a2, .str who u1, .str pat u2, rfl, .tail _ (.tail _ (.tail _ (.tail _ (.tail _ (.tail _ (hmT _ hmem2)))))), ?_⟩
          clear FA NA
          rintro I2 oI2 C2 oC2 D2 m₂ h9 tk9 E9 hO hw1 hw2 F9 N9 off ne
          try dsimp only
          try k_fold
          k_steps
          · exact TurnE.intro (by k_asm) (by assumption) (fun p hp => hp) (pats_hit hRj (by assumption) hys)
          · exact TurnE.intro (by k_asm) (by assumption) (fun p hp => hp) (pats_miss hRj (by assumption) hys)
        case hfin =>
          clear FA NA
          rintro ys D h7 tk7 hys FB NB off
          rw [hRs.length, List.take_length] at hys
          refine ne_strs (lobj_list NB (.tail _ (.head _))) (lobj_list NB (.head _)) (fun p hp => (pats_of hgR hp).2) hS hys (by ke_room) ?_
          clear hys
          k_with_none
          (k_with "NE" => (refine neN ?_; (try dsimp only); with_reducible (first | assumption | exact Ne.symm (by assumption) | exact Nat.ne_of_lt (by assumption) | exact Nat.ne_of_gt (by assumption) | k_extra "CONJNE")))
          (k_with "CONJNE" => (rename (@LT.lt Nat _ _ _ ∧ _) => q; first | exact Nat.ne_of_gt q.1 | (replace q := And.right q; k_extra "CONJNE")))
          (k_with "ALL" => first | refine Mine.all_out (by with_reducible assumption) (by first | with_reducible assumption | omega) (by first | with_reducible assumption | omega) | refine Mine.all_gt (by with_reducible assumption) (by with_reducible assumption) | refine Mine.all_ne (by assumption) (by omega) | refine Mine.all_gt (by assumption) (by omega))
          (k_with "MEM" => ((first | refine Mine.mem_of ?_ | skip); with_reducible assumption))
          (k_with "RULES" => ((with_reducible show wpAny _ _ (eval (Expr.Name (PySem.Str.ofString "rules") _) _) _ _ _); refine nameX_C (by k_asm) (by rfl) (by k_mem) (by k_asm) ?_ (by rfl) (by rfl); k_whole))
          (k_with "ITEMC" => (k_here; refine item_led (by k_asm) (by k_mem) (by decide) (by decide) rfl ?_ (by with_unfolding_all rfl); k_whole))
          (k_with "EXECS" => refine Mine.stop ?_)
          (k_with "CSRC" => refine Mine.stop ?_)
          try dsimp only
          try k_fold
          k_steps
          refine Mine.Stop.out ?_
          refine wpAny_execs_cons ?_
          k_steps
          refine Mine.Stop.out ?_
          have hvl2 := hS.length
          have hvl3 : vals.length ≤ 100 := by
            have h1 : (patsOf R n).length ≤ R.length := by unfold patsOf; rw [List.length_map]; exact List.length_filter_le _ _
            omega
          refine CompSrcT.ledger (its := vals.toArray) (by rfl) (by k_asm) (by k_asm) (by k_mem) (by simp only [List.size_toArray]; size_fits) ?_
          intro g9
          refine CompRestT_inv (fun _ ys => ys = []) (.inr ⟨_, by k_mem, rfl, _, rfl⟩) rfl ?_ ?_
          · rintro j ys v I2 oI2 C2 oC2 D2 m₂ h9 tk9 E9 hj rfl hv hO hm1 F9 N9 off ne
            obtain ⟨p, tp, rfl, hp⟩ := sa_item hS (show vals[j]? = some v by simpa using hv)
            have hpl := (pats_of hgR (List.mem_of_getElem? hp)).1
            (k_with "CALLR" => first | ((with_reducible show wpAny _ _ (call (Value.ref 225) _) _ _ _); (refine fits_b _ _ _ _ _ _ _ _ _ _ _ _ _ _ _ _ _ _ _ _ _ _ _ _ _ _ (by k_asm) (by k_asm) (by k_asm) (by k_asm) (by k_asm) (by exact rfl) (by exact ⟨by omega, by omega⟩) (by ktr_room) (by ktr_units) ?_; k_whole); intro t7 h7 tk7 F7 N7) | ((with_reducible show wpAny _ _ (call (Value.ref 46) _) _ _ _); (refine match_b _ _ _ _ (by omega) _ _ _ _ _ _ _ _ _ _ _ _ _ _ _ _ _ _ _ _ _ _ (by k_asm) (by k_asm) (by k_asm) (by k_asm) (by k_asm) (by exact rfl) (by exact ⟨by omega, by omega⟩) (by ktr_room) (by ktr_units) ?_; k_whole); intro t7 h7 tk7 F7 N7))
            try dsimp only
            try k_fold
            k_steps
            · exfalso; rename_i hq; revert hq; simp
            · exact TurnE.intro (by k_asm) (by assumption) (fun p hp => hp) rfl
          · rintro ys rfl
            unfold FinE
            intro D7 h7 tk7 F7 N7 off7
            try dsimp only
            try k_fold
            k_steps
            rename Fr _ _ _ _ => FZ
            rename News _ _ _ _ => NZ
            refine hZ _ ?_
            apply law2_end (Y := [_, _, _, _]) FZ NZ
            case h1 => with_reducible assumption
            case h2 => with_reducible assumption
            case h3 => with_reducible assumption
            case h4 => with_reducible assumption
            case hI => exact hI
            case hm =>
              intro z h1 h2
              simp [h1, h2]
    case done2 =>
      k_with_none
      (k_with "NE" => (refine neN ?_; (try dsimp only); with_reducible (first | assumption | exact Ne.symm (by assumption) | exact Nat.ne_of_lt (by assumption) | exact Nat.ne_of_gt (by assumption) | k_extra "CONJNE")))
      (k_with "CONJNE" => (rename (@LT.lt Nat _ _ _ ∧ _) => q; first | exact Nat.ne_of_gt q.1 | (replace q := And.right q; k_extra "CONJNE")))
      (k_with "ALL" => first | refine Mine.all_out (by with_reducible assumption) (by first | with_reducible assumption | omega) (by first | with_reducible assumption | omega) | refine Mine.all_gt (by with_reducible assumption) (by with_reducible assumption) | refine Mine.all_ne (by assumption) (by omega) | refine Mine.all_gt (by assumption) (by omega))
      (k_with "MEM" => ((first | refine Mine.mem_of ?_ | skip); with_reducible assumption))
      (k_with "RULES" => ((with_reducible show wpAny _ _ (eval (Expr.Name (PySem.Str.ofString "rules") _) _) _ _ _); refine nameX_C (by k_asm) (by rfl) (by k_mem) (by k_asm) ?_ (by rfl) (by rfl); k_whole))
      (k_with "ITEMC" => (k_here; refine item_led (by k_asm) (by k_mem) (by decide) (by decide) rfl ?_ (by with_unfolding_all rfl); k_whole))
      rintro m₁ nx hh tkk ⟨p1, p2, p3, p4, c1, c2, c3, c4, v1, v2, hp1, hp2, hp3, hp4⟩ F9 N9
      have hbk : BookIs C (bookOf R) := by have := hC.1; rwa [List.take_length] at this
      have h1x : @LT.lt Nat _ 1 bx := Nat.lt_trans (Nat.lt_trans (by decide) hd217) hdx
      have hBl : (eB C).length ≤ 1000 := by
        have := hC.2.1
        simp only [eB, List.length_map]; omega
      have hrsl := hRs.length
      have hrs100 : rs.length ≤ 100 := by omega
      (k_with "LISTB" => refine Mine.stop ?_)
      (k_with "CSRC" => refine Mine.stop ?_)
      try dsimp only
      try k_fold
      k_steps
      refine Mine.Stop.out ?_
      (refine list_bookN (by k_asm) (by k_asm) (by k_asm) (by k_mem) (ne_mod (by assumption)) (by assumption) rfl ?_; k_whole)
      intro DL cL hL tkL keys FL NL hltL hSL
      rw [book_names hbk] at hSL
      (k_with "LCOMP" => refine Mine.stop ?_)
      try dsimp only
      try k_fold
      k_steps
      refine Mine.Stop.out ?_
      rename Fr _ _ _ _ => FA
      refine LCt.ListComp_T FA (by with_unfolding_all rfl) (by decide) (by rfl) (by decide) (by rfl) ?_
      k_with_none
      (k_with "NE" => (refine neN ?_; (try dsimp only); with_reducible (first | assumption | exact Ne.symm (by assumption) | exact Nat.ne_of_lt (by assumption) | exact Nat.ne_of_gt (by assumption) | k_extra "CONJNE")))
      (k_with "CONJNE" => (rename (@LT.lt Nat _ _ _ ∧ _) => q; first | exact Nat.ne_of_gt q.1 | (replace q := And.right q; k_extra "CONJNE")))
      (k_with "ALL" => first | refine Mine.all_out (by with_reducible assumption) (by first | with_reducible assumption | omega) (by first | with_reducible assumption | omega) | refine Mine.all_gt (by with_reducible assumption) (by with_reducible assumption) | refine Mine.all_ne (by assumption) (by omega) | refine Mine.all_gt (by assumption) (by omega))
      (k_with "MEM" => ((first | refine Mine.mem_of ?_ | skip); with_reducible assumption))
      (k_with "RULES" => ((with_reducible show wpAny _ _ (eval (Expr.Name (PySem.Str.ofString "rules") _) _) _ _ _); refine nameX_C (by k_asm) (by rfl) (by k_mem) (by k_asm) ?_ (by rfl) (by rfl); k_whole))
      (k_with "ITEMC" => (k_here; refine item_led (by k_asm) (by k_mem) (by decide) (by decide) rfl ?_ (by with_unfolding_all rfl); k_whole))
      (k_with "CSRC" => refine Mine.stop ?_)
      (k_with "LENR" => ((with_reducible show wpAny _ _ (call (Value.builtin _) [Value.ref _]) _ _ _); (refine len_led (by k_asm) (by k_mem) (by exact Nat.lt_of_le_of_lt (by assumption) (show 100 < 2 ^ 62 by decide)) ?_; k_whole)))
      k_steps
      refine Mine.Stop.out ?_
      refine LCt.CompSrcT.range (n := rs.length) (by rfl) (by k_asm) (by k_asm) (by assumption) (by exact small_one (by omega) (by omega) (by omega) (by omega)) (by exact rangeSize_nat _ _) (Nat.le_trans hrs100 (by decide)) ?_
      intro g9
      refine CompRestT_inv (fun i ys => StrsAre ys (firsts (R.take i))) trivial .nil ?_ ?_
      · rintro j ys v I2 oI2 C2 oC2 D2 m₂ h9 tk9 E9 hj hys ⟨tt, rfl⟩ hO hm1 F9 N9 off ne
        rw [Int.zero_add] at hm1
        have hj1000 : j < 1000 := by omega
        have hvj : rs[j]? = some rs[j] := by simp [hj]
        obtain ⟨a2, ⟨who, pat⟩, e2, hRj, u1, u2, hmem2⟩ := hRs.item hvj
        rw [e2] at hvj
        have hmem3 : (a2, tupObj [.str who u1, .str pat u2]) ∈ X := hmT _ hmem2
        k_with_none
        (k_with "NE" => (refine neN ?_; (try dsimp only); with_reducible (first | assumption | exact Ne.symm (by assumption) | exact Nat.ne_of_lt (by assumption) | exact Nat.ne_of_gt (by assumption) | k_extra "CONJNE")))
        (k_with "CONJNE" => (rename (@LT.lt Nat _ _ _ ∧ _) => q; first | exact Nat.ne_of_gt q.1 | (replace q := And.right q; k_extra "CONJNE")))
        (k_with "ALL" => first | refine Mine.all_out (by with_reducible assumption) (by first | with_reducible assumption | omega) (by first | with_reducible assumption | omega) | refine Mine.all_gt (by with_reducible assumption) (by with_reducible assumption) | refine Mine.all_ne (by assumption) (by omega) | refine Mine.all_gt (by assumption) (by omega))
        (k_with "MEM" => ((first | refine Mine.mem_of ?_ | skip); with_reducible assumption))
        (k_with "RULES" => ((with_reducible show wpAny _ _ (eval (Expr.Name (PySem.Str.ofString "rules") _) _) _ _ _); refine nameX_C (by k_asm) (by rfl) (by k_mem) (by k_asm) ?_ (by rfl) (by rfl); k_whole))
        (k_with "ITEMC" => (k_here; refine item_led (by k_asm) (by k_mem) (by decide) (by decide) rfl ?_ (by with_unfolding_all rfl); k_whole))
        (k_with "LCOMP" => refine Mine.stop ?_)
        (k_with "SRCLP" => refine Mine.stop ?_)
        (k_with "ITEMJ" => ((refine item_at (by k_asm) (by k_mem) (by with_reducible assumption) (by with_reducible assumption) ?_ (by with_unfolding_all rfl); k_whole)))
        (k_with "SLICE" => ((dsimp only; refine slice_row (by k_asm) (by k_asm) (by k_mem) (by kmk_part) (by kmk_part) (by assumption) ?_ (by with_unfolding_all rfl) (by kmk_pure); k_whole); intro D7 h7 F7 N7 l7))
        try dsimp only
        try k_fold
        k_steps
        refine Mine.Stop.out ?_
        rename Fr _ _ _ _ => FB
        refine LCp.ListComp_P FB (by with_unfolding_all rfl) (by decide) (by rfl) (by decide) (by rfl) (by rfl) (by decide) ?_
        k_steps
        refine Mine.Stop.out ?_
        refine LCp.SrcLP.ledger (its := (rs.take j).toArray) (by rfl) (by k_asm) (by k_asm) (by k_mem) (by simp only [List.size_toArray]; exact Nat.le_trans (Nat.le_trans (List.length_take_le' _ _) hrs100) (by decide)) ?_
        intro g8
        refine CompRestP_inv (fun i zs => StrsAre zs ((R.take i).map (·.1))) (.inr ⟨_, by k_mem, rfl, _, rfl⟩) .nil ?_ ?_
        · rintro i2 zs v hi2 hzs hv2
          have hv3 : (rs.take j)[i2]? = some v := by simpa using hv2
          have hij : i2 < j := by
            have := (List.getElem?_eq_some_iff.mp hv3).1
            rw [List.length_take] at this; omega
          rw [List.getElem?_take_of_lt hij] at hv3
          obtain ⟨a3, ⟨who3, pat3⟩, rfl, hR3, t3, t4, hmem4⟩ := hRs.item hv3
          refine ⟨a3, _, .str who3 t3, .str pat3 t4, _, rfl, .tail _ (.tail _ (.tail _ (.tail _ (.tail _ (.tail _ (.tail _ (.tail _ (.tail _ (hmT _ hmem4))))))))), rfl, rfl, ?_⟩
          rintro I3 oI3 C3 oC3 D3 m₃ h3 tk3 E3 hO3 hw3 hw4 F3 N3 off3 ne3
          try dsimp only
          try k_fold
          k_steps
          refine TurnE.intro (by k_asm) (by assumption) (fun p hp => hp) ?_
          rw [List.take_add_one, hR3, List.map_append]
          exact hzs.append' (.cons _ _ .nil)
        · intro zs hzs
          unfold FinE
          intro D3 h3 tk3 F3 N3 off3
          have e9 : (List.take j rs).toArray.size = j := by
            rw [List.size_toArray, List.length_take]; omega
          rw [e9] at hzs
          refine notin_list_strs (lobj_list N3 (.head _)) hzs ?_
          cases hb : ((R.take j).map (·.1)).any (· == who) with
          | false =>
            rw [Bool.not_false]
            try dsimp only
            try k_fold
            k_steps
            exact TurnE.intro (by k_asm) (by assumption) (fun p hp => .tail _ (.tail _ hp)) (firsts_new hRj hb hys)
          | true =>
            rw [Bool.not_true]
            try dsimp only
            try k_fold
            k_steps
            exact TurnE.intro (by k_asm) (by assumption) (fun p hp => .tail _ (.tail _ hp)) (firsts_old hRj hb hys)
      · intro ys hys
        unfold FinE
        intro DE hE tkE FE NE offE
        rw [hrsl, List.take_length] at hys
        try clear FA
        try clear NL
        try clear F9
        try clear N9
        k_with_none
        (k_with "NE" => (refine neN ?_; (try dsimp only); with_reducible (first | assumption | exact Ne.symm (by assumption) | exact Nat.ne_of_lt (by assumption) | exact Nat.ne_of_gt (by assumption) | k_extra "CONJNE")))
        (k_with "CONJNE" => (rename (@LT.lt Nat _ _ _ ∧ _) => q; first | exact Nat.ne_of_gt q.1 | (replace q := And.right q; k_extra "CONJNE")))
        (k_with "ALL" => first | refine Mine.all_out (by with_reducible assumption) (by first | with_reducible assumption | omega) (by first | with_reducible assumption | omega) | refine Mine.all_gt (by with_reducible assumption) (by with_reducible assumption) | refine Mine.all_ne (by assumption) (by omega) | refine Mine.all_gt (by assumption) (by omega))
        (k_with "MEM" => ((first | refine Mine.mem_of ?_ | skip); with_reducible assumption))
        (k_with "RULES" => ((with_reducible show wpAny _ _ (eval (Expr.Name (PySem.Str.ofString "rules") _) _) _ _ _); refine nameX_C (by k_asm) (by rfl) (by k_mem) (by k_asm) ?_ (by rfl) (by rfl); k_whole))
        (k_with "ITEMC" => (k_here; refine item_led (by k_asm) (by k_mem) (by decide) (by decide) rfl ?_ (by with_unfolding_all rfl); k_whole))
        (k_with "EQREF" => refine Mine.stop ?_)
        k_steps
        refine Mine.Stop.out ?_
        refine eq_strs (ns := firsts R) (lobj_list NE (.tail _ (.head _))) (lobj_list NE (.head _)) (firsts_ok hgR) hSL hys (by ke_room) ?_
        k_steps
)
end Mine
end Law10

set_option maxRecDepth 100000 in
theorem PySem.Challenge.cw_il0136_01_holds : PySem.Challenge.rw_il0136_01.Holds :=
  Mine.law_holds
