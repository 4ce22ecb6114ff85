import PyProof.Rows.All
import Wide.All
import OpenK.AllK
import Wide.FinOn
import Lean
import PySem.Challenge.RW_yi0010_01
set_option Elab.async false
set_option linter.unusedVariables false
section
open PySem PySem.W PyProof.Rows
namespace Mine
def dum : PySem.Str := PySem.Str.ofString "x"
theorem dum_eq : dum = dum := rfl
name_quick tw2035085122514943519 for Mine.dum by Mine.dum_eq
name_quick tw8075568018651887793 for Mine.dum by Mine.dum_eq
name_quick tw5932643209090064906 for Mine.dum by Mine.dum_eq
name_quick tw1565318846834695087 for Mine.dum by Mine.dum_eq
name_quick tw6513919887733208093 for Mine.dum by Mine.dum_eq
name_quick tw1010255546594321568 for Mine.dum by Mine.dum_eq
name_quick tw9518749785886187100 for Mine.dum by Mine.dum_eq
name_quick tw13336175834630783545 for Mine.dum by Mine.dum_eq
name_quick tw11685182791687960590 for Mine.dum by Mine.dum_eq
name_quick tw14979626087600564940 for Mine.dum by Mine.dum_eq
name_quick tw15916391134991225584 for Mine.dum by Mine.dum_eq
name_quick tw5976474108018559520 for Mine.dum by Mine.dum_eq
name_quick tw17280976486791472633 for Mine.dum by Mine.dum_eq
name_quick tw17034738568684465715 for Mine.dum by Mine.dum_eq
name_quick tw4242893501424385820 for Mine.dum by Mine.dum_eq
name_quick tw13807232174902173590 for Mine.dum by Mine.dum_eq
name_quick tw910752464412581127 for Mine.dum by Mine.dum_eq
name_quick tw2711585505577850959 for Mine.dum by Mine.dum_eq
name_quick tw13987355940573415152 for Mine.dum by Mine.dum_eq
name_quick tw6004533443673955352 for Mine.dum by Mine.dum_eq
name_quick tw17517737089405305841 for Mine.dum by Mine.dum_eq
name_quick tw9674257727999782656 for Mine.dum by Mine.dum_eq
name_quick tw7009043117176579089 for Mine.dum by Mine.dum_eq
name_quick tw219737044198020058 for Mine.dum by Mine.dum_eq
name_quick tw9011979029575296479 for Mine.dum by Mine.dum_eq
name_quick tw9787396351842916947 for Mine.dum by Mine.dum_eq
name_quick tw7250012664060256230 for Mine.dum by Mine.dum_eq
name_quick tw43969757491396457 for Mine.dum by Mine.dum_eq
name_quick tw1291980286583624508 for Mine.dum by Mine.dum_eq
name_quick tw15560500314895047343 for Mine.dum by Mine.dum_eq
name_quick tw1258717718454355964 for Mine.dum by Mine.dum_eq
name_quick tw16145008321745377990 for Mine.dum by Mine.dum_eq
name_quick tw282004115355043989 for Mine.dum by Mine.dum_eq
name_quick tw17244072584429378644 for Mine.dum by Mine.dum_eq
name_quick tw13640514254501968386 for Mine.dum by Mine.dum_eq
name_quick tw17804436615005485693 for Mine.dum by Mine.dum_eq
name_quick tw15079194523842364033 for Mine.dum by Mine.dum_eq
name_quick tw10379131730601215995 for Mine.dum by Mine.dum_eq
name_quick tw3093977132361051618 for Mine.dum by Mine.dum_eq
name_quick tw4172830789200971933 for Mine.dum by Mine.dum_eq
name_quick tw7275051467321613617 for Mine.dum by Mine.dum_eq
name_quick tw17846936440860909165 for Mine.dum by Mine.dum_eq
name_quick tw12233582284571471492 for Mine.dum by Mine.dum_eq
name_quick tw17352973434858128600 for Mine.dum by Mine.dum_eq
name_quick tw17730448691065144110 for Mine.dum by Mine.dum_eq
name_quick tw3619232141914619222 for Mine.dum by Mine.dum_eq
name_quick tw10015664371746657536 for Mine.dum by Mine.dum_eq
name_quick tw1829445100760108279 for Mine.dum by Mine.dum_eq
name_quick tw1184552218554016812 for Mine.dum by Mine.dum_eq
name_quick tw9376109419431680627 for Mine.dum by Mine.dum_eq
name_quick tw189603312586018693 for Mine.dum by Mine.dum_eq
name_quick tw3766158894648301139 for Mine.dum by Mine.dum_eq
name_quick tw757081541053455785 for Mine.dum by Mine.dum_eq
name_quick tw682011567655089306 for Mine.dum by Mine.dum_eq
name_quick tw16413264400604254196 for Mine.dum by Mine.dum_eq
name_quick tw13471461260053382970 for Mine.dum by Mine.dum_eq
name_quick tw2948108419219029167 for Mine.dum by Mine.dum_eq
name_quick tw11306939235166856333 for Mine.dum by Mine.dum_eq
name_quick tw13180171748994924942 for Mine.dum by Mine.dum_eq
name_quick tw4011157648589011858 for Mine.dum by Mine.dum_eq
name_quick tw12268644228514654432 for Mine.dum by Mine.dum_eq
name_quick tw4407734736301137906 for Mine.dum by Mine.dum_eq
name_quick tw4434333111790514575 for Mine.dum by Mine.dum_eq
name_quick tw5978237884098788730 for Mine.dum by Mine.dum_eq
name_quick tw704327219915372674 for Mine.dum by Mine.dum_eq
name_quick tw9787463984185863102 for Mine.dum by Mine.dum_eq
name_quick tw6144853644547557980 for Mine.dum by Mine.dum_eq
name_quick tw18350330562280901221 for Mine.dum by Mine.dum_eq
name_quick tw10010936943081839664 for Mine.dum by Mine.dum_eq
name_quick tw12821735335276811757 for Mine.dum by Mine.dum_eq
name_quick tw7619357645376055252 for Mine.dum by Mine.dum_eq
name_quick tw14896874001708588922 for Mine.dum by Mine.dum_eq
name_quick tw9759809726879904816 for Mine.dum by Mine.dum_eq
name_quick tw151948405760981731 for Mine.dum by Mine.dum_eq
name_quick tw7035115661146626270 for Mine.dum by Mine.dum_eq
name_quick tw5732905514179830355 for Mine.dum by Mine.dum_eq
name_quick tw14311459727803291754 for Mine.dum by Mine.dum_eq
name_quick tw13607416678640721797 for Mine.dum by Mine.dum_eq
name_quick tw13215998728584607739 for Mine.dum by Mine.dum_eq
name_quick tw2968979199505139716 for Mine.dum by Mine.dum_eq
name_quick tw16741492637210864865 for Mine.dum by Mine.dum_eq
name_quick tw4278798014809849964 for Mine.dum by Mine.dum_eq
name_quick tw11130039905162102590 for Mine.dum by Mine.dum_eq
name_quick tw18101931140130867144 for Mine.dum by Mine.dum_eq
name_quick tw2193789692954389824 for Mine.dum by Mine.dum_eq
name_quick tw10073347824450446311 for Mine.dum by Mine.dum_eq
name_quick tw15007238320947547705 for Mine.dum by Mine.dum_eq
name_quick tw7585139358526817783 for Mine.dum by Mine.dum_eq
name_quick tw15168306246750427876 for Mine.dum by Mine.dum_eq
name_quick tw15560853006256673968 for Mine.dum by Mine.dum_eq
name_quick tw951843321253372498 for Mine.dum by Mine.dum_eq
name_quick tw12647630874787467225 for Mine.dum by Mine.dum_eq
name_quick tw14386061602966655976 for Mine.dum by Mine.dum_eq
name_quick tw3891137856419664920 for Mine.dum by Mine.dum_eq
name_quick tw17101871299007795629 for Mine.dum by Mine.dum_eq
name_quick tw13915792640404377917 for Mine.dum by Mine.dum_eq
name_quick tw16643379632663270332 for Mine.dum by Mine.dum_eq
name_quick tw13789449189825218787 for Mine.dum by Mine.dum_eq
name_quick tw16966814322356759819 for Mine.dum by Mine.dum_eq
name_quick tw4658958612460137192 for Mine.dum by Mine.dum_eq
name_quick tw8708707556590381134 for Mine.dum by Mine.dum_eq
name_quick tw17964007177503468958 for Mine.dum by Mine.dum_eq
name_quick tw6587116730350146372 for Mine.dum by Mine.dum_eq
name_quick tw16494616584097029746 for Mine.dum by Mine.dum_eq
name_quick tw7299951869573292228 for Mine.dum by Mine.dum_eq
name_quick tw17888162413812561239 for Mine.dum by Mine.dum_eq
name_quick tw14537914154153760125 for Mine.dum by Mine.dum_eq
name_quick tw5882768191206486792 for Mine.dum by Mine.dum_eq
name_quick tw4275521005467322725 for Mine.dum by Mine.dum_eq
name_quick tw14108194823987119177 for Mine.dum by Mine.dum_eq
name_quick tw3577408171920636059 for Mine.dum by Mine.dum_eq
name_quick tw912392155897948271 for Mine.dum by Mine.dum_eq
name_quick tw18260038339965228139 for Mine.dum by Mine.dum_eq
name_quick tw8902219603052485911 for Mine.dum by Mine.dum_eq
name_quick tw16180582048198870337 for Mine.dum by Mine.dum_eq
name_quick tw1320183511955256522 for Mine.dum by Mine.dum_eq
name_quick tw15806122291839087668 for Mine.dum by Mine.dum_eq
name_quick tw9979284746773624096 for Mine.dum by Mine.dum_eq
name_quick tw10939839348159177617 for Mine.dum by Mine.dum_eq
name_quick tw6589095468515690095 for Mine.dum by Mine.dum_eq
name_quick tw3820604794100220378 for Mine.dum by Mine.dum_eq
name_quick tw10948738476641704880 for Mine.dum by Mine.dum_eq
name_quick tw17975652961387846372 for Mine.dum by Mine.dum_eq
name_quick tw8032284361305108907 for Mine.dum by Mine.dum_eq
name_quick tw15278061642289888581 for Mine.dum by Mine.dum_eq
name_quick tw3698559305507148144 for Mine.dum by Mine.dum_eq
name_quick tw17274371674624000324 for Mine.dum by Mine.dum_eq
name_quick tw5357591511691535388 for Mine.dum by Mine.dum_eq
name_quick tw4527066259768149269 for Mine.dum by Mine.dum_eq
name_quick tw1055568401681811165 for Mine.dum by Mine.dum_eq
name_quick tw14333388528381170442 for Mine.dum by Mine.dum_eq
name_quick tw11853533878840232495 for Mine.dum by Mine.dum_eq
name_quick tw12825359941727978080 for Mine.dum by Mine.dum_eq
name_quick tw3362959441861295915 for Mine.dum by Mine.dum_eq
name_quick tw1370275717833778536 for Mine.dum by Mine.dum_eq
name_quick tw8579058602437062094 for Mine.dum by Mine.dum_eq
name_quick tw12393455550290869266 for Mine.dum by Mine.dum_eq
name_quick tw5068434257544371817 for Mine.dum by Mine.dum_eq
name_quick tw17111948838632640456 for Mine.dum by Mine.dum_eq
name_quick tw4319705520415482375 for Mine.dum by Mine.dum_eq
name_quick tw16817318245366136608 for Mine.dum by Mine.dum_eq
name_quick tw17552769576498331613 for Mine.dum by Mine.dum_eq
name_quick tw1735497430108182060 for Mine.dum by Mine.dum_eq
name_quick tw15444884592583069058 for Mine.dum by Mine.dum_eq
name_quick tw16947794391021106201 for Mine.dum by Mine.dum_eq
name_quick tw6711915476519705758 for Mine.dum by Mine.dum_eq
name_quick tw4978915544186085027 for Mine.dum by Mine.dum_eq
name_quick tw10007627690174824804 for Mine.dum by Mine.dum_eq
name_quick tw4292500188555128830 for Mine.dum by Mine.dum_eq
name_quick tw1749818173716722547 for Mine.dum by Mine.dum_eq
name_quick tw5823794197072137003 for Mine.dum by Mine.dum_eq
name_quick tw2315820567201803617 for Mine.dum by Mine.dum_eq
name_quick tw16531745337717519161 for Mine.dum by Mine.dum_eq
name_quick tw14884601019740666482 for Mine.dum by Mine.dum_eq
name_quick tw7496433998918960881 for Mine.dum by Mine.dum_eq
name_quick tw17069979004554194336 for Mine.dum by Mine.dum_eq
name_quick tw15902184279288820625 for Mine.dum by Mine.dum_eq
name_quick tw13912434898499826684 for Mine.dum by Mine.dum_eq
name_quick tw14834023430324568649 for Mine.dum by Mine.dum_eq
name_quick tw13016732220969518872 for Mine.dum by Mine.dum_eq
name_quick tw14778209649434054790 for Mine.dum by Mine.dum_eq
name_quick tw12659028871203227004 for Mine.dum by Mine.dum_eq
name_quick tw9931943479562821362 for Mine.dum by Mine.dum_eq
name_quick tw2905824091091238844 for Mine.dum by Mine.dum_eq
name_quick tw136631920214876835 for Mine.dum by Mine.dum_eq
name_quick tw2378363196638174374 for Mine.dum by Mine.dum_eq
name_quick tw5721027456603625697 for Mine.dum by Mine.dum_eq
name_quick tw12290603225136948437 for Mine.dum by Mine.dum_eq
name_quick tw6122645084068987007 for Mine.dum by Mine.dum_eq
name_quick tw15562837088269578035 for Mine.dum by Mine.dum_eq
name_quick tw1537898542681612871 for Mine.dum by Mine.dum_eq
name_quick tw15880737140895825463 for Mine.dum by Mine.dum_eq
name_quick tw14714103240675001986 for Mine.dum by Mine.dum_eq
name_quick tw1041845030581493396 for Mine.dum by Mine.dum_eq
name_quick tw2422670821966735624 for Mine.dum by Mine.dum_eq
name_quick tw8860024209350480642 for Mine.dum by Mine.dum_eq
name_quick tw8719427161674164953 for Mine.dum by Mine.dum_eq
name_quick tw7581816359482902497 for Mine.dum by Mine.dum_eq
name_quick tw9594665118957945026 for Mine.dum by Mine.dum_eq
name_quick tw3778451253796500701 for Mine.dum by Mine.dum_eq
name_quick tw9676229304581654039 for Mine.dum by Mine.dum_eq
name_quick tw17476080006546285661 for Mine.dum by Mine.dum_eq
name_quick tw11333186260410459676 for Mine.dum by Mine.dum_eq
name_quick tw15423634916342008072 for Mine.dum by Mine.dum_eq
name_quick tw16869277618539721502 for Mine.dum by Mine.dum_eq
name_quick tw9501820088010722379 for Mine.dum by Mine.dum_eq
name_quick tw2627984346626558326 for Mine.dum by Mine.dum_eq
name_quick tw3282434896037501709 for Mine.dum by Mine.dum_eq
name_quick tw16752143609539240740 for Mine.dum by Mine.dum_eq
name_quick tw183835017167291270 for Mine.dum by Mine.dum_eq
name_quick tw7198390536060210744 for Mine.dum by Mine.dum_eq
name_quick tw4075660801711882420 for Mine.dum by Mine.dum_eq
name_quick tw11519604305632133818 for Mine.dum by Mine.dum_eq
name_quick tw15823609455315575823 for Mine.dum by Mine.dum_eq
name_quick tw12898947447245864913 for Mine.dum by Mine.dum_eq
name_quick tw6426273055680023932 for Mine.dum by Mine.dum_eq
name_quick tw2460228577881660442 for Mine.dum by Mine.dum_eq
name_quick tw5189142188285759775 for Mine.dum by Mine.dum_eq
name_quick tw724751600484774222 for Mine.dum by Mine.dum_eq
name_quick tw2283851925072248500 for Mine.dum by Mine.dum_eq
name_quick tw17954471519018878134 for Mine.dum by Mine.dum_eq
name_quick tw4302124980754421698 for Mine.dum by Mine.dum_eq
name_quick tw11588390666370768167 for Mine.dum by Mine.dum_eq
name_quick tw6789855027759293466 for Mine.dum by Mine.dum_eq
name_quick tw5529568453561195837 for Mine.dum by Mine.dum_eq
name_quick tw12734952128020822468 for Mine.dum by Mine.dum_eq
name_quick tw667198328695590252 for Mine.dum by Mine.dum_eq
name_quick tw13314330512976039754 for Mine.dum by Mine.dum_eq
name_quick tw10919533547850550483 for Mine.dum by Mine.dum_eq
name_quick tw1574873078441994576 for Mine.dum by Mine.dum_eq
name_quick tw11817470609975844035 for Mine.dum by Mine.dum_eq
name_quick tw17000155066101142889 for Mine.dum by Mine.dum_eq
name_quick tw2354101950205528012 for Mine.dum by Mine.dum_eq
name_quick tw16439824349840649037 for Mine.dum by Mine.dum_eq
name_quick tw2334299552400917057 for Mine.dum by Mine.dum_eq
name_quick tw16339471991904476338 for Mine.dum by Mine.dum_eq
name_quick tw16593013826814733010 for Mine.dum by Mine.dum_eq
name_quick tw15490439104401381959 for Mine.dum by Mine.dum_eq
name_quick tw16643706677886111943 for Mine.dum by Mine.dum_eq
name_quick tw10887116778572429059 for Mine.dum by Mine.dum_eq
name_quick tw1419416864934026935 for Mine.dum by Mine.dum_eq
name_quick tw9300948228871686676 for Mine.dum by Mine.dum_eq
name_quick tw10323183001455561277 for Mine.dum by Mine.dum_eq
name_quick tw5349121933718820234 for Mine.dum by Mine.dum_eq
name_quick tw9136488742655976645 for Mine.dum by Mine.dum_eq
name_quick tw15919542637913265678 for Mine.dum by Mine.dum_eq
name_quick tw15980859228951719591 for Mine.dum by Mine.dum_eq
name_quick tw17532440430192770315 for Mine.dum by Mine.dum_eq
name_quick tw2670528217467546775 for Mine.dum by Mine.dum_eq
name_quick tw2478078296215019888 for Mine.dum by Mine.dum_eq
name_quick tw2611137233208623240 for Mine.dum by Mine.dum_eq
name_quick tw8206430501311747189 for Mine.dum by Mine.dum_eq
name_quick tw16296994325663420285 for Mine.dum by Mine.dum_eq
name_quick tw3105397867545767578 for Mine.dum by Mine.dum_eq
name_quick tw1402947280878808549 for Mine.dum by Mine.dum_eq
name_quick tw3976722010076183465 for Mine.dum by Mine.dum_eq
name_quick tw6909570525239066004 for Mine.dum by Mine.dum_eq
name_quick tw6722154040420286063 for Mine.dum by Mine.dum_eq
name_quick tw17988542015724977305 for Mine.dum by Mine.dum_eq
name_quick tw16846860572762119324 for Mine.dum by Mine.dum_eq
name_quick tw3972328310683599613 for Mine.dum by Mine.dum_eq
name_quick tw5396446701170858492 for Mine.dum by Mine.dum_eq
name_quick tw6679490504615227074 for Mine.dum by Mine.dum_eq
name_quick tw4936483359421988267 for Mine.dum by Mine.dum_eq
name_quick tw9763268239775435451 for Mine.dum by Mine.dum_eq
name_quick tw14168537005229113720 for Mine.dum by Mine.dum_eq
name_quick tw5697894365363955025 for Mine.dum by Mine.dum_eq
name_quick tw3442601649717412197 for Mine.dum by Mine.dum_eq
name_quick tw8693227569615203950 for Mine.dum by Mine.dum_eq
name_quick tw2902314222560053993 for Mine.dum by Mine.dum_eq
name_quick tw14821650378409806113 for Mine.dum by Mine.dum_eq
name_quick tw8753696776887207221 for Mine.dum by Mine.dum_eq
name_quick tw932993149863042379 for Mine.dum by Mine.dum_eq
name_quick tw3264259588550801142 for Mine.dum by Mine.dum_eq
name_quick tw18263319221461684349 for Mine.dum by Mine.dum_eq
name_quick tw6380047634161181297 for Mine.dum by Mine.dum_eq
name_quick tw14073706353221006472 for Mine.dum by Mine.dum_eq
name_quick tw13678640442995254988 for Mine.dum by Mine.dum_eq
name_quick tw1886563365779066154 for Mine.dum by Mine.dum_eq
name_quick tw11161088081135249708 for Mine.dum by Mine.dum_eq
name_quick tw1702518465993881591 for Mine.dum by Mine.dum_eq
name_quick tw4549333791460862111 for Mine.dum by Mine.dum_eq
name_quick tw6019396324639902685 for Mine.dum by Mine.dum_eq
name_quick tw2401699919119007470 for Mine.dum by Mine.dum_eq
name_quick tw8253183596043897158 for Mine.dum by Mine.dum_eq
name_quick tw6363645014702824404 for Mine.dum by Mine.dum_eq
name_quick tw14973007898608030118 for Mine.dum by Mine.dum_eq
name_quick tw8047920394858072898 for Mine.dum by Mine.dum_eq
name_quick tw17001327861769816259 for Mine.dum by Mine.dum_eq
name_quick tw9537544019596298400 for Mine.dum by Mine.dum_eq
name_quick tw14433975572909055671 for Mine.dum by Mine.dum_eq
name_quick tw5268983451555188008 for Mine.dum by Mine.dum_eq
name_quick tw14971970265804392439 for Mine.dum by Mine.dum_eq
name_quick tw3094477031063562474 for Mine.dum by Mine.dum_eq
name_quick tw17100903815162463580 for Mine.dum by Mine.dum_eq
name_quick tw15066959818950650227 for Mine.dum by Mine.dum_eq
name_quick tw14214133299417103183 for Mine.dum by Mine.dum_eq
name_quick tw4090926877573551719 for Mine.dum by Mine.dum_eq
name_quick tw1156252341971683116 for Mine.dum by Mine.dum_eq
name_quick tw16942194440817826258 for Mine.dum by Mine.dum_eq
name_quick tw12832477231654346042 for Mine.dum by Mine.dum_eq
name_quick tw9151444980202551346 for Mine.dum by Mine.dum_eq
name_quick tw313226197891681235 for Mine.dum by Mine.dum_eq
name_quick tw16018607276475445134 for Mine.dum by Mine.dum_eq
name_quick tw15034313371233782410 for Mine.dum by Mine.dum_eq
name_quick tw3152983702415266003 for Mine.dum by Mine.dum_eq
name_quick tw3436264866546951355 for Mine.dum by Mine.dum_eq
name_quick tw1706496860858754268 for Mine.dum by Mine.dum_eq
name_quick tw2862820112641550484 for Mine.dum by Mine.dum_eq
name_quick tw9396933662098498411 for Mine.dum by Mine.dum_eq
name_quick tw12488000419048109807 for Mine.dum by Mine.dum_eq
name_quick tw13254397897704925713 for Mine.dum by Mine.dum_eq
name_quick tw7269565832213808900 for Mine.dum by Mine.dum_eq
name_quick tw13776390136698705113 for Mine.dum by Mine.dum_eq
name_quick tw6550987210724342151 for Mine.dum by Mine.dum_eq
name_quick tw11186114360453789277 for Mine.dum by Mine.dum_eq
name_quick tw900395245841561262 for Mine.dum by Mine.dum_eq
name_quick tw6434265647005701932 for Mine.dum by Mine.dum_eq
name_quick tw11445135464325071761 for Mine.dum by Mine.dum_eq
name_quick tw4921902886906138986 for Mine.dum by Mine.dum_eq
name_quick tw11788150170368784547 for Mine.dum by Mine.dum_eq
name_quick tw7098571738820278039 for Mine.dum by Mine.dum_eq
name_quick tw14305139224198610471 for Mine.dum by Mine.dum_eq
name_quick tw3209381107111851631 for Mine.dum by Mine.dum_eq
name_quick tw12945451867199242903 for Mine.dum by Mine.dum_eq
name_quick tw8098380416015320538 for Mine.dum by Mine.dum_eq
name_quick tw11790162104776037713 for Mine.dum by Mine.dum_eq
name_quick tw16874561944515371726 for Mine.dum by Mine.dum_eq
name_quick tw11310463157757771331 for Mine.dum by Mine.dum_eq
name_quick tw4525517667737911620 for Mine.dum by Mine.dum_eq
name_quick tw15195428891847259777 for Mine.dum by Mine.dum_eq
name_quick tw12224578244612797663 for Mine.dum by Mine.dum_eq
name_quick tw9697512110049397445 for Mine.dum by Mine.dum_eq
name_quick tw16697116713213952808 for Mine.dum by Mine.dum_eq
name_quick tw608726401823008365 for Mine.dum by Mine.dum_eq
name_quick tw6148621092414575339 for Mine.dum by Mine.dum_eq
name_quick tw5345256250457102556 for Mine.dum by Mine.dum_eq
name_quick tw878741703135273975 for Mine.dum by Mine.dum_eq
name_quick tw5248340912204065574 for Mine.dum by Mine.dum_eq
name_quick tw1962928258387122110 for Mine.dum by Mine.dum_eq
name_quick tw16241802466949684156 for Mine.dum by Mine.dum_eq
name_quick tw9315938663221665524 for Mine.dum by Mine.dum_eq
name_quick tw10996506086634736982 for Mine.dum by Mine.dum_eq
name_quick tw6059929106960060952 for Mine.dum by Mine.dum_eq
name_quick tw4904739604578439355 for Mine.dum by Mine.dum_eq
name_quick tw1333364371103165705 for Mine.dum by Mine.dum_eq
name_quick tw1204117194425446250 for Mine.dum by Mine.dum_eq
name_quick tw6662432510661729299 for Mine.dum by Mine.dum_eq
name_quick tw12237943961548833269 for Mine.dum by Mine.dum_eq
name_quick tw2922074901204462755 for Mine.dum by Mine.dum_eq
name_quick tw15663404670287596823 for Mine.dum by Mine.dum_eq
name_quick tw8603108125212654177 for Mine.dum by Mine.dum_eq
name_quick tw11994158751524154303 for Mine.dum by Mine.dum_eq
name_quick tw17300597898927385350 for Mine.dum by Mine.dum_eq
name_quick tw13615603153576403970 for Mine.dum by Mine.dum_eq
name_quick tw4039474712603431140 for Mine.dum by Mine.dum_eq
name_quick tw1218959903707654005 for Mine.dum by Mine.dum_eq
name_quick tw11863081143760314161 for Mine.dum by Mine.dum_eq
name_quick tw11838138170533393997 for Mine.dum by Mine.dum_eq
name_quick tw7483462131439158144 for Mine.dum by Mine.dum_eq
name_quick tw10205541121877940668 for Mine.dum by Mine.dum_eq
name_quick tw7299303143086499733 for Mine.dum by Mine.dum_eq
name_quick tw16432479971616331241 for Mine.dum by Mine.dum_eq
name_quick tw7365555872484859036 for Mine.dum by Mine.dum_eq
name_quick tw17828083071136270317 for Mine.dum by Mine.dum_eq
name_quick tw8017206721242287953 for Mine.dum by Mine.dum_eq
name_quick tw6434138532213402376 for Mine.dum by Mine.dum_eq
name_quick tw9236875199018929784 for Mine.dum by Mine.dum_eq
name_quick tw14553827428707814869 for Mine.dum by Mine.dum_eq
name_quick tw1620339239838986703 for Mine.dum by Mine.dum_eq
name_quick tw2660918139993853925 for Mine.dum by Mine.dum_eq
name_quick tw558745408833754511 for Mine.dum by Mine.dum_eq
name_quick tw7581352650102555174 for Mine.dum by Mine.dum_eq
name_quick tw17532718790514356516 for Mine.dum by Mine.dum_eq
name_quick tw10833955939284561965 for Mine.dum by Mine.dum_eq
name_quick tw15323854079317868165 for Mine.dum by Mine.dum_eq
name_quick tw13141144453892091621 for Mine.dum by Mine.dum_eq
name_quick tw9948023125614773506 for Mine.dum by Mine.dum_eq
name_quick tw4933834842325187142 for Mine.dum by Mine.dum_eq
name_quick tw721709456127091705 for Mine.dum by Mine.dum_eq
name_quick tw3118938333895590913 for Mine.dum by Mine.dum_eq
name_quick tw11682084944484805031 for Mine.dum by Mine.dum_eq
name_quick tw9988325580192981579 for Mine.dum by Mine.dum_eq
name_quick tw17730428716208468724 for Mine.dum by Mine.dum_eq
name_quick tw1414301608579184545 for Mine.dum by Mine.dum_eq
name_quick tw14223099787259518943 for Mine.dum by Mine.dum_eq
name_quick tw17018628822417861297 for Mine.dum by Mine.dum_eq
name_quick tw15475462885187679331 for Mine.dum by Mine.dum_eq
name_quick tw5706481520468235054 for Mine.dum by Mine.dum_eq
name_quick tw8595292554425487202 for Mine.dum by Mine.dum_eq
name_quick tw11985326045990495214 for Mine.dum by Mine.dum_eq
name_quick tw12177639751122801600 for Mine.dum by Mine.dum_eq
name_quick tw5925582254088234700 for Mine.dum by Mine.dum_eq
name_quick tw11796506867022685745 for Mine.dum by Mine.dum_eq
name_quick tw6929956602132211858 for Mine.dum by Mine.dum_eq
name_quick tw16979880578912567463 for Mine.dum by Mine.dum_eq
name_quick tw13236226663087606529 for Mine.dum by Mine.dum_eq
name_quick tw325292655437039998 for Mine.dum by Mine.dum_eq
name_quick tw7783732958741208154 for Mine.dum by Mine.dum_eq
name_quick tw392140993173905013 for Mine.dum by Mine.dum_eq
name_quick tw18056578402003937789 for Mine.dum by Mine.dum_eq
name_quick tw7286323032743288035 for Mine.dum by Mine.dum_eq
name_quick tw10029231156530900338 for Mine.dum by Mine.dum_eq
name_quick tw8119918657739134586 for Mine.dum by Mine.dum_eq
name_quick tw18416463498863911781 for Mine.dum by Mine.dum_eq
name_quick tw11636919720809706868 for Mine.dum by Mine.dum_eq
name_quick tw12371321757623732685 for Mine.dum by Mine.dum_eq
name_quick tw11892598404827812706 for Mine.dum by Mine.dum_eq
name_quick tw8047484207015712433 for Mine.dum by Mine.dum_eq
name_quick tw8537084889766193716 for Mine.dum by Mine.dum_eq
name_quick tw17497748084772794779 for Mine.dum by Mine.dum_eq
name_quick tw4071324889030633612 for Mine.dum by Mine.dum_eq
name_quick tw12172078356533094185 for Mine.dum by Mine.dum_eq
name_quick tw3131671291697673992 for Mine.dum by Mine.dum_eq
name_quick tw662354867322794072 for Mine.dum by Mine.dum_eq
name_quick tw15376083050721069600 for Mine.dum by Mine.dum_eq
name_quick tw15112985482279097393 for Mine.dum by Mine.dum_eq
name_quick tw18340240734955500558 for Mine.dum by Mine.dum_eq
name_quick tw13809362725867891129 for Mine.dum by Mine.dum_eq
name_quick tw13002492023102617099 for Mine.dum by Mine.dum_eq
name_quick tw1763209079605825380 for Mine.dum by Mine.dum_eq
name_quick tw8459811325457737761 for Mine.dum by Mine.dum_eq
name_quick tw16437185098154296904 for Mine.dum by Mine.dum_eq
name_quick tw6967401301877209104 for Mine.dum by Mine.dum_eq
name_quick tw3386650904741475044 for Mine.dum by Mine.dum_eq
name_quick tw2951486255847992690 for Mine.dum by Mine.dum_eq
name_quick tw11707371222683016368 for Mine.dum by Mine.dum_eq
name_quick tw12850107946570832962 for Mine.dum by Mine.dum_eq
name_quick tw4558998842232669794 for Mine.dum by Mine.dum_eq
name_quick tw7892128664451923741 for Mine.dum by Mine.dum_eq
name_quick tw347637069881736656 for Mine.dum by Mine.dum_eq
name_quick tw1638017585896720355 for Mine.dum by Mine.dum_eq
name_quick tw8400853705098224536 for Mine.dum by Mine.dum_eq
name_quick tw4681523508651956083 for Mine.dum by Mine.dum_eq
name_quick tw18220123701641295943 for Mine.dum by Mine.dum_eq
name_quick tw15989221874845977423 for Mine.dum by Mine.dum_eq
name_quick tw17765544955259793912 for Mine.dum by Mine.dum_eq
name_quick tw11957962974430299695 for Mine.dum by Mine.dum_eq
name_quick tw13759679279233594173 for Mine.dum by Mine.dum_eq
name_quick tw2039238271031011813 for Mine.dum by Mine.dum_eq
name_quick tw10706342367453228570 for Mine.dum by Mine.dum_eq
name_quick tw6448080314894763839 for Mine.dum by Mine.dum_eq
name_quick tw2447775223705975068 for Mine.dum by Mine.dum_eq
name_quick tw4679858250743294509 for Mine.dum by Mine.dum_eq
name_quick tw15542503528162795033 for Mine.dum by Mine.dum_eq
name_quick tw12329403913580668285 for Mine.dum by Mine.dum_eq
name_quick tw441327347791068078 for Mine.dum by Mine.dum_eq
name_quick tw9908251947323293946 for Mine.dum by Mine.dum_eq
name_quick tw5032809538720368765 for Mine.dum by Mine.dum_eq
name_quick tw18345786424863182364 for Mine.dum by Mine.dum_eq
name_quick tw505943868828395459 for Mine.dum by Mine.dum_eq
name_quick tw6792406925840432001 for Mine.dum by Mine.dum_eq
name_quick tw9407582987413476825 for Mine.dum by Mine.dum_eq
name_quick tw10670733350059645105 for Mine.dum by Mine.dum_eq
name_quick tw7276740287692124622 for Mine.dum by Mine.dum_eq
name_quick tw17520869792638436183 for Mine.dum by Mine.dum_eq
name_quick tw10314498396905981064 for Mine.dum by Mine.dum_eq
name_quick tw9626621113073979434 for Mine.dum by Mine.dum_eq
name_quick tw1092655722715705105 for Mine.dum by Mine.dum_eq
name_quick tw16644606511662114574 for Mine.dum by Mine.dum_eq
name_quick tw14224011070414065920 for Mine.dum by Mine.dum_eq
name_quick tw6213141578215901147 for Mine.dum by Mine.dum_eq
name_quick tw14210447440969649564 for Mine.dum by Mine.dum_eq
name_quick tw5701610774189311196 for Mine.dum by Mine.dum_eq
name_quick tw17913803186225011329 for Mine.dum by Mine.dum_eq
name_quick tw6090905460779295987 for Mine.dum by Mine.dum_eq
name_quick tw11420187438672877268 for Mine.dum by Mine.dum_eq
name_quick tw12866136484021002089 for Mine.dum by Mine.dum_eq
name_quick tw5111356299099525756 for Mine.dum by Mine.dum_eq
name_quick tw9821368406582625841 for Mine.dum by Mine.dum_eq
name_quick tw14112274594779413971 for Mine.dum by Mine.dum_eq
name_quick tw11939915149646268982 for Mine.dum by Mine.dum_eq
name_quick tw8642067239939848140 for Mine.dum by Mine.dum_eq
name_quick tw11013792430000457035 for Mine.dum by Mine.dum_eq
name_quick tw5518745428033880147 for Mine.dum by Mine.dum_eq
name_quick tw7745614565497352828 for Mine.dum by Mine.dum_eq
name_quick tw17537794083376710389 for Mine.dum by Mine.dum_eq
name_quick tw6683783046931543321 for Mine.dum by Mine.dum_eq
name_quick tw4797165386629745026 for Mine.dum by Mine.dum_eq
name_quick tw12022618010286034681 for Mine.dum by Mine.dum_eq
name_quick tw2599325451414397859 for Mine.dum by Mine.dum_eq
name_quick tw10057510723706494237 for Mine.dum by Mine.dum_eq
name_quick tw470574548607681690 for Mine.dum by Mine.dum_eq
name_quick tw11452132507678324671 for Mine.dum by Mine.dum_eq
name_quick tw2408619945344806742 for Mine.dum by Mine.dum_eq
name_quick tw3560238982266916124 for Mine.dum by Mine.dum_eq
name_quick tw8424611434330503625 for Mine.dum by Mine.dum_eq
name_quick tw13900631225919944168 for Mine.dum by Mine.dum_eq
name_quick tw14023627001141898710 for Mine.dum by Mine.dum_eq
name_quick tw8376441433122354887 for Mine.dum by Mine.dum_eq
name_quick tw15894407043143930727 for Mine.dum by Mine.dum_eq
name_quick tw18350638575300117064 for Mine.dum by Mine.dum_eq
name_quick tw12635813782599140982 for Mine.dum by Mine.dum_eq
name_quick tw4224760802259116069 for Mine.dum by Mine.dum_eq
name_quick tw11729385059970357855 for Mine.dum by Mine.dum_eq
name_quick tw13036272033356848781 for Mine.dum by Mine.dum_eq
name_quick tw10227693086864044499 for Mine.dum by Mine.dum_eq
name_quick tw14326252917377295143 for Mine.dum by Mine.dum_eq
name_quick tw6654550962395885724 for Mine.dum by Mine.dum_eq
name_quick tw6245536207120538393 for Mine.dum by Mine.dum_eq
name_quick tw16414604833108395602 for Mine.dum by Mine.dum_eq
name_quick tw3470799630455053000 for Mine.dum by Mine.dum_eq
name_quick tw16349804527192203551 for Mine.dum by Mine.dum_eq
name_quick tw15450981722951097364 for Mine.dum by Mine.dum_eq
name_quick tw7788680626742099145 for Mine.dum by Mine.dum_eq
name_quick tw5200128776193632040 for Mine.dum by Mine.dum_eq
name_quick tw12450158673883907302 for Mine.dum by Mine.dum_eq
name_quick tw1377046205977697930 for Mine.dum by Mine.dum_eq
name_quick tw9564595351457756722 for Mine.dum by Mine.dum_eq
name_quick tw7323676302269181137 for Mine.dum by Mine.dum_eq
name_quick tw9305782018832362445 for Mine.dum by Mine.dum_eq
name_quick tw387338674003428930 for Mine.dum by Mine.dum_eq
name_quick tw17000458434675057986 for Mine.dum by Mine.dum_eq
name_quick tw5135500740108067664 for Mine.dum by Mine.dum_eq
name_quick tw2719445374943340272 for Mine.dum by Mine.dum_eq
name_quick tw3880421473898291048 for Mine.dum by Mine.dum_eq
name_quick tw16792545251062261874 for Mine.dum by Mine.dum_eq
name_quick tw15480198773659482676 for Mine.dum by Mine.dum_eq
name_quick tw1772237422875290029 for Mine.dum by Mine.dum_eq
name_quick tw7650934615059315214 for Mine.dum by Mine.dum_eq
name_quick tw16049961110935095269 for Mine.dum by Mine.dum_eq
name_quick tw7802139600951554647 for Mine.dum by Mine.dum_eq
name_quick tw9467589175468403638 for Mine.dum by Mine.dum_eq
name_quick tw10470071008263537045 for Mine.dum by Mine.dum_eq
name_quick tw117213463901210413 for Mine.dum by Mine.dum_eq
name_quick tw17863021456227041891 for Mine.dum by Mine.dum_eq
name_quick tw4775785305629353868 for Mine.dum by Mine.dum_eq
name_quick tw10317580896714288900 for Mine.dum by Mine.dum_eq
name_quick tw14530364306720264245 for Mine.dum by Mine.dum_eq
name_quick tw5902227825499142635 for Mine.dum by Mine.dum_eq
name_quick tw8989982439271903415 for Mine.dum by Mine.dum_eq
name_quick tw3764465048917985505 for Mine.dum by Mine.dum_eq
name_quick tw9800571698397750058 for Mine.dum by Mine.dum_eq
name_quick tw11566699232636054958 for Mine.dum by Mine.dum_eq
name_quick tw6714822604882049554 for Mine.dum by Mine.dum_eq
name_quick tw10424941004445345732 for Mine.dum by Mine.dum_eq
name_quick tw16176465441171805009 for Mine.dum by Mine.dum_eq
set_option maxRecDepth 100000 in
set_option maxHeartbeats 8000000 in
open_top hd for PySem.Challenge.rw_yi0010_01
end Mine
end
section
open PySem PySem.W PyProof.Rows
namespace Mine
section
set_option compiler.extract_closed false
local macro_rules | `(tactic| walk_at $s:str) => `(tactic| k_extra $s)
local macro_rules | `(tactic| k_mem) => `(tactic| k_extra "mem")
local macro_rules | `(tactic| k_all) => `(tactic| k_extra "all")
local macro_rules | `(tactic| k_room) => `(tactic| k_extra "room")
section
open PySem PySem.W PyProof.Rows
set_option maxRecDepth 100000

theorem powm_gives (t u v : Tok) (b : Int) (hb : ¬ b < 0) :
    Gives (Builtin.«int.__pow__» ⟨[.int 17 t, .int b u, .int 3329 v], []⟩) (.int (Builtin.powMod 17 b.natAbs 3329 : Nat)) :=
  .of_wp fun M A E s Q h => by obtain ⟨hp, g, d, tk, os⟩ := s; wp_walk; rw [if_neg (by simp)]; exact ⟨_, rfl, h⟩
theorem powinv_gives (t u v : Tok) :
    Gives (Builtin.«int.__pow__» ⟨[.int 128 t, .int (-1) u, .int 3329 v], []⟩) (.int 3303) :=
  .of_wp fun M A E s Q h => by obtain ⟨hp, g, d, tk, os⟩ := s; wp_walk; rw [if_neg (by simp)]; rw [show (Builtin.powMod ((0 - ((3329 : Int).natAbs : Int) / ((128 % ((3329 : Int).natAbs : Int)).toNat : Int) * 1) % ((3329 : Int).natAbs : Int)).toNat (-1 : Int).natAbs (3329 : Int).natAbs) = 3303 from by decide +kernel]; exact ⟨_, rfl, h⟩

theorem entry_pow : entryFor table "pow" = some Builtin.«pow» := entryFor_of_tree (by kernel_rfl)
theorem kind_pow : builtinKind "pow" = none := by decide +kernel
theorem plain_pow : plainId "pow" = true := by decide +kernel
theorem args_pow3 (a b c : Value) : argsOk "pow" ⟨[a, b, c], []⟩ := by unfold argsOk; kernel_rfl


seal Builtin.«int.__pow__» in
theorem pow3_call {prog : Program} {w : World} {A : Around} {E : Value → Shared → Prop} {s : Shared} {a b m r : Int} {t u v : Tok} {Q : Value → Shared → Prop}
    (g : Gives (Builtin.«int.__pow__» ⟨[.int a t, .int b u, .int m v], []⟩) (.int r)) (h : Q (.int r s.toks) { s with toks := s.toks + 1 }) :
    wpAny (model prog w) A (call (.builtin "int.__pow__") (.int a t :: [.int b u, .int m v])) Q E s :=
  call_gives F.slot_int_pow (typeIs_int s a t) F.entry_int_pow (F.args_int_pow_3 _ _ _) g h

theorem slot_pow : Slot "int" (Str.ofString "__pow__") "int.__pow__" := by
  have h := F.slot_int_pow
  rwa [show PySem.dunder "pow" = Str.ofString "__pow__" from by decide +kernel] at h

seal Builtin.«int.__pow__» in
theorem pow3_special {prog : Program} {w : World} {A : Around} {E : Value → Shared → Prop} {s : Shared} {a b m r : Int} {t u v : Tok} {Q : Option Value → Shared → Prop}
    (g : Gives (Builtin.«int.__pow__» ⟨[.int a t, .int b u, .int m v], []⟩) (.int r)) (h : Q (some (.int r s.toks)) { s with toks := s.toks + 1 }) :
    wpAny (model prog w) A (callSpecial? (.int a t) (Str.ofString "__pow__") [.int b u, .int m v]) Q E s := by
  have h1 := typeIs_int s a t
  have h2 := slot_pow
  have h3 : wpAny (model prog w) A (call (.builtin "int.__pow__") (.int a t :: [.int b u, .int m v]) []) (fun v => Q (some v)) E s := pow3_call (Q := fun v => Q (some v)) g h
  clear g h
  exact @wpAny_callSpecial?_slot (model prog w) A E s (.int a t) "int" (Str.ofString "__pow__") "int.__pow__" [.int b u, .int m v] [] Q h1 h2 h3

theorem pow3_meets {a b m r : Int} {t u v : Tok} (g : Gives (Builtin.«int.__pow__» ⟨[.int a t, .int b u, .int m v], []⟩) (.int r)) :
    Meets (Builtin.«pow» ⟨[.int a t, .int b u, .int m v], []⟩) (fun A R s => R (.ok (.ret (.int r s.toks))) { s with toks := s.toks + 1 }) :=
  .of_wp fun prog w A R s h => by
    unfold Builtin.«pow»
    refine wpAny_bind (wpAny_of_eq (a := [some (.int a t), some (.int b u), some (.int m v)]) rfl ?_)
    dsimp only [Option.getD]
    refine wpAny_bind (wpAny_rule ?_)
    refine wpAny_bind (wpAny_typeOf (typeIs_int s a t) ?_)
    refine wpAny_bind (wpAny_of_eq slot_pow.lookup ?_)
    dsimp only
    refine wpAny_bind ?_
    refine pow3_special (u := u) (v := v) g ?_
    dsimp only
    rw [if_pos (by rfl)]
    exact wpAny_pure ⟨_, rfl, h⟩

seal Builtin.«pow» in
theorem pow3_int {prog : Program} {w : World} {A : Around} {E : Value → Shared → Prop} {s : Shared} {a b m r : Int} {t u v : Tok} {Q : Value → Shared → Prop}
    (g : Gives (Builtin.«int.__pow__» ⟨[.int a t, .int b u, .int m v], []⟩) (.int r)) (h : Q (.int r s.toks) { s with toks := s.toks + 1 }) :
    wpAny (model prog w) A (call (.builtin "pow") [.int a t, .int b u, .int m v]) Q E s :=
  call_function_meets kind_pow plain_pow entry_pow (args_pow3 _ _ _) (pow3_meets g) h
end
section
open PySem PySem.W PyProof.Rows
set_option maxRecDepth 100000

/-- the text that bin(k & 127) gives -/
noncomputable def brA (k : Int) : PySem.Str := baseText "0b" 2 (Builtin.bitAnd k (2 ^ Int.toNat 7 - 1))
noncomputable def brB (k : Int) : PySem.Str := ⟨((slicePicked (brA k) (some (2, 0)) none none).filterMap ((brA k).cps[·]?)).toArray⟩
noncomputable def brC (k : Int) : PySem.Str := Txt.zfill (brB k) 7
noncomputable def brD (k : Int) : PySem.Str := ⟨((slicePicked (brC k) none none (some (-1, 0))).filterMap ((brC k).cps[·]?)).toArray⟩
noncomputable def brN (k : Int) : Nat := (brD k).cps.toList.foldl (fun acc c => acc * 2 + (c - 48)) 0
noncomputable def brV (k : Int) : Int := (brN k : Nat)

noncomputable def isVal (x : (int_private% "Numeral")) (i : Int) : Bool :=
  (int_private% "Numeral.rec") (motive := fun _ => Bool) false (fun _ => false) false (fun j => j == i) x
theorem isVal_eq {x : (int_private% "Numeral")} {i : Int} (h : isVal x i = true) : x = (int_private% "Numeral.value") i := by
  cases x <;> simp_all [isVal]

/-- all that is asked of one k -/
noncomputable def brOk (k : Int) : Bool :=
  decide ((brA k).length ≤ 9)
  && ((1 : Int) == 1 && (slicePicked (brA k) (some (2, 0)) none none).length == (brA k).length) == false
  && decide ((brB k).length ≤ 9) && decide ((brC k).length ≤ 9) && decide ((brD k).length ≤ 9)
  && (brD k).cps.all (· < 128)
  && decide (((brD k).cps.toList.takeWhile (· != 0)) = (brD k).cps.toList)
  && isVal ((int_private% "readNumeral") 0 2 (brD k).cps.toList) (brV k)
  && decide (brN k < 128)

theorem brOk_all : ∀ n : Fin 128, brOk (n.val : Int) = true := by decide +kernel

theorem brOk_of {k : Int} (h0 : 0 ≤ k) (h1 : k < 128) : brOk k = true := by
  have := brOk_all ⟨k.toNat, by omega⟩
  rwa [show (((⟨k.toNat, by omega⟩ : Fin 128).val : Nat) : Int) = k from by simp; omega] at this

structure BrOk (k : Int) : Prop where
  a : (brA k).length ≤ 9
  ab : ((1 : Int) == 1 && (slicePicked (brA k) (some (2, 0)) none none).length == (brA k).length) = false
  b : (brB k).length ≤ 9
  c : (brC k).length ≤ 9
  d : (brD k).length ≤ 9
  d1 : (brD k).cps.all (· < 128) = true
  d2 : ((brD k).cps.toList.takeWhile (· != 0)) = (brD k).cps.toList
  d3 : (int_private% "readNumeral") 0 2 (brD k).cps.toList = (int_private% "Numeral.value") (brV k)
  n : brN k < 128

theorem BrOk.of {k : Int} (h0 : 0 ≤ k) (h1 : k < 128) : BrOk k := by
  have h := brOk_of h0 h1
  unfold brOk at h
  simp only [Bool.and_eq_true, decide_eq_true_eq] at h
  obtain ⟨⟨⟨⟨⟨⟨⟨⟨a, ab⟩, b⟩, c⟩, d⟩, d1⟩, d2⟩, d3⟩, n⟩ := h
  exact ⟨a, eq_of_beq ab, b, c, d, d1, d2, isVal_eq d3, n⟩

section
variable {prog : Program} {w : World} {A : Around} {E : Value → Shared → Prop} {k : Int} {t u : Tok} {h₀ L : _} {m : PySem.Str → Option Value} {news : List (Addr × Obj)} {Q : Value → Shared → Prop} {value slice : PySem.Expr}
  {hp : Heap} {g : Array GenState} {dr : Drawn} {tk : Nat} {os : OsState}

theorem br_bin (h0 : 0 ≤ k) (h1 : k < 128) (hq : ∀ x, x = brA k → Q (.str x tk) ⟨hp, g, dr, tk + 1, os⟩) :
    wpAny (model prog w) A (call (.builtin "bin") [.int (Builtin.bitAnd k (2 ^ Int.toNat 7 - 1)) t]) Q E ⟨hp, g, dr, tk, os⟩ :=
  P.bin_of_int (Q := Q) (hq _ rfl) (Nat.le_trans (BrOk.of h0 h1).a (by rw [sizeLine_eq]; omega))

theorem br_slice {x y : PySem.Str} {l u st : Option (Int × Tok)} (h0 : ((st.map (·.1)).getD 1 == 0) = false)
    (hw : ((st.map (·.1)).getD 1 == 1 && (slicePicked x l u st).length == x.length) = false)
    (hy : (⟨((slicePicked x l u st).filterMap (x.cps[·]?)).toArray⟩ : PySem.Str) = y) (hz : y.length ≤ 9)
    (hF : Fr h₀ L hp m) (hN : News h₀ L hp news)
    (h : ∀ h' t' k, Fr h₀ L h' m → News h₀ L h' news → Q (.str y t') ⟨h', g, dr, k, os⟩)
    (hs : subscripted slice false (.str x t) (.ref hp.objs.size) = operate [.ref hp.objs.size, .str x t] (getItem (.str x t) (.ref hp.objs.size)))
    (ht : ∀ r, letTemporaryGo value (.str x t) r = pure ()) :
    wpAny (model prog w) A (subscriptTail value slice (.str x t) (.ref hp.objs.size)) Q E ⟨hp.push { cls := .type "slice", data := .fields #[partValue l, partValue u, partValue st] }, g, dr, tk, os⟩ := by
  refine tail_of_ItemOn (s := ⟨hp.push { cls := .type "slice", data := .fields #[partValue l, partValue u, partValue st] }, g, dr, tk, os⟩) ⟨"str", _, F.slot_str_getitem.lookup, typeIs_str _ _ _, wpAny_getItem_str_slice (l := l) (u := u) (st := st) ⟨_, Heap.get?_push_size _ rfl, rfl, rfl⟩ h0 ?_⟩ hs ht
  unfold sliceMade
  rw [hw, if_neg (by simp), hy]
  have a := keptFrN (h₀ := h₀) (L := L) (m := m) (news := news) hp { cls := .type "slice", data := .fields #[partValue l, partValue u, partValue st] } ⟨hF, hN⟩
  exact ⟨Nat.le_trans hz (by rw [sizeLine_eq]; omega), h _ _ _ a.1 a.2⟩

theorem br_slice2 {x : PySem.Str} (hx : x = brA k) (h0 : 0 ≤ k) (h1 : k < 128) (hF : Fr h₀ L hp m) (hN : News h₀ L hp news)
    (h : ∀ h' t' k', Fr h₀ L h' m → News h₀ L h' news → ∀ y, y = brB k → Q (.str y t') ⟨h', g, dr, k', os⟩)
    (hs : subscripted slice false (.str x t) (.ref hp.objs.size) = operate [.ref hp.objs.size, .str x t] (getItem (.str x t) (.ref hp.objs.size)))
    (ht : ∀ r, letTemporaryGo value (.str x t) r = pure ()) :
    wpAny (model prog w) A (subscriptTail value slice (.str x t) (.ref hp.objs.size)) Q E ⟨hp.push { cls := .type "slice", data := .fields #[.int 2 u, .none, .none] }, g, dr, tk, os⟩ := by
  subst hx
  exact br_slice (l := some (2, u)) (u := none) (st := none) (y := brB k) rfl (BrOk.of h0 h1).ab rfl (BrOk.of h0 h1).b hF hN (fun h' t' k' a b => h h' t' k' a b _ rfl) hs ht

theorem br_sliceR {x : PySem.Str} (hx : x = brC k) (h0 : 0 ≤ k) (h1 : k < 128) (hF : Fr h₀ L hp m) (hN : News h₀ L hp news)
    (h : ∀ h' t' k', Fr h₀ L h' m → News h₀ L h' news → ∀ y, y = brD k → Q (.str y t') ⟨h', g, dr, k', os⟩)
    (hs : subscripted slice false (.str x t) (.ref hp.objs.size) = operate [.ref hp.objs.size, .str x t] (getItem (.str x t) (.ref hp.objs.size)))
    (ht : ∀ r, letTemporaryGo value (.str x t) r = pure ()) :
    wpAny (model prog w) A (subscriptTail value slice (.str x t) (.ref hp.objs.size)) Q E ⟨hp.push { cls := .type "slice", data := .fields #[.none, .none, .int (-1) u] }, g, dr, tk, os⟩ := by
  subst hx
  exact br_slice (l := none) (u := none) (st := some (-1, u)) (y := brD k) rfl rfl rfl (BrOk.of h0 h1).d hF hN (fun h' t' k' a b => h h' t' k' a b _ rfl) hs ht

theorem br_zfill0 {x : PySem.Str} {i : Int} {s : Shared} (hp : PadOk i = true) (hl : (Txt.zfill x i).length ≤ sizeLine) (h : ∀ t' k', Q (.str (Txt.zfill x i) t') { s with toks := k' }) :
    wpAny (model prog w) A (call (.builtin "str.zfill") (.str x t :: [.int i u])) Q E s := by
  refine call_gives F.slot_str_zfill (typeIs_str _ _ _) F.entry_str_zfill (F.args_str_zfill_2 _ _) (gives_str_zfill x i t u (PadOk.parts hp).1 (PadOk.parts hp).2) ?_
  unfold Txt.zfill at h hl
  split
  · rename_i hh
    rw [if_pos hh] at h
    exact h _ _
  · rename_i hh
    rw [if_neg hh] at h hl
    exact ⟨hl, h _ _⟩

theorem br_zfill {x : PySem.Str} (hx : x = brB k) (h0 : 0 ≤ k) (h1 : k < 128) (h : ∀ t' k' y, y = brC k → Q (.str y t') ⟨hp, g, dr, k', os⟩) :
    wpAny (model prog w) A (call (.builtin "str.zfill") [.str x t, .int 7 u]) Q E ⟨hp, g, dr, tk, os⟩ := by
  subst hx
  exact br_zfill0 (by decide +kernel) (Nat.le_trans (BrOk.of h0 h1).c (by rw [sizeLine_eq]; omega)) (fun t' k' => h t' k' _ rfl)
end
end
section
open PySem PySem.W PyProof.Rows
set_option maxRecDepth 100000

theorem from_text2 {M : Model} {A : Around} {E : Value → Shared → Prop} {s : Shared} {Q : Value → Shared → Prop} {v : Value} {text : List Nat} {n : Int}
    (h2 : text.takeWhile (· != 0) = text) (hl : text.length ≤ 640) (hr : (int_private% "readNumeral") 0 2 text = (int_private% "Numeral.value") n)
    (h : Q (.int n s.toks) { s with toks := s.toks + 1 }) :
    wpAny M A ((int_private% "intFromText") v text 2) Q E s := by
  obtain ⟨hp, g, d, tk, os⟩ := s
  have hl' : (text.takeWhile (· != 0)).length ≤ 640 := by rw [h2]; exact hl
  have hr' : (int_private% "readNumeral") 0 2 (text.takeWhile (· != 0)) = (int_private% "Numeral.value") n := by rw [h2]; exact hr
  have ha : ((text.takeWhile (· != 0)).length == text.length) = true := by rw [h2]; simp
  clear h2 hl hr
  repeat (any_goals (first
    | assumption
    | (with_reducible refine wpAny_ite_true (decide_eq_true hl') ?_)
    | (with_reducible refine wpAny_ite_true (decide_eq_true ha) ?_)
    | wp_step))
  all_goals (try rw [hr'])
  all_goals (try dsimp only)
  repeat (any_goals (first
    | assumption
    | (with_reducible refine wpAny_ite_true (decide_eq_true hl') ?_)
    | (with_reducible refine wpAny_ite_true (decide_eq_true ha) ?_)
    | wp_step))

set_option maxHeartbeats 4000000 in
theorem gives_text2 {x : PySem.Str} {u t : Tok} {n : Int} (hl : x.cps.toList.length ≤ 640) (h1 : x.cps.all (· < 128) = true) (h2 : x.cps.toList.takeWhile (· != 0) = x.cps.toList)
    (h3 : (int_private% "readNumeral") 0 2 x.cps.toList = (int_private% "Numeral.value") n) :
    Gives (Builtin.«int.__new__» ⟨[.type "int", .str x u, .int 2 t], []⟩) (.int n) :=
  .of_wp fun M A E s Q h => by
    obtain ⟨hp, g, d, tk, os⟩ := s
    have f1 := F.conv_sub_int
    have f2 := F.madeHere_int
    have hn : numTextOf x = x.cps.toList := by unfold numTextOf; rw [h1]; rfl
    iterate 14 (any_goals (first
      | assumption
      | wp_step))
    refine wpAny_of_eq (a := PUnit.unit) rfl ?_
    dsimp only [List.head?, List.getElem?_cons_succ, List.getElem?_cons_zero]
    change wpAny M A (Builtin.Int.intIndex "int.__new__" (Value.int 2 t) >>= _) _ _ _
    refine wpAny_bind (wpAny_of_eq (a := (2 : Int)) rfl ?_)
    rw [if_neg (by decide)]
    change wpAny M A ((int_private% "numeralText?") (.str x u) >>= _) _ _ _
    refine wpAny_bind (wpAny_of_eq (a := some (numTextOf x)) rfl ?_)
    rw [hn]
    dsimp only
    refine wpAny_bind (from_text2 h2 hl h3 ?_)
    rw [if_pos (by rfl)]
    exact wpAny_pure ⟨_, rfl, h⟩

theorem typeCall_int_2 (a b : Value) : checkTypeCall "int" ⟨[a, b], []⟩ = pure () := by kernel_rfl
theorem newCall_int_2 (a b : Value) : checkBuiltinCall "int.__new__" ⟨[.type "int", a, b], []⟩ = pure () := by kernel_rfl
theorem initArgs_2 (obj a b : Value) : argsOk "object.__init__" ⟨[obj, a, b], []⟩ := by unfold argsOk; kernel_rfl

section
variable {prog : Program} {w : World} {A : Around} {E : Value → Shared → Prop} {k : Int} {t u : Tok} {Q : Value → Shared → Prop} {hp : Heap} {g : Array GenState} {dr : Drawn} {tk : Nat} {os : OsState}
seal Builtin.«int.__new__» in
theorem int_text2 {x : PySem.Str} {n : Int} {s : Shared} (hg : Gives (Builtin.«int.__new__» ⟨[.type "int", .str x u, .int 2 t], []⟩) (.int n)) (h : Q (.int n s.toks) { s with toks := s.toks + 1 }) :
    wpAny (model prog w) A (call (.type "int") [.str x u, .int 2 t]) Q E s :=
  callType_new F.called_int F.newNe_int (typeCall_int_2 _ _) (newCall_int_2 _ _) (fun obj => initArgs_2 obj _ _) F.entry_int_new hg.meets (show (Made.int n).post _ s from ⟨rfl, h⟩)

theorem br_int {x : PySem.Str} (hx : x = brD k) (h0 : 0 ≤ k) (h1 : k < 128) (h : Q (.int (brV k) tk) ⟨hp, g, dr, tk + 1, os⟩) :
    wpAny (model prog w) A (call (.type "int") [.str x u, .int 2 t]) Q E ⟨hp, g, dr, tk, os⟩ := by
  subst hx
  have b := BrOk.of h0 h1
  refine int_text2 (s := ⟨hp, g, dr, tk, os⟩) (gives_text2 ?_ b.d1 b.d2 b.d3) h
  have := b.d
  unfold PySem.Str.length at this
  rw [Array.length_toList]; omega
/-- the table of zetas -/
noncomputable def zeta (k : Int) : Int := (Builtin.powMod 17 (brV k).natAbs 3329 : Nat)
theorem br_pow (h : Q (.int (zeta k) tk) ⟨hp, g, dr, tk + 1, os⟩) {v : Tok} :
    wpAny (model prog w) A (call (.builtin "pow") [.int 17 t, .int (brV k) u, .int 3329 v]) Q E ⟨hp, g, dr, tk, os⟩ :=
  pow3_int (s := ⟨hp, g, dr, tk, os⟩) (powm_gives t u v (brV k) (by unfold brV; omega)) h
theorem inv_pow (h : Q (.int 3303 tk) ⟨hp, g, dr, tk + 1, os⟩) {v : Tok} :
    wpAny (model prog w) A (call (.builtin "pow") [.int 128 t, .int (-1) u, .int 3329 v]) Q E ⟨hp, g, dr, tk, os⟩ :=
  pow3_int (s := ⟨hp, g, dr, tk, os⟩) (powinv_gives t u v) h
end
end
section
/-! The plain law: from_ntt after to_ntt is the identity modulo 3329. No program in sight. -/
set_option autoImplicit false

/-- one butterfly forth, as the code does it, item by item -/
noncomputable def step1 (z l : Int) (xs : List Int) (j : Int) : List Int :=
  (xs.set (j + l).toNat (xs.getD j.toNat 0 - z * xs.getD (j + l).toNat 0)).set j.toNat
    ((xs.set (j + l).toNat (xs.getD j.toNat 0 - z * xs.getD (j + l).toNat 0)).getD j.toNat 0 + z * xs.getD (j + l).toNat 0)

/-- one butterfly back -/
noncomputable def back0 (l : Int) (xs : List Int) (j : Int) : List Int := xs.set j.toNat (xs.getD j.toNat 0 + xs.getD (j + l).toNat 0)
noncomputable def back2 (l t : Int) (xs : List Int) (j : Int) : List Int := xs.set (j + l).toNat (xs.getD (j + l).toNat 0 - t)
noncomputable def back3 (z l : Int) (xs : List Int) (j : Int) : List Int := xs.set (j + l).toNat (z * xs.getD (j + l).toNat 0)
noncomputable def back1 (z l : Int) (xs : List Int) (j : Int) : List Int := back3 z l (back2 l (xs.getD j.toNat 0) (back0 l xs j) j) j

noncomputable def upTo (a : Int) (n : Nat) : List Int := (List.range n).map fun (i : Nat) => a + (i : Int)
theorem upTo_succ (a : Int) (n : Nat) : upTo a (n + 1) = upTo a n ++ [a + (n : Int)] := by
  simp [upTo, List.range_succ]
theorem upTo_length (a : Int) (n : Nat) : (upTo a n).length = n := by simp [upTo]

theorem getD_set (xs : List Int) (j i : Nat) (v : Int) : (xs.set j v).getD i 0 = if i = j ∧ j < xs.length then v else xs.getD i 0 := by
  simp only [List.getD_eq_getElem?_getD, List.getElem?_set]
  by_cases h : j = i
  · subst h
    by_cases hj : j < xs.length
    · simp [hj]
    · simp [hj]
  · have : ¬ (i = j ∧ j < xs.length) := by omega
    rw [if_neg this, if_neg h]

theorem step1_len (z l : Int) (xs : List Int) (j : Int) : (step1 z l xs j).length = xs.length := by simp [step1]
theorem back1_len (z l : Int) (xs : List Int) (j : Int) : (back1 z l xs j).length = xs.length := by simp [back1, back0, back2, back3]
theorem fold_len {f : List Int → Int → List Int} (hf : ∀ xs j, (f xs j).length = xs.length) : ∀ (js : List Int) (xs : List Int), (js.foldl f xs).length = xs.length
  | [], _ => rfl
  | j :: r, xs => by rw [List.foldl_cons, fold_len hf r, hf]

theorem step1_at (z : Int) (l j : Nat) (xs : List Int) (hx : xs.length = 256) (hl : 0 < l) (hj : j + l < 256) (i : Nat) :
    (step1 z (l : Int) xs (j : Int)).getD i 0 = if i = j then xs.getD j 0 + z * xs.getD (j + l) 0 else if i = j + l then xs.getD j 0 - z * xs.getD (j + l) 0 else xs.getD i 0 := by
  have e1 : ((j : Int) + (l : Int)).toNat = j + l := by omega
  have e2 : ((j : Int)).toNat = j := by omega
  unfold step1
  rw [e1, e2]
  simp only [getD_set, List.length_set, hx]
  by_cases h1 : i = j
  · subst h1
    have : ¬ (i = i + l ∧ i + l < 256) := by omega
    rw [if_pos ⟨rfl, by omega⟩, if_neg this, if_pos rfl]
  · rw [if_neg (by omega), if_neg h1]
    by_cases h2 : i = j + l
    · rw [if_pos ⟨h2, by omega⟩, if_pos h2]
    · rw [if_neg (by omega), if_neg h2]

theorem back1_at (z : Int) (l j : Nat) (xs : List Int) (hx : xs.length = 256) (hl : 0 < l) (hj : j + l < 256) (i : Nat) :
    (back1 z (l : Int) xs (j : Int)).getD i 0 = if i = j then xs.getD j 0 + xs.getD (j + l) 0 else if i = j + l then z * (xs.getD (j + l) 0 - xs.getD j 0) else xs.getD i 0 := by
  have e1 : ((j : Int) + (l : Int)).toNat = j + l := by omega
  have e2 : ((j : Int)).toNat = j := by omega
  unfold back1 back3 back2 back0
  rw [e1, e2]
  simp only [getD_set, List.length_set, hx]
  have n1 : ¬ (j + l = j ∧ j < 256) := by omega
  by_cases h1 : i = j
  · subst h1
    have n2 : ¬ (i = i + l ∧ i + l < 256) := by omega
    rw [if_neg n2, if_neg n2, if_pos ⟨rfl, by omega⟩, if_pos rfl]
  · rw [if_neg h1]
    by_cases h2 : i = j + l
    · subst h2
      have n3 : ¬ (l = 0) := by omega
      simp [n3, hj]
    · rw [if_neg (by omega), if_neg (by omega), if_neg (by omega), if_neg h2]

/-- the layers: blocks b of n butterflies -/
noncomputable def inner (z l start : Int) (n : Nat) (xs : List Int) : List Int := (upTo start n).foldl (step1 z l) xs
noncomputable def innerB (z l start : Int) (n : Nat) (xs : List Int) : List Int := (upTo start n).foldl (back1 z l) xs
theorem inner_succ (z l start : Int) (n : Nat) (xs : List Int) : inner z l start (n + 1) xs = step1 z l (inner z l start n xs) (start + (n : Int)) := by
  unfold inner; rw [upTo_succ, List.foldl_append]; rfl
theorem innerB_succ (z l start : Int) (n : Nat) (xs : List Int) : innerB z l start (n + 1) xs = back1 z l (innerB z l start n xs) (start + (n : Int)) := by
  unfold innerB; rw [upTo_succ, List.foldl_append]; rfl
theorem inner_len (z l start : Int) (n : Nat) (xs : List Int) : (inner z l start n xs).length = xs.length := fold_len (step1_len z l) _ _
theorem innerB_len (z l start : Int) (n : Nat) (xs : List Int) : (innerB z l start n xs).length = xs.length := fold_len (back1_len z l) _ _

noncomputable def mid (zt : Int → Int) (l : Nat) (k0 : Int) : Nat → List Int → List Int
  | 0, xs => xs
  | b + 1, xs => inner (zt (k0 + (b : Int))) l (((2 * l * b : Nat)) : Int) l (mid zt l k0 b xs)
noncomputable def midB (zt : Int → Int) (l : Nat) (k0 : Int) : Nat → List Int → List Int
  | 0, xs => xs
  | b + 1, xs => innerB (zt (k0 - (b : Int))) l (((2 * l * b : Nat)) : Int) l (midB zt l k0 b xs)
theorem mid_len (zt : Int → Int) (l : Nat) (k0 : Int) (b : Nat) (xs : List Int) : (mid zt l k0 b xs).length = xs.length := by
  induction b with
  | zero => rfl
  | succ b ih => unfold mid; rw [inner_len, ih]
theorem midB_len (zt : Int → Int) (l : Nat) (k0 : Int) (b : Nat) (xs : List Int) : (midB zt l k0 b xs).length = xs.length := by
  induction b with
  | zero => rfl
  | succ b ih => unfold midB; rw [innerB_len, ih]

/-- a layer, closed, when all places below J are done -/
noncomputable def fl (z : Nat → Int) (l : Nat) (f : Nat → Int) (J i : Nat) : Int :=
  if i % (2 * l) < l then (if i < J then f i + z (i / (2 * l)) * f (i + l) else f i) else (if i < J + l then f (i - l) - z (i / (2 * l)) * f i else f i)
noncomputable def bl (z : Nat → Int) (l : Nat) (f : Nat → Int) (J i : Nat) : Int :=
  if i % (2 * l) < l then (if i < J then f i + f (i + l) else f i) else (if i < J + l then z (i / (2 * l)) * (f i - f (i - l)) else f i)

noncomputable def IsL (l : Nat) : Prop := l = 128 ∨ l = 64 ∨ l = 32 ∨ l = 16 ∨ l = 8 ∨ l = 4 ∨ l = 2

theorem IsL_pos {l : Nat} (hl : IsL l) : 0 < l := by
  rcases hl with rfl | rfl | rfl | rfl | rfl | rfl | rfl <;> decide
theorem IsL_nb {l : Nat} (hl : IsL l) : ∃ nb, 2 * l * nb = 256 := by
  rcases hl with rfl | rfl | rfl | rfl | rfl | rfl | rfl
  · exact ⟨1, rfl⟩
  · exact ⟨2, rfl⟩
  · exact ⟨4, rfl⟩
  · exact ⟨8, rfl⟩
  · exact ⟨16, rfl⟩
  · exact ⟨32, rfl⟩
  · exact ⟨64, rfl⟩
theorem dm_mod {l b n : Nat} (h : n < 2 * l) : (2 * l * b + n) % (2 * l) = n := by
  rw [Nat.mul_add_mod]; exact Nat.mod_eq_of_lt h
theorem dm_div {l b n : Nat} (h : n < 2 * l) : (2 * l * b + n) / (2 * l) = b := by
  rw [Nat.mul_add_div (Nat.lt_of_le_of_lt (Nat.zero_le n) h), Nat.div_eq_of_lt h]; rfl
theorem at_place {l b n : Nat} (hl : IsL l) (hn : n < l) (hb : 2 * l * (b + 1) ≤ 256) : (2 * l * b + n) % (2 * l) < l ∧ (2 * l * b + n) / (2 * l) = b ∧ ¬ (2 * l * b + n + l) % (2 * l) < l ∧ (2 * l * b + n + l) / (2 * l) = b ∧ 2 * l * b + n + l < 256 ∧ 0 < l := by
  have p := IsL_pos hl
  rw [Nat.mul_succ] at hb
  rw [Nat.add_assoc (2 * l * b) n l, dm_mod (by omega), dm_div (by omega), dm_mod (by omega), dm_div (by omega)]
  generalize 2 * l * b = z at hb ⊢
  omega

theorem other_place {l b n i : Nat} (hl : IsL l) (hn : n < l) (h1 : i ≠ 2 * l * b + n) (h2 : i ≠ 2 * l * b + n + l) :
    (i % (2 * l) < l → (i < 2 * l * b + n ↔ i < 2 * l * b + (n + 1))) ∧ (¬ i % (2 * l) < l → (i < 2 * l * b + n + l ↔ i < 2 * l * b + (n + 1) + l)) := by
  generalize 2 * l * b = z at *
  generalize i % (2 * l) = y at *
  clear hl hn
  omega

theorem inner_closed (zt : Nat → Int) {l b : Nat} (hl : IsL l) (hb : 2 * l * (b + 1) ≤ 256) (f : Nat → Int) (xs : List Int) (hx : xs.length = 256) (h : ∀ i, i < 256 → xs.getD i 0 = fl zt l f (2 * l * b) i) :
    ∀ n, n ≤ l → ∀ i, i < 256 → (inner (zt b) l ((2 * l * b : Nat) : Int) n xs).getD i 0 = fl zt l f (2 * l * b + n) i := by
  intro n
  induction n with
  | zero => intro _ i hi; simpa [inner, innerB, upTo] using h i hi
  | succ n ih =>
    intro hn i hi
    have ih := ih (by omega)
    have P := at_place (b := b) (n := n) hl (by omega) hb
    obtain ⟨p1, p2, p3, p4, p5, p6⟩ := P
    rw [inner_succ, show (((2 * l * b : Nat) : Int) + (n : Int)) = ((2 * l * b + n : Nat) : Int) by omega]
    rw [step1_at _ l _ _ (by rw [inner_len, hx]) p6 p5]
    rw [ih _ (by omega), ih _ (by omega)]
    have a1 : fl zt l f (2 * l * b + n) (2 * l * b + n) = f (2 * l * b + n) := by
      unfold fl; rw [if_pos p1, if_neg (by omega)]
    have a2 : fl zt l f (2 * l * b + n) (2 * l * b + n + l) = f (2 * l * b + n + l) := by
      unfold fl; rw [if_neg p3, if_neg (by omega)]
    rw [a1, a2]
    by_cases c1 : i = 2 * l * b + n
    · subst c1
      rw [if_pos rfl]
      unfold fl
      rw [if_pos p1, if_pos (by omega), p2]
    · rw [if_neg c1]
      by_cases c2 : i = 2 * l * b + n + l
      · subst c2
        rw [if_pos rfl]
        unfold fl
        rw [if_neg p3, if_pos (by omega), p4, show 2 * l * b + n + l - l = 2 * l * b + n by omega]
      · rw [if_neg c2, ih i hi]
        have O := other_place (b := b) (n := n) hl (by omega) c1 c2
        unfold fl
        by_cases c3 : i % (2 * l) < l
        · rw [if_pos c3, if_pos c3]
          have := O.1 c3
          by_cases c4 : i < 2 * l * b + n
          · rw [if_pos c4, if_pos (this.mp c4)]
          · rw [if_neg c4, if_neg (fun x => c4 (this.mpr x))]
        · rw [if_neg c3, if_neg c3]
          have := O.2 c3
          by_cases c4 : i < 2 * l * b + n + l
          · rw [if_pos c4, if_pos (this.mp c4)]
          · rw [if_neg c4, if_neg (fun x => c4 (this.mpr x))]

theorem innerB_closed (zt : Nat → Int) {l b : Nat} (hl : IsL l) (hb : 2 * l * (b + 1) ≤ 256) (f : Nat → Int) (xs : List Int) (hx : xs.length = 256) (h : ∀ i, i < 256 → xs.getD i 0 = bl zt l f (2 * l * b) i) :
    ∀ n, n ≤ l → ∀ i, i < 256 → (innerB (zt b) l ((2 * l * b : Nat) : Int) n xs).getD i 0 = bl zt l f (2 * l * b + n) i := by
  intro n
  induction n with
  | zero => intro _ i hi; simpa [inner, innerB, upTo] using h i hi
  | succ n ih =>
    intro hn i hi
    have ih := ih (by omega)
    have P := at_place (b := b) (n := n) hl (by omega) hb
    obtain ⟨p1, p2, p3, p4, p5, p6⟩ := P
    rw [innerB_succ, show (((2 * l * b : Nat) : Int) + (n : Int)) = ((2 * l * b + n : Nat) : Int) by omega]
    rw [back1_at _ l _ _ (by rw [innerB_len, hx]) p6 p5]
    rw [ih _ (by omega), ih _ (by omega)]
    have a1 : bl zt l f (2 * l * b + n) (2 * l * b + n) = f (2 * l * b + n) := by
      unfold bl; rw [if_pos p1, if_neg (by omega)]
    have a2 : bl zt l f (2 * l * b + n) (2 * l * b + n + l) = f (2 * l * b + n + l) := by
      unfold bl; rw [if_neg p3, if_neg (by omega)]
    rw [a1, a2]
    by_cases c1 : i = 2 * l * b + n
    · subst c1
      rw [if_pos rfl]
      unfold bl
      rw [if_pos p1, if_pos (by omega)]
    · rw [if_neg c1]
      by_cases c2 : i = 2 * l * b + n + l
      · subst c2
        rw [if_pos rfl]
        unfold bl
        rw [if_neg p3, if_pos (by omega), p4, show 2 * l * b + n + l - l = 2 * l * b + n by omega]
      · rw [if_neg c2, ih i hi]
        have O := other_place (b := b) (n := n) hl (by omega) c1 c2
        unfold bl
        by_cases c3 : i % (2 * l) < l
        · rw [if_pos c3, if_pos c3]
          have := O.1 c3
          by_cases c4 : i < 2 * l * b + n
          · rw [if_pos c4, if_pos (this.mp c4)]
          · rw [if_neg c4, if_neg (fun x => c4 (this.mpr x))]
        · rw [if_neg c3, if_neg c3]
          have := O.2 c3
          by_cases c4 : i < 2 * l * b + n + l
          · rw [if_pos c4, if_pos (this.mp c4)]
          · rw [if_neg c4, if_neg (fun x => c4 (this.mpr x))]

theorem next_block {l b i : Nat} (hl : IsL l) : (i % (2 * l) < l → (i < 2 * l * b + l ↔ i < 2 * l * (b + 1))) ∧ (¬ i % (2 * l) < l → (i < 2 * l * b + l + l ↔ i < 2 * l * (b + 1) + l)) := by
  have p := IsL_pos hl
  have e := Nat.div_add_mod i (2 * l)
  have r := Nat.mod_lt i (show 2 * l > 0 by omega)
  rw [Nat.mul_succ]
  generalize i / (2 * l) = q at *
  generalize i % (2 * l) = y at *
  rcases Nat.lt_or_ge b q with g | g
  · have g2 := Nat.mul_le_mul_left (2 * l) (Nat.succ_le_of_lt g)
    rw [Nat.mul_succ] at g2
    generalize 2 * l * q = u at *
    generalize 2 * l * b = z at *
    clear hl g
    omega
  · have g2 := Nat.mul_le_mul_left (2 * l) g
    generalize 2 * l * q = u at *
    generalize 2 * l * b = z at *
    clear hl g
    omega
theorem fl_next (zt : Nat → Int) {l b : Nat} (hl : IsL l) (f : Nat → Int) (i : Nat) : fl zt l f (2 * l * b + l) i = fl zt l f (2 * l * (b + 1)) i := by
  have N := next_block (b := b) (i := i) hl
  unfold fl
  by_cases c3 : i % (2 * l) < l
  · rw [if_pos c3, if_pos c3]; have := N.1 c3
    by_cases c4 : i < 2 * l * b + l
    · rw [if_pos c4, if_pos (this.mp c4)]
    · rw [if_neg c4, if_neg (fun x => c4 (this.mpr x))]
  · rw [if_neg c3, if_neg c3]; have := N.2 c3
    by_cases c4 : i < 2 * l * b + l + l
    · rw [if_pos c4, if_pos (this.mp c4)]
    · rw [if_neg c4, if_neg (fun x => c4 (this.mpr x))]
theorem bl_next (zt : Nat → Int) {l b : Nat} (hl : IsL l) (f : Nat → Int) (i : Nat) : bl zt l f (2 * l * b + l) i = bl zt l f (2 * l * (b + 1)) i := by
  have N := next_block (b := b) (i := i) hl
  unfold bl
  by_cases c3 : i % (2 * l) < l
  · rw [if_pos c3, if_pos c3]; have := N.1 c3
    by_cases c4 : i < 2 * l * b + l
    · rw [if_pos c4, if_pos (this.mp c4)]
    · rw [if_neg c4, if_neg (fun x => c4 (this.mpr x))]
  · rw [if_neg c3, if_neg c3]; have := N.2 c3
    by_cases c4 : i < 2 * l * b + l + l
    · rw [if_pos c4, if_pos (this.mp c4)]
    · rw [if_neg c4, if_neg (fun x => c4 (this.mpr x))]

theorem first_block {l i : Nat} (hl : IsL l) : (i % (2 * l) < l → ¬ i < 0) ∧ (¬ i % (2 * l) < l → ¬ i < 0 + l) := by
  refine ⟨fun _ => Nat.not_lt_zero i, fun h g => h ?_⟩
  rw [Nat.zero_add] at g
  rw [Nat.mod_eq_of_lt (by omega)]
  exact g

theorem mid_closed (zt : Int → Int) {l : Nat} (hl : IsL l) (k0 : Int) (xs : List Int) (hx : xs.length = 256) :
    ∀ b, 2 * l * b ≤ 256 → ∀ i, i < 256 → (mid zt l k0 b xs).getD i 0 = fl (fun b => zt (k0 + (b : Int))) l (fun i => xs.getD i 0) (2 * l * b) i := by
  intro b
  induction b with
  | zero =>
    intro _ i _
    have Z := first_block (i := i) hl
    unfold mid fl
    rw [Nat.mul_zero]
    by_cases c : i % (2 * l) < l
    · rw [if_pos c, if_neg (Z.1 c)]
    · rw [if_neg c, if_neg (Z.2 c)]
  | succ b ih =>
    intro hb i hi
    have hb' : 2 * l * b ≤ 256 := Nat.le_trans (Nat.mul_le_mul_left _ (Nat.le_succ b)) hb
    unfold mid
    rw [← fl_next _ hl]
    exact inner_closed (fun b => zt (k0 + (b : Int))) hl hb _ _ (by rw [mid_len, hx]) (ih hb') l (Nat.le_refl _) i hi
theorem midB_closed (zt : Int → Int) {l : Nat} (hl : IsL l) (k0 : Int) (xs : List Int) (hx : xs.length = 256) :
    ∀ b, 2 * l * b ≤ 256 → ∀ i, i < 256 → (midB zt l k0 b xs).getD i 0 = bl (fun b => zt (k0 - (b : Int))) l (fun i => xs.getD i 0) (2 * l * b) i := by
  intro b
  induction b with
  | zero =>
    intro _ i _
    have Z := first_block (i := i) hl
    unfold midB bl
    rw [Nat.mul_zero]
    by_cases c : i % (2 * l) < l
    · rw [if_pos c, if_neg (Z.1 c)]
    · rw [if_neg c, if_neg (Z.2 c)]
  | succ b ih =>
    intro hb i hi
    have hb' : 2 * l * b ≤ 256 := Nat.le_trans (Nat.mul_le_mul_left _ (Nat.le_succ b)) hb
    unfold midB
    rw [← bl_next _ hl]
    exact innerB_closed (fun b => zt (k0 - (b : Int))) hl hb _ _ (by rw [midB_len, hx]) (ih hb') l (Nat.le_refl _) i hi
theorem up_place {l i : Nat} (hl : IsL l) (hi : i < 256) (h : i % (2 * l) < l) : ¬ (i + l) % (2 * l) < l ∧ (i + l) / (2 * l) = i / (2 * l) ∧ i + l < 256 ∧ i + l - l = i := by
  have p := IsL_pos hl
  obtain ⟨nb, hn⟩ := IsL_nb hl
  have e := Nat.div_add_mod i (2 * l)
  have e2 : i + l = 2 * l * (i / (2 * l)) + (i % (2 * l) + l) := by rw [← Nat.add_assoc, e]
  have g : i / (2 * l) < nb := Nat.div_lt_of_lt_mul (by rw [hn]; exact hi)
  have g2 := Nat.mul_le_mul_left (2 * l) (Nat.succ_le_of_lt g)
  rw [hn, Nat.mul_succ] at g2
  generalize i % (2 * l) = y at *
  rw [e2, dm_mod (by omega), dm_div (by omega), ← e2]
  generalize 2 * l * (i / (2 * l)) = z at *
  clear hl hn g
  omega
theorem down_place {l i : Nat} (hl : IsL l) (hi : i < 256) (h : ¬ i % (2 * l) < l) : (i - l) % (2 * l) < l ∧ (i - l) / (2 * l) = i / (2 * l) ∧ i - l < 256 ∧ i - l + l = i := by
  have p := IsL_pos hl
  have e := Nat.div_add_mod i (2 * l)
  have r := Nat.mod_lt i (show 2 * l > 0 by omega)
  have e2 : i - l = 2 * l * (i / (2 * l)) + (i % (2 * l) - l) := by
    generalize 2 * l * (i / (2 * l)) = z at e ⊢; generalize i % (2 * l) = y at h e ⊢; clear hl r; omega
  generalize i % (2 * l) = y at *
  rw [e2, dm_mod (by omega), dm_div (by omega), ← e2]
  generalize 2 * l * (i / (2 * l)) = z at *
  clear hl
  omega
theorem block_lt {l nb i : Nat} (hl : IsL l) (hn : 2 * l * nb = 256) (hi : i < 256) : i / (2 * l) < nb := by
  exact Nat.div_lt_of_lt_mul (by rw [hn]; exact hi)

noncomputable def Near (c : Int) (ys xs : List Int) : Prop := ∀ i, i < 256 → ∃ q, ys.getD i 0 = c * xs.getD i 0 + 3329 * q

theorem undo_lo (a b z c q r : Int) : (c * (a + z * b) + 3329 * q) + (c * (a - z * b) + 3329 * r) = (2 * c) * a + 3329 * (q + r) := by grind
theorem undo_hi (a b z z' c q r m : Int) (h : z * z' = 3329 * m + 3328) :
    z' * ((c * (a - z * b) + 3329 * q) - (c * (a + z * b) + 3329 * r)) = (2 * c) * b + 3329 * (z' * (q - r) - 2 * c * (m + 1) * b) := by
  have : z' * ((c * (a - z * b) + 3329 * q) - (c * (a + z * b) + 3329 * r)) = - (2 * c * b) * (z * z') + 3329 * (z' * (q - r)) := by grind
  rw [this, h]; grind

theorem layer_undo (zt : Int → Int) {l nb : Nat} (hl : IsL l) (hn : 2 * l * nb = 256) (hz : ∀ b : Nat, b < nb → (zt ((nb : Int) + b) * zt ((2 * nb - 1 : Nat) - (b : Int))) % 3329 = 3328)
    {c : Int} {xs ys : List Int} (hx : xs.length = 256) (hy : ys.length = 256) (h : Near c ys (mid zt l nb nb xs)) : Near (2 * c) (midB zt l ((2 * nb - 1 : Nat) : Int) nb ys) xs := by
  intro i hi
  have hb := block_lt hl hn hi
  have E : ∀ i, i < 256 → (mid zt l nb nb xs).getD i 0 = if i % (2 * l) < l then xs.getD i 0 + zt ((nb : Int) + (i / (2 * l) : Nat)) * xs.getD (i + l) 0 else xs.getD (i - l) 0 - zt ((nb : Int) + (i / (2 * l) : Nat)) * xs.getD i 0 := by
    intro i hi
    rw [mid_closed zt hl nb xs hx nb (by omega) i hi, hn]
    unfold fl
    by_cases c3 : i % (2 * l) < l
    · rw [if_pos c3, if_pos c3, if_pos hi]
    · rw [if_neg c3, if_neg c3, if_pos (by omega)]
  rw [midB_closed zt hl _ ys hy nb (by omega) i hi, hn]
  unfold bl
  by_cases c3 : i % (2 * l) < l
  · rw [if_pos c3, if_pos hi]
    obtain ⟨u1, u2, u3, u4⟩ := up_place hl hi c3
    obtain ⟨q, hq⟩ := h i hi
    obtain ⟨r, hr⟩ := h (i + l) u3
    rw [E i hi, if_pos c3] at hq
    rw [E (i + l) u3, if_neg u1, u2, u4] at hr
    exact ⟨q + r, by dsimp only; rw [hq, hr]; exact undo_lo _ _ _ _ _ _⟩
  · rw [if_neg c3, if_pos (by omega)]
    obtain ⟨u1, u2, u3, u4⟩ := down_place hl hi c3
    obtain ⟨q, hq⟩ := h i hi
    obtain ⟨r, hr⟩ := h (i - l) u3
    rw [E i hi, if_neg c3] at hq
    rw [E (i - l) u3, if_pos u1, u2, u4] at hr
    have hzz := hz _ hb
    have hm : zt ((nb : Int) + (i / (2 * l) : Nat)) * zt ((2 * nb - 1 : Nat) - ((i / (2 * l) : Nat) : Int)) = 3329 * ((zt ((nb : Int) + (i / (2 * l) : Nat)) * zt ((2 * nb - 1 : Nat) - ((i / (2 * l) : Nat) : Int))) / 3329) + 3328 := by omega
    exact ⟨_, by dsimp only; rw [hq, hr]; exact undo_hi _ _ _ _ _ _ _ _ hm⟩

/-- to_ntt ahead of its last loop; from_ntt ahead of its last loop -/
noncomputable def forth (zt : Int → Int) (xs : List Int) : List Int :=
  mid zt 2 64 64 (mid zt 4 32 32 (mid zt 8 16 16 (mid zt 16 8 8 (mid zt 32 4 4 (mid zt 64 2 2 (mid zt 128 1 1 xs))))))
noncomputable def back (zt : Int → Int) (ys : List Int) : List Int :=
  midB zt 128 1 1 (midB zt 64 3 2 (midB zt 32 7 4 (midB zt 16 15 8 (midB zt 8 31 16 (midB zt 4 63 32 (midB zt 2 127 64 ys))))))

noncomputable def ZOk (zt : Int → Int) : Prop := ∀ nb : Nat, nb ≤ 64 → ∀ b : Nat, b < nb → (nb = 1 ∨ nb = 2 ∨ nb = 4 ∨ nb = 8 ∨ nb = 16 ∨ nb = 32 ∨ nb = 64) → (zt ((nb : Int) + b) * zt ((2 * nb - 1 : Nat) - (b : Int))) % 3329 = 3328

theorem forth_len (zt : Int → Int) (xs : List Int) : (forth zt xs).length = xs.length := by unfold forth; simp only [mid_len]
theorem back_len (zt : Int → Int) (xs : List Int) : (back zt xs).length = xs.length := by unfold back; simp only [midB_len]

theorem back_forth (zt : Int → Int) (hz : ZOk zt) {xs ys : List Int} (hx : xs.length = 256) (hy : ys.length = 256) (h : Near 1 ys (forth zt xs)) : Near 128 (back zt ys) xs := by
  unfold back
  unfold forth at h
  have h1 := layer_undo zt (l := 2) (nb := 64) (by unfold IsL; omega) (by omega) (fun b hb => hz 64 (by omega) b hb (by omega)) (by simp only [mid_len, hx]) hy h
  have h2 := layer_undo zt (l := 4) (nb := 32) (by unfold IsL; omega) (by omega) (fun b hb => hz 32 (by omega) b hb (by omega)) (by simp only [mid_len, hx]) (by simp only [midB_len, hy]) h1
  have h3 := layer_undo zt (l := 8) (nb := 16) (by unfold IsL; omega) (by omega) (fun b hb => hz 16 (by omega) b hb (by omega)) (by simp only [mid_len, hx]) (by simp only [midB_len, hy]) h2
  have h4 := layer_undo zt (l := 16) (nb := 8) (by unfold IsL; omega) (by omega) (fun b hb => hz 8 (by omega) b hb (by omega)) (by simp only [mid_len, hx]) (by simp only [midB_len, hy]) h3
  have h5 := layer_undo zt (l := 32) (nb := 4) (by unfold IsL; omega) (by omega) (fun b hb => hz 4 (by omega) b hb (by omega)) (by simp only [mid_len, hx]) (by simp only [midB_len, hy]) h4
  have h6 := layer_undo zt (l := 64) (nb := 2) (by unfold IsL; omega) (by omega) (fun b hb => hz 2 (by omega) b hb (by omega)) (by simp only [mid_len, hx]) (by simp only [midB_len, hy]) h5
  have h7 := layer_undo zt (l := 128) (nb := 1) (by unfold IsL; omega) (by omega) (fun b hb => hz 1 (by omega) b hb (by omega)) hx (by simp only [midB_len, hy]) h6
  exact h7

/-- the last loops, item by item -/
noncomputable def redu1 (xs : List Int) (j : Int) : List Int := xs.set j.toNat (xs.getD j.toNat 0 % 3329)
noncomputable def scale1 (f : Int) (xs : List Int) (j : Int) : List Int := xs.set j.toNat (xs.getD j.toNat 0 * f % 3329)

theorem each_at (g : Int → Int) : ∀ (n : Nat) (xs : List Int) (i : Nat), ((upTo 0 n).foldl (fun (ys : List Int) (j : Int) => ys.set j.toNat (g (ys.getD j.toNat 0))) xs).getD i 0 = if i < n ∧ i < xs.length then g (xs.getD i 0) else xs.getD i 0 := by
  intro n
  induction n with
  | zero => intro xs i; simp [upTo]
  | succ n ih =>
    intro xs i
    have hl : ((upTo 0 n).foldl (fun (ys : List Int) (j : Int) => ys.set j.toNat (g (ys.getD j.toNat 0))) xs).length = xs.length := fold_len (by intro xs j; simp) _ _
    rw [upTo_succ, List.foldl_append]
    show (List.set _ _ _).getD i 0 = _
    rw [getD_set, hl, show ((0 : Int) + (n : Int)).toNat = n by omega, ih xs n, ih xs i]
    by_cases h : i = n ∧ n < xs.length
    · rw [if_pos h, if_neg (by omega), if_pos (by omega), h.1]
    · rw [if_neg h]
      by_cases h2 : i < n ∧ i < xs.length
      · rw [if_pos h2, if_pos (by omega)]
      · rw [if_neg h2]
        by_cases h3 : i < n + 1 ∧ i < xs.length
        · omega
        · rw [if_neg h3]

theorem list_ext {xs ys : List Int} (hl : xs.length = ys.length) (h : ∀ i, i < xs.length → xs.getD i 0 = ys.getD i 0) : xs = ys := by
  apply List.ext_getElem hl
  intro i h1 h2
  have := h i h1
  simpa [List.getD_eq_getElem?_getD, h1, h2] using this
theorem getD_map (g : Int → Int) (xs : List Int) (i : Nat) (h : i < xs.length) : (xs.map g).getD i 0 = g (xs.getD i 0) := by
  simp [List.getD_eq_getElem?_getD, h]

theorem redu_all (xs : List Int) (hx : xs.length = 256) : (upTo 0 256).foldl redu1 xs = xs.map (· % 3329) := by
  apply list_ext
  · rw [fold_len (by intro xs j; simp [redu1]), List.length_map]
  · intro i hi
    rw [fold_len (by intro xs j; simp [redu1])] at hi
    rw [getD_map _ _ _ hi]
    have := each_at (· % 3329) 256 xs i
    rw [if_pos (by omega)] at this
    exact this
theorem scale_all (f : Int) (xs : List Int) (hx : xs.length = 256) : (upTo 0 256).foldl (scale1 f) xs = xs.map (· * f % 3329) := by
  apply list_ext
  · rw [fold_len (by intro xs j; simp [scale1]), List.length_map]
  · intro i hi
    rw [fold_len (by intro xs j; simp [scale1])] at hi
    rw [getD_map _ _ _ hi]
    have := each_at (· * f % 3329) 256 xs i
    rw [if_pos (by omega)] at this
    exact this

/-- the whole of to_ntt and of from_ntt on the list -/
noncomputable def toN (zt : Int → Int) (xs : List Int) : List Int := (forth zt xs).map (· % 3329)
noncomputable def ofN (zt : Int → Int) (ys : List Int) : List Int := (back zt ys).map (· * 3303 % 3329)
theorem toN_len (zt : Int → Int) (xs : List Int) : (toN zt xs).length = xs.length := by unfold toN; rw [List.length_map, forth_len]
theorem ofN_len (zt : Int → Int) (xs : List Int) : (ofN zt xs).length = xs.length := by unfold ofN; rw [List.length_map, back_len]

theorem ofN_toN (zt : Int → Int) (hz : ZOk zt) (xs : List Int) (hx : xs.length = 256) : ofN zt (toN zt xs) = xs.map (· % 3329) := by
  have hn : Near 1 (toN zt xs) (forth zt xs) := by
    intro i hi
    refine ⟨- ((forth zt xs).getD i 0 / 3329), ?_⟩
    unfold toN
    rw [getD_map _ _ _ (by rw [forth_len, hx]; exact hi)]
    omega
  have h := back_forth zt hz hx (by rw [toN_len, hx]) hn
  apply list_ext
  · rw [ofN_len, toN_len, List.length_map]
  · intro i hi
    rw [ofN_len, toN_len, hx] at hi
    obtain ⟨q, hq⟩ := h i hi
    unfold ofN
    rw [getD_map _ _ _ (by rw [back_len, toN_len, hx]; exact hi), getD_map _ _ _ (by rw [hx]; exact hi), hq]
    omega
theorem toN_idem (zt : Int → Int) (xs : List Int) : (toN zt xs).map (· % 3329) = toN zt xs := by
  unfold toN
  rw [List.map_map]
  apply List.map_congr_left
  intro a _
  show a % 3329 % 3329 = a % 3329
  omega
/-- d times forth, d times back -/
noncomputable def times (f : List Int → List Int) : Nat → List Int → List Int
  | 0, xs => xs
  | n + 1, xs => f (times f n xs)
theorem turns2 (zt : Int → Int) (hz : ZOk zt) (xs : List Int) (hx : xs.length = 256) : ofN zt (ofN zt (toN zt (toN zt xs))) = xs.map (· % 3329) := by
  rw [ofN_toN zt hz _ (by rw [toN_len, hx]), toN_idem, ofN_toN zt hz xs hx]
theorem turns3 (zt : Int → Int) (hz : ZOk zt) (xs : List Int) (hx : xs.length = 256) : ofN zt (ofN zt (ofN zt (toN zt (toN zt (toN zt xs))))) = xs.map (· % 3329) := by
  rw [ofN_toN zt hz _ (by rw [toN_len, toN_len, hx]), toN_idem, turns2 zt hz xs hx]
/-- the layers by their number -/
noncomputable def lv : Nat → Nat
  | 0 => 128 | 1 => 64 | 2 => 32 | 3 => 16 | 4 => 8 | 5 => 4 | 6 => 2 | _ => 1
noncomputable def lay (zt : Int → Int) : Nat → List Int → List Int
  | 0, xs => xs
  | i + 1, xs => mid zt (lv i) ((2 ^ i : Nat) : Int) (2 ^ i) (lay zt i xs)
theorem lay_len (zt : Int → Int) (i : Nat) (xs : List Int) : (lay zt i xs).length = xs.length := by
  induction i with
  | zero => rfl
  | succ i ih => unfold lay; rw [mid_len, ih]
theorem lay_forth (zt : Int → Int) (xs : List Int) : lay zt 7 xs = forth zt xs := rfl
theorem lv_cases {i : Nat} (h : i ≤ 7) : (i = 7 ∧ lv i = 1) ∨ (i ≤ 6 ∧ 2 ≤ lv i ∧ lv i ≤ 128 ∧ 2 * lv i * 2 ^ i = 256 ∧ lv i = 2 * lv (i + 1)) := by
  have : i = 0 ∨ i = 1 ∨ i = 2 ∨ i = 3 ∨ i = 4 ∨ i = 5 ∨ i = 6 ∨ i = 7 := by omega
  rcases this with rfl | rfl | rfl | rfl | rfl | rfl | rfl | rfl <;> simp [lv]
theorem lv_block {l nb b : Nat} (h : 2 * l * nb = 256) (h1 : 2 * l * b < 256) (hl : 0 < l) : b < nb ∧ 2 * l * b + 2 * l ≤ 256 := by
  have hb : b < nb := Nat.lt_of_mul_lt_mul_left (a := 2 * l) (by omega)
  have h2 : 2 * l * (b + 1) ≤ 2 * l * nb := Nat.mul_le_mul_left _ hb
  have h3 : 2 * l * (b + 1) = 2 * l * b + 2 * l := by rw [Nat.mul_add, Nat.mul_one]
  exact ⟨hb, by omega⟩
theorem lv_last {l nb b : Nat} (h : 2 * l * nb = 256) (h1 : ¬ 2 * l * b < 256) (hb : b ≤ nb) (hl : 0 < l) : b = nb := by
  have h2 : 2 * l * b ≤ 2 * l * nb := Nat.mul_le_mul_left _ hb
  have h3 : 2 * l * b = 2 * l * nb := by omega
  exact Nat.eq_of_mul_eq_mul_left (by omega) h3
noncomputable def lb : Nat → Nat
  | 0 => 2 | 1 => 4 | 2 => 8 | 3 => 16 | 4 => 32 | 5 => 64 | 6 => 128 | _ => 256
noncomputable def nbB : Nat → Nat
  | 0 => 64 | 1 => 32 | 2 => 16 | 3 => 8 | 4 => 4 | 5 => 2 | 6 => 1 | _ => 0
noncomputable def kB : Nat → Int
  | 0 => 127 | 1 => 63 | 2 => 31 | 3 => 15 | 4 => 7 | 5 => 3 | 6 => 1 | _ => 0
noncomputable def layB (zt : Int → Int) : Nat → List Int → List Int
  | 0, xs => xs
  | i + 1, xs => midB zt (lb i) (kB i) (nbB i) (layB zt i xs)
theorem layB_len (zt : Int → Int) (i : Nat) (xs : List Int) : (layB zt i xs).length = xs.length := by
  induction i with
  | zero => rfl
  | succ i ih => unfold layB; rw [midB_len, ih]
theorem layB_back (zt : Int → Int) (xs : List Int) : layB zt 7 xs = back zt xs := rfl
theorem lb_cases {i : Nat} (h : i ≤ 7) : (i = 7 ∧ lb i = 256) ∨ (i ≤ 6 ∧ 2 ≤ lb i ∧ lb i ≤ 128 ∧ 2 * lb i * nbB i = 256 ∧ lb (i + 1) = 2 * lb i ∧ kB i = 2 * (nbB i : Int) - 1 ∧ kB (i + 1) = (nbB i : Int) - 1 ∧ nbB i ≤ 64) := by
  have : i = 0 ∨ i = 1 ∨ i = 2 ∨ i = 3 ∨ i = 4 ∨ i = 5 ∨ i = 6 ∨ i = 7 := by omega
  rcases this with rfl | rfl | rfl | rfl | rfl | rfl | rfl | rfl <;> simp [lb, nbB, kB]
end
section
open PySem PySem.W PyProof.Rows PySem.Calls
set_option maxRecDepth 100000
section
variable {prog : Program} {w : World} {A : Around} {E : Value → Shared → Prop} {s : Shared} {env : Env} {h₀ : Heap} {x : PySem.Str} {body : List Stmt} {Q : Flow → Shared → Prop}

/-- a for over a range whose loop variable is read behind the loop: it may stand among the kept names -/
theorem for_range {σ : Type} {r : Addr} {a₀ b₀ : Int} {t₀ u₀ v₀ : Tok} {n : Nat} {m₀ : PySem.Str → Option Value} (Led : σ → List (Addr × Obj)) (ps : σ → List (PySem.Str × Value)) (Facts : σ → Prop) (stored : List PySem.Str) (P : List Int → σ → Prop) (c₀ : σ)
    (hh : A.handled = none) (hr : IsRange s.heap r a₀ b₀ 1 t₀ u₀ v₀) (hsmall : Builtin.Range.small a₀ b₀ 1 = true) (hn : Builtin.Range.rangeSize a₀ b₀ 1 = (n : Int)) (F : Fr h₀ env.locals s.heap m₀) (N : News h₀ env.locals s.heap (Led c₀)) (hf : Facts c₀) (hk : ∀ p ∈ ps c₀, m₀ p.1 = some p.2) (hp : P [] c₀)
    (turn : ∀ (c : σ) (i : Nat) (t : Tok) (u : PySem.Str → Option Value) h tk own, i < n → OwnOff own ((Led c₀).map (·.1)) → Facts c → P (rangeKs a₀ i) c →
      Fr h₀ env.locals h (fun y => if y = x then some (.int (a₀ + (i : Int)) t) else kstB (fun z => if stored.contains z then u z else m₀ z) (ps c) y) → News h₀ env.locals h (Led c ++ own) →
      wpAny (model prog w) A (execs body env) (InvPostN h₀ env.locals (KstS Led ps Facts x stored m₀ P (rangeKs a₀ (i + 1))) own ((Led c₀).map (·.1)) { s with heap := h, toks := tk } Q) E { s with heap := h, toks := tk })
    (done : ∀ (c : σ) (u : PySem.Str → Option Value) h tk, Facts c → P (rangeKs a₀ n) c → Fr h₀ env.locals h (kstB (fun z => if z = x then u z else if stored.contains z then u z else m₀ z) (ps c)) → News h₀ env.locals h (Led c) → Q .next { s with heap := h, toks := tk }) :
    wpAny (model prog w) A (pyIter (.ref r)) (fun it s₂ => LoopAtV prog w A h₀ env x body Q E it s₂) E s := by
  refine wpAny_pyIter_range hr hsmall ?_
  have W : Walks prog w A s.heap.objs.size [s.heap.objs.size] [s.heap.objs.size] n (fun i v => i < n ∧ ∃ t, v = .int (a₀ + i * 1) t)
      (fun i h => IsRangeIter h s.heap.objs.size (a₀ + (i : Nat) * 1) ((n : Int) - (i : Nat)) 1) := (Walks.range hh _ a₀ 1 n).bound
  refine loop_invN (fun i m nx => KstS Led ps Facts x stored m₀ P (rangeKs a₀ i) m nx) W ?_ ?_ ?_ ?_ (by show IsRangeIter _ _ _ _ _; rw [hn]; simpa using Heap.get?_push_size _ rfl) (F.push _) (fun p hp => ⟨Heap.get?_push_of_some _ (N p hp).1, (N p hp).2⟩) ⟨c₀, rfl, hf, hk, fun _ _ _ _ => rfl, hp⟩ ?_ ?_
  · intro hm
    exact absurd F.ns.lt ((List.mem_singleton.mp hm) ▸ Nat.lt_irrefl _)
  · intro b hb
    rw [List.mem_singleton.mp hb]
    exact next_is_new F
  · intro p hp hI
    exact absurd (Heap.lt_size (N p hp).1) ((List.mem_singleton.mp hI) ▸ Nat.lt_irrefl _)
  · intro p hp hI
    exact absurd (Heap.lt_size (N p hp).1) ((List.mem_singleton.mp hI) ▸ Nat.lt_irrefl _)
  · rintro i v m₁ nx h tk own hi ⟨_, t, rfl⟩ _ hoff ⟨c, rfl, hf', h1, h2, hp'⟩ F₁ N₁
    have e1 : a₀ + (i : Int) * 1 = a₀ + (i : Int) := by omega
    rw [e1] at F₁
    exact turn c i t m₁ h tk own hi hoff hf' hp' (kst_fr h1 h2 F₁) N₁
  · rintro m₁ nx h tk ⟨c, rfl, hf', h1, h2, hp'⟩ F₁ N₁
    refine done c m₁ h tk hf' hp' ?_ N₁
    have em : kstB (fun z => if z = x then m₁ z else if stored.contains z then m₁ z else m₀ z) (ps c) = m₁ := by
      funext z
      refine kstB_eq h1 fun hn => ?_
      show (if z = x then m₁ z else if stored.contains z = true then m₁ z else m₀ z) = m₁ z
      by_cases hx : z = x
      · rw [if_pos hx]
      · rw [if_neg hx]
        cases h3 : stored.contains z with
        | true => simp
        | false => simp only [Bool.false_eq_true, if_false]; exact (h2 z hx hn h3).symm
    rw [em]
    exact F₁
end
theorem rangeKs_succ (a : Int) (n : Nat) : rangeKs a (n + 1) = rangeKs a n ++ [a + (n : Int)] := by
  simp [rangeKs, List.range_succ]
theorem rangeKs_getD (f : Int → Int) (n i : Nat) (h : i < n) : ((rangeKs 0 n).map f).getD i 0 = f (i : Int) := by
  simp [rangeKs, List.getD_eq_getElem?_getD, h]
open PySem
theorem rg_size (a : Int) (l : Nat) (hl : 0 < l) : Builtin.Range.rangeSize a (a + (l : Int)) 1 = (l : Int) := by
  unfold Builtin.Range.rangeSize
  rw [if_pos (by decide), if_pos (by omega), Int.ediv_one]; omega
theorem mem_led {α : Type} {a b : α} {o o' : List α} (h : ∀ p ∈ o, p ∈ o') : ∀ p ∈ a :: b :: o, p ∈ a :: b :: o' := by
  intro p hp
  rcases List.mem_cons.mp hp with rfl | hp
  · exact .head _
  · rcases List.mem_cons.mp hp with rfl | hp
    · exact .tail _ (.head _)
    · exact .tail _ (.tail _ (h p hp))
theorem rg_small {a b : Int} (h0 : 0 ≤ a) (h1 : a ≤ 100000) (h2 : 0 ≤ b) (h3 : b ≤ 100000) : Builtin.Range.small a b 1 = true := by
  have f : ∀ i : Int, -200000 ≤ i → i ≤ 200000 → Builtin.Range.rangeFitsLong i = true := by
    intro i g0 g1
    unfold Builtin.Range.rangeFitsLong
    rw [Bool.and_eq_true, decide_eq_true_eq, decide_eq_true_eq]
    omega
  have hs : 0 ≤ Builtin.Range.rangeSize a b 1 ∧ Builtin.Range.rangeSize a b 1 ≤ 100000 := by
    unfold Builtin.Range.rangeSize
    rw [if_pos (by decide), Int.ediv_one]
    split <;> omega
  unfold Builtin.Range.small
  rw [f a (by omega) (by omega), f b (by omega) (by omega), f 1 (by omega) (by omega), f _ (by omega) (by omega), if_pos (by decide), f _ (by omega) (by omega)]
  simp
end
section
open PySem PySem.W PyProof.Rows
set_option maxRecDepth 100000
theorem zeta_pairs : (∀ b : Fin 1, (zeta (1 + (b.val : Int)) * zeta (1 - (b.val : Int))) % 3329 = 3328) ∧ (∀ b : Fin 2, (zeta (2 + (b.val : Int)) * zeta (3 - (b.val : Int))) % 3329 = 3328)
    ∧ (∀ b : Fin 4, (zeta (4 + (b.val : Int)) * zeta (7 - (b.val : Int))) % 3329 = 3328) ∧ (∀ b : Fin 8, (zeta (8 + (b.val : Int)) * zeta (15 - (b.val : Int))) % 3329 = 3328)
    ∧ (∀ b : Fin 16, (zeta (16 + (b.val : Int)) * zeta (31 - (b.val : Int))) % 3329 = 3328) ∧ (∀ b : Fin 32, (zeta (32 + (b.val : Int)) * zeta (63 - (b.val : Int))) % 3329 = 3328)
    ∧ (∀ b : Fin 64, (zeta (64 + (b.val : Int)) * zeta (127 - (b.val : Int))) % 3329 = 3328) := by
  refine ⟨?_, ?_, ?_, ?_, ?_, ?_, ?_⟩ <;> decide +kernel
theorem zeta_ok : ZOk zeta := by
  obtain ⟨h1, h2, h4, h8, h16, h32, h64⟩ := zeta_pairs
  intro nb _ b hb h
  rcases h with rfl | rfl | rfl | rfl | rfl | rfl | rfl
  · exact h1 ⟨b, hb⟩
  · exact h2 ⟨b, hb⟩
  · exact h4 ⟨b, hb⟩
  · exact h8 ⟨b, hb⟩
  · exact h16 ⟨b, hb⟩
  · exact h32 ⟨b, hb⟩
  · exact h64 ⟨b, hb⟩
end
section
open PySem PySem.W PyProof.Rows
noncomputable abbrev loo : List PySem.Str := [PySem.Str.ofString "PolynomialRing", PySem.Str.ofString "PolynomialNTT"]
noncomputable abbrev ent (w : World) (n : String) (t : Tok) (v : Value) : DictEntry := { hash := PyData.keyHash w.params (PySem.Str.ofString n), key := .str (PySem.Str.ofString n) t, val := v }
theorem inst_callWith_KW {M : Model} {A : Around} {E : Value → Shared → Prop} {s : Shared} {K : Frag} {env : Env} {pos : Pos} {x C : Addr} {ox : Obj} {od : Option Obj} {first : List Value} {Q : Value → Shared → Prop} {e : PySem.Expr} {rest : List PySem.Expr} {kws : List Keyword}
    (_X : K.In s.heap) (_I : InstAt s.heap x ox C od) (hd : ox.data = .plain) (hall : (backToKw pos (keywordEach kws env)).all (·.1.isSome) = true)
    (h : wpAny M A (spliced (backTo pos (starEach (e :: rest) env))) (fun vs s₁ => wpAny M A (evalAll ((backToKw pos (keywordEach kws env)).map (·.2)))
      (fun ks s₂ => kco_P K x C ox od s₂.heap ∧ wpAny M A (call (.ref x) (first ++ vs) (((backToKw pos (keywordEach kws env)).filterMap (·.1)).zip ks)) Q E s₂) E s₁) E s)
    (hplain : ((backTo pos (starEach (e :: rest) env)).any (·.1) || (backToKw pos (keywordEach kws env)).any (·.1.isNone)) = false := by rfl) (he : starEach (e :: rest) env = (false, eval e env) :: starEach rest env := by rfl) :
    wpAny M A (callWith pos (.ref x) first (backTo pos (starEach (e :: rest) env)) (backToKw pos (keywordEach kws env))) Q E s :=
  kco_callWith_of hplain hd (evalArgs_kw2 hall h he)
theorem upTo_eq (a : Int) (n : Nat) : rangeKs a n = upTo a n := rfl
theorem zeta_lt {k : Int} (h0 : 0 ≤ k) (h1 : k < 128) : 0 ≤ zeta k ∧ zeta k < 3329 := by
  have h : ∀ n : Fin 128, zeta (n.val : Int) < 3329 := by decide +kernel
  have := h ⟨k.toNat, by omega⟩
  rw [show (((⟨k.toNat, by omega⟩ : Fin 128).val : Nat) : Int) = k from by simp; omega] at this
  exact ⟨by unfold zeta; omega, this⟩
theorem mul_z {prog : Program} {w : World} {A : Around} {E : Value → Shared → Prop} {z b : Int} {t u : Tok} {Q : Value → Shared → Prop} {hp : Heap} {g : Array GenState} {dr : Drawn} {tk : Nat} {os : OsState}
    (h : 0 ≤ z ∧ z < 3329) (hq : Q (.int (z * b) tk) ⟨hp, g, dr, tk + 1, os⟩) : wpAny (model prog w) A (binaryOp .Mult (.int z t) (.int b u)) Q E ⟨hp, g, dr, tk, os⟩ :=
  AutoIntOps.mul_0 (show (Made.int (z * b)).post Q ⟨hp, g, dr, tk, os⟩ from hq) (IntMulOk.of_left (intBits_le_64 (by omega) (by omega)))
set_option maxRecDepth 100000 in
set_option maxHeartbeats 4000000 in
theorem to_ntt_call {w : World} {mean : ExcName → Option Value} {mg mb : PySem.Str → Option Value} {cn : PySem.Str} {cs : Scope} {a : Addr} {ccd : Value} {cl : List (PySem.Str × Addr)} {outer : List Env} {A₀ : Around} {base h₀ : Heap} {L : Addr} {m : PySem.Str → Option Value} {s : Shared} {Q E : Value → Shared → Prop}
    {dp un : Nat} {gd : Option (List Code)}
    (hB : Below A₀ base outer h₀) (F : Fr h₀ L s.heap m) (X : (hd.heap_39 w.params).In h₀) (T : Top hd.view_39 (looseW hd.view_39 loo) mean mg mb h₀) (hk : cs.kind = .function)
    (hdp : dp + 6 < recursionLimit) (hun : un + 100 < cLine)
    {xf df xr dr zz cc : Addr} {nf nr nz nc : Nat} {t1 t2 t3 t4 t5 t6 t7 t8 t9 : Tok} {zvs cvs : List Value} {xs : List Int} {own : List (Addr × Obj)}
    (N : News h₀ L s.heap ((cc, listOf cvs.toArray nc) :: (zz, listOf zvs.toArray nz) :: (xf, instObj 344 df) :: (df, dictOf [ent w "parent" t1 (.ref xr), ent w "coeffs" t2 (.ref cc)] nf) :: (xr, instObj 280 dr) ::
      (dr, dictOf [ent w "q" t3 (.int 3329 t4), ent w "n" t5 (.int 256 t6), ent w "ntt_zetas" t7 (.ref zz), ent w "ntt_f" t8 (.int 3303 t9)] nr) :: own))
    (hoff : ∀ p ∈ own, p.1 ≠ cc) (hzc : zz ≠ cc)
    (hz : IntsAre zvs ((rangeKs 0 128).map zeta)) (hc : IntsAre cvs xs) (hx : xs.length = 256)
    (hret : ∀ (vs : List Value) (x' d' : Addr) (u1 u2 : Tok) (h' : Heap) (tk' : Nat), IntsAre vs (toN zeta xs) → Fr h₀ L h' m → (cc < d' ∧ zz < d' ∧ xf < d' ∧ df < d' ∧ xr < d' ∧ dr < d' ∧ AllLt d' own) → d' < x' →
      News h₀ L h' ((x', instObj 420 d') :: (d', dictOf [ent w "parent" u1 (.ref xr), ent w "coeffs" u2 (.ref cc)] 2) :: (cc, listOf vs.toArray nc) :: (zz, listOf zvs.toArray nz) :: (xf, instObj 344 df) :: (df, dictOf [ent w "parent" t1 (.ref xr), ent w "coeffs" t2 (.ref cc)] nf) :: (xr, instObj 280 dr) ::
      (dr, dictOf [ent w "q" t3 (.int 3329 t4), ent w "n" t5 (.int 256 t6), ent w "ntt_zetas" t7 (.ref zz), ent w "ntt_f" t8 (.int 3303 t9)] nr) :: own) → Q (.ref x') { s with heap := h', toks := tk' }) :
    wpAny (model PySem.Challenge.rw_yi0010_01.row.prog w) (ktrTop dp un gd cn cs L a ccd cl outer) (call (.ref 334) [.ref xf]) Q E s := by
  k_with_none
  k_with "callWith ref" => (k_here; (with_reducible show wpAny _ _ (callWith _ (Value.ref _) _ (backTo _ (starEach (_ :: _) _)) (backToKw _ _)) _ _ _); kco_here; k_dflt (refine' inst_callWith_KW ?k1 ?k2 ?k3 ?k4 ?_; (case k1 => k_in); (case k2 => k_inst); (case k3 => rfl); (case k4 => exact rfl); k_whole))
  k_with "room" => first | ktr_room | (simp only [depth_under_make, depth_under_kw, depth_in1, depth_deeper]; omega)
  k_with "binaryOp Mult int int" => (k_here; refine mul_z (by assumption) ?_)
  k_with "getMethod ref" => (k_here; k_dflt (first | (refine' kmu_own ?k1 ?k2 ?k3 ?k4 ?k5 ?_; (case k1 => k_asm); (case k2 => k_asm); (case k3 => k_inst); (case k4 => k_is); (case k5 => k_is); k_whole) | (refine' kmu_sm ?k1 ?k2 ?k4 ?k5 ?k6 ?k7 ?k8 ?k9 ?k10 ?k11 ?k12 ?k13 ?k14 ?_; (case k1 => k_asm); (case k2 => k_asm); (case k4 => k_inst); (case k5 => k_is); (case k6 => k_is); (case k7 => k_is); (case k8 => k_is); (case k9 => k_is); (case k10 => k_is); (case k11 => decide +kernel); (case k12 => k_get); (case k13 => k_is); (case k14 => k_handed); k_whole)))
  w_on
  revert X
  k_fill
  intro X
  refine wpAny_call ?_
  w_strict (k_dflt cell_enter)
  w_strict (repeat ((fail_if_success (with_reducible show wpAny _ _ (exec (PySem.Stmt.While _ _ _ _) _) _ _ _)); (first | (k_unfold; (try dsimp only)) | (k_end; wrow_close) | walk1 | (dsimp only; walk1) | (leave1; walk_say "STEP leave1"; (try dsimp only)) | fail "no step")))
  (with_reducible rename Fr _ _ _ _ => F1); (with_reducible rename News _ _ _ _ => N1)
  obtain ⟨own2, hown2⟩ : ∃ o, o = ((xf, instObj 344 df) :: (df, dictOf [ent w "parent" t1 (.ref xr), ent w "coeffs" t2 (.ref cc)] nf) :: (xr, instObj 280 dr) ::
      (dr, dictOf [ent w "q" t3 (.int 3329 t4), ent w "n" t5 (.int 256 t6), ent w "ntt_zetas" t7 (.ref zz), ent w "ntt_f" t8 (.int 3303 t9)] nr) :: own) := ⟨_, rfl⟩
  rw [← hown2] at N1
  have N2 := kst_newsOf (l' := (cc, W.listOf cvs.toArray nc) :: (zz, W.listOf zvs.toArray nz) :: own2) N1 (fun p hp => List.mem_cons_of_mem _ hp)
  have hoff2 : OwnOff own2 [cc] := by
    intro p hp b hb
    obtain rfl := List.mem_singleton.mp hb
    have a0 := (N (b, W.listOf cvs.toArray nc) (.head _)).1
    rw [hown2] at hp
    intro e
    rcases List.mem_cons.mp hp with rfl | hp
    · have a1 := (N (xf, instObj 344 df) (.tail _ (.tail _ (.head _)))).1
      dsimp only at e a0 a1
      rw [e, a0] at a1; exact absurd a1 (by simp)
    · rcases List.mem_cons.mp hp with rfl | hp
      · have a1 := (N _ (.tail _ (.tail _ (.tail _ (.head _))))).1
        dsimp only at e a0 a1
        rw [e, a0] at a1; exact absurd a1 (by simp)
      · rcases List.mem_cons.mp hp with rfl | hp
        · have a1 := (N (xr, instObj 280 dr) (.tail _ (.tail _ (.tail _ (.tail _ (.head _)))))).1
          dsimp only at e a0 a1
          rw [e, a0] at a1; exact absurd a1 (by simp)
        · rcases List.mem_cons.mp hp with rfl | hp
          · have a1 := (N _ (.tail _ (.tail _ (.tail _ (.tail _ (.tail _ (.head _))))))).1
            dsimp only at e a0 a1
            rw [e, a0] at a1; exact absurd a1 (by simp)
          · exact hoff p hp e
  refine ksw_while (σ := Nat × List Value × Tok × Tok) (fun c => (cc, W.listOf c.2.1.toArray nc) :: (zz, W.listOf zvs.toArray nz) :: own2)
    (fun c => [(PySem.Str.ofString "k", .int ((2 ^ c.1 : Nat) : Int) c.2.2.1), (PySem.Str.ofString "l", .int (lv c.1 : Int) c.2.2.2)])
    (fun c => IntsAre c.2.1 (lay zeta c.1 xs)) [PySem.Str.ofString "start", PySem.Str.ofString "zeta", PySem.Str.ofString "j", PySem.Str.ofString "t"]
    (fun c => c.1 ≤ 7) (fun c => 7 - c.1) (0, cvs, ?a1, ?a2) F1 N2 hc ?hk1 (Nat.zero_le _) ?turn1
  case hk1 =>
    intro p hp
    rcases List.mem_cons.mp hp with rfl | hp
    · rfl
    · rcases List.mem_cons.mp hp with rfl | hp
      · dsimp only
        rw [show lv 0 = 128 from rfl]
        rfl
      · cases hp
  case turn1 =>
    rintro ⟨i, vs1, tk1, tl1⟩ u1 h1 tkn1 hf1 hp1 F2 N3
    dsimp only at hf1 hp1 F2 N3 ⊢
    clear F1 N1 N2
    have hx1 : (lay zeta i xs).length = 256 := by rw [lay_len, hx]
    obtain ⟨ys, hys⟩ : ∃ o, o = lay zeta i xs := ⟨_, rfl⟩
    rw [← hys] at hf1 hx1
    obtain ⟨l, hl⟩ : ∃ o, o = lv i := ⟨_, rfl⟩
    rw [← hl] at F2
    obtain ⟨k0, hk0⟩ : ∃ o : Int, o = ((2 ^ i : Nat) : Int) := ⟨_, rfl⟩
    rw [← hk0] at F2
    w_strict (repeat ((fail_if_success (with_reducible show wpAny _ _ (exec (PySem.Stmt.While _ _ _ _) _) _ _ _)); (first | (k_unfold; (try dsimp only)) | (k_end; wrow_close) | walk1 | (dsimp only; walk1) | (leave1; walk_say "STEP leave1"; (try dsimp only)) | fail "no step")))
    (with_reducible rename Fr _ _ _ _ => F1); (with_reducible rename News _ _ _ _ => N1); (with_reducible rename (2 : Int) ≤ _ => h2l)
    have hlv : i ≤ 6 ∧ 2 * l * 2 ^ i = 256 ∧ l = 2 * lv (i + 1) ∧ l ≤ 128 := by
      rcases lv_cases hp1 with ⟨_, e⟩ | ⟨e1, e2, e3, e4, e5⟩
      · omega
      · rw [hl]; exact ⟨e1, e4, e5, e3⟩
    obtain ⟨nb, hnb⟩ : ∃ o : Nat, o = 2 ^ i := ⟨_, rfl⟩
    have hnb1 : 2 * nb ≤ 128 ∧ 2 * l * nb = 256 := by
      refine ⟨?_, by rw [hnb]; exact hlv.2.1⟩
      have h3 : 2 * 2 * nb ≤ 2 * l * nb := Nat.mul_le_mul_right _ (by omega)
      rw [hnb] at h3 ⊢
      rw [hlv.2.1] at h3
      omega
    rw [← hnb] at hk0
    refine ksw_while (σ := Nat × List Value × Tok × Tok) (fun c => (cc, W.listOf c.2.1.toArray nc) :: (zz, W.listOf zvs.toArray nz) :: own2)
      (fun c => [(PySem.Str.ofString "start", .int ((2 * l * c.1 : Nat) : Int) c.2.2.1), (PySem.Str.ofString "k", .int (k0 + (c.1 : Int)) c.2.2.2)])
      (fun c => IntsAre c.2.1 (mid zeta l k0 c.1 ys)) [PySem.Str.ofString "zeta", PySem.Str.ofString "j", PySem.Str.ofString "t"]
      (fun c => c.1 ≤ nb) (fun c => nb - c.1) (0, vs1, ?b1, ?b2) F1 N1 hf1 ?hk2 (Nat.zero_le _) ?turn2
    case hk2 =>
      intro p hp
      rcases List.mem_cons.mp hp with rfl | hp
      · dsimp only
        rw [Nat.mul_zero]
        rfl
      · rcases List.mem_cons.mp hp with rfl | hp
        · dsimp only
          rw [show k0 + ((0 : Nat) : Int) = k0 by omega]
          rfl
        · cases hp
    case turn2 =>
      rintro ⟨b, vs2, tst, tk2⟩ u2 h2 tkn2 hf2 hp2 F3 N4
      dsimp only at hf2 hp2 F3 N4 ⊢
      clear F1 N1
      have hx2 : (mid zeta l k0 b ys).length = 256 := by rw [mid_len, hx1]
      obtain ⟨us, hus⟩ : ∃ o, o = mid zeta l k0 b ys := ⟨_, rfl⟩
      rw [← hus] at hf2 hx2
      obtain ⟨st, hst⟩ : ∃ o : Int, o = ((2 * l * b : Nat) : Int) := ⟨_, rfl⟩
      rw [← hst] at F3
      obtain ⟨kk, hkk⟩ : ∃ o : Int, o = k0 + (b : Int) := ⟨_, rfl⟩
      rw [← hkk] at F3
      obtain ⟨zs, hzs⟩ : ∃ o, o = (rangeKs 0 128).map zeta := ⟨_, rfl⟩
      rw [← hzs] at hz
      have hzl : zs.length = 128 := by rw [hzs, List.length_map, rangeKs_length]
      by_cases hlt : 2 * l * b < 256
      · have hb2 := lv_block hnb1.2 hlt (by omega)
        have s0 : 0 ≤ st := by omega
        have s1 : st + 2 * (l : Int) ≤ 256 := by omega
        have s2 : st < 256 := by omega
        have q0 : 0 ≤ kk := by omega
        have q1 : kk < 128 := by omega
        w_strict (repeat ((fail_if_success (with_reducible show wpAny _ _ (pyIter _) _ _ _)); (first | (k_unfold; (try dsimp only)) | (k_end; wrow_close) | walk1 | (dsimp only; walk1) | (leave1; walk_say "STEP leave1"; (try dsimp only)) | fail "no step")))
        (with_reducible rename Fr _ _ _ _ => F1); (with_reducible rename News _ _ _ _ => N1)
        have hzb : 0 ≤ zs.getD kk.toNat 0 ∧ zs.getD kk.toNat 0 < 3329 := by
          rw [hzs, rangeKs_getD zeta 128 kk.toNat (by omega), show ((kk.toNat : Nat) : Int) = kk by omega]
          exact zeta_lt q0 q1
        refine for_range (n := l) (σ := List Value × Int × Tok) (fun c => (cc, W.listOf c.1.toArray nc) :: (zz, W.listOf zvs.toArray nz) :: own2)
          (fun c => [(PySem.Str.ofString "j", .int c.2.1 c.2.2)]) (fun _ => True) [PySem.Str.ofString "t"]
          (fun pre c => IntsAre c.1 (pre.foldl (step1 (zs.getD kk.toNat 0) l) us) ∧ (pre.length = 0 ∨ c.2.1 = st + (pre.length : Int) - 1)) (vs2, st, ?d2) rfl (by assumption) ?sm ?rs F1 N1 trivial ?hk3 ⟨hf2, .inl rfl⟩ ?turn3 ?done3
        case hk3 =>
          intro p hp
          rcases List.mem_cons.mp hp with rfl | hp
          · rfl
          · cases hp
        case sm => exact rg_small (by omega) (by omega) (by omega) (by omega)
        case rs => exact rg_size _ _ (by omega)
        case turn3 =>
          rintro ⟨vs3, jv, tj⟩ n t3' u3 h3 tkn3 own3 hn3 hoff3 _ hp3 F4 N5
          dsimp only at hoff3 hp3 F4 N5 ⊢
          clear F1 N1
          obtain ⟨ws, hws⟩ : ∃ o, o = (rangeKs st n).foldl (step1 (zs.getD kk.toNat 0) l) us := ⟨_, rfl⟩
          have hfw := hp3.1
          rw [← hws] at hfw
          have hwl : ws.length = 256 := by rw [hws, fold_len (step1_len _ _), hx2]
          have hp3' := hp3.2
          clear hp3
          obtain ⟨own4, hown4⟩ : ∃ o, o = own2 ++ own3 := ⟨_, rfl⟩
          have N6 := kst_newsOf (l' := (cc, W.listOf vs3.toArray nc) :: (zz, W.listOf zvs.toArray nz) :: own4) N5 (by rw [hown4]; intro p hp; simpa using hp)
          clear N5
          have hoff4 : OwnOff own4 [cc] := by
            intro p hp
            rw [hown4] at hp
            rcases List.mem_append.mp hp with hp | hp
            · exact hoff2 p hp
            · intro b hb
              refine hoff3 p hp b ?_
              obtain rfl := List.mem_singleton.mp hb
              exact .head _
          obtain ⟨jj, hjj⟩ : ∃ o : Int, o = st + (n : Int) := ⟨_, rfl⟩
          rw [← hjj] at F4
          have j0 : 0 ≤ jj := by omega
          have j1 : jj + (l : Int) < 256 := by omega
          w_strict (repeat (first | (k_unfold; (try dsimp only)) | (k_end; wrow_close) | walk1 | (dsimp only; walk1) | (leave1; walk_say "STEP leave1"; (try dsimp only)) | fail "no step"))
          (with_reducible rename Fr _ _ _ _ => F9); (with_reducible rename News _ _ _ _ => N9); (with_reducible rename IntsAre _ _ => hiN)
          refine kst_end (?v9, jj, t3') F9 N9 ?hn ?ho rfl trivial ?hk ?hr ?hp
          case hp =>
            refine ⟨?_, .inr ?_⟩
            · rw [rangeKs_succ, List.foldl_append, ← hws, ← hjj]
              exact hiN
            · rw [rangeKs_length]
              dsimp only
              omega
          case hn =>
            rw [hown4]
            exact mem_led fun p hp => List.mem_append.mpr (.inl hp)
          case ho =>
            rw [hown4]
            exact fun p hp => .tail _ (.tail _ (List.mem_append.mpr (.inr hp)))
          case hk =>
            intro p hp
            rcases List.mem_cons.mp hp with rfl | hp
            · rfl
            · cases hp
          case hr =>
            intro z hxz _ hs
            have ht : z ≠ PySem.Str.ofString "t" := by
              intro e
              rw [e] at hs
              revert hs
              decide
            simp only [kstB, if_neg hxz, if_neg ht, hs, Bool.false_eq_true, if_false]
        case done3 =>
          rintro ⟨vs4, jv, tj⟩ u4 h4 tk4 _ hp4 F5 N5
          dsimp only at hp4 F5 N5 ⊢
          clear F1 N1
          have hfw := hp4.1
          have hjv : jv = st + (l : Int) - 1 := by
            have := hp4.2
            rw [rangeKs_length] at this
            omega
          have hin : (rangeKs st l).foldl (step1 (zs.getD kk.toNat 0) l) us = mid zeta l k0 (b + 1) ys := by
            show _ = inner (zeta (k0 + (b : Int))) l ((2 * l * b : Nat) : Int) l (mid zeta l k0 b ys)
            rw [← hus, ← hst, ← hkk]
            rw [hzs, rangeKs_getD zeta 128 kk.toNat (by omega), show ((kk.toNat : Nat) : Int) = kk by omega]
            rfl
          rw [hin] at hfw
          subst hjv
          w_strict (repeat (first | (k_unfold; (try dsimp only)) | (k_end; wrow_close) | walk1 | (dsimp only; walk1) | (leave1; walk_say "STEP leave1"; (try dsimp only)) | fail "no step"))
          (with_reducible rename Fr _ _ _ _ => F9); (with_reducible rename News _ _ _ _ => N9)
          refine ksw_end (b + 1, vs4, ?g1, ?g2) F9 N9 (fun p hp => hp) hfw ?hk ?hr hb2.1 (by dsimp only; omega)
          case hk =>
            intro p hp
            rcases List.mem_cons.mp hp with rfl | hp
            · dsimp only
              rw [show ((2 * l * (b + 1) : Nat) : Int) = (l : Int) + (st + (l : Int) - 1 + 1) by rw [Nat.mul_add, Nat.mul_one, Int.natCast_add, ← hst]; omega]
              rfl
            · rcases List.mem_cons.mp hp with rfl | hp
              · dsimp only
                rw [show k0 + ((b + 1 : Nat) : Int) = kk + 1 by omega]
                rfl
              · cases hp
          case hr =>
            intro z h2z hs
            have e1 : z ≠ PySem.Str.ofString "start" := h2z _ (.head _)
            have e2 : z ≠ PySem.Str.ofString "k" := h2z _ (.tail _ (.head _))
            have e3 : z ≠ PySem.Str.ofString "zeta" := by intro e; rw [e] at hs; revert hs; decide
            have e4 : z ≠ PySem.Str.ofString "j" := by intro e; rw [e] at hs; revert hs; decide
            have e5 : z ≠ PySem.Str.ofString "t" := by intro e; rw [e] at hs; revert hs; decide
            have c1 : [PySem.Str.ofString "t"].contains z = false := by simp [e5]
            simp only [kstB, if_neg e1, if_neg e2, if_neg e3, if_neg e4, if_neg e5, c1, hs, Bool.false_eq_true, if_false]
      · have hbn : b = nb := lv_last hnb1.2 hlt hp2 (by omega)
        have s2 : ¬ st < 256 := by omega
        have hlay : mid zeta l k0 b ys = lay zeta (i + 1) xs := by
          rw [hbn, hk0, hnb, hl, hys]; rfl
        rw [hus, hlay] at hf2
        w_strict (repeat (first | (k_unfold; (try dsimp only)) | (k_end; wrow_close) | walk1 | (dsimp only; walk1) | (leave1; walk_say "STEP leave1"; (try dsimp only)) | fail "no step"))
        (with_reducible rename Fr _ _ _ _ => F9); (with_reducible rename News _ _ _ _ => N9)
        refine ksw_end (i + 1, vs2, ?g3, ?g4) F9 N9 (fun p hp => hp) hf2 ?hk ?hr (by dsimp only; omega) (by dsimp only; omega)
        case hk =>
          intro p hp
          rcases List.mem_cons.mp hp with rfl | hp
          · dsimp only
            rw [show ((2 ^ (i + 1) : Nat) : Int) = kk by rw [hkk, hk0, hbn, hnb, Nat.pow_succ]; omega]
            rfl
          · rcases List.mem_cons.mp hp with rfl | hp
            · dsimp only
              rw [show ((lv (i + 1) : Nat) : Int) = (l : Int).fdiv (2 ^ Int.toNat 1) by
                rw [show (2 : Int) ^ Int.toNat 1 = 2 from rfl, Int.fdiv_eq_ediv_of_nonneg _ (by decide)]
                omega]
              rfl
            · cases hp
        case hr =>
          intro z h2z hs
          have e1 : z ≠ PySem.Str.ofString "k" := h2z _ (.head _)
          have e2 : z ≠ PySem.Str.ofString "l" := h2z _ (.tail _ (.head _))
          have e3 : z ≠ PySem.Str.ofString "zeta" := by intro e; rw [e] at hs; revert hs; decide
          have e4 : z ≠ PySem.Str.ofString "j" := by intro e; rw [e] at hs; revert hs; decide
          have e5 : z ≠ PySem.Str.ofString "t" := by intro e; rw [e] at hs; revert hs; decide
          have e6 : z ≠ PySem.Str.ofString "start" := by intro e; rw [e] at hs; revert hs; decide
          have c1 : [PySem.Str.ofString "zeta", PySem.Str.ofString "j", PySem.Str.ofString "t"].contains z = false := by simp [e3, e4, e5]
          simp only [kstB, if_neg e1, if_neg e2, if_neg e3, if_neg e4, if_neg e5, if_neg e6, c1, hs, Bool.false_eq_true, if_false]
    -- behind the outer while
    (with_reducible rename ¬ (2 : Int) ≤ _ => h2l)
    have hi7 : i = 7 := by
      rcases lv_cases hp1 with ⟨e, _⟩ | ⟨e1, e2, e3, e4, e5⟩
      · exact e
      · omega
    rw [hys, hi7, lay_forth] at hf1
    w_strict (repeat ((fail_if_success (with_reducible show wpAny _ _ (pyIter _) _ _ _)); (first | (k_unfold; (try dsimp only)) | (k_end; wrow_close) | walk1 | (dsimp only; walk1) | (leave1; walk_say "STEP leave1"; (try dsimp only)) | fail "no step")))
    (with_reducible rename Fr _ _ _ _ => F1); (with_reducible rename News _ _ _ _ => N1)
    (with_reducible rename IntsAre _ (forth _ _) => hf1)
    have hfl : (forth zeta xs).length = 256 := by rw [forth_len, hx]
    obtain ⟨fs, hfs⟩ : ∃ o, o = forth zeta xs := ⟨_, rfl⟩
    rw [← hfs] at hf1 hfl
    refine for_range (n := 256) (σ := List Value) (fun c => (cc, W.listOf c.toArray nc) :: (zz, W.listOf zvs.toArray nz) :: own2)
      (fun _ => []) (fun _ => True) [] (fun pre c => IntsAre c (pre.foldl redu1 fs)) vs1 rfl (by assumption) ?sm ?rs F1 N1 trivial (fun p hp => nomatch hp) hf1 ?turn4 ?done4
    case sm => exact rg_small (by omega) (by omega) (by omega) (by omega)
    case rs => exact rg_size 0 256 (by omega)
    case turn4 =>
      rintro vs3 n t3' u3 h3 tkn3 own3 hn3 hoff3 _ hp3 F4 N5
      dsimp only at hoff3 hp3 F4 N5 ⊢
      clear F1 N1
      obtain ⟨ws, hws⟩ : ∃ o, o = (rangeKs 0 n).foldl redu1 fs := ⟨_, rfl⟩
      rw [← hws] at hp3
      have hwl : ws.length = 256 := by rw [hws, fold_len (by intro xs j; simp [redu1]), hfl]
      obtain ⟨own4, hown4⟩ : ∃ o, o = own2 ++ own3 := ⟨_, rfl⟩
      have N6 := kst_newsOf (l' := (cc, W.listOf vs3.toArray nc) :: (zz, W.listOf zvs.toArray nz) :: own4) N5 (by rw [hown4]; intro p hp; simpa using hp)
      clear N5
      have hoff4 : OwnOff own4 [cc] := by
        intro p hp
        rw [hown4] at hp
        rcases List.mem_append.mp hp with hp | hp
        · exact hoff2 p hp
        · intro b hb
          refine hoff3 p hp b ?_
          obtain rfl := List.mem_singleton.mp hb
          exact .head _
      obtain ⟨jj, hjj⟩ : ∃ o : Int, o = 0 + (n : Int) := ⟨_, rfl⟩
      rw [← hjj] at F4
      have j0 : 0 ≤ jj := by omega
      have j1 : jj < 256 := by omega
      w_strict (repeat (first | (k_unfold; (try dsimp only)) | (k_end; wrow_close) | walk1 | (dsimp only; walk1) | (leave1; walk_say "STEP leave1"; (try dsimp only)) | fail "no step"))
      (with_reducible rename Fr _ _ _ _ => F9); (with_reducible rename News _ _ _ _ => N9); (with_reducible rename IntsAre _ _ => hiN)
      refine kst_end ?v10 F9 N9 ?hn ?ho rfl trivial (fun p hp => nomatch hp) ?hr ?hp
      case hp =>
        rw [rangeKs_succ, List.foldl_append, ← hws, ← hjj]
        have e : redu1 ws jj = ws.set jj.toNat ((ws.getD jj.toNat 0).fmod 3329) := by
          unfold redu1
          rw [Int.fmod_eq_emod_of_nonneg _ (by decide)]
        show IntsAre _ (redu1 ws jj)
        rw [e]
        exact hiN
      case hn =>
        rw [hown4]
        exact mem_led fun p hp => List.mem_append.mpr (.inl hp)
      case ho =>
        rw [hown4]
        exact fun p hp => .tail _ (.tail _ (List.mem_append.mpr (.inr hp)))
      case hr =>
        intro z hxz _ hs
        simp only [kstB, if_neg hxz, hs, Bool.false_eq_true, if_false]
    case done4 =>
      rintro vs4 u4 h4 tk4 _ hp4 F5 N5
      dsimp only at hp4 F5 N5 ⊢
      clear F1 N1
      have hall : (rangeKs 0 256).foldl redu1 fs = toN zeta xs := by
        rw [upTo_eq, redu_all _ hfl, hfs]
        unfold toN
        rfl
      rw [hall] at hp4
      rw [hown2] at N5
      have hxl : (toN zeta xs).length = 256 := by rw [toN_len, hx]
      obtain ⟨gs, hgs⟩ : ∃ o, o = toN zeta xs := ⟨_, rfl⟩
      rw [← hgs] at hp4 hxl
      w_strict (repeat (first | (k_unfold; (try dsimp only)) | (k_end; wrow_close) | walk1 | (dsimp only; walk1) | (leave1; walk_say "STEP leave1"; (try dsimp only)) | fail "no step"))
      have hfin : IntsAre vs4 (toN zeta xs) := by rw [← hgs]; assumption
      exact hret _ _ _ _ _ _ _ hfin (by assumption) (by assumption) (by assumption) (by assumption)
end
section
open PySem PySem.W PyProof.Rows
set_option maxRecDepth 100000 in
set_option maxHeartbeats 4000000 in
theorem from_ntt_call {w : World} {mean : ExcName → Option Value} {mg mb : PySem.Str → Option Value} {cn : PySem.Str} {cs : Scope} {a : Addr} {ccd : Value} {cl : List (PySem.Str × Addr)} {outer : List Env} {A₀ : Around} {base h₀ : Heap} {L : Addr} {m : PySem.Str → Option Value} {s : Shared} {Q E : Value → Shared → Prop}
    {dp un : Nat} {gd : Option (List Code)}
    (hB : Below A₀ base outer h₀) (F : Fr h₀ L s.heap m) (X : (hd.heap_39 w.params).In h₀) (T : Top hd.view_39 (looseW hd.view_39 loo) mean mg mb h₀) (hk : cs.kind = .function)
    (hdp : dp + 6 < recursionLimit) (hun : un + 100 < cLine)
    {xf df xr dr zz cc : Addr} {nf nr nz nc : Nat} {t1 t2 t3 t4 t5 t6 t7 t8 t9 : Tok} {zvs cvs : List Value} {xs : List Int} {own : List (Addr × Obj)}
    (N : News h₀ L s.heap ((cc, listOf cvs.toArray nc) :: (zz, listOf zvs.toArray nz) :: (xf, instObj 420 df) :: (df, dictOf [ent w "parent" t1 (.ref xr), ent w "coeffs" t2 (.ref cc)] nf) :: (xr, instObj 280 dr) ::
      (dr, dictOf [ent w "q" t3 (.int 3329 t4), ent w "n" t5 (.int 256 t6), ent w "ntt_zetas" t7 (.ref zz), ent w "ntt_f" t8 (.int 3303 t9)] nr) :: own))
    (hoff : ∀ p ∈ own, p.1 ≠ cc) (hzc : zz ≠ cc)
    (hz : IntsAre zvs ((rangeKs 0 128).map zeta)) (hc : IntsAre cvs xs) (hx : xs.length = 256)
    (hret : ∀ (vs : List Value) (x' d' : Addr) (u1 u2 : Tok) (h' : Heap) (tk' : Nat), IntsAre vs (ofN zeta xs) → Fr h₀ L h' m → (cc < d' ∧ zz < d' ∧ xf < d' ∧ df < d' ∧ xr < d' ∧ dr < d' ∧ AllLt d' own) → d' < x' →
      News h₀ L h' ((x', instObj 344 d') :: (d', dictOf [ent w "parent" u1 (.ref xr), ent w "coeffs" u2 (.ref cc)] 2) :: (cc, listOf vs.toArray nc) :: (zz, listOf zvs.toArray nz) :: (xf, instObj 420 df) :: (df, dictOf [ent w "parent" t1 (.ref xr), ent w "coeffs" t2 (.ref cc)] nf) :: (xr, instObj 280 dr) ::
      (dr, dictOf [ent w "q" t3 (.int 3329 t4), ent w "n" t5 (.int 256 t6), ent w "ntt_zetas" t7 (.ref zz), ent w "ntt_f" t8 (.int 3303 t9)] nr) :: own) → Q (.ref x') { s with heap := h', toks := tk' }) :
    wpAny (model PySem.Challenge.rw_yi0010_01.row.prog w) (ktrTop dp un gd cn cs L a ccd cl outer) (call (.ref 374) [.ref xf]) Q E s := by
  k_with_none
  k_with "callWith ref" => (k_here; (with_reducible show wpAny _ _ (callWith _ (Value.ref _) _ (backTo _ (starEach (_ :: _) _)) (backToKw _ _)) _ _ _); kco_here; k_dflt (refine' inst_callWith_KW ?k1 ?k2 ?k3 ?k4 ?_; (case k1 => k_in); (case k2 => k_inst); (case k3 => rfl); (case k4 => exact rfl); k_whole))
  k_with "room" => first | ktr_room | (simp only [depth_under_make, depth_under_kw, depth_in1, depth_deeper]; omega)
  k_with "binaryOp Mult int int" => (k_here; refine mul_z (by assumption) ?_)
  k_with "getMethod ref" => (k_here; k_dflt (first | (refine' kmu_own ?k1 ?k2 ?k3 ?k4 ?k5 ?_; (case k1 => k_asm); (case k2 => k_asm); (case k3 => k_inst); (case k4 => k_is); (case k5 => k_is); k_whole) | (refine' kmu_sm ?k1 ?k2 ?k4 ?k5 ?k6 ?k7 ?k8 ?k9 ?k10 ?k11 ?k12 ?k13 ?k14 ?_; (case k1 => k_asm); (case k2 => k_asm); (case k4 => k_inst); (case k5 => k_is); (case k6 => k_is); (case k7 => k_is); (case k8 => k_is); (case k9 => k_is); (case k10 => k_is); (case k11 => decide +kernel); (case k12 => k_get); (case k13 => k_is); (case k14 => k_handed); k_whole)))
  w_on
  revert X
  k_fill
  intro X
  refine wpAny_call ?_
  w_strict (k_dflt cell_enter)
  w_strict (repeat ((fail_if_success (with_reducible show wpAny _ _ (exec (PySem.Stmt.While _ _ _ _) _) _ _ _)); (first | (k_unfold; (try dsimp only)) | (k_end; wrow_close) | walk1 | (dsimp only; walk1) | (leave1; walk_say "STEP leave1"; (try dsimp only)) | fail "no step")))
  (with_reducible rename Fr _ _ _ _ => F1); (with_reducible rename News _ _ _ _ => N1)
  obtain ⟨own2, hown2⟩ : ∃ o, o = ((xf, instObj 420 df) :: (df, dictOf [ent w "parent" t1 (.ref xr), ent w "coeffs" t2 (.ref cc)] nf) :: (xr, instObj 280 dr) ::
      (dr, dictOf [ent w "q" t3 (.int 3329 t4), ent w "n" t5 (.int 256 t6), ent w "ntt_zetas" t7 (.ref zz), ent w "ntt_f" t8 (.int 3303 t9)] nr) :: own) := ⟨_, rfl⟩
  rw [← hown2] at N1
  have N2 := kst_newsOf (l' := (cc, W.listOf cvs.toArray nc) :: (zz, W.listOf zvs.toArray nz) :: own2) N1 (fun p hp => List.mem_cons_of_mem _ hp)
  have hoff2 : OwnOff own2 [cc] := by
    intro p hp b hb
    obtain rfl := List.mem_singleton.mp hb
    have a0 := (N (b, W.listOf cvs.toArray nc) (.head _)).1
    rw [hown2] at hp
    intro e
    rcases List.mem_cons.mp hp with rfl | hp
    · have a1 := (N (xf, instObj 420 df) (.tail _ (.tail _ (.head _)))).1
      dsimp only at e a0 a1
      rw [e, a0] at a1; exact absurd a1 (by simp)
    · rcases List.mem_cons.mp hp with rfl | hp
      · have a1 := (N _ (.tail _ (.tail _ (.tail _ (.head _))))).1
        dsimp only at e a0 a1
        rw [e, a0] at a1; exact absurd a1 (by simp)
      · rcases List.mem_cons.mp hp with rfl | hp
        · have a1 := (N (xr, instObj 280 dr) (.tail _ (.tail _ (.tail _ (.tail _ (.head _)))))).1
          dsimp only at e a0 a1
          rw [e, a0] at a1; exact absurd a1 (by simp)
        · rcases List.mem_cons.mp hp with rfl | hp
          · have a1 := (N _ (.tail _ (.tail _ (.tail _ (.tail _ (.tail _ (.head _))))))).1
            dsimp only at e a0 a1
            rw [e, a0] at a1; exact absurd a1 (by simp)
          · exact hoff p hp e
  refine ksw_while (σ := Nat × List Value × Tok × Tok) (fun c => (cc, W.listOf c.2.1.toArray nc) :: (zz, W.listOf zvs.toArray nz) :: own2)
    (fun c => [(PySem.Str.ofString "k", .int (kB c.1) c.2.2.1), (PySem.Str.ofString "l", .int (lb c.1 : Int) c.2.2.2)])
    (fun c => IntsAre c.2.1 (layB zeta c.1 xs)) [PySem.Str.ofString "start", PySem.Str.ofString "zeta", PySem.Str.ofString "j", PySem.Str.ofString "t"]
    (fun c => c.1 ≤ 7) (fun c => 7 - c.1) (0, cvs, ?a1, ?a2) F1 N2 hc ?hk1 (Nat.zero_le _) ?turn1
  case hk1 =>
    intro p hp
    rcases List.mem_cons.mp hp with rfl | hp
    · dsimp only
      rw [show kB 0 = 128 - 1 from rfl]
      rfl
    · rcases List.mem_cons.mp hp with rfl | hp
      · dsimp only
        rw [show lb 0 = 2 from rfl]
        rfl
      · cases hp
  case turn1 =>
    rintro ⟨i, vs1, tk1, tl1⟩ u1 h1 tkn1 hf1 hp1 F2 N3
    dsimp only at hf1 hp1 F2 N3 ⊢
    clear F1 N1 N2
    have hx1 : (layB zeta i xs).length = 256 := by rw [layB_len, hx]
    obtain ⟨ys, hys⟩ : ∃ o, o = layB zeta i xs := ⟨_, rfl⟩
    rw [← hys] at hf1 hx1
    obtain ⟨l, hl⟩ : ∃ o, o = lb i := ⟨_, rfl⟩
    rw [← hl] at F2
    obtain ⟨k0, hk0⟩ : ∃ o : Int, o = kB i := ⟨_, rfl⟩
    rw [← hk0] at F2
    w_strict (repeat ((fail_if_success (with_reducible show wpAny _ _ (exec (PySem.Stmt.While _ _ _ _) _) _ _ _)); (first | (k_unfold; (try dsimp only)) | (k_end; wrow_close) | walk1 | (dsimp only; walk1) | (leave1; walk_say "STEP leave1"; (try dsimp only)) | fail "no step")))
    (with_reducible rename Fr _ _ _ _ => F1); (with_reducible rename News _ _ _ _ => N1); (with_reducible rename _ ≤ (128 : Int) => h2l)
    obtain ⟨nb, hnb⟩ : ∃ o : Nat, o = nbB i := ⟨_, rfl⟩
    have hlv : i ≤ 6 ∧ 2 ≤ l ∧ l ≤ 128 ∧ 2 * l * nb = 256 ∧ lb (i + 1) = 2 * l ∧ k0 = 2 * (nb : Int) - 1 ∧ kB (i + 1) = (nb : Int) - 1 ∧ nb ≤ 64 := by
      rcases lb_cases hp1 with ⟨_, e⟩ | e
      · omega
      · rw [hl, hnb, hk0]; exact e
    have hnb1 : 2 * nb ≤ 128 ∧ 2 * l * nb = 256 := ⟨by omega, hlv.2.2.2.1⟩
    refine ksw_while (σ := Nat × List Value × Tok × Tok) (fun c => (cc, W.listOf c.2.1.toArray nc) :: (zz, W.listOf zvs.toArray nz) :: own2)
      (fun c => [(PySem.Str.ofString "start", .int ((2 * l * c.1 : Nat) : Int) c.2.2.1), (PySem.Str.ofString "k", .int (k0 - (c.1 : Int)) c.2.2.2)])
      (fun c => IntsAre c.2.1 (midB zeta l k0 c.1 ys)) [PySem.Str.ofString "zeta", PySem.Str.ofString "j", PySem.Str.ofString "t"]
      (fun c => c.1 ≤ nb) (fun c => nb - c.1) (0, vs1, ?b1, ?b2) F1 N1 hf1 ?hk2 (Nat.zero_le _) ?turn2
    case hk2 =>
      intro p hp
      rcases List.mem_cons.mp hp with rfl | hp
      · dsimp only
        rw [Nat.mul_zero]
        rfl
      · rcases List.mem_cons.mp hp with rfl | hp
        · dsimp only
          rw [show k0 - ((0 : Nat) : Int) = k0 by omega]
          rfl
        · cases hp
    case turn2 =>
      rintro ⟨b, vs2, tst, tk2⟩ u2 h2 tkn2 hf2 hp2 F3 N4
      dsimp only at hf2 hp2 F3 N4 ⊢
      clear F1 N1
      have hx2 : (midB zeta l k0 b ys).length = 256 := by rw [midB_len, hx1]
      obtain ⟨us, hus⟩ : ∃ o, o = midB zeta l k0 b ys := ⟨_, rfl⟩
      rw [← hus] at hf2 hx2
      obtain ⟨st, hst⟩ : ∃ o : Int, o = ((2 * l * b : Nat) : Int) := ⟨_, rfl⟩
      rw [← hst] at F3
      obtain ⟨kk, hkk⟩ : ∃ o : Int, o = k0 - (b : Int) := ⟨_, rfl⟩
      rw [← hkk] at F3
      obtain ⟨zs, hzs⟩ : ∃ o, o = (rangeKs 0 128).map zeta := ⟨_, rfl⟩
      rw [← hzs] at hz
      have hzl : zs.length = 128 := by rw [hzs, List.length_map, rangeKs_length]
      by_cases hlt : 2 * l * b < 256
      · have hb2 := lv_block hnb1.2 hlt (by omega)
        have s0 : 0 ≤ st := by omega
        have s1 : st + 2 * (l : Int) ≤ 256 := by omega
        have s2 : st < 256 := by omega
        have q0 : 0 ≤ kk := by omega
        have q1 : kk < 128 := by omega
        w_strict (repeat ((fail_if_success (with_reducible show wpAny _ _ (pyIter _) _ _ _)); (first | (k_unfold; (try dsimp only)) | (k_end; wrow_close) | walk1 | (dsimp only; walk1) | (leave1; walk_say "STEP leave1"; (try dsimp only)) | fail "no step")))
        (with_reducible rename Fr _ _ _ _ => F1); (with_reducible rename News _ _ _ _ => N1)
        have hzb : 0 ≤ zs.getD kk.toNat 0 ∧ zs.getD kk.toNat 0 < 3329 := by
          rw [hzs, rangeKs_getD zeta 128 kk.toNat (by omega), show ((kk.toNat : Nat) : Int) = kk by omega]
          exact zeta_lt q0 q1
        refine for_range (n := l) (σ := List Value × Int × Tok) (fun c => (cc, W.listOf c.1.toArray nc) :: (zz, W.listOf zvs.toArray nz) :: own2)
          (fun c => [(PySem.Str.ofString "j", .int c.2.1 c.2.2)]) (fun _ => True) [PySem.Str.ofString "t"]
          (fun pre c => IntsAre c.1 (pre.foldl (back1 (zs.getD kk.toNat 0) l) us) ∧ (pre.length = 0 ∨ c.2.1 = st + (pre.length : Int) - 1)) (vs2, st, ?d2) rfl (by assumption) ?sm ?rs F1 N1 trivial ?hk3 ⟨hf2, .inl rfl⟩ ?turn3 ?done3
        case hk3 =>
          intro p hp
          rcases List.mem_cons.mp hp with rfl | hp
          · rfl
          · cases hp
        case sm => exact rg_small (by omega) (by omega) (by omega) (by omega)
        case rs => exact rg_size _ _ (by omega)
        case turn3 =>
          rintro ⟨vs3, jv, tj⟩ n t3' u3 h3 tkn3 own3 hn3 hoff3 _ hp3 F4 N5
          dsimp only at hoff3 hp3 F4 N5 ⊢
          clear F1 N1
          obtain ⟨ws, hws⟩ : ∃ o, o = (rangeKs st n).foldl (back1 (zs.getD kk.toNat 0) l) us := ⟨_, rfl⟩
          have hfw := hp3.1
          rw [← hws] at hfw
          have hwl : ws.length = 256 := by rw [hws, fold_len (back1_len _ _), hx2]
          have hp3' := hp3.2
          clear hp3
          obtain ⟨own4, hown4⟩ : ∃ o, o = own2 ++ own3 := ⟨_, rfl⟩
          have N6 := kst_newsOf (l' := (cc, W.listOf vs3.toArray nc) :: (zz, W.listOf zvs.toArray nz) :: own4) N5 (by rw [hown4]; intro p hp; simpa using hp)
          clear N5
          have hoff4 : OwnOff own4 [cc] := by
            intro p hp
            rw [hown4] at hp
            rcases List.mem_append.mp hp with hp | hp
            · exact hoff2 p hp
            · intro b hb
              refine hoff3 p hp b ?_
              obtain rfl := List.mem_singleton.mp hb
              exact .head _
          obtain ⟨jj, hjj⟩ : ∃ o : Int, o = st + (n : Int) := ⟨_, rfl⟩
          rw [← hjj] at F4
          have j0 : 0 ≤ jj := by omega
          have j1 : jj + (l : Int) < 256 := by omega
          w_strict (repeat (first | (k_unfold; (try dsimp only)) | (k_end; wrow_close) | walk1 | (dsimp only; walk1) | (leave1; walk_say "STEP leave1"; (try dsimp only)) | fail "no step"))
          (with_reducible rename Fr _ _ _ _ => F9); (with_reducible rename News _ _ _ _ => N9); (with_reducible rename IntsAre _ _ => hiN)
          refine kst_end (?v9, jj, t3') F9 N9 ?hn ?ho rfl trivial ?hk ?hr ?hp
          case hp =>
            refine ⟨?_, .inr ?_⟩
            · rw [rangeKs_succ, List.foldl_append, ← hws, ← hjj]
              exact hiN
            · rw [rangeKs_length]
              dsimp only
              omega
          case hn =>
            rw [hown4]
            exact mem_led fun p hp => List.mem_append.mpr (.inl hp)
          case ho =>
            rw [hown4]
            exact fun p hp => .tail _ (.tail _ (List.mem_append.mpr (.inr hp)))
          case hk =>
            intro p hp
            rcases List.mem_cons.mp hp with rfl | hp
            · rfl
            · cases hp
          case hr =>
            intro z hxz _ hs
            have ht : z ≠ PySem.Str.ofString "t" := by
              intro e
              rw [e] at hs
              revert hs
              decide
            simp only [kstB, if_neg hxz, if_neg ht, hs, Bool.false_eq_true, if_false]
        case done3 =>
          rintro ⟨vs4, jv, tj⟩ u4 h4 tk4 _ hp4 F5 N5
          dsimp only at hp4 F5 N5 ⊢
          clear F1 N1
          have hfw := hp4.1
          have hjv : jv = st + (l : Int) - 1 := by
            have := hp4.2
            rw [rangeKs_length] at this
            omega
          have hin : (rangeKs st l).foldl (back1 (zs.getD kk.toNat 0) l) us = midB zeta l k0 (b + 1) ys := by
            show _ = innerB (zeta (k0 - (b : Int))) l ((2 * l * b : Nat) : Int) l (midB zeta l k0 b ys)
            rw [← hus, ← hst, ← hkk]
            rw [hzs, rangeKs_getD zeta 128 kk.toNat (by omega), show ((kk.toNat : Nat) : Int) = kk by omega]
            rfl
          rw [hin] at hfw
          subst hjv
          w_strict (repeat (first | (k_unfold; (try dsimp only)) | (k_end; wrow_close) | walk1 | (dsimp only; walk1) | (leave1; walk_say "STEP leave1"; (try dsimp only)) | fail "no step"))
          (with_reducible rename Fr _ _ _ _ => F9); (with_reducible rename News _ _ _ _ => N9)
          refine ksw_end (b + 1, vs4, ?g1, ?g2) F9 N9 (fun p hp => hp) hfw ?hk ?hr hb2.1 (by dsimp only; omega)
          case hk =>
            intro p hp
            rcases List.mem_cons.mp hp with rfl | hp
            · dsimp only
              rw [show ((2 * l * (b + 1) : Nat) : Int) = (st + (l : Int) - 1 + (l : Int) + 1) by rw [Nat.mul_add, Nat.mul_one, Int.natCast_add, ← hst]; omega]
              rfl
            · rcases List.mem_cons.mp hp with rfl | hp
              · dsimp only
                rw [show k0 - ((b + 1 : Nat) : Int) = kk - 1 by omega]
                rfl
              · cases hp
          case hr =>
            intro z h2z hs
            have e1 : z ≠ PySem.Str.ofString "start" := h2z _ (.head _)
            have e2 : z ≠ PySem.Str.ofString "k" := h2z _ (.tail _ (.head _))
            have e3 : z ≠ PySem.Str.ofString "zeta" := by intro e; rw [e] at hs; revert hs; decide
            have e4 : z ≠ PySem.Str.ofString "j" := by intro e; rw [e] at hs; revert hs; decide
            have e5 : z ≠ PySem.Str.ofString "t" := by intro e; rw [e] at hs; revert hs; decide
            have c1 : [PySem.Str.ofString "t"].contains z = false := by simp [e5]
            simp only [kstB, if_neg e1, if_neg e2, if_neg e3, if_neg e4, if_neg e5, c1, hs, Bool.false_eq_true, if_false]
      · have hbn : b = nb := lv_last hnb1.2 hlt hp2 (by omega)
        have s2 : ¬ st < 256 := by omega
        have hlay : midB zeta l k0 b ys = layB zeta (i + 1) xs := by
          rw [hbn, hk0, hnb, hl, hys]; rfl
        rw [hus, hlay] at hf2
        w_strict (repeat (first | (k_unfold; (try dsimp only)) | (k_end; wrow_close) | walk1 | (dsimp only; walk1) | (leave1; walk_say "STEP leave1"; (try dsimp only)) | fail "no step"))
        (with_reducible rename Fr _ _ _ _ => F9); (with_reducible rename News _ _ _ _ => N9)
        refine ksw_end (i + 1, vs2, ?g3, ?g4) F9 N9 (fun p hp => hp) hf2 ?hk ?hr (by dsimp only; omega) (by dsimp only; omega)
        case hk =>
          intro p hp
          rcases List.mem_cons.mp hp with rfl | hp
          · dsimp only
            rw [show kB (i + 1) = kk by omega]
            rfl
          · rcases List.mem_cons.mp hp with rfl | hp
            · dsimp only
              rw [show ((lb (i + 1) : Nat) : Int) = (l : Int) * (2 ^ Int.toNat 1) by
                rw [show (2 : Int) ^ Int.toNat 1 = 2 from rfl, hlv.2.2.2.2.1]
                omega]
              rfl
            · cases hp
        case hr =>
          intro z h2z hs
          have e1 : z ≠ PySem.Str.ofString "k" := h2z _ (.head _)
          have e2 : z ≠ PySem.Str.ofString "l" := h2z _ (.tail _ (.head _))
          have e3 : z ≠ PySem.Str.ofString "zeta" := by intro e; rw [e] at hs; revert hs; decide
          have e4 : z ≠ PySem.Str.ofString "j" := by intro e; rw [e] at hs; revert hs; decide
          have e5 : z ≠ PySem.Str.ofString "t" := by intro e; rw [e] at hs; revert hs; decide
          have e6 : z ≠ PySem.Str.ofString "start" := by intro e; rw [e] at hs; revert hs; decide
          have c1 : [PySem.Str.ofString "zeta", PySem.Str.ofString "j", PySem.Str.ofString "t"].contains z = false := by simp [e3, e4, e5]
          simp only [kstB, if_neg e1, if_neg e2, if_neg e3, if_neg e4, if_neg e5, if_neg e6, c1, hs, Bool.false_eq_true, if_false]
    -- behind the outer while
    (with_reducible rename ¬ _ ≤ (128 : Int) => h2l)
    have hi7 : i = 7 := by
      rcases lb_cases hp1 with ⟨e, _⟩ | ⟨e1, e2, e3, e4⟩
      · exact e
      · omega
    rw [hys, hi7, layB_back] at hf1
    (with_reducible rename News _ _ _ _ => N1)
    rw [hown2] at N1
    w_strict (repeat ((fail_if_success (with_reducible show wpAny _ _ (pyIter _) _ _ _)); (first | (k_unfold; (try dsimp only)) | (k_end; wrow_close) | walk1 | (dsimp only; walk1) | (leave1; walk_say "STEP leave1"; (try dsimp only)) | fail "no step")))
    (with_reducible rename Fr _ _ _ _ => F1); (with_reducible rename News _ _ _ _ => N1)
    rw [← hown2] at N1
    (with_reducible rename IntsAre _ (back _ _) => hf1)
    have hfl : (back zeta xs).length = 256 := by rw [back_len, hx]
    obtain ⟨fs, hfs⟩ : ∃ o, o = back zeta xs := ⟨_, rfl⟩
    rw [← hfs] at hf1 hfl
    refine for_range (n := 256) (σ := List Value) (fun c => (cc, W.listOf c.toArray nc) :: (zz, W.listOf zvs.toArray nz) :: own2)
      (fun _ => []) (fun _ => True) [] (fun pre c => IntsAre c (pre.foldl (scale1 3303) fs)) vs1 rfl (by assumption) ?sm ?rs F1 N1 trivial (fun p hp => nomatch hp) hf1 ?turn4 ?done4
    case sm => exact rg_small (by omega) (by omega) (by omega) (by omega)
    case rs => exact rg_size 0 256 (by omega)
    case turn4 =>
      rintro vs3 n t3' u3 h3 tkn3 own3 hn3 hoff3 _ hp3 F4 N5
      dsimp only at hoff3 hp3 F4 N5 ⊢
      clear F1 N1
      obtain ⟨ws, hws⟩ : ∃ o, o = (rangeKs 0 n).foldl (scale1 3303) fs := ⟨_, rfl⟩
      rw [← hws] at hp3
      have hwl : ws.length = 256 := by rw [hws, fold_len (by intro xs j; simp [scale1]), hfl]
      obtain ⟨own4, hown4⟩ : ∃ o, o = own2 ++ own3 := ⟨_, rfl⟩
      have N6 := kst_newsOf (l' := (cc, W.listOf vs3.toArray nc) :: (zz, W.listOf zvs.toArray nz) :: own4) N5 (by rw [hown4]; intro p hp; simpa using hp)
      clear N5
      have hoff4 : OwnOff own4 [cc] := by
        intro p hp
        rw [hown4] at hp
        rcases List.mem_append.mp hp with hp | hp
        · exact hoff2 p hp
        · intro b hb
          refine hoff3 p hp b ?_
          obtain rfl := List.mem_singleton.mp hb
          exact .head _
      obtain ⟨jj, hjj⟩ : ∃ o : Int, o = 0 + (n : Int) := ⟨_, rfl⟩
      rw [← hjj] at F4
      have j0 : 0 ≤ jj := by omega
      have j1 : jj < 256 := by omega
      w_strict (repeat (first | (k_unfold; (try dsimp only)) | (k_end; wrow_close) | walk1 | (dsimp only; walk1) | (leave1; walk_say "STEP leave1"; (try dsimp only)) | fail "no step"))
      (with_reducible rename Fr _ _ _ _ => F9); (with_reducible rename News _ _ _ _ => N9); (with_reducible rename IntsAre _ _ => hiN)
      refine kst_end ?v10 F9 N9 ?hn ?ho rfl trivial (fun p hp => nomatch hp) ?hr ?hp
      case hp =>
        rw [rangeKs_succ, List.foldl_append, ← hws, ← hjj]
        have e : scale1 3303 ws jj = ws.set jj.toNat ((ws.getD jj.toNat 0 * 3303).fmod 3329) := by
          unfold scale1
          rw [Int.fmod_eq_emod_of_nonneg _ (by decide)]
        show IntsAre _ ((scale1 3303) ws jj)
        rw [e]
        exact hiN
      case hn =>
        rw [hown4]
        exact mem_led fun p hp => List.mem_append.mpr (.inl hp)
      case ho =>
        rw [hown4]
        exact fun p hp => .tail _ (.tail _ (List.mem_append.mpr (.inr hp)))
      case hr =>
        intro z hxz _ hs
        simp only [kstB, if_neg hxz, hs, Bool.false_eq_true, if_false]
    case done4 =>
      rintro vs4 u4 h4 tk4 _ hp4 F5 N5
      dsimp only at hp4 F5 N5 ⊢
      clear F1 N1
      have hall : (rangeKs 0 256).foldl (scale1 3303) fs = ofN zeta xs := by
        rw [upTo_eq, scale_all 3303 _ hfl, hfs]
        unfold ofN
        rfl
      rw [hall] at hp4
      rw [hown2] at N5
      have hxl : (ofN zeta xs).length = 256 := by rw [ofN_len, hx]
      obtain ⟨gs, hgs⟩ : ∃ o, o = ofN zeta xs := ⟨_, rfl⟩
      rw [← hgs] at hp4 hxl
      w_strict (repeat (first | (k_unfold; (try dsimp only)) | (k_end; wrow_close) | walk1 | (dsimp only; walk1) | (leave1; walk_say "STEP leave1"; (try dsimp only)) | fail "no step"))
      have hfin : IntsAre vs4 (ofN zeta xs) := by rw [← hgs]; assumption
      exact hret _ _ _ _ _ _ _ hfin (by assumption) (by assumption) (by assumption) (by assumption)
end
section
open PySem PySem.W PyProof.Rows
theorem allLt_mem {d : Nat} {l : List (Addr × Obj)} : AllLt d l → ∀ p ∈ l, p.1 < d := by
  induction l with
  | nil => intro _ p hp; cases hp
  | cons q r ih =>
    intro h p hp
    rcases List.mem_cons.mp hp with rfl | hp
    · exact h.1
    · exact ih h.2 p hp

set_option maxRecDepth 100000
section
variable {w : World} {mean : ExcName → Option Value} {mg mb : PySem.Str → Option Value} {cn : PySem.Str} {cs : Scope} {a : Addr} {ccd : Value} {cl : List (PySem.Str × Addr)} {outer : List Env} {A₀ : Around} {base h₀ : Heap} {L : Addr} {m : PySem.Str → Option Value} {s : Shared} {Q E : Value → Shared → Prop}
    {dp un : Nat} {gd : Option (List Code)} {xf df xr dr zz cc : Addr} {nf nr nz nc : Nat} {t1 t2 t3 t4 t5 t6 t7 t8 t9 : Tok} {zvs cvs : List Value} {xs : List Int} {news : List (Addr × Obj)} {news' : List Value → List (Addr × Obj)}
theorem led_off (U : Upd cc (W.listOf cvs.toArray nc) (W.listOf cvs.toArray nc) news (news' cvs)) : (cc, W.listOf cvs.toArray nc) ∈ news := by
  obtain ⟨pre, post, rfl, _, _, _⟩ := U.split
  exact List.mem_append.mpr (.inr (.head _))
theorem led_back {vs : List Value} (U : Upd cc (W.listOf cvs.toArray nc) (W.listOf vs.toArray nc) news (news' vs)) : ∀ p ∈ news' vs, p = (cc, W.listOf vs.toArray nc) ∨ p ∈ news.filter (fun p => decide (p.1 ≠ cc)) := by
  obtain ⟨pre, post, rfl, h, a, b⟩ := U.split
  rw [h]
  intro p hp
  rcases List.mem_append.mp hp with hp | hp
  · exact .inr (List.mem_filter.mpr ⟨List.mem_append.mpr (.inl hp), by simpa using a p hp⟩)
  · rcases List.mem_cons.mp hp with rfl | hp
    · exact .inl rfl
    · exact .inr (List.mem_filter.mpr ⟨List.mem_append.mpr (.inr (.tail _ hp)), by simpa using b p hp⟩)

theorem to_ntt_led (hB : Below A₀ base outer h₀) (F : Fr h₀ L s.heap m) (X : (hd.heap_39 w.params).In h₀) (T : Top hd.view_39 (looseW hd.view_39 loo) mean mg mb h₀) (hk : cs.kind = .function)
    (N : News h₀ L s.heap news) (m2 : (xf, instObj 344 df) ∈ news) (m3 : (df, dictOf [ent w "parent" t1 (.ref xr), ent w "coeffs" t2 (.ref cc)] nf) ∈ news) (m4 : (xr, instObj 280 dr) ∈ news)
    (m5 : (dr, dictOf [ent w "q" t3 (.int 3329 t4), ent w "n" t5 (.int 256 t6), ent w "ntt_zetas" t7 (.ref zz), ent w "ntt_f" t8 (.int 3303 t9)] nr) ∈ news) (m1 : (zz, W.listOf zvs.toArray nz) ∈ news) (hzc : zz ≠ cc)
    (U : ∀ vs, Upd cc (W.listOf cvs.toArray nc) (W.listOf vs.toArray nc) news (news' vs))
    (hz : IntsAre zvs ((rangeKs 0 128).map zeta)) (hc : IntsAre cvs xs) (hx : xs.length = 256)
    (hdp : dp + 6 < recursionLimit) (hun : un + 100 < cLine)
    (hret : ∀ (vs : List Value) (x' d' : Addr) (u1 u2 : Tok) (h' : Heap) (tk' : Nat), IntsAre vs (toN zeta xs) → (toN zeta xs).length = 256 → Fr h₀ L h' m → (∀ p ∈ news, p.1 < d') → d' < x' →
      News h₀ L h' ((x', instObj 420 d') :: (d', dictOf [ent w "parent" u1 (.ref xr), ent w "coeffs" u2 (.ref cc)] 2) :: news' vs) → Q (.ref x') { s with heap := h', toks := tk' }) :
    wpAny (model PySem.Challenge.rw_yi0010_01.row.prog w) (ktrTop dp un gd cn cs L a ccd cl outer) (call (.ref 334) [.ref xf]) Q E s := by
  have hcc := led_off (U cvs)
  refine to_ntt_call (df := df) (xr := xr) (dr := dr) (nf := nf) (nr := nr) (nz := nz) (nc := nc) (t1 := t1) (t2 := t2) (t3 := t3) (t4 := t4) (t5 := t5) (t6 := t6) (t7 := t7) (t8 := t8) (t9 := t9) (own := news.filter (fun p => decide (p.1 ≠ cc))) hB F X T hk hdp hun (kst_newsOf N ?_) ?_ hzc hz hc hx ?_
  · intro p hp
    rcases List.mem_cons.mp hp with rfl | hp
    · exact hcc
    rcases List.mem_cons.mp hp with rfl | hp
    · exact m1
    rcases List.mem_cons.mp hp with rfl | hp
    · exact m2
    rcases List.mem_cons.mp hp with rfl | hp
    · exact m3
    rcases List.mem_cons.mp hp with rfl | hp
    · exact m4
    rcases List.mem_cons.mp hp with rfl | hp
    · exact m5
    exact (List.mem_filter.mp hp).1
  · intro p hp
    simpa using (List.mem_filter.mp hp).2
  · intro vs x' d' u1 u2 h' tk' hi hF hl hl2 hN
    refine hret vs x' d' u1 u2 h' tk' hi (by rw [toN_len, hx]) hF ?_ hl2 ?_
    · intro p hp
      by_cases e : p.1 = cc
      · rw [e]; exact hl.1
      · exact allLt_mem hl.2.2.2.2.2.2 p (List.mem_filter.mpr ⟨hp, by simpa using e⟩)
    · refine kst_newsOf hN ?_
      intro p hp
      rcases List.mem_cons.mp hp with rfl | hp
      · exact .head _
      rcases List.mem_cons.mp hp with rfl | hp
      · exact .tail _ (.head _)
      refine .tail _ (.tail _ ?_)
      rcases led_back (U vs) p hp with rfl | hp
      · exact .head _
      · exact .tail _ (.tail _ (.tail _ (.tail _ (.tail _ (.tail _ hp)))))

theorem from_ntt_led (hB : Below A₀ base outer h₀) (F : Fr h₀ L s.heap m) (X : (hd.heap_39 w.params).In h₀) (T : Top hd.view_39 (looseW hd.view_39 loo) mean mg mb h₀) (hk : cs.kind = .function)
    (N : News h₀ L s.heap news) (m2 : (xf, instObj 420 df) ∈ news) (m3 : (df, dictOf [ent w "parent" t1 (.ref xr), ent w "coeffs" t2 (.ref cc)] nf) ∈ news) (m4 : (xr, instObj 280 dr) ∈ news)
    (m5 : (dr, dictOf [ent w "q" t3 (.int 3329 t4), ent w "n" t5 (.int 256 t6), ent w "ntt_zetas" t7 (.ref zz), ent w "ntt_f" t8 (.int 3303 t9)] nr) ∈ news) (m1 : (zz, W.listOf zvs.toArray nz) ∈ news) (hzc : zz ≠ cc)
    (U : ∀ vs, Upd cc (W.listOf cvs.toArray nc) (W.listOf vs.toArray nc) news (news' vs))
    (hz : IntsAre zvs ((rangeKs 0 128).map zeta)) (hc : IntsAre cvs xs) (hx : xs.length = 256)
    (hdp : dp + 6 < recursionLimit) (hun : un + 100 < cLine)
    (hret : ∀ (vs : List Value) (x' d' : Addr) (u1 u2 : Tok) (h' : Heap) (tk' : Nat), IntsAre vs (ofN zeta xs) → (ofN zeta xs).length = 256 → Fr h₀ L h' m → (∀ p ∈ news, p.1 < d') → d' < x' →
      News h₀ L h' ((x', instObj 344 d') :: (d', dictOf [ent w "parent" u1 (.ref xr), ent w "coeffs" u2 (.ref cc)] 2) :: news' vs) → Q (.ref x') { s with heap := h', toks := tk' }) :
    wpAny (model PySem.Challenge.rw_yi0010_01.row.prog w) (ktrTop dp un gd cn cs L a ccd cl outer) (call (.ref 374) [.ref xf]) Q E s := by
  have hcc := led_off (U cvs)
  refine from_ntt_call (df := df) (xr := xr) (dr := dr) (nf := nf) (nr := nr) (nz := nz) (nc := nc) (t1 := t1) (t2 := t2) (t3 := t3) (t4 := t4) (t5 := t5) (t6 := t6) (t7 := t7) (t8 := t8) (t9 := t9) (own := news.filter (fun p => decide (p.1 ≠ cc))) hB F X T hk hdp hun (kst_newsOf N ?_) ?_ hzc hz hc hx ?_
  · intro p hp
    rcases List.mem_cons.mp hp with rfl | hp
    · exact hcc
    rcases List.mem_cons.mp hp with rfl | hp
    · exact m1
    rcases List.mem_cons.mp hp with rfl | hp
    · exact m2
    rcases List.mem_cons.mp hp with rfl | hp
    · exact m3
    rcases List.mem_cons.mp hp with rfl | hp
    · exact m4
    rcases List.mem_cons.mp hp with rfl | hp
    · exact m5
    exact (List.mem_filter.mp hp).1
  · intro p hp
    simpa using (List.mem_filter.mp hp).2
  · intro vs x' d' u1 u2 h' tk' hi hF hl hl2 hN
    refine hret vs x' d' u1 u2 h' tk' hi (by rw [ofN_len, hx]) hF ?_ hl2 ?_
    · intro p hp
      by_cases e : p.1 = cc
      · rw [e]; exact hl.1
      · exact allLt_mem hl.2.2.2.2.2.2 p (List.mem_filter.mpr ⟨hp, by simpa using e⟩)
    · refine kst_newsOf hN ?_
      intro p hp
      rcases List.mem_cons.mp hp with rfl | hp
      · exact .head _
      rcases List.mem_cons.mp hp with rfl | hp
      · exact .tail _ (.head _)
      refine .tail _ (.tail _ ?_)
      rcases led_back (U vs) p hp with rfl | hp
      · exact .head _
      · exact .tail _ (.tail _ (.tail _ (.tail _ (.tail _ (.tail _ hp)))))
end
end
section
open PySem PySem.W PyProof.Rows
noncomputable def fnBody : Option Stmt → List Stmt
  | some (.FunctionDef _ _ b _ _ _ _ _ _ _) => b
  | _ => []
noncomputable def fnScope : Option Stmt → Scope
  | some (.FunctionDef _ _ _ _ _ _ sc _ _ _) => sc
  | _ => default
noncomputable def lawBody : List Stmt := fnBody PySem.Challenge.pw_yi0010_01.main.body.getLast?
noncomputable def lawScope : Scope := fnScope PySem.Challenge.pw_yi0010_01.main.body.getLast?
/-- n statements of the law from the i-th on, and what stands behind them -/
noncomputable def seg (i n : Nat) (rest : List Stmt) : List Stmt := (lawBody.drop i).take n ++ rest
theorem seg_drop (i n : Nat) : seg i n (lawBody.drop (i + n)) = lawBody.drop i := by
  unfold seg
  rw [show lawBody.drop (i + n) = (lawBody.drop i).drop n by rw [List.drop_drop]]
  exact List.take_append_drop _ _
noncomputable abbrev lawEnv (L a : Addr) (cd : Value) : Env := envOfC (PySem.Str.ofString "law") lawScope L a cd
noncomputable abbrev lawA (L a : Addr) (cd : Value) : Around := callerA.deeper (lawEnv L a cd)
noncomputable abbrev nm (x : String) : PySem.Str := PySem.Str.ofString x
noncomputable abbrev ringD (w : World) (zz : Addr) (t3 t4 t5 t6 t7 t8 t9 : Tok) (nr : Nat) : Obj := dictOf [ent w "q" t3 (.int 3329 t4), ent w "n" t5 (.int 256 t6), ent w "ntt_zetas" t7 (.ref zz), ent w "ntt_f" t8 (.int 3303 t9)] nr
noncomputable abbrev polyD (w : World) (xr c : Addr) (t1 t2 : Tok) (n : Nat) : Obj := dictOf [ent w "parent" t1 (.ref xr), ent w "coeffs" t2 (.ref c)] n
theorem fr_kst {h₀ h : Heap} {L : Addr} {m : PySem.Str → Option Value} {ps : List (PySem.Str × Value)} (F : Fr h₀ L h m) (hm : ∀ p ∈ ps, m p.1 = some p.2) : Fr h₀ L h (kstB m ps) := by
  have e : kstB m ps = m := by
    funext z
    exact kstB_eq hm fun _ => rfl
  rw [e]; exact F
end
section
open PySem PySem.W PyProof.Rows
set_option maxRecDepth 100000
section
variable {w : World} {mean : ExcName → Option Value} {mg mb : PySem.Str → Option Value} {cn : PySem.Str} {cs : Scope} {a : Addr} {ccd : Value} {cl : List (PySem.Str × Addr)} {outer : List Env} {A₀ : Around} {base h₀ : Heap} {L : Addr} {m : PySem.Str → Option Value} {s : Shared} {Q E : Value → Shared → Prop}
    {dp un : Nat} {gd : Option (List Code)} {cc xr dr zz : Addr} {t3 t4 t5 t6 t7 t8 t9 : Tok} {nr nc : Nat} {cvs : List Value} {xs : List Int} {own : List (Addr × Obj)}
set_option maxHeartbeats 2000000 in
theorem ring_full (hB : Below A₀ base outer h₀) (F : Fr h₀ L s.heap m) (X : (hd.heap_39 w.params).In h₀) (T : Top hd.view_39 (looseW hd.view_39 loo) mean mg mb h₀) (hk : cs.kind = .function) (hdp : dp + 6 < recursionLimit) (hun : un + 100 < cLine)
    (N : News h₀ L s.heap ((cc, W.listOf cvs.toArray nc) :: (xr, instObj 280 dr) :: (dr, ringD w zz t3 t4 t5 t6 t7 t8 t9 nr) :: own)) (hc : IntsAre cvs xs) (hx : xs.length = 256)
    (hret : ∀ (x' d' : Addr) (u1 u2 : Tok) (h' : Heap) (tk' : Nat), Fr h₀ L h' m → (cc < d' ∧ xr < d' ∧ dr < d' ∧ AllLt d' own) → d' < x' →
      News h₀ L h' ((x', instObj 344 d') :: (d', polyD w xr cc u1 u2 2) :: (cc, W.listOf cvs.toArray nc) :: (xr, instObj 280 dr) :: (dr, ringD w zz t3 t4 t5 t6 t7 t8 t9 nr) :: own) → Q (.ref x') { s with heap := h', toks := tk' }) :
    wpAny (model PySem.Challenge.rw_yi0010_01.row.prog w) (ktrTop dp un gd cn cs L a ccd cl outer) (call (.ref xr) [.ref cc]) Q E s := by
  k_with_none
  k_with "room" => first | ktr_room | (simp only [depth_under_make, depth_under_kw, depth_in1, depth_deeper]; omega)
  w_on
  revert X
  k_fill
  intro X
  dsimp only [ringD, polyD] at *
  refine wpAny_call ?_
  w_strict (k_dflt (refine' kco_code ?k1 ?k2 ?k3 ?k4 ?k5 ?k6 ?_; (case k1 => k_in); (case k2 => k_inst); (case k3 => rfl); (case k4 => k_is); (case k5 => k_is); (case k6 => k_is); (try dsimp only); (refine' code_def ?k1 ?k2 ?k3 ?k4 ?k5 ?kA ?kF ?kK ?k6 ?k7 ?k8 ?k9 ?kB ?_ ?c2 ?c3 ?c4 ?c5; (case kA => exact rfl); (case kF => exact rfl); (case kK => assumption); (case k1 => k_asm); (case k2 => k_asm); (case k3 => k_asm); (case k4 => k_asm); (case k5 => k_asm); (case k6 => k_is); (case k7 => k_is); (case k8 => ktr_room); (case k9 => first | exact binds_K (by k_in) rfl (by k_is) rfl rfl rfl | exact BindsTo.of_eq rfl); (case c5 => decide); (case kB => exact locs rfl); (case c2 => exact rfl); (case c3 => exact rfl); (case c4 => exact rfl); k_whole; intro g' L' h' FG' F' N' B' X' T'; (try dsimp only); (try k_lift B'); (try k_fold))))
  w_strict (repeat ((first | (k_unfold; (try dsimp only)) | (k_end; wrow_close) | walk1 | (dsimp only; walk1) | (leave1; walk_say "STEP leave1"; (try dsimp only)) | fail "no step")))
  exact hret _ _ _ _ _ _ (by assumption) (by assumption) (by assumption) (by assumption)
end
end
section
open PySem PySem.W PyProof.Rows
set_option maxRecDepth 100000
theorem zeros_eq (a : Int) (n : Nat) : (rangeKs a n).map (fun (_ : Int) => (0 : Int)) = List.replicate n 0 := by
  rw [List.map_const', rangeKs_length]
theorem news_skip2 {h₀ h : Heap} {L : Addr} {a b : Addr × Obj} {l : List (Addr × Obj)} (N : News h₀ L h (a :: b :: l)) : News h₀ L h (a :: l) := by
  intro p hp
  rcases List.mem_cons.mp hp with rfl | hp
  · exact N _ (.head _)
  · exact N _ (.tail _ (.tail _ hp))
section
variable {w : World} {mean : ExcName → Option Value} {mg mb : PySem.Str → Option Value} {cn : PySem.Str} {cs : Scope} {a : Addr} {ccd : Value} {cl : List (PySem.Str × Addr)} {outer : List Env} {A₀ : Around} {base h₀ : Heap} {L : Addr} {m : PySem.Str → Option Value} {s : Shared} {Q E : Value → Shared → Prop}
    {dp un : Nat} {gd : Option (List Code)} {cc xr dr zz : Addr} {t3 t4 t5 t6 t7 t8 t9 : Tok} {nr nc : Nat} {cvs : List Value} {xs : List Int} {own : List (Addr × Obj)}
set_option maxHeartbeats 2000000 in
theorem ring_short (hB : Below A₀ base outer h₀) (F : Fr h₀ L s.heap m) (X : (hd.heap_39 w.params).In h₀) (T : Top hd.view_39 (looseW hd.view_39 loo) mean mg mb h₀) (hk : cs.kind = .function) (hdp : dp + 6 < recursionLimit) (hun : un + 100 < cLine)
    (N : News h₀ L s.heap ((cc, W.listOf cvs.toArray nc) :: (xr, instObj 280 dr) :: (dr, ringD w zz t3 t4 t5 t6 t7 t8 t9 nr) :: own)) (hc : IntsAre cvs xs) (hx : xs.length < 256)
    (hret : ∀ (x' d' c' : Addr) (u1 u2 : Tok) (h' : Heap) (tk' : Nat) (vs : List Value), IntsAre vs (xs ++ List.replicate (256 - xs.length) 0) → Fr h₀ L h' m → (cc < d' ∧ xr < d' ∧ dr < d' ∧ AllLt d' own) → d' < x' → x' < c' →
      News h₀ L h' ((c', W.listOf vs.toArray 0) :: (x', instObj 344 d') :: (d', polyD w xr c' u1 u2 2) :: (cc, W.listOf cvs.toArray nc) :: (xr, instObj 280 dr) :: (dr, ringD w zz t3 t4 t5 t6 t7 t8 t9 nr) :: own) → Q (.ref x') { s with heap := h', toks := tk' }) :
    wpAny (model PySem.Challenge.rw_yi0010_01.row.prog w) (ktrTop dp un gd cn cs L a ccd cl outer) (call (.ref xr) [.ref cc]) Q E s := by
  k_with_none
  k_with "room" => first | ktr_room | (simp only [depth_under_make, depth_under_kw, depth_in1, depth_deeper]; omega)
  w_on
  revert X
  k_fill
  intro X
  dsimp only [ringD, polyD] at *
  refine wpAny_call ?_
  w_strict (k_dflt (refine' kco_code ?k1 ?k2 ?k3 ?k4 ?k5 ?k6 ?_; (case k1 => k_in); (case k2 => k_inst); (case k3 => rfl); (case k4 => k_is); (case k5 => k_is); (case k6 => k_is); (try dsimp only); (refine' code_def ?k1 ?k2 ?k3 ?k4 ?k5 ?kA ?kF ?kK ?k6 ?k7 ?k8 ?k9 ?kB ?_ ?c2 ?c3 ?c4 ?c5; (case kA => exact rfl); (case kF => exact rfl); (case kK => assumption); (case k1 => k_asm); (case k2 => k_asm); (case k3 => k_asm); (case k4 => k_asm); (case k5 => k_asm); (case k6 => k_is); (case k7 => k_is); (case k8 => ktr_room); (case k9 => first | exact binds_K (by k_in) rfl (by k_is) rfl rfl rfl | exact BindsTo.of_eq rfl); (case c5 => decide); (case kB => exact locs rfl); (case c2 => exact rfl); (case c3 => exact rfl); (case c4 => exact rfl); k_whole; intro g' L' h' FG' F' N' B' X' T'; (try dsimp only); (try k_lift B'); (try k_fold))))
  w_strict (repeat ((first | (k_unfold; (try dsimp only)) | (k_end; wrow_close) | walk1 | (dsimp only; walk1) | (leave1; walk_say "STEP leave1"; (try dsimp only)) | fail "no step")))
  (with_reducible rename News _ _ _ _ => N9); (with_reducible rename IntsAre _ (xs ++ _) => hi9); (with_reducible rename Fr _ _ _ _ => F9); (with_reducible rename cc < _ ∧ xr < _ ∧ dr < _ ∧ AllLt _ own => l9)
  have e9 : xs ++ List.map (fun (_ : Int) => (0 : Int)) (rangeKs 0 (256 - (xs.length : Int) - 0).toNat) = xs ++ List.replicate (256 - xs.length) 0 := by
    rw [zeros_eq, show (256 - (xs.length : Int) - 0).toNat = 256 - xs.length by omega]
  refine hret _ _ _ _ _ _ _ _ (e9 ▸ hi9) F9 l9 (by assumption) (by with_reducible rename _ ∧ _ < _ ∧ _ ∧ cc < _ ∧ _ => l8; exact l8.2.1) (news_skip2 N9)
end
end
section
open PySem PySem.W PyProof.Rows
set_option maxRecDepth 100000
section
variable {w : World} {mean : ExcName → Option Value} {mg mb : PySem.Str → Option Value} {cn : PySem.Str} {cs : Scope} {a : Addr} {ccd : Value} {cl : List (PySem.Str × Addr)} {outer : List Env} {A₀ : Around} {base h₀ : Heap} {L : Addr} {m : PySem.Str → Option Value} {s : Shared} {Q E : Value → Shared → Prop}
    {dp un : Nat} {gd : Option (List Code)} {cc xr dr zz : Addr} {t3 t4 t5 t6 t7 t8 t9 : Tok} {nr nc : Nat} {cvs : List Value} {xs : List Int} {news : List (Addr × Obj)}
theorem news_three {h : Heap} {a b c : Addr × Obj} {l : List (Addr × Obj)} (N : News h₀ L h l) (i1 : a ∈ l) (i2 : b ∈ l) (i3 : c ∈ l) : News h₀ L h (a :: b :: c :: l) := by
  intro p hp
  rcases List.mem_cons.mp hp with rfl | hp
  · exact N _ i1
  rcases List.mem_cons.mp hp with rfl | hp
  · exact N _ i2
  rcases List.mem_cons.mp hp with rfl | hp
  · exact N _ i3
  exact N _ hp
theorem ring_full_led (hB : Below A₀ base outer h₀) (F : Fr h₀ L s.heap m) (X : (hd.heap_39 w.params).In h₀) (T : Top hd.view_39 (looseW hd.view_39 loo) mean mg mb h₀) (hk : cs.kind = .function) (hdp : dp + 6 < recursionLimit) (hun : un + 100 < cLine)
    (N : News h₀ L s.heap news) (i1 : (cc, W.listOf cvs.toArray nc) ∈ news) (i2 : (xr, instObj 280 dr) ∈ news) (i3 : (dr, ringD w zz t3 t4 t5 t6 t7 t8 t9 nr) ∈ news) (hc : IntsAre cvs xs) (hx : xs.length = 256)
    (hret : ∀ (x' d' : Addr) (u1 u2 : Tok) (h' : Heap) (tk' : Nat), Fr h₀ L h' m → (∀ p ∈ news, p.1 < d') → d' < x' →
      News h₀ L h' ((x', instObj 344 d') :: (d', polyD w xr cc u1 u2 2) :: news) → Q (.ref x') { s with heap := h', toks := tk' }) :
    wpAny (model PySem.Challenge.rw_yi0010_01.row.prog w) (ktrTop dp un gd cn cs L a ccd cl outer) (call (.ref xr) [.ref cc]) Q E s := by
  refine ring_full hB F X T hk hdp hun (news_three N i1 i2 i3) hc hx fun x' d' u1 u2 h' tk' F' hl hl2 N' => hret x' d' u1 u2 h' tk' F' (allLt_mem hl.2.2.2) hl2 (kst_newsOf N' ?_)
  intro p hp
  rcases List.mem_cons.mp hp with rfl | hp
  · exact .head _
  rcases List.mem_cons.mp hp with rfl | hp
  · exact .tail _ (.head _)
  exact .tail _ (.tail _ (.tail _ (.tail _ (.tail _ hp))))
theorem ring_short_led (hB : Below A₀ base outer h₀) (F : Fr h₀ L s.heap m) (X : (hd.heap_39 w.params).In h₀) (T : Top hd.view_39 (looseW hd.view_39 loo) mean mg mb h₀) (hk : cs.kind = .function) (hdp : dp + 6 < recursionLimit) (hun : un + 100 < cLine)
    (N : News h₀ L s.heap news) (i1 : (cc, W.listOf cvs.toArray nc) ∈ news) (i2 : (xr, instObj 280 dr) ∈ news) (i3 : (dr, ringD w zz t3 t4 t5 t6 t7 t8 t9 nr) ∈ news) (hc : IntsAre cvs xs) (hx : xs.length < 256)
    (hret : ∀ (x' d' c' : Addr) (u1 u2 : Tok) (h' : Heap) (tk' : Nat) (vs : List Value), IntsAre vs (xs ++ List.replicate (256 - xs.length) 0) → Fr h₀ L h' m → (∀ p ∈ news, p.1 < d') → d' < x' → x' < c' →
      News h₀ L h' ((c', W.listOf vs.toArray 0) :: (x', instObj 344 d') :: (d', polyD w xr c' u1 u2 2) :: news) → Q (.ref x') { s with heap := h', toks := tk' }) :
    wpAny (model PySem.Challenge.rw_yi0010_01.row.prog w) (ktrTop dp un gd cn cs L a ccd cl outer) (call (.ref xr) [.ref cc]) Q E s := by
  refine ring_short hB F X T hk hdp hun (news_three N i1 i2 i3) hc hx fun x' d' c' u1 u2 h' tk' vs hv F' hl hl2 hl3 N' => hret x' d' c' u1 u2 h' tk' vs hv F' (allLt_mem hl.2.2.2) hl2 hl3 (kst_newsOf N' ?_)
  intro p hp
  rcases List.mem_cons.mp hp with rfl | hp
  · exact .head _
  rcases List.mem_cons.mp hp with rfl | hp
  · exact .tail _ (.head _)
  rcases List.mem_cons.mp hp with rfl | hp
  · exact .tail _ (.tail _ (.head _))
  exact .tail _ (.tail _ (.tail _ (.tail _ (.tail _ (.tail _ hp)))))
end
end
section
open PySem PySem.W PyProof.Rows PySem.Calls
set_option maxRecDepth 100000
section
variable {prog : Program} {w : World} {A : Around} {E : Value → Shared → Prop} {s : Shared} {env : Env} {h₀ : Heap} {x : PySem.Str} {body : List Stmt} {Q : Flow → Shared → Prop} {m₀ : PySem.Str → Option Value}
/-- a turn's end: the ledger may have grown -/
noncomputable def GrowEnd {σ : Type} (h₀ : Heap) (L : Addr) (Led : σ → List (Addr × Obj)) (P : σ → Prop) (x : PySem.Str) (m₀ : PySem.Str → Option Value) (I : Addr) (oI : Obj) (s₁ s₂ : Shared) : Prop :=
  ∃ c h' tk m', s₂ = { s₁ with heap := h', toks := tk } ∧ Fr h₀ L h' m' ∧ News h₀ L h' ((I, oI) :: Led c) ∧ (∀ p ∈ Led c, p.1 ≠ I) ∧ (∀ z, z ≠ x → m' z = m₀ z) ∧ P c
noncomputable def GrowPost {σ : Type} (h₀ : Heap) (L : Addr) (Led : σ → List (Addr × Obj)) (P : σ → Prop) (x : PySem.Str) (m₀ : PySem.Str → Option Value) (I : Addr) (oI : Obj) (s₁ : Shared) (Q : Flow → Shared → Prop) (f : Flow) (s₂ : Shared) : Prop :=
  match f with
  | .ret v => Q (.ret v) s₂
  | .brk => Q .next s₂
  | _ => GrowEnd h₀ L Led P x m₀ I oI s₁ s₂
theorem fr_same {L : Addr} {h : Heap} {m₁ : PySem.Str → Option Value} {v : Value} (h2 : ∀ z, z ≠ x → m₁ z = m₀ z) (F : Fr h₀ L h (fun y => if y = x then some v else m₁ y)) : Fr h₀ L h (fun y => if y = x then some v else m₀ y) := by
  have e : (fun y => if y = x then some v else m₁ y) = fun y => if y = x then some v else m₀ y := by
    funext y
    by_cases hy : y = x
    · rw [if_pos hy, if_pos hy]
    · rw [if_neg hy, if_neg hy]; exact h2 y hy
  rw [← e]; exact F
theorem for_walk {σ : Type} {I : Addr} {fp : List Addr} {n : Nat} {Pv : Nat → Value → Prop} {St : Nat → Heap → Prop} (Led : σ → List (Addr × Obj)) (P : Nat → σ → Prop) (c₀ : σ)
    (W : Walks prog w A I fp [I] n Pv St) (hLf : env.locals ∉ fp) (hI0 : h₀.get? I = none) (hst : St 0 s.heap) (hget : ∀ i h, St i h → ∃ o, h.get? I = some o) (hIf : I ∈ fp)
    (hoth : ∀ b ∈ fp, b ≠ I → h₀.get? b = none → ∃ o, ∀ c, (b, o) ∈ Led c)
    (F : Fr h₀ env.locals s.heap m₀) (N : News h₀ env.locals s.heap (Led c₀)) (hn0 : ∀ p ∈ Led c₀, p.1 ≠ I) (hp : P 0 c₀)
    (turn : ∀ c i v h tk oI, i < n → Pv i v → P i c → (∀ p ∈ Led c, p.1 ≠ I) → Fr h₀ env.locals h (fun y => if y = x then some v else m₀ y) → News h₀ env.locals h ((I, oI) :: Led c) →
      wpAny (model prog w) A (execs body env) (GrowPost h₀ env.locals Led (P (i + 1)) x m₀ I oI { s with heap := h, toks := tk } Q) E { s with heap := h, toks := tk })
    (done : ∀ c m' h tk, P n c → Fr h₀ env.locals h m' → (∀ z, z ≠ x → m' z = m₀ z) → News h₀ env.locals h (Led c) → Q .next { s with heap := h, toks := tk }) :
    LoopAtV prog w A h₀ env x body Q E (.ref I) s := by
  refine ⟨I, fp, [I], n, Pv, St, m₀, Led c₀, (fun i m nx => ∃ c, nx = Led c ∧ (∀ z, z ≠ x → m z = m₀ z) ∧ P i c), rfl, W, hLf, ?_, ?_, hst, F, N, ⟨c₀, rfl, fun _ _ => rfl, hp⟩, ?_, ?_⟩
  · intro b hb
    rw [List.mem_singleton.mp hb]; exact hI0
  · intro p hp hI
    exact hn0 p hp (List.mem_singleton.mp hI)
  · rintro i v m₁ news₁ s₁ own ⟨hh', tk', rfl⟩ hin hP ⟨c, rfl, hm, hPc⟩ hoff hown hgetown hfp hst' F₁ N₁
    have hoffI : ∀ p ∈ Led c, p.1 ≠ I := fun p hp e => hoff p hp (by rw [e]; exact List.mem_singleton.mpr rfl)
    obtain ⟨oI, hoI⟩ := hget _ _ hst'
    have hmI : (I, oI) ∈ own := hfp I hIf hI0 oI hoI
    have N₂ : News h₀ env.locals hh' ((I, oI) :: Led c) := by
      intro p hp
      rcases List.mem_cons.mp hp with rfl | hp
      · exact N₁ _ (List.mem_append.mpr (.inl hmI))
      · exact N₁ _ (List.mem_append.mpr (.inr hp))
    refine wpAny_mono (turn c i v hh' tk' oI hin hP hPc hoffI (fr_same hm F₁) N₂) (fun f s₂ p => ?_) fun _ _ e => e
    have fin : GrowEnd h₀ env.locals Led (P (i + 1)) x m₀ I oI { s with heap := hh', toks := tk' } s₂ → LoopStepU h₀ env.locals [I] own (fun m nx => ∃ c, nx = Led c ∧ (∀ z, z ≠ x → m z = m₀ z) ∧ P (i + 1) c) { s with heap := hh', toks := tk' } .next s₂ := by
      rintro ⟨c', h', tk2, m', rfl, F', N', hnI, hm', hP'⟩
      refine ⟨rfl, h', tk2, m', Led c', rfl, F', ?_, ?_, ⟨c', rfl, hm', hP'⟩⟩
      · intro p hp
        rcases List.mem_append.mp hp with hp | hp
        · have hg := hgetown p hp
          have h0 := (N₁ p (List.mem_append.mpr (.inl hp))).2.2
          by_cases hI : p.1 = I
          · have e : p.2 = oI := by
              rw [hI] at hg
              exact Option.some.inj (hg.symm.trans hoI)
            have e2 : p = (I, oI) := by rw [← hI, ← e]
            rw [e2]; exact N' _ (.head _)
          · obtain ⟨o, ho⟩ := hoth p.1 (hown p hp) hI h0
            have e : p.2 = o := Option.some.inj (hg.symm.trans (N₁ _ (List.mem_append.mpr (.inr (ho c)))).1)
            have e2 : p = (p.1, o) := by rw [← e]
            rw [e2]; exact N' _ (.tail _ (ho c'))
        · exact N' _ (.tail _ hp)
      · intro p hp hI
        exact hnI p hp (List.mem_singleton.mp hI)
    cases f with
    | ret v => exact .ret p
    | brk => exact .brk p
    | next => exact .next (fin p)
    | cont => exact .cont (fin p)
  · rintro h' tk m' news' F' N' _ ⟨c, rfl, hm, hP⟩
    exact done c m' h' tk hP F' hm N'

/-- over a range; the ledger may grow -/
theorem grow_range {σ : Type} {r : Addr} {a₀ b₀ : Int} {t₀ u₀ v₀ : Tok} {n : Nat} (Led : σ → List (Addr × Obj)) (P : Nat → σ → Prop) (c₀ : σ)
    (hh : A.handled = none) (hr : IsRange s.heap r a₀ b₀ 1 t₀ u₀ v₀) (hsmall : Builtin.Range.small a₀ b₀ 1 = true) (hn : Builtin.Range.rangeSize a₀ b₀ 1 = (n : Int)) (F : Fr h₀ env.locals s.heap m₀) (N : News h₀ env.locals s.heap (Led c₀)) (hp : P 0 c₀)
    (turn : ∀ I c i v h tk oI, i < n → P i c → (∀ p ∈ Led c, p.1 ≠ I) → Fr h₀ env.locals h (fun y => if y = x then some v else m₀ y) → News h₀ env.locals h ((I, oI) :: Led c) →
      wpAny (model prog w) A (execs body env) (GrowPost h₀ env.locals Led (P (i + 1)) x m₀ I oI { s with heap := h, toks := tk } Q) E { s with heap := h, toks := tk })
    (done : ∀ c m' h tk, P n c → Fr h₀ env.locals h m' → (∀ z, z ≠ x → m' z = m₀ z) → News h₀ env.locals h (Led c) → Q .next { s with heap := h, toks := tk }) :
    wpAny (model prog w) A (pyIter (.ref r)) (fun it s₂ => LoopAtV prog w A h₀ env x body Q E it s₂) E s := by
  refine wpAny_pyIter_range hr hsmall ?_
  have W : Walks prog w A s.heap.objs.size [s.heap.objs.size] [s.heap.objs.size] n (fun i v => i < n ∧ ∃ t, v = .int (a₀ + i * 1) t)
      (fun i h => IsRangeIter h s.heap.objs.size (a₀ + (i : Nat) * 1) ((n : Int) - (i : Nat)) 1) := (Walks.range hh _ a₀ 1 n).bound
  refine for_walk (I := s.heap.objs.size) Led P c₀ W ?_ (next_is_new F) (by show IsRangeIter _ _ _ _ _; rw [hn]; simpa using Heap.get?_push_size _ rfl) ?_ (.head _) ?_ (F.push _) (fun p hp => ⟨Heap.get?_push_of_some _ (N p hp).1, (N p hp).2⟩) ?_ hp ?_ ?_
  · intro hm
    exact absurd F.ns.lt ((List.mem_singleton.mp hm) ▸ Nat.lt_irrefl _)
  · intro i h hst
    exact ⟨_, hst⟩
  · intro b hb hne
    exact absurd (List.mem_singleton.mp hb) hne
  · intro p hp e
    exact absurd (Heap.lt_size (N p hp).1) (e ▸ Nat.lt_irrefl _)
  · intro c i v h tk oI hi _ hP hI F₁ N₁
    exact turn _ c i v h tk oI hi hP hI F₁ N₁
  · intro c m' h tk hP F₁ hm N₁
    exact done c m' h tk hP F₁ hm N₁

/-- over a list of the ledger; the ledger may grow, the list stays -/
theorem grow_list {σ : Type} {l : Addr} {vs : List Value} {nn : Nat} (Led : σ → List (Addr × Obj)) (P : Nat → σ → Prop) (c₀ : σ)
    (hh : A.handled = none) (hl : ∀ c, (l, W.listOf vs.toArray nn) ∈ Led c) (F : Fr h₀ env.locals s.heap m₀) (N : News h₀ env.locals s.heap (Led c₀)) (hp : P 0 c₀)
    (turn : ∀ I c i v h tk oI, vs[i]? = some v → P i c → (∀ p ∈ Led c, p.1 ≠ I) → Fr h₀ env.locals h (fun y => if y = x then some v else m₀ y) → News h₀ env.locals h ((I, oI) :: Led c) →
      wpAny (model prog w) A (execs body env) (GrowPost h₀ env.locals Led (P (i + 1)) x m₀ I oI { s with heap := h, toks := tk } Q) E { s with heap := h, toks := tk })
    (done : ∀ c m' h tk, P vs.length c → Fr h₀ env.locals h m' → (∀ z, z ≠ x → m' z = m₀ z) → News h₀ env.locals h (Led c) → Q .next { s with heap := h, toks := tk }) :
    wpAny (model prog w) A (pyIter (.ref l)) (fun it s₂ => LoopAtV prog w A h₀ env x body Q E it s₂) E s := by
  have hol : s.heap.get? l = some (W.listOf vs.toArray nn) := (N _ (hl c₀)).1
  have hls : s.heap.IsList l vs.toArray := ⟨_, hol, rfl, nn, rfl⟩
  have hne : l ≠ s.heap.objs.size := Nat.ne_of_lt (Heap.lt_size hol)
  refine wpAny_pyIter_list hls ?_
  have W := Walks.list (prog := prog) (w := w) hh s.heap.objs.size l hne vs.toArray
  rw [List.size_toArray] at W
  refine for_walk (I := s.heap.objs.size) Led P c₀ W ?_ (next_is_new F) ⟨⟨_, Heap.get?_push_size _ rfl, rfl, rfl⟩, hls.at fun o e => Heap.get?_push_of_some _ e⟩ ?_ (.head _) ?_ (F.push _) (fun p hp => ⟨Heap.get?_push_of_some _ (N p hp).1, (N p hp).2⟩) ?_ hp ?_ ?_
  · intro hm
    rcases List.mem_cons.mp hm with e | hm
    · exact absurd F.ns.lt (e ▸ Nat.lt_irrefl _)
    · exact (N _ (hl c₀)).2.1 ((List.mem_singleton.mp hm).symm)
  · rintro i h ⟨⟨o, ho, _⟩, _⟩
    exact ⟨o, ho⟩
  · intro b hb hbI _
    rcases List.mem_cons.mp hb with e | hb
    · exact absurd e hbI
    · rw [List.mem_singleton.mp hb]
      exact ⟨_, hl⟩
  · intro p hp e
    exact absurd (Heap.lt_size (N p hp).1) (e ▸ Nat.lt_irrefl _)
  · intro c i v h tk oI _ hv hP hI F₁ N₁
    exact turn _ c i v h tk oI (by simpa using hv) hP hI F₁ N₁
  · intro c m' h tk hP F₁ hm N₁
    exact done c m' h tk hP F₁ hm N₁
theorem for_search {l : Addr} {vs : List Value} {nn : Nat} {led : List (Addr × Obj)} (hh : A.handled = none) (hl : (l, W.listOf vs.toArray nn) ∈ led) (F : Fr h₀ env.locals s.heap m₀) (N : News h₀ env.locals s.heap led)
    (turn : ∀ I v h tk oI, v ∈ vs → (∀ p ∈ led, p.1 ≠ I) → Fr h₀ env.locals h (fun y => if y = x then some v else m₀ y) → News h₀ env.locals h ((I, oI) :: led) →
      wpAny (model prog w) A (execs body env) (GrowPost (σ := Unit) h₀ env.locals (fun _ => led) (fun _ => True) x m₀ I oI { s with heap := h, toks := tk } Q) E { s with heap := h, toks := tk })
    (done : ∀ m' h tk, Fr h₀ env.locals h m' → (∀ z, z ≠ x → m' z = m₀ z) → News h₀ env.locals h led → Q .next { s with heap := h, toks := tk }) :
    wpAny (model prog w) A (pyIter (.ref l)) (fun it s₂ => LoopAtV prog w A h₀ env x body Q E it s₂) E s := by
  refine grow_list (σ := Unit) (fun _ => led) (fun _ _ => True) () hh (fun _ => hl) F N trivial ?_ ?_
  · intro I _ i v h tk oI hi _ hI F₁ N₁
    exact turn I v h tk oI (List.mem_of_getElem? hi) hI F₁ N₁
  · intro _ m' h tk _ F₁ hm N₁
    exact done m' h tk F₁ hm N₁
theorem news_drop2 {L : Addr} {h : Heap} {a b c : Addr × Obj} {l : List (Addr × Obj)} (N : News h₀ L h (a :: b :: c :: l)) : News h₀ L h (a :: l) := by
  intro p hp
  rcases List.mem_cons.mp hp with rfl | hp
  · exact N _ (.head _)
  · exact N _ (.tail _ (.tail _ (.tail _ hp)))
theorem news_tail {L : Addr} {h : Heap} {a : Addr × Obj} {l : List (Addr × Obj)} (N : News h₀ L h (a :: l)) : News h₀ L h l := fun p hp => N p (.tail _ hp)
theorem grow_end {σ : Type} {Led : σ → List (Addr × Obj)} {P : σ → Prop} {I : Addr} {oI : Obj} {s₁ : Shared} {L : Addr} {h' : Heap} {tk : Nat} {m' : PySem.Str → Option Value} (c : σ) (F : Fr h₀ L h' m') (N : News h₀ L h' ((I, oI) :: Led c)) (hI : ∀ p ∈ Led c, p.1 ≠ I) (hm : ∀ z, z ≠ x → m' z = m₀ z) (hp : P c) :
    GrowEnd h₀ L Led P x m₀ I oI s₁ { s₁ with heap := h', toks := tk } := ⟨c, h', tk, m', rfl, F, N, hI, hm, hp⟩
end
end
section
open PySem PySem.W PyProof.Rows
set_option maxRecDepth 100000
noncomputable def HasPoly (w : World) (C xr c : Addr) (led : List (Addr × Obj)) (x : Addr) : Prop := ∃ d t1 t2 n, (x, instObj C d) ∈ led ∧ (d, polyD w xr c t1 t2 n) ∈ led
theorem HasPoly.mono {w : World} {C xr c : Addr} {led led' : List (Addr × Obj)} {x : Addr} (h : HasPoly w C xr c led x) (hs : ∀ p ∈ led, p ∈ led') : HasPoly w C xr c led' x := by
  obtain ⟨d, t1, t2, n, a, b⟩ := h
  exact ⟨d, t1, t2, n, hs _ a, hs _ b⟩
theorem news_swap {h₀ h : Heap} {L : Addr} {a b : Addr × Obj} {l : List (Addr × Obj)} (N : News h₀ L h (a :: b :: l)) : News h₀ L h (b :: a :: l) := by
  intro p hp
  rcases List.mem_cons.mp hp with rfl | hp
  · exact N _ (.tail _ (.head _))
  rcases List.mem_cons.mp hp with rfl | hp
  · exact N _ (.head _)
  exact N _ (.tail _ (.tail _ hp))
theorem name_lt {c l : Addr} {o : List (Addr × Obj)} (h : c < l ∧ AllLt l o) : ∃ x, x = l ∧ (c < x ∧ AllLt x o) := ⟨l, rfl, h⟩
theorem add_news {prog : Program} {w : World} {A : Around} {E : Value → Shared → Prop} {s : Shared} {h₀ : Heap} {L a b : Addr} {m : PySem.Str → Option Value} {news : List (Addr × Obj)} {vs ws : List Value} {n n2 : Nat} {Q : Value → Shared → Prop} (F : Fr h₀ L s.heap m) (N : News h₀ L s.heap news)
    (i : (a, W.listOf vs.toArray n) ∈ news) (j : (b, W.listOf ws.toArray n2) ∈ news)
    (h : ∀ D h', Fr h₀ L h' m → News h₀ L h' ((D, W.listOf (vs ++ ws).toArray 0) :: news) → (∀ p ∈ news, p.1 < D) → Q (.ref D) { s with heap := h' })
    (hz : vs.length + ws.length ≤ sizeLine) : wpAny (model prog w) A (binaryOp .Add (.ref a) (.ref b)) Q E s :=
  kmk_add_lit F N ⟨_, (N _ i).1, rfl, _, rfl⟩ ⟨_, (N _ j).1, rfl, _, rfl⟩ (by simp) h (by simpa using hz)
theorem ne_news {prog : Program} {w : World} {A : Around} {E : Value → Shared → Prop} {s : Shared} {h₀ : Heap} {L a b : Addr} {news : List (Addr × Obj)} {vs ws : List Value} {ns ms : List Int} {n n2 : Nat} {Q : Value → Shared → Prop} (N : News h₀ L s.heap news)
    (i : (a, W.listOf vs.toArray n) ∈ news) (j : (b, W.listOf ws.toArray n2) ∈ news) (hi : IntsAre vs ns) (hj : IntsAre ws ms) (e : ns = ms) (hu : A.units + 64 < cLine) (h : Q (.bool false) s) : wpAny (model prog w) A (compareOp .NotEq (.ref a) (.ref b)) Q E s :=
  ke_ne_ints ⟨_, (N _ i).1, rfl, _, rfl⟩ ⟨_, (N _ j).1, rfl, _, rfl⟩ hi hj hu (by rw [decide_eq_true e]; exact h)
theorem eq_news {prog : Program} {w : World} {A : Around} {E : Value → Shared → Prop} {s : Shared} {h₀ : Heap} {L a b : Addr} {news : List (Addr × Obj)} {vs ws : List Value} {ns ms : List Int} {n n2 : Nat} {Q : Value → Shared → Prop} (N : News h₀ L s.heap news)
    (i : (a, W.listOf vs.toArray n) ∈ news) (j : (b, W.listOf ws.toArray n2) ∈ news) (hi : IntsAre vs ns) (hj : IntsAre ws ms) (e : ns = ms) (hu : A.units + 64 < cLine) (h : Q (.bool true) s) : wpAny (model prog w) A (compareOp .Eq (.ref a) (.ref b)) Q E s :=
  ke_eq_ints ⟨_, (N _ i).1, rfl, _, rfl⟩ ⟨_, (N _ j).1, rfl, _, rfl⟩ hi hj hu (by rw [decide_eq_true e]; exact h)
theorem item_news {prog : Program} {w : World} {A : Around} {E : Value → Shared → Prop} {s : Shared} {h₀ : Heap} {L l : Addr} {news : List (Addr × Obj)} {v : Value} {vs : List Value} {n : Nat} {u : Tok} {value slice : PySem.Expr} {Q : Value → Shared → Prop} (N : News h₀ L s.heap news)
    (i : (l, W.listOf (v :: vs).toArray n) ∈ news) (h : Q v s) (hs : subscripted slice false (.ref l) (.int 0 u) = operate [.ref l, .int 0 u] (getItem (.ref l) (.int 0 u))) : wpAny (model prog w) A (subscriptTail value slice (.ref l) (.int 0 u)) Q E s :=
  have hl : s.heap.IsList l (v :: vs).toArray := ⟨_, (N _ i).1, rfl, _, rfl⟩
  tail_any hl.typeIs slot_list_getitem.lookup (wpAny_getItem_list hl (by decide) (by decide) (by simp) h) hs
theorem copy_news {prog : Program} {w : World} {A : Around} {E : Value → Shared → Prop} {s : Shared} {h₀ : Heap} {L l : Addr} {m : PySem.Str → Option Value} {news : List (Addr × Obj)} {vs : List Value} {n : Nat} {Q : Value → Shared → Prop} (F : Fr h₀ L s.heap m) (N : News h₀ L s.heap news)
    (i : (l, W.listOf vs.toArray n) ∈ news) (h : ∀ D h', Fr h₀ L h' m → News h₀ L h' ((D, W.listOf vs.toArray 0) :: news) → (∀ p ∈ news, p.1 < D) → Q (.ref D) { s with heap := h' })
    (hz : vs.length ≤ sizeLine) : wpAny (model prog w) A (call (.builtin "list.copy") [.ref l]) Q E s :=
  copy_list (hsz := by simpa using hz) F N ⟨_, (N _ i).1, rfl, _, rfl⟩ fun h' F' N' => h _ h' F' N' fun p hp => Heap.lt_size (N p hp).1
theorem news_cons {h₀ h : Heap} {L : Addr} {a : Addr × Obj} {l : List (Addr × Obj)} (N : News h₀ L h l) (i : a ∈ l) : News h₀ L h (a :: l) := by
  intro p hp
  rcases List.mem_cons.mp hp with rfl | hp
  · exact N _ i
  · exact N _ hp
noncomputable def Le3 (n : Nat) : Prop := n ≤ 3
structure HSt where
  vs : List Value
  hs : List Addr
  nh : Nat
  objs : List (Addr × Obj)
noncomputable def ledH (cc hh nc : Nat) (own : List (Addr × Obj)) (c : HSt) : List (Addr × Obj) := (cc, W.listOf c.vs.toArray nc) :: (hh, W.listOf (c.hs.map Value.ref).toArray c.nh) :: (c.objs ++ own)
noncomputable def PH (w : World) (C xr cc hh : Addr) (f : List Int → List Int) (xs : List Int) (i : Nat) (c : HSt) : Prop :=
  IntsAre c.vs (times f i xs) ∧ c.hs.length = i ∧ (∀ x ∈ c.hs, HasPoly w C xr cc c.objs x) ∧ (∀ p ∈ c.objs, p.1 ≠ cc) ∧ ∀ p ∈ c.objs, p.1 ≠ hh
theorem times_len {f : List Int → List Int} (hf : ∀ xs, (f xs).length = xs.length) (n : Nat) (xs : List Int) : (times f n xs).length = xs.length := by
  induction n with
  | zero => rfl
  | succ n ih => show (f (times f n xs)).length = _; rw [hf, ih]
theorem h_turn {w : World} {h₀ h' : Heap} {L cc hh I d x xr C : Addr} {oI : Obj} {nc nh i tk : Nat} {vs rs : List Value} {hs : List Addr} {objs own r2 : List (Addr × Obj)} {m' m₀ : PySem.Str → Option Value} {f : List Int → List Int} {xs ys : List Int} {u1 u2 : Tok} {s₁ : Shared} {xn : PySem.Str}
    (F : Fr h₀ L h' m') (N : News h₀ L h' ((x, instObj C d) :: (d, polyD w xr cc u1 u2 2) :: (I, oI) :: (cc, W.listOf vs.toArray nc) :: (hh, W.listOf (rs.toArray.push (.ref x)) (nh + 1)) :: r2))
    (hv : IntsAre vs (f ys)) (hys : ys = times f i xs) (hrs : rs = hs.map Value.ref) (hr2 : r2 = objs ++ own) (hl : hs.length = i) (hall : ∀ x ∈ hs, HasPoly w C xr cc objs x) (ho1 : ∀ p ∈ objs, p.1 ≠ cc) (ho2 : ∀ p ∈ objs, p.1 ≠ hh)
    (l1 : I < d ∧ cc < d ∧ hh < d ∧ AllLt d r2) (l2 : d < x) (qc : cc ≠ I) (qh : hh ≠ I) (qr : ∀ p ∈ r2, p.1 ≠ I) (hm : ∀ z, z ≠ xn → m' z = m₀ z) :
    GrowEnd h₀ L (ledH cc hh nc own) (PH w C xr cc hh f xs (i + 1)) xn m₀ I oI s₁ { s₁ with heap := h', toks := tk } := by
  have e : rs.toArray.push (Value.ref x) = ((hs ++ [x]).map Value.ref).toArray := by rw [hrs]; simp
  rw [e] at N
  refine grow_end ⟨vs, hs ++ [x], nh + 1, (x, instObj C d) :: (d, polyD w xr cc u1 u2 2) :: objs⟩ F (kst_newsOf N ?_) ?_ hm ⟨?_, ?_, ?_, ?_, ?_⟩
  · intro p hp
    rw [hr2]
    simp only [ledH, List.mem_cons, List.mem_append, List.cons_append] at hp ⊢
    rcases hp with h | h | h | h | h | h | h <;> simp [h]
  · intro p hp
    simp only [ledH, List.mem_cons, List.mem_append, List.cons_append] at hp
    have l1a : @LT.lt Nat _ I d := l1.1
    have l2a : @LT.lt Nat _ d x := l2
    rcases hp with h | h | h | h | h | h
    · rw [h]; exact qc
    · rw [h]; exact qh
    · rw [h]; exact Nat.ne_of_gt (Nat.lt_trans l1a l2a)
    · rw [h]; exact Nat.ne_of_gt l1a
    · exact qr p (by rw [hr2]; exact List.mem_append.mpr (.inl h))
    · exact qr p (by rw [hr2]; exact List.mem_append.mpr (.inr h))
  · rw [hys] at hv; exact hv
  · simp [hl]
  · intro y hy
    rcases List.mem_append.mp hy with hy | hy
    · exact (hall y hy).mono fun p hp => .tail _ (.tail _ hp)
    · rw [List.mem_singleton.mp hy]
      exact ⟨d, u1, u2, 2, .head _, .tail _ (.head _)⟩
  · intro p hp
    rcases List.mem_cons.mp hp with rfl | hp
    · exact Nat.ne_of_gt (Nat.lt_trans l1.2.1 l2)
    rcases List.mem_cons.mp hp with rfl | hp
    · exact Nat.ne_of_gt l1.2.1
    exact ho1 p hp
  · intro p hp
    rcases List.mem_cons.mp hp with rfl | hp
    · exact Nat.ne_of_gt (Nat.lt_trans l1.2.2.1 l2)
    rcases List.mem_cons.mp hp with rfl | hp
    · exact Nat.ne_of_gt l1.2.2.1
    exact ho2 p hp
end
section
open PySem PySem.W PyProof.Rows PySem.Calls PySem.Spec PyProof.Rows.LCg PyProof.Rows.LCp
set_option maxRecDepth 100000
theorem objs_of {h : Heap} : ∀ {fp : List Addr}, (∀ b ∈ fp, ∃ o, h.get? b = some o) → ∃ os : List (Addr × Obj), (∀ p ∈ os, p.1 ∈ fp ∧ h.get? p.1 = some p.2) ∧ ∀ b ∈ fp, ∃ o, (b, o) ∈ os
  | [], _ => ⟨[], fun _ h => (nomatch h), fun _ h => (nomatch h)⟩
  | b :: r, H => by
    obtain ⟨o, ho⟩ := H b (.head _)
    obtain ⟨os, h1, h2⟩ := objs_of (fp := r) fun c hc => H c (.tail _ hc)
    refine ⟨(b, o) :: os, fun p hp => ?_, fun c hc => ?_⟩
    · rcases List.mem_cons.mp hp with rfl | hp
      · exact ⟨.head _, ho⟩
      · exact ⟨.tail _ (h1 p hp).1, (h1 p hp).2⟩
    · rcases List.mem_cons.mp hc with rfl | hc
      · exact ⟨o, .head _⟩
      · obtain ⟨o', h'⟩ := h2 c hc
        exact ⟨o', .tail _ h'⟩
theorem fr_wr {h₀ h h' : Heap} {L : Addr} {m : PySem.Str → Option Value} {wr : List Addr} (F : Fr h₀ L h m) (hk : ∀ b o, b ∉ wr → h.get? b = some o → h'.get? b = some o) (hL : L ∉ wr) (h0 : ∀ b ∈ wr, h₀.get? b = none) : Fr h₀ L h' m :=
  ⟨F.ns.at' fun o e => hk L o hL e, fun b o e => hk b o (fun hm => by rw [h0 b hm] at e; cases e) (F.keep b o e), F.above⟩
theorem news_wr {h₀ h h' : Heap} {L : Addr} {news : List (Addr × Obj)} {wr : List Addr} (N : News h₀ L h news) (hk : ∀ b o, b ∉ wr → h.get? b = some o → h'.get? b = some o) (off : ∀ p ∈ news, p.1 ∉ wr) : News h₀ L h' news :=
  fun p hp => ⟨hk _ _ (off p hp) (N p hp).1, (N p hp).2⟩
/-- an element's end -/
noncomputable def EltEnd (h₀ : Heap) (L : Addr) (m : PySem.Str → Option Value) (led : List (Addr × Obj)) (v : Int) (s₁ : Shared) (y : Value) (s₂ : Shared) : Prop :=
  (∃ t, y = .int v t) ∧ ∃ h' tk, s₂ = { s₁ with heap := h', toks := tk } ∧ Fr h₀ L h' m ∧ News h₀ L h' led
theorem ints_take_succ {g : Int → Int} {ys : List Value} {xs : List Int} {i : Nat} {a : Int} {t : Tok} (h : IntsAre ys ((xs.take i).map g)) (hx : xs[i]? = some a) : IntsAre (ys ++ [.int (g a) t]) ((xs.take (i + 1)).map g) := by
  have e : xs.take (i + 1) = xs.take i ++ [a] := by rw [List.take_add_one, hx]; rfl
  rw [e, List.map_append]
  exact IntsAre.append h (.cons _ _ .nil)
section
variable {prog : Program} {w : World} {A : Around} {E : Value → Shared → Prop} {s : Shared} {h₀ : Heap} {L : Addr} {m : PySem.Str → Option Value} {env : Env}
theorem block_Z {elt iter : PySem.Expr} {x x₂ : PySem.Str} {px px₂ tp : Pos} {tk : Nat} {scope : Scope} {cl : List (PySem.Str × Addr)} {pos : Pos} {s₂ : Shared} {I : Addr} {fp wr : List Addr} {xs : List Int} {Pt : Nat → Array Value → Prop} {St : Nat → Heap → Prop} {Mid : Nat → Addr → Heap → Prop} {news : List (Addr × Obj)} (g : Int → Int)
    {RR : Value → Addr → Result → Shared → Prop}
    (W : WalksU prog w A I fp wr xs.length Pt St Mid) (hsz : xs.length ≤ sizeLine) (hget : ∀ i h, St i h → ∀ b ∈ fp, ∃ o, h.get? b = some o)
    (hPt : ∀ i vals, i < xs.length → Pt i vals → ∃ a t, xs[i]? = some a ∧ vals = #[Value.int a t, Value.int a t])
    (hcell : ∀ y ∈ scope.names, y.2 ≠ .cell) (hkind : scope.kind = .function) (hx : scope.names.lookup x = some .local) (hx₂ : scope.names.lookup x₂ = some .local) (hxx : x ≠ x₂) (hh : A.handled = none) (hst : St 0 s₂.heap) (hfp : ∀ b ∈ fp, b < s₂.heap.objs.size)
    (hfp0 : ∀ b ∈ fp, b ≠ L ∧ h₀.get? b = none) (F : Fr h₀ L s₂.heap m) (N : News h₀ L s₂.heap news) (off : ∀ p ∈ news, p.1 ∉ wr)
    (elt_ok : ∀ (C : Addr) (oC : Obj) (h : Heap) (tk : Nat) (m₂ : PySem.Str → Option Value) (help : List (Addr × Obj)) (i : Nat) (a : Int) (t : Tok), xs[i]? = some a → NsObj oC m₂ → m₂ x = some (.int a t) → m₂ x₂ = some (.int a t) → Fr h₀ L h m → News h₀ L h ((C, oC) :: (news ++ help)) →
      wpAny (model prog w) A (eval elt (compEnvC scope cl C env)) (EltEnd h₀ L m ((C, oC) :: (news ++ help)) (g a) { s₂ with heap := h, toks := tk }) (fun _ _ => False) { s₂ with heap := h, toks := tk })
    (hRR : ∀ D C h tk m' ys, Fr h₀ L h m → News h₀ L h ((D, lst ys) :: news) → (∀ p ∈ news, p.1 < D) → h.Ns C m' → h₀.get? C = none → h₀.get? D = none → C ≠ L → D ≠ L → C ≠ D → (∀ p ∈ news, p.1 ≠ C) → IntsAre ys (xs.map g) → RR (.ref D) C (.ok .next) { s₂ with heap := h, toks := tk }) :
    wpAny (model prog w) A (newList []) (fun acc s₃ => wpAny (model prog w) A (newFunctionEnv scope env.globals cl [] env.qual none .none (some env)) (fun cenv s₄ =>
      codeAny (model prog w) A (.compStart (.ListComp elt [⟨.Tuple [.Name x px, .Name x₂ px₂] tk tp, iter, [], 0⟩] scope pos) 0 (.ref I) acc { cenv with scope := relabel scope env }) (RR acc cenv.locals) s₄) E s₃) E s₂ := by
  refine wpAny_newObj_type (wpAny_newFunctionEnv hcell (by intro y hy; simp at hy) (fun h₁ hns₁ hsb₁ => ?_) hkind)
  dsimp only at hns₁ hsb₁ ⊢
  generalize hH2 : s₂.heap.push { cls := .type "list", dict := none, data := .seq ([] : List Value).toArray } = H2 at hns₁ hsb₁ ⊢
  have hC : H2.objs.size = s₂.heap.objs.size + 1 := by rw [← hH2, Heap.size_push]
  have hDC : s₂.heap.objs.size ≠ H2.objs.size := by rw [hC]; exact Nat.ne_of_lt (Nat.lt_succ_self _)
  have below : ∀ b, b < s₂.heap.objs.size → b ≠ H2.objs.size ∧ b ≠ s₂.heap.objs.size := fun b hb => ⟨by rw [hC]; exact Nat.ne_of_lt (Nat.lt_succ_of_lt hb), Nat.ne_of_lt hb⟩
  have hDf : s₂.heap.objs.size ∉ fp := fun hm => Nat.lt_irrefl _ (hfp _ hm)
  have hCf : H2.objs.size ∉ fp := fun hm => by have := hfp _ hm; rw [hC] at this; exact Nat.lt_irrefl _ (Nat.lt_of_succ_lt this)
  have hDw : s₂.heap.objs.size ∉ wr := fun hm => hDf (W.sub _ hm)
  have hCw : H2.objs.size ∉ wr := fun hm => hCf (W.sub _ hm)
  have hLw : L ∉ wr := fun hm => (hfp0 _ (W.sub _ hm)).1 rfl
  have h0w : ∀ b ∈ wr, h₀.get? b = none := fun b hb => (hfp0 b (W.sub _ hb)).2
  have old : ∀ b o, s₂.heap.get? b = some o → h₁.get? b = some o := fun b o e => hsb₁.extBut b o (below b (Heap.lt_size e)).1 (Heap.get?_push_of_some _ (hH2 ▸ Heap.get?_push_of_some _ e))
  have hacc : h₁.get? s₂.heap.objs.size = some (lst []) := hsb₁.extBut _ _ hDC (Heap.get?_push_of_some _ (hH2 ▸ Heap.get?_push_size _ rfl))
  have hst₁ : St 0 h₁ := W.frame _ _ _ hst fun b _ o e => old b o e
  have fresh₀ : ∀ a, s₂.heap.objs.size ≤ a → h₀.get? a = none := fun a ha => by
    cases e : h₀.get? a with
    | none => rfl
    | some o' => exact absurd (Heap.lt_size (F.keep a o' e)) (Nat.not_lt.mpr ha)
  have hD₀ : h₀.get? s₂.heap.objs.size = none := fresh₀ _ (Nat.le_refl _)
  have hC₀ : h₀.get? H2.objs.size = none := fresh₀ _ (by rw [hC]; exact Nat.le_succ _)
  have hLlt : L < s₂.heap.objs.size := F.ns.lt
  have hDL : s₂.heap.objs.size ≠ L := Ne.symm (below L hLlt).2
  have hCL : H2.objs.size ≠ L := Ne.symm (below L hLlt).1
  have nlt : ∀ p ∈ news, p.1 < s₂.heap.objs.size := fun p hp => Heap.lt_size (N p hp).1
  have loop : ∀ s₃ : Shared, s₃ = { s₂ with heap := h₁, toks := s₂.toks + ([] : List (PySem.Str × Value)).length } →
      codeAny (model prog w) A (.compLoop (.ListComp elt [⟨.Tuple [.Name x px, .Name x₂ px₂] tk tp, iter, [], 0⟩] scope pos) 0 (.ref I) (.ref s₂.heap.objs.size) (compEnvC scope cl H2.objs.size env))
        (RR (.ref s₂.heap.objs.size) H2.objs.size) s₃ := by
    rintro s₃ rfl
    refine codeAny_compLoop_pair
      (fun k s' => ∃ h' tk i ys m', s' = { s₂ with heap := h', toks := tk } ∧ i ≤ xs.length ∧ k = xs.length + 1 - i ∧ IntsAre ys ((xs.take i).map g) ∧ St i h' ∧ Fr h₀ L h' m ∧ h'.Ns H2.objs.size m' ∧ News h₀ L h' ((s₂.heap.objs.size, lst ys) :: news)) ?_ (xs.length + 1)
      ⟨h₁, _, 0, [], _, rfl, Nat.zero_le _, rfl, by simpa using IntsAre.nil, hst₁, F.keeps old, hns₁, fun p hp => ?_⟩
    · rintro k s' ⟨h', tk, i, ys, m', rfl, hi, rfl, hys, hst', F', hn', N'⟩
      have hyl : ys.length = i := by rw [hys.length, List.length_map, List.length_take]; exact Nat.min_eq_left hi
      have offD : ∀ p ∈ (s₂.heap.objs.size, lst ys) :: news, p.1 ∉ wr := by
        intro p hp
        rcases List.mem_cons.mp hp with rfl | hp
        · exact hDw
        · exact off p hp
      by_cases hlt : i < xs.length
      · refine W.item i _ _ _ hlt hst' fun T vals h₂ tk₂ hPv hT hMid hk₂ => ?_
        obtain ⟨a, t, hxa, rfl⟩ := hPt i vals hlt hPv
        have F₂ := fr_wr F' hk₂ hLw h0w
        have N₂ := news_wr N' hk₂ offD
        have hn₂ : h₂.Ns H2.objs.size m' := hn'.at' fun o e => hk₂ _ o hCw e
        refine W.go _ _ _ i T _ _ _ hMid fun h₂' hst₂ hk₂' => ?_
        have F₂' := fr_wr F₂ hk₂' hLw h0w
        have N₂' := news_wr N₂ hk₂' offD
        have hn₂' : h₂'.Ns H2.objs.size m' := hn₂.at' fun o e => hk₂' _ o hCw e
        have hT' : IsTup h₂' T #[Value.int a t, Value.int a t] := by
          obtain ⟨o, ho, r⟩ := hT
          exact ⟨o, hk₂' _ _ (W.apart _ _ _ hMid) ho, r⟩
        refine assign_Tuple_tuple hh hT' rfl rfl fun h₅ he => ?_
        have he' : ∀ b o, h₂'.get? b = some o → h₅.get? b = some o := fun b o e => he b o (Nat.ne_of_lt (Heap.lt_size e)) e
        refine assignInOrder_cons (wpAny_assign_Name (wpAny_storeName_local (lookup_relabel_local hx) (hn₂'.at' fun o e => he' _ o e) (fun h₆ hn₆ hs₆ => ?_) (by simp [compEnvC, relabel, hkind])))
        refine assignInOrder_cons (wpAny_assign_Name (wpAny_storeName_local (lookup_relabel_local hx₂) hn₆ (fun h₃ hn₃ hs₃ => ?_) (by simp [compEnvC, relabel, hkind])))
        refine assignInOrder_nil ?_
        have old3 : ∀ b o, b ≠ H2.objs.size → h₂'.get? b = some o → h₃.get? b = some o := fun b o hb e => hs₃.extBut b o hb (hs₆.extBut b o hb (he' b o e))
        have hst₃ : St (i + 1) h₃ := W.frame _ _ _ hst₂ fun b hb o e => old3 b o (fun q => hCf (by rw [← q]; exact hb)) e
        obtain ⟨oC, heC, hoC⟩ := ns_obj hn₃
        obtain ⟨os, hos1, hos2⟩ := objs_of (hget _ _ hst₃)
        have F₃ : Fr h₀ L h₃ m := ((F₂'.keeps he').change hs₆ hCL hC₀).change hs₃ hCL hC₀
        have N₃ : News h₀ L h₃ ((H2.objs.size, oC) :: (news ++ ((s₂.heap.objs.size, lst ys) :: os))) := fun p hp => by
          rcases List.mem_cons.mp hp with rfl | hp
          · exact ⟨heC, hCL, hC₀⟩
          rcases List.mem_append.mp hp with hp | hp
          · have z := N₂' _ (.tail _ hp)
            exact ⟨old3 _ _ (below _ (nlt p hp)).1 z.1, z.2⟩
          · rcases List.mem_cons.mp hp with rfl | hp
            · have z := N₂' _ (.head _)
              exact ⟨old3 _ _ hDC z.1, z.2⟩
            · have z := hos1 p hp
              exact ⟨z.2, hfp0 _ z.1⟩
        refine wpAny_mono (elt_ok H2.objs.size oC h₃ _ _ ((s₂.heap.objs.size, lst ys) :: os) i a t hxa hoC (by simp [hxx]) (by simp) F₃ N₃) (fun y s₄ h₄ => ?_) fun _ _ e => e.elim
        obtain ⟨⟨t', rfl⟩, h₄, tk₄, rfl, F₄, N₄⟩ := h₄
        have zC := (N₄ (H2.objs.size, oC) (.head _)).1
        have zD := (N₄ (s₂.heap.objs.size, lst ys) (.tail _ (List.mem_append.mpr (.inr (.head _))))).1
        have N₄' : News h₀ L h₄ news := fun p hp => N₄ p (.tail _ (List.mem_append.mpr (.inl hp)))
        have hst₄ : St (i + 1) h₄ := W.frame _ _ _ hst₃ fun b hb o e => by
          obtain ⟨o', ho'⟩ := hos2 b hb
          have e' : o = o' := Option.some.inj (e.symm.trans (hos1 _ ho').2)
          rw [e']
          exact (N₄ (b, o') (.tail _ (List.mem_append.mpr (.inr (.tail _ ho'))))).1
        refine append_at (hsz := by show ys.toArray.size ≤ sizeLine; rw [List.size_toArray, hyl]; exact Nat.le_trans hi hsz) zD fun h₅ hs₅ hD₅ => ?_
        refine ⟨xs.length + 1 - (i + 1), by omega, h₅, tk₄, i + 1, ys ++ [.int (g a) t'], _, rfl, hlt, rfl, ints_take_succ hys hxa, W.frame _ _ _ hst₄ fun b hb o e => hs₅.extBut b o (fun q => hDf (q ▸ hb)) e, F₄.change hs₅ hDL hD₀,
          (hoC.ns zC).sameBut hs₅ (Ne.symm hDC), fun p hp => ?_⟩
        rcases List.mem_cons.mp hp with rfl | hp
        · exact ⟨hD₅.trans (congrArg some (lst_snoc ys _)), hDL, hD₀⟩
        · exact ⟨hs₅.extBut _ _ (below _ (nlt p hp)).2 (N₄' p hp).1, (N₄' p hp).2⟩
      · obtain rfl : i = xs.length := Nat.le_antisymm hi (Nat.not_lt.mp hlt)
        rw [List.take_length] at hys
        refine W.done _ _ _ hst' fun h₂ tk₂ hk₂ => ?_
        exact hRR _ _ h₂ tk₂ _ ys (fr_wr F' hk₂ hLw h0w) (news_wr N' hk₂ offD) nlt (hn'.at' fun o e => hk₂ _ o hCw e) hC₀ hD₀ hCL hDL (Ne.symm hDC) (fun p hp => (below _ (nlt p hp)).1) hys
    · rcases List.mem_cons.mp hp with rfl | hp
      · exact ⟨hacc, hDL, hD₀⟩
      · exact ⟨old _ _ (N p hp).1, (N p hp).2⟩
  exact codeAny_compStart_list (loop _ rfl) (W.self 0 _ _ _ hst₁ (loop _ rfl))
/-- what stands when the comprehension's zip is made -/
noncomputable def ZSrc (prog : Program) (w : World) (A : Around) (h₀ : Heap) (L : Addr) (m : PySem.Str → Option Value) (env : Env) (elt : PySem.Expr) (x x₂ : PySem.Str) (scope : Scope) (cl : List (PySem.Str × Addr)) (y : PySem.Str) (Q : Flow → Shared → Prop) (xv : Value) (s₁ : Shared) : Prop :=
  ∃ (z TI TO i1 i2 l : Addr) (vs : List Value) (xs : List Int) (news : List (Addr × Obj)) (g : Int → Int), xv = .ref z ∧ A.handled = none ∧ Fr h₀ L s₁.heap m ∧ News h₀ L s₁.heap news ∧ IntsAre vs xs ∧ xs.length ≤ sizeLine ∧ ZipApart z TI TO i1 i2 l l ∧
    (IsZip s₁.heap z TI TO .none ∧ IsPair s₁.heap TI (.ref i1) (.ref i2) ∧ (∃ a b, IsPair s₁.heap TO a b) ∧ s₁.heap.IsListIter i1 l 0 ∧ s₁.heap.IsListIter i2 l 0 ∧ s₁.heap.IsList l vs.toArray ∧ s₁.heap.IsList l vs.toArray) ∧
    (∀ b ∈ [z, TI, TO, i1, i2, l, l], b < s₁.heap.objs.size ∧ b ≠ L ∧ h₀.get? b = none) ∧ (∀ p ∈ news, p.1 ∉ [z, TO, i1, i2]) ∧
    (∀ (C : Addr) (oC : Obj) (h : Heap) (tk : Nat) (m₂ : PySem.Str → Option Value) (help : List (Addr × Obj)) (i : Nat) (a : Int) (t : Tok), xs[i]? = some a → NsObj oC m₂ → m₂ x = some (.int a t) → m₂ x₂ = some (.int a t) → Fr h₀ L h m → News h₀ L h ((C, oC) :: (news ++ help)) →
      wpAny (model prog w) A (eval elt (compEnvC scope cl C env)) (EltEnd h₀ L m ((C, oC) :: (news ++ help)) (g a) { s₁ with heap := h, toks := tk }) (fun _ _ => False) { s₁ with heap := h, toks := tk }) ∧
    (∀ D h tk us, IntsAre us (xs.map g) → Fr h₀ L h (fun z => if z = y then some (.ref D) else m z) → News h₀ L h ((D, lst us) :: news) → (∀ p ∈ news, p.1 < D) → Q .next { s₁ with heap := h, toks := tk })
theorem zip_assign {elt iter : PySem.Expr} {x x₂ y : PySem.Str} {px px₂ tp py : Pos} {tk : Nat} {scope : Scope} {cl : List (PySem.Str × Addr)} {pos spos : Pos} {Q : Flow → Shared → Prop} (F₀ : Fr h₀ L s.heap m) (hLe : env.locals = L)
    (hsw : swapsWith (.ListComp elt [⟨.Tuple [.Name x px, .Name x₂ px₂] tk tp, iter, [], 0⟩] scope pos) (some (.Name y py)) spos.line env = pure true)
    (hclos : closureFor scope env = pure cl) (hcell : ∀ z ∈ scope.names, z.2 ≠ .cell) (hkind : scope.kind = .function)
    (hnames : ∀ z ∈ scope.names, z.2 = .local → scope.names.lookup z.1 = some .local) (hx : scope.names.lookup x = some .local) (hx₂ : scope.names.lookup x₂ = some .local) (hxx : x ≠ x₂)
    (hy : env.kindOf y = some .local) (hp : (env.scope.kind == .class || (env.scope.kind == .module && env.locals != env.globals)) = false)
    (h : wpAny (model prog w) A (eval iter env) (ZSrc prog w A h₀ L m env elt x x₂ scope cl y Q) E s)
    (hs : ∀ x, foldedSetIterable iter env x = pure x := by intro _; rfl) :
    wpAny (model prog w) A (exec (.Assign [.Name y py] (.ListComp elt [⟨.Tuple [.Name x px, .Name x₂ px₂] tk tp, iter, [], 0⟩] scope pos) spos) env) Q E s := by
  subst hLe
  rw [exec_Assign_Name_used _ _ _ _ hsw]
  refine wpAny_bind (wpAny_standAt (wpAny_bind ?_))
  show wpAny _ A (do let _ ← comprehension (.ListComp elt [⟨.Tuple [.Name x px, .Name x₂ px₂] tk tp, iter, [], 0⟩] scope pos) scope env _ (newList []) false (eval iter env) (some (assign (.Name y py) env))) _ _ s
  refine wpAny_bind (wpAny_mono (wpAny_comprehension_free (use := some (assign (.Name y py) env)) (Q := fun _ s' => Q .next s') rfl hs hclos hkind hnames
    (wpAny_mono h (fun xv s₁ h₁ => ?_) fun _ _ e => e)) (fun _ s' hq => wpAny_pure (wpAny_pure hq)) fun _ _ e => e)
  obtain ⟨z, TI, TO, i1, i2, l, vs, xs, news, g, rfl, hh, F, N, hi, hsz, D, hst, hfp, off, elt_ok, fin⟩ := h₁
  refine wpAny_pyIter_zip hst.1 ?_
  have W := (WalksT.zip2 (prog := prog) (w := w) hh z TI TO i1 i2 l l D vs.toArray vs.toArray).toU
  rw [List.size_toArray, Nat.min_self, hi.length] at W
  refine block_Z g W hsz ?_ ?_ hcell hkind hx hx₂ hxx hh hst (fun b hb => (hfp b hb).1) (fun b hb => (hfp b hb).2) F N off elt_ok ?_
  · rintro i h ⟨a1, a2, ⟨_, _, a3⟩, ⟨o4, a4, _⟩, ⟨o5, a5, _⟩, ⟨o6, a6, _⟩, _⟩ b hb
    simp only [List.mem_cons, List.not_mem_nil, or_false] at hb
    rcases hb with rfl | rfl | rfl | rfl | rfl | rfl | rfl
    · exact ⟨_, a1⟩
    · exact ⟨_, a2⟩
    · exact ⟨_, a3⟩
    · exact ⟨_, a4⟩
    · exact ⟨_, a5⟩
    · exact ⟨_, a6⟩
    · exact ⟨_, a6⟩
  · rintro i vals hlt ⟨v1, v2, h1, h2, rfl⟩
    obtain ⟨t, ht⟩ := hi.get i xs[i] (by simp [hlt])
    have e1 : v1 = .int xs[i] t := by
      have h1' : vs[i]? = some v1 := by simpa using h1
      rw [ht] at h1'; exact (Option.some.inj h1').symm
    have e2 : v2 = .int xs[i] t := by
      have h2' : vs[i]? = some v2 := by simpa using h2
      rw [ht] at h2'; exact (Option.some.inj h2').symm
    exact ⟨xs[i], t, by simp [hlt], by rw [e1, e2]⟩
  · intro D C h' tk m' us F' N' hlt hn hC₀ hD₀ hCL hDL hCD offC hus
    show wpAny _ A (assign (.Name y py) env (.ref D)) _ _ _
    refine wpAny_assign_Name (wpAny_storeName_local hy F'.ns (fun h₂ hn₂ hs₂ => ?_) hp)
    have hL₀ : h₀.get? env.locals = none := Heap.get?_none_of_le F'.above
    have F₂ : Fr h₀ env.locals h₂ (fun z => if z = y then some (.ref D) else m z) := ⟨hn₂, fun b o e => hs₂.extBut b o (fun q => by rw [q, hL₀] at e; cases e) (F'.keep b o e), F'.above⟩
    refine ⟨m', hn.sameBut hs₂ hCL, fun h'' hs'' => fin D h'' _ us hus (F₂.change hs'' hCL hC₀) (fun p hp => ?_) hlt⟩
    have z : h₂.get? p.1 = some p.2 := hs₂.extBut _ _ (N' p hp).2.1 (N' p hp).1
    refine ⟨hs''.extBut _ _ ?_ z, (N' p hp).2⟩
    rcases List.mem_cons.mp hp with rfl | hp
    · exact Ne.symm hCD
    · exact offC p hp
theorem elt_end {h' : Heap} {led : List (Addr × Obj)} {v : Int} {t : Tok} {s₁ : Shared} {tk : Nat} (F : Fr h₀ L h' m) (N : News h₀ L h' led) : EltEnd h₀ L m led v s₁ (.int v t) { s₁ with heap := h', toks := tk } := ⟨⟨t, rfl⟩, h', tk, rfl, F, N⟩
theorem zip_call {elt : PySem.Expr} {x x₂ y : PySem.Str} {scope : Scope} {cl : List (PySem.Str × Addr)} {Q : Flow → Shared → Prop} {l : Addr} {vs : List Value} {xs : List Int} {n : Nat} {news : List (Addr × Obj)} (g : Int → Int)
    (hh : A.handled = none) (F : Fr h₀ L s.heap m) (N : News h₀ L s.heap news) (hl : (l, W.listOf vs.toArray n) ∈ news) (hi : IntsAre vs xs) (hsz : xs.length ≤ sizeLine)
    (elt_ok : ∀ (C : Addr) (oC : Obj) (h : Heap) (tk : Nat) (m₂ : PySem.Str → Option Value) (help : List (Addr × Obj)) (i : Nat) (a : Int) (t : Tok), xs[i]? = some a → NsObj oC m₂ → m₂ x = some (.int a t) → m₂ x₂ = some (.int a t) → Fr h₀ L h m → News h₀ L h ((C, oC) :: (news ++ help)) →
      wpAny (model prog w) A (eval elt (compEnvC scope cl C env)) (EltEnd h₀ L m ((C, oC) :: (news ++ help)) (g a) { s with heap := h, toks := tk }) (fun _ _ => False) { s with heap := h, toks := tk })
    (fin : ∀ D h tk us, IntsAre us (xs.map g) → Fr h₀ L h (fun z => if z = y then some (.ref D) else m z) → News h₀ L h ((D, W.listOf us.toArray us.length) :: news) → (∀ p ∈ news, p.1 < D) → Q .next { s with heap := h, toks := tk }) :
    wpAny (model prog w) A (call (.type "zip") [.ref l, .ref l]) (ZSrc prog w A h₀ L m env elt x x₂ scope cl y Q) E s := by
  have hll : s.heap.IsList l vs.toArray := ⟨_, (N _ hl).1, rfl, _, rfl⟩
  have hlt : l < s.heap.objs.size := Heap.lt_size (N _ hl).1
  refine call_zip_2 hll hll fun h' hz hTI hTO hi1 hi2 hs5 hk => ?_
  have D : ZipApart (s.heap.objs.size + 4) (s.heap.objs.size + 2) (s.heap.objs.size + 3) s.heap.objs.size (s.heap.objs.size + 1) l l := ktu_apart _ _ _ hlt hlt
  have fresh₀ : ∀ a, s.heap.objs.size ≤ a → h₀.get? a = none := fun a ha => by
    cases e : h₀.get? a with
    | none => rfl
    | some o' => exact absurd (Heap.lt_size (F.keep a o' e)) (Nat.not_lt.mpr ha)
  have hLlt : L < s.heap.objs.size := F.ns.lt
  have hge : ∀ k, k < 5 → s.heap.objs.size + k < h'.objs.size ∧ s.heap.objs.size + k ≠ L ∧ h₀.get? (s.heap.objs.size + k) = none := by
    intro k hk5
    refine ⟨by rw [hs5]; omega, ?_, fresh₀ _ (Nat.le_add_right _ _)⟩
    intro e
    rw [← e] at hLlt
    exact absurd hLlt (Nat.not_lt.mpr (Nat.le_add_right _ _))
  have hlf : l < h'.objs.size ∧ l ≠ L ∧ h₀.get? l = none := ⟨by rw [hs5]; exact Nat.lt_of_lt_of_le hlt (Nat.le_add_right _ _), (N _ hl).2.1, (N _ hl).2.2⟩
  refine ⟨_, _, _, _, _, l, vs, xs, news, g, rfl, hh, F.keeps hk, N.grown hk, hi, hsz, D, ⟨hz, hTI, ⟨_, _, hTO⟩, hi1, hi2, hll.at fun o e => hk l o e, hll.at fun o e => hk l o e⟩, ?_, ?_, elt_ok, fin⟩
  · intro b hb
    simp only [List.mem_cons, List.not_mem_nil, or_false] at hb
    rcases hb with rfl | rfl | rfl | rfl | rfl | rfl | rfl
    · exact hge 4 (by decide)
    · exact hge 2 (by decide)
    · exact hge 3 (by decide)
    · exact hge 0 (by decide)
    · exact hge 1 (by decide)
    · exact hlf
    · exact hlf
  · intro p hp hm
    have hpl : p.1 < s.heap.objs.size := Heap.lt_size (N p hp).1
    simp only [List.mem_cons, List.not_mem_nil, or_false] at hm
    rcases hm with e | e | e | e <;> rw [e] at hpl
    · exact absurd hpl (Nat.not_lt.mpr (Nat.le_add_right _ _))
    · exact absurd hpl (Nat.not_lt.mpr (Nat.le_add_right _ _))
    · exact absurd hpl (Nat.lt_irrefl _)
    · exact absurd hpl (Nat.not_lt.mpr (Nat.le_add_right _ _))
end
noncomputable def PolyAt (w : World) (xr : Addr) (led : List (Addr × Obj)) (x : Addr) (ys : List Int) : Prop :=
  ∃ d c t1 t2 n nn vs, (x, instObj 344 d) ∈ led ∧ (d, polyD w xr c t1 t2 n) ∈ led ∧ (c, W.listOf (List.toArray vs) nn) ∈ led ∧ IntsAre vs ys
theorem PolyAt.mono {w : World} {xr : Addr} {led led' : List (Addr × Obj)} {x : Addr} {ys : List Int} (h : PolyAt w xr led x ys) (hs : ∀ p ∈ led, p ∈ led') : PolyAt w xr led' x ys := by
  obtain ⟨d, c, t1, t2, n, nn, vs, a, b, e, f⟩ := h
  exact ⟨d, c, t1, t2, n, nn, vs, hs _ a, hs _ b, hs _ e, f⟩
theorem poly_pack {w : World} {h₀ h : Heap} {L x d c cc xr : Addr} {oc : Obj} {u1 u2 : Tok} {k nn : Nat} {vs : List Value} {ys : List Int} {news own : List (Addr × Obj)} (N : News h₀ L h news)
    (j1 : (x, instObj 344 d) ∈ news) (j2 : (d, polyD w xr c u1 u2 k) ∈ news) (j3 : (c, W.listOf vs.toArray nn) ∈ news) (j4 : (cc, oc) ∈ news) (jo : ∀ p ∈ own, p ∈ news)
    (hi : IntsAre vs ys) (hoff : ∀ p ∈ own, p.1 ≠ cc) (l1 : @Ne Nat c cc) (l2 : @LT.lt Nat _ cc d) (l3 : @LT.lt Nat _ d x) : ∃ own', PolyAt w xr own' x ys ∧ (∀ p ∈ own, p ∈ own') ∧ (∀ p ∈ own', p.1 ≠ cc) ∧ News h₀ L h ((cc, oc) :: own') := by
  refine ⟨(x, instObj 344 d) :: (d, polyD w xr c u1 u2 k) :: (c, W.listOf vs.toArray nn) :: own, ⟨d, c, u1, u2, k, nn, vs, .head _, .tail _ (.head _), .tail _ (.tail _ (.head _)), hi⟩, fun p hp => .tail _ (.tail _ (.tail _ hp)), ?_, ?_⟩
  · intro p hp
    rcases List.mem_cons.mp hp with rfl | hp
    · exact Nat.ne_of_gt (Nat.lt_trans l2 l3)
    rcases List.mem_cons.mp hp with rfl | hp
    · exact Nat.ne_of_gt l2
    rcases List.mem_cons.mp hp with rfl | hp
    · exact l1
    exact hoff p hp
  · intro p hp
    rcases List.mem_cons.mp hp with rfl | hp
    · exact N _ j4
    rcases List.mem_cons.mp hp with rfl | hp
    · exact N _ j1
    rcases List.mem_cons.mp hp with rfl | hp
    · exact N _ j2
    rcases List.mem_cons.mp hp with rfl | hp
    · exact N _ j3
    exact N _ (jo p hp)
end
section
open PySem PySem.W PyProof.Rows PySem.Calls PySem.Spec PyProof.Rows.LCg
set_option maxRecDepth 100000
section
variable {prog : Program} {w : World} {A : Around} {h₀ : Heap} {L : Addr} {m : PySem.Str → Option Value} {env : Env} {elt : PySem.Expr} {x : PySem.Str} {scope : Scope} {cl : List (PySem.Str × Addr)} {s₁ : Shared} {Fin : Shared → List Value → List (Addr × Obj) → Prop} {news : List (Addr × Obj)}
theorem map_src {al : Addr} {vs : List Value} {ns : List Int} {n : Nat} (g : Int → Int) (hh : A.handled = none) (F : Fr h₀ L s₁.heap m) (N : News h₀ L s₁.heap news) (hm : (al, W.listOf vs.toArray n) ∈ news) (hi : IntsAre vs ns) (hsz : ns.length ≤ sizeLine)
    (elt_ok : ∀ (C : Addr) (oC : Obj) (h : Heap) (tk : Nat) (m₂ : PySem.Str → Option Value) (help : List (Addr × Obj)) (k : Int) (t : Tok), k ∈ ns → NsObj oC m₂ → m₂ x = some (.int k t) → Fr h₀ L h m → News h₀ L h ((C, oC) :: (news ++ help)) →
      wpAny (model prog w) A (eval elt (compEnvC scope cl C env)) (EltEnd h₀ L m ((C, oC) :: (news ++ help)) (g k) { s₁ with heap := h, toks := tk }) (fun _ _ => False) { s₁ with heap := h, toks := tk })
    (fin : ∀ g' ys, IntsAre ys (ns.map g) → Fin { s₁ with heap := g' } ys news) : CompSrc prog w A h₀ L m env elt x scope cl Fin (.ref al) s₁ := by
  refine CompSrc.ledger hh F N hm (by rw [List.size_toArray, hi.length]; exact hsz) fun g' => ?_
  refine kcf_list g hi ?_ ?_
  · intro k t I oI C oC D m₂ ys h tk E' hk hC hx F' N' off ne _
    have N₂ : News h₀ L h ((C, oC) :: (news ++ [(I, oI), (D, lst ys)])) := by
      intro p hp
      rcases List.mem_cons.mp hp with rfl | hp
      · exact N' _ (.tail _ (.head _))
      rcases List.mem_append.mp hp with hp | hp
      · exact N' _ (.tail _ (.tail _ (.tail _ hp)))
      rcases List.mem_cons.mp hp with rfl | hp
      · exact N' _ (.head _)
      rcases List.mem_cons.mp hp with rfl | hp
      · exact N' _ (.tail _ (.tail _ (.head _)))
      cases hp
    refine wpAny_mono (elt_ok C oC h tk m₂ _ k t hk hC hx F' N₂) (fun y s₂ hq => ?_) fun _ _ e => e.elim
    obtain ⟨⟨t', rfl⟩, h', tk', rfl, F₄, N₄⟩ := hq
    refine CompEnd.intro F₄ N₄ news ?_ off (.inr ⟨_, hm, rfl, _, rfl⟩) ⟨rfl, t', rfl⟩
    intro p hp
    rcases List.mem_cons.mp hp with rfl | hp
    · exact .tail _ (List.mem_append.mpr (.inr (.head _)))
    rcases List.mem_cons.mp hp with rfl | hp
    · exact .head _
    rcases List.mem_cons.mp hp with rfl | hp
    · exact .tail _ (List.mem_append.mpr (.inr (.tail _ (.head _))))
    exact .tail _ (List.mem_append.mpr (.inl hp))
  · unfold KPfDone
    exact fin g'
end
theorem off1_mem {D : Addr} {l : List (Addr × Obj)} (h : Off1 D l) : ∀ p ∈ l, p.1 ≠ D := by
  induction l with
  | nil => intro p hp; cases hp
  | cons q r ih =>
    intro p hp
    rcases List.mem_cons.mp hp with e | hp
    · rw [e]; exact h.1
    · exact ih h.2 p hp
theorem mul_lo {prog : Program} {w : World} {A : Around} {E : Value → Shared → Prop} {z b : Int} {t u : Tok} {Q : Value → Shared → Prop} {hp : Heap} {g : Array GenState} {dr : Drawn} {tk : Nat} {os : OsState}
    (h0 : 0 ≤ z) (h1 : z ≤ 10000) (hq : Q (.int (z * b) tk) ⟨hp, g, dr, tk + 1, os⟩) : wpAny (model prog w) A (binaryOp .Mult (.int z t) (.int b u)) Q E ⟨hp, g, dr, tk, os⟩ :=
  AutoIntOps.mul_0 (show (Made.int (z * b)).post Q ⟨hp, g, dr, tk, os⟩ from hq) (IntMulOk.of_left (intBits_le_64 (by omega) (by omega)))
theorem pow_rng {b : Int} (h0 : 0 ≤ b) (h1 : b ≤ 12) : 1 ≤ (2 : Int) ^ b.toNat ∧ (2 : Int) ^ b.toNat ≤ 4096 := by
  have h : ∀ n : Fin 13, 1 ≤ (2 : Int) ^ n.val ∧ (2 : Int) ^ n.val ≤ 4096 := by decide
  exact h ⟨b.toNat, by omega⟩
theorem pow_down {b : Int} (h0 : 1 ≤ b) : (2 : Int) ^ b.toNat = 2 * (2 : Int) ^ (b - 1).toNat := by
  have e : b.toNat = (b - 1).toNat + 1 := by omega
  rw [e, Int.pow_succ]; omega
end
section
open PySem PySem.W PyProof.Rows
/-- the law's rounding -/
noncomputable def near (n b : Int) (u : Bool) : Int := if (2 * (n - n.fdiv b * b) > b ∨ (u = true ∧ 2 * (n - n.fdiv b * b) = b)) then n.fdiv b + 1 else n.fdiv b
theorem mul_ro {prog : Program} {w : World} {A : Around} {E : Value → Shared → Prop} {z b : Int} {t u : Tok} {Q : Value → Shared → Prop} {hp : Heap} {g : Array GenState} {dr : Drawn} {tk : Nat} {os : OsState}
    (h0 : 0 ≤ b) (h1 : b ≤ 10000) (hq : Q (.int (z * b) tk) ⟨hp, g, dr, tk + 1, os⟩) : wpAny (model prog w) A (binaryOp .Mult (.int z t) (.int b u)) Q E ⟨hp, g, dr, tk, os⟩ :=
  AutoIntOps.mul_0 (show (Made.int (z * b)).post Q ⟨hp, g, dr, tk, os⟩ from hq) (IntMulOk.of_right (intBits_le_64 (by omega) (by omega)))
set_option maxRecDepth 100000 in
set_option maxHeartbeats 2000000 in
theorem near_call {w : World} {mean : ExcName → Option Value} {mg mb : PySem.Str → Option Value} {cn : PySem.Str} {cs : Scope} {a : Addr} {ccd : Value} {cl : List (PySem.Str × Addr)} {outer : List Env} {A₀ : Around} {base h₀ : Heap} {L : Addr} {m : PySem.Str → Option Value} {s : Shared} {Q E : Value → Shared → Prop}
    {dp un : Nat} {gd : Option (List Code)} {n b : Int} {u : Bool} {t1 t2 : Tok} {news : List (Addr × Obj)}
    (hB : Below A₀ base outer h₀) (F : Fr h₀ L s.heap m) (X : (hd.heap_39 w.params).In h₀) (T : Top hd.view_39 (looseW hd.view_39 loo) mean mg mb h₀) (hk : cs.kind = .function) (hdp : dp + 6 < recursionLimit) (hun : un + 100 < cLine)
    (N : News h₀ L s.heap news) (b0 : 1 ≤ b) (b1 : b ≤ 5000)
    (hret : ∀ (t : Tok) (h' : Heap) (tk' : Nat), Fr h₀ L h' m → News h₀ L h' news → Q (.int (near n b u) t) { s with heap := h', toks := tk' }) :
    wpAny (model PySem.Challenge.rw_yi0010_01.row.prog w) (ktrTop dp un gd cn cs L a ccd cl outer) (call (.ref 436) [.int n t1, .int b t2, .bool u]) Q E s := by
  k_with_none
  k_with "room" => first | ktr_room | (simp only [depth_under_make, depth_under_kw, depth_in1, depth_deeper]; omega)
  k_with "binaryOp Mult int int" => (k_here; first | refine mul_lo (by omega) (by omega) ?_ | refine mul_ro (by omega) (by omega) ?_)
  w_on
  revert X
  k_fill
  intro X
  refine wpAny_call ?_
  w_strict (k_dflt cell_enter)
  w_strict (repeat' ((first | (k_unfold; (try dsimp only)) | (k_end; wrow_close) | walk1 | (dsimp only; walk1) | (leave1; walk_say "STEP leave1"; (try dsimp only)) | fail "no step")))
  all_goals (with_reducible rename Fr _ _ _ _ => F9); (with_reducible rename News _ _ _ _ => N9)
  all_goals first
    | (have e : near n b u = n.fdiv b + 1 := by
        unfold near
        rw [if_pos (by first | (left; omega) | (right; exact ⟨by assumption, by omega⟩) | (simp_all; omega))]
       exact e ▸ hret _ _ _ F9 N9)
    | (have e : near n b u = n.fdiv b := by
        unfold near
        rw [if_neg (by rintro (h | ⟨h1, h2⟩) <;> first | omega | (simp_all; done))]
       exact e ▸ hret _ _ _ F9 N9)
end
section
theorem near_lo {n : Int} : near n 3329 false = (n + 1664).fdiv 3329 := by
  unfold near
  rw [Int.fdiv_eq_ediv_of_nonneg _ (by decide), Int.fdiv_eq_ediv_of_nonneg _ (by decide)]
  split <;> omega
theorem near_hi {n P : Int} (h0 : 1 ≤ P) : near n (2 * P) true = (n + P).fdiv (2 * P) := by
  unfold near
  rw [Int.fdiv_eq_ediv_of_nonneg _ (by omega), Int.fdiv_eq_ediv_of_nonneg _ (by omega)]
  have e1 := Int.emod_add_mul_ediv n (2 * P)
  have e2 := Int.emod_nonneg n (b := 2 * P) (by omega)
  have e3 := Int.emod_lt_of_pos n (b := 2 * P) (by omega)
  have key : n - n / (2 * P) * (2 * P) = n % (2 * P) := by rw [Int.mul_comm]; omega
  rw [key]
  have e4 : n + P = (n % (2 * P) + P) + (2 * P) * (n / (2 * P)) := by omega
  rw [e4, Int.add_mul_ediv_left _ _ (by omega)]
  clear e4 key e1
  generalize n % (2 * P) = r at *
  generalize n / (2 * P) = k at *
  by_cases h : P ≤ r
  · have hc : 2 * r > 2 * P ∨ (true = true ∧ 2 * r = 2 * P) := by
      by_cases h' : P < r
      · exact .inl (by omega)
      · exact .inr ⟨rfl, by omega⟩
    rw [if_pos hc, show r + P = (r - P) + 1 * (2 * P) by omega, Int.add_mul_ediv_right _ _ (by omega), Int.ediv_eq_zero_of_lt (by omega) (by omega)]
    omega
  · rw [if_neg (by rintro (h' | ⟨_, h'⟩) <;> omega), Int.ediv_eq_zero_of_lt (by omega) (by omega)]
    omega
theorem cg_eq {b c : Int} : ((1 * 2 ^ b.toNat * c + 1664).fdiv 3329).fmod (1 * 2 ^ b.toNat) = (near (2 ^ b.toNat * c) 3329 false).fmod (2 ^ b.toNat) := by
  rw [near_lo, Int.one_mul]
theorem dg_eq {b c : Int} (h : 1 ≤ b) : (3329 * c + 1 * 2 ^ (b - 1).toNat).fdiv (2 ^ b.toNat) = near (3329 * c) (2 ^ b.toNat) true := by
  rw [pow_down h, near_hi (by have := Int.pow_pos (n := 2) (m := (b - 1).toNat) (by decide); omega), Int.one_mul]
noncomputable def IsB (b : Int) : Prop := 1 ≤ b ∧ b ≤ 12
noncomputable def sG {b : Int} (_ : IsB b) : Int → Int := fun c => (near (2 ^ Int.toNat b * c) 3329 false).fmod (2 ^ Int.toNat b)
noncomputable def lG {b : Int} (_ : IsB b) : Int → Int := fun c => near (3329 * c) (2 ^ Int.toNat b) true
theorem sG_pos {b k : Int} {h : IsB b} (hlt : 3329 < 2 * (2 ^ Int.toNat b * k - (2 ^ Int.toNat b * k).fdiv 3329 * 3329)) : ((2 ^ Int.toNat b * k).fdiv 3329 + 1).fmod (2 ^ Int.toNat b) = sG h k := by
  unfold sG near
  rw [if_pos (Or.inl hlt)]
theorem sG_neg {b k : Int} {h : IsB b} (hlt : ¬ 3329 < 2 * (2 ^ Int.toNat b * k - (2 ^ Int.toNat b * k).fdiv 3329 * 3329)) : ((2 ^ Int.toNat b * k).fdiv 3329).fmod (2 ^ Int.toNat b) = sG h k := by
  unfold sG near
  rw [if_neg (by rintro (h' | ⟨h', _⟩); exact hlt h'; cases h')]
theorem lG_pos {b k : Int} {h : IsB b} (hlt : 2 ^ Int.toNat b < 2 * (3329 * k - (3329 * k).fdiv (2 ^ Int.toNat b) * 2 ^ Int.toNat b)) : (3329 * k).fdiv (2 ^ Int.toNat b) + 1 = lG h k := by
  unfold lG near
  rw [if_pos (Or.inl hlt)]
theorem lG_eq {b k : Int} {h : IsB b} (he : 2 * (3329 * k - (3329 * k).fdiv (2 ^ Int.toNat b) * 2 ^ Int.toNat b) = 2 ^ Int.toNat b) : (3329 * k).fdiv (2 ^ Int.toNat b) + 1 = lG h k := by
  unfold lG near
  rw [if_pos (Or.inr ⟨rfl, he⟩)]
theorem lG_neg {b k : Int} {h : IsB b} (hlt : ¬ 2 ^ Int.toNat b < 2 * (3329 * k - (3329 * k).fdiv (2 ^ Int.toNat b) * 2 ^ Int.toNat b)) (he : ¬ 2 * (3329 * k - (3329 * k).fdiv (2 ^ Int.toNat b) * 2 ^ Int.toNat b) = 2 ^ Int.toNat b) : (3329 * k).fdiv (2 ^ Int.toNat b) = lG h k := by
  unfold lG near
  rw [if_neg (by rintro (h' | ⟨_, h'⟩); exact hlt h'; exact he h')]
open PySem PySem.W PyProof.Rows in
theorem elt_end_eq {h₀ h' : Heap} {L : Addr} {m : PySem.Str → Option Value} {led : List (Addr × Obj)} {v v' : Int} {t : Tok} {s₁ : Shared} {tk : Nat} (e : v' = v) (F : Fr h₀ L h' m) (N : News h₀ L h' led) : EltEnd h₀ L m led v s₁ (.int v' t) { s₁ with heap := h', toks := tk } := ⟨⟨t, by rw [e]⟩, h', tk, rfl, F, N⟩
theorem large_eq {b : Int} (h : IsB b) (st : List Int) : (List.map (fun k' => (3329 * k' + 1 * 2 ^ Int.toNat (b - 1)).fdiv (2 ^ Int.toNat b)) (st.map fun k' => ((1 * 2 ^ Int.toNat b * k' + 1664).fdiv 3329).fmod (1 * 2 ^ Int.toNat b))) =
    List.map (fun k' => if 2 ^ Int.toNat b < 2 * (3329 * k' - (3329 * k').fdiv (2 ^ Int.toNat b) * 2 ^ Int.toNat b) then (3329 * k').fdiv (2 ^ Int.toNat b) + 1 else if 2 * (3329 * k' - (3329 * k').fdiv (2 ^ Int.toNat b) * 2 ^ Int.toNat b) = 2 ^ Int.toNat b then (3329 * k').fdiv (2 ^ Int.toNat b) + 1 else (3329 * k').fdiv (2 ^ Int.toNat b)) (st.map (sG h)) := by
  have e1 : (st.map fun k' => ((1 * 2 ^ Int.toNat b * k' + 1664).fdiv 3329).fmod (1 * 2 ^ Int.toNat b)) = st.map (sG h) := List.map_congr_left fun _ _ => cg_eq
  rw [e1]
  refine List.map_congr_left fun k _ => ?_
  rw [dg_eq h.1]
  show lG h k = _
  by_cases h1 : 2 ^ Int.toNat b < 2 * (3329 * k - (3329 * k).fdiv (2 ^ Int.toNat b) * 2 ^ Int.toNat b)
  · rw [if_pos h1]; exact (lG_pos h1).symm
  · rw [if_neg h1]
    by_cases h2 : 2 * (3329 * k - (3329 * k).fdiv (2 ^ Int.toNat b) * 2 ^ Int.toNat b) = 2 ^ Int.toNat b
    · rw [if_pos h2]; exact (lG_eq h2).symm
    · rw [if_neg h2]; exact (lG_neg h1 h2).symm
/- end_eq2 -/
end
section
open PySem PySem.W PyProof.Rows
set_option maxRecDepth 100000
theorem allLt_ne {d e : Nat} {l : List (Addr × Obj)} (h : AllLt d l) (he : d ≤ e) : ∀ p ∈ l, p.1 ≠ e := fun p hp => Nat.ne_of_lt (Nat.lt_of_lt_of_le (allLt_mem h p hp) he)
section
variable {w : World} {mean : ExcName → Option Value} {mg mb : PySem.Str → Option Value} {h₀ : Heap} {L fa : Addr} {cd : Value} {m : PySem.Str → Option Value} {s : Shared} {Q : Flow → Shared → Prop} {rest : List Stmt}
set_option maxHeartbeats 2000000 in
theorem s0 {own : List (Addr × Obj)}
    (K0 : Below callerA h₀ [] h₀) (X : (hd.heap_39 w.params).In h₀) (T : Top hd.view_39 (looseW hd.view_39 loo) mean mg mb h₀) (F : Fr h₀ L s.heap m)
    (N : News h₀ L s.heap own)
    (hret : ∀ (h' : Heap) (tk' : Nat) (m' : PySem.Str → Option Value) (xr dr zz : Addr) (t3 t4 t5 t6 t7 t8 t9 : Tok) (nr nz : Nat) (zvs : List Value) (own' : List (Addr × Obj)), Fr h₀ L h' m' → m' (nm "ring") = some (.ref xr) → (∀ z, z ∉ [nm "ring"] → m' z = m z) → (xr, instObj 280 dr) ∈ own' → (dr, ringD w zz t3 t4 t5 t6 t7 t8 t9 nr) ∈ own' → (zz, W.listOf zvs.toArray nz) ∈ own' →
      IntsAre zvs ((rangeKs 0 128).map zeta) → (∀ p ∈ own, p ∈ own') → News h₀ L h' own' →
      wpAny (model PySem.Challenge.rw_yi0010_01.row.prog w) (lawA L fa cd) (execs (rest) (lawEnv L fa cd)) Q (fun _ _ => False) { s with heap := h', toks := tk' }) :
    wpAny (model PySem.Challenge.rw_yi0010_01.row.prog w) (lawA L fa cd) (execs (seg 0 1 rest) (lawEnv L fa cd)) Q (fun _ _ => False) s := by
  k_with_none
  k_with "call builtin:bin" => (k_here; k_dflt (refine br_bin (by l_fact) (by l_fact) ?_); intro brXw9 brEw9; (try dsimp only))
  k_with "call builtin:str.zfill" => (k_here; k_dflt (refine br_zfill (by assumption) (by l_fact) (by l_fact) ?_); intro _ _ brXw9 brEw9; (try dsimp only))
  k_with "call type:int" => (k_here; k_dflt (refine br_int (by assumption) (by l_fact) (by l_fact) ?_); (try dsimp only))
  k_with "call builtin:pow" => (k_here; k_dflt (first | refine br_pow ?_ | refine inv_pow ?_); (try dsimp only))
  k_with "subscriptTail" => (k_here; (with_reducible show wpAny _ _ (subscriptTail _ (Expr.Slice _ _ _ _) (Value.str _ _) (Value.ref _)) _ _ _); (with_reducible rename Fr _ _ _ _ => F'w9); (with_reducible rename News _ _ _ _ => N'w9); (first | (refine br_slice2 (by assumption) (by l_fact) (by l_fact) F'w9 N'w9 ?_ (by with_unfolding_all rfl) (by intro _; with_unfolding_all rfl)) | (refine br_sliceR (by assumption) (by l_fact) (by l_fact) F'w9 N'w9 ?_ (by with_unfolding_all rfl) (by intro _; with_unfolding_all rfl))); intro _ _ _ _ _ brXw9 brEw9; (try dsimp only))
  k_with "getMethod ref" => (k_here; k_dflt ( (refine' kmu_sm ?k1 ?k2 ?k4 ?k5 ?k6 ?k7 ?k8 ?k9 ?k10 ?k11 ?k12 ?k13 ?k14 ?_; (case k1 => k_asm); (case k2 => k_asm); (case k4 => k_inst); (case k5 => k_is); (case k6 => k_is); (case k7 => k_is); (case k8 => k_is); (case k9 => k_is); (case k10 => k_is); (case k11 => decide +kernel); (case k12 => k_get); (case k13 => k_is); (case k14 => k_handed); k_whole)))
  k_with "all" => ((with_reducible rename _ ∧ _ ∧ AllLt _ _ => ll'w9); first | exact allLt_ne ll'w9.2.2 (Nat.le_succ _) | exact allLt_ne ll'w9.2.2 (Nat.le_add_right _ 2))
  w_on
  revert X
  k_fill
  intro X
  dsimp only [seg, lawBody, lawA, lawEnv, lawScope, fnBody, fnScope, PySem.Challenge.pw_yi0010_01, List.getLast?, List.getLast, List.drop, List.take, List.cons_append, List.nil_append, ringD, polyD, nm] at *
  w_strict (repeat ((fail_if_success (with_reducible show wpAny _ _ (execs rest _) _ _ _)); (first | (k_unfold; (try dsimp only)) | (k_unmd; k_unfold; (try dsimp only)) | (k_end; wrow_close) | walk1 | (dsimp only; walk1) | (leave1; walk_say "STEP leave1"; (try dsimp only)) | fail "no step")))
  (with_reducible rename Fr _ _ _ _ => F9); (with_reducible rename News _ _ _ _ => N9); (with_reducible rename IntsAre _ _ => hI9)
  refine' hret _ _ _ ?xr ?dr ?zz ?t3 ?t4 ?t5 ?t6 ?t7 ?t8 ?t9 ?nr ?nz ?zvs _ F9 ?hr ?hm ?i1 ?i2 ?i3 ?hI ?hs N9
  case hr => exact rfl
  case i1 => k_mem
  case i2 => k_mem
  case i3 => k_mem
  case hI => exact hI9
  case hm =>
    intro z hz
    simp only [List.mem_cons, List.not_mem_nil, or_false] at hz
    rw [if_neg hz]
  case hs => intro p hp; repeat (first | exact hp | refine List.Mem.tail _ ?_)
end
end
section
open PySem PySem.W PyProof.Rows
set_option maxRecDepth 100000
/-- the law's reader -/
noncomputable def draw (ns : List Int) (k : Int) : Int := if k < ns.length then ns.getD k.toNat 0 else 200 + 17 * k + 31 * k * k
section
variable {w : World} {mean : ExcName → Option Value} {mg mb : PySem.Str → Option Value} {h₀ : Heap} {L fa : Addr} {cd : Value} {m : PySem.Str → Option Value} {s : Shared} {Q : Flow → Shared → Prop} {rest : List Stmt}
set_option maxHeartbeats 4000000 in
theorem s1 {sa : Addr} {oc : Obj} {svs : List Value} {ns : List Int} {own : List (Addr × Obj)}
    (K0 : Below callerA h₀ [] h₀) (X : (hd.heap_39 w.params).In h₀) (T : Top hd.view_39 (looseW hd.view_39 loo) mean mg mb h₀) (F : Fr h₀ L s.heap m)
    (hL : h₀.IsList sa svs.toArray) (hI : IntsAre svs ns) (hlen : ns.length ≤ 63) (N : News h₀ L s.heap own) (ic : (L + 1, oc) ∈ own) (hoc : oc.data = .cell (some (.ref sa)))
    (hret : ∀ (h' : Heap) (tk' : Nat) (m' : PySem.Str → Option Value) (M pl num b : Int) (dN : Nat) (t1 t2 t3 t4 t5 : Tok), Fr h₀ L h' m' → (M = 256 ∨ (0 ≤ M ∧ M < 256)) → m' (nm "many") = some (.int M t1) → m' (nm "place") = some (.int pl t2) → 0 ≤ pl → pl < 256 → m' (nm "number") = some (.int num t3) → m' (nm "deep") = some (.int (dN : Int) t4) → 1 ≤ dN → dN ≤ 3 →
      m' (nm "bits") = some (.int b t5) → 1 ≤ b → b ≤ 12 → (∀ z, z ∉ [nm "many", nm "place", nm "number", nm "deep", nm "bits"] → m' z = m z) → News h₀ L h' own → 
      wpAny (model PySem.Challenge.rw_yi0010_01.row.prog w) (lawA L fa cd) (execs (rest) (lawEnv L fa cd)) Q (fun _ _ => False) { s with heap := h', toks := tk' }) :
    wpAny (model PySem.Challenge.rw_yi0010_01.row.prog w) (lawA L fa cd) (execs (seg 1 6 rest) (lawEnv L fa cd)) Q (fun _ _ => False) s := by
  w_on
  revert X
  k_fill
  intro X
  dsimp only [seg, lawBody, lawA, lawEnv, lawScope, fnBody, fnScope, PySem.Challenge.pw_yi0010_01, List.getLast?, List.getLast, List.drop, List.take, List.cons_append, List.nil_append, ringD, polyD, nm] at *
  k_with_none
  k_with "mem" => assumption
  k_with "tree" => simp only [draw]
  k_with "call ref" => k_call_by "_law_draw" draw (fun (_ : List Int) (k : Int) => 0 ≤ k ∧ k ≤ 300)
  have a1 : 0 ≤ (draw ns 1).fmod 256 := fmod_lo _ (by decide)
  have a2 : (draw ns 1).fmod 256 < 256 := fmod_hi _ (by decide)
  have c1 : 0 ≤ (draw ns 2).fmod 256 := fmod_lo _ (by decide)
  have c2 : (draw ns 2).fmod 256 < 256 := fmod_hi _ (by decide)
  have d1 : 0 ≤ (draw ns 4).fmod 3 := fmod_lo _ (by decide)
  have d2 : (draw ns 4).fmod 3 < 3 := fmod_hi _ (by decide)
  have b1 : 0 ≤ (draw ns 5).fmod 12 := fmod_lo _ (by decide)
  have b2 : (draw ns 5).fmod 12 < 12 := fmod_hi _ (by decide)
  have e4 : (((1 + (draw ns 4).fmod 3).toNat : Nat) : Int) = 1 + (draw ns 4).fmod 3 := by omega
  w_strict (repeat ((fail_if_success (with_reducible show wpAny _ _ (execs rest _) _ _ _)); (first | (k_unfold; (try dsimp only)) | (k_unmd; k_unfold; (try dsimp only)) | (k_end; wrow_close) | walk1 | (dsimp only; walk1) | (leave1; walk_say "STEP leave1"; (try dsimp only)) | fail "no step")))
  (with_reducible rename Fr _ _ _ _ => F9); (with_reducible rename News _ _ _ _ => N9)
  refine hret _ _ _ ((draw ns 1).fmod 256) ((draw ns 2).fmod 256) (draw ns 3) (1 + (draw ns 5).fmod 12) (1 + (draw ns 4).fmod 3).toNat _ _ _ _ _ F9 (.inr ⟨a1, a2⟩) rfl rfl c1 c2 rfl (by rw [e4]; rfl) (by omega) (by omega) rfl (by omega) (by omega) ?_ N9
  intro z hz
  simp only [List.mem_cons, List.not_mem_nil, or_false, not_or] at hz
  obtain ⟨h1, h2, h3, h4, h5⟩ := hz
  simp only [if_neg h1, if_neg h2, if_neg h3, if_neg h4, if_neg h5]
  w_strict (repeat ((fail_if_success (with_reducible show wpAny _ _ (execs rest _) _ _ _)); (first | (k_unfold; (try dsimp only)) | (k_unmd; k_unfold; (try dsimp only)) | (k_end; wrow_close) | walk1 | (dsimp only; walk1) | (leave1; walk_say "STEP leave1"; (try dsimp only)) | fail "no step")))
  (with_reducible rename Fr _ _ _ _ => F9); (with_reducible rename News _ _ _ _ => N9)
  refine hret _ _ _ 256 ((draw ns 2).fmod 256) (draw ns 3) (1 + (draw ns 5).fmod 12) (1 + (draw ns 4).fmod 3).toNat _ _ _ _ _ F9 (.inl rfl) rfl rfl c1 c2 rfl (by rw [e4]; rfl) (by omega) (by omega) rfl (by omega) (by omega) ?_ N9
  intro z hz
  simp only [List.mem_cons, List.not_mem_nil, or_false, not_or] at hz
  obtain ⟨h1, h2, h3, h4, h5⟩ := hz
  simp only [if_neg h1, if_neg h2, if_neg h3, if_neg h4, if_neg h5]
end
end
section
open PySem PySem.W PyProof.Rows
set_option maxRecDepth 100000
theorem allLt_off {d : Nat} {l : List (Addr × Obj)} (h : AllLt d l) : ∀ p ∈ l, p.1 ≠ d := fun p hp => Nat.ne_of_lt (allLt_mem h p hp)
theorem s1_pack {h₀ h : Heap} {L a b c t1 t2 k g : Addr} {oa ob oc o1 o2 ok og : Obj} {own : List (Addr × Obj)} (N : News h₀ L h ((a, oa) :: (b, ob) :: (c, oc) :: (t1, o1) :: (t2, o2) :: (k, ok) :: (g, og) :: own))
    (e1 : @Ne Nat a g) (e2 : @Ne Nat b g) (e3 : @Ne Nat c g) (e4 : @Ne Nat k g) (off : ∀ p ∈ own, p.1 ≠ g) : News h₀ L h ((g, og) :: (a, oa) :: (b, ob) :: (c, oc) :: (k, ok) :: own) ∧ ∀ p ∈ (a, oa) :: (b, ob) :: (c, oc) :: (k, ok) :: own, p.1 ≠ g := by
  refine ⟨kst_newsOf N ?_, ?_⟩
  · intro p hp
    simp only [List.mem_cons] at hp ⊢
    rcases hp with h | h | h | h | h | h <;> simp [h]
  · intro p hp
    simp only [List.mem_cons] at hp
    rcases hp with rfl | rfl | rfl | rfl | h
    · exact e1
    · exact e2
    · exact e3
    · exact e4
    · exact off p h
section
variable {w : World} {mean : ExcName → Option Value} {mg mb : PySem.Str → Option Value} {h₀ : Heap} {L fa : Addr} {cd : Value} {m : PySem.Str → Option Value} {s : Shared} {Q : Flow → Shared → Prop} {rest : List Stmt}
set_option maxHeartbeats 4000000 in
theorem s1b {sa : Addr} {oc : Obj} {svs : List Value} {ns : List Int} {own : List (Addr × Obj)} {M pl num : Int} {tm tp tn : Tok}
    (K0 : Below callerA h₀ [] h₀) (X : (hd.heap_39 w.params).In h₀) (T : Top hd.view_39 (looseW hd.view_39 loo) mean mg mb h₀) (F : Fr h₀ L s.heap m)
    (hL : h₀.IsList sa svs.toArray) (hI : IntsAre svs ns) (hlen : ns.length ≤ 63) (N : News h₀ L s.heap own) (ic : (L + 1, oc) ∈ own) (hoc : oc.data = .cell (some (.ref sa)))
    (m1 : m (nm "many") = some (.int M tm)) (m2 : m (nm "place") = some (.int pl tp)) (m3 : m (nm "number") = some (.int num tn)) (M0 : 0 ≤ M) (M1 : M ≤ 256) (p0 : 0 ≤ pl) (p1 : pl < 256)
    (hret : ∀ (h' : Heap) (tk' : Nat) (m' : PySem.Str → Option Value) (gl kl sl wl al : Addr) (n1 n2 n3 n4 n5 : Nat) (gvs kvs svs wvs avs : List Value) (gs : List Int) (own' : List (Addr × Obj)), Fr h₀ L h' m' → m' (nm "given") = some (.ref gl) → m' (nm "kept") = some (.ref kl) → m' (nm "start") = some (.ref sl) → m' (nm "want") = some (.ref wl) → m' (nm "after") = some (.ref al) → 
      gs.length = M.toNat → IntsAre gvs gs → IntsAre kvs gs → IntsAre svs (gs ++ List.replicate (256 - M).toNat 0) → IntsAre wvs ((gs ++ List.replicate (256 - M).toNat 0).map fun (c : Int) => c.fmod 3329) → IntsAre avs (((gs ++ List.replicate (256 - M).toNat 0).map fun (c : Int) => c.fmod 3329).set pl.toNat num) →
      (kl, W.listOf kvs.toArray n2) ∈ own' → (sl, W.listOf svs.toArray n3) ∈ own' → (wl, W.listOf wvs.toArray n4) ∈ own' → (al, W.listOf avs.toArray n5) ∈ own' → (∀ p ∈ own, p ∈ own') → (∀ p ∈ own', p.1 ≠ gl) → 
      (∀ z, z ∉ [nm "given", nm "kept", nm "start", nm "want", nm "after"] → m' z = m z) → News h₀ L h' ((gl, W.listOf gvs.toArray n1) :: own') → 
      wpAny (model PySem.Challenge.rw_yi0010_01.row.prog w) (lawA L fa cd) (execs (rest) (lawEnv L fa cd)) Q (fun _ _ => False) { s with heap := h', toks := tk' }) :
    wpAny (model PySem.Challenge.rw_yi0010_01.row.prog w) (lawA L fa cd) (execs (seg 7 6 rest) (lawEnv L fa cd)) Q (fun _ _ => False) s := by
  w_on
  k_with_none
  k_with "mem" => assumption
  k_with "EltEnd" => exact elt_end (by k_asm) (by k_asm)
  k_with "exec Assign cons ListComp" => (k_here; (with_reducible show wpAny _ _ (exec (PySem.Stmt.Assign _ (PySem.Expr.ListComp (PySem.Expr.BinOp _ _ _ _) _ _ _) _) _) _ _ _); k_dflt (refine LCg.Assign_ListComp_U (F₀ := by k_asm) (by rfl) (by with_unfolding_all rfl) (by with_unfolding_all rfl) (by decide) (by rfl) (by decide) (by rfl) (by rfl) (by rfl) ?_))
  k_with "CompSrc" => (k_here; k_dflt (refine' map_src (fun c => c.fmod 3329) ?hh ?F ?N ?hm ?hi ?hsz ?_ ?_; (case hh => rfl); (case F => k_asm); (case N => k_asm); (case hm => k_mem); (case hi => assumption); (case hsz => (rw [sizeLine_eq]; simp only [List.length_append, List.length_map, rangeKs_length]; omega)); (intro C'w9 oC'w9 h'w9 tk'w9 m2'w9 help'w9 k'w9 t'w9 hk'w9 hns'w9 hm1'w9 F'w9 N'w9; (dsimp only [List.cons_append, List.nil_append] at N'w9 ⊢)); rotate_left; (intro g'w9 ys'w9 hI'w9; unfold LCg.FinA; intro D'w9 h'w9 tk'w9 F'w9 N'w9 o1'w9; (try simp only [LCg.Off1, and_true] at o1'w9))))
  k_with "all" => ((with_reducible rename _ ∧ _ ∧ _ ∧ _ ∧ _ ∧ _ ∧ AllLt _ _ => ll'w9); exact allLt_off ll'w9.2.2.2.2.2.2)
  k_with "setItem ref int" => (k_here; (with_reducible show wpAny _ _ (setItem (Value.ref _) _ _) _ _ _); k_dflt (refine' ksa_set ?k1 ?k2 ?k3 ?k4 ?k5 ?k6 ?k7 ?_; (case k1 => k_asm); (case k2 => k_asm); (case k3 => k_upd); (case k4 => with_reducible assumption); (case k5 => assumption); (case k6 => (simp only [List.length_map, List.length_append, rangeKs_length]; omega)); (case k7 => omega); k_whole); intro h'w9 F'w9 N'w9 hi'w9 hl'w9 hs'w9; (try k_sweep))
  revert X
  k_fill
  intro X
  have F0 : Fr h₀ L s.heap (kstB m [(nm "many", .int M tm), (nm "place", .int pl tp), (nm "number", .int num tn)]) := fr_kst F (by intro p hp; simp only [List.mem_cons, List.not_mem_nil, or_false] at hp; rcases hp with rfl | rfl | rfl <;> assumption)
  clear F
  dsimp only [seg, lawBody, lawA, lawEnv, lawScope, fnBody, fnScope, PySem.Challenge.pw_yi0010_01, List.getLast?, List.getLast, List.drop, List.take, List.cons_append, List.nil_append, ringD, polyD, nm] at *
  k_with "tree" => simp only [draw]
  k_with "call ref" => k_call_by "_law_draw" draw (fun (_ : List Int) (k : Int) => 0 ≤ k ∧ k ≤ 300)
  w_strict (repeat ((fail_if_success (with_reducible show wpAny _ _ (execs rest _) _ _ _)); (first | (k_unfold; (try dsimp only)) | (k_unmd; k_unfold; (try dsimp only)) | (k_end; wrow_close) | walk1 | (dsimp only; walk1) | (leave1; walk_say "STEP leave1"; (try dsimp only)) | fail "no step")))
  have ef : (List.replicate (256 - M).toNat [(0 : Int)]).flatten = List.replicate (256 - M).toNat 0 := by simp
  (with_reducible rename Fr _ _ _ _ => F9); (with_reducible rename News _ _ _ _ => N9)
  obtain ⟨NN, offg⟩ := s1_pack N9 (by omega) (by omega) (by omega) (by omega) (off1_mem (by assumption))
  refine' hret _ _ _ ?gl ?kl ?sl ?wl ?al ?n1 ?n2 ?n3 ?n4 ?n5 ?gvs ?kvs ?svs ?wvs ?avs ?gs _ F9 ?r1 ?r2 ?r3 ?r4 ?r5 ?hl ?I1 ?I2 ?I3 ?I4 ?I5 ?e1 ?e2 ?e3 ?e4 ?sub offg ?hm NN
  case r1 => exact rfl
  case r2 => exact rfl
  case r3 => exact rfl
  case r4 => exact rfl
  case r5 => exact rfl
  case e1 => k_mem
  case e2 => k_mem
  case e3 => k_mem
  case e4 => k_mem
  case I1 => assumption
  case I2 => assumption
  case I3 => rw [← ef]; assumption
  case I4 => rw [← ef]; assumption
  case I5 => rw [← ef]; assumption
  case hl => rw [List.length_map, rangeKs_length, Int.sub_zero]
  case sub => intro p hp; repeat (first | exact hp | refine List.Mem.tail _ ?_)
  case hm =>
    intro z hz
    simp only [List.mem_cons, List.not_mem_nil, or_false, not_or] at hz
    obtain ⟨h1, h2, h3, h4, h5⟩ := hz
    simp only [if_neg h1, if_neg h2, if_neg h3, if_neg h4, if_neg h5]
    exact kstB_eq (by intro p hp; simp only [List.mem_cons, List.not_mem_nil, or_false] at hp; rcases hp with rfl | rfl | rfl <;> assumption) fun _ => rfl
end
end
section
open PySem PySem.W PyProof.Rows
set_option maxRecDepth 100000
theorem s2_pack {w : World} {h₀ h : Heap} {L x1 d1 x2 d2 g xr : Addr} {og : Obj} {u1 u2 u3 u4 : Tok} {own : List (Addr × Obj)} (N : News h₀ L h ((x2, instObj 344 d2) :: (d2, polyD w xr g u3 u4 2) :: (x1, instObj 344 d1) :: (d1, polyD w xr g u1 u2 2) :: (g, og) :: own))
    (e1 : @LT.lt Nat _ g d1) (e2 : @LT.lt Nat _ d1 x1) (e3 : @LT.lt Nat _ x1 d2) (e4 : @LT.lt Nat _ d2 x2) (off : ∀ p ∈ own, p.1 ≠ g) : News h₀ L h ((g, og) :: (x2, instObj 344 d2) :: (d2, polyD w xr g u3 u4 2) :: (x1, instObj 344 d1) :: (d1, polyD w xr g u1 u2 2) :: own) ∧ ∀ p ∈ (x2, instObj 344 d2) :: (d2, polyD w xr g u3 u4 2) :: (x1, instObj 344 d1) :: (d1, polyD w xr g u1 u2 2) :: own, p.1 ≠ g := by
  refine ⟨kst_newsOf N ?_, ?_⟩
  · intro p hp
    simp only [List.mem_cons] at hp ⊢
    rcases hp with h | h | h | h | h | h <;> simp [h]
  · intro p hp
    simp only [List.mem_cons] at hp
    rcases hp with rfl | rfl | rfl | rfl | h
    · exact Nat.ne_of_gt (by omega)
    · exact Nat.ne_of_gt (by omega)
    · exact Nat.ne_of_gt (by omega)
    · exact Nat.ne_of_gt e1
    · exact off p h
section
variable {w : World} {mean : ExcName → Option Value} {mg mb : PySem.Str → Option Value} {h₀ : Heap} {L fa : Addr} {cd : Value} {m : PySem.Str → Option Value} {s : Shared} {Q : Flow → Shared → Prop} {rest : List Stmt}
set_option maxHeartbeats 2000000 in
theorem s2f {gl xr dr zz : Addr} {t3 t4 t5 t6 t7 t8 t9 : Tok} {nr n1 : Nat} {gvs : List Value} {gs : List Int} {own : List (Addr × Obj)}
    (K0 : Below callerA h₀ [] h₀) (X : (hd.heap_39 w.params).In h₀) (T : Top hd.view_39 (looseW hd.view_39 loo) mean mg mb h₀) (F : Fr h₀ L s.heap m)
    (m1 : m (nm "ring") = some (.ref xr)) (m2 : m (nm "given") = some (.ref gl))
    (N : News h₀ L s.heap ((gl, W.listOf gvs.toArray n1) :: own)) (hoff : ∀ p ∈ own, p.1 ≠ gl) (i3 : (xr, instObj 280 dr) ∈ own) (i4 : (dr, ringD w zz t3 t4 t5 t6 t7 t8 t9 nr) ∈ own) (hc : IntsAre gvs gs) (hx : gs.length = 256)
    (hret : ∀ (h' : Heap) (tk' : Nat) (m' : PySem.Str → Option Value) (xf df xg dg : Addr) (t1 t2 t1' t2' : Tok) (own' : List (Addr × Obj)), Fr h₀ L h' m' → m' (nm "f") = some (.ref xf) → m' (nm "g") = some (.ref xg) → (∀ z, z ∉ [nm "f", nm "g"] → m' z = m z) → 
      (xf, instObj 344 df) ∈ own' → (df, polyD w xr gl t1 t2 2) ∈ own' → (xg, instObj 344 dg) ∈ own' → (dg, polyD w xr gl t1' t2' 2) ∈ own' → (∀ p ∈ own, p ∈ own') → (∀ p ∈ own', p.1 ≠ gl) → News h₀ L h' ((gl, W.listOf gvs.toArray n1) :: own') →
      wpAny (model PySem.Challenge.rw_yi0010_01.row.prog w) (lawA L fa cd) (execs (rest) (lawEnv L fa cd)) Q (fun _ _ => False) { s with heap := h', toks := tk' }) :
    wpAny (model PySem.Challenge.rw_yi0010_01.row.prog w) (lawA L fa cd) (execs (seg 13 2 rest) (lawEnv L fa cd)) Q (fun _ _ => False) s := by
  w_on
  k_with_none
  k_with "mem" => assumption
  k_with "call ref" => (k_here; (k_dflt (refine' ring_full_led ?B ?F ?X ?T ?hk ?hdp ?hun ?N ?i1 ?i2 ?i3 ?hc ?hx ?_; (case F => k_asm); (case B => assumption); (case X => assumption); (case T => assumption); (case hk => exact rfl); (case N => k_asm); (case i1 => k_mem); (case i2 => k_mem); (case i3 => k_mem); (case hc => assumption); (case hx => assumption); (case hdp => exact Nat.le_of_ble_eq_true rfl); (case hun => exact Nat.le_of_ble_eq_true rfl))); intro x'w9 d'w9 u1w9 u2w9 h'w9 tk'w9 F'w9 l1w9 l2w9 N'w9; (try dsimp only at N'w9); (try k_lt l1w9); (try k_lt2 l2w9))
  revert X
  k_fill
  intro X
  have F0 : Fr h₀ L s.heap (kstB m [(nm "ring", .ref xr), (nm "given", .ref gl)]) := fr_kst F (by intro p hp; simp only [List.mem_cons, List.not_mem_nil, or_false] at hp; rcases hp with rfl | rfl <;> assumption)
  clear F
  dsimp only [seg, lawBody, lawA, lawEnv, lawScope, fnBody, fnScope, PySem.Challenge.pw_yi0010_01, List.getLast?, List.getLast, List.drop, List.take, List.cons_append, List.nil_append, ringD, polyD, nm] at *
  w_strict (repeat ((fail_if_success (with_reducible show wpAny _ _ (execs rest _) _ _ _)); (first | (k_unfold; (try dsimp only)) | (k_unmd; k_unfold; (try dsimp only)) | (k_end; wrow_close) | walk1 | (dsimp only; walk1) | (leave1; walk_say "STEP leave1"; (try dsimp only)) | fail "no step")))
  (with_reducible rename Fr _ _ _ _ => F9); (with_reducible rename News _ _ _ _ => N9)
  obtain ⟨NN, off⟩ := s2_pack N9 (by omega) (by omega) (by omega) (by omega) hoff
  refine hret _ _ _ _ _ _ _ _ _ _ _ _ F9 rfl rfl ?_ (.tail _ (.tail _ (.head _))) (.tail _ (.tail _ (.tail _ (.head _)))) (.head _) (.tail _ (.head _)) (fun p hp => .tail _ (.tail _ (.tail _ (.tail _ hp)))) off NN
  intro z hz
  simp only [List.mem_cons, List.not_mem_nil, or_false, not_or] at hz
  simp only [if_neg hz.1, if_neg hz.2]
  exact kstB_eq (by intro p hp; simp only [List.mem_cons, List.not_mem_nil, or_false] at hp; rcases hp with rfl | rfl <;> assumption) fun _ => rfl
end
end
section
open PySem PySem.W PyProof.Rows
set_option maxRecDepth 100000
theorem s2s_pack {w : World} {h₀ h : Heap} {L x1 d1 x2 d2 c1 c2 g xr : Addr} {og o1 o2 : Obj} {u1 u2 u3 u4 : Tok} {own : List (Addr × Obj)} (N : News h₀ L h ((c2, o2) :: (x2, instObj 344 d2) :: (d2, polyD w xr c2 u3 u4 2) :: (c1, o1) :: (x1, instObj 344 d1) :: (d1, polyD w xr c1 u1 u2 2) :: (g, og) :: own))
    (e1 : @LT.lt Nat _ g d1) (e2 : @LT.lt Nat _ d1 x1) (e3 : @LT.lt Nat _ x1 c1) (e4 : @LT.lt Nat _ c1 d2) (e5 : @LT.lt Nat _ d2 x2) (e6 : @LT.lt Nat _ x2 c2) (off : ∀ p ∈ own, p.1 ≠ c1) : News h₀ L h ((c1, o1) :: (c2, o2) :: (x2, instObj 344 d2) :: (d2, polyD w xr c2 u3 u4 2) :: (x1, instObj 344 d1) :: (d1, polyD w xr c1 u1 u2 2) :: (g, og) :: own) ∧
    ∀ p ∈ (c2, o2) :: (x2, instObj 344 d2) :: (d2, polyD w xr c2 u3 u4 2) :: (x1, instObj 344 d1) :: (d1, polyD w xr c1 u1 u2 2) :: (g, og) :: own, p.1 ≠ c1 := by
  refine ⟨kst_newsOf N ?_, ?_⟩
  · intro p hp
    simp only [List.mem_cons] at hp ⊢
    rcases hp with h | h | h | h | h | h | h | h <;> simp [h]
  · intro p hp
    simp only [List.mem_cons] at hp
    rcases hp with rfl | rfl | rfl | rfl | rfl | rfl | h
    · exact Nat.ne_of_gt (by omega)
    · exact Nat.ne_of_gt (by omega)
    · exact Nat.ne_of_gt (by omega)
    · exact Nat.ne_of_lt (by omega)
    · exact Nat.ne_of_lt (by omega)
    · exact Nat.ne_of_lt (by omega)
    · exact off p h
theorem allLt_lt {d e : Nat} {l : List (Addr × Obj)} (h : AllLt d l) (he : d < e) : ∀ p ∈ l, p.1 ≠ e := fun p hp => Nat.ne_of_lt (Nat.lt_trans (allLt_mem h p hp) he)
section
variable {w : World} {mean : ExcName → Option Value} {mg mb : PySem.Str → Option Value} {h₀ : Heap} {L fa : Addr} {cd : Value} {m : PySem.Str → Option Value} {s : Shared} {Q : Flow → Shared → Prop} {rest : List Stmt}
set_option maxHeartbeats 2000000 in
theorem s2s {gl xr dr zz : Addr} {t3 t4 t5 t6 t7 t8 t9 : Tok} {nr n1 : Nat} {gvs : List Value} {gs : List Int} {own : List (Addr × Obj)}
    (K0 : Below callerA h₀ [] h₀) (X : (hd.heap_39 w.params).In h₀) (T : Top hd.view_39 (looseW hd.view_39 loo) mean mg mb h₀) (F : Fr h₀ L s.heap m)
    (m1 : m (nm "ring") = some (.ref xr)) (m2 : m (nm "given") = some (.ref gl))
    (N : News h₀ L s.heap ((gl, W.listOf gvs.toArray n1) :: own)) (i3 : (xr, instObj 280 dr) ∈ own) (i4 : (dr, ringD w zz t3 t4 t5 t6 t7 t8 t9 nr) ∈ own) (hc : IntsAre gvs gs) (hx : gs.length < 256)
    (hret : ∀ (h' : Heap) (tk' : Nat) (m' : PySem.Str → Option Value) (xf df xg dg cc cg : Addr) (t1 t2 t1' t2' : Tok) (fvs cvs : List Value) (own' : List (Addr × Obj)), Fr h₀ L h' m' → m' (nm "f") = some (.ref xf) → m' (nm "g") = some (.ref xg) → (∀ z, z ∉ [nm "f", nm "g"] → m' z = m z) → 
      IntsAre fvs (gs ++ List.replicate (256 - gs.length) 0) → IntsAre cvs (gs ++ List.replicate (256 - gs.length) 0) →
      (xf, instObj 344 df) ∈ own' → (df, polyD w xr cc t1 t2 2) ∈ own' → (xg, instObj 344 dg) ∈ own' → (dg, polyD w xr cg t1' t2' 2) ∈ own' → (cg, W.listOf cvs.toArray 0) ∈ own' → (gl, W.listOf gvs.toArray n1) ∈ own' → (∀ p ∈ own, p ∈ own') → (∀ p ∈ own', p.1 ≠ cc) → News h₀ L h' ((cc, W.listOf fvs.toArray 0) :: own') →
      wpAny (model PySem.Challenge.rw_yi0010_01.row.prog w) (lawA L fa cd) (execs (rest) (lawEnv L fa cd)) Q (fun _ _ => False) { s with heap := h', toks := tk' }) :
    wpAny (model PySem.Challenge.rw_yi0010_01.row.prog w) (lawA L fa cd) (execs (seg 13 2 rest) (lawEnv L fa cd)) Q (fun _ _ => False) s := by
  w_on
  k_with_none
  k_with "mem" => assumption
  revert X
  k_fill
  intro X
  have F0 : Fr h₀ L s.heap (kstB m [(nm "ring", .ref xr), (nm "given", .ref gl)]) := fr_kst F (by intro p hp; simp only [List.mem_cons, List.not_mem_nil, or_false] at hp; rcases hp with rfl | rfl <;> assumption)
  clear F
  dsimp only [seg, lawBody, lawA, lawEnv, lawScope, fnBody, fnScope, PySem.Challenge.pw_yi0010_01, List.getLast?, List.getLast, List.drop, List.take, List.cons_append, List.nil_append, ringD, polyD, nm] at *
  w_strict (repeat ((fail_if_success (with_reducible show wpAny _ _ (call (Value.ref xr) _) _ _ _)); (first | (k_unfold; (try dsimp only)) | (k_unmd; k_unfold; (try dsimp only)) | (k_end; wrow_close) | walk1 | (dsimp only; walk1) | (leave1; walk_say "STEP leave1"; (try dsimp only)) | fail "no step")))
  try exact ⟨by k_in, by k_inst⟩
  w_strict (repeat ((fail_if_success (with_reducible show wpAny _ _ (call (Value.ref xr) _) _ _ _)); (first | (k_unfold; (try dsimp only)) | (k_unmd; k_unfold; (try dsimp only)) | (k_end; wrow_close) | walk1 | (dsimp only; walk1) | (leave1; walk_say "STEP leave1"; (try dsimp only)) | fail "no step")))
  refine' ring_short_led ?B ?F ?X ?T ?hk ?hdp ?hun ?N ?i1 ?i2 ?i3 ?hc ?hx ?ret
  case F => k_asm
  case B => assumption
  case X => assumption
  case T => assumption
  case hk => exact rfl
  case N => k_asm
  case i1 => k_mem
  case i2 => k_mem
  case i3 => k_mem
  case hc => assumption
  case hx => assumption
  case hdp => exact Nat.le_of_ble_eq_true rfl
  case hun => exact Nat.le_of_ble_eq_true rfl
  intro x1 d1 c1 u1 u2 h1 tk1 vs1 hv1 F' a1 a2 a3 N'
  k_lt a1
  k_lt2 a2
  k_lt2 a3
  w_strict (repeat ((fail_if_success (with_reducible show wpAny _ _ (call (Value.ref xr) _) _ _ _)); (first | (k_unfold; (try dsimp only)) | (k_unmd; k_unfold; (try dsimp only)) | (k_end; wrow_close) | walk1 | (dsimp only; walk1) | (leave1; walk_say "STEP leave1"; (try dsimp only)) | fail "no step")))
  try exact ⟨by k_in, by k_inst⟩
  w_strict (repeat ((fail_if_success (with_reducible show wpAny _ _ (call (Value.ref xr) _) _ _ _)); (first | (k_unfold; (try dsimp only)) | (k_unmd; k_unfold; (try dsimp only)) | (k_end; wrow_close) | walk1 | (dsimp only; walk1) | (leave1; walk_say "STEP leave1"; (try dsimp only)) | fail "no step")))
  refine' ring_short_led ?Bq ?Fq ?Xq ?Tq ?hkq ?hdpq ?hunq ?Nq ?i1q ?i2q ?i3q ?hcq ?hxq ?retq
  case Fq => k_asm
  case Bq => assumption
  case Xq => assumption
  case Tq => assumption
  case hkq => exact rfl
  case Nq => k_asm
  case i1q => k_mem
  case i2q => k_mem
  case i3q => k_mem
  case hcq => assumption
  case hxq => assumption
  case hdpq => exact Nat.le_of_ble_eq_true rfl
  case hunq => exact Nat.le_of_ble_eq_true rfl
  intro x2 d2 c2 u3 u4 h2 tk2 vs2 hv2 F' b1 b2 b3 N'
  k_lt b1
  k_lt2 b2
  k_lt2 b3
  w_strict (repeat ((fail_if_success (with_reducible show wpAny _ _ (execs rest _) _ _ _)); (first | (k_unfold; (try dsimp only)) | (k_unmd; k_unfold; (try dsimp only)) | (k_end; wrow_close) | walk1 | (dsimp only; walk1) | (leave1; walk_say "STEP leave1"; (try dsimp only)) | fail "no step")))
  (with_reducible rename Fr _ _ _ _ => F9); (with_reducible rename News _ _ _ _ => N9)
  obtain ⟨NN, off⟩ := s2s_pack N9 (by omega) (by omega) (by omega) (by omega) (by omega) (by omega) (allLt_lt a1.2 (by omega))
  refine hret _ _ _ _ _ _ _ _ _ _ _ _ _ _ _ _ F9 rfl rfl ?_ (by assumption) (by assumption) (.tail _ (.tail _ (.tail _ (.head _)))) (.tail _ (.tail _ (.tail _ (.tail _ (.head _))))) (.tail _ (.head _)) (.tail _ (.tail _ (.head _))) (.head _) (.tail _ (.tail _ (.tail _ (.tail _ (.tail _ (.head _)))))) (fun p hp => .tail _ (.tail _ (.tail _ (.tail _ (.tail _ (.tail _ hp)))))) off NN
  intro z hz
  simp only [List.mem_cons, List.not_mem_nil, or_false, not_or] at hz
  simp only [if_neg hz.1, if_neg hz.2]
  exact kstB_eq (by intro p hp; simp only [List.mem_cons, List.not_mem_nil, or_false] at hp; rcases hp with rfl | rfl <;> assumption) fun _ => rfl
end
end
section
open PySem PySem.W PyProof.Rows
set_option maxRecDepth 100000
section
variable {w : World} {mean : ExcName → Option Value} {mg mb : PySem.Str → Option Value} {h₀ : Heap} {L fa : Addr} {cd : Value} {m : PySem.Str → Option Value} {s : Shared} {Q : Flow → Shared → Prop} {rest : List Stmt}
set_option maxHeartbeats 2000000 in
theorem s3 {cc xf df xr dr zz : Addr} {td t1 t2 t3 t4 t5 t6 t7 t8 t9 : Tok} {nr nc nf nz deep : Nat} {cvs zvs : List Value} {xs : List Int} {own : List (Addr × Obj)}
    (K0 : Below callerA h₀ [] h₀) (X : (hd.heap_39 w.params).In h₀) (T : Top hd.view_39 (looseW hd.view_39 loo) mean mg mb h₀) (F : Fr h₀ L s.heap m)
    (m1 : m (nm "deep") = some (.int (deep : Int) td)) (m2 : m (nm "f") = some (.ref xf)) (hd1 : 1 ≤ deep) (hd3 : Le3 deep)
    (N : News h₀ L s.heap ((cc, W.listOf cvs.toArray nc) :: own)) (hoff : ∀ p ∈ own, p.1 ≠ cc) (i1 : (xf, instObj 344 df) ∈ own) (i2 : (df, polyD w xr cc t1 t2 nf) ∈ own)
    (i3 : (xr, instObj 280 dr) ∈ own) (i4 : (dr, ringD w zz t3 t4 t5 t6 t7 t8 t9 nr) ∈ own) (i5 : (zz, W.listOf zvs.toArray nz) ∈ own) (hz : IntsAre zvs ((rangeKs 0 128).map zeta)) (hc : IntsAre cvs xs) (hx : xs.length = 256)
    (hret : ∀ (h' : Heap) (tk' : Nat) (m' : PySem.Str → Option Value) (hh : Addr) (nh : Nat) (vs : List Value) (hs : List Addr) (own' : List (Addr × Obj)), Fr h₀ L h' m' → m' (nm "handles") = some (.ref hh) → (∀ z, z ∉ [nm "handles", nm "_"] → m' z = m z) → IntsAre vs (times (toN zeta) deep xs) → hs.length = deep →
      (∀ x ∈ hs, HasPoly w 420 xr cc own' x) → (hh, W.listOf (hs.map Value.ref).toArray nh) ∈ own' → (∀ p ∈ own, p ∈ own') → (∀ p ∈ own', p.1 ≠ cc) → News h₀ L h' ((cc, W.listOf vs.toArray nc) :: own') →
      wpAny (model PySem.Challenge.rw_yi0010_01.row.prog w) (lawA L fa cd) (execs (rest) (lawEnv L fa cd)) Q (fun _ _ => False) { s with heap := h', toks := tk' }) :
    wpAny (model PySem.Challenge.rw_yi0010_01.row.prog w) (lawA L fa cd) (execs (seg 15 2 rest) (lawEnv L fa cd)) Q (fun _ _ => False) s := by
  w_on
  k_with_none
  k_with "all" => assumption
  k_with "mem" => assumption
  k_with "call builtin:list.append" => (k_here; k_dflt (refine' append_K ?k1 ?k2 ?k3 ?_ ?z; (case k1 => k_asm); (case k2 => k_asm); (case k3 => k_upd); (case z => (simp only [List.size_toArray, sizeLine_eq]; omega)); k_whole); intro h'w9 F'w9 N'w9)
  k_with "call ref" => (k_here; (k_dflt (refine' to_ntt_led ?B ?F ?X ?T ?hk ?N ?m2 ?m3 ?m4 ?m5 ?m1 ?hzc ?U ?hz ?hc ?hx ?hdp ?hun ?_; (case B => assumption); (case F => k_asm); (case X => assumption); (case T => assumption); (case hk => exact rfl); (case N => k_asm); (case m2 => k_mem); (case m3 => k_mem); (case m4 => k_mem); (case m5 => k_mem); (case m1 => k_mem); (case hzc => assumption); (case U => (intro t'w9; k_upd)); (case hz => assumption); (case hc => assumption); (case hx => assumption); (case hdp => decide); (case hun => decide))); intro vs'w9 x'w9 d'w9 u1w9 u2w9 h'w9 tk'w9 hv'w9 hl'w9 F'w9 l1w9 l2w9 N'w9; (try dsimp only at N'w9); (try k_lt l1w9); (try k_lt2 l2w9))
  revert X
  k_fill
  intro X
  have F0 : Fr h₀ L s.heap (kstB m [(nm "deep", .int (deep : Int) td), (nm "f", .ref xf)]) := fr_kst F (by intro p hp; simp only [List.mem_cons, List.not_mem_nil, or_false] at hp; rcases hp with rfl | rfl <;> assumption)
  clear F
  dsimp only [seg, lawBody, lawA, lawEnv, lawScope, fnBody, fnScope, PySem.Challenge.pw_yi0010_01, List.getLast?, List.getLast, List.drop, List.take, List.cons_append, List.nil_append, ringD, polyD, nm] at *
  w_strict (repeat ((fail_if_success (with_reducible show wpAny _ _ (pyIter _) _ _ _)); (first | (k_unfold; (try dsimp only)) | (k_unmd; k_unfold; (try dsimp only)) | (k_end; wrow_close) | walk1 | (dsimp only; walk1) | (leave1; walk_say "STEP leave1"; (try dsimp only)) | fail "no step")))
  (with_reducible rename Fr _ _ _ _ => F1); (with_reducible rename News _ _ _ _ => N1); (with_reducible rename cc < _ ∧ AllLt _ own => l9); (with_reducible rename IsRange _ _ _ _ _ _ _ _ => hr)
  obtain ⟨hh, ehh, l8⟩ := name_lt l9
  subst ehh
  refine grow_range (n := deep) (ledH cc hh nc own) (PH w 420 xr cc hh (toN zeta) xs) ⟨cvs, [], 0, []⟩ rfl hr ?hsm ?hn F1 (news_swap N1) ?hP ?turn ?done
  case hsm => exact rg_small (by omega) (by omega) (by omega) (by unfold Le3 at hd3; omega)
  case hn => have h := rg_size 0 deep hd1; rwa [Int.zero_add] at h
  case hP => exact ⟨by assumption, rfl, fun _ h => (nomatch h), fun _ h => (nomatch h), fun _ h => (nomatch h)⟩
  case turn =>
    rintro I ⟨vs, hs, nh, objs⟩ i v h2 tk2 oI hi ⟨hv, hl, hall, ho1, ho2⟩ hoI F2 N2
    dsimp only [ledH] at hv hl hall ho1 ho2 hoI F2 N2 ⊢
    clear F1 N1
    obtain ⟨r2, hr2⟩ : ∃ o, o = objs ++ own := ⟨_, rfl⟩
    have j1 : (xf, instObj 344 df) ∈ r2 := by rw [hr2]; exact List.mem_append.mpr (.inr i1)
    have j2 : (df, dictOf [ent w "parent" t1 (.ref xr), ent w "coeffs" t2 (.ref cc)] nf) ∈ r2 := by rw [hr2]; exact List.mem_append.mpr (.inr i2)
    have j3 : (xr, instObj 280 dr) ∈ r2 := by rw [hr2]; exact List.mem_append.mpr (.inr i3)
    have j4 : (dr, dictOf [ent w "q" t3 (.int 3329 t4), ent w "n" t5 (.int 256 t6), ent w "ntt_zetas" t7 (.ref zz), ent w "ntt_f" t8 (.int 3303 t9)] nr) ∈ r2 := by rw [hr2]; exact List.mem_append.mpr (.inr i4)
    have j5 : (zz, W.listOf zvs.toArray nz) ∈ r2 := by rw [hr2]; exact List.mem_append.mpr (.inr i5)
    have oc : ∀ p ∈ r2, p.1 ≠ cc := by rw [hr2]; exact fun p hp => (List.mem_append.mp hp).elim (ho1 p) (hoff p)
    have oh : ∀ p ∈ r2, p.1 ≠ hh := by rw [hr2]; exact fun p hp => (List.mem_append.mp hp).elim (ho2 p) (fun h => Nat.ne_of_lt (allLt_mem l8.2 p h))
    have qc : @Ne Nat cc I := hoI _ (.head _)
    have qh : @Ne Nat hh I := hoI _ (.tail _ (.head _))
    have hzc : zz ≠ cc := oc _ j5
    rw [← hr2] at N2
    have hx1 : (times (toN zeta) i xs).length = 256 := by rw [times_len (toN_len zeta), hx]
    obtain ⟨ys, hys⟩ : ∃ o, o = times (toN zeta) i xs := ⟨_, rfl⟩
    rw [← hys] at hv hx1
    obtain ⟨rs, hrs⟩ : ∃ o, o = hs.map Value.ref := ⟨_, rfl⟩
    rw [← hrs] at N2
    have hrl : rs.length ≤ 3 := by rw [hrs, List.length_map]; unfold Le3 at hd3; omega
    w_strict (repeat ((fail_if_success (with_reducible show wpAny _ _ (GrowPost _ _ _ _ _ _ _ _ _ _ _ _) _ _ _)); (first | (k_unfold; (try dsimp only)) | (k_unmd; k_unfold; (try dsimp only)) | (k_end; wrow_close) | walk1 | (dsimp only; walk1) | (leave1; walk_say "STEP leave1"; (try dsimp only)) | fail "no step")))
    (with_reducible rename Fr _ _ _ _ => F9); (with_reducible rename News _ _ _ _ => N9)
    refine h_turn F9 N9 (by assumption) hys hrs hr2 hl hall ho1 ho2 (by assumption) (by assumption) qc qh ?_ ?_
    · rw [hr2]; exact fun p hp => hoI p (.tail _ (.tail _ hp))
    · intro z hz
      show (if z = _ then _ else _) = _
      rw [if_neg hz]
  case done =>
    rintro ⟨vs, hs, nh, objs⟩ m' h3 tk3 ⟨hv, hl, hall, ho1, ho2⟩ F3 hm N3
    dsimp only [ledH] at hv hl hall ho1 ho2 N3
    refine hret h3 tk3 m' hh nh vs hs ((hh, W.listOf (hs.map Value.ref).toArray nh) :: (objs ++ own)) F3 ((hm _ (by decide)).trans rfl) ?_ hv hl ?_ (.head _) ?_ ?_ N3
    · intro z hz
      simp only [List.mem_cons, List.not_mem_nil, or_false, not_or] at hz
      rw [hm z hz.2, if_neg hz.1]
      exact kstB_eq (by intro p hp; simp only [List.mem_cons, List.not_mem_nil, or_false] at hp; rcases hp with rfl | rfl <;> assumption) fun _ => rfl
    · exact fun x hx => (hall x hx).mono fun p hp => .tail _ (List.mem_append.mpr (.inl hp))
    · exact fun p hp => .tail _ (List.mem_append.mpr (.inr hp))
    · intro p hp
      rcases List.mem_cons.mp hp with rfl | hp
      · exact Nat.ne_of_gt l8.1
      · exact (List.mem_append.mp hp).elim (ho1 p) (hoff p)
end
end
section
open PySem PySem.W PyProof.Rows
set_option maxRecDepth 100000
section
variable {w : World} {mean : ExcName → Option Value} {mg mb : PySem.Str → Option Value} {h₀ : Heap} {L fa : Addr} {cd : Value} {m : PySem.Str → Option Value} {s : Shared} {Q : Flow → Shared → Prop} {rest : List Stmt}
set_option maxHeartbeats 2000000 in
theorem s4 {cc hl xr xf df : Addr} {t1 t2 : Tok} {nc nl nf : Nat} {cvs : List Value} {xs : List Int} {hs : List Addr} {own : List (Addr × Obj)}
    (K0 : Below callerA h₀ [] h₀) (X : (hd.heap_39 w.params).In h₀) (T : Top hd.view_39 (looseW hd.view_39 loo) mean mg mb h₀) (F : Fr h₀ L s.heap m)
    (m1 : m (nm "handles") = some (.ref hl)) (m2 : m (nm "f") = some (.ref xf))
    (N : News h₀ L s.heap ((cc, W.listOf cvs.toArray nc) :: own)) (i1 : (hl, W.listOf (hs.map Value.ref).toArray nl) ∈ own) (i2 : ∀ x ∈ hs, HasPoly w 420 xr cc own x)
    (i3 : (xf, instObj 344 df) ∈ own) (i4 : (df, polyD w xr cc t1 t2 nf) ∈ own) (hc : IntsAre cvs xs) (hx : xs.length = 256)
    (hret : ∀ (h' : Heap) (tk' : Nat) (m' : PySem.Str → Option Value), Fr h₀ L h' m' → (∀ z, z ∉ [nm "h"] → m' z = m z) → News h₀ L h' ((cc, W.listOf cvs.toArray nc) :: own) →
      wpAny (model PySem.Challenge.rw_yi0010_01.row.prog w) (lawA L fa cd) (execs (rest) (lawEnv L fa cd)) Q (fun _ _ => False) { s with heap := h', toks := tk' }) :
    wpAny (model PySem.Challenge.rw_yi0010_01.row.prog w) (lawA L fa cd) (execs (seg 17 1 rest) (lawEnv L fa cd)) Q (fun _ _ => False) s := by
  w_on
  k_with_none
  k_with "mem" => assumption
  k_with "compareOp NotEq ref ref" => (k_here; k_dflt (refine' ne_news ?N ?i ?j ?hi ?hj ?e ?hu ?_; (case N => k_asm); (case i => k_mem); (case j => k_mem); (case hi => assumption); (case hj => assumption); (case e => first | with_reducible rfl | assumption); (case hu => ke_room)); (try dsimp only))
  k_with "compareOp Eq ref ref" => (k_here; k_dflt (refine' eq_news ?N ?i ?j ?hi ?hj ?e ?hu ?_; (case N => k_asm); (case i => k_mem); (case j => k_mem); (case hi => assumption); (case hj => assumption); (case e => first | with_reducible rfl | assumption); (case hu => ke_room)); (try dsimp only))
  revert X
  k_fill
  intro X
  have F0 : Fr h₀ L s.heap (kstB m [(nm "handles", .ref hl), (nm "f", .ref xf)]) := fr_kst F (by intro p hp; simp only [List.mem_cons, List.not_mem_nil, or_false] at hp; rcases hp with rfl | rfl <;> assumption)
  clear F
  dsimp only [seg, lawBody, lawA, lawEnv, lawScope, fnBody, fnScope, PySem.Challenge.pw_yi0010_01, List.getLast?, List.getLast, List.drop, List.take, List.cons_append, List.nil_append, ringD, polyD, nm] at *
  w_strict (repeat ((fail_if_success (with_reducible show wpAny _ _ (pyIter _) _ _ _)); (first | (k_unfold; (try dsimp only)) | (k_unmd; k_unfold; (try dsimp only)) | (k_end; wrow_close) | walk1 | (dsimp only; walk1) | (leave1; walk_say "STEP leave1"; (try dsimp only)) | fail "no step")))
  (with_reducible rename Fr _ _ _ _ => F1); (with_reducible rename News _ _ _ _ => N1)
  refine grow_list (σ := Unit) (vs := hs.map Value.ref) (nn := nl) (fun _ => (cc, W.listOf cvs.toArray nc) :: own) (fun _ _ => True) () rfl (fun c => .tail _ i1) F1 N1 trivial ?turn ?done
  case turn =>
    rintro I _ i v h2 tk2 oI hi _ hoI F2 N2
    try dsimp only at hoI F2 N2 ⊢
    clear F1 N1
    rw [List.getElem?_map] at hi
    obtain ⟨x, hxi, rfl⟩ := Option.map_eq_some_iff.mp hi
    have hxm : x ∈ hs := List.mem_of_getElem? hxi
    obtain ⟨dx, u1, u2, nx, k1, k2⟩ := i2 x hxm
    dsimp only [polyD] at k2
    clear i2
    w_strict (repeat ((fail_if_success (with_reducible show wpAny _ _ (GrowPost _ _ _ _ _ _ _ _ _ _ _ _) _ _ _)); (first | (k_unfold; (try dsimp only)) | (k_unmd; k_unfold; (try dsimp only)) | (k_end; wrow_close) | walk1 | (dsimp only; walk1) | (leave1; walk_say "STEP leave1"; (try dsimp only)) | fail "no step")))
    (with_reducible rename Fr _ _ _ _ => F9); (with_reducible rename News _ _ _ _ => N9)
    refine grow_end () F9 N9 hoI ?_ trivial
    intro z hz
    rw [if_neg hz]
  case done =>
    rintro _ m' h3 tk3 _ F3 hm N3
    refine hret h3 tk3 m' F3 ?_ N3
    intro z hz
    simp only [List.mem_cons, List.not_mem_nil, or_false] at hz
    rw [hm z hz]
    exact kstB_eq (by intro p hp; simp only [List.mem_cons, List.not_mem_nil, or_false] at hp; rcases hp with rfl | rfl <;> assumption) fun _ => rfl
end
end
section
open PySem PySem.W PyProof.Rows
set_option maxRecDepth 100000
section
variable {w : World} {mean : ExcName → Option Value} {mg mb : PySem.Str → Option Value} {h₀ : Heap} {L fa : Addr} {cd : Value} {m : PySem.Str → Option Value} {s : Shared} {Q : Flow → Shared → Prop} {rest : List Stmt}
set_option maxHeartbeats 2000000 in
theorem s5f {cc xr xf df xg dg ol : Addr} {tm t1 t2 t3 t4 : Tok} {nc nf ng no : Nat} {cvs ovs : List Value} {xs : List Int} {own : List (Addr × Obj)}
    (K0 : Below callerA h₀ [] h₀) (X : (hd.heap_39 w.params).In h₀) (T : Top hd.view_39 (looseW hd.view_39 loo) mean mg mb h₀) (F : Fr h₀ L s.heap m)
    (m0 : m (nm "many") = some (.int 256 tm)) (m1 : m (nm "given") = some (.ref cc)) (m3 : m (nm "g") = some (.ref xg)) (m2 : m (nm "f") = some (.ref xf)) (i3 : (xf, instObj 344 df) ∈ own) (i4 : (df, polyD w xr cc t1 t2 nf) ∈ own) 
    (N : News h₀ L s.heap ((cc, W.listOf cvs.toArray nc) :: own))
    (i5 : (xg, instObj 344 dg) ∈ own) (i6 : (dg, polyD w xr cc t3 t4 ng) ∈ own) (hc : IntsAre cvs xs)
    (hret : ∀ (h' : Heap) (tk' : Nat) (m' : PySem.Str → Option Value), Fr h₀ L h' m' → (∀ z, m' z = m z) → News h₀ L h' ((cc, W.listOf cvs.toArray nc) :: own) →
      wpAny (model PySem.Challenge.rw_yi0010_01.row.prog w) (lawA L fa cd) (execs (rest) (lawEnv L fa cd)) Q (fun _ _ => False) { s with heap := h', toks := tk' }) :
    wpAny (model PySem.Challenge.rw_yi0010_01.row.prog w) (lawA L fa cd) (execs (seg 18 1 rest) (lawEnv L fa cd)) Q (fun _ _ => False) s := by
  w_on
  k_with_none
  k_with "mem" => assumption
  k_with "compareOp NotEq ref ref" => (k_here; k_dflt (refine' ne_news ?N ?i ?j ?hi ?hj ?e ?hu ?_; (case N => k_asm); (case i => k_mem); (case j => k_mem); (case hi => assumption); (case hj => assumption); (case e => first | with_reducible rfl | assumption); (case hu => ke_room)); (try dsimp only))
  k_with "compareOp Eq ref ref" => (k_here; k_dflt (refine' eq_news ?N ?i ?j ?hi ?hj ?e ?hu ?_; (case N => k_asm); (case i => k_mem); (case j => k_mem); (case hi => assumption); (case hj => assumption); (case e => first | with_reducible rfl | assumption); (case hu => ke_room)); (try dsimp only))
  revert X
  k_fill
  intro X
  have F0 : Fr h₀ L s.heap (kstB m [(nm "many", .int 256 tm), (nm "given", .ref cc), (nm "g", .ref xg), (nm "f", .ref xf)]) := fr_kst F (by intro p hp; simp only [List.mem_cons, List.not_mem_nil, or_false] at hp; rcases hp with rfl | rfl | rfl | rfl <;> assumption)
  clear F
  dsimp only [seg, lawBody, lawA, lawEnv, lawScope, fnBody, fnScope, PySem.Challenge.pw_yi0010_01, List.getLast?, List.getLast, List.drop, List.take, List.cons_append, List.nil_append, ringD, polyD, nm] at *
  w_strict (repeat ((fail_if_success (with_reducible show wpAny _ _ (execs rest _) _ _ _)); (first | (k_unfold; (try dsimp only)) | (k_unmd; k_unfold; (try dsimp only)) | (k_end; wrow_close) | walk1 | (dsimp only; walk1) | (leave1; walk_say "STEP leave1"; (try dsimp only)) | fail "no step")))
  exact hret _ _ _ F0 (fun z => kstB_eq (by intro p hp; simp only [List.mem_cons, List.not_mem_nil, or_false] at hp; rcases hp with rfl | rfl | rfl | rfl <;> assumption) fun _ => rfl) (by assumption)
set_option maxHeartbeats 2000000 in
theorem s8f {cc xr xf df xg dg ol : Addr} {tm t1 t2 t3 t4 : Tok} {nc nf ng no : Nat} {cvs ovs : List Value} {xs : List Int} {own : List (Addr × Obj)}
    (K0 : Below callerA h₀ [] h₀) (X : (hd.heap_39 w.params).In h₀) (T : Top hd.view_39 (looseW hd.view_39 loo) mean mg mb h₀) (F : Fr h₀ L s.heap m)
    (m0 : m (nm "many") = some (.int 256 tm)) (m1 : m (nm "given") = some (.ref cc)) (m3 : m (nm "g") = some (.ref xg)) (mo : m (nm "want") = some (.ref ol)) (io : (ol, W.listOf ovs.toArray no) ∈ own) (ho : IntsAre ovs xs)
    (N : News h₀ L s.heap ((cc, W.listOf cvs.toArray nc) :: own))
    (i5 : (xg, instObj 344 dg) ∈ own) (i6 : (dg, polyD w xr cc t3 t4 ng) ∈ own) (hc : IntsAre cvs xs)
    (hret : ∀ (h' : Heap) (tk' : Nat) (m' : PySem.Str → Option Value), Fr h₀ L h' m' → (∀ z, m' z = m z) → News h₀ L h' ((cc, W.listOf cvs.toArray nc) :: own) →
      wpAny (model PySem.Challenge.rw_yi0010_01.row.prog w) (lawA L fa cd) (execs (rest) (lawEnv L fa cd)) Q (fun _ _ => False) { s with heap := h', toks := tk' }) :
    wpAny (model PySem.Challenge.rw_yi0010_01.row.prog w) (lawA L fa cd) (execs (seg 22 1 rest) (lawEnv L fa cd)) Q (fun _ _ => False) s := by
  w_on
  k_with_none
  k_with "mem" => assumption
  k_with "compareOp NotEq ref ref" => (k_here; k_dflt (refine' ne_news ?N ?i ?j ?hi ?hj ?e ?hu ?_; (case N => k_asm); (case i => k_mem); (case j => k_mem); (case hi => assumption); (case hj => assumption); (case e => first | with_reducible rfl | assumption); (case hu => ke_room)); (try dsimp only))
  k_with "compareOp Eq ref ref" => (k_here; k_dflt (refine' eq_news ?N ?i ?j ?hi ?hj ?e ?hu ?_; (case N => k_asm); (case i => k_mem); (case j => k_mem); (case hi => assumption); (case hj => assumption); (case e => first | with_reducible rfl | assumption); (case hu => ke_room)); (try dsimp only))
  revert X
  k_fill
  intro X
  have F0 : Fr h₀ L s.heap (kstB m [(nm "many", .int 256 tm), (nm "given", .ref cc), (nm "g", .ref xg), (nm "want", .ref ol)]) := fr_kst F (by intro p hp; simp only [List.mem_cons, List.not_mem_nil, or_false] at hp; rcases hp with rfl | rfl | rfl | rfl <;> assumption)
  clear F
  dsimp only [seg, lawBody, lawA, lawEnv, lawScope, fnBody, fnScope, PySem.Challenge.pw_yi0010_01, List.getLast?, List.getLast, List.drop, List.take, List.cons_append, List.nil_append, ringD, polyD, nm] at *
  w_strict (repeat ((fail_if_success (with_reducible show wpAny _ _ (execs rest _) _ _ _)); (first | (k_unfold; (try dsimp only)) | (k_unmd; k_unfold; (try dsimp only)) | (k_end; wrow_close) | walk1 | (dsimp only; walk1) | (leave1; walk_say "STEP leave1"; (try dsimp only)) | fail "no step")))
  exact hret _ _ _ F0 (fun z => kstB_eq (by intro p hp; simp only [List.mem_cons, List.not_mem_nil, or_false] at hp; rcases hp with rfl | rfl | rfl | rfl <;> assumption) fun _ => rfl) (by assumption)
set_option maxHeartbeats 2000000 in
theorem s11f {cc xr xf df xg dg ol : Addr} {tm t1 t2 t3 t4 : Tok} {nc nf ng no : Nat} {cvs ovs : List Value} {xs : List Int} {own : List (Addr × Obj)}
    (K0 : Below callerA h₀ [] h₀) (X : (hd.heap_39 w.params).In h₀) (T : Top hd.view_39 (looseW hd.view_39 loo) mean mg mb h₀) (F : Fr h₀ L s.heap m)
    (m0 : m (nm "many") = some (.int 256 tm)) (m1 : m (nm "given") = some (.ref cc)) (m3 : m (nm "g") = some (.ref xg)) (mo : m (nm "after") = some (.ref ol)) (io : (ol, W.listOf ovs.toArray no) ∈ own) (ho : IntsAre ovs xs)
    (N : News h₀ L s.heap ((cc, W.listOf cvs.toArray nc) :: own))
    (i5 : (xg, instObj 344 dg) ∈ own) (i6 : (dg, polyD w xr cc t3 t4 ng) ∈ own) (hc : IntsAre cvs xs)
    (hret : ∀ (h' : Heap) (tk' : Nat) (m' : PySem.Str → Option Value), Fr h₀ L h' m' → (∀ z, m' z = m z) → News h₀ L h' ((cc, W.listOf cvs.toArray nc) :: own) →
      wpAny (model PySem.Challenge.rw_yi0010_01.row.prog w) (lawA L fa cd) (execs (rest) (lawEnv L fa cd)) Q (fun _ _ => False) { s with heap := h', toks := tk' }) :
    wpAny (model PySem.Challenge.rw_yi0010_01.row.prog w) (lawA L fa cd) (execs (seg 25 1 rest) (lawEnv L fa cd)) Q (fun _ _ => False) s := by
  w_on
  k_with_none
  k_with "mem" => assumption
  k_with "compareOp NotEq ref ref" => (k_here; k_dflt (refine' ne_news ?N ?i ?j ?hi ?hj ?e ?hu ?_; (case N => k_asm); (case i => k_mem); (case j => k_mem); (case hi => assumption); (case hj => assumption); (case e => first | with_reducible rfl | assumption); (case hu => ke_room)); (try dsimp only))
  k_with "compareOp Eq ref ref" => (k_here; k_dflt (refine' eq_news ?N ?i ?j ?hi ?hj ?e ?hu ?_; (case N => k_asm); (case i => k_mem); (case j => k_mem); (case hi => assumption); (case hj => assumption); (case e => first | with_reducible rfl | assumption); (case hu => ke_room)); (try dsimp only))
  revert X
  k_fill
  intro X
  have F0 : Fr h₀ L s.heap (kstB m [(nm "many", .int 256 tm), (nm "given", .ref cc), (nm "g", .ref xg), (nm "after", .ref ol)]) := fr_kst F (by intro p hp; simp only [List.mem_cons, List.not_mem_nil, or_false] at hp; rcases hp with rfl | rfl | rfl | rfl <;> assumption)
  clear F
  dsimp only [seg, lawBody, lawA, lawEnv, lawScope, fnBody, fnScope, PySem.Challenge.pw_yi0010_01, List.getLast?, List.getLast, List.drop, List.take, List.cons_append, List.nil_append, ringD, polyD, nm] at *
  w_strict (repeat ((fail_if_success (with_reducible show wpAny _ _ (execs rest _) _ _ _)); (first | (k_unfold; (try dsimp only)) | (k_unmd; k_unfold; (try dsimp only)) | (k_end; wrow_close) | walk1 | (dsimp only; walk1) | (leave1; walk_say "STEP leave1"; (try dsimp only)) | fail "no step")))
  exact hret _ _ _ F0 (fun z => kstB_eq (by intro p hp; simp only [List.mem_cons, List.not_mem_nil, or_false] at hp; rcases hp with rfl | rfl | rfl | rfl <;> assumption) fun _ => rfl) (by assumption)
end
end
section
open PySem PySem.W PyProof.Rows
set_option maxRecDepth 100000
section
variable {w : World} {mean : ExcName → Option Value} {mg mb : PySem.Str → Option Value} {h₀ : Heap} {L fa : Addr} {cd : Value} {m : PySem.Str → Option Value} {s : Shared} {Q : Flow → Shared → Prop} {rest : List Stmt}
set_option maxHeartbeats 2000000 in
theorem s5s {xr xg dg gl kl sl cg : Addr} {tm t3 t4 : Tok} {ng n1 n2 n3 n4 : Nat} {M : Int} {gvs kvs svs cgs : List Value} {gs st : List Int} {own : List (Addr × Obj)}
    (K0 : Below callerA h₀ [] h₀) (X : (hd.heap_39 w.params).In h₀) (T : Top hd.view_39 (looseW hd.view_39 loo) mean mg mb h₀) (F : Fr h₀ L s.heap m)
    (m0 : m (nm "many") = some (.int M tm)) (m1 : m (nm "given") = some (.ref gl)) (m2 : m (nm "kept") = some (.ref kl)) (m3 : m (nm "g") = some (.ref xg)) (m4 : m (nm "start") = some (.ref sl)) (hM : M < 256)
    (N : News h₀ L s.heap own) (i1 : (gl, W.listOf gvs.toArray n1) ∈ own) (i2 : (kl, W.listOf kvs.toArray n2) ∈ own) (i3 : (sl, W.listOf svs.toArray n3) ∈ own) (i4 : (cg, W.listOf cgs.toArray n4) ∈ own)
    (i5 : (xg, instObj 344 dg) ∈ own) (i6 : (dg, polyD w xr cg t3 t4 ng) ∈ own) (h1 : IntsAre gvs gs) (h2 : IntsAre kvs gs) (h3 : IntsAre svs st) (h4 : IntsAre cgs st)
    (hret : ∀ (h' : Heap) (tk' : Nat) (m' : PySem.Str → Option Value), Fr h₀ L h' m' → (∀ z, m' z = m z) → News h₀ L h' own →
      wpAny (model PySem.Challenge.rw_yi0010_01.row.prog w) (lawA L fa cd) (execs (rest) (lawEnv L fa cd)) Q (fun _ _ => False) { s with heap := h', toks := tk' }) :
    wpAny (model PySem.Challenge.rw_yi0010_01.row.prog w) (lawA L fa cd) (execs (seg 18 1 rest) (lawEnv L fa cd)) Q (fun _ _ => False) s := by
  w_on
  k_with_none
  k_with "mem" => assumption
  k_with "compareOp NotEq ref ref" => (k_here; k_dflt (refine' ne_news ?N ?i ?j ?hi ?hj ?e ?hu ?_; (case N => k_asm); (case i => k_mem); (case j => k_mem); (case hi => assumption); (case hj => assumption); (case e => first | with_reducible rfl | assumption); (case hu => ke_room)); (try dsimp only))
  k_with "compareOp Eq ref ref" => (k_here; k_dflt (refine' eq_news ?N ?i ?j ?hi ?hj ?e ?hu ?_; (case N => k_asm); (case i => k_mem); (case j => k_mem); (case hi => assumption); (case hj => assumption); (case e => first | with_reducible rfl | assumption); (case hu => ke_room)); (try dsimp only))
  revert X
  k_fill
  intro X
  have F0 : Fr h₀ L s.heap (kstB m [(nm "many", .int M tm), (nm "given", .ref gl), (nm "kept", .ref kl), (nm "g", .ref xg), (nm "start", .ref sl)]) := fr_kst F (by intro p hp; simp only [List.mem_cons, List.not_mem_nil, or_false] at hp; rcases hp with rfl | rfl | rfl | rfl | rfl <;> assumption)
  clear F
  dsimp only [seg, lawBody, lawA, lawEnv, lawScope, fnBody, fnScope, PySem.Challenge.pw_yi0010_01, List.getLast?, List.getLast, List.drop, List.take, List.cons_append, List.nil_append, ringD, polyD, nm] at *
  w_strict (repeat ((fail_if_success (with_reducible show wpAny _ _ (execs rest _) _ _ _)); (first | (k_unfold; (try dsimp only)) | (k_unmd; k_unfold; (try dsimp only)) | (k_end; wrow_close) | walk1 | (dsimp only; walk1) | (leave1; walk_say "STEP leave1"; (try dsimp only)) | fail "no step")))
  · exfalso; omega
  w_strict (repeat ((fail_if_success (with_reducible show wpAny _ _ (execs rest _) _ _ _)); (first | (k_unfold; (try dsimp only)) | (k_unmd; k_unfold; (try dsimp only)) | (k_end; wrow_close) | walk1 | (dsimp only; walk1) | (leave1; walk_say "STEP leave1"; (try dsimp only)) | fail "no step")))
  exact hret _ _ _ F0 (fun z => kstB_eq (by intro p hp; simp only [List.mem_cons, List.not_mem_nil, or_false] at hp; rcases hp with rfl | rfl | rfl | rfl | rfl <;> assumption) fun _ => rfl) (by assumption)
set_option maxHeartbeats 2000000 in
theorem s8s {xr xg dg gl kl sl cg : Addr} {tm t3 t4 : Tok} {ng n1 n2 n3 n4 : Nat} {M : Int} {gvs kvs svs cgs : List Value} {gs st : List Int} {own : List (Addr × Obj)}
    (K0 : Below callerA h₀ [] h₀) (X : (hd.heap_39 w.params).In h₀) (T : Top hd.view_39 (looseW hd.view_39 loo) mean mg mb h₀) (F : Fr h₀ L s.heap m)
    (m0 : m (nm "many") = some (.int M tm)) (m1 : m (nm "given") = some (.ref gl)) (m2 : m (nm "kept") = some (.ref kl)) (m3 : m (nm "g") = some (.ref xg)) (m4 : m (nm "start") = some (.ref sl)) (hM : M < 256)
    (N : News h₀ L s.heap own) (i1 : (gl, W.listOf gvs.toArray n1) ∈ own) (i2 : (kl, W.listOf kvs.toArray n2) ∈ own) (i3 : (sl, W.listOf svs.toArray n3) ∈ own) (i4 : (cg, W.listOf cgs.toArray n4) ∈ own)
    (i5 : (xg, instObj 344 dg) ∈ own) (i6 : (dg, polyD w xr cg t3 t4 ng) ∈ own) (h1 : IntsAre gvs gs) (h2 : IntsAre kvs gs) (h3 : IntsAre svs st) (h4 : IntsAre cgs st)
    (hret : ∀ (h' : Heap) (tk' : Nat) (m' : PySem.Str → Option Value), Fr h₀ L h' m' → (∀ z, m' z = m z) → News h₀ L h' own →
      wpAny (model PySem.Challenge.rw_yi0010_01.row.prog w) (lawA L fa cd) (execs (rest) (lawEnv L fa cd)) Q (fun _ _ => False) { s with heap := h', toks := tk' }) :
    wpAny (model PySem.Challenge.rw_yi0010_01.row.prog w) (lawA L fa cd) (execs (seg 22 1 rest) (lawEnv L fa cd)) Q (fun _ _ => False) s := by
  w_on
  k_with_none
  k_with "mem" => assumption
  k_with "compareOp NotEq ref ref" => (k_here; k_dflt (refine' ne_news ?N ?i ?j ?hi ?hj ?e ?hu ?_; (case N => k_asm); (case i => k_mem); (case j => k_mem); (case hi => assumption); (case hj => assumption); (case e => first | with_reducible rfl | assumption); (case hu => ke_room)); (try dsimp only))
  k_with "compareOp Eq ref ref" => (k_here; k_dflt (refine' eq_news ?N ?i ?j ?hi ?hj ?e ?hu ?_; (case N => k_asm); (case i => k_mem); (case j => k_mem); (case hi => assumption); (case hj => assumption); (case e => first | with_reducible rfl | assumption); (case hu => ke_room)); (try dsimp only))
  revert X
  k_fill
  intro X
  have F0 : Fr h₀ L s.heap (kstB m [(nm "many", .int M tm), (nm "given", .ref gl), (nm "kept", .ref kl), (nm "g", .ref xg), (nm "start", .ref sl)]) := fr_kst F (by intro p hp; simp only [List.mem_cons, List.not_mem_nil, or_false] at hp; rcases hp with rfl | rfl | rfl | rfl | rfl <;> assumption)
  clear F
  dsimp only [seg, lawBody, lawA, lawEnv, lawScope, fnBody, fnScope, PySem.Challenge.pw_yi0010_01, List.getLast?, List.getLast, List.drop, List.take, List.cons_append, List.nil_append, ringD, polyD, nm] at *
  w_strict (repeat ((fail_if_success (with_reducible show wpAny _ _ (execs rest _) _ _ _)); (first | (k_unfold; (try dsimp only)) | (k_unmd; k_unfold; (try dsimp only)) | (k_end; wrow_close) | walk1 | (dsimp only; walk1) | (leave1; walk_say "STEP leave1"; (try dsimp only)) | fail "no step")))
  · exfalso; omega
  w_strict (repeat ((fail_if_success (with_reducible show wpAny _ _ (execs rest _) _ _ _)); (first | (k_unfold; (try dsimp only)) | (k_unmd; k_unfold; (try dsimp only)) | (k_end; wrow_close) | walk1 | (dsimp only; walk1) | (leave1; walk_say "STEP leave1"; (try dsimp only)) | fail "no step")))
  exact hret _ _ _ F0 (fun z => kstB_eq (by intro p hp; simp only [List.mem_cons, List.not_mem_nil, or_false] at hp; rcases hp with rfl | rfl | rfl | rfl | rfl <;> assumption) fun _ => rfl) (by assumption)
set_option maxHeartbeats 2000000 in
theorem s11s {xr xg dg gl kl sl cg : Addr} {tm t3 t4 : Tok} {ng n1 n2 n3 n4 : Nat} {M : Int} {gvs kvs svs cgs : List Value} {gs st : List Int} {own : List (Addr × Obj)}
    (K0 : Below callerA h₀ [] h₀) (X : (hd.heap_39 w.params).In h₀) (T : Top hd.view_39 (looseW hd.view_39 loo) mean mg mb h₀) (F : Fr h₀ L s.heap m)
    (m0 : m (nm "many") = some (.int M tm)) (m1 : m (nm "given") = some (.ref gl)) (m2 : m (nm "kept") = some (.ref kl)) (m3 : m (nm "g") = some (.ref xg)) (m4 : m (nm "start") = some (.ref sl)) (hM : M < 256)
    (N : News h₀ L s.heap own) (i1 : (gl, W.listOf gvs.toArray n1) ∈ own) (i2 : (kl, W.listOf kvs.toArray n2) ∈ own) (i3 : (sl, W.listOf svs.toArray n3) ∈ own) (i4 : (cg, W.listOf cgs.toArray n4) ∈ own)
    (i5 : (xg, instObj 344 dg) ∈ own) (i6 : (dg, polyD w xr cg t3 t4 ng) ∈ own) (h1 : IntsAre gvs gs) (h2 : IntsAre kvs gs) (h3 : IntsAre svs st) (h4 : IntsAre cgs st)
    (hret : ∀ (h' : Heap) (tk' : Nat) (m' : PySem.Str → Option Value), Fr h₀ L h' m' → (∀ z, m' z = m z) → News h₀ L h' own →
      wpAny (model PySem.Challenge.rw_yi0010_01.row.prog w) (lawA L fa cd) (execs (rest) (lawEnv L fa cd)) Q (fun _ _ => False) { s with heap := h', toks := tk' }) :
    wpAny (model PySem.Challenge.rw_yi0010_01.row.prog w) (lawA L fa cd) (execs (seg 25 1 rest) (lawEnv L fa cd)) Q (fun _ _ => False) s := by
  w_on
  k_with_none
  k_with "mem" => assumption
  k_with "compareOp NotEq ref ref" => (k_here; k_dflt (refine' ne_news ?N ?i ?j ?hi ?hj ?e ?hu ?_; (case N => k_asm); (case i => k_mem); (case j => k_mem); (case hi => assumption); (case hj => assumption); (case e => first | with_reducible rfl | assumption); (case hu => ke_room)); (try dsimp only))
  k_with "compareOp Eq ref ref" => (k_here; k_dflt (refine' eq_news ?N ?i ?j ?hi ?hj ?e ?hu ?_; (case N => k_asm); (case i => k_mem); (case j => k_mem); (case hi => assumption); (case hj => assumption); (case e => first | with_reducible rfl | assumption); (case hu => ke_room)); (try dsimp only))
  revert X
  k_fill
  intro X
  have F0 : Fr h₀ L s.heap (kstB m [(nm "many", .int M tm), (nm "given", .ref gl), (nm "kept", .ref kl), (nm "g", .ref xg), (nm "start", .ref sl)]) := fr_kst F (by intro p hp; simp only [List.mem_cons, List.not_mem_nil, or_false] at hp; rcases hp with rfl | rfl | rfl | rfl | rfl <;> assumption)
  clear F
  dsimp only [seg, lawBody, lawA, lawEnv, lawScope, fnBody, fnScope, PySem.Challenge.pw_yi0010_01, List.getLast?, List.getLast, List.drop, List.take, List.cons_append, List.nil_append, ringD, polyD, nm] at *
  w_strict (repeat ((fail_if_success (with_reducible show wpAny _ _ (execs rest _) _ _ _)); (first | (k_unfold; (try dsimp only)) | (k_unmd; k_unfold; (try dsimp only)) | (k_end; wrow_close) | walk1 | (dsimp only; walk1) | (leave1; walk_say "STEP leave1"; (try dsimp only)) | fail "no step")))
  · exfalso; omega
  w_strict (repeat ((fail_if_success (with_reducible show wpAny _ _ (execs rest _) _ _ _)); (first | (k_unfold; (try dsimp only)) | (k_unmd; k_unfold; (try dsimp only)) | (k_end; wrow_close) | walk1 | (dsimp only; walk1) | (leave1; walk_say "STEP leave1"; (try dsimp only)) | fail "no step")))
  exact hret _ _ _ F0 (fun z => kstB_eq (by intro p hp; simp only [List.mem_cons, List.not_mem_nil, or_false] at hp; rcases hp with rfl | rfl | rfl | rfl | rfl <;> assumption) fun _ => rfl) (by assumption)
end
end
section
open PySem PySem.W PyProof.Rows
set_option maxRecDepth 100000
section
variable {w : World} {mean : ExcName → Option Value} {mg mb : PySem.Str → Option Value} {h₀ : Heap} {L fa : Addr} {cd : Value} {m : PySem.Str → Option Value} {s : Shared} {Q : Flow → Shared → Prop} {rest : List Stmt}
set_option maxHeartbeats 2000000 in
theorem s6 {cc hl xr dr zz : Addr} {t3 t4 t5 t6 t7 t8 t9 : Tok} {nr nc nz nl deep : Nat} {cvs zvs : List Value} {xs : List Int} {hs : List Addr} {own : List (Addr × Obj)}
    (K0 : Below callerA h₀ [] h₀) (X : (hd.heap_39 w.params).In h₀) (T : Top hd.view_39 (looseW hd.view_39 loo) mean mg mb h₀) (F : Fr h₀ L s.heap m)
    (m1 : m (nm "handles") = some (.ref hl)) (hd1 : 1 ≤ deep) (hd3 : Le3 deep) (hhs : hs.length = deep)
    (N : News h₀ L s.heap ((cc, W.listOf cvs.toArray nc) :: own)) (hoff : ∀ p ∈ own, p.1 ≠ cc) (i1 : (hl, W.listOf (hs.map Value.ref).toArray nl) ∈ own) (i2 : ∀ x ∈ hs, HasPoly w 420 xr cc own x)
    (i3 : (xr, instObj 280 dr) ∈ own) (i4 : (dr, ringD w zz t3 t4 t5 t6 t7 t8 t9 nr) ∈ own) (i5 : (zz, W.listOf zvs.toArray nz) ∈ own) (hz : IntsAre zvs ((rangeKs 0 128).map zeta)) (hc : IntsAre cvs xs) (hx : xs.length = 256)
    (hret : ∀ (h' : Heap) (tk' : Nat) (m' : PySem.Str → Option Value) (hb : Addr) (nb : Nat) (vs : List Value) (bs : List Addr) (own' : List (Addr × Obj)), Fr h₀ L h' m' → m' (nm "backs") = some (.ref hb) → (∀ z, z ∉ [nm "backs", nm "h"] → m' z = m z) → IntsAre vs (times (ofN zeta) deep xs) → bs.length = deep →
      (∀ x ∈ bs, HasPoly w 344 xr cc own' x) → (hb, W.listOf (bs.map Value.ref).toArray nb) ∈ own' → (∀ p ∈ own, p ∈ own') → (∀ p ∈ own', p.1 ≠ cc) → News h₀ L h' ((cc, W.listOf vs.toArray nc) :: own') →
      wpAny (model PySem.Challenge.rw_yi0010_01.row.prog w) (lawA L fa cd) (execs (rest) (lawEnv L fa cd)) Q (fun _ _ => False) { s with heap := h', toks := tk' }) :
    wpAny (model PySem.Challenge.rw_yi0010_01.row.prog w) (lawA L fa cd) (execs (seg 19 2 rest) (lawEnv L fa cd)) Q (fun _ _ => False) s := by
  w_on
  k_with_none
  k_with "all" => assumption
  k_with "mem" => assumption
  k_with "call builtin:list.append" => (k_here; k_dflt (refine' append_K ?k1 ?k2 ?k3 ?_ ?z; (case k1 => k_asm); (case k2 => k_asm); (case k3 => k_upd); (case z => (simp only [List.size_toArray, sizeLine_eq]; omega)); k_whole); intro h'w9 F'w9 N'w9)
  k_with "call ref" => (k_here; (k_dflt (refine' from_ntt_led ?B ?F ?X ?T ?hk ?N ?m2 ?m3 ?m4 ?m5 ?m1 ?hzc ?U ?hz ?hc ?hx ?hdp ?hun ?_; (case B => assumption); (case F => k_asm); (case X => assumption); (case T => assumption); (case hk => exact rfl); (case N => k_asm); (case m2 => k_mem); (case m3 => k_mem); (case m4 => k_mem); (case m5 => k_mem); (case m1 => k_mem); (case hzc => assumption); (case U => (intro t'w9; k_upd)); (case hz => assumption); (case hc => assumption); (case hx => assumption); (case hdp => decide); (case hun => decide))); intro vs'w9 x'w9 d'w9 u1w9 u2w9 h'w9 tk'w9 hv'w9 hl'w9 F'w9 l1w9 l2w9 N'w9; (try dsimp only at N'w9); (try k_lt l1w9); (try k_lt2 l2w9))
  revert X
  k_fill
  intro X
  have F0 : Fr h₀ L s.heap (kstB m [(nm "handles", .ref hl)]) := fr_kst F (by intro p hp; simp only [List.mem_cons, List.not_mem_nil, or_false] at hp; rcases hp with rfl <;> assumption)
  clear F
  dsimp only [seg, lawBody, lawA, lawEnv, lawScope, fnBody, fnScope, PySem.Challenge.pw_yi0010_01, List.getLast?, List.getLast, List.drop, List.take, List.cons_append, List.nil_append, ringD, polyD, nm] at *
  w_strict (repeat ((fail_if_success (with_reducible show wpAny _ _ (pyIter _) _ _ _)); (first | (k_unfold; (try dsimp only)) | (k_unmd; k_unfold; (try dsimp only)) | (k_end; wrow_close) | walk1 | (dsimp only; walk1) | (leave1; walk_say "STEP leave1"; (try dsimp only)) | fail "no step")))
  (with_reducible rename Fr _ _ _ _ => F1); (with_reducible rename News _ _ _ _ => N1); (with_reducible rename cc < _ ∧ AllLt _ own => l9)
  obtain ⟨hb, ehb, l8⟩ := name_lt l9
  subst ehb
  have hvl : (hs.map Value.ref).length = deep := by rw [List.length_map, hhs]
  refine grow_list (vs := hs.map Value.ref) (nn := nl) (ledH cc hb nc own) (PH w 344 xr cc hb (ofN zeta) xs) ⟨cvs, [], 0, []⟩ rfl (fun c => .tail _ (.tail _ (List.mem_append.mpr (.inr i1)))) F1 (news_swap N1) ?hP ?turn ?done
  case hP => exact ⟨by assumption, rfl, fun _ h => (nomatch h), fun _ h => (nomatch h), fun _ h => (nomatch h)⟩
  case turn =>
    rintro I ⟨vs, bs, nb, objs⟩ i v h2 tk2 oI hi ⟨hv, hl, hall, ho1, ho2⟩ hoI F2 N2
    dsimp only [ledH] at hv hl hall ho1 ho2 hoI F2 N2 ⊢
    clear F1 N1
    rw [List.getElem?_map] at hi
    obtain ⟨x, hxi, rfl⟩ := Option.map_eq_some_iff.mp hi
    have hxm : x ∈ hs := List.mem_of_getElem? hxi
    have hil : i < deep := by rw [← hhs]; exact (List.getElem?_eq_some_iff.mp hxi).1
    obtain ⟨dx, u1, u2, nx, k1, k2⟩ := i2 x hxm
    obtain ⟨r2, hr2⟩ : ∃ o, o = objs ++ own := ⟨_, rfl⟩
    have up : ∀ p ∈ own, p ∈ r2 := by rw [hr2]; exact fun p hp => List.mem_append.mpr (.inr hp)
    have j1 := up _ k1
    have j2 := up _ k2
    have j3 := up _ i3
    have j4 := up _ i4
    have j5 := up _ i5
    have oc : ∀ p ∈ r2, p.1 ≠ cc := by rw [hr2]; exact fun p hp => (List.mem_append.mp hp).elim (ho1 p) (hoff p)
    have oh : ∀ p ∈ r2, p.1 ≠ hb := by rw [hr2]; exact fun p hp => (List.mem_append.mp hp).elim (ho2 p) (fun h => Nat.ne_of_lt (allLt_mem l8.2 p h))
    have qc : @Ne Nat cc I := hoI _ (.head _)
    have qh : @Ne Nat hb I := hoI _ (.tail _ (.head _))
    have hzc : zz ≠ cc := oc _ j5
    rw [← hr2] at N2
    have hx1 : (times (ofN zeta) i xs).length = 256 := by rw [times_len (ofN_len zeta), hx]
    obtain ⟨ys, hys⟩ : ∃ o, o = times (ofN zeta) i xs := ⟨_, rfl⟩
    rw [← hys] at hv hx1
    obtain ⟨rs, hrs⟩ : ∃ o, o = bs.map Value.ref := ⟨_, rfl⟩
    rw [← hrs] at N2
    have hrl : rs.length ≤ 3 := by rw [hrs, List.length_map]; unfold Le3 at hd3; omega
    dsimp only [polyD] at j2
    clear i2 k1 k2
    w_strict (repeat ((fail_if_success (with_reducible show wpAny _ _ (GrowPost _ _ _ _ _ _ _ _ _ _ _ _) _ _ _)); (first | (k_unfold; (try dsimp only)) | (k_unmd; k_unfold; (try dsimp only)) | (k_end; wrow_close) | walk1 | (dsimp only; walk1) | (leave1; walk_say "STEP leave1"; (try dsimp only)) | fail "no step")))
    (with_reducible rename Fr _ _ _ _ => F9); (with_reducible rename News _ _ _ _ => N9)
    refine h_turn F9 N9 (by assumption) hys hrs hr2 hl hall ho1 ho2 (by assumption) (by assumption) qc qh ?_ ?_
    · rw [hr2]; exact fun p hp => hoI p (.tail _ (.tail _ hp))
    · intro z hz
      show (if z = _ then _ else _) = _
      rw [if_neg hz]
  case done =>
    rintro ⟨vs, bs, nb, objs⟩ m' h3 tk3 ⟨hv, hl, hall, ho1, ho2⟩ F3 hm N3
    dsimp only [ledH] at hv hl hall ho1 ho2 N3
    rw [hvl] at hv hl
    refine hret h3 tk3 m' hb nb vs bs ((hb, W.listOf (bs.map Value.ref).toArray nb) :: (objs ++ own)) F3 ((hm _ (by decide)).trans rfl) ?_ hv hl ?_ (.head _) ?_ ?_ N3
    · intro z hz
      simp only [List.mem_cons, List.not_mem_nil, or_false, not_or] at hz
      rw [hm z hz.2, if_neg hz.1]
      exact kstB_eq (by intro p hp; simp only [List.mem_cons, List.not_mem_nil, or_false] at hp; rcases hp with rfl; assumption) fun _ => rfl
    · exact fun x hx => (hall x hx).mono fun p hp => .tail _ (List.mem_append.mpr (.inl hp))
    · exact fun p hp => .tail _ (List.mem_append.mpr (.inr hp))
    · intro p hp
      rcases List.mem_cons.mp hp with rfl | hp
      · exact Nat.ne_of_gt l8.1
      · exact (List.mem_append.mp hp).elim (ho1 p) (hoff p)
end
end
section
open PySem PySem.W PyProof.Rows
set_option maxRecDepth 100000
section
variable {w : World} {mean : ExcName → Option Value} {mg mb : PySem.Str → Option Value} {h₀ : Heap} {L fa : Addr} {cd : Value} {m : PySem.Str → Option Value} {s : Shared} {Q : Flow → Shared → Prop} {rest : List Stmt}
set_option maxHeartbeats 2000000 in
theorem s7 {cc hl bl wl xr xf df : Addr} {t1 t2 : Tok} {nc nl nb nw nf : Nat} {cvs wvs : List Value} {xs : List Int} {hs bs : List Addr} {own : List (Addr × Obj)}
    (K0 : Below callerA h₀ [] h₀) (X : (hd.heap_39 w.params).In h₀) (T : Top hd.view_39 (looseW hd.view_39 loo) mean mg mb h₀) (F : Fr h₀ L s.heap m)
    (m1 : m (nm "handles") = some (.ref hl)) (m2 : m (nm "f") = some (.ref xf)) (m3 : m (nm "backs") = some (.ref bl)) (m4 : m (nm "want") = some (.ref wl))
    (N : News h₀ L s.heap ((cc, W.listOf cvs.toArray nc) :: own)) (i1 : (hl, W.listOf (hs.map Value.ref).toArray nl) ∈ own) (i2 : ∀ x ∈ hs, HasPoly w 420 xr cc own x)
    (i5 : (bl, W.listOf (bs.map Value.ref).toArray nb) ∈ own) (i6 : ∀ x ∈ bs, HasPoly w 344 xr cc own x) (hh3 : hs.length ≤ 3) (hb3 : bs.length ≤ 3)
    (i3 : (xf, instObj 344 df) ∈ own) (i4 : (df, polyD w xr cc t1 t2 nf) ∈ own) (i7 : (wl, W.listOf wvs.toArray nw) ∈ own) (hc : IntsAre cvs xs) (hw : IntsAre wvs xs)
    (hret : ∀ (h' : Heap) (tk' : Nat) (m' : PySem.Str → Option Value), Fr h₀ L h' m' → (∀ z, z ∉ [nm "p"] → m' z = m z) → News h₀ L h' ((cc, W.listOf cvs.toArray nc) :: own) →
      wpAny (model PySem.Challenge.rw_yi0010_01.row.prog w) (lawA L fa cd) (execs (rest) (lawEnv L fa cd)) Q (fun _ _ => False) { s with heap := h', toks := tk' }) :
    wpAny (model PySem.Challenge.rw_yi0010_01.row.prog w) (lawA L fa cd) (execs (seg 21 1 rest) (lawEnv L fa cd)) Q (fun _ _ => False) s := by
  obtain ⟨hv, hhv⟩ : ∃ o, o = hs.map Value.ref := ⟨_, rfl⟩
  obtain ⟨bv, hbv⟩ : ∃ o, o = bs.map Value.ref := ⟨_, rfl⟩
  rw [← hhv] at i1
  rw [← hbv] at i5
  have hhl : hv.length ≤ 3 := by rw [hhv, List.length_map]; exact hh3
  have hbl : bv.length ≤ 3 := by rw [hbv, List.length_map]; exact hb3
  w_on
  k_with_none
  k_with "mem" => assumption
  k_with "compareOp NotEq ref ref" => (k_here; k_dflt (refine' ne_news ?N ?i ?j ?hi ?hj ?e ?hu ?_; (case N => k_asm); (case i => k_mem); (case j => k_mem); (case hi => assumption); (case hj => assumption); (case e => first | with_reducible rfl | assumption); (case hu => ke_room)); (try dsimp only))
  k_with "compareOp Eq ref ref" => (k_here; k_dflt (refine' eq_news ?N ?i ?j ?hi ?hj ?e ?hu ?_; (case N => k_asm); (case i => k_mem); (case j => k_mem); (case hi => assumption); (case hj => assumption); (case e => first | with_reducible rfl | assumption); (case hu => ke_room)); (try dsimp only))
  k_with "binaryOp Add ref ref" => (k_here; k_dflt (refine' add_news ?F ?N ?i ?j ?_ ?z; (case F => k_asm); (case N => k_asm); (case i => k_mem); (case j => k_mem); (case z => (simp only [List.length_append, List.length_cons, List.length_nil, sizeLine_eq]; omega))); intro D'w9 h'w9 F'w9 N'w9 l1w9; (try k_lt l1w9))
  k_with "exec For" => (k_here; (rename Fr _ _ _ _ => lF'w9); (with_unfolding_all refine' For_invVF lF'w9 ?k1 ?k2 ?_; (case k1 => exact rfl); (case k2 => exact rfl); k_whole))
  revert X
  k_fill
  intro X
  have F0 : Fr h₀ L s.heap (kstB m [(nm "handles", .ref hl), (nm "f", .ref xf), (nm "backs", .ref bl), (nm "want", .ref wl)]) := fr_kst F (by intro p hp; simp only [List.mem_cons, List.not_mem_nil, or_false] at hp; rcases hp with rfl | rfl | rfl | rfl <;> assumption)
  clear F
  dsimp only [seg, lawBody, lawA, lawEnv, lawScope, fnBody, fnScope, PySem.Challenge.pw_yi0010_01, List.getLast?, List.getLast, List.drop, List.take, List.cons_append, List.nil_append, ringD, polyD, nm] at *
  w_strict (repeat ((fail_if_success (with_reducible show wpAny _ _ (pyIter _) _ _ _)); (first | (k_unfold; (try dsimp only)) | (k_unmd; k_unfold; (try dsimp only)) | (k_end; wrow_close) | walk1 | (dsimp only; walk1) | (leave1; walk_say "STEP leave1"; (try dsimp only)) | fail "no step")))
  (with_reducible rename Fr _ _ _ _ => F1); (with_reducible rename News _ _ _ _ => N1)
  have hall : ∀ v ∈ [Value.ref xf] ++ hv ++ bv, ∃ x, v = Value.ref x ∧ (HasPoly w 344 xr cc own x ∨ HasPoly w 420 xr cc own x) := by
    intro v hv1
    rcases List.mem_append.mp hv1 with hv1 | hv1
    · rcases List.mem_append.mp hv1 with hv1 | hv1
      · exact ⟨xf, List.mem_singleton.mp hv1, .inl ⟨df, t1, t2, nf, i3, i4⟩⟩
      · rw [hhv] at hv1
        obtain ⟨x, hx, rfl⟩ := List.mem_map.mp hv1
        exact ⟨x, rfl, .inr (i2 x hx)⟩
    · rw [hbv] at hv1
      obtain ⟨x, hx, rfl⟩ := List.mem_map.mp hv1
      exact ⟨x, rfl, .inl (i6 x hx)⟩
  clear i2 i6
  refine for_search (vs := [Value.ref xf] ++ hv ++ bv) (nn := 0) rfl (.head _) F1 (news_drop2 N1) ?turn ?done
  case turn =>
    rintro I v h2 tk2 oI hi hoI F2 N2
    clear F1 N1
    obtain ⟨x, rfl, ⟨dx, u1, u2, nx, k1, k2⟩ | ⟨dx, u1, u2, nx, k1, k2⟩⟩ := hall v hi
    all_goals
      dsimp only [polyD] at k2
      clear hall
      w_strict (repeat ((fail_if_success (with_reducible show wpAny _ _ (GrowPost _ _ _ _ _ _ _ _ _ _ _ _) _ _ _)); (first | (k_unfold; (try dsimp only)) | (k_unmd; k_unfold; (try dsimp only)) | (k_end; wrow_close) | walk1 | (dsimp only; walk1) | (leave1; walk_say "STEP leave1"; (try dsimp only)) | fail "no step")))
      (with_reducible rename Fr _ _ _ _ => F9); (with_reducible rename News _ _ _ _ => N9)
      refine grow_end () F9 N9 hoI ?_ trivial
      intro z hz
      rw [if_neg hz]
  case done =>
    rintro m' h3 tk3 F3 hm N3
    refine hret h3 tk3 m' F3 ?_ (news_tail N3)
    intro z hz
    simp only [List.mem_cons, List.not_mem_nil, or_false] at hz
    rw [hm z hz]
    exact kstB_eq (by intro p hp; simp only [List.mem_cons, List.not_mem_nil, or_false] at hp; rcases hp with rfl | rfl | rfl | rfl <;> assumption) fun _ => rfl
end
end
section
open PySem PySem.W PyProof.Rows
set_option maxRecDepth 100000
section
variable {w : World} {mean : ExcName → Option Value} {mg mb : PySem.Str → Option Value} {h₀ : Heap} {L fa : Addr} {cd : Value} {m : PySem.Str → Option Value} {s : Shared} {Q : Flow → Shared → Prop} {rest : List Stmt}
set_option maxHeartbeats 2000000 in
theorem s9 {cc bl xr b0 : Addr} {tp tn : Tok} {nc nb : Nat} {pl num : Int} {cvs bv : List Value} {xs : List Int} {own : List (Addr × Obj)}
    (K0 : Below callerA h₀ [] h₀) (X : (hd.heap_39 w.params).In h₀) (T : Top hd.view_39 (looseW hd.view_39 loo) mean mg mb h₀) (F : Fr h₀ L s.heap m)
    (m1 : m (nm "backs") = some (.ref bl)) (m2 : m (nm "place") = some (.int pl tp)) (m3 : m (nm "number") = some (.int num tn)) (p0 : 0 ≤ pl) (p1 : pl < 256)
    (N : News h₀ L s.heap ((cc, W.listOf cvs.toArray nc) :: own)) (hoff : ∀ p ∈ own, p.1 ≠ cc)
    (i5 : (bl, W.listOf (Value.ref b0 :: bv).toArray nb) ∈ own) (i6 : HasPoly w 344 xr cc own b0) (hc : IntsAre cvs xs) (hx : xs.length = 256)
    (hret : ∀ (h' : Heap) (tk' : Nat) (m' : PySem.Str → Option Value) (vs : List Value), Fr h₀ L h' m' → (∀ z, m' z = m z) → IntsAre vs (xs.set pl.toNat num) → News h₀ L h' ((cc, W.listOf vs.toArray nc) :: own) →
      wpAny (model PySem.Challenge.rw_yi0010_01.row.prog w) (lawA L fa cd) (execs (rest) (lawEnv L fa cd)) Q (fun _ _ => False) { s with heap := h', toks := tk' }) :
    wpAny (model PySem.Challenge.rw_yi0010_01.row.prog w) (lawA L fa cd) (execs (seg 23 1 rest) (lawEnv L fa cd)) Q (fun _ _ => False) s := by
  obtain ⟨db, u1, u2, nx, k1, k2⟩ := i6
  w_on
  k_with_none
  k_with "mem" => assumption
  k_with "compareOp NotEq ref ref" => (k_here; k_dflt (refine' ne_news ?N ?i ?j ?hi ?hj ?e ?hu ?_; (case N => k_asm); (case i => k_mem); (case j => k_mem); (case hi => assumption); (case hj => assumption); (case e => first | with_reducible rfl | assumption); (case hu => ke_room)); (try dsimp only))
  k_with "compareOp Eq ref ref" => (k_here; k_dflt (refine' eq_news ?N ?i ?j ?hi ?hj ?e ?hu ?_; (case N => k_asm); (case i => k_mem); (case j => k_mem); (case hi => assumption); (case hj => assumption); (case e => first | with_reducible rfl | assumption); (case hu => ke_room)); (try dsimp only))
  k_with "all" => assumption
  k_with "subscriptTail" => (k_here; (with_unfolding_all refine' item_news ?N ?i ?_ ?hs; (case N => k_asm); (case i => k_mem); (case hs => with_unfolding_all rfl)); (try dsimp only))
  revert X
  k_fill
  intro X
  have F0 : Fr h₀ L s.heap (kstB m [(nm "backs", .ref bl), (nm "place", .int pl tp), (nm "number", .int num tn)]) := fr_kst F (by intro p hp; simp only [List.mem_cons, List.not_mem_nil, or_false] at hp; rcases hp with rfl | rfl | rfl <;> assumption)
  clear F
  dsimp only [seg, lawBody, lawA, lawEnv, lawScope, fnBody, fnScope, PySem.Challenge.pw_yi0010_01, List.getLast?, List.getLast, List.drop, List.take, List.cons_append, List.nil_append, ringD, polyD, nm] at *
  w_strict (repeat ((fail_if_success (with_reducible show wpAny _ _ (execs rest _) _ _ _)); (first | (k_unfold; (try dsimp only)) | (k_unmd; k_unfold; (try dsimp only)) | (k_end; wrow_close) | walk1 | (dsimp only; walk1) | (leave1; walk_say "STEP leave1"; (try dsimp only)) | fail "no step")))
  (with_reducible rename Fr _ _ _ _ => F9); (with_reducible rename News _ _ _ _ => N9)
  exact hret _ _ _ _ F9 (fun z => kstB_eq (by intro p hp; simp only [List.mem_cons, List.not_mem_nil, or_false] at hp; rcases hp with rfl | rfl | rfl <;> assumption) fun _ => rfl) (by assumption) N9
end
end
section
open PySem PySem.W PyProof.Rows
set_option maxRecDepth 100000
section
variable {w : World} {mean : ExcName → Option Value} {mg mb : PySem.Str → Option Value} {h₀ : Heap} {L fa : Addr} {cd : Value} {m : PySem.Str → Option Value} {s : Shared} {Q : Flow → Shared → Prop} {rest : List Stmt}
set_option maxHeartbeats 2000000 in
theorem s10 {cc hl bl wl xr xf df : Addr} {t1 t2 : Tok} {nc nl nb nw nf : Nat} {cvs wvs : List Value} {xs : List Int} {hs bs : List Addr} {own : List (Addr × Obj)}
    (K0 : Below callerA h₀ [] h₀) (X : (hd.heap_39 w.params).In h₀) (T : Top hd.view_39 (looseW hd.view_39 loo) mean mg mb h₀) (F : Fr h₀ L s.heap m)
    (m1 : m (nm "handles") = some (.ref hl)) (m2 : m (nm "f") = some (.ref xf)) (m3 : m (nm "backs") = some (.ref bl)) (m4 : m (nm "after") = some (.ref wl))
    (N : News h₀ L s.heap ((cc, W.listOf cvs.toArray nc) :: own)) (i1 : (hl, W.listOf (hs.map Value.ref).toArray nl) ∈ own) (i2 : ∀ x ∈ hs, HasPoly w 420 xr cc own x)
    (i5 : (bl, W.listOf (bs.map Value.ref).toArray nb) ∈ own) (i6 : ∀ x ∈ bs, HasPoly w 344 xr cc own x) (hh3 : hs.length ≤ 3) (hb3 : bs.length ≤ 3)
    (i3 : (xf, instObj 344 df) ∈ own) (i4 : (df, polyD w xr cc t1 t2 nf) ∈ own) (i7 : (wl, W.listOf wvs.toArray nw) ∈ own) (hc : IntsAre cvs xs) (hw : IntsAre wvs xs)
    (hret : ∀ (h' : Heap) (tk' : Nat) (m' : PySem.Str → Option Value), Fr h₀ L h' m' → (∀ z, z ∉ [nm "p"] → m' z = m z) → News h₀ L h' ((cc, W.listOf cvs.toArray nc) :: own) →
      wpAny (model PySem.Challenge.rw_yi0010_01.row.prog w) (lawA L fa cd) (execs (rest) (lawEnv L fa cd)) Q (fun _ _ => False) { s with heap := h', toks := tk' }) :
    wpAny (model PySem.Challenge.rw_yi0010_01.row.prog w) (lawA L fa cd) (execs (seg 24 1 rest) (lawEnv L fa cd)) Q (fun _ _ => False) s := by
  obtain ⟨hv, hhv⟩ : ∃ o, o = hs.map Value.ref := ⟨_, rfl⟩
  obtain ⟨bv, hbv⟩ : ∃ o, o = bs.map Value.ref := ⟨_, rfl⟩
  rw [← hhv] at i1
  rw [← hbv] at i5
  have hhl : hv.length ≤ 3 := by rw [hhv, List.length_map]; exact hh3
  have hbl : bv.length ≤ 3 := by rw [hbv, List.length_map]; exact hb3
  w_on
  k_with_none
  k_with "mem" => assumption
  k_with "compareOp NotEq ref ref" => (k_here; k_dflt (refine' ne_news ?N ?i ?j ?hi ?hj ?e ?hu ?_; (case N => k_asm); (case i => k_mem); (case j => k_mem); (case hi => assumption); (case hj => assumption); (case e => first | with_reducible rfl | assumption); (case hu => ke_room)); (try dsimp only))
  k_with "compareOp Eq ref ref" => (k_here; k_dflt (refine' eq_news ?N ?i ?j ?hi ?hj ?e ?hu ?_; (case N => k_asm); (case i => k_mem); (case j => k_mem); (case hi => assumption); (case hj => assumption); (case e => first | with_reducible rfl | assumption); (case hu => ke_room)); (try dsimp only))
  k_with "binaryOp Add ref ref" => (k_here; k_dflt (refine' add_news ?F ?N ?i ?j ?_ ?z; (case F => k_asm); (case N => k_asm); (case i => k_mem); (case j => k_mem); (case z => (simp only [List.length_append, List.length_cons, List.length_nil, sizeLine_eq]; omega))); intro D'w9 h'w9 F'w9 N'w9 l1w9; (try k_lt l1w9))
  k_with "exec For" => (k_here; (rename Fr _ _ _ _ => lF'w9); (with_unfolding_all refine' For_invVF lF'w9 ?k1 ?k2 ?_; (case k1 => exact rfl); (case k2 => exact rfl); k_whole))
  revert X
  k_fill
  intro X
  have F0 : Fr h₀ L s.heap (kstB m [(nm "handles", .ref hl), (nm "f", .ref xf), (nm "backs", .ref bl), (nm "after", .ref wl)]) := fr_kst F (by intro p hp; simp only [List.mem_cons, List.not_mem_nil, or_false] at hp; rcases hp with rfl | rfl | rfl | rfl <;> assumption)
  clear F
  dsimp only [seg, lawBody, lawA, lawEnv, lawScope, fnBody, fnScope, PySem.Challenge.pw_yi0010_01, List.getLast?, List.getLast, List.drop, List.take, List.cons_append, List.nil_append, ringD, polyD, nm] at *
  w_strict (repeat ((fail_if_success (with_reducible show wpAny _ _ (pyIter _) _ _ _)); (first | (k_unfold; (try dsimp only)) | (k_unmd; k_unfold; (try dsimp only)) | (k_end; wrow_close) | walk1 | (dsimp only; walk1) | (leave1; walk_say "STEP leave1"; (try dsimp only)) | fail "no step")))
  (with_reducible rename Fr _ _ _ _ => F1); (with_reducible rename News _ _ _ _ => N1)
  have hall : ∀ v ∈ [Value.ref xf] ++ hv ++ bv, ∃ x, v = Value.ref x ∧ (HasPoly w 344 xr cc own x ∨ HasPoly w 420 xr cc own x) := by
    intro v hv1
    rcases List.mem_append.mp hv1 with hv1 | hv1
    · rcases List.mem_append.mp hv1 with hv1 | hv1
      · exact ⟨xf, List.mem_singleton.mp hv1, .inl ⟨df, t1, t2, nf, i3, i4⟩⟩
      · rw [hhv] at hv1
        obtain ⟨x, hx, rfl⟩ := List.mem_map.mp hv1
        exact ⟨x, rfl, .inr (i2 x hx)⟩
    · rw [hbv] at hv1
      obtain ⟨x, hx, rfl⟩ := List.mem_map.mp hv1
      exact ⟨x, rfl, .inl (i6 x hx)⟩
  clear i2 i6
  refine for_search (vs := [Value.ref xf] ++ hv ++ bv) (nn := 0) rfl (.head _) F1 (news_drop2 N1) ?turn ?done
  case turn =>
    rintro I v h2 tk2 oI hi hoI F2 N2
    clear F1 N1
    obtain ⟨x, rfl, ⟨dx, u1, u2, nx, k1, k2⟩ | ⟨dx, u1, u2, nx, k1, k2⟩⟩ := hall v hi
    all_goals
      dsimp only [polyD] at k2
      clear hall
      w_strict (repeat ((fail_if_success (with_reducible show wpAny _ _ (GrowPost _ _ _ _ _ _ _ _ _ _ _ _) _ _ _)); (first | (k_unfold; (try dsimp only)) | (k_unmd; k_unfold; (try dsimp only)) | (k_end; wrow_close) | walk1 | (dsimp only; walk1) | (leave1; walk_say "STEP leave1"; (try dsimp only)) | fail "no step")))
      (with_reducible rename Fr _ _ _ _ => F9); (with_reducible rename News _ _ _ _ => N9)
      refine grow_end () F9 N9 hoI ?_ trivial
      intro z hz
      rw [if_neg hz]
  case done =>
    rintro m' h3 tk3 F3 hm N3
    refine hret h3 tk3 m' F3 ?_ (news_tail N3)
    intro z hz
    simp only [List.mem_cons, List.not_mem_nil, or_false] at hz
    rw [hm z hz]
    exact kstB_eq (by intro p hp; simp only [List.mem_cons, List.not_mem_nil, or_false] at hp; rcases hp with rfl | rfl | rfl | rfl <;> assumption) fun _ => rfl
end
end
section
open PySem PySem.W PyProof.Rows
set_option maxRecDepth 100000
section
variable {w : World} {mean : ExcName → Option Value} {mg mb : PySem.Str → Option Value} {h₀ : Heap} {L fa : Addr} {cd : Value} {m : PySem.Str → Option Value} {s : Shared} {Q : Flow → Shared → Prop} {rest : List Stmt}
set_option maxHeartbeats 2000000 in
theorem s26 {cc xf df xr dr zz : Addr} {t1 t2 t3 t4 t5 t6 t7 t8 t9 : Tok} {nc nf nr : Nat} {cvs : List Value} {xs : List Int} {own : List (Addr × Obj)}
    (K0 : Below callerA h₀ [] h₀) (X : (hd.heap_39 w.params).In h₀) (T : Top hd.view_39 (looseW hd.view_39 loo) mean mg mb h₀) (F : Fr h₀ L s.heap m)
    (m1 : m (nm "f") = some (.ref xf))
    (N : News h₀ L s.heap ((cc, W.listOf cvs.toArray nc) :: own)) (hoff : ∀ p ∈ own, p.1 ≠ cc) (i1 : (xf, instObj 344 df) ∈ own) (i2 : (df, polyD w xr cc t1 t2 nf) ∈ own) (i3 : (xr, instObj 280 dr) ∈ own) (i4 : (dr, ringD w zz t3 t4 t5 t6 t7 t8 t9 nr) ∈ own) (hc : IntsAre cvs xs) (hx : xs.length = 256)
    (hret : ∀ (h' : Heap) (tk' : Nat) (m' : PySem.Str → Option Value) (x' : Addr) (own' : List (Addr × Obj)), Fr h₀ L h' m' → m' (nm "twice") = some (.ref x') → (∀ z, z ∉ [nm "twice"] → m' z = m z) → PolyAt w xr own' x' (xs.map fun a => (a + a).fmod 3329) →
      (∀ p ∈ own, p ∈ own') → (∀ p ∈ own', p.1 ≠ cc) → News h₀ L h' ((cc, W.listOf cvs.toArray nc) :: own') → 
      wpAny (model PySem.Challenge.rw_yi0010_01.row.prog w) (lawA L fa cd) (execs (rest) (lawEnv L fa cd)) Q (fun _ _ => False) { s with heap := h', toks := tk' }) :
    wpAny (model PySem.Challenge.rw_yi0010_01.row.prog w) (lawA L fa cd) (execs (seg 26 1 rest) (lawEnv L fa cd)) Q (fun _ _ => False) s := by
  w_on
  k_with_none
  k_with "mem" => assumption
  k_with "compareOp NotEq ref ref" => (k_here; k_dflt (refine' ne_news ?N ?i ?j ?hi ?hj ?e ?hu ?_; (case N => k_asm); (case i => k_mem); (case j => k_mem); (case hi => assumption); (case hj => assumption); (case e => first | with_reducible rfl | assumption); (case hu => ke_room)); (try dsimp only))
  k_with "compareOp Eq ref ref" => (k_here; k_dflt (refine' eq_news ?N ?i ?j ?hi ?hj ?e ?hu ?_; (case N => k_asm); (case i => k_mem); (case j => k_mem); (case hi => assumption); (case hj => assumption); (case e => first | with_reducible rfl | assumption); (case hu => ke_room)); (try dsimp only))
  k_with "mem" => exact List.mem_append_left _ (by assumption)
  k_with "room" => first | ktr_room | (simp only [depth_under_make, depth_under_kw, depth_in1, depth_deeper]; omega)
  k_with "EltEnd" => exact elt_end (by k_asm) (by k_asm)
  k_with "exec Assign cons ListComp" => (k_here; k_dflt (refine zip_assign (F₀ := by k_asm) (by rfl) (by with_unfolding_all rfl) (by with_unfolding_all rfl) (by decide) (by rfl) (by decide) (by rfl) (by rfl) (by decide) (by rfl) (by rfl) ?_))
  k_with "call type:zip" => (k_here; k_dflt (refine' zip_call (fun a => (a + a).fmod 3329) ?hh ?F ?N ?l ?hi ?hsz ?_ ?_; (case hh => rfl); (case F => k_asm); (case N => k_asm); (case l => k_mem); (case hi => assumption); (case hsz => (rw [sizeLine_eq]; omega)); (intro C'w9 oC'w9 h'w9 tk'w9 m2'w9 help'w9 i'w9 a'w9 t'w9 hx'w9 hns'w9 hm1'w9 hm2'w9 F'w9 N'w9; (dsimp only [List.cons_append, List.nil_append] at N'w9 ⊢)); rotate_left; (intro D'w9 h'w9 tk'w9 us'w9 hI'w9 F'w9 N'w9 l1w9; (try k_lt l1w9))))
  k_with "call ref" => (k_here; (k_dflt (refine' ring_full_led ?B ?F ?X ?T ?hk ?hdp ?hun ?N ?i1 ?i2 ?i3 ?hc ?hx ?_; (case F => k_asm); (case B => assumption); (case X => assumption); (case T => assumption); (case hk => exact rfl); (case N => k_asm); (case i1 => k_mem); (case i2 => k_mem); (case i3 => k_mem); (case hc => assumption); (case hx => first | assumption | (simp only [List.length_map, List.length_set]; assumption)); (case hdp => exact Nat.le_of_ble_eq_true rfl); (case hun => exact Nat.le_of_ble_eq_true rfl))); intro x'w9 d'w9 u1w9 u2w9 h'w9 tk'w9 F'w9 l1w9 l2w9 N'w9; (try dsimp only at N'w9); (try k_lt l1w9); (try k_lt2 l2w9))
  revert X
  k_fill
  intro X
  have F0 : Fr h₀ L s.heap (kstB m [(nm "f", .ref xf)]) := fr_kst F (by intro p hp; simp only [List.mem_cons, List.not_mem_nil, or_false] at hp; rcases hp with rfl <;> assumption)
  clear F
  dsimp only [seg, lawBody, lawA, lawEnv, lawScope, fnBody, fnScope, PySem.Challenge.pw_yi0010_01, List.getLast?, List.getLast, List.drop, List.take, List.cons_append, List.nil_append, ringD, polyD, nm] at *
  w_strict (repeat ((fail_if_success (with_reducible show wpAny _ _ (execs rest _) _ _ _)); (first | (k_unfold; (try dsimp only)) | (k_unmd; k_unfold; (try dsimp only)) | (k_end; wrow_close) | walk1 | (dsimp only; walk1) | (leave1; walk_say "STEP leave1"; (try dsimp only)) | fail "no step")))
  (with_reducible rename Fr _ _ _ _ => F9); (with_reducible rename News _ _ _ _ => N9)
  obtain ⟨own', q1, q2, q3, q4⟩ := poly_pack (cc := cc) (own := own) N9 (.head _) (.tail _ (.head _)) (.tail _ (.tail _ (.head _))) (by k_mem) (by intro p hp; repeat (first | exact hp | refine List.Mem.tail _ ?_)) (by assumption) hoff (by omega) (by omega) (by assumption)
  refine hret _ _ _ _ own' F9 rfl ?_ q1 q2 q3 q4
  intro z hz
  simp only [List.mem_cons, List.not_mem_nil, or_false] at hz
  rw [if_neg hz]
  exact kstB_eq (by intro p hp; simp only [List.mem_cons, List.not_mem_nil, or_false] at hp; rcases hp with rfl; assumption) fun _ => rfl
  w_strict (repeat ((first | (k_unfold; (try dsimp only)) | (k_unmd; k_unfold; (try dsimp only)) | (k_end; wrow_close) | walk1 | (dsimp only; walk1) | (leave1; walk_say "STEP leave1"; (try dsimp only)) | fail "no step")))
end
end
section
open PySem PySem.W PyProof.Rows
set_option maxRecDepth 100000
section
variable {w : World} {mean : ExcName → Option Value} {mg mb : PySem.Str → Option Value} {h₀ : Heap} {L fa : Addr} {cd : Value} {m : PySem.Str → Option Value} {s : Shared} {Q : Flow → Shared → Prop} {rest : List Stmt}
set_option maxHeartbeats 2000000 in
theorem s27 {cc xf df xr dr zz : Addr} {t1 t2 t3 t4 t5 t6 t7 t8 t9 : Tok} {nc nf nr : Nat} {cvs : List Value} {xs : List Int} {own : List (Addr × Obj)}
    (K0 : Below callerA h₀ [] h₀) (X : (hd.heap_39 w.params).In h₀) (T : Top hd.view_39 (looseW hd.view_39 loo) mean mg mb h₀) (F : Fr h₀ L s.heap m)
    (m1 : m (nm "f") = some (.ref xf))
    (N : News h₀ L s.heap ((cc, W.listOf cvs.toArray nc) :: own)) (hoff : ∀ p ∈ own, p.1 ≠ cc) (i1 : (xf, instObj 344 df) ∈ own) (i2 : (df, polyD w xr cc t1 t2 nf) ∈ own) (i3 : (xr, instObj 280 dr) ∈ own) (i4 : (dr, ringD w zz t3 t4 t5 t6 t7 t8 t9 nr) ∈ own) (hc : IntsAre cvs xs) (hx : xs.length = 256)
    (hret : ∀ (h' : Heap) (tk' : Nat) (m' : PySem.Str → Option Value) (x' : Addr) (own' : List (Addr × Obj)), Fr h₀ L h' m' → m' (nm "none") = some (.ref x') → (∀ z, z ∉ [nm "none"] → m' z = m z) → PolyAt w xr own' x' (xs.map fun a => (a - a).fmod 3329) →
      (∀ p ∈ own, p ∈ own') → (∀ p ∈ own', p.1 ≠ cc) → News h₀ L h' ((cc, W.listOf cvs.toArray nc) :: own') → 
      wpAny (model PySem.Challenge.rw_yi0010_01.row.prog w) (lawA L fa cd) (execs (rest) (lawEnv L fa cd)) Q (fun _ _ => False) { s with heap := h', toks := tk' }) :
    wpAny (model PySem.Challenge.rw_yi0010_01.row.prog w) (lawA L fa cd) (execs (seg 27 1 rest) (lawEnv L fa cd)) Q (fun _ _ => False) s := by
  w_on
  k_with_none
  k_with "mem" => assumption
  k_with "compareOp NotEq ref ref" => (k_here; k_dflt (refine' ne_news ?N ?i ?j ?hi ?hj ?e ?hu ?_; (case N => k_asm); (case i => k_mem); (case j => k_mem); (case hi => assumption); (case hj => assumption); (case e => first | with_reducible rfl | assumption); (case hu => ke_room)); (try dsimp only))
  k_with "compareOp Eq ref ref" => (k_here; k_dflt (refine' eq_news ?N ?i ?j ?hi ?hj ?e ?hu ?_; (case N => k_asm); (case i => k_mem); (case j => k_mem); (case hi => assumption); (case hj => assumption); (case e => first | with_reducible rfl | assumption); (case hu => ke_room)); (try dsimp only))
  k_with "mem" => exact List.mem_append_left _ (by assumption)
  k_with "room" => first | ktr_room | (simp only [depth_under_make, depth_under_kw, depth_in1, depth_deeper]; omega)
  k_with "EltEnd" => exact elt_end (by k_asm) (by k_asm)
  k_with "exec Assign cons ListComp" => (k_here; k_dflt (refine zip_assign (F₀ := by k_asm) (by rfl) (by with_unfolding_all rfl) (by with_unfolding_all rfl) (by decide) (by rfl) (by decide) (by rfl) (by rfl) (by decide) (by rfl) (by rfl) ?_))
  k_with "call type:zip" => (k_here; k_dflt (refine' zip_call (fun a => (a - a).fmod 3329) ?hh ?F ?N ?l ?hi ?hsz ?_ ?_; (case hh => rfl); (case F => k_asm); (case N => k_asm); (case l => k_mem); (case hi => assumption); (case hsz => (rw [sizeLine_eq]; omega)); (intro C'w9 oC'w9 h'w9 tk'w9 m2'w9 help'w9 i'w9 a'w9 t'w9 hx'w9 hns'w9 hm1'w9 hm2'w9 F'w9 N'w9; (dsimp only [List.cons_append, List.nil_append] at N'w9 ⊢)); rotate_left; (intro D'w9 h'w9 tk'w9 us'w9 hI'w9 F'w9 N'w9 l1w9; (try k_lt l1w9))))
  k_with "call ref" => (k_here; (k_dflt (refine' ring_full_led ?B ?F ?X ?T ?hk ?hdp ?hun ?N ?i1 ?i2 ?i3 ?hc ?hx ?_; (case F => k_asm); (case B => assumption); (case X => assumption); (case T => assumption); (case hk => exact rfl); (case N => k_asm); (case i1 => k_mem); (case i2 => k_mem); (case i3 => k_mem); (case hc => assumption); (case hx => first | assumption | (simp only [List.length_map, List.length_set]; assumption)); (case hdp => exact Nat.le_of_ble_eq_true rfl); (case hun => exact Nat.le_of_ble_eq_true rfl))); intro x'w9 d'w9 u1w9 u2w9 h'w9 tk'w9 F'w9 l1w9 l2w9 N'w9; (try dsimp only at N'w9); (try k_lt l1w9); (try k_lt2 l2w9))
  revert X
  k_fill
  intro X
  have F0 : Fr h₀ L s.heap (kstB m [(nm "f", .ref xf)]) := fr_kst F (by intro p hp; simp only [List.mem_cons, List.not_mem_nil, or_false] at hp; rcases hp with rfl <;> assumption)
  clear F
  dsimp only [seg, lawBody, lawA, lawEnv, lawScope, fnBody, fnScope, PySem.Challenge.pw_yi0010_01, List.getLast?, List.getLast, List.drop, List.take, List.cons_append, List.nil_append, ringD, polyD, nm] at *
  w_strict (repeat ((fail_if_success (with_reducible show wpAny _ _ (execs rest _) _ _ _)); (first | (k_unfold; (try dsimp only)) | (k_unmd; k_unfold; (try dsimp only)) | (k_end; wrow_close) | walk1 | (dsimp only; walk1) | (leave1; walk_say "STEP leave1"; (try dsimp only)) | fail "no step")))
  (with_reducible rename Fr _ _ _ _ => F9); (with_reducible rename News _ _ _ _ => N9)
  obtain ⟨own', q1, q2, q3, q4⟩ := poly_pack (cc := cc) (own := own) N9 (.head _) (.tail _ (.head _)) (.tail _ (.tail _ (.head _))) (by k_mem) (by intro p hp; repeat (first | exact hp | refine List.Mem.tail _ ?_)) (by assumption) hoff (by omega) (by omega) (by assumption)
  refine hret _ _ _ _ own' F9 rfl ?_ q1 q2 q3 q4
  intro z hz
  simp only [List.mem_cons, List.not_mem_nil, or_false] at hz
  rw [if_neg hz]
  exact kstB_eq (by intro p hp; simp only [List.mem_cons, List.not_mem_nil, or_false] at hp; rcases hp with rfl; assumption) fun _ => rfl
  w_strict (repeat ((first | (k_unfold; (try dsimp only)) | (k_unmd; k_unfold; (try dsimp only)) | (k_end; wrow_close) | walk1 | (dsimp only; walk1) | (leave1; walk_say "STEP leave1"; (try dsimp only)) | fail "no step")))
end
end
section
open PySem PySem.W PyProof.Rows
set_option maxRecDepth 100000
section
variable {w : World} {mean : ExcName → Option Value} {mg mb : PySem.Str → Option Value} {h₀ : Heap} {L fa : Addr} {cd : Value} {m : PySem.Str → Option Value} {s : Shared} {Q : Flow → Shared → Prop} {rest : List Stmt}
set_option maxHeartbeats 2000000 in
theorem s28 {cc xf df xr dr zz : Addr} {t1 t2 t3 t4 t5 t6 t7 t8 t9 : Tok} {nc nf nr : Nat} {cvs : List Value} {xs : List Int} {own : List (Addr × Obj)}
    (K0 : Below callerA h₀ [] h₀) (X : (hd.heap_39 w.params).In h₀) (T : Top hd.view_39 (looseW hd.view_39 loo) mean mg mb h₀) (F : Fr h₀ L s.heap m)
    (m1 : m (nm "f") = some (.ref xf))
    (N : News h₀ L s.heap ((cc, W.listOf cvs.toArray nc) :: own)) (hoff : ∀ p ∈ own, p.1 ≠ cc) (i1 : (xf, instObj 344 df) ∈ own) (i2 : (df, polyD w xr cc t1 t2 nf) ∈ own) (i3 : (xr, instObj 280 dr) ∈ own) (i4 : (dr, ringD w zz t3 t4 t5 t6 t7 t8 t9 nr) ∈ own) (hc : IntsAre cvs xs) (hx : xs.length = 256)
    (hret : ∀ (h' : Heap) (tk' : Nat) (m' : PySem.Str → Option Value) (x' : Addr) (own' : List (Addr × Obj)), Fr h₀ L h' m' → m' (nm "same") = some (.ref x') → (∀ z, z ∉ [nm "same"] → m' z = m z) → PolyAt w xr own' x' (xs.map fun a => (a * 1).fmod 3329) →
      (∀ p ∈ own, p ∈ own') → (∀ p ∈ own', p.1 ≠ cc) → News h₀ L h' ((cc, W.listOf cvs.toArray nc) :: own') → 
      wpAny (model PySem.Challenge.rw_yi0010_01.row.prog w) (lawA L fa cd) (execs (rest) (lawEnv L fa cd)) Q (fun _ _ => False) { s with heap := h', toks := tk' }) :
    wpAny (model PySem.Challenge.rw_yi0010_01.row.prog w) (lawA L fa cd) (execs (seg 28 1 rest) (lawEnv L fa cd)) Q (fun _ _ => False) s := by
  w_on
  k_with_none
  k_with "mem" => assumption
  k_with "compareOp NotEq ref ref" => (k_here; k_dflt (refine' ne_news ?N ?i ?j ?hi ?hj ?e ?hu ?_; (case N => k_asm); (case i => k_mem); (case j => k_mem); (case hi => assumption); (case hj => assumption); (case e => first | with_reducible rfl | assumption); (case hu => ke_room)); (try dsimp only))
  k_with "compareOp Eq ref ref" => (k_here; k_dflt (refine' eq_news ?N ?i ?j ?hi ?hj ?e ?hu ?_; (case N => k_asm); (case i => k_mem); (case j => k_mem); (case hi => assumption); (case hj => assumption); (case e => first | with_reducible rfl | assumption); (case hu => ke_room)); (try dsimp only))
  k_with "mem" => exact List.mem_append_left _ (by assumption)
  k_with "room" => first | ktr_room | (simp only [depth_under_make, depth_under_kw, depth_in1, depth_deeper]; omega)
  k_with "call ref" => (k_here; (k_dflt (refine' ring_full_led ?B ?F ?X ?T ?hk ?hdp ?hun ?N ?i1 ?i2 ?i3 ?hc ?hx ?_; (case F => k_asm); (case B => assumption); (case X => assumption); (case T => assumption); (case hk => exact rfl); (case N => k_asm); (case i1 => k_mem); (case i2 => k_mem); (case i3 => k_mem); (case hc => assumption); (case hx => first | assumption | (simp only [List.length_map, List.length_set]; assumption)); (case hdp => exact Nat.le_of_ble_eq_true rfl); (case hun => exact Nat.le_of_ble_eq_true rfl))); intro x'w9 d'w9 u1w9 u2w9 h'w9 tk'w9 F'w9 l1w9 l2w9 N'w9; (try dsimp only at N'w9); (try k_lt l1w9); (try k_lt2 l2w9))
  revert X
  k_fill
  intro X
  have F0 : Fr h₀ L s.heap (kstB m [(nm "f", .ref xf)]) := fr_kst F (by intro p hp; simp only [List.mem_cons, List.not_mem_nil, or_false] at hp; rcases hp with rfl <;> assumption)
  clear F
  dsimp only [seg, lawBody, lawA, lawEnv, lawScope, fnBody, fnScope, PySem.Challenge.pw_yi0010_01, List.getLast?, List.getLast, List.drop, List.take, List.cons_append, List.nil_append, ringD, polyD, nm] at *
  w_strict (repeat ((fail_if_success (with_reducible show wpAny _ _ (execs rest _) _ _ _)); (first | (k_unfold; (try dsimp only)) | (k_unmd; k_unfold; (try dsimp only)) | (k_end; wrow_close) | walk1 | (dsimp only; walk1) | (leave1; walk_say "STEP leave1"; (try dsimp only)) | fail "no step")))
  (with_reducible rename Fr _ _ _ _ => F9); (with_reducible rename News _ _ _ _ => N9)
  obtain ⟨own', q1, q2, q3, q4⟩ := poly_pack (cc := cc) (own := own) N9 (.head _) (.tail _ (.head _)) (.tail _ (.tail _ (.head _))) (by k_mem) (by intro p hp; repeat (first | exact hp | refine List.Mem.tail _ ?_)) (by assumption) hoff (by omega) (by omega) (by assumption)
  refine hret _ _ _ _ own' F9 rfl ?_ q1 q2 q3 q4
  intro z hz
  simp only [List.mem_cons, List.not_mem_nil, or_false] at hz
  rw [if_neg hz]
  exact kstB_eq (by intro p hp; simp only [List.mem_cons, List.not_mem_nil, or_false] at hp; rcases hp with rfl; assumption) fun _ => rfl
end
end
section
open PySem PySem.W PyProof.Rows
set_option maxRecDepth 100000
section
variable {w : World} {mean : ExcName → Option Value} {mg mb : PySem.Str → Option Value} {h₀ : Heap} {L fa : Addr} {cd : Value} {m : PySem.Str → Option Value} {s : Shared} {Q : Flow → Shared → Prop} {rest : List Stmt}
set_option maxHeartbeats 2000000 in
theorem s29 {cc xf df xr dr zz : Addr} {t1 t2 t3 t4 t5 t6 t7 t8 t9 : Tok} {nc nf nr : Nat} {cvs : List Value} {xs : List Int} {own : List (Addr × Obj)}
    (K0 : Below callerA h₀ [] h₀) (X : (hd.heap_39 w.params).In h₀) (T : Top hd.view_39 (looseW hd.view_39 loo) mean mg mb h₀) (F : Fr h₀ L s.heap m)
    (m1 : m (nm "f") = some (.ref xf))
    (N : News h₀ L s.heap ((cc, W.listOf cvs.toArray nc) :: own)) (hoff : ∀ p ∈ own, p.1 ≠ cc) (i1 : (xf, instObj 344 df) ∈ own) (i2 : (df, polyD w xr cc t1 t2 nf) ∈ own) (i3 : (xr, instObj 280 dr) ∈ own) (i4 : (dr, ringD w zz t3 t4 t5 t6 t7 t8 t9 nr) ∈ own) (hc : IntsAre cvs xs) (hx : xs.length = 256)
    (hret : ∀ (h' : Heap) (tk' : Nat) (m' : PySem.Str → Option Value) (x' : Addr) (own' : List (Addr × Obj)), Fr h₀ L h' m' → m' (nm "minus") = some (.ref x') → (∀ z, z ∉ [nm "minus"] → m' z = m z) → PolyAt w xr own' x' (xs.map fun a => (-a).fmod 3329) →
      (∀ p ∈ own, p ∈ own') → (∀ p ∈ own', p.1 ≠ cc) → News h₀ L h' ((cc, W.listOf cvs.toArray nc) :: own') → 
      wpAny (model PySem.Challenge.rw_yi0010_01.row.prog w) (lawA L fa cd) (execs (rest) (lawEnv L fa cd)) Q (fun _ _ => False) { s with heap := h', toks := tk' }) :
    wpAny (model PySem.Challenge.rw_yi0010_01.row.prog w) (lawA L fa cd) (execs (seg 29 1 rest) (lawEnv L fa cd)) Q (fun _ _ => False) s := by
  w_on
  k_with_none
  k_with "mem" => assumption
  k_with "compareOp NotEq ref ref" => (k_here; k_dflt (refine' ne_news ?N ?i ?j ?hi ?hj ?e ?hu ?_; (case N => k_asm); (case i => k_mem); (case j => k_mem); (case hi => assumption); (case hj => assumption); (case e => first | with_reducible rfl | assumption); (case hu => ke_room)); (try dsimp only))
  k_with "compareOp Eq ref ref" => (k_here; k_dflt (refine' eq_news ?N ?i ?j ?hi ?hj ?e ?hu ?_; (case N => k_asm); (case i => k_mem); (case j => k_mem); (case hi => assumption); (case hj => assumption); (case e => first | with_reducible rfl | assumption); (case hu => ke_room)); (try dsimp only))
  k_with "mem" => exact List.mem_append_left _ (by assumption)
  k_with "room" => first | ktr_room | (simp only [depth_under_make, depth_under_kw, depth_in1, depth_deeper]; omega)
  k_with "call ref" => (k_here; (k_dflt (refine' ring_full_led ?B ?F ?X ?T ?hk ?hdp ?hun ?N ?i1 ?i2 ?i3 ?hc ?hx ?_; (case F => k_asm); (case B => assumption); (case X => assumption); (case T => assumption); (case hk => exact rfl); (case N => k_asm); (case i1 => k_mem); (case i2 => k_mem); (case i3 => k_mem); (case hc => assumption); (case hx => first | assumption | (simp only [List.length_map, List.length_set]; assumption)); (case hdp => exact Nat.le_of_ble_eq_true rfl); (case hun => exact Nat.le_of_ble_eq_true rfl))); intro x'w9 d'w9 u1w9 u2w9 h'w9 tk'w9 F'w9 l1w9 l2w9 N'w9; (try dsimp only at N'w9); (try k_lt l1w9); (try k_lt2 l2w9))
  revert X
  k_fill
  intro X
  have F0 : Fr h₀ L s.heap (kstB m [(nm "f", .ref xf)]) := fr_kst F (by intro p hp; simp only [List.mem_cons, List.not_mem_nil, or_false] at hp; rcases hp with rfl <;> assumption)
  clear F
  dsimp only [seg, lawBody, lawA, lawEnv, lawScope, fnBody, fnScope, PySem.Challenge.pw_yi0010_01, List.getLast?, List.getLast, List.drop, List.take, List.cons_append, List.nil_append, ringD, polyD, nm] at *
  w_strict (repeat ((fail_if_success (with_reducible show wpAny _ _ (execs rest _) _ _ _)); (first | (k_unfold; (try dsimp only)) | (k_unmd; k_unfold; (try dsimp only)) | (k_end; wrow_close) | walk1 | (dsimp only; walk1) | (leave1; walk_say "STEP leave1"; (try dsimp only)) | fail "no step")))
  (with_reducible rename Fr _ _ _ _ => F9); (with_reducible rename News _ _ _ _ => N9)
  obtain ⟨own', q1, q2, q3, q4⟩ := poly_pack (cc := cc) (own := own) N9 (.head _) (.tail _ (.head _)) (.tail _ (.tail _ (.head _))) (by k_mem) (by intro p hp; repeat (first | exact hp | refine List.Mem.tail _ ?_)) (by assumption) hoff (by omega) (by omega) (by assumption)
  refine hret _ _ _ _ own' F9 rfl ?_ q1 q2 q3 q4
  intro z hz
  simp only [List.mem_cons, List.not_mem_nil, or_false] at hz
  rw [if_neg hz]
  exact kstB_eq (by intro p hp; simp only [List.mem_cons, List.not_mem_nil, or_false] at hp; rcases hp with rfl; assumption) fun _ => rfl
end
end
section
open PySem PySem.W PyProof.Rows
set_option maxRecDepth 100000
section
variable {w : World} {mean : ExcName → Option Value} {mg mb : PySem.Str → Option Value} {h₀ : Heap} {L fa : Addr} {cd : Value} {m : PySem.Str → Option Value} {s : Shared} {Q : Flow → Shared → Prop} {rest : List Stmt}
set_option maxHeartbeats 2000000 in
theorem s30 {cc xf df xr dr zz : Addr} {t1 t2 t3 t4 t5 t6 t7 t8 t9 : Tok} {nc nf nr : Nat} {cvs : List Value} {xs : List Int} {own : List (Addr × Obj)}
    (K0 : Below callerA h₀ [] h₀) (X : (hd.heap_39 w.params).In h₀) (T : Top hd.view_39 (looseW hd.view_39 loo) mean mg mb h₀) (F : Fr h₀ L s.heap m)
    (m1 : m (nm "f") = some (.ref xf))
    (N : News h₀ L s.heap ((cc, W.listOf cvs.toArray nc) :: own)) (hoff : ∀ p ∈ own, p.1 ≠ cc) (i1 : (xf, instObj 344 df) ∈ own) (i2 : (df, polyD w xr cc t1 t2 nf) ∈ own) (i3 : (xr, instObj 280 dr) ∈ own) (i4 : (dr, ringD w zz t3 t4 t5 t6 t7 t8 t9 nr) ∈ own) (hc : IntsAre cvs xs) (hx : xs.length = 256)
    (hret : ∀ (h' : Heap) (tk' : Nat) (m' : PySem.Str → Option Value) (x' : Addr) (own' : List (Addr × Obj)), Fr h₀ L h' m' → m' (nm "moved") = some (.ref x') → (∀ z, z ∉ [nm "moved"] → m' z = m z) → PolyAt w xr own' x' (xs.set 0 ((xs.getD 0 0 + 0).fmod 3329)) →
      (∀ p ∈ own, p ∈ own') → (∀ p ∈ own', p.1 ≠ cc) → News h₀ L h' ((cc, W.listOf cvs.toArray nc) :: own') → 
      wpAny (model PySem.Challenge.rw_yi0010_01.row.prog w) (lawA L fa cd) (execs (rest) (lawEnv L fa cd)) Q (fun _ _ => False) { s with heap := h', toks := tk' }) :
    wpAny (model PySem.Challenge.rw_yi0010_01.row.prog w) (lawA L fa cd) (execs (seg 30 1 rest) (lawEnv L fa cd)) Q (fun _ _ => False) s := by
  w_on
  k_with_none
  k_with "mem" => assumption
  k_with "compareOp NotEq ref ref" => (k_here; k_dflt (refine' ne_news ?N ?i ?j ?hi ?hj ?e ?hu ?_; (case N => k_asm); (case i => k_mem); (case j => k_mem); (case hi => assumption); (case hj => assumption); (case e => first | with_reducible rfl | assumption); (case hu => ke_room)); (try dsimp only))
  k_with "compareOp Eq ref ref" => (k_here; k_dflt (refine' eq_news ?N ?i ?j ?hi ?hj ?e ?hu ?_; (case N => k_asm); (case i => k_mem); (case j => k_mem); (case hi => assumption); (case hj => assumption); (case e => first | with_reducible rfl | assumption); (case hu => ke_room)); (try dsimp only))
  k_with "mem" => exact List.mem_append_left _ (by assumption)
  k_with "room" => first | ktr_room | (simp only [depth_under_make, depth_under_kw, depth_in1, depth_deeper]; omega)
  k_with "call ref" => (k_here; (k_dflt (refine' ring_full_led ?B ?F ?X ?T ?hk ?hdp ?hun ?N ?i1 ?i2 ?i3 ?hc ?hx ?_; (case F => k_asm); (case B => assumption); (case X => assumption); (case T => assumption); (case hk => exact rfl); (case N => k_asm); (case i1 => k_mem); (case i2 => k_mem); (case i3 => k_mem); (case hc => assumption); (case hx => first | assumption | (simp only [List.length_map, List.length_set]; assumption)); (case hdp => exact Nat.le_of_ble_eq_true rfl); (case hun => exact Nat.le_of_ble_eq_true rfl))); intro x'w9 d'w9 u1w9 u2w9 h'w9 tk'w9 F'w9 l1w9 l2w9 N'w9; (try dsimp only at N'w9); (try k_lt l1w9); (try k_lt2 l2w9))
  k_with "call builtin:list.copy" => (k_here; k_dflt (refine' copy_news ?F ?N ?i ?_ ?z; (case F => k_asm); (case N => k_asm); (case i => k_mem); (case z => (rw [sizeLine_eq, IntsAre.length (by assumption)]; omega))); intro D'w9 h'w9 F'w9 N'w9 l1w9; (try k_lt l1w9))
  k_with "all" => assumption
  revert X
  k_fill
  intro X
  have F0 : Fr h₀ L s.heap (kstB m [(nm "f", .ref xf)]) := fr_kst F (by intro p hp; simp only [List.mem_cons, List.not_mem_nil, or_false] at hp; rcases hp with rfl <;> assumption)
  clear F
  dsimp only [seg, lawBody, lawA, lawEnv, lawScope, fnBody, fnScope, PySem.Challenge.pw_yi0010_01, List.getLast?, List.getLast, List.drop, List.take, List.cons_append, List.nil_append, ringD, polyD, nm] at *
  w_strict (repeat ((fail_if_success (with_reducible show wpAny _ _ (execs rest _) _ _ _)); (first | (k_unfold; (try dsimp only)) | (k_unmd; k_unfold; (try dsimp only)) | (k_end; wrow_close) | walk1 | (dsimp only; walk1) | (leave1; walk_say "STEP leave1"; (try dsimp only)) | fail "no step")))
  (with_reducible rename Fr _ _ _ _ => F9); (with_reducible rename News _ _ _ _ => N9)
  obtain ⟨own', q1, q2, q3, q4⟩ := poly_pack (cc := cc) (own := own) N9 (.head _) (.tail _ (.head _)) (.tail _ (.tail _ (.head _))) (by k_mem) (by intro p hp; repeat (first | exact hp | refine List.Mem.tail _ ?_)) (by assumption) hoff (by omega) (by omega) (by assumption)
  refine hret _ _ _ _ own' F9 rfl ?_ q1 q2 q3 q4
  intro z hz
  simp only [List.mem_cons, List.not_mem_nil, or_false] at hz
  rw [if_neg hz]
  exact kstB_eq (by intro p hp; simp only [List.mem_cons, List.not_mem_nil, or_false] at hp; rcases hp with rfl; assumption) fun _ => rfl
end
end
section
open PySem PySem.W PyProof.Rows
set_option maxRecDepth 100000
section
variable {w : World} {mean : ExcName → Option Value} {mg mb : PySem.Str → Option Value} {h₀ : Heap} {L fa : Addr} {cd : Value} {m : PySem.Str → Option Value} {s : Shared} {Q : Flow → Shared → Prop} {rest : List Stmt}
set_option maxHeartbeats 2000000 in
theorem s31 {cc xf df xr : Addr} {tp tn t1 t2 : Tok} {nc nf : Nat} {pl num : Int} {cvs : List Value} {xs : List Int} {own : List (Addr × Obj)}
    (K0 : Below callerA h₀ [] h₀) (X : (hd.heap_39 w.params).In h₀) (T : Top hd.view_39 (looseW hd.view_39 loo) mean mg mb h₀) (F : Fr h₀ L s.heap m)
    (m1 : m (nm "f") = some (.ref xf)) (m2 : m (nm "place") = some (.int pl tp)) (m3 : m (nm "number") = some (.int num tn)) (p0 : 0 ≤ pl) (p1 : pl < 256)
    (N : News h₀ L s.heap ((cc, W.listOf cvs.toArray nc) :: own)) (hoff : ∀ p ∈ own, p.1 ≠ cc) (i1 : (xf, instObj 344 df) ∈ own) (i2 : (df, polyD w xr cc t1 t2 nf) ∈ own) (hc : IntsAre cvs xs) (hx : xs.length = 256)
    (hret : ∀ (h' : Heap) (tk' : Nat) (m' : PySem.Str → Option Value) (vs : List Value), Fr h₀ L h' m' → (∀ z, m' z = m z) → IntsAre vs (xs.set pl.toNat (num + 1)) → News h₀ L h' ((cc, W.listOf vs.toArray nc) :: own) →
      wpAny (model PySem.Challenge.rw_yi0010_01.row.prog w) (lawA L fa cd) (execs (rest) (lawEnv L fa cd)) Q (fun _ _ => False) { s with heap := h', toks := tk' }) :
    wpAny (model PySem.Challenge.rw_yi0010_01.row.prog w) (lawA L fa cd) (execs (seg 31 1 rest) (lawEnv L fa cd)) Q (fun _ _ => False) s := by
  w_on
  k_with_none
  k_with "mem" => assumption
  k_with "compareOp NotEq ref ref" => (k_here; k_dflt (refine' ne_news ?N ?i ?j ?hi ?hj ?e ?hu ?_; (case N => k_asm); (case i => k_mem); (case j => k_mem); (case hi => assumption); (case hj => assumption); (case e => first | with_reducible rfl | assumption); (case hu => ke_room)); (try dsimp only))
  k_with "compareOp Eq ref ref" => (k_here; k_dflt (refine' eq_news ?N ?i ?j ?hi ?hj ?e ?hu ?_; (case N => k_asm); (case i => k_mem); (case j => k_mem); (case hi => assumption); (case hj => assumption); (case e => first | with_reducible rfl | assumption); (case hu => ke_room)); (try dsimp only))
  k_with "all" => assumption
  k_with "subscriptTail" => (k_here; (with_unfolding_all refine' item_news ?N ?i ?_ ?hs; (case N => k_asm); (case i => k_mem); (case hs => with_unfolding_all rfl)); (try dsimp only))
  revert X
  k_fill
  intro X
  have F0 : Fr h₀ L s.heap (kstB m [(nm "f", .ref xf), (nm "place", .int pl tp), (nm "number", .int num tn)]) := fr_kst F (by intro p hp; simp only [List.mem_cons, List.not_mem_nil, or_false] at hp; rcases hp with rfl | rfl | rfl <;> assumption)
  clear F
  dsimp only [seg, lawBody, lawA, lawEnv, lawScope, fnBody, fnScope, PySem.Challenge.pw_yi0010_01, List.getLast?, List.getLast, List.drop, List.take, List.cons_append, List.nil_append, ringD, polyD, nm] at *
  w_strict (repeat ((fail_if_success (with_reducible show wpAny _ _ (execs rest _) _ _ _)); (first | (k_unfold; (try dsimp only)) | (k_unmd; k_unfold; (try dsimp only)) | (k_end; wrow_close) | walk1 | (dsimp only; walk1) | (leave1; walk_say "STEP leave1"; (try dsimp only)) | fail "no step")))
  (with_reducible rename Fr _ _ _ _ => F9); (with_reducible rename News _ _ _ _ => N9)
  exact hret _ _ _ _ F9 (fun z => kstB_eq (by intro p hp; simp only [List.mem_cons, List.not_mem_nil, or_false] at hp; rcases hp with rfl | rfl | rfl <;> assumption) fun _ => rfl) (by assumption) N9
end
end
section
open PySem PySem.W PyProof.Rows
set_option maxRecDepth 100000
section
variable {w : World} {mean : ExcName → Option Value} {mg mb : PySem.Str → Option Value} {h₀ : Heap} {L fa : Addr} {cd : Value} {m : PySem.Str → Option Value} {s : Shared} {Q : Flow → Shared → Prop} {rest : List Stmt}
set_option maxHeartbeats 2000000 in
theorem s32 {xt xn xr al : Addr} {na : Nat} {avs : List Value} {as ts ns : List Int} {own : List (Addr × Obj)}
    (K0 : Below callerA h₀ [] h₀) (X : (hd.heap_39 w.params).In h₀) (T : Top hd.view_39 (looseW hd.view_39 loo) mean mg mb h₀) (F : Fr h₀ L s.heap m)
    (m1 : m (nm "twice") = some (.ref xt)) (m2 : m (nm "none") = some (.ref xn)) (m3 : m (nm "after") = some (.ref al))
    (N : News h₀ L s.heap own) (i1 : PolyAt w xr own xt ts) (i2 : PolyAt w xr own xn ns) (i3 : (al, W.listOf avs.toArray na) ∈ own) (ha : IntsAre avs as) (hl : as.length = 256)
    (e1 : ts = as.map fun c => (2 * c).fmod 3329) (e2 : ns = List.replicate 256 0)
    (hret : ∀ (h' : Heap) (tk' : Nat) (m' : PySem.Str → Option Value), Fr h₀ L h' m' → (∀ z, m' z = m z) → News h₀ L h' own →
      wpAny (model PySem.Challenge.rw_yi0010_01.row.prog w) (lawA L fa cd) (execs (rest) (lawEnv L fa cd)) Q (fun _ _ => False) { s with heap := h', toks := tk' }) :
    wpAny (model PySem.Challenge.rw_yi0010_01.row.prog w) (lawA L fa cd) (execs (seg 32 1 rest) (lawEnv L fa cd)) Q (fun _ _ => False) s := by
  obtain ⟨dt, ct, u1, u2, k1, k2, tvs, a1, a2, a3, a4⟩ := i1
  obtain ⟨dn, cn, u3, u4, k3, k4, nvs, b1, b2, b3, b4⟩ := i2
  w_on
  k_with_none
  k_with "mem" => assumption
  k_with "compareOp NotEq ref ref" => (k_here; k_dflt (refine' ne_news ?N ?i ?j ?hi ?hj ?e ?hu ?_; (case N => k_asm); (case i => k_mem); (case j => k_mem); (case hi => assumption); (case hj => assumption); (case e => first | with_reducible rfl | assumption); (case hu => ke_room)); (try dsimp only))
  k_with "compareOp Eq ref ref" => (k_here; k_dflt (refine' eq_news ?N ?i ?j ?hi ?hj ?e ?hu ?_; (case N => k_asm); (case i => k_mem); (case j => k_mem); (case hi => assumption); (case hj => assumption); (case e => first | with_reducible rfl | assumption); (case hu => ke_room)); (try dsimp only))
  k_with "mem" => exact List.mem_append_left _ (by assumption)
  k_with "EltEnd" => exact elt_end (by k_asm) (by k_asm)
  k_with "eval ListComp" => (k_here; k_dflt (refine LCg.ListComp_U (F₀ := by k_asm) (by with_unfolding_all rfl) (by decide) (by rfl) (by decide) (by rfl) ?_))
  k_with "CompSrc" => (k_here; k_dflt (refine' map_src (fun c => (2 * c).fmod 3329) ?hh ?F ?N ?hm ?hi ?hsz ?_ ?_; (case hh => rfl); (case F => k_asm); (case N => k_asm); (case hm => k_mem); (case hi => assumption); (case hsz => (rw [sizeLine_eq]; omega)); (intro C'w9 oC'w9 h'w9 tk'w9 m2'w9 help'w9 k'w9 t'w9 hk'w9 hns'w9 hm1'w9 F'w9 N'w9; (dsimp only [List.cons_append, List.nil_append] at N'w9 ⊢)); rotate_left; (intro g'w9 ys'w9 hI'w9; unfold LCg.FinE; intro D'w9 h'w9 tk'w9 F'w9 N'w9 o1'w9)))
  revert X
  k_fill
  intro X
  have F0 : Fr h₀ L s.heap (kstB m [(nm "twice", .ref xt), (nm "none", .ref xn), (nm "after", .ref al)]) := fr_kst F (by intro p hp; simp only [List.mem_cons, List.not_mem_nil, or_false] at hp; rcases hp with rfl | rfl | rfl <;> assumption)
  clear F
  dsimp only [seg, lawBody, lawA, lawEnv, lawScope, fnBody, fnScope, PySem.Challenge.pw_yi0010_01, List.getLast?, List.getLast, List.drop, List.take, List.cons_append, List.nil_append, ringD, polyD, nm] at *
  have N2 := news_cons N i3
  clear N
  w_strict (repeat ((fail_if_success (with_reducible show wpAny _ _ (execs rest _) _ _ _)); (first | (k_unfold; (try dsimp only)) | (k_unmd; k_unfold; (try dsimp only)) | (k_end; wrow_close) | walk1 | (dsimp only; walk1) | (leave1; walk_say "STEP leave1"; (try dsimp only)) | fail "no step")))
  (with_reducible rename Fr _ _ _ _ => F9); (with_reducible rename News _ _ _ _ => N9)
  exact hret _ _ _ F9 (fun z => kstB_eq (by intro p hp; simp only [List.mem_cons, List.not_mem_nil, or_false] at hp; rcases hp with rfl | rfl | rfl <;> assumption) fun _ => rfl) (kst_newsOf N9 (by intro p hp; repeat (first | exact hp | refine List.Mem.tail _ ?_)))
  w_strict (repeat ((first | (k_unfold; (try dsimp only)) | (k_unmd; k_unfold; (try dsimp only)) | (k_end; wrow_close) | walk1 | (dsimp only; walk1) | (leave1; walk_say "STEP leave1"; (try dsimp only)) | fail "no step")))
end
end
section
open PySem PySem.W PyProof.Rows
set_option maxRecDepth 100000
section
variable {w : World} {mean : ExcName → Option Value} {mg mb : PySem.Str → Option Value} {h₀ : Heap} {L fa : Addr} {cd : Value} {m : PySem.Str → Option Value} {s : Shared} {Q : Flow → Shared → Prop} {rest : List Stmt}
set_option maxHeartbeats 2000000 in
theorem s33 {xt xr al : Addr} {na : Nat} {avs : List Value} {as ts : List Int} {own : List (Addr × Obj)}
    (K0 : Below callerA h₀ [] h₀) (X : (hd.heap_39 w.params).In h₀) (T : Top hd.view_39 (looseW hd.view_39 loo) mean mg mb h₀) (F : Fr h₀ L s.heap m)
    (m1 : m (nm "same") = some (.ref xt)) (m3 : m (nm "after") = some (.ref al))
    (N : News h₀ L s.heap own) (i1 : PolyAt w xr own xt ts) (i3 : (al, W.listOf avs.toArray na) ∈ own) (ha : IntsAre avs as) (hl : as.length = 256)
    (e1 : ts = as.map fun c => c.fmod 3329)
    (hret : ∀ (h' : Heap) (tk' : Nat) (m' : PySem.Str → Option Value), Fr h₀ L h' m' → (∀ z, m' z = m z) → News h₀ L h' own →
      wpAny (model PySem.Challenge.rw_yi0010_01.row.prog w) (lawA L fa cd) (execs (rest) (lawEnv L fa cd)) Q (fun _ _ => False) { s with heap := h', toks := tk' }) :
    wpAny (model PySem.Challenge.rw_yi0010_01.row.prog w) (lawA L fa cd) (execs (seg 33 1 rest) (lawEnv L fa cd)) Q (fun _ _ => False) s := by
  obtain ⟨dt, ct, u1, u2, k1, k2, tvs, a1, a2, a3, a4⟩ := i1
  w_on
  k_with_none
  k_with "mem" => assumption
  k_with "compareOp NotEq ref ref" => (k_here; k_dflt (refine' ne_news ?N ?i ?j ?hi ?hj ?e ?hu ?_; (case N => k_asm); (case i => k_mem); (case j => k_mem); (case hi => assumption); (case hj => assumption); (case e => first | with_reducible rfl | assumption); (case hu => ke_room)); (try dsimp only))
  k_with "compareOp Eq ref ref" => (k_here; k_dflt (refine' eq_news ?N ?i ?j ?hi ?hj ?e ?hu ?_; (case N => k_asm); (case i => k_mem); (case j => k_mem); (case hi => assumption); (case hj => assumption); (case e => first | with_reducible rfl | assumption); (case hu => ke_room)); (try dsimp only))
  k_with "mem" => exact List.mem_append_left _ (by assumption)
  k_with "EltEnd" => exact elt_end (by k_asm) (by k_asm)
  k_with "eval ListComp" => (k_here; k_dflt (refine LCg.ListComp_U (F₀ := by k_asm) (by with_unfolding_all rfl) (by decide) (by rfl) (by decide) (by rfl) ?_))
  k_with "CompSrc" => (k_here; k_dflt (refine' map_src (fun c => c.fmod 3329) ?hh ?F ?N ?hm ?hi ?hsz ?_ ?_; (case hh => rfl); (case F => k_asm); (case N => k_asm); (case hm => k_mem); (case hi => assumption); (case hsz => (rw [sizeLine_eq]; omega)); (intro C'w9 oC'w9 h'w9 tk'w9 m2'w9 help'w9 k'w9 t'w9 hk'w9 hns'w9 hm1'w9 F'w9 N'w9; (dsimp only [List.cons_append, List.nil_append] at N'w9 ⊢)); rotate_left; (intro g'w9 ys'w9 hI'w9; unfold LCg.FinE; intro D'w9 h'w9 tk'w9 F'w9 N'w9 o1'w9)))
  revert X
  k_fill
  intro X
  have F0 : Fr h₀ L s.heap (kstB m [(nm "same", .ref xt), (nm "after", .ref al)]) := fr_kst F (by intro p hp; simp only [List.mem_cons, List.not_mem_nil, or_false] at hp; rcases hp with rfl | rfl <;> assumption)
  clear F
  dsimp only [seg, lawBody, lawA, lawEnv, lawScope, fnBody, fnScope, PySem.Challenge.pw_yi0010_01, List.getLast?, List.getLast, List.drop, List.take, List.cons_append, List.nil_append, ringD, polyD, nm] at *
  have N2 := news_cons N i3
  clear N
  w_strict (repeat ((fail_if_success (with_reducible show wpAny _ _ (execs rest _) _ _ _)); (first | (k_unfold; (try dsimp only)) | (k_unmd; k_unfold; (try dsimp only)) | (k_end; wrow_close) | walk1 | (dsimp only; walk1) | (leave1; walk_say "STEP leave1"; (try dsimp only)) | fail "no step")))
  (with_reducible rename Fr _ _ _ _ => F9); (with_reducible rename News _ _ _ _ => N9)
  exact hret _ _ _ F9 (fun z => kstB_eq (by intro p hp; simp only [List.mem_cons, List.not_mem_nil, or_false] at hp; rcases hp with rfl | rfl <;> assumption) fun _ => rfl) (kst_newsOf N9 (by intro p hp; repeat (first | exact hp | refine List.Mem.tail _ ?_)))
  w_strict (repeat ((first | (k_unfold; (try dsimp only)) | (k_unmd; k_unfold; (try dsimp only)) | (k_end; wrow_close) | walk1 | (dsimp only; walk1) | (leave1; walk_say "STEP leave1"; (try dsimp only)) | fail "no step")))
end
end
section
open PySem PySem.W PyProof.Rows
set_option maxRecDepth 100000
section
variable {w : World} {mean : ExcName → Option Value} {mg mb : PySem.Str → Option Value} {h₀ : Heap} {L fa : Addr} {cd : Value} {m : PySem.Str → Option Value} {s : Shared} {Q : Flow → Shared → Prop} {rest : List Stmt}
set_option maxHeartbeats 2000000 in
theorem s34 {xt xr al : Addr} {na : Nat} {avs : List Value} {as ts : List Int} {own : List (Addr × Obj)}
    (K0 : Below callerA h₀ [] h₀) (X : (hd.heap_39 w.params).In h₀) (T : Top hd.view_39 (looseW hd.view_39 loo) mean mg mb h₀) (F : Fr h₀ L s.heap m)
    (m1 : m (nm "minus") = some (.ref xt)) (m3 : m (nm "after") = some (.ref al))
    (N : News h₀ L s.heap own) (i1 : PolyAt w xr own xt ts) (i3 : (al, W.listOf avs.toArray na) ∈ own) (ha : IntsAre avs as) (hl : as.length = 256)
    (e1 : ts = as.map fun c => (-c).fmod 3329)
    (hret : ∀ (h' : Heap) (tk' : Nat) (m' : PySem.Str → Option Value), Fr h₀ L h' m' → (∀ z, m' z = m z) → News h₀ L h' own →
      wpAny (model PySem.Challenge.rw_yi0010_01.row.prog w) (lawA L fa cd) (execs (rest) (lawEnv L fa cd)) Q (fun _ _ => False) { s with heap := h', toks := tk' }) :
    wpAny (model PySem.Challenge.rw_yi0010_01.row.prog w) (lawA L fa cd) (execs (seg 34 1 rest) (lawEnv L fa cd)) Q (fun _ _ => False) s := by
  obtain ⟨dt, ct, u1, u2, k1, k2, tvs, a1, a2, a3, a4⟩ := i1
  w_on
  k_with_none
  k_with "mem" => assumption
  k_with "compareOp NotEq ref ref" => (k_here; k_dflt (refine' ne_news ?N ?i ?j ?hi ?hj ?e ?hu ?_; (case N => k_asm); (case i => k_mem); (case j => k_mem); (case hi => assumption); (case hj => assumption); (case e => first | with_reducible rfl | assumption); (case hu => ke_room)); (try dsimp only))
  k_with "compareOp Eq ref ref" => (k_here; k_dflt (refine' eq_news ?N ?i ?j ?hi ?hj ?e ?hu ?_; (case N => k_asm); (case i => k_mem); (case j => k_mem); (case hi => assumption); (case hj => assumption); (case e => first | with_reducible rfl | assumption); (case hu => ke_room)); (try dsimp only))
  k_with "mem" => exact List.mem_append_left _ (by assumption)
  k_with "EltEnd" => exact elt_end (by k_asm) (by k_asm)
  k_with "eval ListComp" => (k_here; k_dflt (refine LCg.ListComp_U (F₀ := by k_asm) (by with_unfolding_all rfl) (by decide) (by rfl) (by decide) (by rfl) ?_))
  k_with "CompSrc" => (k_here; k_dflt (refine' map_src (fun c => (-c).fmod 3329) ?hh ?F ?N ?hm ?hi ?hsz ?_ ?_; (case hh => rfl); (case F => k_asm); (case N => k_asm); (case hm => k_mem); (case hi => assumption); (case hsz => (rw [sizeLine_eq]; omega)); (intro C'w9 oC'w9 h'w9 tk'w9 m2'w9 help'w9 k'w9 t'w9 hk'w9 hns'w9 hm1'w9 F'w9 N'w9; (dsimp only [List.cons_append, List.nil_append] at N'w9 ⊢)); rotate_left; (intro g'w9 ys'w9 hI'w9; unfold LCg.FinE; intro D'w9 h'w9 tk'w9 F'w9 N'w9 o1'w9)))
  revert X
  k_fill
  intro X
  have F0 : Fr h₀ L s.heap (kstB m [(nm "minus", .ref xt), (nm "after", .ref al)]) := fr_kst F (by intro p hp; simp only [List.mem_cons, List.not_mem_nil, or_false] at hp; rcases hp with rfl | rfl <;> assumption)
  clear F
  dsimp only [seg, lawBody, lawA, lawEnv, lawScope, fnBody, fnScope, PySem.Challenge.pw_yi0010_01, List.getLast?, List.getLast, List.drop, List.take, List.cons_append, List.nil_append, ringD, polyD, nm] at *
  have N2 := news_cons N i3
  clear N
  w_strict (repeat ((fail_if_success (with_reducible show wpAny _ _ (execs rest _) _ _ _)); (first | (k_unfold; (try dsimp only)) | (k_unmd; k_unfold; (try dsimp only)) | (k_end; wrow_close) | walk1 | (dsimp only; walk1) | (leave1; walk_say "STEP leave1"; (try dsimp only)) | fail "no step")))
  (with_reducible rename Fr _ _ _ _ => F9); (with_reducible rename News _ _ _ _ => N9)
  exact hret _ _ _ F9 (fun z => kstB_eq (by intro p hp; simp only [List.mem_cons, List.not_mem_nil, or_false] at hp; rcases hp with rfl | rfl <;> assumption) fun _ => rfl) (kst_newsOf N9 (by intro p hp; repeat (first | exact hp | refine List.Mem.tail _ ?_)))
  w_strict (repeat ((first | (k_unfold; (try dsimp only)) | (k_unmd; k_unfold; (try dsimp only)) | (k_end; wrow_close) | walk1 | (dsimp only; walk1) | (leave1; walk_say "STEP leave1"; (try dsimp only)) | fail "no step")))
end
end
section
open PySem PySem.W PyProof.Rows
set_option maxRecDepth 100000
section
variable {w : World} {mean : ExcName → Option Value} {mg mb : PySem.Str → Option Value} {h₀ : Heap} {L fa : Addr} {cd : Value} {m : PySem.Str → Option Value} {s : Shared} {Q : Flow → Shared → Prop} {rest : List Stmt}
set_option maxHeartbeats 2000000 in
theorem s35 {xt xr al : Addr} {na : Nat} {avs : List Value} {as ts : List Int} {own : List (Addr × Obj)}
    (K0 : Below callerA h₀ [] h₀) (X : (hd.heap_39 w.params).In h₀) (T : Top hd.view_39 (looseW hd.view_39 loo) mean mg mb h₀) (F : Fr h₀ L s.heap m)
    (m1 : m (nm "moved") = some (.ref xt)) (m3 : m (nm "after") = some (.ref al))
    (N : News h₀ L s.heap own) (i1 : PolyAt w xr own xt ts) (i3 : (al, W.listOf avs.toArray na) ∈ own) (ha : IntsAre avs as) (hl : as.length = 256)
    (e1 : ts = [(as.getD 0 0).fmod 3329] ++ as.drop 1)
    (hret : ∀ (h' : Heap) (tk' : Nat) (m' : PySem.Str → Option Value), Fr h₀ L h' m' → (∀ z, m' z = m z) → News h₀ L h' own →
      wpAny (model PySem.Challenge.rw_yi0010_01.row.prog w) (lawA L fa cd) (execs (rest) (lawEnv L fa cd)) Q (fun _ _ => False) { s with heap := h', toks := tk' }) :
    wpAny (model PySem.Challenge.rw_yi0010_01.row.prog w) (lawA L fa cd) (execs (seg 35 1 rest) (lawEnv L fa cd)) Q (fun _ _ => False) s := by
  obtain ⟨dt, ct, u1, u2, k1, k2, tvs, a1, a2, a3, a4⟩ := i1
  w_on
  k_with_none
  k_with "mem" => assumption
  k_with "compareOp NotEq ref ref" => (k_here; k_dflt (refine' ne_news ?N ?i ?j ?hi ?hj ?e ?hu ?_; (case N => k_asm); (case i => k_mem); (case j => k_mem); (case hi => assumption); (case hj => assumption); (case e => first | with_reducible rfl | assumption); (case hu => ke_room)); (try dsimp only))
  k_with "compareOp Eq ref ref" => (k_here; k_dflt (refine' eq_news ?N ?i ?j ?hi ?hj ?e ?hu ?_; (case N => k_asm); (case i => k_mem); (case j => k_mem); (case hi => assumption); (case hj => assumption); (case e => first | with_reducible rfl | assumption); (case hu => ke_room)); (try dsimp only))
  k_with "mem" => exact List.mem_append_left _ (by assumption)
  k_with "EltEnd" => exact elt_end (by k_asm) (by k_asm)
  revert X
  k_fill
  intro X
  have F0 : Fr h₀ L s.heap (kstB m [(nm "moved", .ref xt), (nm "after", .ref al)]) := fr_kst F (by intro p hp; simp only [List.mem_cons, List.not_mem_nil, or_false] at hp; rcases hp with rfl | rfl <;> assumption)
  clear F
  dsimp only [seg, lawBody, lawA, lawEnv, lawScope, fnBody, fnScope, PySem.Challenge.pw_yi0010_01, List.getLast?, List.getLast, List.drop, List.take, List.cons_append, List.nil_append, ringD, polyD, nm] at *
  have N2 := news_cons N i3
  clear N
  w_strict (repeat ((fail_if_success (with_reducible show wpAny _ _ (execs rest _) _ _ _)); (first | (k_unfold; (try dsimp only)) | (k_unmd; k_unfold; (try dsimp only)) | (k_end; wrow_close) | walk1 | (dsimp only; walk1) | (leave1; walk_say "STEP leave1"; (try dsimp only)) | fail "no step")))
  (with_reducible rename Fr _ _ _ _ => F9); (with_reducible rename News _ _ _ _ => N9)
  exact hret _ _ _ F9 (fun z => kstB_eq (by intro p hp; simp only [List.mem_cons, List.not_mem_nil, or_false] at hp; rcases hp with rfl | rfl <;> assumption) fun _ => rfl) (kst_newsOf N9 (by intro p hp; repeat (first | exact hp | refine List.Mem.tail _ ?_)))
end
end
section
open PySem PySem.W PyProof.Rows
set_option maxRecDepth 100000
section
variable {w : World} {mean : ExcName → Option Value} {mg mb : PySem.Str → Option Value} {h₀ : Heap} {L fa : Addr} {cd : Value} {m : PySem.Str → Option Value} {s : Shared} {Q : Flow → Shared → Prop} {rest : List Stmt}
set_option maxHeartbeats 2000000 in
theorem s36 {sl wl al xr dr zz : Addr} {tp tn t3 t4 t5 t6 t7 t8 t9 : Tok} {ns nw na nr : Nat} {pl num : Int} {svs wvs avs : List Value} {st ws : List Int} {own : List (Addr × Obj)}
    (K0 : Below callerA h₀ [] h₀) (X : (hd.heap_39 w.params).In h₀) (T : Top hd.view_39 (looseW hd.view_39 loo) mean mg mb h₀) (F : Fr h₀ L s.heap m)
    (m1 : m (nm "start") = some (.ref sl)) (m2 : m (nm "want") = some (.ref wl)) (m3 : m (nm "after") = some (.ref al)) (m4 : m (nm "place") = some (.int pl tp)) (m5 : m (nm "number") = some (.int num tn)) (m6 : m (nm "ring") = some (.ref xr)) (p0 : 0 ≤ pl) (p1 : pl < 256)
    (N : News h₀ L s.heap own) (i1 : (sl, W.listOf svs.toArray ns) ∈ own) (i2 : (wl, W.listOf wvs.toArray nw) ∈ own) (i3 : (al, W.listOf avs.toArray na) ∈ own) (i4 : (xr, instObj 280 dr) ∈ own) (i5 : (dr, ringD w zz t3 t4 t5 t6 t7 t8 t9 nr) ∈ own)
    (h1 : IntsAre svs st) (hl : st.length = 256) (h2 : IntsAre wvs (st.map fun c => c.fmod 3329)) (h3 : IntsAre avs ((st.map fun c => c.fmod 3329).set pl.toNat num))
    (hret : ∀ (h' : Heap) (tk' : Nat) (m' : PySem.Str → Option Value) (rl : Addr) (rn : Nat) (own' : List (Addr × Obj)), Fr h₀ L h' m' → m' (nm "row") = some (.ref rl) → (∀ z, z ∉ [nm "row", nm "p", nm "r"] → m' z = m z) → (rl, W.listOf svs.toArray rn) ∈ own' → (∀ p ∈ own, p ∈ own') → News h₀ L h' own' →
      wpAny (model PySem.Challenge.rw_yi0010_01.row.prog w) (lawA L fa cd) (execs (rest) (lawEnv L fa cd)) Q (fun _ _ => False) { s with heap := h', toks := tk' }) :
    wpAny (model PySem.Challenge.rw_yi0010_01.row.prog w) (lawA L fa cd) (execs (seg 36 6 rest) (lawEnv L fa cd)) Q (fun _ _ => False) s := by
  w_on
  k_with_none
  k_with "mem" => assumption
  k_with "compareOp NotEq ref ref" => (k_here; k_dflt (refine' ne_news ?N ?i ?j ?hi ?hj ?e ?hu ?_; (case N => k_asm); (case i => k_mem); (case j => k_mem); (case hi => assumption); (case hj => assumption); (case e => first | with_reducible rfl | assumption); (case hu => ke_room)); (try dsimp only))
  k_with "compareOp Eq ref ref" => (k_here; k_dflt (refine' eq_news ?N ?i ?j ?hi ?hj ?e ?hu ?_; (case N => k_asm); (case i => k_mem); (case j => k_mem); (case hi => assumption); (case hj => assumption); (case e => first | with_reducible rfl | assumption); (case hu => ke_room)); (try dsimp only))
  k_with "mem" => exact List.mem_append_left _ (by assumption)
  k_with "room" => first | ktr_room | (simp only [depth_under_make, depth_under_kw, depth_in1, depth_deeper]; omega)
  k_with "call ref" => (k_here; (k_dflt (refine' ring_full_led ?B ?F ?X ?T ?hk ?hdp ?hun ?N ?i1 ?i2 ?i3 ?hc ?hx ?_; (case F => k_asm); (case B => assumption); (case X => assumption); (case T => assumption); (case hk => exact rfl); (case N => k_asm); (case i1 => k_mem); (case i2 => k_mem); (case i3 => k_mem); (case hc => assumption); (case hx => first | assumption | (simp only [List.length_map, List.length_set]; assumption)); (case hdp => exact Nat.le_of_ble_eq_true rfl); (case hun => exact Nat.le_of_ble_eq_true rfl))); intro x'w9 d'w9 u1w9 u2w9 h'w9 tk'w9 F'w9 l1w9 l2w9 N'w9; (try dsimp only at N'w9); (try k_lt l1w9); (try k_lt2 l2w9))
  k_with "all" => first | assumption | exact off1_mem (by assumption)
  revert X
  k_fill
  intro X
  have F0 : Fr h₀ L s.heap (kstB m [(nm "start", .ref sl), (nm "want", .ref wl), (nm "after", .ref al), (nm "place", .int pl tp), (nm "number", .int num tn), (nm "ring", .ref xr)]) := fr_kst F (by intro p hp; simp only [List.mem_cons, List.not_mem_nil, or_false] at hp; rcases hp with rfl | rfl | rfl | rfl | rfl | rfl <;> assumption)
  clear F
  dsimp only [seg, lawBody, lawA, lawEnv, lawScope, fnBody, fnScope, PySem.Challenge.pw_yi0010_01, List.getLast?, List.getLast, List.drop, List.take, List.cons_append, List.nil_append, ringD, polyD, nm] at *
  have N2 := news_cons N i1
  clear N
  w_strict (repeat ((fail_if_success (with_reducible show wpAny _ _ (execs rest _) _ _ _)); (first | (k_unfold; (try dsimp only)) | (k_unmd; k_unfold; (try dsimp only)) | (k_end; wrow_close) | walk1 | (dsimp only; walk1) | (leave1; walk_say "STEP leave1"; (try dsimp only)) | fail "no step")))
  (with_reducible rename Fr _ _ _ _ => F9); (with_reducible rename News _ _ _ _ => N9)
  refine' hret _ _ _ _ ?rn _ F9 rfl ?hm ?hi ?hs N9
  case hi => k_mem
  case hm =>
    intro z hz
    simp only [List.mem_cons, List.not_mem_nil, or_false, not_or] at hz
    simp only [if_neg hz.1, if_neg hz.2.1, if_neg hz.2.2]
    exact kstB_eq (by intro p hp; simp only [List.mem_cons, List.not_mem_nil, or_false] at hp; rcases hp with rfl | rfl | rfl | rfl | rfl | rfl <;> assumption) fun _ => rfl
  case hs => intro p hp; repeat (first | exact hp | refine List.Mem.tail _ ?_)
end
end
section
open PySem PySem.W PyProof.Rows
set_option maxRecDepth 100000
section
variable {w : World} {mean : ExcName → Option Value} {mg mb : PySem.Str → Option Value} {h₀ : Heap} {L fa : Addr} {cd : Value} {m : PySem.Str → Option Value} {s : Shared} {Q : Flow → Shared → Prop} {rest : List Stmt}
set_option maxHeartbeats 4000000 in
theorem s42 {sl rl xr dr zz : Addr} {oz : Obj} {tb t3 t4 t5 t6 t7 t8 t9 : Tok} {ns rn nr : Nat} {b : Int} {svs : List Value} {st : List Int} {own : List (Addr × Obj)}
    (K0 : Below callerA h₀ [] h₀) (X : (hd.heap_39 w.params).In h₀) (T : Top hd.view_39 (looseW hd.view_39 loo) mean mg mb h₀) (F : Fr h₀ L s.heap m)
    (m1 : m (nm "start") = some (.ref sl)) (m2 : m (nm "row") = some (.ref rl)) (m4 : m (nm "bits") = some (.int b tb)) (m6 : m (nm "ring") = some (.ref xr)) (b0 : 1 ≤ b) (b1 : b ≤ 12)
    (N : News h₀ L s.heap own) (i1 : (sl, W.listOf svs.toArray ns) ∈ own) (i2 : (rl, W.listOf svs.toArray rn) ∈ own) (i4 : (xr, instObj 280 dr) ∈ own) (i5 : (dr, ringD w zz t3 t4 t5 t6 t7 t8 t9 nr) ∈ own)
    (iz : (L + 1 + 1, oz) ∈ own) (hz : oz.data = .cell none)
    (h1 : IntsAre svs st) (hl : st.length = 256)
    (hret : ∀ (h' : Heap) (tk' : Nat) (m' : PySem.Str → Option Value), Fr h₀ L h' m' → Q (.ret (.bool true)) { s with heap := h', toks := tk' }) :
    wpAny (model PySem.Challenge.rw_yi0010_01.row.prog w) (lawA L fa cd) (execs (seg 42 8 rest) (lawEnv L fa cd)) Q (fun _ _ => False) s := by
  have nz : ∀ (a : Addr) (o : Obj), (a, o) ∈ own → (∀ v, o.data ≠ .cell v) → a ≠ L + 1 + 1 := by
    intro a o hi hd e
    have g1 := (N _ hi).1
    have g2 := (N _ iz).1
    dsimp only at g1 g2
    rw [e, g2] at g1
    have g3 := Option.some.inj g1
    rw [← g3] at hd
    exact hd _ hz
  have n1 : @Ne Nat sl (L + 1 + 1) := nz _ _ i1 (fun v h => nomatch h)
  have n2 : @Ne Nat rl (L + 1 + 1) := nz _ _ i2 (fun v h => nomatch h)
  obtain ⟨own2, hown2⟩ : ∃ o, o = own.filter (fun p => decide (p.1 ≠ L + 1 + 1)) := ⟨_, rfl⟩
  have j4 : (xr, instObj 280 dr) ∈ own2 := by rw [hown2]; exact List.mem_filter.mpr ⟨i4, by simpa using nz _ _ i4 (fun v h => nomatch h)⟩
  have j5 : (dr, ringD w zz t3 t4 t5 t6 t7 t8 t9 nr) ∈ own2 := by rw [hown2]; exact List.mem_filter.mpr ⟨i5, by simpa using nz _ _ i5 (fun v h => nomatch h)⟩
  have off2 : ∀ p ∈ own2, p.1 ≠ L + 1 + 1 := by rw [hown2]; intro p hp; simpa using (List.mem_filter.mp hp).2
  have N2 : News h₀ L s.heap ((L + 1 + 1, oz) :: (rl, W.listOf svs.toArray rn) :: (sl, W.listOf svs.toArray ns) :: own2) := by
    intro p hp
    rcases List.mem_cons.mp hp with rfl | hp
    · exact N _ iz
    rcases List.mem_cons.mp hp with rfl | hp
    · exact N _ i2
    rcases List.mem_cons.mp hp with rfl | hp
    · exact N _ i1
    rw [hown2] at hp
    exact N _ (List.mem_filter.mp hp).1
  have hB : IsB b := ⟨b0, b1⟩
  obtain ⟨q0, q1⟩ := pow_rng (b := b) (by omega) b1
  have hc1 : (st.map fun k' => ((1 * 2 ^ Int.toNat b * k' + 1664).fdiv 3329).fmod (1 * 2 ^ Int.toNat b)) = st.map (sG hB) := List.map_congr_left fun _ _ => cg_eq
  have hc2 := large_eq hB st
  clear N nz i1 i2 i4 i5 iz hown2
  w_on
  k_with_none
  k_with "mem" => assumption
  k_with "compareOp NotEq ref ref" => (k_here; k_dflt (refine' ne_news ?N ?i ?j ?hi ?hj ?e ?hu ?_; (case N => k_asm); (case i => k_mem); (case j => k_mem); (case hi => assumption); (case hj => assumption); (case e => first | with_reducible rfl | assumption); (case hu => ke_room)); (try dsimp only))
  k_with "compareOp Eq ref ref" => (k_here; k_dflt (refine' eq_news ?N ?i ?j ?hi ?hj ?e ?hu ?_; (case N => k_asm); (case i => k_mem); (case j => k_mem); (case hi => assumption); (case hj => assumption); (case e => first | with_reducible rfl | assumption); (case hu => ke_room)); (try dsimp only))
  k_with "mem" => exact List.mem_append_left _ (by assumption)
  k_with "room" => first | ktr_room | (simp only [depth_under_make, depth_under_kw, depth_in1, depth_deeper]; omega)
  k_with "call ref" => (k_here; (k_dflt (refine' ring_full_led ?B ?F ?X ?T ?hk ?hdp ?hun ?N ?i1 ?i2 ?i3 ?hc ?hx ?_; (case F => k_asm); (case B => assumption); (case X => assumption); (case T => assumption); (case hk => exact rfl); (case N => k_asm); (case i1 => k_mem); (case i2 => k_mem); (case i3 => k_mem); (case hc => assumption); (case hx => first | assumption | (simp only [List.length_map, List.length_set]; assumption)); (case hdp => exact Nat.le_of_ble_eq_true rfl); (case hun => exact Nat.le_of_ble_eq_true rfl))); intro x'w9 d'w9 u1w9 u2w9 h'w9 tk'w9 F'w9 l1w9 l2w9 N'w9; (try dsimp only at N'w9); (try k_lt l1w9); (try k_lt2 l2w9))
  k_with "all" => first | assumption | exact off1_mem (by assumption)
  k_with "binaryOp Mult int int" => (k_here; first | refine mul_lo (by omega) (by omega) ?_ | refine mul_ro (by omega) (by omega) ?_)
  k_with "EltEnd" => (refine elt_end_eq ?kee (by k_asm) (by k_asm); (case kee => first | exact sG_pos (by assumption) | exact sG_neg (by assumption) | exact lG_pos (by assumption) | exact lG_eq (by assumption) | exact lG_neg (by assumption) (by assumption)))
  k_with "exec Assign cons ListComp" => (k_here; k_dflt (refine LCg.Assign_ListComp_U (F₀ := by k_asm) (by rfl) (by with_unfolding_all rfl) (by with_unfolding_all rfl) (by decide) (by rfl) (by decide) (by rfl) (by rfl) (by rfl) ?_))
  k_with "CompSrc" => (k_here; (with_reducible show LCg.CompSrc _ _ _ _ _ _ _ (Expr.BinOp (Expr.Call _ _ _ _) _ _ _) _ _ _ _ _ _); k_dflt (refine' map_src (sG (by assumption)) ?hh ?F ?N ?hm ?hi ?hsz ?_ ?_; (case hh => rfl); (case F => k_asm); (case N => k_asm); (case hm => k_mem); (case hi => assumption); (case hsz => (rw [sizeLine_eq]; omega)); (intro C'w9 oC'w9 h'w9 tk'w9 m2'w9 help'w9 k'w9 t'w9 hk'w9 hns'w9 hm1'w9 F'w9 N'w9; (dsimp only [List.cons_append, List.nil_append] at N'w9 ⊢)); rotate_left; (intro g'w9 ys'w9 hI'w9; unfold LCg.FinA; intro D'w9 h'w9 tk'w9 F'w9 N'w9 o1'w9; (try simp only [LCg.Off1, and_true] at o1'w9))))
  revert X
  k_fill
  intro X
  have F0 : Fr h₀ L s.heap (kstB m [(nm "start", .ref sl), (nm "row", .ref rl), (nm "bits", .int b tb), (nm "ring", .ref xr)]) := fr_kst F (by intro p hp; simp only [List.mem_cons, List.not_mem_nil, or_false] at hp; rcases hp with rfl | rfl | rfl | rfl <;> assumption)
  clear F
  dsimp only [seg, lawBody, lawA, lawEnv, lawScope, fnBody, fnScope, PySem.Challenge.pw_yi0010_01, List.getLast?, List.getLast, List.drop, List.take, List.cons_append, List.nil_append, ringD, polyD, nm] at *
  w_strict (repeat ((fail_if_success (with_reducible show wpAny _ _ (execs rest _) _ _ _)); (first | (k_unfold; (try dsimp only)) | (k_unmd; k_unfold; (try dsimp only)) | (k_end; wrow_close) | walk1 | (dsimp only; walk1) | (leave1; walk_say "STEP leave1"; (try dsimp only)) | fail "no step")))
  (with_reducible rename Fr _ _ _ _ => F9)
  exact hret _ _ _ F9
end
end
section
theorem map_fmod (xs : List Int) : xs.map (· % 3329) = xs.map fun (c : Int) => c.fmod 3329 :=
  List.map_congr_left fun a _ => (Int.fmod_eq_emod_of_nonneg a (by decide)).symm
theorem times_back (zt : Int → Int) (hz : ZOk zt) (xs : List Int) (hx : xs.length = 256) (d : Nat) (h1 : 1 ≤ d) (h3 : d ≤ 3) : times (ofN zt) d (times (toN zt) d xs) = xs.map fun (c : Int) => c.fmod 3329 := by
  rw [← map_fmod]
  have h : d = 1 ∨ d = 2 ∨ d = 3 := by omega
  rcases h with rfl | rfl | rfl
  · exact ofN_toN zt hz xs hx
  · exact turns2 zt hz xs hx
  · exact turns3 zt hz xs hx
theorem tw_eq (as : List Int) : (as.map fun (a : Int) => (a + a).fmod 3329) = as.map fun (c : Int) => (2 * c).fmod 3329 := List.map_congr_left fun a _ => by rw [Int.two_mul]
theorem no_eq (as : List Int) (h : as.length = 256) : (as.map fun (a : Int) => (a - a).fmod 3329) = List.replicate 256 0 := by
  have e : (fun (a : Int) => (a - a).fmod 3329) = fun _ => 0 := by funext a; rw [Int.sub_self]; rfl
  rw [e, List.map_const', h]
theorem sm_eq (as : List Int) : (as.map fun (a : Int) => (a * 1).fmod 3329) = as.map fun (c : Int) => c.fmod 3329 := List.map_congr_left fun a _ => by rw [Int.mul_one]
theorem mv_eq (as : List Int) (h : as.length = 256) : as.set 0 ((as.getD 0 0 + 0).fmod 3329) = [(as.getD 0 0).fmod 3329] ++ as.drop 1 := by
  cases as with
  | nil => cases h
  | cons a r => simp
end
section
open PySem PySem.W PyProof.Rows
set_option maxRecDepth 100000
theorem seg_at (i n j : Nat) (h : i + n = j) : seg i n (lawBody.drop j) = lawBody.drop i := by rw [← h]; exact seg_drop i n
section
variable {w : World} {mean : ExcName → Option Value} {mg mb : PySem.Str → Option Value} {h₀ : Heap} {L fa : Addr} {cd : Value} {m : PySem.Str → Option Value} {s : Shared} {Q : Flow → Shared → Prop}
set_option maxHeartbeats 2000000 in
theorem tail26 {cc xf df xr dr zz sl wl al : Addr} {oz : Obj} {tp tn tb t1 t2 t3 t4 t5 t6 t7 t8 t9 : Tok} {nc nf nr ns nw na : Nat} {pl num b : Int} {cvs svs wvs avs : List Value} {st : List Int} {own : List (Addr × Obj)}
    (K0 : Below callerA h₀ [] h₀) (X : (hd.heap_39 w.params).In h₀) (T : Top hd.view_39 (looseW hd.view_39 loo) mean mg mb h₀) (F : Fr h₀ L s.heap m)
    (n_f : m (nm "f") = some (.ref xf)) (n_place : m (nm "place") = some (.int pl tp)) (n_number : m (nm "number") = some (.int num tn)) (n_bits : m (nm "bits") = some (.int b tb)) (n_ring : m (nm "ring") = some (.ref xr)) (n_start : m (nm "start") = some (.ref sl)) (n_want : m (nm "want") = some (.ref wl)) (n_after : m (nm "after") = some (.ref al))
    (p0 : 0 ≤ pl) (p1 : pl < 256) (b0 : 1 ≤ b) (b1 : b ≤ 12)
    (N : News h₀ L s.heap ((cc, W.listOf cvs.toArray nc) :: own)) (hoff : ∀ p ∈ own, p.1 ≠ cc) (i_f : (xf, instObj 344 df) ∈ own) (i_d : (df, polyD w xr cc t1 t2 nf) ∈ own) (i_x : (xr, instObj 280 dr) ∈ own) (i_r : (dr, ringD w zz t3 t4 t5 t6 t7 t8 t9 nr) ∈ own)
    (i_s : (sl, W.listOf svs.toArray ns) ∈ own) (i_w : (wl, W.listOf wvs.toArray nw) ∈ own) (i_a : (al, W.listOf avs.toArray na) ∈ own) (i_z : (L + 1 + 1, oz) ∈ own) (hoz : oz.data = .cell none)
    (hl : st.length = 256) (hs : IntsAre svs st) (hw : IntsAre wvs (st.map fun (c : Int) => c.fmod 3329)) (ha : IntsAre avs ((st.map fun (c : Int) => c.fmod 3329).set pl.toNat num)) (hc : IntsAre cvs ((st.map fun (c : Int) => c.fmod 3329).set pl.toNat num))
    (hret : ∀ (h' : Heap) (tk' : Nat) (m' : PySem.Str → Option Value), Fr h₀ L h' m' → Q (.ret (.bool true)) { s with heap := h', toks := tk' }) :
    wpAny (model PySem.Challenge.rw_yi0010_01.row.prog w) (lawA L fa cd) (execs (lawBody.drop 26) (lawEnv L fa cd)) Q (fun _ _ => False) s := by
  have hla : ((st.map fun (c : Int) => c.fmod 3329).set pl.toNat num).length = 256 := by rw [List.length_set, List.length_map, hl]
  obtain ⟨as, has⟩ : ∃ o, o = (st.map fun (c : Int) => c.fmod 3329).set pl.toNat num := ⟨_, rfl⟩
  have ha2 := ha
  have hc2 := hc
  rw [← has] at ha2 hc2 hla
  rw [← seg_at 26 1 27 rfl]
  refine s26 K0 X T F n_f N hoff i_f i_d i_x i_r hc2 hla fun h26 tk26 m26 x_twice own26 F26 n_twice hm pt_twice sub hoff26 N26 => ?_
  replace n_f := (hm _ (by decide)).trans n_f
  replace n_place := (hm _ (by decide)).trans n_place
  replace n_number := (hm _ (by decide)).trans n_number
  replace n_bits := (hm _ (by decide)).trans n_bits
  replace n_ring := (hm _ (by decide)).trans n_ring
  replace n_start := (hm _ (by decide)).trans n_start
  replace n_want := (hm _ (by decide)).trans n_want
  replace n_after := (hm _ (by decide)).trans n_after
  replace i_f := sub _ i_f
  replace i_d := sub _ i_d
  replace i_x := sub _ i_x
  replace i_r := sub _ i_r
  replace i_s := sub _ i_s
  replace i_w := sub _ i_w
  replace i_a := sub _ i_a
  replace i_z := sub _ i_z
  clear F N hoff hm sub
  have F := F26
  have N := N26
  have hoff := hoff26
  clear F26 N26 hoff26
  rw [← seg_at 27 1 28 rfl]
  refine s27 K0 X T F n_f N hoff i_f i_d i_x i_r hc2 hla fun h27 tk27 m27 x_none own27 F27 n_none hm pt_none sub hoff27 N27 => ?_
  replace n_f := (hm _ (by decide)).trans n_f
  replace n_place := (hm _ (by decide)).trans n_place
  replace n_number := (hm _ (by decide)).trans n_number
  replace n_bits := (hm _ (by decide)).trans n_bits
  replace n_ring := (hm _ (by decide)).trans n_ring
  replace n_start := (hm _ (by decide)).trans n_start
  replace n_want := (hm _ (by decide)).trans n_want
  replace n_after := (hm _ (by decide)).trans n_after
  replace n_twice := (hm _ (by decide)).trans n_twice
  replace i_f := sub _ i_f
  replace i_d := sub _ i_d
  replace i_x := sub _ i_x
  replace i_r := sub _ i_r
  replace i_s := sub _ i_s
  replace i_w := sub _ i_w
  replace i_a := sub _ i_a
  replace i_z := sub _ i_z
  replace pt_twice := PolyAt.mono pt_twice sub
  clear F N hoff hm sub
  have F := F27
  have N := N27
  have hoff := hoff27
  clear F27 N27 hoff27
  rw [← seg_at 28 1 29 rfl]
  refine s28 K0 X T F n_f N hoff i_f i_d i_x i_r hc2 hla fun h28 tk28 m28 x_same own28 F28 n_same hm pt_same sub hoff28 N28 => ?_
  replace n_f := (hm _ (by decide)).trans n_f
  replace n_place := (hm _ (by decide)).trans n_place
  replace n_number := (hm _ (by decide)).trans n_number
  replace n_bits := (hm _ (by decide)).trans n_bits
  replace n_ring := (hm _ (by decide)).trans n_ring
  replace n_start := (hm _ (by decide)).trans n_start
  replace n_want := (hm _ (by decide)).trans n_want
  replace n_after := (hm _ (by decide)).trans n_after
  replace n_twice := (hm _ (by decide)).trans n_twice
  replace n_none := (hm _ (by decide)).trans n_none
  replace i_f := sub _ i_f
  replace i_d := sub _ i_d
  replace i_x := sub _ i_x
  replace i_r := sub _ i_r
  replace i_s := sub _ i_s
  replace i_w := sub _ i_w
  replace i_a := sub _ i_a
  replace i_z := sub _ i_z
  replace pt_twice := PolyAt.mono pt_twice sub
  replace pt_none := PolyAt.mono pt_none sub
  clear F N hoff hm sub
  have F := F28
  have N := N28
  have hoff := hoff28
  clear F28 N28 hoff28
  rw [← seg_at 29 1 30 rfl]
  refine s29 K0 X T F n_f N hoff i_f i_d i_x i_r hc2 hla fun h29 tk29 m29 x_minus own29 F29 n_minus hm pt_minus sub hoff29 N29 => ?_
  replace n_f := (hm _ (by decide)).trans n_f
  replace n_place := (hm _ (by decide)).trans n_place
  replace n_number := (hm _ (by decide)).trans n_number
  replace n_bits := (hm _ (by decide)).trans n_bits
  replace n_ring := (hm _ (by decide)).trans n_ring
  replace n_start := (hm _ (by decide)).trans n_start
  replace n_want := (hm _ (by decide)).trans n_want
  replace n_after := (hm _ (by decide)).trans n_after
  replace n_twice := (hm _ (by decide)).trans n_twice
  replace n_none := (hm _ (by decide)).trans n_none
  replace n_same := (hm _ (by decide)).trans n_same
  replace i_f := sub _ i_f
  replace i_d := sub _ i_d
  replace i_x := sub _ i_x
  replace i_r := sub _ i_r
  replace i_s := sub _ i_s
  replace i_w := sub _ i_w
  replace i_a := sub _ i_a
  replace i_z := sub _ i_z
  replace pt_twice := PolyAt.mono pt_twice sub
  replace pt_none := PolyAt.mono pt_none sub
  replace pt_same := PolyAt.mono pt_same sub
  clear F N hoff hm sub
  have F := F29
  have N := N29
  have hoff := hoff29
  clear F29 N29 hoff29
  rw [← seg_at 30 1 31 rfl]
  refine s30 K0 X T F n_f N hoff i_f i_d i_x i_r hc2 hla fun h30 tk30 m30 x_moved own30 F30 n_moved hm pt_moved sub hoff30 N30 => ?_
  replace n_f := (hm _ (by decide)).trans n_f
  replace n_place := (hm _ (by decide)).trans n_place
  replace n_number := (hm _ (by decide)).trans n_number
  replace n_bits := (hm _ (by decide)).trans n_bits
  replace n_ring := (hm _ (by decide)).trans n_ring
  replace n_start := (hm _ (by decide)).trans n_start
  replace n_want := (hm _ (by decide)).trans n_want
  replace n_after := (hm _ (by decide)).trans n_after
  replace n_twice := (hm _ (by decide)).trans n_twice
  replace n_none := (hm _ (by decide)).trans n_none
  replace n_same := (hm _ (by decide)).trans n_same
  replace n_minus := (hm _ (by decide)).trans n_minus
  replace i_f := sub _ i_f
  replace i_d := sub _ i_d
  replace i_x := sub _ i_x
  replace i_r := sub _ i_r
  replace i_s := sub _ i_s
  replace i_w := sub _ i_w
  replace i_a := sub _ i_a
  replace i_z := sub _ i_z
  replace pt_twice := PolyAt.mono pt_twice sub
  replace pt_none := PolyAt.mono pt_none sub
  replace pt_same := PolyAt.mono pt_same sub
  replace pt_minus := PolyAt.mono pt_minus sub
  clear F N hoff hm sub
  have F := F30
  have N := N30
  have hoff := hoff30
  clear F30 N30 hoff30
  rw [← seg_at 31 1 32 rfl]
  refine s31 K0 X T F n_f n_place n_number p0 p1 N hoff i_f i_d hc2 hla fun h31 tk31 m31 vs31 F31 hm hc3 N31 => ?_
  replace n_f := (hm _).trans n_f
  replace n_place := (hm _).trans n_place
  replace n_number := (hm _).trans n_number
  replace n_bits := (hm _).trans n_bits
  replace n_ring := (hm _).trans n_ring
  replace n_start := (hm _).trans n_start
  replace n_want := (hm _).trans n_want
  replace n_after := (hm _).trans n_after
  replace n_twice := (hm _).trans n_twice
  replace n_none := (hm _).trans n_none
  replace n_same := (hm _).trans n_same
  replace n_minus := (hm _).trans n_minus
  replace n_moved := (hm _).trans n_moved
  clear F N hm
  have F := F31
  have N := news_tail N31
  clear F31 N31
  rw [← seg_at 32 1 33 rfl]
  refine s32 K0 X T F n_twice n_none n_after N pt_twice pt_none i_a ha2 hla (tw_eq as) (no_eq as hla) fun h32 tk32 m32 F32 hm N32 => ?_
  replace n_f := (hm _).trans n_f
  replace n_place := (hm _).trans n_place
  replace n_number := (hm _).trans n_number
  replace n_bits := (hm _).trans n_bits
  replace n_ring := (hm _).trans n_ring
  replace n_start := (hm _).trans n_start
  replace n_want := (hm _).trans n_want
  replace n_after := (hm _).trans n_after
  replace n_twice := (hm _).trans n_twice
  replace n_none := (hm _).trans n_none
  replace n_same := (hm _).trans n_same
  replace n_minus := (hm _).trans n_minus
  replace n_moved := (hm _).trans n_moved
  clear F N hm
  have F := F32
  have N := N32
  clear F32 N32
  rw [← seg_at 33 1 34 rfl]
  refine s33 K0 X T F n_same n_after N pt_same i_a ha2 hla (sm_eq as) fun h33 tk33 m33 F33 hm N33 => ?_
  replace n_f := (hm _).trans n_f
  replace n_place := (hm _).trans n_place
  replace n_number := (hm _).trans n_number
  replace n_bits := (hm _).trans n_bits
  replace n_ring := (hm _).trans n_ring
  replace n_start := (hm _).trans n_start
  replace n_want := (hm _).trans n_want
  replace n_after := (hm _).trans n_after
  replace n_twice := (hm _).trans n_twice
  replace n_none := (hm _).trans n_none
  replace n_same := (hm _).trans n_same
  replace n_minus := (hm _).trans n_minus
  replace n_moved := (hm _).trans n_moved
  clear F N hm
  have F := F33
  have N := N33
  clear F33 N33
  rw [← seg_at 34 1 35 rfl]
  refine s34 K0 X T F n_minus n_after N pt_minus i_a ha2 hla rfl fun h34 tk34 m34 F34 hm N34 => ?_
  replace n_f := (hm _).trans n_f
  replace n_place := (hm _).trans n_place
  replace n_number := (hm _).trans n_number
  replace n_bits := (hm _).trans n_bits
  replace n_ring := (hm _).trans n_ring
  replace n_start := (hm _).trans n_start
  replace n_want := (hm _).trans n_want
  replace n_after := (hm _).trans n_after
  replace n_twice := (hm _).trans n_twice
  replace n_none := (hm _).trans n_none
  replace n_same := (hm _).trans n_same
  replace n_minus := (hm _).trans n_minus
  replace n_moved := (hm _).trans n_moved
  clear F N hm
  have F := F34
  have N := N34
  clear F34 N34
  rw [← seg_at 35 1 36 rfl]
  refine s35 K0 X T F n_moved n_after N pt_moved i_a ha2 hla (mv_eq as hla) fun h35 tk35 m35 F35 hm N35 => ?_
  replace n_f := (hm _).trans n_f
  replace n_place := (hm _).trans n_place
  replace n_number := (hm _).trans n_number
  replace n_bits := (hm _).trans n_bits
  replace n_ring := (hm _).trans n_ring
  replace n_start := (hm _).trans n_start
  replace n_want := (hm _).trans n_want
  replace n_after := (hm _).trans n_after
  replace n_twice := (hm _).trans n_twice
  replace n_none := (hm _).trans n_none
  replace n_same := (hm _).trans n_same
  replace n_minus := (hm _).trans n_minus
  replace n_moved := (hm _).trans n_moved
  clear F N hm
  have F := F35
  have N := N35
  clear F35 N35
  rw [← seg_at 36 6 42 rfl]
  refine s36 (ws := st) K0 X T F n_start n_want n_after n_place n_number n_ring p0 p1 N i_s i_w i_a i_x i_r hs hl hw ha fun h36 tk36 m36 rl rn own36 F36 n_row hm i_row sub N36 => ?_
  replace n_f := (hm _ (by decide)).trans n_f
  replace n_place := (hm _ (by decide)).trans n_place
  replace n_number := (hm _ (by decide)).trans n_number
  replace n_bits := (hm _ (by decide)).trans n_bits
  replace n_ring := (hm _ (by decide)).trans n_ring
  replace n_start := (hm _ (by decide)).trans n_start
  replace n_want := (hm _ (by decide)).trans n_want
  replace n_after := (hm _ (by decide)).trans n_after
  replace n_twice := (hm _ (by decide)).trans n_twice
  replace n_none := (hm _ (by decide)).trans n_none
  replace n_same := (hm _ (by decide)).trans n_same
  replace n_minus := (hm _ (by decide)).trans n_minus
  replace n_moved := (hm _ (by decide)).trans n_moved
  replace i_f := sub _ i_f
  replace i_d := sub _ i_d
  replace i_x := sub _ i_x
  replace i_r := sub _ i_r
  replace i_s := sub _ i_s
  replace i_w := sub _ i_w
  replace i_a := sub _ i_a
  replace i_z := sub _ i_z
  replace pt_twice := PolyAt.mono pt_twice sub
  replace pt_none := PolyAt.mono pt_none sub
  replace pt_same := PolyAt.mono pt_same sub
  replace pt_minus := PolyAt.mono pt_minus sub
  replace pt_moved := PolyAt.mono pt_moved sub
  rw [← seg_at 42 8 50 rfl]
  refine s42 K0 X T F36 n_start n_row n_bits n_ring b0 b1 N36 i_s i_row i_x i_r i_z hoz hs hl fun h42 tk42 m42 F42 => ?_
  exact hret _ _ _ F42
set_option maxHeartbeats 2000000 in
theorem midF {gl kl xr dr zz sl wl al : Addr} {oz : Obj} {tm tp tn td tb t3 t4 t5 t6 t7 t8 t9 : Tok} {nr nz n1 n2 ns nw na deep : Nat} {M pl num b : Int} {gvs kvs svs wvs avs zvs : List Value} {gs st : List Int} {own : List (Addr × Obj)}
    (K0 : Below callerA h₀ [] h₀) (X : (hd.heap_39 w.params).In h₀) (T : Top hd.view_39 (looseW hd.view_39 loo) mean mg mb h₀) (F : Fr h₀ L s.heap m)
    (n_many : m (nm "many") = some (.int 256 tm)) (n_place : m (nm "place") = some (.int pl tp)) (n_number : m (nm "number") = some (.int num tn)) (n_deep : m (nm "deep") = some (.int (deep : Int) td)) (n_bits : m (nm "bits") = some (.int b tb)) (n_ring : m (nm "ring") = some (.ref xr)) (n_given : m (nm "given") = some (.ref gl)) (n_kept : m (nm "kept") = some (.ref kl)) (n_start : m (nm "start") = some (.ref sl)) (n_want : m (nm "want") = some (.ref wl)) (n_after : m (nm "after") = some (.ref al))
    (p0 : 0 ≤ pl) (p1 : pl < 256) (b0 : 1 ≤ b) (b1 : b ≤ 12) (d1 : 1 ≤ deep) (d3 : deep ≤ 3)
    (N : News h₀ L s.heap ((gl, W.listOf gvs.toArray n1) :: own)) (hoff : ∀ p ∈ own, p.1 ≠ gl) (i_x : (xr, instObj 280 dr) ∈ own) (i_r : (dr, ringD w zz t3 t4 t5 t6 t7 t8 t9 nr) ∈ own) (i_zz : (zz, W.listOf zvs.toArray nz) ∈ own)
    (i_k : (kl, W.listOf kvs.toArray n2) ∈ own) (i_s : (sl, W.listOf svs.toArray ns) ∈ own) (i_w : (wl, W.listOf wvs.toArray nw) ∈ own) (i_a : (al, W.listOf avs.toArray na) ∈ own) (i_z : (L + 1 + 1, oz) ∈ own) (hoz : oz.data = .cell none)
    (hz : IntsAre zvs ((rangeKs 0 128).map zeta)) (hg : IntsAre gvs gs) (hk : IntsAre kvs gs)
    (hgs : gs = st)
    (hl : st.length = 256) (hs : IntsAre svs st) (hw : IntsAre wvs (st.map fun (c : Int) => c.fmod 3329)) (ha : IntsAre avs ((st.map fun (c : Int) => c.fmod 3329).set pl.toNat num))
    (hret : ∀ (h' : Heap) (tk' : Nat) (m' : PySem.Str → Option Value), Fr h₀ L h' m' → Q (.ret (.bool true)) { s with heap := h', toks := tk' }) :
    wpAny (model PySem.Challenge.rw_yi0010_01.row.prog w) (lawA L fa cd) (execs (lawBody.drop 13) (lawEnv L fa cd)) Q (fun _ _ => False) s := by
  have hd3 : Le3 deep := d3
  have hl2 : (times (toN zeta) deep st).length = 256 := by rw [times_len (toN_len zeta), hl]
  have hback := times_back zeta zeta_ok st hl deep d1 d3
  have hlw : (st.map fun (c : Int) => c.fmod 3329).length = 256 := by rw [List.length_map, hl]
  rw [← seg_at 13 2 15 rfl]
  subst hgs
  refine s2f K0 X T F n_ring n_given N hoff i_x i_r hg hl fun h13 tk13 m13 xf df xg dg t1 t2 t1' t2' own13 F13 n_f n_g hm i_f i_d i_g i_gd sub hoff13 N13 => ?_
  have hc := hg
  replace n_many := (hm _ (by decide)).trans n_many
  replace n_place := (hm _ (by decide)).trans n_place
  replace n_number := (hm _ (by decide)).trans n_number
  replace n_deep := (hm _ (by decide)).trans n_deep
  replace n_bits := (hm _ (by decide)).trans n_bits
  replace n_ring := (hm _ (by decide)).trans n_ring
  replace n_given := (hm _ (by decide)).trans n_given
  replace n_kept := (hm _ (by decide)).trans n_kept
  replace n_start := (hm _ (by decide)).trans n_start
  replace n_want := (hm _ (by decide)).trans n_want
  replace n_after := (hm _ (by decide)).trans n_after
  replace i_x := sub _ i_x
  replace i_r := sub _ i_r
  replace i_zz := sub _ i_zz
  replace i_k := sub _ i_k
  replace i_s := sub _ i_s
  replace i_w := sub _ i_w
  replace i_a := sub _ i_a
  replace i_z := sub _ i_z
  clear F N hoff
  have F := F13
  have N := N13
  have hoff := hoff13
  clear F13 N13 hoff13
  rw [← seg_at 15 2 17 rfl]
  refine s3 K0 X T F n_deep n_f d1 hd3 N hoff i_f i_d i_x i_r i_zz hz hc hl fun h15 tk15 m15 hh nh vs15 hs15 own15 F15 n_handles hm hc15 hhl hall15 i_h sub hoff15 N15 => ?_
  replace n_many := (hm _ (by decide)).trans n_many
  replace n_place := (hm _ (by decide)).trans n_place
  replace n_number := (hm _ (by decide)).trans n_number
  replace n_deep := (hm _ (by decide)).trans n_deep
  replace n_bits := (hm _ (by decide)).trans n_bits
  replace n_ring := (hm _ (by decide)).trans n_ring
  replace n_given := (hm _ (by decide)).trans n_given
  replace n_kept := (hm _ (by decide)).trans n_kept
  replace n_start := (hm _ (by decide)).trans n_start
  replace n_want := (hm _ (by decide)).trans n_want
  replace n_after := (hm _ (by decide)).trans n_after
  replace n_f := (hm _ (by decide)).trans n_f
  replace n_g := (hm _ (by decide)).trans n_g
  replace i_x := sub _ i_x
  replace i_r := sub _ i_r
  replace i_zz := sub _ i_zz
  replace i_k := sub _ i_k
  replace i_s := sub _ i_s
  replace i_w := sub _ i_w
  replace i_a := sub _ i_a
  replace i_z := sub _ i_z
  replace i_f := sub _ i_f
  replace i_d := sub _ i_d
  replace i_g := sub _ i_g
  replace i_gd := sub _ i_gd
  clear F N hoff
  have F := F15
  have N := N15
  have hoff := hoff15
  clear F15 N15 hoff15
  rw [← seg_at 17 1 18 rfl]
  refine s4 K0 X T F n_handles n_f N i_h hall15 i_f i_d hc15 hl2 fun h17 tk17 m17 F17 hm N17 => ?_
  replace n_many := (hm _ (by decide)).trans n_many
  replace n_place := (hm _ (by decide)).trans n_place
  replace n_number := (hm _ (by decide)).trans n_number
  replace n_deep := (hm _ (by decide)).trans n_deep
  replace n_bits := (hm _ (by decide)).trans n_bits
  replace n_ring := (hm _ (by decide)).trans n_ring
  replace n_given := (hm _ (by decide)).trans n_given
  replace n_kept := (hm _ (by decide)).trans n_kept
  replace n_start := (hm _ (by decide)).trans n_start
  replace n_want := (hm _ (by decide)).trans n_want
  replace n_after := (hm _ (by decide)).trans n_after
  replace n_f := (hm _ (by decide)).trans n_f
  replace n_g := (hm _ (by decide)).trans n_g
  replace n_handles := (hm _ (by decide)).trans n_handles
  clear F N
  have F := F17
  have N := N17
  clear F17 N17
  rw [← seg_at 18 1 19 rfl]
  refine s5f (ol := gl) (no := 0) (ovs := []) K0 X T F n_many n_given n_g n_f i_f i_d N i_g i_gd hc15 fun h18 tk18 m18 F18 hm N18 => ?_
  replace n_many := (hm _).trans n_many
  replace n_place := (hm _).trans n_place
  replace n_number := (hm _).trans n_number
  replace n_deep := (hm _).trans n_deep
  replace n_bits := (hm _).trans n_bits
  replace n_ring := (hm _).trans n_ring
  replace n_given := (hm _).trans n_given
  replace n_kept := (hm _).trans n_kept
  replace n_start := (hm _).trans n_start
  replace n_want := (hm _).trans n_want
  replace n_after := (hm _).trans n_after
  replace n_f := (hm _).trans n_f
  replace n_g := (hm _).trans n_g
  replace n_handles := (hm _).trans n_handles
  clear F N
  have F := F18
  have N := N18
  clear F18 N18
  rw [← seg_at 19 2 21 rfl]
  refine s6 K0 X T F n_handles d1 hd3 hhl N hoff i_h hall15 i_x i_r i_zz hz hc15 hl2 fun h19 tk19 m19 hb nb vs19 bs own19 F19 n_backs hm hc19 hbl hall19 i_b sub hoff19 N19 => ?_
  have hall15 := fun x hx => HasPoly.mono (hall15 x hx) sub
  replace n_many := (hm _ (by decide)).trans n_many
  replace n_place := (hm _ (by decide)).trans n_place
  replace n_number := (hm _ (by decide)).trans n_number
  replace n_deep := (hm _ (by decide)).trans n_deep
  replace n_bits := (hm _ (by decide)).trans n_bits
  replace n_ring := (hm _ (by decide)).trans n_ring
  replace n_given := (hm _ (by decide)).trans n_given
  replace n_kept := (hm _ (by decide)).trans n_kept
  replace n_start := (hm _ (by decide)).trans n_start
  replace n_want := (hm _ (by decide)).trans n_want
  replace n_after := (hm _ (by decide)).trans n_after
  replace n_f := (hm _ (by decide)).trans n_f
  replace n_g := (hm _ (by decide)).trans n_g
  replace n_handles := (hm _ (by decide)).trans n_handles
  replace i_x := sub _ i_x
  replace i_r := sub _ i_r
  replace i_zz := sub _ i_zz
  replace i_k := sub _ i_k
  replace i_s := sub _ i_s
  replace i_w := sub _ i_w
  replace i_a := sub _ i_a
  replace i_z := sub _ i_z
  replace i_f := sub _ i_f
  replace i_d := sub _ i_d
  replace i_g := sub _ i_g
  replace i_gd := sub _ i_gd
  replace i_h := sub _ i_h
  clear F N hoff
  have F := F19
  have N := N19
  have hoff := hoff19
  clear F19 N19 hoff19
  rw [hback] at hc19
  have h3h : hs15.length ≤ 3 := by rw [hhl]; exact d3
  have h3b : bs.length ≤ 3 := by rw [hbl]; exact d3
  rw [← seg_at 21 1 22 rfl]
  refine s7 K0 X T F n_handles n_f n_backs n_want N i_h hall15 i_b hall19 h3h h3b i_f i_d i_w hc19 hw fun h21 tk21 m21 F21 hm N21 => ?_
  replace n_many := (hm _ (by decide)).trans n_many
  replace n_place := (hm _ (by decide)).trans n_place
  replace n_number := (hm _ (by decide)).trans n_number
  replace n_deep := (hm _ (by decide)).trans n_deep
  replace n_bits := (hm _ (by decide)).trans n_bits
  replace n_ring := (hm _ (by decide)).trans n_ring
  replace n_given := (hm _ (by decide)).trans n_given
  replace n_kept := (hm _ (by decide)).trans n_kept
  replace n_start := (hm _ (by decide)).trans n_start
  replace n_want := (hm _ (by decide)).trans n_want
  replace n_after := (hm _ (by decide)).trans n_after
  replace n_f := (hm _ (by decide)).trans n_f
  replace n_g := (hm _ (by decide)).trans n_g
  replace n_handles := (hm _ (by decide)).trans n_handles
  replace n_backs := (hm _ (by decide)).trans n_backs
  clear F N
  have F := F21
  have N := N21
  clear F21 N21
  rw [← seg_at 22 1 23 rfl]
  refine s8f (xf := xf) (df := df) (t1 := t1) (t2 := t2) (nf := 2) K0 X T F n_many n_given n_g n_want i_w hw N i_g i_gd hc19 fun h22 tk22 m22 F22 hm N22 => ?_
  replace n_many := (hm _).trans n_many
  replace n_place := (hm _).trans n_place
  replace n_number := (hm _).trans n_number
  replace n_deep := (hm _).trans n_deep
  replace n_bits := (hm _).trans n_bits
  replace n_ring := (hm _).trans n_ring
  replace n_given := (hm _).trans n_given
  replace n_kept := (hm _).trans n_kept
  replace n_start := (hm _).trans n_start
  replace n_want := (hm _).trans n_want
  replace n_after := (hm _).trans n_after
  replace n_f := (hm _).trans n_f
  replace n_g := (hm _).trans n_g
  replace n_handles := (hm _).trans n_handles
  replace n_backs := (hm _).trans n_backs
  clear F N
  have F := F22
  have N := N22
  clear F22 N22
  rw [← seg_at 23 1 24 rfl]
  obtain ⟨b0', bs', hbs⟩ : ∃ x r, bs = x :: r := by
    cases bs with
    | nil => rw [List.length_nil] at hbl; omega
    | cons x r => exact ⟨x, r, rfl⟩
  have i_b2 := i_b
  rw [hbs, List.map_cons] at i_b2
  refine s9 K0 X T F n_backs n_place n_number p0 p1 N hoff i_b2 (hall19 b0' (by rw [hbs]; exact .head _)) hc19 hlw fun h23 tk23 m23 vs23 F23 hm hc23 N23 => ?_
  replace n_many := (hm _).trans n_many
  replace n_place := (hm _).trans n_place
  replace n_number := (hm _).trans n_number
  replace n_deep := (hm _).trans n_deep
  replace n_bits := (hm _).trans n_bits
  replace n_ring := (hm _).trans n_ring
  replace n_given := (hm _).trans n_given
  replace n_kept := (hm _).trans n_kept
  replace n_start := (hm _).trans n_start
  replace n_want := (hm _).trans n_want
  replace n_after := (hm _).trans n_after
  replace n_f := (hm _).trans n_f
  replace n_g := (hm _).trans n_g
  replace n_handles := (hm _).trans n_handles
  replace n_backs := (hm _).trans n_backs
  clear F N
  have F := F23
  have N := N23
  clear F23 N23
  rw [← seg_at 24 1 25 rfl]
  refine s10 K0 X T F n_handles n_f n_backs n_after N i_h hall15 i_b hall19 h3h h3b i_f i_d i_a hc23 ha fun h24 tk24 m24 F24 hm N24 => ?_
  replace n_many := (hm _ (by decide)).trans n_many
  replace n_place := (hm _ (by decide)).trans n_place
  replace n_number := (hm _ (by decide)).trans n_number
  replace n_deep := (hm _ (by decide)).trans n_deep
  replace n_bits := (hm _ (by decide)).trans n_bits
  replace n_ring := (hm _ (by decide)).trans n_ring
  replace n_given := (hm _ (by decide)).trans n_given
  replace n_kept := (hm _ (by decide)).trans n_kept
  replace n_start := (hm _ (by decide)).trans n_start
  replace n_want := (hm _ (by decide)).trans n_want
  replace n_after := (hm _ (by decide)).trans n_after
  replace n_f := (hm _ (by decide)).trans n_f
  replace n_g := (hm _ (by decide)).trans n_g
  replace n_handles := (hm _ (by decide)).trans n_handles
  replace n_backs := (hm _ (by decide)).trans n_backs
  clear F N
  have F := F24
  have N := N24
  clear F24 N24
  rw [← seg_at 25 1 26 rfl]
  refine s11f (xf := xf) (df := df) (t1 := t1) (t2 := t2) (nf := 2) K0 X T F n_many n_given n_g n_after i_a ha N i_g i_gd hc23 fun h25 tk25 m25 F25 hm N25 => ?_
  replace n_many := (hm _).trans n_many
  replace n_place := (hm _).trans n_place
  replace n_number := (hm _).trans n_number
  replace n_deep := (hm _).trans n_deep
  replace n_bits := (hm _).trans n_bits
  replace n_ring := (hm _).trans n_ring
  replace n_given := (hm _).trans n_given
  replace n_kept := (hm _).trans n_kept
  replace n_start := (hm _).trans n_start
  replace n_want := (hm _).trans n_want
  replace n_after := (hm _).trans n_after
  replace n_f := (hm _).trans n_f
  replace n_g := (hm _).trans n_g
  replace n_handles := (hm _).trans n_handles
  replace n_backs := (hm _).trans n_backs
  clear F N
  have F := F25
  have N := N25
  clear F25 N25
  exact tail26 K0 X T F n_f n_place n_number n_bits n_ring n_start n_want n_after p0 p1 b0 b1 N hoff i_f i_d i_x i_r i_s i_w i_a i_z hoz hl hs hw ha hc23 (fun _ _ _ f => hret _ _ _ f)
set_option maxHeartbeats 2000000 in
theorem midS {gl kl xr dr zz sl wl al : Addr} {oz : Obj} {tm tp tn td tb t3 t4 t5 t6 t7 t8 t9 : Tok} {nr nz n1 n2 ns nw na deep : Nat} {M pl num b : Int} {gvs kvs svs wvs avs zvs : List Value} {gs st : List Int} {own : List (Addr × Obj)}
    (K0 : Below callerA h₀ [] h₀) (X : (hd.heap_39 w.params).In h₀) (T : Top hd.view_39 (looseW hd.view_39 loo) mean mg mb h₀) (F : Fr h₀ L s.heap m)
    (n_many : m (nm "many") = some (.int M tm)) (n_place : m (nm "place") = some (.int pl tp)) (n_number : m (nm "number") = some (.int num tn)) (n_deep : m (nm "deep") = some (.int (deep : Int) td)) (n_bits : m (nm "bits") = some (.int b tb)) (n_ring : m (nm "ring") = some (.ref xr)) (n_given : m (nm "given") = some (.ref gl)) (n_kept : m (nm "kept") = some (.ref kl)) (n_start : m (nm "start") = some (.ref sl)) (n_want : m (nm "want") = some (.ref wl)) (n_after : m (nm "after") = some (.ref al))
    (p0 : 0 ≤ pl) (p1 : pl < 256) (b0 : 1 ≤ b) (b1 : b ≤ 12) (d1 : 1 ≤ deep) (d3 : deep ≤ 3)
    (N : News h₀ L s.heap ((gl, W.listOf gvs.toArray n1) :: own)) (hoff : ∀ p ∈ own, p.1 ≠ gl) (i_x : (xr, instObj 280 dr) ∈ own) (i_r : (dr, ringD w zz t3 t4 t5 t6 t7 t8 t9 nr) ∈ own) (i_zz : (zz, W.listOf zvs.toArray nz) ∈ own)
    (i_k : (kl, W.listOf kvs.toArray n2) ∈ own) (i_s : (sl, W.listOf svs.toArray ns) ∈ own) (i_w : (wl, W.listOf wvs.toArray nw) ∈ own) (i_a : (al, W.listOf avs.toArray na) ∈ own) (i_z : (L + 1 + 1, oz) ∈ own) (hoz : oz.data = .cell none)
    (hz : IntsAre zvs ((rangeKs 0 128).map zeta)) (hg : IntsAre gvs gs) (hk : IntsAre kvs gs)
    (hM : M < 256) (hgl : gs.length < 256) (hst : st = gs ++ List.replicate (256 - gs.length) 0)
    (hl : st.length = 256) (hs : IntsAre svs st) (hw : IntsAre wvs (st.map fun (c : Int) => c.fmod 3329)) (ha : IntsAre avs ((st.map fun (c : Int) => c.fmod 3329).set pl.toNat num))
    (hret : ∀ (h' : Heap) (tk' : Nat) (m' : PySem.Str → Option Value), Fr h₀ L h' m' → Q (.ret (.bool true)) { s with heap := h', toks := tk' }) :
    wpAny (model PySem.Challenge.rw_yi0010_01.row.prog w) (lawA L fa cd) (execs (lawBody.drop 13) (lawEnv L fa cd)) Q (fun _ _ => False) s := by
  have hd3 : Le3 deep := d3
  have hl2 : (times (toN zeta) deep st).length = 256 := by rw [times_len (toN_len zeta), hl]
  have hback := times_back zeta zeta_ok st hl deep d1 d3
  have hlw : (st.map fun (c : Int) => c.fmod 3329).length = 256 := by rw [List.length_map, hl]
  rw [← seg_at 13 2 15 rfl]
  refine s2s K0 X T F n_ring n_given N i_x i_r hg hgl fun h13 tk13 m13 xf df xg dg cc cg t1 t2 t1' t2' fvs cgs own13 F13 n_f n_g hm hfv hcg i_f i_d i_g i_gd i_cg i_gl sub hoff13 N13 => ?_
  rw [← hst] at hfv hcg
  have hc := hfv
  replace n_many := (hm _ (by decide)).trans n_many
  replace n_place := (hm _ (by decide)).trans n_place
  replace n_number := (hm _ (by decide)).trans n_number
  replace n_deep := (hm _ (by decide)).trans n_deep
  replace n_bits := (hm _ (by decide)).trans n_bits
  replace n_ring := (hm _ (by decide)).trans n_ring
  replace n_given := (hm _ (by decide)).trans n_given
  replace n_kept := (hm _ (by decide)).trans n_kept
  replace n_start := (hm _ (by decide)).trans n_start
  replace n_want := (hm _ (by decide)).trans n_want
  replace n_after := (hm _ (by decide)).trans n_after
  replace i_x := sub _ i_x
  replace i_r := sub _ i_r
  replace i_zz := sub _ i_zz
  replace i_k := sub _ i_k
  replace i_s := sub _ i_s
  replace i_w := sub _ i_w
  replace i_a := sub _ i_a
  replace i_z := sub _ i_z
  clear F N hoff
  have F := F13
  have N := N13
  have hoff := hoff13
  clear F13 N13 hoff13
  rw [← seg_at 15 2 17 rfl]
  refine s3 K0 X T F n_deep n_f d1 hd3 N hoff i_f i_d i_x i_r i_zz hz hc hl fun h15 tk15 m15 hh nh vs15 hs15 own15 F15 n_handles hm hc15 hhl hall15 i_h sub hoff15 N15 => ?_
  replace n_many := (hm _ (by decide)).trans n_many
  replace n_place := (hm _ (by decide)).trans n_place
  replace n_number := (hm _ (by decide)).trans n_number
  replace n_deep := (hm _ (by decide)).trans n_deep
  replace n_bits := (hm _ (by decide)).trans n_bits
  replace n_ring := (hm _ (by decide)).trans n_ring
  replace n_given := (hm _ (by decide)).trans n_given
  replace n_kept := (hm _ (by decide)).trans n_kept
  replace n_start := (hm _ (by decide)).trans n_start
  replace n_want := (hm _ (by decide)).trans n_want
  replace n_after := (hm _ (by decide)).trans n_after
  replace n_f := (hm _ (by decide)).trans n_f
  replace n_g := (hm _ (by decide)).trans n_g
  replace i_x := sub _ i_x
  replace i_r := sub _ i_r
  replace i_zz := sub _ i_zz
  replace i_k := sub _ i_k
  replace i_s := sub _ i_s
  replace i_w := sub _ i_w
  replace i_a := sub _ i_a
  replace i_z := sub _ i_z
  replace i_f := sub _ i_f
  replace i_d := sub _ i_d
  replace i_g := sub _ i_g
  replace i_gd := sub _ i_gd
  replace i_cg := sub _ i_cg
  replace i_gl := sub _ i_gl
  clear F N hoff
  have F := F15
  have N := N15
  have hoff := hoff15
  clear F15 N15 hoff15
  rw [← seg_at 17 1 18 rfl]
  refine s4 K0 X T F n_handles n_f N i_h hall15 i_f i_d hc15 hl2 fun h17 tk17 m17 F17 hm N17 => ?_
  replace n_many := (hm _ (by decide)).trans n_many
  replace n_place := (hm _ (by decide)).trans n_place
  replace n_number := (hm _ (by decide)).trans n_number
  replace n_deep := (hm _ (by decide)).trans n_deep
  replace n_bits := (hm _ (by decide)).trans n_bits
  replace n_ring := (hm _ (by decide)).trans n_ring
  replace n_given := (hm _ (by decide)).trans n_given
  replace n_kept := (hm _ (by decide)).trans n_kept
  replace n_start := (hm _ (by decide)).trans n_start
  replace n_want := (hm _ (by decide)).trans n_want
  replace n_after := (hm _ (by decide)).trans n_after
  replace n_f := (hm _ (by decide)).trans n_f
  replace n_g := (hm _ (by decide)).trans n_g
  replace n_handles := (hm _ (by decide)).trans n_handles
  clear F N
  have F := F17
  have N := N17
  clear F17 N17
  rw [← seg_at 18 1 19 rfl]
  refine s5s K0 X T F n_many n_given n_kept n_g n_start hM N (.tail _ i_gl) (.tail _ i_k) (.tail _ i_s) (.tail _ i_cg) (.tail _ i_g) (.tail _ i_gd) hg hk hs hcg fun h18 tk18 m18 F18 hm N18 => ?_
  replace n_many := (hm _).trans n_many
  replace n_place := (hm _).trans n_place
  replace n_number := (hm _).trans n_number
  replace n_deep := (hm _).trans n_deep
  replace n_bits := (hm _).trans n_bits
  replace n_ring := (hm _).trans n_ring
  replace n_given := (hm _).trans n_given
  replace n_kept := (hm _).trans n_kept
  replace n_start := (hm _).trans n_start
  replace n_want := (hm _).trans n_want
  replace n_after := (hm _).trans n_after
  replace n_f := (hm _).trans n_f
  replace n_g := (hm _).trans n_g
  replace n_handles := (hm _).trans n_handles
  clear F N
  have F := F18
  have N := N18
  clear F18 N18
  rw [← seg_at 19 2 21 rfl]
  refine s6 K0 X T F n_handles d1 hd3 hhl N hoff i_h hall15 i_x i_r i_zz hz hc15 hl2 fun h19 tk19 m19 hb nb vs19 bs own19 F19 n_backs hm hc19 hbl hall19 i_b sub hoff19 N19 => ?_
  have hall15 := fun x hx => HasPoly.mono (hall15 x hx) sub
  replace n_many := (hm _ (by decide)).trans n_many
  replace n_place := (hm _ (by decide)).trans n_place
  replace n_number := (hm _ (by decide)).trans n_number
  replace n_deep := (hm _ (by decide)).trans n_deep
  replace n_bits := (hm _ (by decide)).trans n_bits
  replace n_ring := (hm _ (by decide)).trans n_ring
  replace n_given := (hm _ (by decide)).trans n_given
  replace n_kept := (hm _ (by decide)).trans n_kept
  replace n_start := (hm _ (by decide)).trans n_start
  replace n_want := (hm _ (by decide)).trans n_want
  replace n_after := (hm _ (by decide)).trans n_after
  replace n_f := (hm _ (by decide)).trans n_f
  replace n_g := (hm _ (by decide)).trans n_g
  replace n_handles := (hm _ (by decide)).trans n_handles
  replace i_x := sub _ i_x
  replace i_r := sub _ i_r
  replace i_zz := sub _ i_zz
  replace i_k := sub _ i_k
  replace i_s := sub _ i_s
  replace i_w := sub _ i_w
  replace i_a := sub _ i_a
  replace i_z := sub _ i_z
  replace i_f := sub _ i_f
  replace i_d := sub _ i_d
  replace i_g := sub _ i_g
  replace i_gd := sub _ i_gd
  replace i_cg := sub _ i_cg
  replace i_gl := sub _ i_gl
  replace i_h := sub _ i_h
  clear F N hoff
  have F := F19
  have N := N19
  have hoff := hoff19
  clear F19 N19 hoff19
  rw [hback] at hc19
  have h3h : hs15.length ≤ 3 := by rw [hhl]; exact d3
  have h3b : bs.length ≤ 3 := by rw [hbl]; exact d3
  rw [← seg_at 21 1 22 rfl]
  refine s7 K0 X T F n_handles n_f n_backs n_want N i_h hall15 i_b hall19 h3h h3b i_f i_d i_w hc19 hw fun h21 tk21 m21 F21 hm N21 => ?_
  replace n_many := (hm _ (by decide)).trans n_many
  replace n_place := (hm _ (by decide)).trans n_place
  replace n_number := (hm _ (by decide)).trans n_number
  replace n_deep := (hm _ (by decide)).trans n_deep
  replace n_bits := (hm _ (by decide)).trans n_bits
  replace n_ring := (hm _ (by decide)).trans n_ring
  replace n_given := (hm _ (by decide)).trans n_given
  replace n_kept := (hm _ (by decide)).trans n_kept
  replace n_start := (hm _ (by decide)).trans n_start
  replace n_want := (hm _ (by decide)).trans n_want
  replace n_after := (hm _ (by decide)).trans n_after
  replace n_f := (hm _ (by decide)).trans n_f
  replace n_g := (hm _ (by decide)).trans n_g
  replace n_handles := (hm _ (by decide)).trans n_handles
  replace n_backs := (hm _ (by decide)).trans n_backs
  clear F N
  have F := F21
  have N := N21
  clear F21 N21
  rw [← seg_at 22 1 23 rfl]
  refine s8s K0 X T F n_many n_given n_kept n_g n_start hM N (.tail _ i_gl) (.tail _ i_k) (.tail _ i_s) (.tail _ i_cg) (.tail _ i_g) (.tail _ i_gd) hg hk hs hcg fun h22 tk22 m22 F22 hm N22 => ?_
  replace n_many := (hm _).trans n_many
  replace n_place := (hm _).trans n_place
  replace n_number := (hm _).trans n_number
  replace n_deep := (hm _).trans n_deep
  replace n_bits := (hm _).trans n_bits
  replace n_ring := (hm _).trans n_ring
  replace n_given := (hm _).trans n_given
  replace n_kept := (hm _).trans n_kept
  replace n_start := (hm _).trans n_start
  replace n_want := (hm _).trans n_want
  replace n_after := (hm _).trans n_after
  replace n_f := (hm _).trans n_f
  replace n_g := (hm _).trans n_g
  replace n_handles := (hm _).trans n_handles
  replace n_backs := (hm _).trans n_backs
  clear F N
  have F := F22
  have N := N22
  clear F22 N22
  rw [← seg_at 23 1 24 rfl]
  obtain ⟨b0', bs', hbs⟩ : ∃ x r, bs = x :: r := by
    cases bs with
    | nil => rw [List.length_nil] at hbl; omega
    | cons x r => exact ⟨x, r, rfl⟩
  have i_b2 := i_b
  rw [hbs, List.map_cons] at i_b2
  refine s9 K0 X T F n_backs n_place n_number p0 p1 N hoff i_b2 (hall19 b0' (by rw [hbs]; exact .head _)) hc19 hlw fun h23 tk23 m23 vs23 F23 hm hc23 N23 => ?_
  replace n_many := (hm _).trans n_many
  replace n_place := (hm _).trans n_place
  replace n_number := (hm _).trans n_number
  replace n_deep := (hm _).trans n_deep
  replace n_bits := (hm _).trans n_bits
  replace n_ring := (hm _).trans n_ring
  replace n_given := (hm _).trans n_given
  replace n_kept := (hm _).trans n_kept
  replace n_start := (hm _).trans n_start
  replace n_want := (hm _).trans n_want
  replace n_after := (hm _).trans n_after
  replace n_f := (hm _).trans n_f
  replace n_g := (hm _).trans n_g
  replace n_handles := (hm _).trans n_handles
  replace n_backs := (hm _).trans n_backs
  clear F N
  have F := F23
  have N := N23
  clear F23 N23
  rw [← seg_at 24 1 25 rfl]
  refine s10 K0 X T F n_handles n_f n_backs n_after N i_h hall15 i_b hall19 h3h h3b i_f i_d i_a hc23 ha fun h24 tk24 m24 F24 hm N24 => ?_
  replace n_many := (hm _ (by decide)).trans n_many
  replace n_place := (hm _ (by decide)).trans n_place
  replace n_number := (hm _ (by decide)).trans n_number
  replace n_deep := (hm _ (by decide)).trans n_deep
  replace n_bits := (hm _ (by decide)).trans n_bits
  replace n_ring := (hm _ (by decide)).trans n_ring
  replace n_given := (hm _ (by decide)).trans n_given
  replace n_kept := (hm _ (by decide)).trans n_kept
  replace n_start := (hm _ (by decide)).trans n_start
  replace n_want := (hm _ (by decide)).trans n_want
  replace n_after := (hm _ (by decide)).trans n_after
  replace n_f := (hm _ (by decide)).trans n_f
  replace n_g := (hm _ (by decide)).trans n_g
  replace n_handles := (hm _ (by decide)).trans n_handles
  replace n_backs := (hm _ (by decide)).trans n_backs
  clear F N
  have F := F24
  have N := N24
  clear F24 N24
  rw [← seg_at 25 1 26 rfl]
  refine s11s K0 X T F n_many n_given n_kept n_g n_start hM N (.tail _ i_gl) (.tail _ i_k) (.tail _ i_s) (.tail _ i_cg) (.tail _ i_g) (.tail _ i_gd) hg hk hs hcg fun h25 tk25 m25 F25 hm N25 => ?_
  replace n_many := (hm _).trans n_many
  replace n_place := (hm _).trans n_place
  replace n_number := (hm _).trans n_number
  replace n_deep := (hm _).trans n_deep
  replace n_bits := (hm _).trans n_bits
  replace n_ring := (hm _).trans n_ring
  replace n_given := (hm _).trans n_given
  replace n_kept := (hm _).trans n_kept
  replace n_start := (hm _).trans n_start
  replace n_want := (hm _).trans n_want
  replace n_after := (hm _).trans n_after
  replace n_f := (hm _).trans n_f
  replace n_g := (hm _).trans n_g
  replace n_handles := (hm _).trans n_handles
  replace n_backs := (hm _).trans n_backs
  clear F N
  have F := F25
  have N := N25
  clear F25 N25
  exact tail26 K0 X T F n_f n_place n_number n_bits n_ring n_start n_want n_after p0 p1 b0 b1 N hoff i_f i_d i_x i_r i_s i_w i_a i_z hoz hl hs hw ha hc23 (fun _ _ _ f => hret _ _ _ f)
set_option maxHeartbeats 2000000 in
theorem main_law {sa : Addr} {oc oz : Obj} {svs : List Value} {ns : List Int} {own : List (Addr × Obj)}
    (K0 : Below callerA h₀ [] h₀) (X : (hd.heap_39 w.params).In h₀) (T : Top hd.view_39 (looseW hd.view_39 loo) mean mg mb h₀) (F : Fr h₀ L s.heap m)
    (hL : h₀.IsList sa svs.toArray) (hI : IntsAre svs ns) (hlen : ns.length ≤ 63) (N : News h₀ L s.heap own) (ic : (L + 1, oc) ∈ own) (hoc : oc.data = .cell (some (.ref sa))) (i_z : (L + 1 + 1, oz) ∈ own) (hoz : oz.data = .cell none)
    (hret : ∀ (h' : Heap) (tk' : Nat) (m' : PySem.Str → Option Value), Fr h₀ L h' m' → Q (.ret (.bool true)) { s with heap := h', toks := tk' }) :
    wpAny (model PySem.Challenge.rw_yi0010_01.row.prog w) (lawA L fa cd) (execs (lawBody.drop 0) (lawEnv L fa cd)) Q (fun _ _ => False) s := by
  rw [← seg_at 0 1 1 rfl]
  refine s0 K0 X T F N fun h0 tk0 m0 xr dr zz t3 t4 t5 t6 t7 t8 t9 nr nz zvs own0 F0 n_ring hm i_x i_r i_zz hz sub N0 => ?_
  replace ic := sub _ ic
  replace i_z := sub _ i_z
  clear hm sub F N
  rw [← seg_at 1 6 7 rfl]
  refine s1 K0 X T F0 hL hI hlen N0 ic hoc fun h1 tk1 m1 M pl num b deep tm tp tn td tb F1 hM n_many n_place p0 p1 n_number n_deep d1 d3 n_bits b0 b1 hm N1 => ?_
  replace n_ring := (hm _ (by decide)).trans n_ring
  clear hm F0 N0
  rw [← seg_at 7 6 13 rfl]
  have M0 : 0 ≤ M := by omega
  have M1 : M ≤ 256 := by omega
  refine s1b K0 X T F1 hL hI hlen N1 ic hoc n_many n_place n_number M0 M1 p0 p1 fun h2 tk2 m2 gl kl sl wl al n1 n2 n3 n4 n5 gvs kvs svs wvs avs gs own2 F2 n_given n_kept n_start n_want n_after hgl hg hk hs hw ha i_k i_s i_w i_a sub hoff hm N2 => ?_
  replace n_ring := (hm _ (by decide)).trans n_ring
  replace n_many := (hm _ (by decide)).trans n_many
  replace n_place := (hm _ (by decide)).trans n_place
  replace n_number := (hm _ (by decide)).trans n_number
  replace n_deep := (hm _ (by decide)).trans n_deep
  replace n_bits := (hm _ (by decide)).trans n_bits
  replace i_x := sub _ i_x
  replace i_r := sub _ i_r
  replace i_zz := sub _ i_zz
  replace i_z := sub _ i_z
  have hst : (gs ++ List.replicate (256 - M).toNat (0 : Int)).length = 256 := by rw [List.length_append, List.length_replicate, hgl]; omega
  rcases hM with rfl | ⟨_, hM2⟩
  · exact midF (M := 256) K0 X T F2 n_many n_place n_number n_deep n_bits n_ring n_given n_kept n_start n_want n_after p0 p1 b0 b1 d1 d3 N2 hoff i_x i_r i_zz i_k i_s i_w i_a i_z hoz hz hg hk (by simp) hst hs hw ha (fun _ _ _ f => hret _ _ _ f)
  · exact midS K0 X T F2 n_many n_place n_number n_deep n_bits n_ring n_given n_kept n_start n_want n_after p0 p1 b0 b1 d1 d3 N2 hoff i_x i_r i_zz i_k i_s i_w i_a i_z hoz hz hg hk hM2 (by omega) (by rw [show 256 - gs.length = (256 - M).toNat by omega]) hst hs hw ha (fun _ _ _ f => hret _ _ _ f)
end
end
end
end Mine
end
open PySem PySem.W PyProof.Rows
set_option maxRecDepth 100000 in
set_option maxHeartbeats 8000000 in
theorem PySem.Challenge.cw_yi0010_01_holds : PySem.Challenge.rw_yi0010_01.Holds := by
  refine Mine.hd ?_
  w_on
  k_with_none
  w_strict k_go0
  refine wpAny_noRaise ?_
  (with_reducible rename Below _ _ _ _ => K0); (with_reducible rename Frag.In _ _ => KX); (with_reducible rename Top _ _ _ _ _ _ => T); (with_reducible rename Fr _ _ _ _ => F); (with_reducible rename News _ _ _ _ => N); (with_reducible rename IntsAre _ _ => hI); (with_reducible rename Heap.IsList _ _ _ => hL)
  refine' Mine.main_law K0 KX T F hL hI ?hlen N ?ic ?hoc ?iz ?hoz ?hret
  case iz => exact .head _
  case ic => exact .tail _ (.head _)
  case hlen => omega
  case hoc => (refine Eq.trans (by assumption) ?_; rfl)
  case hoz => (refine Eq.trans (by assumption) ?_; rfl)
  case hret =>
    intro h' tk' m' F'
    k_end
    wrow_close
