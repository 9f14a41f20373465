import PyProof.Rows.All
import Wide.All
import OpenK.AllK
import Wide.FinOn
import PySem.Challenge.RW_ta0132_01
open PySem PySem.W PyProof.Rows
set_option Elab.async false
set_option maxRecDepth 100000
set_option maxHeartbeats 8000000
set_option rowWalk.seconds 0
set_option linter.all false
set_option compiler.extract_closed false
namespace Mine
theorem hd1.tw11159448707709257371 : True := trivial
theorem hd1.tw17644662733419963891 : True := trivial
theorem hd1.tw12266540418983085960 : True := trivial
theorem hd1.tw11523275596954794459 : True := trivial
theorem hd1.tw10706341049904119097 : True := trivial
theorem hd1.tw2268396669145760834 : True := trivial
theorem hd1.tw255758550819988005 : True := trivial
theorem hd1.tw9636418846995127374 : True := trivial
theorem hd1.tw1989927335541291163 : True := trivial
theorem hd1.tw7971469198073401157 : True := trivial
theorem hd1.tw15791864978358214205 : True := trivial
theorem hd1.tw18035020984287898526 : True := trivial
theorem hd1.tw10368100052107411050 : True := trivial
theorem hd1.tw5079352926537382415 : True := trivial
theorem hd1.tw2419908297267102455 : True := trivial
theorem hd1.tw18107665137723586439 : True := trivial
theorem hd1.tw2778770246048450701 : True := trivial
theorem hd1.tw5471606172386490159 : True := trivial
theorem hd1.tw16657855368224958944 : True := trivial
theorem hd1.tw6037734164172071285 : True := trivial
theorem hd1.tw12078809960818459721 : True := trivial
theorem hd1.tw8261609543595068703 : True := trivial
theorem hd1.tw12039713941215139648 : True := trivial
theorem hd1.tw4001813550638548945 : True := trivial
theorem hd1.tw11728685681401375494 : True := trivial
theorem hd1.tw6102106877835573088 : True := trivial
theorem hd1.tw8631003889939841887 : True := trivial
theorem hd1.tw17101630626373504499 : True := trivial
theorem hd1.tw1050316681395181209 : True := trivial
theorem hd1.tw17175752415169365825 : True := trivial
theorem hd1.tw14568493813955322142 : True := trivial
theorem hd1.tw15919424303837037345 : True := trivial
theorem hd1.tw9550935655531503971 : True := trivial
theorem hd1.tw12187728535615230097 : True := trivial
theorem hd1.tw7351242549983844471 : True := trivial
theorem hd1.tw17590368472237239297 : True := trivial
theorem hd1.tw3871591085991689898 : True := trivial
theorem hd1.tw11048623740558254232 : True := trivial
theorem hd1.tw11196332979522558338 : True := trivial
theorem hd1.tw9165431570454455666 : True := trivial
theorem hd1.tw7328139606464712810 : True := trivial
theorem hd1.tw2922695450477402437 : True := trivial
theorem hd1.tw4512871974347725602 : True := trivial
theorem hd1.tw16512159301431053037 : True := trivial
theorem hd1.tw13114783291098815554 : True := trivial
theorem hd1.tw9964224384241814600 : True := trivial
theorem hd1.tw925061050423697815 : True := trivial
theorem hd1.tw6814864313396295277 : True := trivial
theorem hd1.tw537002190007572441 : True := trivial
theorem hd1.tw12958322595482412227 : True := trivial
theorem hd1.tw12963811692526673865 : True := trivial
theorem hd1.tw10156199773854934235 : True := trivial
theorem hd1.tw2969369046099717777 : True := trivial
theorem hd1.tw4364737890129270796 : True := trivial
theorem hd1.tw1311933067398476171 : True := trivial
theorem hd1.tw9813454149047361948 : True := trivial
theorem hd1.tw8916063939126489485 : True := trivial
theorem hd1.tw2540488291652735010 : True := trivial
theorem hd1.tw597393055563490979 : True := trivial
theorem hd1.tw18359709495069703854 : True := trivial
theorem hd1.tw14582101390692679645 : True := trivial
theorem hd1.tw7796200530707210835 : True := trivial
theorem hd1.tw10076682158830856829 : True := trivial
theorem hd1.tw8361089380824549918 : True := trivial
theorem hd1.tw9465635705745386372 : True := trivial
theorem hd1.tw12286936476987153094 : True := trivial
theorem hd1.tw7892337272836252221 : True := trivial
theorem hd1.tw5991604734339359692 : True := trivial
theorem hd1.tw2938061585665343540 : True := trivial
theorem hd1.tw13128932077082893692 : True := trivial
theorem hd1.tw10994240709760426328 : True := trivial
theorem hd1.tw5379093303929843241 : True := trivial
theorem hd1.tw16186174574920257623 : True := trivial
theorem hd1.tw8013791890790648192 : True := trivial
theorem hd1.tw11957457311791239787 : True := trivial
theorem hd1.tw8191452525117841642 : True := trivial
theorem hd1.tw15644342355448919065 : True := trivial
theorem hd1.tw15177641745376751152 : True := trivial
theorem hd1.tw16251149594108477412 : True := trivial
theorem hd1.tw17320985700819400177 : True := trivial
theorem hd1.tw13417680349663075716 : True := trivial
theorem hd1.tw14007699711491507472 : True := trivial
theorem hd1.tw18365155063453446132 : True := trivial
theorem hd1.tw16042372465114270226 : True := trivial
theorem hd1.tw575011146996504225 : True := trivial
theorem hd1.tw9217843412924420361 : True := trivial
theorem hd1.tw15819613355401244908 : True := trivial
theorem hd1.tw3286168897193235814 : True := trivial
theorem hd1.tw3708486731911529982 : True := trivial
theorem hd1.tw16793471748091229124 : True := trivial
theorem hd1.tw17410596723798510473 : True := trivial
theorem hd1.tw17674769751215119814 : True := trivial
theorem hd1.tw14446872836776507579 : True := trivial
theorem hd1.tw1372553088281243006 : True := trivial
theorem hd1.tw9359134902690868765 : True := trivial
theorem hd1.tw3087731595549485085 : True := trivial
theorem hd1.tw8384829265435359589 : True := trivial
theorem hd1.tw6975151884317495561 : True := trivial
theorem hd1.tw653500344624238036 : True := trivial
theorem hd1.tw18382150699262367533 : True := trivial
theorem hd1.tw12115468802862148717 : True := trivial
theorem hd1.tw2946530315297714824 : True := trivial
theorem hd1.tw858041670754141754 : True := trivial
theorem hd1.tw1646357197624039978 : True := trivial
theorem hd1.tw17177500765578551434 : True := trivial
theorem hd1.tw10290450856755731643 : True := trivial
theorem hd1.tw13445001134273370763 : True := trivial
theorem hd1.tw5492312279166989088 : True := trivial
theorem hd1.tw5258307464466348872 : True := trivial
theorem hd1.tw16774530270066939069 : True := trivial
theorem hd1.tw3900584870869340765 : True := trivial
theorem hd1.tw15510164846609261243 : True := trivial
theorem hd1.tw5921807947982238189 : True := trivial
theorem hd1.tw15859176079355207394 : True := trivial
theorem hd1.tw6740007077494436468 : True := trivial
theorem hd1.tw10288913573403293761 : True := trivial
theorem hd1.tw1538103581434284116 : True := trivial
theorem hd1.tw3218797117977602775 : True := trivial
theorem hd1.tw18425806207901308158 : True := trivial
theorem hd1.tw1273491169535094953 : True := trivial
theorem hd1.tw16030191696836735385 : True := trivial
theorem hd1.tw3790988093561471953 : True := trivial
theorem hd1.tw12869327998735439816 : True := trivial
theorem hd1.tw8282240813642045280 : True := trivial
theorem hd1.tw5149236429889916546 : True := trivial
theorem hd1.tw7786741678075434529 : True := trivial
theorem hd1.tw10228471396195460511 : True := trivial
theorem hd1.tw71195429810976048 : True := trivial
theorem hd1.tw2053510622560072925 : True := trivial
theorem hd1.tw8900945820283091528 : True := trivial
theorem hd1.tw7994462938733818151 : True := trivial
theorem hd1.tw15702963293050870252 : True := trivial
theorem hd1.tw1955017500732477709 : True := trivial
theorem hd1.tw14142934494049075888 : True := trivial
theorem hd1.tw4866123044954317167 : True := trivial
theorem hd1.tw7004942789874552620 : True := trivial
theorem hd1.tw6710518367048746808 : True := trivial
theorem hd1.tw15439163223404120686 : True := trivial
theorem hd1.tw3322450060456798463 : True := trivial
theorem hd1.tw1077524053683278473 : True := trivial
theorem hd1.tw7981252689100303147 : True := trivial
theorem hd1.tw11279569997994504788 : True := trivial
theorem hd1.tw10086274583850915163 : True := trivial
theorem hd1.tw854248560453754308 : True := trivial
theorem hd1.tw8554403050231663970 : True := trivial
theorem hd1.tw12856729600031555495 : True := trivial
theorem hd1.tw6694862155685189241 : True := trivial
theorem hd1.tw8536077775873535423 : True := trivial
theorem hd1.tw16306128556320469528 : True := trivial
theorem hd1.tw13568160947715714896 : True := trivial
theorem hd1.tw8234543035352300146 : True := trivial
theorem hd1.tw12823105271618385472 : True := trivial
theorem hd1.tw1906562954235371343 : True := trivial
theorem hd1.tw16890258532806306508 : True := trivial
theorem hd1.tw9327343262819746091 : True := trivial
theorem hd1.tw9604419860917626430 : True := trivial
theorem hd1.tw10531742767082501842 : True := trivial
theorem hd1.tw1914819060110601650 : True := trivial
theorem hd1.tw12579520871413258114 : True := trivial
theorem hd1.tw4207769371624928032 : True := trivial
theorem hd1.tw8626381036101514767 : True := trivial
theorem hd1.tw18441646545911362086 : True := trivial
theorem hd1.tw9853029277575771573 : True := trivial
theorem hd1.tw17629313248287530339 : True := trivial
theorem hd1.tw1773430885012702104 : True := trivial
theorem hd1.tw9230479184781617660 : True := trivial
theorem hd1.tw6593044369671882729 : True := trivial
theorem hd1.tw3574917266314510510 : True := trivial
theorem hd1.tw8853515656547607966 : True := trivial
theorem hd1.tw17099555148931013494 : True := trivial
theorem hd1.tw6163358628246317019 : True := trivial
theorem hd1.tw17642182881122552447 : True := trivial
theorem hd1.tw10086727992874484410 : True := trivial
theorem hd1.tw10134090516017400937 : True := trivial
theorem hd1.tw10178957263525110207 : True := trivial
theorem hd1.tw10292609211446212973 : True := trivial
theorem hd1.tw10297167170466133192 : True := trivial
theorem hd1.tw10350851315885861048 : True := trivial
theorem hd1.tw10412776863786804143 : True := trivial
theorem hd1.tw10473903147847226056 : True := trivial
theorem hd1.tw10553098498631285808 : True := trivial
theorem hd1.tw1055508529811263887 : True := trivial
theorem hd1.tw10561972591422044775 : True := trivial
theorem hd1.tw10573791669326748125 : True := trivial
theorem hd1.tw10610207260459799262 : True := trivial
theorem hd1.tw10650984629300981989 : True := trivial
theorem hd1.tw10699741468126928427 : True := trivial
theorem hd1.tw10700220127634670077 : True := trivial
theorem hd1.tw10772648839118411667 : True := trivial
theorem hd1.tw10790882564719359949 : True := trivial
theorem hd1.tw10794308640388061838 : True := trivial
theorem hd1.tw10820274440451682507 : True := trivial
theorem hd1.tw10848080981529063793 : True := trivial
theorem hd1.tw10856703642782037878 : True := trivial
theorem hd1.tw10864103299417093280 : True := trivial
theorem hd1.tw10913351265872172909 : True := trivial
theorem hd1.tw10914363300001401834 : True := trivial
theorem hd1.tw10988769859592422807 : True := trivial
theorem hd1.tw11072332280452107873 : True := trivial
theorem hd1.tw11085651044870281827 : True := trivial
theorem hd1.tw11092302832771994697 : True := trivial
theorem hd1.tw11109106110001003909 : True := trivial
theorem hd1.tw11136115069241439448 : True := trivial
theorem hd1.tw11142710988628862272 : True := trivial
theorem hd1.tw11142862174179559011 : True := trivial
theorem hd1.tw11143146793309479662 : True := trivial
theorem hd1.tw11166393667281280965 : True := trivial
theorem hd1.tw1117175830116628944 : True := trivial
theorem hd1.tw11300281175528212300 : True := trivial
theorem hd1.tw11328031603617176385 : True := trivial
theorem hd1.tw11341562574356561829 : True := trivial
theorem hd1.tw11361131539250289852 : True := trivial
theorem hd1.tw11378608031656851165 : True := trivial
theorem hd1.tw11409786429011743065 : True := trivial
theorem hd1.tw11469913303993639839 : True := trivial
theorem hd1.tw11597187199302458724 : True := trivial
theorem hd1.tw11616630549976190935 : True := trivial
theorem hd1.tw11641965594154665699 : True := trivial
theorem hd1.tw11725372579835581438 : True := trivial
theorem hd1.tw11829470795990026913 : True := trivial
theorem hd1.tw11854538722552364928 : True := trivial
theorem hd1.tw11901178051882076226 : True := trivial
theorem hd1.tw11901543076808494352 : True := trivial
theorem hd1.tw11957746867921649346 : True := trivial
theorem hd1.tw11980707852212445449 : True := trivial
theorem hd1.tw12056026670903802050 : True := trivial
theorem hd1.tw12089216820498119713 : True := trivial
theorem hd1.tw121613212654823039 : True := trivial
theorem hd1.tw12178804681554309249 : True := trivial
theorem hd1.tw12251360816405742605 : True := trivial
theorem hd1.tw12306342450707722092 : True := trivial
theorem hd1.tw12336966236247729496 : True := trivial
theorem hd1.tw12463880285547050369 : True := trivial
theorem hd1.tw12465144768464929370 : True := trivial
theorem hd1.tw12465650656401782640 : True := trivial
theorem hd1.tw1246893936170120422 : True := trivial
theorem hd1.tw1249825211684208046 : True := trivial
theorem hd1.tw12542268594579439618 : True := trivial
theorem hd1.tw12584814123551920278 : True := trivial
theorem hd1.tw12590663334317387973 : True := trivial
theorem hd1.tw12705062300120254490 : True := trivial
theorem hd1.tw1277885153253621143 : True := trivial
theorem hd1.tw12785677980147168601 : True := trivial
theorem hd1.tw12796043078823596463 : True := trivial
theorem hd1.tw12807341785796325878 : True := trivial
theorem hd1.tw12818419834661068080 : True := trivial
theorem hd1.tw12902943350654414931 : True := trivial
theorem hd1.tw12928250266223933287 : True := trivial
theorem hd1.tw130927055954805003 : True := trivial
theorem hd1.tw1311988382562062301 : True := trivial
theorem hd1.tw13153289449168087860 : True := trivial
theorem hd1.tw13195755426629542146 : True := trivial
theorem hd1.tw13236984440341829057 : True := trivial
theorem hd1.tw13245261159470666128 : True := trivial
theorem hd1.tw13271950798746650856 : True := trivial
theorem hd1.tw13276058216820339234 : True := trivial
theorem hd1.tw13280948337271717755 : True := trivial
theorem hd1.tw13482335260084868532 : True := trivial
theorem hd1.tw1352035496206779074 : True := trivial
theorem hd1.tw13583229147706037701 : True := trivial
theorem hd1.tw1361454829774596367 : True := trivial
theorem hd1.tw13633040157758904016 : True := trivial
theorem hd1.tw13723444471205131577 : True := trivial
theorem hd1.tw13724862707146529684 : True := trivial
theorem hd1.tw13823016479905136447 : True := trivial
theorem hd1.tw13842049602752244408 : True := trivial
theorem hd1.tw13857333784512858309 : True := trivial
theorem hd1.tw13887915953586862633 : True := trivial
theorem hd1.tw13923645267195094232 : True := trivial
theorem hd1.tw13929332100705575127 : True := trivial
theorem hd1.tw13938469497844694659 : True := trivial
theorem hd1.tw14015870473954225645 : True := trivial
theorem hd1.tw14095725771970528816 : True := trivial
theorem hd1.tw14131978602899845701 : True := trivial
theorem hd1.tw14140380398854645116 : True := trivial
theorem hd1.tw1415532531148760997 : True := trivial
theorem hd1.tw14238315530982168757 : True := trivial
theorem hd1.tw14252812257507569475 : True := trivial
theorem hd1.tw143401062041269508 : True := trivial
theorem hd1.tw14346479770048778457 : True := trivial
theorem hd1.tw14387540253346532755 : True := trivial
theorem hd1.tw14398095550649337470 : True := trivial
theorem hd1.tw14416307740304488756 : True := trivial
theorem hd1.tw14452127331300777667 : True := trivial
theorem hd1.tw1445795673000212332 : True := trivial
theorem hd1.tw14490407293616978363 : True := trivial
theorem hd1.tw14513576803566825748 : True := trivial
theorem hd1.tw14540196334791046356 : True := trivial
theorem hd1.tw14586059867242780950 : True := trivial
theorem hd1.tw1460469024134179195 : True := trivial
theorem hd1.tw14649824945515725927 : True := trivial
theorem hd1.tw14652084677260438964 : True := trivial
theorem hd1.tw14681713640160019894 : True := trivial
theorem hd1.tw1470085350289813573 : True := trivial
theorem hd1.tw14791158851523332489 : True := trivial
theorem hd1.tw14839481126929160208 : True := trivial
theorem hd1.tw14883706491614423652 : True := trivial
theorem hd1.tw14888681892930032729 : True := trivial
theorem hd1.tw14963253518048370 : True := trivial
theorem hd1.tw14977828860100009464 : True := trivial
theorem hd1.tw15081404995735074333 : True := trivial
theorem hd1.tw15118222676993535980 : True := trivial
theorem hd1.tw15167611178512965357 : True := trivial
theorem hd1.tw15179292669217338969 : True := trivial
theorem hd1.tw15190184617536842642 : True := trivial
theorem hd1.tw15252899799796827630 : True := trivial
theorem hd1.tw15296254770460015583 : True := trivial
theorem hd1.tw15327932521975180921 : True := trivial
theorem hd1.tw1533040808431145814 : True := trivial
theorem hd1.tw15438616847687857790 : True := trivial
theorem hd1.tw1547420471868493628 : True := trivial
theorem hd1.tw15525991514620048645 : True := trivial
theorem hd1.tw15535730069458728833 : True := trivial
theorem hd1.tw1554079574828184689 : True := trivial
theorem hd1.tw15573934015689175913 : True := trivial
theorem hd1.tw15584380901759666120 : True := trivial
theorem hd1.tw15586839925380216821 : True := trivial
theorem hd1.tw15624449484511025347 : True := trivial
theorem hd1.tw1574240895515271585 : True := trivial
theorem hd1.tw15783190518918637506 : True := trivial
theorem hd1.tw15808759278926308796 : True := trivial
theorem hd1.tw15814337705471456161 : True := trivial
theorem hd1.tw15821401064879171796 : True := trivial
theorem hd1.tw15956409255844619330 : True := trivial
theorem hd1.tw16005694409484235844 : True := trivial
theorem hd1.tw16018651308206487611 : True := trivial
theorem hd1.tw16077422013827797515 : True := trivial
theorem hd1.tw1610998170477003041 : True := trivial
theorem hd1.tw16180554804944557726 : True := trivial
theorem hd1.tw16224483319457287118 : True := trivial
theorem hd1.tw16245187450951679177 : True := trivial
theorem hd1.tw16287689955150511984 : True := trivial
theorem hd1.tw16304285603775451318 : True := trivial
theorem hd1.tw16318424681510585870 : True := trivial
theorem hd1.tw16528475979132524867 : True := trivial
theorem hd1.tw16567681815171750878 : True := trivial
theorem hd1.tw1660649250092318135 : True := trivial
theorem hd1.tw16623122904889909375 : True := trivial
theorem hd1.tw16640466582886571552 : True := trivial
theorem hd1.tw16650832366258178549 : True := trivial
theorem hd1.tw16666759511887403641 : True := trivial
theorem hd1.tw16733359991727138261 : True := trivial
theorem hd1.tw16776402567520435936 : True := trivial
theorem hd1.tw16778215859786484773 : True := trivial
theorem hd1.tw16779206899387756009 : True := trivial
theorem hd1.tw16791109837119264035 : True := trivial
theorem hd1.tw16810127817807883888 : True := trivial
theorem hd1.tw16821161934679037718 : True := trivial
theorem hd1.tw168286879363250271 : True := trivial
theorem hd1.tw16869413692957655537 : True := trivial
theorem hd1.tw1691228469091631694 : True := trivial
theorem hd1.tw17031210902285631610 : True := trivial
theorem hd1.tw17086192308024907314 : True := trivial
theorem hd1.tw17098792813396857802 : True := trivial
theorem hd1.tw17168581725649065481 : True := trivial
theorem hd1.tw17218145132875897575 : True := trivial
theorem hd1.tw17238880981622594036 : True := trivial
theorem hd1.tw1726763379740191426 : True := trivial
theorem hd1.tw17291168127270580231 : True := trivial
theorem hd1.tw17319178471009983091 : True := trivial
theorem hd1.tw17398203663945988208 : True := trivial
theorem hd1.tw17449584201812072848 : True := trivial
theorem hd1.tw17462788290370780767 : True := trivial
theorem hd1.tw17463467490617138607 : True := trivial
theorem hd1.tw17481976684083832645 : True := trivial
theorem hd1.tw17564648270372520760 : True := trivial
theorem hd1.tw17583710694130043018 : True := trivial
theorem hd1.tw17626674450210069265 : True := trivial
theorem hd1.tw1765404437049439963 : True := trivial
theorem hd1.tw17680569178940253629 : True := trivial
theorem hd1.tw17689890857758183118 : True := trivial
theorem hd1.tw17705321265527564325 : True := trivial
theorem hd1.tw17727778823239604131 : True := trivial
theorem hd1.tw17732241797086222447 : True := trivial
theorem hd1.tw17817902403771200173 : True := trivial
theorem hd1.tw18034305138629300239 : True := trivial
theorem hd1.tw18061001510617752953 : True := trivial
theorem hd1.tw18069087793521395198 : True := trivial
theorem hd1.tw18112808974244860236 : True := trivial
theorem hd1.tw18132377320632897163 : True := trivial
theorem hd1.tw18134192685459499724 : True := trivial
theorem hd1.tw18227652438565928561 : True := trivial
theorem hd1.tw18309547283545053319 : True := trivial
theorem hd1.tw18312855696570544097 : True := trivial
theorem hd1.tw18375623129126509052 : True := trivial
theorem hd1.tw18398558094726407653 : True := trivial
theorem hd1.tw18405161421826791021 : True := trivial
theorem hd1.tw1853746065191597552 : True := trivial
theorem hd1.tw1919824005500916666 : True := trivial
theorem hd1.tw2085229428552649084 : True := trivial
theorem hd1.tw2261345848860794522 : True := trivial
theorem hd1.tw2265354207573026128 : True := trivial
theorem hd1.tw2323413284153139981 : True := trivial
theorem hd1.tw2374417684205958614 : True := trivial
theorem hd1.tw2513263071835253464 : True := trivial
theorem hd1.tw2580433498284544146 : True := trivial
theorem hd1.tw2625946525778736496 : True := trivial
theorem hd1.tw2704059530143181427 : True := trivial
theorem hd1.tw2745124542410995694 : True := trivial
theorem hd1.tw2801264983733388979 : True := trivial
theorem hd1.tw2813591263017548778 : True := trivial
theorem hd1.tw2914403869835032139 : True := trivial
theorem hd1.tw2950503374022526182 : True := trivial
theorem hd1.tw2959831663663325226 : True := trivial
theorem hd1.tw304488650468328195 : True := trivial
theorem hd1.tw3073534484378469675 : True := trivial
theorem hd1.tw3079589803360923938 : True := trivial
theorem hd1.tw3079903402703204434 : True := trivial
theorem hd1.tw3084328530403782026 : True := trivial
theorem hd1.tw3303622268802777402 : True := trivial
theorem hd1.tw3344717175671386141 : True := trivial
theorem hd1.tw3345426981677737193 : True := trivial
theorem hd1.tw3346475721458902818 : True := trivial
theorem hd1.tw3354342967632748776 : True := trivial
theorem hd1.tw3365818958329656131 : True := trivial
theorem hd1.tw3397788310783581495 : True := trivial
theorem hd1.tw3420248489401353461 : True := trivial
theorem hd1.tw3438612306271873676 : True := trivial
theorem hd1.tw351980263268335111 : True := trivial
theorem hd1.tw3525325795489406287 : True := trivial
theorem hd1.tw35357423663770356 : True := trivial
theorem hd1.tw3577877140213641605 : True := trivial
theorem hd1.tw3604894208380876759 : True := trivial
theorem hd1.tw375361845206884794 : True := trivial
theorem hd1.tw3836312220865285659 : True := trivial
theorem hd1.tw3853607101669160649 : True := trivial
theorem hd1.tw3909895745701242457 : True := trivial
theorem hd1.tw3927152944575126974 : True := trivial
theorem hd1.tw3939405677875705471 : True := trivial
theorem hd1.tw3968623045802316903 : True := trivial
theorem hd1.tw3980222632696544844 : True := trivial
theorem hd1.tw3984511333461951867 : True := trivial
theorem hd1.tw3990640514703076710 : True := trivial
theorem hd1.tw4043401122150412000 : True := trivial
theorem hd1.tw408274250101448718 : True := trivial
theorem hd1.tw4086086376619605135 : True := trivial
theorem hd1.tw4091040563041576416 : True := trivial
theorem hd1.tw4154939412740954478 : True := trivial
theorem hd1.tw4197318654114096287 : True := trivial
theorem hd1.tw4237873214717801346 : True := trivial
theorem hd1.tw4258035464622488116 : True := trivial
theorem hd1.tw4408349799870228239 : True := trivial
theorem hd1.tw4433450955553009417 : True := trivial
theorem hd1.tw4557649837304970399 : True := trivial
theorem hd1.tw4576695263573992903 : True := trivial
theorem hd1.tw4588320892244365729 : True := trivial
theorem hd1.tw4628067984456716818 : True := trivial
theorem hd1.tw4639107617205185495 : True := trivial
theorem hd1.tw4639686281658940113 : True := trivial
theorem hd1.tw4671828513497898689 : True := trivial
theorem hd1.tw4751404757920926090 : True := trivial
theorem hd1.tw4791334805922450664 : True := trivial
theorem hd1.tw4863333110396885016 : True := trivial
theorem hd1.tw4884983951705482328 : True := trivial
theorem hd1.tw4923933505645490834 : True := trivial
theorem hd1.tw4962675806589719800 : True := trivial
theorem hd1.tw4967397776580145187 : True := trivial
theorem hd1.tw5053878708071494200 : True := trivial
theorem hd1.tw5066486896154470470 : True := trivial
theorem hd1.tw5092411785185218150 : True := trivial
theorem hd1.tw5093201182074696760 : True := trivial
theorem hd1.tw5152911333813713629 : True := trivial
theorem hd1.tw5156043985427674254 : True := trivial
theorem hd1.tw5161873937053049608 : True := trivial
theorem hd1.tw5203880538110798832 : True := trivial
theorem hd1.tw520593062444337645 : True := trivial
theorem hd1.tw5218349642967262791 : True := trivial
theorem hd1.tw5225363102262395915 : True := trivial
theorem hd1.tw5238190785934107401 : True := trivial
theorem hd1.tw5358471955872453101 : True := trivial
theorem hd1.tw5396625778321767378 : True := trivial
theorem hd1.tw5473581925774263227 : True := trivial
theorem hd1.tw5528719629094430642 : True := trivial
theorem hd1.tw5551525266095413032 : True := trivial
theorem hd1.tw5639840757252238823 : True := trivial
theorem hd1.tw5656153422853955493 : True := trivial
theorem hd1.tw5691976006357882984 : True := trivial
theorem hd1.tw5718028182253510470 : True := trivial
theorem hd1.tw5747497899641498201 : True := trivial
theorem hd1.tw5780167445656238219 : True := trivial
theorem hd1.tw5865070894055973056 : True := trivial
theorem hd1.tw58709120958063738 : True := trivial
theorem hd1.tw5966988754345751985 : True := trivial
theorem hd1.tw6063318762767063493 : True := trivial
theorem hd1.tw6073334317717499053 : True := trivial
theorem hd1.tw6079623352532201122 : True := trivial
theorem hd1.tw6131995805079208074 : True := trivial
theorem hd1.tw6185010501481489848 : True := trivial
theorem hd1.tw6198552919653065186 : True := trivial
theorem hd1.tw6284985742173703420 : True := trivial
theorem hd1.tw6305477527101071121 : True := trivial
theorem hd1.tw6308067094839483347 : True := trivial
theorem hd1.tw6330836371028820707 : True := trivial
theorem hd1.tw6370840495346487638 : True := trivial
theorem hd1.tw6379131535691634451 : True := trivial
theorem hd1.tw6480295302920615516 : True := trivial
theorem hd1.tw6524030025866939370 : True := trivial
theorem hd1.tw6549546727981280350 : True := trivial
theorem hd1.tw6556227123224777973 : True := trivial
theorem hd1.tw665078177447649572 : True := trivial
theorem hd1.tw6656426479050633351 : True := trivial
theorem hd1.tw6668516419338058186 : True := trivial
theorem hd1.tw6670969005617463830 : True := trivial
theorem hd1.tw6934642604343072221 : True := trivial
theorem hd1.tw6985857116695261616 : True := trivial
theorem hd1.tw6994519871624969286 : True := trivial
theorem hd1.tw7022663675352097518 : True := trivial
theorem hd1.tw7042658147384840316 : True := trivial
theorem hd1.tw7083741785457975351 : True := trivial
theorem hd1.tw7091960353978150725 : True := trivial
theorem hd1.tw7100356614995842017 : True := trivial
theorem hd1.tw7120988893298550348 : True := trivial
theorem hd1.tw7156524065329512335 : True := trivial
theorem hd1.tw7168107392325884624 : True := trivial
theorem hd1.tw7175010419093857757 : True := trivial
theorem hd1.tw7216921124072692145 : True := trivial
theorem hd1.tw7269482589347824076 : True := trivial
theorem hd1.tw7297617245376139466 : True := trivial
theorem hd1.tw7347129576778932244 : True := trivial
theorem hd1.tw7385534433255648252 : True := trivial
theorem hd1.tw7433779958769928529 : True := trivial
theorem hd1.tw7434838108570963031 : True := trivial
theorem hd1.tw7483665479281673633 : True := trivial
theorem hd1.tw7525091769447867299 : True := trivial
theorem hd1.tw7546930263929380663 : True := trivial
theorem hd1.tw7610408013665375615 : True := trivial
theorem hd1.tw7623428409183812071 : True := trivial
theorem hd1.tw7623500198662771453 : True := trivial
theorem hd1.tw7663938932065544761 : True := trivial
theorem hd1.tw7677014850717829183 : True := trivial
theorem hd1.tw768367795782103253 : True := trivial
theorem hd1.tw7683691486728802568 : True := trivial
theorem hd1.tw7723042764694017786 : True := trivial
theorem hd1.tw7729574260132436508 : True := trivial
theorem hd1.tw7743180892591142030 : True := trivial
theorem hd1.tw7761271061229007458 : True := trivial
theorem hd1.tw7794109029900032020 : True := trivial
theorem hd1.tw7821715371302368064 : True := trivial
theorem hd1.tw7841633892405797194 : True := trivial
theorem hd1.tw7876695694319197448 : True := trivial
theorem hd1.tw7890804143902418197 : True := trivial
theorem hd1.tw7915504906245089691 : True := trivial
theorem hd1.tw7965246771855541013 : True := trivial
theorem hd1.tw8007918097917935607 : True := trivial
theorem hd1.tw8010435744178810147 : True := trivial
theorem hd1.tw8012877250028143712 : True := trivial
theorem hd1.tw801485319111023190 : True := trivial
theorem hd1.tw8107275236387148147 : True := trivial
theorem hd1.tw8146454579525294916 : True := trivial
theorem hd1.tw8170644531034959647 : True := trivial
theorem hd1.tw8241462650761644020 : True := trivial
theorem hd1.tw8248280725792500437 : True := trivial
theorem hd1.tw8304653980135869391 : True := trivial
theorem hd1.tw834277278760182879 : True := trivial
theorem hd1.tw8365471939444515919 : True := trivial
theorem hd1.tw8381735889464962274 : True := trivial
theorem hd1.tw8446680965565879244 : True := trivial
theorem hd1.tw846292476365429791 : True := trivial
theorem hd1.tw8565500928768432089 : True := trivial
theorem hd1.tw8631331084146344804 : True := trivial
theorem hd1.tw8667354244190541383 : True := trivial
theorem hd1.tw8812050181727419407 : True := trivial
theorem hd1.tw8822810814059822395 : True := trivial
theorem hd1.tw8828191528000094977 : True := trivial
theorem hd1.tw8870756991148732165 : True := trivial
theorem hd1.tw8890252324961279533 : True := trivial
theorem hd1.tw8900847686864390695 : True := trivial
theorem hd1.tw8942475824201148736 : True := trivial
theorem hd1.tw8950131305491959409 : True := trivial
theorem hd1.tw8956442991890726818 : True := trivial
theorem hd1.tw8973991561528139407 : True := trivial
theorem hd1.tw9047493503817814664 : True := trivial
theorem hd1.tw9066385376036924593 : True := trivial
theorem hd1.tw9178905753584819385 : True := trivial
theorem hd1.tw9194154633654548310 : True := trivial
theorem hd1.tw9223151423020971987 : True := trivial
theorem hd1.tw925455524096654728 : True := trivial
theorem hd1.tw9426103928435659652 : True := trivial
theorem hd1.tw9426643433994353743 : True := trivial
theorem hd1.tw9475623709170547405 : True := trivial
theorem hd1.tw9525304095897062524 : True := trivial
theorem hd1.tw9560512301859472189 : True := trivial
theorem hd1.tw962022446017897790 : True := trivial
theorem hd1.tw9656552640031312617 : True := trivial
theorem hd1.tw9739346876377804127 : True := trivial
theorem hd1.tw9740124211911318176 : True := trivial
theorem hd1.tw9852316406497762695 : True := trivial
theorem hd1.tw9891423857263708744 : True := trivial
theorem hd1.tw9941369098064262265 : True := trivial
theorem hd1.tw9957920846010186260 : True := trivial
theorem hd1.tw9958680822381570546 : True := trivial
theorem hd1.tw9976965627611707242 : True := trivial
theorem hd1.tw9991809992172398152 : True := trivial
inductive Kept {P : Prop} (h : P) : Type | mk
theorem keep {P : Prop} (h : P) (_ : Kept h) : P := h
set_option Elab.async true in
theorem hd1 : True := by
  refine (?G : PySem.Challenge.rw_ta0132_01.Holds → True) ?X
  case X => as_aux_lemma => (w_on; o_law; as_aux_lemma => (k_head; (case hw => w_witness2); apply_rules (newGoals := .nonDependentOnly) [keep]; constructor))
  case G => intro _; trivial
theorem hd1_off : hd1.heap_1_39 = hd1.heap_1_39 := by
  w_top off
  rfl
namespace Internal
theorem sk_ex {α : Type} [Nonempty α] (P : α → Prop) : ∃ x, P x → ∀ y, P y :=
  Classical.byCases (fun h : ∃ y, ¬ P y => h.elim fun y hy => ⟨y, fun p => absurd p hy⟩)
    fun h => (‹Nonempty α›).elim fun x => ⟨x, fun _ y => Classical.byContradiction fun hy => h ⟨y, hy⟩⟩
noncomputable def sk {α : Type} [Nonempty α] (P : α → Prop) : α := Classical.choose (sk_ex P)
theorem all_sk {α : Type} [Nonempty α] (P : α → Prop) (h : P (sk P)) : ∀ x, P x := Classical.choose_spec (sk_ex P) h
theorem ex_ex {α : Type} [Nonempty α] (P : α → Prop) : ∃ x, (∃ y, P y) → P x :=
  Classical.byCases (fun h : ∃ y, P y => h.elim fun y hy => ⟨y, fun _ => hy⟩)
    fun h => (‹Nonempty α›).elim fun x => ⟨x, fun q => absurd q h⟩
noncomputable def ex {α : Type} [Nonempty α] (P : α → Prop) : α := Classical.choose (ex_ex P)
theorem ex_spec {α : Type} [Nonempty α] (P : α → Prop) (h : ∃ y, P y) : P (ex P) := Classical.choose_spec (ex_ex P) h
theorem and_e {A B G : Prop} (h : A ∧ B) (k : A → B → G) : G := k h.1 h.2
section
variable {A1 : Type} {P : A1 → Prop} {x1 : A1} {G : Prop}
def Box1 (P : A1 → Prop) (x1 : A1) : Prop := P x1
abbrev All1 (P : A1 → Prop) : Prop := ∀ x1, Box1 P x1
theorem ub1 (h : P x1) : Box1 P x1 := h
abbrev AllE1 (P : A1 → Prop) (G : Prop) : Prop := ∀ x1, Box1 P x1 → G
theorem exI1 (h : P x1) : ∃ x1, P x1 := ⟨x1, h⟩
theorem uE1 (k : P x1 → G) : Box1 P x1 → G := k
def pk1 (P : A1 → Prop) (p : A1) : Prop := P p
end
section
variable {A1 : Type} [Nonempty A1] (P : A1 → Prop)
noncomputable def sk1a : A1 := (sk (pk1 P))
noncomputable def ex1a : A1 := (ex (pk1 P))
variable {P}
theorem al1 (h : Box1 P (sk1a P)) : ∀ x1, P x1 := fun x1 => all_sk (pk1 P) h x1
theorem exs1 (h : ∃ x1, P x1) : Box1 P (ex1a P) := ex_spec (pk1 P) (h.elim fun x1 h => ⟨x1, h⟩)
end
section
variable {A1 A2 : Type} {P : A1 → A2 → Prop} {x1 : A1} {x2 : A2} {G : Prop}
def Box2 (P : A1 → A2 → Prop) (x1 : A1) (x2 : A2) : Prop := P x1 x2
abbrev All2 (P : A1 → A2 → Prop) : Prop := ∀ x1 x2, Box2 P x1 x2
theorem ub2 (h : P x1 x2) : Box2 P x1 x2 := h
abbrev AllE2 (P : A1 → A2 → Prop) (G : Prop) : Prop := ∀ x1 x2, Box2 P x1 x2 → G
theorem exI2 (h : P x1 x2) : ∃ x1 x2, P x1 x2 := ⟨x1, x2, h⟩
theorem uE2 (k : P x1 x2 → G) : Box2 P x1 x2 → G := k
def pk2 (P : A1 → A2 → Prop) (p : A1 × A2) : Prop := P p.1 p.2
end
section
variable {A1 A2 : Type} [Nonempty A1] [Nonempty A2] (P : A1 → A2 → Prop)
noncomputable def sk2a : A1 := (sk (pk2 P)).1
noncomputable def sk2b : A2 := (sk (pk2 P)).2
noncomputable def ex2a : A1 := (ex (pk2 P)).1
noncomputable def ex2b : A2 := (ex (pk2 P)).2
variable {P}
theorem al2 (h : Box2 P (sk2a P) (sk2b P)) : ∀ x1 x2, P x1 x2 := fun x1 x2 => all_sk (pk2 P) h ⟨x1, x2⟩
theorem exs2 (h : ∃ x1 x2, P x1 x2) : Box2 P (ex2a P) (ex2b P) := ex_spec (pk2 P) (h.elim fun x1 h => h.elim  fun x2 h => ⟨⟨x1, x2⟩, h⟩)
end
section
variable {A1 A2 A3 : Type} {P : A1 → A2 → A3 → Prop} {x1 : A1} {x2 : A2} {x3 : A3} {G : Prop}
def Box3 (P : A1 → A2 → A3 → Prop) (x1 : A1) (x2 : A2) (x3 : A3) : Prop := P x1 x2 x3
abbrev All3 (P : A1 → A2 → A3 → Prop) : Prop := ∀ x1 x2 x3, Box3 P x1 x2 x3
theorem ub3 (h : P x1 x2 x3) : Box3 P x1 x2 x3 := h
abbrev AllE3 (P : A1 → A2 → A3 → Prop) (G : Prop) : Prop := ∀ x1 x2 x3, Box3 P x1 x2 x3 → G
theorem exI3 (h : P x1 x2 x3) : ∃ x1 x2 x3, P x1 x2 x3 := ⟨x1, x2, x3, h⟩
theorem uE3 (k : P x1 x2 x3 → G) : Box3 P x1 x2 x3 → G := k
def pk3 (P : A1 → A2 → A3 → Prop) (p : A1 × A2 × A3) : Prop := P p.1 p.2.1 p.2.2
end
section
variable {A1 A2 A3 : Type} [Nonempty A1] [Nonempty A2] [Nonempty A3] (P : A1 → A2 → A3 → Prop)
noncomputable def sk3a : A1 := (sk (pk3 P)).1
noncomputable def sk3b : A2 := (sk (pk3 P)).2.1
noncomputable def sk3c : A3 := (sk (pk3 P)).2.2
noncomputable def ex3a : A1 := (ex (pk3 P)).1
noncomputable def ex3b : A2 := (ex (pk3 P)).2.1
noncomputable def ex3c : A3 := (ex (pk3 P)).2.2
variable {P}
theorem al3 (h : Box3 P (sk3a P) (sk3b P) (sk3c P)) : ∀ x1 x2 x3, P x1 x2 x3 := fun x1 x2 x3 => all_sk (pk3 P) h ⟨x1, x2, x3⟩
theorem exs3 (h : ∃ x1 x2 x3, P x1 x2 x3) : Box3 P (ex3a P) (ex3b P) (ex3c P) := ex_spec (pk3 P) (h.elim fun x1 h => h.elim  fun x2 h => h.elim  fun x3 h => ⟨⟨x1, x2, x3⟩, h⟩)
end
section
variable {A1 A2 A3 A4 : Type} {P : A1 → A2 → A3 → A4 → Prop} {x1 : A1} {x2 : A2} {x3 : A3} {x4 : A4} {G : Prop}
def Box4 (P : A1 → A2 → A3 → A4 → Prop) (x1 : A1) (x2 : A2) (x3 : A3) (x4 : A4) : Prop := P x1 x2 x3 x4
abbrev All4 (P : A1 → A2 → A3 → A4 → Prop) : Prop := ∀ x1 x2 x3 x4, Box4 P x1 x2 x3 x4
theorem ub4 (h : P x1 x2 x3 x4) : Box4 P x1 x2 x3 x4 := h
abbrev AllE4 (P : A1 → A2 → A3 → A4 → Prop) (G : Prop) : Prop := ∀ x1 x2 x3 x4, Box4 P x1 x2 x3 x4 → G
theorem exI4 (h : P x1 x2 x3 x4) : ∃ x1 x2 x3 x4, P x1 x2 x3 x4 := ⟨x1, x2, x3, x4, h⟩
theorem uE4 (k : P x1 x2 x3 x4 → G) : Box4 P x1 x2 x3 x4 → G := k
def pk4 (P : A1 → A2 → A3 → A4 → Prop) (p : A1 × A2 × A3 × A4) : Prop := P p.1 p.2.1 p.2.2.1 p.2.2.2
end
section
variable {A1 A2 A3 A4 : Type} [Nonempty A1] [Nonempty A2] [Nonempty A3] [Nonempty A4] (P : A1 → A2 → A3 → A4 → Prop)
noncomputable def sk4a : A1 := (sk (pk4 P)).1
noncomputable def sk4b : A2 := (sk (pk4 P)).2.1
noncomputable def sk4c : A3 := (sk (pk4 P)).2.2.1
noncomputable def sk4d : A4 := (sk (pk4 P)).2.2.2
noncomputable def ex4a : A1 := (ex (pk4 P)).1
noncomputable def ex4b : A2 := (ex (pk4 P)).2.1
noncomputable def ex4c : A3 := (ex (pk4 P)).2.2.1
noncomputable def ex4d : A4 := (ex (pk4 P)).2.2.2
variable {P}
theorem al4 (h : Box4 P (sk4a P) (sk4b P) (sk4c P) (sk4d P)) : ∀ x1 x2 x3 x4, P x1 x2 x3 x4 := fun x1 x2 x3 x4 => all_sk (pk4 P) h ⟨x1, x2, x3, x4⟩
theorem exs4 (h : ∃ x1 x2 x3 x4, P x1 x2 x3 x4) : Box4 P (ex4a P) (ex4b P) (ex4c P) (ex4d P) := ex_spec (pk4 P) (h.elim fun x1 h => h.elim  fun x2 h => h.elim  fun x3 h => h.elim  fun x4 h => ⟨⟨x1, x2, x3, x4⟩, h⟩)
end
section
variable {A1 A2 A3 A4 A5 : Type} {P : A1 → A2 → A3 → A4 → A5 → Prop} {x1 : A1} {x2 : A2} {x3 : A3} {x4 : A4} {x5 : A5} {G : Prop}
def Box5 (P : A1 → A2 → A3 → A4 → A5 → Prop) (x1 : A1) (x2 : A2) (x3 : A3) (x4 : A4) (x5 : A5) : Prop := P x1 x2 x3 x4 x5
abbrev All5 (P : A1 → A2 → A3 → A4 → A5 → Prop) : Prop := ∀ x1 x2 x3 x4 x5, Box5 P x1 x2 x3 x4 x5
theorem ub5 (h : P x1 x2 x3 x4 x5) : Box5 P x1 x2 x3 x4 x5 := h
abbrev AllE5 (P : A1 → A2 → A3 → A4 → A5 → Prop) (G : Prop) : Prop := ∀ x1 x2 x3 x4 x5, Box5 P x1 x2 x3 x4 x5 → G
theorem exI5 (h : P x1 x2 x3 x4 x5) : ∃ x1 x2 x3 x4 x5, P x1 x2 x3 x4 x5 := ⟨x1, x2, x3, x4, x5, h⟩
theorem uE5 (k : P x1 x2 x3 x4 x5 → G) : Box5 P x1 x2 x3 x4 x5 → G := k
def pk5 (P : A1 → A2 → A3 → A4 → A5 → Prop) (p : A1 × A2 × A3 × A4 × A5) : Prop := P p.1 p.2.1 p.2.2.1 p.2.2.2.1 p.2.2.2.2
end
section
variable {A1 A2 A3 A4 A5 : Type} [Nonempty A1] [Nonempty A2] [Nonempty A3] [Nonempty A4] [Nonempty A5] (P : A1 → A2 → A3 → A4 → A5 → Prop)
noncomputable def sk5a : A1 := (sk (pk5 P)).1
noncomputable def sk5b : A2 := (sk (pk5 P)).2.1
noncomputable def sk5c : A3 := (sk (pk5 P)).2.2.1
noncomputable def sk5d : A4 := (sk (pk5 P)).2.2.2.1
noncomputable def sk5e : A5 := (sk (pk5 P)).2.2.2.2
noncomputable def ex5a : A1 := (ex (pk5 P)).1
noncomputable def ex5b : A2 := (ex (pk5 P)).2.1
noncomputable def ex5c : A3 := (ex (pk5 P)).2.2.1
noncomputable def ex5d : A4 := (ex (pk5 P)).2.2.2.1
noncomputable def ex5e : A5 := (ex (pk5 P)).2.2.2.2
variable {P}
theorem al5 (h : Box5 P (sk5a P) (sk5b P) (sk5c P) (sk5d P) (sk5e P)) : ∀ x1 x2 x3 x4 x5, P x1 x2 x3 x4 x5 := fun x1 x2 x3 x4 x5 => all_sk (pk5 P) h ⟨x1, x2, x3, x4, x5⟩
theorem exs5 (h : ∃ x1 x2 x3 x4 x5, P x1 x2 x3 x4 x5) : Box5 P (ex5a P) (ex5b P) (ex5c P) (ex5d P) (ex5e P) := ex_spec (pk5 P) (h.elim fun x1 h => h.elim  fun x2 h => h.elim  fun x3 h => h.elim  fun x4 h => h.elim  fun x5 h => ⟨⟨x1, x2, x3, x4, x5⟩, h⟩)
end
section
variable {A1 A2 A3 A4 A5 A6 : Type} {P : A1 → A2 → A3 → A4 → A5 → A6 → Prop} {x1 : A1} {x2 : A2} {x3 : A3} {x4 : A4} {x5 : A5} {x6 : A6} {G : Prop}
def Box6 (P : A1 → A2 → A3 → A4 → A5 → A6 → Prop) (x1 : A1) (x2 : A2) (x3 : A3) (x4 : A4) (x5 : A5) (x6 : A6) : Prop := P x1 x2 x3 x4 x5 x6
abbrev All6 (P : A1 → A2 → A3 → A4 → A5 → A6 → Prop) : Prop := ∀ x1 x2 x3 x4 x5 x6, Box6 P x1 x2 x3 x4 x5 x6
theorem ub6 (h : P x1 x2 x3 x4 x5 x6) : Box6 P x1 x2 x3 x4 x5 x6 := h
abbrev AllE6 (P : A1 → A2 → A3 → A4 → A5 → A6 → Prop) (G : Prop) : Prop := ∀ x1 x2 x3 x4 x5 x6, Box6 P x1 x2 x3 x4 x5 x6 → G
theorem exI6 (h : P x1 x2 x3 x4 x5 x6) : ∃ x1 x2 x3 x4 x5 x6, P x1 x2 x3 x4 x5 x6 := ⟨x1, x2, x3, x4, x5, x6, h⟩
theorem uE6 (k : P x1 x2 x3 x4 x5 x6 → G) : Box6 P x1 x2 x3 x4 x5 x6 → G := k
def pk6 (P : A1 → A2 → A3 → A4 → A5 → A6 → Prop) (p : A1 × A2 × A3 × A4 × A5 × A6) : Prop := P p.1 p.2.1 p.2.2.1 p.2.2.2.1 p.2.2.2.2.1 p.2.2.2.2.2
end
section
variable {A1 A2 A3 A4 A5 A6 : Type} [Nonempty A1] [Nonempty A2] [Nonempty A3] [Nonempty A4] [Nonempty A5] [Nonempty A6] (P : A1 → A2 → A3 → A4 → A5 → A6 → Prop)
noncomputable def sk6a : A1 := (sk (pk6 P)).1
noncomputable def sk6b : A2 := (sk (pk6 P)).2.1
noncomputable def sk6c : A3 := (sk (pk6 P)).2.2.1
noncomputable def sk6d : A4 := (sk (pk6 P)).2.2.2.1
noncomputable def sk6e : A5 := (sk (pk6 P)).2.2.2.2.1
noncomputable def sk6f : A6 := (sk (pk6 P)).2.2.2.2.2
noncomputable def ex6a : A1 := (ex (pk6 P)).1
noncomputable def ex6b : A2 := (ex (pk6 P)).2.1
noncomputable def ex6c : A3 := (ex (pk6 P)).2.2.1
noncomputable def ex6d : A4 := (ex (pk6 P)).2.2.2.1
noncomputable def ex6e : A5 := (ex (pk6 P)).2.2.2.2.1
noncomputable def ex6f : A6 := (ex (pk6 P)).2.2.2.2.2
variable {P}
theorem al6 (h : Box6 P (sk6a P) (sk6b P) (sk6c P) (sk6d P) (sk6e P) (sk6f P)) : ∀ x1 x2 x3 x4 x5 x6, P x1 x2 x3 x4 x5 x6 := fun x1 x2 x3 x4 x5 x6 => all_sk (pk6 P) h ⟨x1, x2, x3, x4, x5, x6⟩
theorem exs6 (h : ∃ x1 x2 x3 x4 x5 x6, P x1 x2 x3 x4 x5 x6) : Box6 P (ex6a P) (ex6b P) (ex6c P) (ex6d P) (ex6e P) (ex6f P) := ex_spec (pk6 P) (h.elim fun x1 h => h.elim  fun x2 h => h.elim  fun x3 h => h.elim  fun x4 h => h.elim  fun x5 h => h.elim  fun x6 h => ⟨⟨x1, x2, x3, x4, x5, x6⟩, h⟩)
end
section
variable {A1 A2 A3 A4 A5 A6 A7 : Type} {P : A1 → A2 → A3 → A4 → A5 → A6 → A7 → Prop} {x1 : A1} {x2 : A2} {x3 : A3} {x4 : A4} {x5 : A5} {x6 : A6} {x7 : A7} {G : Prop}
def Box7 (P : A1 → A2 → A3 → A4 → A5 → A6 → A7 → Prop) (x1 : A1) (x2 : A2) (x3 : A3) (x4 : A4) (x5 : A5) (x6 : A6) (x7 : A7) : Prop := P x1 x2 x3 x4 x5 x6 x7
abbrev All7 (P : A1 → A2 → A3 → A4 → A5 → A6 → A7 → Prop) : Prop := ∀ x1 x2 x3 x4 x5 x6 x7, Box7 P x1 x2 x3 x4 x5 x6 x7
theorem ub7 (h : P x1 x2 x3 x4 x5 x6 x7) : Box7 P x1 x2 x3 x4 x5 x6 x7 := h
abbrev AllE7 (P : A1 → A2 → A3 → A4 → A5 → A6 → A7 → Prop) (G : Prop) : Prop := ∀ x1 x2 x3 x4 x5 x6 x7, Box7 P x1 x2 x3 x4 x5 x6 x7 → G
theorem exI7 (h : P x1 x2 x3 x4 x5 x6 x7) : ∃ x1 x2 x3 x4 x5 x6 x7, P x1 x2 x3 x4 x5 x6 x7 := ⟨x1, x2, x3, x4, x5, x6, x7, h⟩
theorem uE7 (k : P x1 x2 x3 x4 x5 x6 x7 → G) : Box7 P x1 x2 x3 x4 x5 x6 x7 → G := k
def pk7 (P : A1 → A2 → A3 → A4 → A5 → A6 → A7 → Prop) (p : A1 × A2 × A3 × A4 × A5 × A6 × A7) : Prop := P p.1 p.2.1 p.2.2.1 p.2.2.2.1 p.2.2.2.2.1 p.2.2.2.2.2.1 p.2.2.2.2.2.2
end
section
variable {A1 A2 A3 A4 A5 A6 A7 : Type} [Nonempty A1] [Nonempty A2] [Nonempty A3] [Nonempty A4] [Nonempty A5] [Nonempty A6] [Nonempty A7] (P : A1 → A2 → A3 → A4 → A5 → A6 → A7 → Prop)
noncomputable def sk7a : A1 := (sk (pk7 P)).1
noncomputable def sk7b : A2 := (sk (pk7 P)).2.1
noncomputable def sk7c : A3 := (sk (pk7 P)).2.2.1
noncomputable def sk7d : A4 := (sk (pk7 P)).2.2.2.1
noncomputable def sk7e : A5 := (sk (pk7 P)).2.2.2.2.1
noncomputable def sk7f : A6 := (sk (pk7 P)).2.2.2.2.2.1
noncomputable def sk7g : A7 := (sk (pk7 P)).2.2.2.2.2.2
noncomputable def ex7a : A1 := (ex (pk7 P)).1
noncomputable def ex7b : A2 := (ex (pk7 P)).2.1
noncomputable def ex7c : A3 := (ex (pk7 P)).2.2.1
noncomputable def ex7d : A4 := (ex (pk7 P)).2.2.2.1
noncomputable def ex7e : A5 := (ex (pk7 P)).2.2.2.2.1
noncomputable def ex7f : A6 := (ex (pk7 P)).2.2.2.2.2.1
noncomputable def ex7g : A7 := (ex (pk7 P)).2.2.2.2.2.2
variable {P}
theorem al7 (h : Box7 P (sk7a P) (sk7b P) (sk7c P) (sk7d P) (sk7e P) (sk7f P) (sk7g P)) : ∀ x1 x2 x3 x4 x5 x6 x7, P x1 x2 x3 x4 x5 x6 x7 := fun x1 x2 x3 x4 x5 x6 x7 => all_sk (pk7 P) h ⟨x1, x2, x3, x4, x5, x6, x7⟩
theorem exs7 (h : ∃ x1 x2 x3 x4 x5 x6 x7, P x1 x2 x3 x4 x5 x6 x7) : Box7 P (ex7a P) (ex7b P) (ex7c P) (ex7d P) (ex7e P) (ex7f P) (ex7g P) := ex_spec (pk7 P) (h.elim fun x1 h => h.elim  fun x2 h => h.elim  fun x3 h => h.elim  fun x4 h => h.elim  fun x5 h => h.elim  fun x6 h => h.elim  fun x7 h => ⟨⟨x1, x2, x3, x4, x5, x6, x7⟩, h⟩)
end
section
variable {A1 A2 A3 A4 A5 A6 A7 A8 : Type} {P : A1 → A2 → A3 → A4 → A5 → A6 → A7 → A8 → Prop} {x1 : A1} {x2 : A2} {x3 : A3} {x4 : A4} {x5 : A5} {x6 : A6} {x7 : A7} {x8 : A8} {G : Prop}
def Box8 (P : A1 → A2 → A3 → A4 → A5 → A6 → A7 → A8 → Prop) (x1 : A1) (x2 : A2) (x3 : A3) (x4 : A4) (x5 : A5) (x6 : A6) (x7 : A7) (x8 : A8) : Prop := P x1 x2 x3 x4 x5 x6 x7 x8
abbrev All8 (P : A1 → A2 → A3 → A4 → A5 → A6 → A7 → A8 → Prop) : Prop := ∀ x1 x2 x3 x4 x5 x6 x7 x8, Box8 P x1 x2 x3 x4 x5 x6 x7 x8
theorem ub8 (h : P x1 x2 x3 x4 x5 x6 x7 x8) : Box8 P x1 x2 x3 x4 x5 x6 x7 x8 := h
abbrev AllE8 (P : A1 → A2 → A3 → A4 → A5 → A6 → A7 → A8 → Prop) (G : Prop) : Prop := ∀ x1 x2 x3 x4 x5 x6 x7 x8, Box8 P x1 x2 x3 x4 x5 x6 x7 x8 → G
theorem exI8 (h : P x1 x2 x3 x4 x5 x6 x7 x8) : ∃ x1 x2 x3 x4 x5 x6 x7 x8, P x1 x2 x3 x4 x5 x6 x7 x8 := ⟨x1, x2, x3, x4, x5, x6, x7, x8, h⟩
theorem uE8 (k : P x1 x2 x3 x4 x5 x6 x7 x8 → G) : Box8 P x1 x2 x3 x4 x5 x6 x7 x8 → G := k
def pk8 (P : A1 → A2 → A3 → A4 → A5 → A6 → A7 → A8 → Prop) (p : A1 × A2 × A3 × A4 × A5 × A6 × A7 × A8) : Prop := P p.1 p.2.1 p.2.2.1 p.2.2.2.1 p.2.2.2.2.1 p.2.2.2.2.2.1 p.2.2.2.2.2.2.1 p.2.2.2.2.2.2.2
end
section
variable {A1 A2 A3 A4 A5 A6 A7 A8 : Type} [Nonempty A1] [Nonempty A2] [Nonempty A3] [Nonempty A4] [Nonempty A5] [Nonempty A6] [Nonempty A7] [Nonempty A8] (P : A1 → A2 → A3 → A4 → A5 → A6 → A7 → A8 → Prop)
noncomputable def sk8a : A1 := (sk (pk8 P)).1
noncomputable def sk8b : A2 := (sk (pk8 P)).2.1
noncomputable def sk8c : A3 := (sk (pk8 P)).2.2.1
noncomputable def sk8d : A4 := (sk (pk8 P)).2.2.2.1
noncomputable def sk8e : A5 := (sk (pk8 P)).2.2.2.2.1
noncomputable def sk8f : A6 := (sk (pk8 P)).2.2.2.2.2.1
noncomputable def sk8g : A7 := (sk (pk8 P)).2.2.2.2.2.2.1
noncomputable def sk8h : A8 := (sk (pk8 P)).2.2.2.2.2.2.2
noncomputable def ex8a : A1 := (ex (pk8 P)).1
noncomputable def ex8b : A2 := (ex (pk8 P)).2.1
noncomputable def ex8c : A3 := (ex (pk8 P)).2.2.1
noncomputable def ex8d : A4 := (ex (pk8 P)).2.2.2.1
noncomputable def ex8e : A5 := (ex (pk8 P)).2.2.2.2.1
noncomputable def ex8f : A6 := (ex (pk8 P)).2.2.2.2.2.1
noncomputable def ex8g : A7 := (ex (pk8 P)).2.2.2.2.2.2.1
noncomputable def ex8h : A8 := (ex (pk8 P)).2.2.2.2.2.2.2
variable {P}
theorem al8 (h : Box8 P (sk8a P) (sk8b P) (sk8c P) (sk8d P) (sk8e P) (sk8f P) (sk8g P) (sk8h P)) : ∀ x1 x2 x3 x4 x5 x6 x7 x8, P x1 x2 x3 x4 x5 x6 x7 x8 := fun x1 x2 x3 x4 x5 x6 x7 x8 => all_sk (pk8 P) h ⟨x1, x2, x3, x4, x5, x6, x7, x8⟩
theorem exs8 (h : ∃ x1 x2 x3 x4 x5 x6 x7 x8, P x1 x2 x3 x4 x5 x6 x7 x8) : Box8 P (ex8a P) (ex8b P) (ex8c P) (ex8d P) (ex8e P) (ex8f P) (ex8g P) (ex8h P) := ex_spec (pk8 P) (h.elim fun x1 h => h.elim  fun x2 h => h.elim  fun x3 h => h.elim  fun x4 h => h.elim  fun x5 h => h.elim  fun x6 h => h.elim  fun x7 h => h.elim  fun x8 h => ⟨⟨x1, x2, x3, x4, x5, x6, x7, x8⟩, h⟩)
end
section
variable {A1 A2 A3 A4 A5 A6 A7 A8 A9 : Type} {P : A1 → A2 → A3 → A4 → A5 → A6 → A7 → A8 → A9 → Prop} {x1 : A1} {x2 : A2} {x3 : A3} {x4 : A4} {x5 : A5} {x6 : A6} {x7 : A7} {x8 : A8} {x9 : A9} {G : Prop}
def Box9 (P : A1 → A2 → A3 → A4 → A5 → A6 → A7 → A8 → A9 → Prop) (x1 : A1) (x2 : A2) (x3 : A3) (x4 : A4) (x5 : A5) (x6 : A6) (x7 : A7) (x8 : A8) (x9 : A9) : Prop := P x1 x2 x3 x4 x5 x6 x7 x8 x9
abbrev All9 (P : A1 → A2 → A3 → A4 → A5 → A6 → A7 → A8 → A9 → Prop) : Prop := ∀ x1 x2 x3 x4 x5 x6 x7 x8 x9, Box9 P x1 x2 x3 x4 x5 x6 x7 x8 x9
theorem ub9 (h : P x1 x2 x3 x4 x5 x6 x7 x8 x9) : Box9 P x1 x2 x3 x4 x5 x6 x7 x8 x9 := h
abbrev AllE9 (P : A1 → A2 → A3 → A4 → A5 → A6 → A7 → A8 → A9 → Prop) (G : Prop) : Prop := ∀ x1 x2 x3 x4 x5 x6 x7 x8 x9, Box9 P x1 x2 x3 x4 x5 x6 x7 x8 x9 → G
theorem exI9 (h : P x1 x2 x3 x4 x5 x6 x7 x8 x9) : ∃ x1 x2 x3 x4 x5 x6 x7 x8 x9, P x1 x2 x3 x4 x5 x6 x7 x8 x9 := ⟨x1, x2, x3, x4, x5, x6, x7, x8, x9, h⟩
theorem uE9 (k : P x1 x2 x3 x4 x5 x6 x7 x8 x9 → G) : Box9 P x1 x2 x3 x4 x5 x6 x7 x8 x9 → G := k
def pk9 (P : A1 → A2 → A3 → A4 → A5 → A6 → A7 → A8 → A9 → Prop) (p : A1 × A2 × A3 × A4 × A5 × A6 × A7 × A8 × A9) : Prop := P p.1 p.2.1 p.2.2.1 p.2.2.2.1 p.2.2.2.2.1 p.2.2.2.2.2.1 p.2.2.2.2.2.2.1 p.2.2.2.2.2.2.2.1 p.2.2.2.2.2.2.2.2
end
section
variable {A1 A2 A3 A4 A5 A6 A7 A8 A9 : Type} [Nonempty A1] [Nonempty A2] [Nonempty A3] [Nonempty A4] [Nonempty A5] [Nonempty A6] [Nonempty A7] [Nonempty A8] [Nonempty A9] (P : A1 → A2 → A3 → A4 → A5 → A6 → A7 → A8 → A9 → Prop)
noncomputable def sk9a : A1 := (sk (pk9 P)).1
noncomputable def sk9b : A2 := (sk (pk9 P)).2.1
noncomputable def sk9c : A3 := (sk (pk9 P)).2.2.1
noncomputable def sk9d : A4 := (sk (pk9 P)).2.2.2.1
noncomputable def sk9e : A5 := (sk (pk9 P)).2.2.2.2.1
noncomputable def sk9f : A6 := (sk (pk9 P)).2.2.2.2.2.1
noncomputable def sk9g : A7 := (sk (pk9 P)).2.2.2.2.2.2.1
noncomputable def sk9h : A8 := (sk (pk9 P)).2.2.2.2.2.2.2.1
noncomputable def sk9i : A9 := (sk (pk9 P)).2.2.2.2.2.2.2.2
noncomputable def ex9a : A1 := (ex (pk9 P)).1
noncomputable def ex9b : A2 := (ex (pk9 P)).2.1
noncomputable def ex9c : A3 := (ex (pk9 P)).2.2.1
noncomputable def ex9d : A4 := (ex (pk9 P)).2.2.2.1
noncomputable def ex9e : A5 := (ex (pk9 P)).2.2.2.2.1
noncomputable def ex9f : A6 := (ex (pk9 P)).2.2.2.2.2.1
noncomputable def ex9g : A7 := (ex (pk9 P)).2.2.2.2.2.2.1
noncomputable def ex9h : A8 := (ex (pk9 P)).2.2.2.2.2.2.2.1
noncomputable def ex9i : A9 := (ex (pk9 P)).2.2.2.2.2.2.2.2
variable {P}
theorem al9 (h : Box9 P (sk9a P) (sk9b P) (sk9c P) (sk9d P) (sk9e P) (sk9f P) (sk9g P) (sk9h P) (sk9i P)) : ∀ x1 x2 x3 x4 x5 x6 x7 x8 x9, P x1 x2 x3 x4 x5 x6 x7 x8 x9 := fun x1 x2 x3 x4 x5 x6 x7 x8 x9 => all_sk (pk9 P) h ⟨x1, x2, x3, x4, x5, x6, x7, x8, x9⟩
theorem exs9 (h : ∃ x1 x2 x3 x4 x5 x6 x7 x8 x9, P x1 x2 x3 x4 x5 x6 x7 x8 x9) : Box9 P (ex9a P) (ex9b P) (ex9c P) (ex9d P) (ex9e P) (ex9f P) (ex9g P) (ex9h P) (ex9i P) := ex_spec (pk9 P) (h.elim fun x1 h => h.elim  fun x2 h => h.elim  fun x3 h => h.elim  fun x4 h => h.elim  fun x5 h => h.elim  fun x6 h => h.elim  fun x7 h => h.elim  fun x8 h => h.elim  fun x9 h => ⟨⟨x1, x2, x3, x4, x5, x6, x7, x8, x9⟩, h⟩)
end
theorem list_or {α : Type} (l : List α) : l = [] ∨ ∃ x t, l = x :: t := by
  cases l with
  | nil => exact .inl rfl
  | cons x t => exact .inr ⟨x, t, rfl⟩
theorem opt_or {α : Type} (o : Option α) : o = none ∨ ∃ x, o = some x := by
  cases o with
  | none => exact .inl rfl
  | some x => exact .inr ⟨x, rfl⟩
theorem lw1 {a b : Nat} (h : a + 1 < b) : a ≤ b := Nat.le_of_lt (Nat.lt_of_succ_lt h)
theorem le_a1 {a : Nat} : a ≤ a + 1 := Nat.le_add_right a 1
theorem le_a2 {a : Nat} : a ≤ a + 1 + 1 := Nat.le_add_right a 2
theorem le_a3 {a : Nat} : a ≤ a + 1 + 1 + 1 := Nat.le_add_right a 3
inductive SkOn : Prop | mk
instance ne_Params : Nonempty PySem.Params := ⟨{ strHash := fun _ => 0, shareClass := fun _ => 0, mergeTok := id, idOf := fun _ => 0, idOfShared := fun _ _ => 0, followText := fun _ => false, idOfImm := fun _ => 0 }⟩
instance ne_World : Nonempty World := ne_Params.elim fun p => ⟨{ draws := fun _ _ => 0, params := p }⟩
instance ne_Around : Nonempty PySem.Around := ⟨{}⟩
instance ne_Shared : Nonempty PySem.Shared := ⟨{}⟩
instance ne_Drawn : Nonempty PySem.Drawn := ⟨{}⟩
def Hold (P : Prop) : Prop := P
theorem Hold.of {P : Prop} (h : Hold P) : P := h
theorem Hold.to {P : Prop} (h : P) : Hold P := h
inductive HoldK (s : String) : Prop | mk
inductive HoldA (a : Nat) : Prop | mk
theorem hold_call {M : Model} {A : Around} {a : Addr} {xs : List Value} {kw : List (Str × Value)} {Q E : Value → Shared → Prop} {s : Shared} (_ : HoldA a) (k : wpAny M A (call (.ref a) xs kw) Q E s) : wpAny M A (call (.ref a) xs kw) Q E s := k
theorem ic {α : Type} {c : Prop} [Decidable c] {a b b' : α} (h : ¬c → b = b') : (if c then a else b) = if c then a else b' := by
  by_cases hc : c
  · rw [if_pos hc, if_pos hc]
  · rw [if_neg hc, if_neg hc, h hc]
theorem ik {α : Type} {c : Prop} [Decidable c] {a b r : α} (h : c → r = a) (k : r = b) : r = if c then a else b := by
  by_cases hc : c
  · rw [if_pos hc]; exact h hc
  · rw [if_neg hc]; exact k
theorem fm {α : Type} {P : α → Prop} {a : α} {l : List α} (h : P a) (k : ∀ p ∈ l, P p) : ∀ p ∈ a :: l, P p := List.forall_mem_cons.mpr ⟨h, k⟩
theorem mt {α : Type} {b : α} {l k : List α} (h : ∀ p ∈ l, p ∈ k) : ∀ p ∈ l, p ∈ b :: k := fun p hp => .tail _ (h p hp)
theorem mi {α : Type} {l : List α} : ∀ p ∈ l, p ∈ l := fun _ h => h
open Lean in
def rdN (s : String) : Name := (s.splitOn ".").foldl (fun n t => if t == "T" then `Lean.Parser.Tactic else if t == "E" then `Lean.Parser.Term else if t == "" then n else .str n t) .anonymous
open Lean in
def rd (us : Array Syntax) (s : String) : MacroM (TSyntax `tactic) := do
  let r ← read
  return ⟨((s.splitOn " ").foldl (fun st t => match t.splitOn "~" with
    | [a] => st.push (mkIdent (rdN a)).raw
    | [a, b] =>
      if a == "" then st.push (.atom .none b)
      else if b == "" then st.push (mkIdent (addMacroScope r.quotContext (rdN a) r.currMacroScope)).raw
      else
        let m := st.size - a.toNat!
        let c := st.extract m st.size
        (st.extract 0 m).push (if b == "S" then .node .none (rdN "T.tacticSeq") #[.node .none (rdN "T.tacticSeq1Indented") #[.node .none `null c]] else .node .none (rdN b) c)
    | l => st.push us[(l.getLast!).toNat!]!) (#[] : Array Syntax)).back!⟩
open Lean in
def kid (s : String) (k : Nat) : Syntax := (mkIdent (rdN (s ++ toString (k + 1)))).raw
open Lean in
def hls (k : Nat) : Array Syntax := Array.replicate (k + 1) (.node .none `Lean.Parser.Term.hole #[.atom .none "_"])
open Lean in
def rst (ys : Array Syntax) (k : Nat) : MacroM (TSyntax `tactic) :=
  if k + 1 == ys.size then rd #[] "~skip 1~T.skip" else rd #[mkNullNode (ys.extract (k + 1) ys.size)] "~intro ~~0 2~T.intro"
open Lean in
def iAlts (ys : Array Syntax) : MacroM (Array Syntax) := (List.range 9).foldlM (fun z k => do
    if k ≥ ys.size then return z
    return #[(← rd #[kid "al" k, kid "All" k, mkNullNode (hls k), mkNullNode (ys.extract 0 (k + 1)), kid "ub" k, ← rst ys k] "~| ~( ~( ~with_reducible ~refine ~no_implicit_lambda% ~(  1~hygieneInfo 2~E.hygienicLParen ~~0 ~? ~_ 2~E.syntheticHole 1~null 2~E.app ~) 3~E.paren 2~E.noImplicitLambda 2~T.refine 1~S 2~T.withReducible 1~S ~) 3~T.paren ~; ~refine ~no_implicit_lambda% ~(  1~hygieneInfo 2~E.hygienicLParen ~(  1~hygieneInfo 2~E.hygienicLParen ~? ~_ 2~E.syntheticHole ~: ~~1 ~_ 1~E.hole 1~null 2~E.app 1~null ~) 5~E.typeAscription ~~2 2~E.app ~) 3~E.paren 2~E.noImplicitLambda 2~T.refine ~; ~intros ~~3 2~T.intros ~; ~( ~with_reducible ~refine ~no_implicit_lambda% ~(  1~hygieneInfo 2~E.hygienicLParen ~~4 ~? ~_ 2~E.syntheticHole 1~null 2~E.app ~) 3~E.paren 2~E.noImplicitLambda 2~T.refine 1~S 2~T.withReducible 1~S ~) 3~T.paren ~; ~~5 9~S ~) 3~T.paren 1~S 2~group").raw] ++ z) #[]
open Lean in
local macro_rules
  | `(tactic| intro $xs:term*) => do
    let ys := xs.raw
    if ys.isEmpty || ys.any (fun x => !x.isIdent && !x.isOfKind `Lean.Parser.Term.hole) then Macro.throwUnsupported
    rd #[mkNullNode (← iAlts ys), mkNullNode (ys.extract 0 1), if ys[0]!.isIdent then ys[0]! else mkIdent `skon, mkNullNode ys, ← rst ys 0] "~first ~| ~( ~guard_hyp skon ~: 1~Lean.Parser.colonR 1~Lean.Parser.colon SkOn 2~null 0~null 4~T.guardHyp ~; ~( ~with_reducible ~show ~∀ ~_ 1~E.hole 1~null ~: ~(  1~hygieneInfo 2~E.hygienicLParen ~_ 1~E.hole ~: ~Type 0~null 2~E.type 1~null ~) 5~E.typeAscription 2~E.typeSpec 1~null ~, ~_ 1~E.hole 5~E.forall 2~T.show 1~S 2~T.withReducible 1~S ~) 3~T.paren ~; ~( ~try ~dsimp 0~null 1~T.optConfig 0~null ~only 1~null 0~null 0~null 6~T.dsimp 1~S 2~T.tacticTry_ 1~S ~) 3~T.paren ~; ~first ~~0 2~T.first 7~S ~) 3~T.paren 1~S 2~group ~| ~( ~guard_hyp skon ~: 1~Lean.Parser.colonR 1~Lean.Parser.colon SkOn 2~null 0~null 4~T.guardHyp ~; ~( ~fail_if_success ~with_reducible ~show ~∀ ~_ 1~E.hole 1~null ~: ~_ 1~E.hole 2~E.typeSpec 1~null ~, ~_ 1~E.hole 5~E.forall 2~T.show 1~S 2~T.withReducible 1~S 2~T.failIfSuccess 1~S ~) 3~T.paren ~; ~intros ~~1 2~T.intros ~; ~revert ~~2 1~null 2~T.revert ~; ~( ~with_reducible ~show ~∀ ~_ 1~E.hole 1~null ~: ~(  1~hygieneInfo 2~E.hygienicLParen ~_ 1~E.hole ~: ~Type 0~null 2~E.type 1~null ~) 5~E.typeAscription 2~E.typeSpec 1~null ~, ~_ 1~E.hole 5~E.forall 2~T.show 1~S 2~T.withReducible 1~S ~) 3~T.paren ~; ~intro ~~3 2~T.intro 11~S ~) 3~T.paren 1~S 2~group ~| ~( ~intros ~~1 2~T.intros ~; ~~4 3~S ~) 3~T.paren 1~S 2~group 3~null 2~T.first"
open Lean in
def oBind (p : Syntax) (h : Name) : MacroM (Syntax × Syntax × Bool) := do
  let sk ← rd #[] "~skip 1~T.skip"
  let q := p[0][0][0]
  if p.getNumArgs == 2 && p[1].getNumArgs == 0 && p[0][0].getNumArgs == 1 then
    if q.isOfKind `Lean.Parser.Tactic.rcasesPat.one && q[0].getId != `rfl then return (q[0], sk, true)
    if q.isOfKind `Lean.Parser.Tactic.rcasesPat.ignore then return ((hls 0)[0]!, sk, true)
  return (mkIdent h, ← rd #[p[0], mkIdent h] "~obtain ~~0 1~null 0~null ~:= ~~1 1~null 2~null 4~T.obtain", false)
open Lean in
def oRest (ps : Array Syntax) (k : Nat) : MacroM (Syntax × Syntax) := do
  if 2 * k + 1 == ps.size then
    let (a, b, _) ← oBind ps[2 * k]! `hr
    return (a, b)
  return (mkIdent `hr, ← rd #[mkNullNode (ps.extract (2 * k) ps.size), mkIdent `hr] "~obtain ~⟨ ~~0 ~⟩ 3~T.rcasesPat.tuple 1~null 1~T.rcasesPatMed 1~null 0~null ~:= ~~1 1~null 2~null 4~T.obtain")
open Lean in
def oAlts (ps : Array Syntax) (e cl : Syntax) : MacroM (Array Syntax) := do
  let r ← (List.range 9).foldlM (fun (st : Array Syntax × Array Syntax) k => do
    let (xs, z) := st
    if xs.size < k || 2 * k + 1 ≥ ps.size then return st
    let (x, _, b) ← oBind ps[2 * k]! `hq
    unless b do return st
    let xs := xs.push x
    let (h, t) ← oRest ps (k + 1)
    return (xs, #[(← rd #[kid "AllE" k, mkNullNode ((hls k).push (← rd #[kid "exs" k, e] "~(  1~hygieneInfo 2~E.hygienicLParen ~~0 ~~1 1~null 2~E.app ~) 3~E.paren")), cl, mkNullNode xs, kid "uE" k, mkNullNode #[h], t] "~| ~( ~refine ~no_implicit_lambda% ~(  1~hygieneInfo 2~E.hygienicLParen ~(  1~hygieneInfo 2~E.hygienicLParen ~? ~_ 2~E.syntheticHole ~: ~~0 ~_ 1~E.hole ~_ 1~E.hole 2~null 2~E.app 1~null ~) 5~E.typeAscription ~~1 2~E.app ~) 3~E.paren 2~E.noImplicitLambda 2~T.refine ~; ~~2 ~; ~intros ~~3 2~T.intros ~; ~( ~with_reducible ~refine ~no_implicit_lambda% ~(  1~hygieneInfo 2~E.hygienicLParen ~~4 ~? ~_ 2~E.syntheticHole 1~null 2~E.app ~) 3~E.paren 2~E.noImplicitLambda 2~T.refine 1~S 2~T.withReducible 1~S ~) 3~T.paren ~; ~intros ~~5 2~T.intros ~; ~~6 11~S ~) 3~T.paren 1~S 2~group").raw] ++ z)) (#[], #[])
  return r.2
open Lean in
local macro_rules
  | `(tactic| obtain ⟨$ps,*⟩ := $e:term) => do
    let ps := ps.elemsAndSeps
    if ps.size < 3 then Macro.throwUnsupported
    let cl ← if e.raw.isIdent then rd #[e] "~try ~clear ~~0 1~null 2~T.clear 1~S 2~T.tacticTry_" else rd #[] "~skip 1~T.skip"
    let (h1, t1, _) ← oBind ps[0]! `hq
    let (h2, t2) ← oRest ps 1
    rd #[mkNullNode ((← oAlts ps e cl) ++ #[(← rd #[e, cl, mkNullNode #[h1, h2], t1, t2] "~| ~( ~refine ~no_implicit_lambda% ~(  1~hygieneInfo 2~E.hygienicLParen and_e ~~0 ~? ~_ 2~E.syntheticHole 2~null 2~E.app ~) 3~E.paren 2~E.noImplicitLambda 2~T.refine ~; ~~1 ~; ~intros ~~2 2~T.intros ~; ~~3 ~; ~~4 9~S ~) 3~T.paren 1~S 2~group").raw])] "~( ~guard_hyp skon ~: 1~Lean.Parser.colonR 1~Lean.Parser.colon SkOn 2~null 0~null 4~T.guardHyp ~; ~first ~~0 2~T.first 3~S ~) 3~T.paren"
local macro_rules | `(tactic| k_fold) => rd #[] "~guard_hyp skon ~: 1~Lean.Parser.colonR 1~Lean.Parser.colon SkOn 2~null 0~null 4~T.guardHyp"
local macro_rules
  | `(tactic| obtain ⟨$ps,*⟩ : $t:term := $e:term) => rd #[t, e, Lean.mkNullNode ps.elemsAndSeps] "~( ~guard_hyp skon ~: 1~Lean.Parser.colonR 1~Lean.Parser.colon SkOn 2~null 0~null 4~T.guardHyp ~; ~have 0~null 1~E.letConfig hqt 1~E.letId 0~null ~: ~~0 2~E.typeSpec 1~null ~:= ~~1 5~E.letIdDecl 1~E.letDecl 3~T.tacticHave__ ~; ~obtain ~⟨ ~~2 ~⟩ 3~T.rcasesPat.tuple 1~null 1~T.rcasesPatMed 1~null 0~null ~:= hqt 1~null 2~null 4~T.obtain 5~S ~) 3~T.paren"
local macro_rules | `(tactic| regstrif_fact) => rd #[] "~first ~| ~with_reducible ~assumption 1~T.assumption 1~S 2~T.withReducible 1~S 2~group ~| ~with_reducible ~exact And.left ~(  1~hygieneInfo 2~E.hygienicLParen ~by ~first ~| ~with_reducible ~assumption 1~T.assumption 1~S 2~T.withReducible 1~S 2~group ~| ~with_reducible ~exact And.right ~(  1~hygieneInfo 2~E.hygienicLParen ~by ~first ~| ~with_reducible ~assumption 1~T.assumption 1~S 2~T.withReducible 1~S 2~group ~| ~with_reducible ~exact And.right ~(  1~hygieneInfo 2~E.hygienicLParen ~by ~first ~| ~with_reducible ~assumption 1~T.assumption 1~S 2~T.withReducible 1~S 2~group ~| ~with_reducible ~exact And.right ~(  1~hygieneInfo 2~E.hygienicLParen ~by ~first ~| ~with_reducible ~assumption 1~T.assumption 1~S 2~T.withReducible 1~S 2~group ~| ~with_reducible ~exact And.right ~(  1~hygieneInfo 2~E.hygienicLParen ~by ~first ~| ~with_reducible ~assumption 1~T.assumption 1~S 2~T.withReducible 1~S 2~group ~| ~with_reducible ~exact And.right ~(  1~hygieneInfo 2~E.hygienicLParen ~by ~first ~| ~with_reducible ~assumption 1~T.assumption 1~S 2~T.withReducible 1~S 2~group ~| ~with_reducible ~exact And.right ~(  1~hygieneInfo 2~E.hygienicLParen ~by ~first ~| ~with_reducible ~assumption 1~T.assumption 1~S 2~T.withReducible 1~S 2~group ~| ~with_reducible ~exact And.right ~(  1~hygieneInfo 2~E.hygienicLParen ~by ~first ~| ~with_reducible ~assumption 1~T.assumption 1~S 2~T.withReducible 1~S 2~group ~| ~with_reducible ~exact And.right ~(  1~hygieneInfo 2~E.hygienicLParen ~by ~first ~| ~with_reducible ~assumption 1~T.assumption 1~S 2~T.withReducible 1~S 2~group ~| ~with_reducible ~exact And.right ~(  1~hygieneInfo 2~E.hygienicLParen ~by ~first ~| ~with_reducible ~assumption 1~T.assumption 1~S 2~T.withReducible 1~S 2~group ~| ~with_reducible ~exact And.right ~(  1~hygieneInfo 2~E.hygienicLParen ~by ~first ~| ~with_reducible ~assumption 1~T.assumption 1~S 2~T.withReducible 1~S 2~group ~| ~with_reducible ~exact And.right ~(  1~hygieneInfo 2~E.hygienicLParen ~by ~first ~| ~with_reducible ~assumption 1~T.assumption 1~S 2~T.withReducible 1~S 2~group ~| ~with_reducible ~exact And.right ~(  1~hygieneInfo 2~E.hygienicLParen ~by ~with_reducible ~assumption 1~T.assumption 1~S 2~T.withReducible 1~S 2~E.byTactic ~) 3~E.paren 1~null 2~E.app 2~T.exact 1~S 2~T.withReducible 1~S 2~group 2~null 2~T.first 1~S 2~E.byTactic ~) 3~E.paren 1~null 2~E.app 2~T.exact 1~S 2~T.withReducible 1~S 2~group 2~null 2~T.first 1~S 2~E.byTactic ~) 3~E.paren 1~null 2~E.app 2~T.exact 1~S 2~T.withReducible 1~S 2~group 2~null 2~T.first 1~S 2~E.byTactic ~) 3~E.paren 1~null 2~E.app 2~T.exact 1~S 2~T.withReducible 1~S 2~group 2~null 2~T.first 1~S 2~E.byTactic ~) 3~E.paren 1~null 2~E.app 2~T.exact 1~S 2~T.withReducible 1~S 2~group 2~null 2~T.first 1~S 2~E.byTactic ~) 3~E.paren 1~null 2~E.app 2~T.exact 1~S 2~T.withReducible 1~S 2~group 2~null 2~T.first 1~S 2~E.byTactic ~) 3~E.paren 1~null 2~E.app 2~T.exact 1~S 2~T.withReducible 1~S 2~group 2~null 2~T.first 1~S 2~E.byTactic ~) 3~E.paren 1~null 2~E.app 2~T.exact 1~S 2~T.withReducible 1~S 2~group 2~null 2~T.first 1~S 2~E.byTactic ~) 3~E.paren 1~null 2~E.app 2~T.exact 1~S 2~T.withReducible 1~S 2~group 2~null 2~T.first 1~S 2~E.byTactic ~) 3~E.paren 1~null 2~E.app 2~T.exact 1~S 2~T.withReducible 1~S 2~group 2~null 2~T.first 1~S 2~E.byTactic ~) 3~E.paren 1~null 2~E.app 2~T.exact 1~S 2~T.withReducible 1~S 2~group 2~null 2~T.first 1~S 2~E.byTactic ~) 3~E.paren 1~null 2~E.app 2~T.exact 1~S 2~T.withReducible 1~S 2~group 2~null 2~T.first 1~S 2~E.byTactic ~) 3~E.paren 1~null 2~E.app 2~T.exact 1~S 2~T.withReducible 1~S 2~group ~| ~with_reducible ~exact And.right ~(  1~hygieneInfo 2~E.hygienicLParen ~by ~first ~| ~with_reducible ~assumption 1~T.assumption 1~S 2~T.withReducible 1~S 2~group ~| ~with_reducible ~exact And.right ~(  1~hygieneInfo 2~E.hygienicLParen ~by ~first ~| ~with_reducible ~assumption 1~T.assumption 1~S 2~T.withReducible 1~S 2~group ~| ~with_reducible ~exact And.right ~(  1~hygieneInfo 2~E.hygienicLParen ~by ~with_reducible ~assumption 1~T.assumption 1~S 2~T.withReducible 1~S 2~E.byTactic ~) 3~E.paren 1~null 2~E.app 2~T.exact 1~S 2~T.withReducible 1~S 2~group 2~null 2~T.first 1~S 2~E.byTactic ~) 3~E.paren 1~null 2~E.app 2~T.exact 1~S 2~T.withReducible 1~S 2~group 2~null 2~T.first 1~S 2~E.byTactic ~) 3~E.paren 1~null 2~E.app 2~T.exact 1~S 2~T.withReducible 1~S 2~group 3~null 2~T.first"
local macro_rules | `(tactic| regloopunroll_open) => rd #[] "~first ~| ~regstrif_fact 1~PyProof.Rows.tacticRegstrif_fact 1~S 2~group ~| ~( ~with_reducible ~refine Nat.lt_trans ~(  1~hygieneInfo 2~E.hygienicLParen ~by ~regstrif_fact 1~PyProof.Rows.tacticRegstrif_fact 1~S 2~E.byTactic ~) 3~E.paren ~? ~_ 2~E.syntheticHole 2~null 2~E.app 2~T.refine ~; ~regloopunroll_open 1~PyProof.Rows.tacticRegloopunroll_open 3~S 2~T.withReducible 1~S ~) 3~T.paren 1~S 2~group 2~null 2~T.first"
local macro_rules | `(tactic| omega) => rd #[] "~first ~| ~with_reducible ~assumption 1~T.assumption 1~S 2~T.withReducible 1~S 2~group ~| ~with_reducible ~exact Ne.symm ~(  1~hygieneInfo 2~E.hygienicLParen ~by ~with_reducible ~assumption 1~T.assumption 1~S 2~T.withReducible 1~S 2~E.byTactic ~) 3~E.paren 1~null 2~E.app 2~T.exact 1~S 2~T.withReducible 1~S 2~group ~| ~with_reducible ~exact Nat.le_of_ble_eq_true rfl 1~null 2~E.app 2~T.exact 1~S 2~T.withReducible 1~S 2~group ~| ~( ~with_reducible ~refine Nat.ne_of_gt ~? ~_ 2~E.syntheticHole 1~null 2~E.app 2~T.refine ~; ~regloopunroll_open 1~PyProof.Rows.tacticRegloopunroll_open 3~S 2~T.withReducible 1~S ~) 3~T.paren 1~S 2~group ~| ~( ~with_reducible ~refine Nat.ne_of_lt ~? ~_ 2~E.syntheticHole 1~null 2~E.app 2~T.refine ~; ~regloopunroll_open 1~PyProof.Rows.tacticRegloopunroll_open 3~S 2~T.withReducible 1~S ~) 3~T.paren 1~S 2~group ~| ~( ~with_reducible ~refine lw1 ~? ~_ 2~E.syntheticHole 1~null 2~E.app 2~T.refine ~; ~regstrif_fact 1~PyProof.Rows.tacticRegstrif_fact 3~S 2~T.withReducible 1~S ~) 3~T.paren 1~S 2~group ~| ~( ~( ~with_reducible ~show ~@ LT.lt 2~E.explicit Nat ~_ 1~E.hole ~_ 1~E.hole ~_ 1~E.hole 4~null 2~E.app 2~T.show 1~S 2~T.withReducible 1~S ~) 3~T.paren ~; ~regloopunroll_open 1~PyProof.Rows.tacticRegloopunroll_open 3~S ~) 3~T.paren 1~S 2~group ~| ~with_reducible ~exact le_a1 2~T.exact 1~S 2~T.withReducible 1~S 2~group ~| ~with_reducible ~exact le_a2 2~T.exact 1~S 2~T.withReducible 1~S 2~group ~| ~with_reducible ~exact le_a3 2~T.exact 1~S 2~T.withReducible 1~S 2~group ~| ~( ~( ~fail_if_success ~( ~fail_if_success ~( ~omega ~( splitDisjunctions ~:= false ~) 5~T.valConfigItem 1~T.configItem 1~null 1~T.optConfig 2~T.omega 1~S ~) 3~T.paren 1~S 2~T.failIfSuccess 1~S ~) 3~T.paren 1~S 2~T.failIfSuccess 1~S ~) 3~T.paren ~; ~first ~| ~lia 0~null 1~T.optConfig 2~T.lia 1~S 2~group ~| ~omega ~( splitDisjunctions ~:= false ~) 5~T.valConfigItem 1~T.configItem 1~null 1~T.optConfig 2~T.omega 1~S 2~group 2~null 2~T.first 3~S ~) 3~T.paren 1~S 2~group 11~null 2~T.first"
local macro_rules | `(tactic| k_room) => rd #[] "~first ~| ~exact rm2 ~(  1~hygieneInfo 2~E.hygienicLParen ~by ~assumption 1~T.assumption 1~S 2~E.byTactic ~) 3~E.paren ~(  1~hygieneInfo 2~E.hygienicLParen Nat.le_of_ble_eq_true rfl 1~null 2~E.app ~) 3~E.paren 2~null 2~E.app 2~T.exact 1~S 2~group ~| ~exact rm1 ~(  1~hygieneInfo 2~E.hygienicLParen ~by ~assumption 1~T.assumption 1~S 2~E.byTactic ~) 3~E.paren ~(  1~hygieneInfo 2~E.hygienicLParen Nat.le_of_ble_eq_true rfl 1~null 2~E.app ~) 3~E.paren 2~null 2~E.app 2~T.exact 1~S 2~group ~| ~exact rm3 ~(  1~hygieneInfo 2~E.hygienicLParen ~by ~assumption 1~T.assumption 1~S 2~E.byTactic ~) 3~E.paren ~(  1~hygieneInfo 2~E.hygienicLParen Nat.le_of_ble_eq_true rfl 1~null 2~E.app ~) 3~E.paren 2~null 2~E.app 2~T.exact 1~S 2~group ~| ~exact rm0 ~(  1~hygieneInfo 2~E.hygienicLParen ~by ~assumption 1~T.assumption 1~S 2~E.byTactic ~) 3~E.paren 1~null 2~E.app 2~T.exact 1~S 2~group ~| ~ktr_room 1~PySem.W.tacticKtr_room 1~S 2~group 5~null 2~T.first"
local macro_rules | `(tactic| k_units) => rd #[] "~first ~| ~exact rm2 ~(  1~hygieneInfo 2~E.hygienicLParen ~by ~assumption 1~T.assumption 1~S 2~E.byTactic ~) 3~E.paren ~(  1~hygieneInfo 2~E.hygienicLParen Nat.le_of_ble_eq_true rfl 1~null 2~E.app ~) 3~E.paren 2~null 2~E.app 2~T.exact 1~S 2~group ~| ~exact rm1 ~(  1~hygieneInfo 2~E.hygienicLParen ~by ~assumption 1~T.assumption 1~S 2~E.byTactic ~) 3~E.paren ~(  1~hygieneInfo 2~E.hygienicLParen Nat.le_of_ble_eq_true rfl 1~null 2~E.app ~) 3~E.paren 2~null 2~E.app 2~T.exact 1~S 2~group ~| ~exact rm3 ~(  1~hygieneInfo 2~E.hygienicLParen ~by ~assumption 1~T.assumption 1~S 2~E.byTactic ~) 3~E.paren ~(  1~hygieneInfo 2~E.hygienicLParen Nat.le_of_ble_eq_true rfl 1~null 2~E.app ~) 3~E.paren 2~null 2~E.app 2~T.exact 1~S 2~group ~| ~ktr_units 1~PySem.W.tacticKtr_units 1~S 2~group 4~null 2~T.first"
local macro_rules | `(tactic| k_mem) => rd #[] "~first ~| ~exact List.Mem.head ~_ 1~E.hole 1~null 2~E.app 2~T.exact 1~S 2~group ~| ~with_reducible ~assumption 1~T.assumption 1~S 2~T.withReducible 1~S 2~group ~| ~( ~refine List.mem_cons_of_mem ~_ 1~E.hole ~? ~_ 2~E.syntheticHole 2~null 2~E.app 2~T.refine ~; ~k_mem 1~PySem.W.tacticK_mem 3~S ~) 3~T.paren 1~S 2~group 3~null 2~T.first"
local macro_rules | `(tactic| walk_at $s:str) => rd #[s] "~( ~( ~fail_if_success ~( ~fail_if_success ~( ~have 0~null 1~E.letConfig hg~ 1~E.letId 0~null ~: HoldK ~~0 1~null 2~E.app 2~E.typeSpec 1~null ~:= ~by ~with_reducible ~assumption 1~T.assumption 1~S 2~T.withReducible 1~S 2~E.byTactic 5~E.letIdDecl 1~E.letDecl 3~T.tacticHave__ 1~S ~) 3~T.paren 1~S 2~T.failIfSuccess 1~S ~) 3~T.paren 1~S 2~T.failIfSuccess 1~S ~) 3~T.paren ~; ~refine Hold.of ~? ~_ 2~E.syntheticHole 1~null 2~E.app 2~T.refine 3~S ~) 3~T.paren"
local macro_rules | `(tactic| walk_at "call ref") => rd #[] "~( ~k_here 1~PySem.W.tacticK_here ~; ~( ~fail_if_success ~( ~fail_if_success ~( ~with_reducible ~refine hold_call ~(  1~hygieneInfo 2~E.hygienicLParen ~by ~with_reducible ~assumption 1~T.assumption 1~S 2~T.withReducible 1~S 2~E.byTactic ~) 3~E.paren ~? ~_ 2~E.syntheticHole 2~null 2~E.app 2~T.refine 1~S 2~T.withReducible 1~S ~) 3~T.paren 1~S 2~T.failIfSuccess 1~S ~) 3~T.paren 1~S 2~T.failIfSuccess 1~S ~) 3~T.paren ~; ~( ~refine Hold.of ~? ~_ 2~E.syntheticHole 1~null 2~E.app 2~T.refine 1~S ~) 3~T.paren 5~S ~) 3~T.paren"
local macro_rules | `(tactic| walk_at $s:str) => rd #[s] "~k_extra ~~0 2~PySem.W.tacticK_extra_"
section
noncomputable abbrev KP (w : World) : Frag := hd1.heap_1_39 w.params
noncomputable abbrev PV : Program := hd1.view_1_40
noncomputable abbrev PR : Program := PySem.Challenge.pw_ta0132_01
noncomputable abbrev LO0 : List Str := looseW hd1.view_1_40
    [Str.ofString "twin_re_1_ElementTree", Str.ofString "_namespace_map", Str.ofString "_looks_like_prefix_name",
      Str.ofString "C14NWriterTarget", Str.ofString "twin_re_1_smtplib", Str.ofString "_twin_re_2",
      Str.ofString "tspecials", Str.ofString "_name_disallowed_re", Str.ofString "_value_disallowed_re",
      Str.ofString "_formatparam"]
noncomputable abbrev LO : List Str := LO0 ++ (recsOf hd1.view_1_40).map (·.name) ++ (litsOf hd1.view_1_40).map (·.1) ++ (clssOf hd1.view_1_40 LO0).map (·.name)
noncomputable abbrev Led := List (Addr × Obj)
/-- a contract of a call -/
noncomputable abbrev Con (w : World) (d : Nat) (c : Sem Value) (news : Led) (R : Value → Led → Prop) : Prop :=
  ∀ (mean : ExcName → Option Value) (mg mb : Str → Option Value) (dp un : Nat) (gd : Option (List Code)) (cn : Str) (cs : Scope) (a : Addr) (ccd : Value) (cl : List (Str × Addr)) (outer : List Env) (A₀ : Around) (base h₀ : Heap) (L : Addr) (m : Str → Option Value) (s : Shared) (Q E : Value → Shared → Prop),
    Below A₀ base outer h₀ → Fr h₀ L s.heap m → (hd1.heap_1_39 w.params).In h₀ → News h₀ L s.heap news → Top topProg LO mean mg mb h₀ → cs.kind = .function → dp + d < recursionLimit → un + 8 * d < cLine →
    (∀ r news' h' tk', Fr h₀ L h' m → News h₀ L h' news' → R r news' → Q r { s with heap := h', toks := tk' }) →
    wpAny (model PySem.Challenge.pw_ta0132_01 w) (ktrTop dp un gd cn cs L a ccd cl outer) c Q E s
/-- a contract of a call that raises ValueError -/
noncomputable abbrev ConX (w : World) (d : Nat) (c : Sem Value) (news : Led) (NX : Led → Prop) : Prop :=
  ∀ (mean : ExcName → Option Value) (mg mb : Str → Option Value) (dp un : Nat) (gd : Option (List Code)) (cn : Str) (cs : Scope) (a : Addr) (ccd : Value) (cl : List (Str × Addr)) (outer : List Env) (A₀ : Around) (base h₀ : Heap) (L : Addr) (m : Str → Option Value) (s : Shared) (Q E : Value → Shared → Prop),
    Below A₀ base outer h₀ → Fr h₀ L s.heap m → (hd1.heap_1_39 w.params).In h₀ → News h₀ L s.heap news → Top topProg LO mean mg mb h₀ → cs.kind = .function → dp + d < recursionLimit → un + 8 * d < cLine →
    (∀ e t args g h' tk' newsX, Fr h₀ L g m → RaisedS base g (envX cn cs L a ccd cl :: outer) e (.type "ValueError") t args newsX h' → g.UpToSlots h' → NX newsX → E (.ref e) { s with heap := h', toks := tk' }) →
    wpAny (model PySem.Challenge.pw_ta0132_01 w) (ktrTop dp un gd cn cs L a ccd cl outer) c Q E s
/-- a contract of a call out of the law's own frame (of a def that catches) -/
noncomputable abbrev Con0 (w : World) (d : Nat) (c : Sem Value) (news : Led) (R : Value → Led → Prop) : Prop :=
  ∀ (mean : ExcName → Option Value) (mg mb : Str → Option Value) (dp un : Nat) (gd : Option (List Code)) (cn : Str) (cs : Scope) (a : Addr) (ccd : Value) (A₀ : Around) (h₀ : Heap) (L : Addr) (m : Str → Option Value) (s : Shared) (Q E : Value → Shared → Prop),
    Below A₀ h₀ [] h₀ → Fr h₀ L s.heap m → (hd1.heap_1_39 w.params).In h₀ → News h₀ L s.heap news → Top topProg LO mean mg mb h₀ → cs.kind = .function → dp + d < recursionLimit → un + 8 * d < cLine →
    (∀ r news' h' tk', Fr h₀ L h' m → News h₀ L h' news' → R r news' → Q r { s with heap := h', toks := tk' }) →
    wpAny (model PySem.Challenge.pw_ta0132_01 w) (ktrTop dp un gd cn cs L a ccd [] []) c Q E s
theorem Con.to0 {w : World} {d : Nat} {c : Sem Value} {news : Led} {R : Value → Led → Prop} (h : Con w d c news R) : Con0 w d c news R :=
  fun mean mg mb dp un gd cn cs a ccd A₀ h₀ => h mean mg mb dp un gd cn cs a ccd [] [] A₀ h₀ h₀
theorem raised_drop {base g h : Heap} {l : List Env} {e t : Addr} {cls : Value} {vs : List Value} {news news' : Led} (R : RaisedS base g l e cls t vs news h) (hs : ∀ p ∈ news', p ∈ news) : RaisedS base g l e cls t vs news' h := by
  obtain ⟨⟨B, h1, h0, h2, h3, h4⟩, h5⟩ := R
  exact ⟨⟨B, h1, h0, fun q hq => h2 q (hs q hq), h3, h4⟩, h5⟩
/-- room and units without arithmetic -/
theorem rm0 {d a L : Nat} (h : d + a < L) : d < L := Nat.lt_of_le_of_lt (Nat.le_add_right d a) h
theorem rm1 {d i a L : Nat} (h : d + a < L) (e : i ≤ a) : d + i < L := Nat.lt_of_le_of_lt (Nat.add_le_add_left e d) h
theorem rm2 {d i j a L : Nat} (h : d + a < L) (e : i + j ≤ a) : d + i + j < L := by rw [Nat.add_assoc]; exact rm1 h e
theorem rm3 {d i j k a L : Nat} (h : d + a < L) (e : i + j + k ≤ a) : d + i + j + k < L := by rw [Nat.add_assoc d, Nat.add_assoc d]; exact rm1 h e
theorem warm : PySem.Challenge.rw_ta0132_01.Holds → hd1.heap_1_39 = hd1.heap_1_39 := by
  k_fill
  intro _
  rfl
end
section
theorem set1 {m : Str → Option Value} {a : Str} {x : Value} (h1 : m a = some x) : m = fun z => if z = a then some x else m z := by
  funext z; by_cases h : z = a <;> simp_all
theorem set2 {m : Str → Option Value} {a b : Str} {x y : Value} (h1 : m a = some x) (h2 : m b = some y) : m = fun z => if z = a then some x else if z = b then some y else m z := by
  funext z; by_cases h : z = a
  · simp_all
  · by_cases h' : z = b <;> simp_all
/-- a pair unpacked into two names -/
theorem asg2 {prog : Program} {w : World} {A : Around} {E : Value → Shared → Prop} {s : Shared} {env : Env} {h₀ : Heap} {xi xc : Str} {pk pv pt : Pos} {x1 : Nat} {T : Addr} {v0 v1 : Value} {o : Obj} {n : Nat} {m : Str → Option Value} {news : Led} {Q : Unit → Shared → Prop}
    (hh : A.handled = none) (F : Fr h₀ env.locals s.heap m) (N : News h₀ env.locals s.heap news) (hT : (T, o) ∈ news) (hc : o.cls = .type "tuple") (hd : o.data = .seq #[v0, v1] n)
    (hxi : env.kindOf xi = some .local) (hxc : env.kindOf xc = some .local) (hp : (env.scope.kind == .class || (env.scope.kind == .module && env.locals != env.globals)) = false)
    (h : ∀ h' tk', Fr h₀ env.locals h' (fun y => if y = xc then some v1 else if y = xi then some v0 else m y) → News h₀ env.locals h' news → Q () { s with heap := h', toks := tk' }) :
    wpAny (model prog w) A (assign (.Tuple [.Name xi pk, .Name xc pv] x1 pt) env (.ref T)) Q E s := by
  have ht : s.heap.IsTuple T #[v0, v1] := ⟨o, (N _ hT).1, hc, n, hd⟩
  refine wpAny_assign_Tuple hh ht rfl rfl fun h₃ hx₃ => ?_
  replace hx₃ : Heap.ExtBut s.heap.objs.size s.heap h₃ := hx₃
  have up₃ : ∀ b o, s.heap.get? b = some o → h₃.get? b = some o := fun b o x => hx₃ b o (Nat.ne_of_lt (Heap.lt_size x)) x
  have F₃ : Fr h₀ env.locals h₃ m := ⟨F.ns.at' fun o e => up₃ _ o e, fun b o e => up₃ b o (F.keep b o e), F.above⟩
  have N₃ : News h₀ env.locals h₃ news := fun p hp => ⟨up₃ _ _ (N p hp).1, (N p hp).2⟩
  show wpAny _ A (do holding [v1] (assign (.Name xi pk) env v0); do holding [] (assign (.Name xc pv) env v1); pure ()) _ _ _
  refine wpAny_bind (wpAny_holding (wpAny_assign_Name (wpAny_storeName_local hxi F₃.ns (fun h₄ hn₄ hs₄ => ?_) hp)))
  replace hs₄ : Heap.SameBut env.locals h₃ h₄ := hs₄
  have F₄ := F₃.set hn₄ hs₄
  refine wpAny_bind (wpAny_holding (wpAny_assign_Name (wpAny_storeName_local hxc F₄.ns (fun h₅ hn₅ hs₅ => wpAny_pure ?_) hp)))
  replace hs₅ : Heap.SameBut env.locals h₄ h₅ := hs₅
  exact h _ _ (F₄.set hn₅ hs₅) ((N₃.set hs₄).set hs₅)
inductive TargetOk : PySem.Expr → Prop
  | name (x : Str) (p : Pos) : TargetOk (.Name x p)
  | tup (es : List PySem.Expr) (k : Nat) (p : Pos) : TargetOk (.Tuple es k p)
theorem wp_letOwned {prog : Program} {w : World} {A : Around} {E : Value → Shared → Prop} {s : Shared} {target : PySem.Expr} {I l : Addr} {i : Nat} {v : Value} {Q : Unit → Shared → Prop} (ht : TargetOk target) (hit : s.heap.IsListIter I l i) (hQ : Q () s) :
    wpAny (model prog w) A (letOwnedTupleGo target (.ref I) v) Q E s := by
  cases ht with
  | name x p => exact wpAny_of_eq rfl hQ
  | tup es k p =>
    by_cases h : ∃ T, v = .ref T
    · obtain ⟨T, rfl⟩ := h
      exact wpAny_letOwnedTupleGo_listiter hit hQ
    · refine wpAny_of_eq ?_ hQ
      cases v with
      | ref T => exact absurd ⟨T, rfl⟩ h
      | _ => rfl
noncomputable def TurnJ (h₀ : Heap) (L : Addr) (it : Addr × Obj) (J : (Str → Option Value) → Led → Prop) (s₁ : Shared) (Q : Flow → Shared → Prop) (f : Flow) (s₂ : Shared) : Prop :=
  match f with
  | .ret v => Q (.ret v) s₂
  | .brk => Q .next s₂
  | _ => ∃ h' tk m' news', s₂ = { s₁ with heap := h', toks := tk } ∧ Fr h₀ L h' m' ∧ News h₀ L h' (it :: news') ∧ (∀ p ∈ news', p.1 ≠ it.1) ∧ J m' news'
noncomputable def IterI (h₀ : Heap) (L I l : Addr) (s : Shared) (items : List Value) (J : Nat → (Str → Option Value) → Led → Prop) (k : Nat) (s' : Shared) : Prop :=
  ∃ h' tk m' news' i, s' = { s with heap := h', toks := tk } ∧ h'.IsListIter I l i ∧ Fr h₀ L h' m' ∧ News h₀ L h' news' ∧ (∀ p ∈ news', p.1 ≠ I) ∧ J i m' news' ∧ i ≤ items.length ∧ k = items.length + 1 - i
theorem iterLC : ∀ {prog : Program} {w : World} {A : Around} {E : Value → Shared → Prop} {s : Shared} {env : Env} {h₀ : Heap} {Q : Flow → Shared → Prop} {target : PySem.Expr} {body : List Stmt} {l : Addr} {items : List Value} {m : Str → Option Value} {news : Led} (J : Nat → (Str → Option Value) → Led → Prop) (hh : A.handled = none) (htg : TargetOk target) (F : Fr h₀ env.locals s.heap m) (N : News h₀ env.locals s.heap news) (hl : ∀ i m' news' h', J i m' news' → Fr h₀ env.locals h' m' → News h₀ env.locals h' news' → h'.IsList l items.toArray) (h0 : J 0 m news) (turn : ∀ i v m₁ news₁ h₁ tk₁ I oi, items[i]? = some v → oi.cls = .type "list_iterator" → J i m₁ news₁ → (∀ p ∈ news₁, p.1 ≠ I) → Fr h₀ env.locals h₁ m₁ → News h₀ env.locals h₁ ((I, oi) :: news₁) →
      wpAny (model prog w) A (assign target env v) (fun _ s₂ => wpAny (model prog w) A (execs body env) (TurnJ h₀ env.locals (I, oi) (J (i + 1)) s Q) (fun _ _ => False) s₂) (fun _ _ => False) { s with heap := h₁, toks := tk₁ }) (done : ∀ m' news' h' tk', J items.length m' news' → Fr h₀ env.locals h' m' → News h₀ env.locals h' news' → Q .next { s with heap := h', toks := tk' }), wpAny (model prog w) A (pyIter (.ref l)) (fun it s₂ => codeAny (model prog w) A (.forLoop target it body [] env) (fun r s' => match r with | .ok f => Q f s' | .error e => cameBackBy (model prog w) A env E e s') s₂) E s := by
  have skon : SkOn := .mk
  intro prog w A E s env h₀ Q target body l items m news J hh htg F N hl h0 turn done
  have hls := hl 0 _ _ _ h0 F N
  have hlI : l ≠ s.heap.objs.size := by
    obtain ⟨o, ho, _⟩ := hls
    exact Nat.ne_of_lt (Heap.lt_size ho)
  have hnew : h₀.get? s.heap.objs.size = none := by
    cases hq : h₀.get? s.heap.objs.size with
    | none => rfl
    | some o' => exact absurd (Heap.lt_size (F.keep _ _ hq)) (Nat.lt_irrefl _)
  have hLI : env.locals ≠ s.heap.objs.size := by
    obtain ⟨oL, _, _, hL, _⟩ := F.ns
    exact Nat.ne_of_lt (Heap.lt_size hL)
  refine wpAny_pyIter_list hls ?_
  generalize hI : s.heap.objs.size = I at hlI hnew hLI
  refine codeAny_forLoop_any
    (IterI h₀ env.locals I l s items J) ?_ (items.length + 1)
    ⟨_, s.toks, m, news, 0, rfl, ⟨_, hI ▸ Heap.get?_push_size _ rfl, rfl, rfl⟩, F.push _, (fun p hp => ⟨Heap.get?_push_of_some _ (N p hp).1, (N p hp).2⟩), (fun p hp => by rw [← hI]; exact Nat.ne_of_lt (Heap.lt_size (N p hp).1)), h0, Nat.zero_le _, rfl⟩
  intro k s' hq9; obtain ⟨h', tk, m', news', i, rfl, hit, F', N', hnI, hJ, hi, rfl⟩ := hq9
  have hlist := hl i _ _ _ hJ F' N'
  have next : ∀ h₁ : Heap, Heap.ExtBut I h' h₁ → Fr h₀ env.locals h₁ m' ∧ News h₀ env.locals h₁ news' := fun h₁ hs => by
    refine ⟨⟨F'.ns.at' fun o e => hs _ o hLI e, fun b o e => hs b o (fun e' => ?_) (F'.keep b o e), F'.above⟩, fun p hp => ⟨hs _ _ (hnI p hp) (N' p hp).1, (N' p hp).2⟩⟩
    rw [e', hnew] at e; cases e
  by_cases hlt : i < items.length
  · have hx : items.toArray[i]? = some items[i] := List.getElem?_toArray.trans (List.getElem?_eq_getElem hlt)
    refine wpAny_pyNext_list_item hit hlist hx fun h₁ hit₁ hs₁ => ?_
    have hs₁' : Heap.ExtBut I h' h₁ := hs₁.extBut
    obtain ⟨F₁, N₁⟩ := next h₁ hs₁'
    refine wp_letOwned htg hit₁ ?_
    obtain ⟨oi, hoi, hci, hdi⟩ := id hit₁
    have Nt : News h₀ env.locals h₁ ((I, oi) :: news') := by
      intro p hp
      rcases List.mem_cons.mp hp with rfl | hp
      · exact ⟨hoi, hLI.symm, hnew⟩
      · exact N₁ p hp
    have ht := turn i items[i] m' news' h₁ tk I oi (List.getElem?_eq_getElem hlt) hci hJ hnI F₁ Nt
    refine wpAny_mono ht (fun _ s₂ h₂ => ?_) fun _ _ e => e.elim
    refine wpAny_mono h₂ (fun f s₃ h₃ => ?_) fun _ _ e => e.elim
    have fin : TurnJ h₀ env.locals (I, oi) (J (i + 1)) s Q .next s₃ → ∃ m, m < items.length + 1 - i ∧ IterI h₀ env.locals I l s items J m s₃ := by
      intro hq9; obtain ⟨h₄, tk₄, m₄, news₄, rfl, F₄, N₄, hn₄, J₄⟩ := hq9
      exact ⟨items.length + 1 - (i + 1), Nat.sub_lt_sub_left (Nat.lt_succ_of_lt hlt) (Nat.lt_succ_self i), h₄, tk₄, m₄, news₄, i + 1, rfl, ⟨oi, (N₄ _ (.head _)).1, hci, hdi⟩, F₄, fun p hp => N₄ p (.tail _ hp), hn₄, J₄, hlt, rfl⟩
    cases f with
    | ret v => exact h₃
    | brk => exact h₃
    | next => exact fin h₃
    | cont => exact fin h₃
  · have hin : i = items.length := Nat.le_antisymm hi (Nat.le_of_not_lt hlt)
    subst hin
    refine wpAny_pyNext_list_end hh hit hlist (List.getElem?_toArray.trans (List.getElem?_eq_none (Nat.le_refl _))) fun h₁ hs₁ => ?_
    obtain ⟨F₁, N₁⟩ := next h₁ hs₁
    exact wpAny_execs_nil (done _ _ _ _ hJ F₁ N₁)
theorem iterL {prog : Program} {w : World} {A : Around} {E : Value → Shared → Prop} {s : Shared} {env : Env} {h₀ : Heap} {Q : Flow → Shared → Prop} {target : PySem.Expr} {body : List Stmt} {l : Addr} {items : List Value} {m : Str → Option Value} {news : Led}
    (J : Nat → (Str → Option Value) → Led → Prop) (hh : A.handled = none) (htg : TargetOk target)
    (F : Fr h₀ env.locals s.heap m) (N : News h₀ env.locals s.heap news)
    (hl : ∀ i m' news' h', J i m' news' → Fr h₀ env.locals h' m' → News h₀ env.locals h' news' → h'.IsList l items.toArray)
    (h0 : J 0 m news)
    (turn : ∀ i v m₁ news₁ h₁ tk₁ I oi, items[i]? = some v → J i m₁ news₁ → (∀ p ∈ news₁, p.1 ≠ I) → Fr h₀ env.locals h₁ m₁ → News h₀ env.locals h₁ ((I, oi) :: news₁) →
      wpAny (model prog w) A (assign target env v) (fun _ s₂ => wpAny (model prog w) A (execs body env) (TurnJ h₀ env.locals (I, oi) (J (i + 1)) s Q) (fun _ _ => False) s₂) (fun _ _ => False) { s with heap := h₁, toks := tk₁ })
    (done : ∀ m' news' h' tk', J items.length m' news' → Fr h₀ env.locals h' m' → News h₀ env.locals h' news' → Q .next { s with heap := h', toks := tk' }) :
    wpAny (model prog w) A (pyIter (.ref l)) (fun it s₂ => codeAny (model prog w) A (.forLoop target it body [] env) (fun r s' => match r with | .ok f => Q f s' | .error e => cameBackBy (model prog w) A env E e s') s₂) E s :=
  iterLC J hh htg F N hl h0 (fun i v m₁ news₁ h₁ tk₁ I oi h1 _ => turn i v m₁ news₁ h₁ tk₁ I oi h1) done
end
section
theorem warm_N1 : PySem.Challenge.rw_ta0132_01.Holds → hd1.heap_1_39 = hd1.heap_1_39 := by
  k_fill
  intro _
  rfl
noncomputable def numI (l : List Int) : Int := l.foldl (fun n c => 64 * n + c.fmod 64) 0
theorem numI_nil : numI [] = 0 := rfl
theorem numI_snoc (l : List Int) (c : Int) : numI (l ++ [c]) = 64 * numI l + c.fmod 64 := by
  unfold numI; rw [List.foldl_append]; rfl
theorem c_number : ∀ (w : World) (t : Str) (tk : Tok) (news : Led), Con w 2 (call (.ref 349) [.str t tk]) news (fun r news' => news' = news ∧ ∃ k, r = .int (numI (KStt.codes t)) k) := by
  k_with_none
  have skon : SkOn := .mk
  intro w t tk news
  unfold Con
  intro mean mg mb dp un gd cn cs a ccd cl outer A₀ base h₀ L m s Q E B F X N T hk hd hu hret
  refine wpAny_call ?_
  k_dflt (refine' code_def (binds := [(Str.ofString "text", .str t tk)]) ?k1 ?k2 ?k3 ?k4 ?k5 ?kA ?kF ?kK ?k6 ?k7 ?k8 ?k9 ?kB ?_ ?c2 ?c3 ?c4 ?c5; (case kA => exact rfl); (case kF => exact rfl); (case kK => first | assumption | exact rfl); (case k1 => k_asm); (case k2 => k_asm); (case k3 => k_asm); (case k4 => k_asm); (case k5 => k_asm); (case k6 => k_is); (case k7 => k_is); (case k8 => k_room); (case k9 => first | exact BindsTo.of_eq rfl | exact binds_K (by k_in) rfl (by k_is) rfl rfl rfl); (case c5 => decide); (case kB => exact locs rfl); (case c2 => exact rfl); (case c3 => exact rfl); (case c4 => exact rfl); k_whole; intro g1 L1 h1 FG1 F1 N1 B1 X1 T1; (try dsimp only); (try k_lift B1); (try k_fold))
  k_with "pyIter str" => k_state (fun pre number => (number : Int) = numI pre) "number"
  k_with "state" => first | exact numI_nil.symm | (rw [numI_snoc]; omega) | (simp only [numI_snoc]; simp_all)
  k_steps
  k_with_none
  rename _ = numI _ => hk9
  exact hret _ _ _ _ (by assumption) (by assumption) ⟨rfl, _, by rw [hk9]⟩
theorem allLt_off0 {d : Addr} {l : Led} (h : AllLt d l) : ∀ q ∈ l, @Ne Nat d q.1 := fun q hq => by
  have : @LT.lt Nat _ q.1 d := tb_ltOf h q hq
  omega
theorem lt_off0 {d : Addr} {l : Led} (h : ∀ p ∈ l, p.1 < d) : ∀ q ∈ l, @Ne Nat d q.1 := fun q hq => by
  have : @LT.lt Nat _ q.1 d := h q hq
  omega
noncomputable def drawnName (x : Int) : Str := if (x.fdiv 5).fmod 2 = 1 then Txt.item (Str.ofString "AaBb_~") (x.fmod 6) ++ Txt.item (Str.ofString "AaBb_~") ((x.fdiv 6).fmod 6) else Txt.item (Str.ofString "AaBb_~") (x.fmod 6)
noncomputable def drawnVal (x : Int) : Str := Txt.item (Str.ofString "AaBb_~") ((x.fdiv 4).fmod 6) ++ Txt.item (Str.ofString "&<\"\t>.\n") ((x.fdiv 11).fmod 7)
theorem c_drawn : ∀ (w : World) (x : Int) (tk : Tok) (news : Led), Con w 2 (call (.ref 370) [.int x tk]) news (fun r news' => ∃ T t1 t2 t3, r = .ref T ∧ news' = (T, ({ cls := .type "tuple", data := .seq #[.int ((x.fdiv 2).fmod 4) t1, .bool ((x.fdiv 7).fmod 3 == 0), .str (drawnName x) t2, .str (drawnVal x) t3] } : Obj)) :: news ∧ ∀ q ∈ news, @Ne Nat T q.1) := by
  k_with_none
  have skon : SkOn := .mk
  intro w x tk news
  unfold Con
  intro mean mg mb dp un gd cn cs a ccd cl outer A₀ base h₀ L m s Q E B F X N T hk hd hu hret
  refine wpAny_call ?_
  k_dflt (refine' code_def (binds := [(Str.ofString "x", .int x tk)]) ?k1 ?k2 ?k3 ?k4 ?k5 ?kA ?kF ?kK ?k6 ?k7 ?k8 ?k9 ?kB ?_ ?c2 ?c3 ?c4 ?c5; (case kA => exact rfl); (case kF => exact rfl); (case kK => first | assumption | exact rfl); (case k1 => k_asm); (case k2 => k_asm); (case k3 => k_asm); (case k4 => k_asm); (case k5 => k_asm); (case k6 => k_is); (case k7 => k_is); (case k8 => k_room); (case k9 => first | exact BindsTo.of_eq rfl | exact binds_K (by k_in) rfl (by k_is) rfl rfl rfl); (case c5 => decide); (case kB => exact locs rfl); (case c2 => exact rfl); (case c3 => exact rfl); (case c4 => exact rfl); k_whole; intro g1 L1 h1 FG1 F1 N1 B1 X1 T1; (try dsimp only); (try k_lift B1); (try k_fold))
  k_steps
  · rename _ = (1 : Int) => hp
    refine hret _ _ _ _ (by assumption) (by assumption) (exI4 ⟨rfl, by rw [drawnName, if_pos hp]; exact rfl, ?_⟩)
    first | exact allLt_off0 (by assumption) | exact lt_off0 (by assumption)
  · rename _ ≠ (1 : Int) => hp
    refine hret _ _ _ _ (by assumption) (by assumption) (exI4 ⟨rfl, by rw [drawnName, if_neg hp]; exact rfl, ?_⟩)
    first | exact allLt_off0 (by assumption) | exact lt_off0 (by assumption)
end
section
open PyProof.Rows.LCg (NsObj lst ns_obj)
/-- what stands when a comprehension's turn is over -/
noncomputable def CTurn (h₀ : Heap) (L : Addr) (m : Str → Option Value) (s : Shared) (I : Addr) (oI : Obj) (C : Addr) (oC : Obj) (D : Addr) (oD : Obj) (J' : Led → Prop) (s₂ : Shared) : Prop :=
  ∃ h' tk news', s₂ = { s with heap := h', toks := tk } ∧ Fr h₀ L h' m ∧ News h₀ L h' ((I, oI) :: (C, oC) :: (D, oD) :: news') ∧ (∀ p ∈ news', p.1 ≠ I ∧ p.1 ≠ C ∧ p.1 ≠ D) ∧ J' news'
/-- a turn's own tree: no test, or one -/
noncomputable def CTree (prog : Program) (w : World) (A : Around) (cenv : Env) (elt : PySem.Expr) (E' : Value → Shared → Prop) (skip : Shared → Prop) (take : Value → Shared → Prop) : List PySem.Expr → Shared → Prop
  | [], s => wpAny (model prog w) A (eval elt cenv) take E' s
  | [c], s => wpAny (model prog w) A (isTrue c cenv (eval c cenv)) (fun b s₂ => if b = true then wpAny (model prog w) A (eval elt cenv) take E' s₂ else skip s₂) E' s
  | _ :: _ :: _, _ => False
section
variable {prog : Program} {w : World} {A : Around} {E : Value → Shared → Prop} {s : Shared} {h₀ : Heap} {L : Addr} {m : Str → Option Value} {env : Env} {news : Led}
theorem list_at {ax I : Addr} {its : Array Value} (hh : A.handled = none) (hne : ax ≠ I) : Walks prog w A I [I, ax] [I] its.size (fun i v => its[i]? = some v) (fun i h => h.IsListIter I ax i ∧ h.IsList ax its) := Walks.list hh I ax hne its
theorem ctree_run {elt : PySem.Expr} {ifs : List PySem.Expr} {cenv : Env} {E' : Value → Shared → Prop} {skip : Shared → Prop} {take : Value → Shared → Prop} {s : Shared} (h : CTree prog w A cenv elt E' skip take ifs s) :
    wpAny (model prog w) A (forIn ifs true fun c r => if r = true then do let ok ← isTrue c cenv (eval c cenv); pure (ForInStep.yield ok) else pure (ForInStep.yield r))
      (fun ok s₃ => if ok = true then wpAny (model prog w) A (eval elt cenv) take E' s₃ else skip s₃) E' s := by
  match ifs, h with
  | [], h => exact wpAny_tests_nil (by simpa [CTree] using h)
  | [c], h => exact wpAny_tests_one h
/-- a comprehension's two new objects: the one that it fills and its own frame -/
theorem comp_alloc : ∀ {prog : Program} {w : World} {A : Around} {E : Value → Shared → Prop} {s : Shared} {h₀ : Heap} {L : Addr} {m : Str → Option Value} {env : Env} {news : Led} {e : PySem.Expr} {T : String} {data : Data} {scope : Scope} {cl : List (Str × Addr)} {I : Addr} {RR : Value → Addr → Result → Shared → Prop} (hcell : ∀ y ∈ scope.names, y.2 ≠ .cell) (hkind : scope.kind = .function) (F : Fr h₀ L s.heap m) (N : News h₀ L s.heap news) (Ilt : I < s.heap.objs.size) (off : ∀ p ∈ news, p.1 ≠ I) (hd : sizeOk data) (hf : ({ cls := .type T, data := data } : Obj).isFreed = false) (K : ∀ D C h₁ tk m', Fr h₀ L h₁ m → h₁.Ns C m' → News h₀ L h₁ ((D, ({ cls := .type T, data := data } : Obj)) :: news) → (∀ p ∈ news, p.1 ≠ I ∧ p.1 ≠ C ∧ p.1 ≠ D) → (∀ b o, s.heap.get? b = some o → h₁.get? b = some o) →
      h₀.get? C = none ∧ h₀.get? D = none ∧ @Ne Nat C L ∧ @Ne Nat D L ∧ @Ne Nat C D ∧ @Ne Nat I C ∧ @Ne Nat I D →
      codeAny (model prog w) A (.compStart e 0 (.ref I) (.ref D) (compEnvC scope cl C env)) (RR (.ref D) C) { s with heap := h₁, toks := tk }), wpAny (model prog w) A (newObj (.type T) data) (fun acc s₃ => wpAny (model prog w) A (newFunctionEnv scope env.globals cl [] env.qual none .none (some env)) (fun cenv s₄ =>
      codeAny (model prog w) A (.compStart e 0 (.ref I) acc { cenv with scope := relabel scope env }) (RR acc cenv.locals) s₄) E s₃) E s := by
  have skon : SkOn := .mk
  intro prog w A E s h₀ L m env news e T data scope cl I RR hcell hkind F N Ilt off hd hf K
  refine wpAny_newObj_type (wpAny_newFunctionEnv hcell (by intro y hy; simp at hy) (fun h₁ hns₁ hsb₁ => ?_) hkind) hd
  dsimp only at hns₁ hsb₁ ⊢
  have hDD := Heap.get?_push_size s.heap (o := { cls := .type T, data := data }) hf
  have hCs : (s.heap.push { cls := .type T, data := data }).objs.size = s.heap.objs.size + 1 := Heap.size_push _ _
  have old0 : ∀ b o, s.heap.get? b = some o → (s.heap.push { cls := .type T, data := data }).get? b = some o := fun b o e => Heap.get?_push_of_some _ e
  generalize s.heap.push { cls := .type T, data := data } = H2 at *
  generalize hDe : s.heap.objs.size = D at *
  generalize hCe : H2.objs.size = C at *
  have hCD : C ≠ D := by rw [hCs]; exact Nat.succ_ne_self _
  have old : ∀ b o, s.heap.get? b = some o → h₁.get? b = some o := fun b o e => by
    have hb : b < D := hDe ▸ Heap.lt_size e
    exact hsb₁.extBut b o (by rw [hCs]; exact Nat.ne_of_lt (Nat.lt_succ_of_lt hb)) (Heap.get?_push_of_some _ (old0 _ _ e))
  have fresh₀ : ∀ a, D ≤ a → h₀.get? a = none := fun a ha => by
    cases e : h₀.get? a with
    | none => rfl
    | some o' => exact absurd (hDe ▸ Heap.lt_size (F.keep a o' e)) (Nat.not_lt.mpr ha)
  have hLlt : L < D := hDe ▸ F.ns.lt
  have hD₀ := fresh₀ D (Nat.le_refl _)
  have hDL : D ≠ L := Nat.ne_of_gt hLlt
  refine K D C h₁ _ _ (F.keeps old) hns₁ (fun p hp => ?_) (fun p hp => ?_) old ⟨fresh₀ _ (by rw [hCs]; exact Nat.le_succ _), hD₀, by rw [hCs]; exact Nat.ne_of_gt (Nat.lt_succ_of_lt hLlt), hDL, hCD, by rw [hCs]; exact Nat.ne_of_lt (Nat.lt_succ_of_lt Ilt), Nat.ne_of_lt Ilt⟩
  · rcases List.mem_cons.mp hp with rfl | hp
    · exact ⟨hsb₁.extBut _ _ hCD.symm (Heap.get?_push_of_some _ hDD), hDL, hD₀⟩
    · exact ⟨old _ _ (N p hp).1, (N p hp).2⟩
  · have hb : p.1 < D := hDe ▸ Heap.lt_size (N p hp).1
    exact ⟨off p hp, by rw [hCs]; exact Nat.ne_of_lt (Nat.lt_succ_of_lt hb), Nat.ne_of_lt hb⟩
/-- the iterator has moved, nothing else -/
theorem comp_next : ∀ {h₀ : Heap} {L : Addr} {m : Str → Option Value} {I C D : Addr} {oD : Obj} {h' h₂ : Heap} {m' : Str → Option Value} {news' : Led} (hIL : L ≠ I) (hI₀ : h₀.get? I = none) (hIC : I ≠ C) (hID : I ≠ D) (F' : Fr h₀ L h' m) (hn' : h'.Ns C m') (N' : News h₀ L h' ((D, oD) :: news')) (off' : ∀ p ∈ news', p.1 ≠ I ∧ p.1 ≠ C ∧ p.1 ≠ D) (hk : ∀ b o, b ∉ [I] → h'.get? b = some o → h₂.get? b = some o), Fr h₀ L h₂ m ∧ h₂.Ns C m' ∧ News h₀ L h₂ ((D, oD) :: news') := by
  have skon : SkOn := .mk
  intro h₀ L m I C D oD h' h₂ m' news' hIL hI₀ hIC hID F' hn' N' off' hk
  refine ⟨⟨F'.ns.at' fun o e => hk _ o (by simpa using hIL) e, fun b o e => hk b o (fun hm => ?_) (F'.keep b o e), F'.above⟩, hn'.at' fun o e => hk _ o (by simpa using hIC.symm) e, fun p hp => ⟨hk _ _ ?_ (N' p hp).1, (N' p hp).2⟩⟩
  · rw [List.mem_singleton.mp hm, hI₀] at e; cases e
  · rcases List.mem_cons.mp hp with rfl | hp
    · simpa using hID.symm
    · simpa using (off' p hp).1
/-- the ledger of a turn: the iterator, the frame, the filled object ahead -/
theorem comp_news3 {I C D : Addr} {oI oC oD : Obj} {h₂ h₃ : Heap} {news' : Led} (hIL : L ≠ I) (hI₀ : h₀.get? I = none) (hCL : @Ne Nat C L) (hC₀ : h₀.get? C = none) (hCD : @Ne Nat C D) (heI : h₃.get? I = some oI) (heC : h₃.get? C = some oC)
    (o3 : ∀ b o, b ≠ C → h₂.get? b = some o → h₃.get? b = some o) (N₂ : News h₀ L h₂ ((D, oD) :: news')) (off' : ∀ p ∈ news', p.1 ≠ I ∧ p.1 ≠ C ∧ p.1 ≠ D) : News h₀ L h₃ ((I, oI) :: (C, oC) :: (D, oD) :: news') := fun p hp => by
  rcases List.mem_cons.mp hp with rfl | hp
  · exact ⟨heI, hIL.symm, hI₀⟩
  rcases List.mem_cons.mp hp with rfl | hp
  · exact ⟨heC, hCL, hC₀⟩
  refine ⟨o3 _ _ ?_ (N₂ p hp).1, (N₂ p hp).2⟩
  rcases List.mem_cons.mp hp with rfl | hp
  · exact hCD.symm
  · exact (off' p hp).2.1
/-- the filled object has changed, nothing else -/
theorem comp_filled {I C D : Addr} {oD oD6 : Obj} {h₅ h₆ : Heap} {news₅ : Led} (hDL : @Ne Nat D L) (hD₀ : h₀.get? D = none) (hD₆ : h₆.get? D = some oD6) (o6 : ∀ b o, b ≠ D → h₅.get? b = some o → h₆.get? b = some o) (q3 : News h₀ L h₅ ((D, oD) :: news₅)) (off₅ : ∀ p ∈ news₅, p.1 ≠ I ∧ p.1 ≠ C ∧ p.1 ≠ D) :
    News h₀ L h₆ ((D, oD6) :: news₅) := fun p hp => by
  rcases List.mem_cons.mp hp with rfl | hp
  · exact ⟨hD₆, hDL, hD₀⟩
  · exact ⟨o6 _ _ (off₅ p hp).2.2 (q3 p (.tail _ hp)).1, (q3 p (.tail _ hp)).2⟩
theorem comp_hp (hkind : scope.kind = .function) : ((compEnvC scope cl C env).scope.kind == .class || ((compEnvC scope cl C env).scope.kind == .module && (compEnvC scope cl C env).locals != (compEnvC scope cl C env).globals)) = false := by simp [compEnvC, relabel, hkind]
theorem comp_blockG : ∀ {prog : Program} {w : World} {A : Around} {E : Value → Shared → Prop} {s : Shared} {h₀ : Heap} {L : Addr} {m : Str → Option Value} {env : Env} {news : Led} {elt iter : PySem.Expr} {x : Str} {px : Pos} {ifs : List PySem.Expr} {scope : Scope} {cl : List (Str × Addr)} {pos : Pos} {I : Addr} {wl : List Addr} {n : Nat} {P : Nat → Value → Prop} {St : Nat → Heap → Prop} {RR : Value → Addr → Result → Shared → Prop} (J : Nat → List Value → Led → Prop) (hsz : n ≤ sizeLine) (stays : ∀ k i₁ i₂ ys₁ ys₂ news₁ news₂ h₁ h₂, St k h₁ → J i₁ ys₁ news₁ → J i₂ ys₂ news₂ → News h₀ L h₁ news₁ → Fr h₀ L h₂ m → News h₀ L h₂ news₂ → (∀ o, h₁.get? I = some o → h₂.get? I = some o) → St k h₂) (W : Walks prog w A I wl [I] n P St) (hSt : ∀ i h, St i h → ∃ o, h.get? I = some o) (hcell : ∀ y ∈ scope.names, y.2 ≠ .cell) (hkind : scope.kind = .function) (hx : scope.names.lookup x = some .local) (F : Fr h₀ L s.heap m) (N : News h₀ L s.heap news) (h0 : J 0 [] news) (hit : St 0 s.heap) (hIL : L ≠ I) (hI₀ : h₀.get? I = none) (off : ∀ p ∈ news, p.1 ≠ I) (turn : ∀ i v ys news₁ h₁ tk₁ oI C oC D m₂ (E' : Value → Shared → Prop), P i v → J i ys news₁ → NsObj oC m₂ → m₂ x = some v → Fr h₀ L h₁ m → News h₀ L h₁ ((I, oI) :: (C, oC) :: (D, lst ys) :: news₁) →
      (∀ p ∈ news₁, p.1 ≠ I ∧ p.1 ≠ C ∧ p.1 ≠ D) → ((@Ne Nat I C) ∧ (@Ne Nat I D) ∧ (@Ne Nat C D)) →
      CTree prog w A (compEnvC scope cl C env) elt E' (CTurn h₀ L m s I oI C oC D (lst ys) (J (i + 1) ys)) (fun y => CTurn h₀ L m s I oI C oC D (lst ys) (J (i + 1) (ys ++ [y]))) ifs { s with heap := h₁, toks := tk₁ }) (hRR : ∀ D C h tk m' ys news', Fr h₀ L h m → News h₀ L h ((D, lst ys) :: news') → (∀ p ∈ news', p.1 ≠ C ∧ p.1 ≠ D) → h.Ns C m' → h₀.get? C = none → h₀.get? D = none → C ≠ L → D ≠ L → C ≠ D → J n ys news' → RR (.ref D) C (.ok .next) { s with heap := h, toks := tk }), wpAny (model prog w) A (newList []) (fun acc s₃ => wpAny (model prog w) A (newFunctionEnv scope env.globals cl [] env.qual none .none (some env)) (fun cenv s₄ =>
      codeAny (model prog w) A (.compStart (.ListComp elt [⟨.Name x px, iter, ifs, 0⟩] scope pos) 0 (.ref I) acc { cenv with scope := relabel scope env }) (RR acc cenv.locals) s₄) E s₃) E s := by
  have skon : SkOn := .mk
  intro prog w A E s h₀ L m env news elt iter x px ifs scope cl pos I wl n P St RR J hsz stays W hSt hcell hkind hx F N h0 hit hIL hI₀ off turn hRR
  have Ilt : I < s.heap.objs.size := by obtain ⟨o, e⟩ := hSt _ _ hit; exact Heap.lt_size e
  refine comp_alloc hcell hkind F N Ilt off (Nat.zero_le _) rfl ?_
  intro D C h₁ tk1 m1 F₁ hns₁ N₁ off₀ old hall
  obtain ⟨hC₀, hD₀, hCL, hDL, hCD, hIC, hID⟩ := hall
  have st1 := stays _ _ _ _ _ _ _ _ _ hit h0 h0 N F₁ (fun p hp => N₁ p (.tail _ hp)) fun o e => old _ _ e
  have loop : codeAny (model prog w) A (.compLoop (.ListComp elt [⟨.Name x px, iter, ifs, 0⟩] scope pos) 0 (.ref I) (.ref D) (compEnvC scope cl C env)) (RR (.ref D) C) { s with heap := h₁, toks := tk1 } := by
    refine codeAny_compLoop_tests
      (fun k s' => ∃ h' tk i ys m' news', s' = { s with heap := h', toks := tk } ∧ i ≤ n ∧ k = n + 1 - i ∧ ys.length ≤ i ∧ St i h' ∧ Fr h₀ L h' m ∧ h'.Ns C m' ∧ News h₀ L h' ((D, lst ys) :: news') ∧
        (∀ p ∈ news', p.1 ≠ I ∧ p.1 ≠ C ∧ p.1 ≠ D) ∧ J i ys news') ?_ (n + 1)
      ⟨h₁, _, 0, [], _, news, rfl, Nat.zero_le _, rfl, Nat.le_refl _, ?_, F₁, hns₁, N₁, off₀, h0⟩
    · intro k s' hq9; obtain ⟨h', tk, i, ys, m', news', rfl, hi, rfl, hyl, hit', F', hn', N', off', hJ⟩ := hq9
      have next : ∀ h₂ : Heap, (∀ b o, b ∉ [I] → h'.get? b = some o → h₂.get? b = some o) → Fr h₀ L h₂ m ∧ h₂.Ns C m' ∧ News h₀ L h₂ ((D, lst ys) :: news') := fun h₂ hk => comp_next hIL hI₀ hIC hID F' hn' N' off' hk
      by_cases hlt : i < n
      · refine W.item i _ _ _ hlt hit' ?_
        intro v h₂ tk₂ hPv hst₂ hk₂
        obtain ⟨F₂, hn₂, N₂⟩ := next h₂ hk₂
        refine wpAny_assign_Name (wpAny_storeName_local (lookup_relabel_local hx) hn₂ ?_ (comp_hp hkind))
        intro h₃ hn₃ hs₃
        obtain ⟨oI, heI⟩ := hSt _ _ hst₂
        obtain ⟨oC, heC, hoC⟩ := ns_obj hn₃
        have heI₃ : h₃.get? I = some oI := hs₃.extBut _ _ hIC heI
        have F₃ : Fr h₀ L h₃ m := F₂.change hs₃ hCL hC₀
        have N₃ : News h₀ L h₃ ((I, oI) :: (C, oC) :: (D, lst ys) :: news') := comp_news3 hIL hI₀ hCL hC₀ hCD heI₃ heC hs₃.extBut N₂ off'
        have stay : ∀ h₄ ys₄ news₄, J (i + 1) ys₄ news₄ → Fr h₀ L h₄ m → News h₀ L h₄ ((I, oI) :: (C, oC) :: (D, lst ys) :: news₄) → St (i + 1) h₄ ∧ h₄.Ns C (fun y => if y = x then some v else m' y) ∧ News h₀ L h₄ ((D, lst ys) :: news₄) := fun h₄ ys₄ news₄ J₄ F₄ N₄ =>
          ⟨stays _ _ _ _ _ _ _ _ _ hst₂ hJ J₄ (fun p hp => N₂ p (.tail _ hp)) F₄ (fun p hp => N₄ p (.tail _ (.tail _ (.tail _ hp)))) (fun o e => by rw [heI] at e; cases e; exact (N₄ _ (.head _)).1), hoC.ns (N₄ _ (.tail _ (.head _))).1, fun p hp => N₄ p (.tail _ (.tail _ hp))⟩
        refine wpAny_mono (ctree_run (turn i v ys news' h₃ _ oI C oC D _ _ hPv hJ hoC (if_pos rfl) F₃ N₃ off' ⟨hIC, hID, hCD⟩)) ?_ fun _ _ e => e
        intro ok s₄ h₄
        cases ok with
        | false =>
          simp only [Bool.false_eq_true, if_false] at h₄ ⊢
          obtain ⟨h₄, tk₄, news₄, rfl, F₄, N₄, off₄, hJ₄⟩ := h₄
          obtain ⟨q1, q2, q3⟩ := stay h₄ _ news₄ hJ₄ F₄ N₄
          exact ⟨n + 1 - (i + 1), Nat.sub_lt_sub_left (Nat.lt_succ_of_lt hlt) (Nat.lt_succ_self i), h₄, tk₄, i + 1, ys, _, news₄, rfl, hlt, rfl, Nat.le_succ_of_le hyl, q1, F₄, q2, q3, off₄, hJ₄⟩
        | true =>
          simp only [if_true] at h₄ ⊢
          refine wpAny_mono h₄ ?_ fun _ _ e => e
          intro y s₅ h₅
          obtain ⟨h₅, tk₅, news₅, rfl, F₅, N₅, off₅, hJ₅⟩ := h₅
          obtain ⟨q1, q2, q3⟩ := stay h₅ _ news₅ hJ₅ F₅ N₅
          refine append_at (hsz := Nat.le_trans hyl (Nat.le_trans hi hsz)) (q3 _ (.head _)).1 ?_
          intro h₆ hs₆ hD₆
          refine ⟨n + 1 - (i + 1), Nat.sub_lt_sub_left (Nat.lt_succ_of_lt hlt) (Nat.lt_succ_self i), h₆, tk₅, i + 1, ys ++ [y], _, news₅, rfl, hlt, rfl, Nat.le_trans (Nat.le_of_eq List.length_append) (Nat.succ_le_succ hyl), stays _ _ _ _ _ _ _ _ _ q1 hJ₅ hJ₅ (fun p hp => q3 p (.tail _ hp)) (F₅.change hs₆ hDL hD₀) (fun p hp => comp_filled hDL hD₀ (hD₆.trans (congrArg some (PyProof.Rows.LCg.lst_snoc ys y))) hs₆.extBut q3 off₅ p (.tail _ hp)) (fun o e => hs₆.extBut _ _ hID e), F₅.change hs₆ hDL hD₀, q2.sameBut hs₆ hCD, comp_filled hDL hD₀ (hD₆.trans (congrArg some (PyProof.Rows.LCg.lst_snoc ys y))) hs₆.extBut q3 off₅, off₅, hJ₅⟩
      · obtain rfl : i = n := Nat.le_antisymm hi (Nat.not_lt.mp hlt)
        refine W.done _ _ _ hit' ?_
        intro h₂ tk₂ hk₂
        obtain ⟨F₂, hn₂, N₂⟩ := next h₂ hk₂
        exact hRR D C h₂ tk₂ m' ys news' F₂ N₂ (fun p hp => (off' p hp).2) hn₂ hC₀ hD₀ hCL hDL hCD hJ
    · exact st1
  exact codeAny_compStart_list loop (W.self 0 _ _ _ st1 loop)
theorem comp_block {elt iter : PySem.Expr} {x : Str} {px : Pos} {ifs : List PySem.Expr} {scope : Scope} {cl : List (Str × Addr)} {pos : Pos} {I ax : Addr} {items : List Value} {RR : Value → Addr → Result → Shared → Prop}
    (J : Nat → List Value → Led → Prop) (hh : A.handled = none) (hsz : items.length ≤ sizeLine)
    (hl : ∀ i ys news' h', J i ys news' → (∀ b o, h₀.get? b = some o → h'.get? b = some o) → News h₀ L h' news' → h'.IsList ax items.toArray)
    (hcell : ∀ y ∈ scope.names, y.2 ≠ .cell) (hkind : scope.kind = .function) (hx : scope.names.lookup x = some .local)
    (F : Fr h₀ L s.heap m) (N : News h₀ L s.heap news) (h0 : J 0 [] news) (hit : s.heap.IsListIter I ax 0) (hne : ax ≠ I) (hIL : L ≠ I) (hI₀ : h₀.get? I = none) (off : ∀ p ∈ news, p.1 ≠ I)
    (turn : ∀ i v ys news₁ h₁ tk₁ oI C oC D m₂ (E' : Value → Shared → Prop), items[i]? = some v → J i ys news₁ → NsObj oC m₂ → m₂ x = some v → Fr h₀ L h₁ m → News h₀ L h₁ ((I, oI) :: (C, oC) :: (D, lst ys) :: news₁) →
      (∀ p ∈ news₁, p.1 ≠ I ∧ p.1 ≠ C ∧ p.1 ≠ D) → ((@Ne Nat I C) ∧ (@Ne Nat I D) ∧ (@Ne Nat C D)) →
      CTree prog w A (compEnvC scope cl C env) elt E' (CTurn h₀ L m s I oI C oC D (lst ys) (J (i + 1) ys)) (fun y => CTurn h₀ L m s I oI C oC D (lst ys) (J (i + 1) (ys ++ [y]))) ifs { s with heap := h₁, toks := tk₁ })
    (hRR : ∀ D C h tk m' ys news', Fr h₀ L h m → News h₀ L h ((D, lst ys) :: news') → (∀ p ∈ news', p.1 ≠ C ∧ p.1 ≠ D) → h.Ns C m' → h₀.get? C = none → h₀.get? D = none → C ≠ L → D ≠ L → C ≠ D → J items.length ys news' → RR (.ref D) C (.ok .next) { s with heap := h, toks := tk }) :
    wpAny (model prog w) A (newList []) (fun acc s₃ => wpAny (model prog w) A (newFunctionEnv scope env.globals cl [] env.qual none .none (some env)) (fun cenv s₄ =>
      codeAny (model prog w) A (.compStart (.ListComp elt [⟨.Name x px, iter, ifs, 0⟩] scope pos) 0 (.ref I) acc { cenv with scope := relabel scope env }) (RR acc cenv.locals) s₄) E s₃) E s :=
  comp_blockG (wl := [I, ax]) (n := items.toArray.size) (P := fun i v => items.toArray[i]? = some v) (St := fun i h => h.IsListIter I ax i ∧ h.IsList ax items.toArray) J hsz
    (fun _ _ _ _ _ _ _ _ _ st _ J₂ _ F₂ N₂ k => ⟨st.1.imp fun o r => ⟨k o r.1, r.2⟩, hl _ _ _ _ J₂ F₂.keep N₂⟩) (list_at hh hne) (fun _ _ st => st.1.imp fun _ r => r.1) hcell hkind hx F N h0 ⟨hit, hl 0 [] news _ h0 F.keep N⟩ hIL hI₀ off
    (fun i v ys news₁ h₁ tk₁ oI C oC D m₂ E' hv => turn i v ys news₁ h₁ tk₁ oI C oC D m₂ E' (List.getElem?_toArray.symm.trans hv)) hRR
/-- behind the source's value: the rest of a comprehension -/
noncomputable def CompGo (prog : Program) (w : World) (A : Around) (env : Env) (e : PySem.Expr) (scope : Scope) (cl : List (Str × Addr)) (E : Value → Shared → Prop) (use : Option (Value → Sem Unit)) (Q : Value → Shared → Prop) (xv : Value) (s₁ : Shared) : Prop :=
  wpAny (model prog w) A (pyIter xv) (fun it s₂ => wpAny (model prog w) A (newList []) (fun acc s₃ => wpAny (model prog w) A (newFunctionEnv scope env.globals cl [] env.qual none .none (some env)) (fun cenv s₄ =>
    codeAny (model prog w) A (.compStart e 0 it acc { cenv with scope := relabel scope env }) (compPost (model prog w) A E use Q acc cenv.locals) s₄) E s₃) E s₂) E s₁
theorem compE {elt iter : PySem.Expr} {x : Str} {px : Pos} {ifs : List PySem.Expr} {scope : Scope} {cl : List (Str × Addr)} {pos : Pos} {Q : Value → Shared → Prop}
    (hclos : closureFor scope env = pure cl) (hkind : scope.kind = .function) (hnames : ∀ y ∈ scope.names, y.2 = .local → scope.names.lookup y.1 = some .local)
    (h : wpAny (model prog w) A (eval iter env) (CompGo prog w A env (.ListComp elt [⟨.Name x px, iter, ifs, 0⟩] scope pos) scope cl E none Q) E s)
    (hs : ∀ x, foldedSetIterable iter env x = pure x := by intro _; rfl) :
    wpAny (model prog w) A (eval (.ListComp elt [⟨.Name x px, iter, ifs, 0⟩] scope pos) env) Q E s := by
  rw [eval_ListComp]
  exact wpAny_comprehension_free (use := none) rfl hs hclos hkind hnames h
theorem compA {elt iter : PySem.Expr} {x y : Str} {px py : Pos} {ifs : List PySem.Expr} {scope : Scope} {cl : List (Str × Addr)} {pos spos : Pos} {Q : Flow → Shared → Prop}
    (hsw : swapsWith (.ListComp elt [⟨.Name x px, iter, ifs, 0⟩] scope pos) (some (.Name y py)) spos.line env = pure true)
    (hclos : closureFor scope env = pure cl) (hkind : scope.kind = .function) (hnames : ∀ y ∈ scope.names, y.2 = .local → scope.names.lookup y.1 = some .local)
    (h : wpAny (model prog w) A (eval iter env) (CompGo prog w A env (.ListComp elt [⟨.Name x px, iter, ifs, 0⟩] scope pos) scope cl E (some (assign (.Name y py) env)) (fun _ s' => Q .next s')) E s)
    (hs : ∀ x, foldedSetIterable iter env x = pure x := by intro _; rfl) :
    wpAny (model prog w) A (exec (.Assign [.Name y py] (.ListComp elt [⟨.Name x px, iter, ifs, 0⟩] scope pos) spos) env) Q E s := by
  rw [exec_Assign_Name_used _ _ _ _ hsw]
  refine wpAny_bind (wpAny_standAt (wpAny_bind ?_))
  show wpAny _ A (do let _ ← comprehension (.ListComp elt [⟨.Name x px, iter, ifs, 0⟩] scope pos) scope env _ (newList []) false (eval iter env) (some (assign (.Name y py) env))) _ _ s
  exact wpAny_bind (wpAny_mono (wpAny_comprehension_free (use := some (assign (.Name y py) env)) (Q := fun _ s' => Q .next s') rfl hs hclos hkind hnames h) (fun _ s' hq => wpAny_pure (wpAny_pure hq)) fun _ _ e => e)
theorem compGoE {elt iter : PySem.Expr} {x : Str} {px : Pos} {ifs : List PySem.Expr} {scope : Scope} {cl : List (Str × Addr)} {pos : Pos} {ax : Addr} {items : List Value} {Q : Value → Shared → Prop}
    (J : Nat → List Value → Led → Prop) (hh : A.handled = none) (hsz : items.length ≤ sizeLine)
    (hcell : ∀ y ∈ scope.names, y.2 ≠ .cell) (hkind : scope.kind = .function) (hx : scope.names.lookup x = some .local)
    (F : Fr h₀ L s.heap m) (N : News h₀ L s.heap news)
    (hl : ∀ i ys news' h', J i ys news' → (∀ b o, h₀.get? b = some o → h'.get? b = some o) → News h₀ L h' news' → h'.IsList ax items.toArray)
    (h0 : J 0 [] news)
    (turn : ∀ i v ys news₁ h₁ tk₁ I oI C oC D m₂ (E' : Value → Shared → Prop), items[i]? = some v → J i ys news₁ → NsObj oC m₂ → m₂ x = some v → Fr h₀ L h₁ m → News h₀ L h₁ ((I, oI) :: (C, oC) :: (D, lst ys) :: news₁) →
      (∀ p ∈ news₁, p.1 ≠ I ∧ p.1 ≠ C ∧ p.1 ≠ D) → ((@Ne Nat I C) ∧ (@Ne Nat I D) ∧ (@Ne Nat C D)) →
      CTree prog w A (compEnvC scope cl C env) elt E' (CTurn h₀ L m s I oI C oC D (lst ys) (J (i + 1) ys)) (fun y => CTurn h₀ L m s I oI C oC D (lst ys) (J (i + 1) (ys ++ [y]))) ifs { s with heap := h₁, toks := tk₁ })
    (fin : ∀ D h' tk news' ys, Fr h₀ L h' m → News h₀ L h' ((D, lst ys) :: news') → (∀ p ∈ news', p.1 ≠ D) → J items.length ys news' → Q (.ref D) { s with heap := h', toks := tk }) :
    CompGo prog w A env (.ListComp elt [⟨.Name x px, iter, ifs, 0⟩] scope pos) scope cl E none Q (.ref ax) s := by
  have hls := hl 0 [] news _ h0 F.keep N
  have hlt : ax < s.heap.objs.size := by obtain ⟨_, e, _⟩ := hls; exact Heap.lt_size e
  unfold CompGo
  refine wpAny_pyIter_list hls ?_
  have up : ∀ b o, s.heap.get? b = some o → (s.heap.push { cls := .type "list_iterator", data := .fields #[.ref ax, .int 0 0] }).get? b = some o := fun b o e => Heap.get?_push_of_some _ e
  refine comp_block (s := { s with heap := s.heap.push { cls := .type "list_iterator", data := .fields #[.ref ax, .int 0 0] } }) J hh hsz hl hcell hkind hx (F.keeps up) (N.grown up) h0 ⟨_, Heap.get?_push_size _ rfl, rfl, rfl⟩ (Nat.ne_of_lt hlt) (Nat.ne_of_lt F.ns.lt) (next_is_new F) (fun p hp => Nat.ne_of_lt (Heap.lt_size (N p hp).1))
    (fun i v ys news₁ h₁ tk₁ oI C oC D m₂ E' => turn i v ys news₁ h₁ tk₁ _ oI C oC D m₂ E') ?_
  intro D C h tk m' ys news' F' N' o1 hn hC₀ hD₀ hCL hDL hCD hJ
  refine ⟨m', hn, fun h'' hs'' => fin D h'' tk news' ys (F'.change hs'' hCL hC₀) (fun p hp => ?_) (fun p hp => (o1 p hp).2) hJ⟩
  refine ⟨hs''.extBut _ _ ?_ (N' p hp).1, (N' p hp).2⟩
  rcases List.mem_cons.mp hp with rfl | hp
  · exact Ne.symm hCD
  · exact (o1 p hp).1
theorem compGoA {elt iter : PySem.Expr} {x y : Str} {px py : Pos} {ifs : List PySem.Expr} {scope : Scope} {cl : List (Str × Addr)} {pos : Pos} {ax : Addr} {items : List Value} {Q : Value → Shared → Prop}
    (J : Nat → List Value → Led → Prop) (hh : A.handled = none) (hsz : items.length ≤ sizeLine) (hLe : env.locals = L)
    (hcell : ∀ y ∈ scope.names, y.2 ≠ .cell) (hkind : scope.kind = .function) (hx : scope.names.lookup x = some .local)
    (hy : env.kindOf y = some .local) (hp : (env.scope.kind == .class || (env.scope.kind == .module && env.locals != env.globals)) = false)
    (F : Fr h₀ L s.heap m) (N : News h₀ L s.heap news)
    (hl : ∀ i ys news' h', J i ys news' → (∀ b o, h₀.get? b = some o → h'.get? b = some o) → News h₀ L h' news' → h'.IsList ax items.toArray)
    (h0 : J 0 [] news)
    (turn : ∀ i v ys news₁ h₁ tk₁ I oI C oC D m₂ (E' : Value → Shared → Prop), items[i]? = some v → J i ys news₁ → NsObj oC m₂ → m₂ x = some v → Fr h₀ L h₁ m → News h₀ L h₁ ((I, oI) :: (C, oC) :: (D, lst ys) :: news₁) →
      (∀ p ∈ news₁, p.1 ≠ I ∧ p.1 ≠ C ∧ p.1 ≠ D) → ((@Ne Nat I C) ∧ (@Ne Nat I D) ∧ (@Ne Nat C D)) →
      CTree prog w A (compEnvC scope cl C env) elt E' (CTurn h₀ L m s I oI C oC D (lst ys) (J (i + 1) ys)) (fun y => CTurn h₀ L m s I oI C oC D (lst ys) (J (i + 1) (ys ++ [y]))) ifs { s with heap := h₁, toks := tk₁ })
    (fin : ∀ D h' tk news' ys, Fr h₀ L h' (fun z => if z = y then some (.ref D) else m z) → News h₀ L h' ((D, lst ys) :: news') → (∀ p ∈ news', p.1 ≠ D) → J items.length ys news' → Q .none { s with heap := h', toks := tk }) :
    CompGo prog w A env (.ListComp elt [⟨.Name x px, iter, ifs, 0⟩] scope pos) scope cl E (some (assign (.Name y py) env)) Q (.ref ax) s := by
  subst hLe
  have hls := hl 0 [] news _ h0 F.keep N
  have hlt : ax < s.heap.objs.size := by obtain ⟨_, e, _⟩ := hls; exact Heap.lt_size e
  unfold CompGo
  refine wpAny_pyIter_list hls ?_
  have up : ∀ b o, s.heap.get? b = some o → (s.heap.push { cls := .type "list_iterator", data := .fields #[.ref ax, .int 0 0] }).get? b = some o := fun b o e => Heap.get?_push_of_some _ e
  refine comp_block (s := { s with heap := s.heap.push { cls := .type "list_iterator", data := .fields #[.ref ax, .int 0 0] } }) J hh hsz hl hcell hkind hx (F.keeps up) (N.grown up) h0 ⟨_, Heap.get?_push_size _ rfl, rfl, rfl⟩ (Nat.ne_of_lt hlt) (Nat.ne_of_lt F.ns.lt) (next_is_new F) (fun p hp => Nat.ne_of_lt (Heap.lt_size (N p hp).1))
    (fun i v ys news₁ h₁ tk₁ oI C oC D m₂ E' => turn i v ys news₁ h₁ tk₁ _ oI C oC D m₂ E') ?_
  intro D C h' tk m' ys news' F' N' o1 hn hC₀ hD₀ hCL hDL hCD hJ
  show wpAny _ A (assign (.Name y py) env (.ref D)) _ _ _
  refine wpAny_assign_Name (wpAny_storeName_local hy F'.ns (fun h₂ hn₂ hs₂ => ?_) hp)
  have hL₀ : h₀.get? env.locals = none := Heap.get?_none_of_le F'.above
  have F₂ : Fr h₀ env.locals h₂ (fun z => if z = y then some (.ref D) else m z) := ⟨hn₂, fun b o e => hs₂.extBut b o (fun q => by rw [q, hL₀] at e; cases e) (F'.keep b o e), F'.above⟩
  refine ⟨m', hn.sameBut hs₂ hCL, fun h'' hs'' => fin D h'' _ news' ys (F₂.change hs'' hCL hC₀) (fun p hp => ?_) (fun p hp => (o1 p hp).2) hJ⟩
  have z : h₂.get? p.1 = some p.2 := hs₂.extBut _ _ (N' p hp).2.1 (N' p hp).1
  refine ⟨hs''.extBut _ _ ?_ z, (N' p hp).2⟩
  rcases List.mem_cons.mp hp with rfl | hp
  · exact Ne.symm hCD
  · exact (o1 p hp).1
theorem st_cell {c : Addr} {o : Obj} {v₀ : Option Value} {v : Value} {name : Str} {g : Obj → Led} {Q : Unit → Shared → Prop} (F : Fr h₀ L s.heap m) (N : News h₀ L s.heap news)
    (hk : env.scope.kind = .function) (hl : env.kindOf name = some .cell) (hc : env.cells.lookup name = some c) (U : UpdF c o news g) (hd : o.data = .cell v₀)
    (h : ∀ o' h', o'.data = .cell (some v) → Fr h₀ L h' m → News h₀ L h' (g o') → Q () { s with heap := h' }) : wpAny (model prog w) A (storeName env name v) Q E s := by
  obtain ⟨pre, post, rfl, e, n1, n2⟩ := U.split
  have z := N (c, o) (List.mem_append.mpr (.inr (.head _)))
  refine wpAny_storeName_cell hk hl hc ⟨o, z.1, hd⟩ fun h' hc' hs => ?_
  obtain ⟨o', ho', hd'⟩ := hc'
  refine h o' h' hd' (F.change hs z.2.1 z.2.2) ?_
  rw [e]
  exact news_set N n1 n2 hs ho'
theorem allLt_le {d c : Nat} {l : Led} (h : AllLt d l) (hd : d ≤ c) : ∀ p ∈ l, p.1 ≠ c := fun p hp => Nat.ne_of_lt (Nat.lt_of_lt_of_le (tb_ltOf h p hp) hd)
theorem allLt_ne {d : Addr} {l : Led} (h : AllLt d l) : ∀ p ∈ l, p.1 ≠ d := fun p hp => Nat.ne_of_lt (tb_ltOf h p hp)
theorem wp_listItems {a : Addr} {o : Obj} {items : Array Value} {n : Nat} {M : Model} {Q : Array Value → Shared → Prop} (ho : s.heap.get? a = some o) (hd : o.data = .seq items n) (h : Q items s) : wpAny M A (Builtin.List.listItems (.ref a)) Q E s := by
  unfold Builtin.List.listItems
  exact wpAny_bind (wpAny_seqItems ho hd (wpAny_pure h))
theorem ext_all (xs ys : Array Value) : xs.extract 0 (sliceBounds none none none xs.size).1.toNat ++ ys ++ xs.extract (max (sliceBounds none none none xs.size).1 (sliceBounds none none none xs.size).2.1).toNat = ys := by
  have e : (max (sliceBounds none none none xs.size).1 (sliceBounds none none none xs.size).2.1).toNat = xs.size := congrArg Int.toNat (Int.max_eq_right (Int.natCast_nonneg xs.size))
  rw [e]
  show xs.extract 0 0 ++ ys ++ xs.extract xs.size = ys
  simp
theorem not_long {a b : Nat} (ha : a ≤ 1000) (hb : b ≤ 1000) : ¬ Builtin.List.listTooLong (a + b) = true := fun h =>
  absurd (of_decide_eq_true h) (Nat.not_lt.mpr (Nat.le_trans (Nat.add_le_add ha hb) (by decide)))
theorem setItem_all : ∀ {prog : Program} {w : World} {A : Around} {E : Value → Shared → Prop} {s : Shared} {l D sl : Addr} {xs ys : Array Value} {n n2 : Nat} {Q : Unit → Shared → Prop} (hl : s.heap.get? l = some (listOf xs n)) (hD : s.heap.get? D = some (listOf ys n2)) (hne : (l == D) = false) (hs : s.heap.IsSliceOf sl .none .none .none) (hx : xs.size ≤ 1000) (hy : ys.size ≤ 1000) (h : ∀ h' n', Heap.SameBut l s.heap h' → h'.get? l = some (listOf ys n') → Q () { s with heap := h' }), wpAny (model prog w) A (setItem (.ref l) (.ref sl) (.ref D)) Q E s := by
  have skon : SkOn := .mk
  intro prog w A E s l D sl xs ys n n2 Q hl hD hne hs hx hy h
  have hlist : s.heap.IsList l xs := ⟨_, hl, rfl, _, rfl⟩
  have hDT : s.TypeIs (.ref D) "list" := ⟨_, hD, rfl⟩
  obtain ⟨os, hos, hcs, hds⟩ := id hs
  have hTs : s.TypeIs (.ref sl) "slice" := ⟨os, hos, hcs⟩
  have hz1 : xs.size ≤ sizeLine := Nat.le_trans hx (by decide)
  unfold setItem
  try with_reducible refine wpAny_holding ?_
  first | refine wpAny_bind (wpAny_pure ?_) | skip
  refine wpAny_bind (wpAny_sequenceKey hlist.typeIs (by decide) ?_)
  refine wpAny_bind (wpAny_callSpecial?_slot (name := Str.ofString "__setitem__") hlist.typeIs slot_list_setitem
    (wpAny_call_entry slot_list_setitem hlist.typeIs entry_list_setitem ?_ (args_list_setitem _ _ _)))
  show wpAny _ _ (Builtin.List.listSubscript? (.ref sl) >>= _) _ _ s
  refine wpAny_bind ?_
  unfold Builtin.List.listSubscript?
  refine wpAny_bind (wpAny_specialOf hTs slice_no_index ?_)
  simp only [Option.isNone_none, if_true]
  refine wpAny_pure ?_
  show wpAny _ _ (typeOf (.ref sl) >>= _) _ _ s
  refine wpAny_bind (wpAny_typeOf hTs ?_)
  rw [if_neg (by decide)]
  rw [listSliceParts_eq]
  refine wpAny_bind (wpAny_bind (wpAny_field hos hds (x := .none) rfl (wpAny_bind (wpAny_listPart .none ?_))))
  rw [if_neg (show ¬ ((rawPart none == rawInt 0) = true) from Bool.false_ne_true)]
  refine wpAny_bind (wpAny_field hos hds (x := .none) rfl (wpAny_bind (wpAny_listPart .none ?_)))
  refine wpAny_bind (wpAny_field hos hds (x := .none) rfl (wpAny_bind (wpAny_listPart .none (wpAny_pure ?_))))
  rw [show Builtin.List.listSameRef (.ref l) (.ref D) = false from hne, if_neg Bool.false_ne_true]
  refine wpAny_bind ?_
  unfold Builtin.List.listAllItems
  refine wpAny_bind (wpAny_typeOf hDT ?_)
  rw [if_pos (by decide)]
  first
    | refine wpAny_bind (wp_listItems hD rfl (wpAny_pure ?_))
    | refine wp_listItems hD rfl ?_
  refine wpAny_bind (wp_listItems hl rfl ?_)
  refine wpAny_bind (wpAny_of_eq (sliceIndices_raw none none none xs.size (by simp)) ?_)
  rw [if_pos (show ((sliceBounds none none none xs.size).2.2 == 1) = true by rfl)]
  refine wpAny_bind (wpAny_rule ?_)
  rw [if_neg (not_long hx hy)]
  refine wpAny_bind (m := updateSeq l _) (wpAny_updateSeq hl rfl ?_ hz1 (by rw [ext_all xs ys]; exact Nat.le_trans hy (by decide)))
  refine wpAny_bind (wpAny_letGo ?_)
  refine wpAny_pure ⟨_, rfl, wpAny_pure (h _ (if ys.size == xs.size then n else n + 1) (Heap.SameBut.update ..) ?_)⟩
  refine (Heap.get?_update_self _ hl rfl).trans ?_
  show some (Obj.mapSeq _ (listOf xs n)) = _
  exact congrArg (fun Y : Array Value => some (listOf Y (if Y.size == xs.size then n else n + 1))) (ext_all xs ys)
theorem store_all {l D : Addr} {xs ys : Array Value} {n n2 : Nat} {g : Obj → Led} {hb : Heap} {Q : Unit → Shared → Prop} (F : Fr h₀ L hb m) (N : News h₀ L hb news)
    (hs : s.heap = hb.push { cls := .type "slice", data := .fields #[.none, .none, .none] }) (U : UpdF l (listOf xs n) news g) (hD : (D, listOf ys n2) ∈ news) (hne : (l == D) = false) (hx : xs.size ≤ 1000) (hy : ys.size ≤ 1000)
    (h : ∀ h' n', Fr h₀ L h' m → News h₀ L h' (g (listOf ys n')) → Q () { s with heap := h' }) : wpAny (model prog w) A (setItem (.ref l) (.ref hb.objs.size) (.ref D)) Q E s := by
  obtain ⟨pre, post, rfl, e, n1, n2⟩ := U.split
  have N' : News h₀ L s.heap (pre ++ (l, listOf xs n) :: post) := fun p hp => ⟨by rw [hs]; exact Heap.get?_push_of_some _ (N p hp).1, (N p hp).2⟩
  have F' : Fr h₀ L s.heap m := by rw [hs]; exact F.push _
  have z := N' (l, listOf xs n) (List.mem_append.mpr (.inr (.head _)))
  refine setItem_all z.1 (N' _ hD).1 hne (by rw [hs]; exact Heap.IsSliceOf.new ..) hx hy fun h' n' hsb ho => ?_
  refine h h' n' (F'.change hsb z.2.1 z.2.2) ?_
  rw [e]
  exact news_set N' n1 n2 hsb ho
end
end
local macro_rules | `(tactic| k_all) => rd #[] "~first ~| ~with_reducible ~assumption 1~T.assumption 1~S 2~T.withReducible 1~S 2~group ~| ~( ~refine' allLt_le ~? h~ 2~E.syntheticHole ~? hd~ 2~E.syntheticHole 2~null 2~E.app 2~T.refine' ~; ~( ~case h~ 1~Lean.binderIdent 0~null 2~T.caseArg 1~null ~=> ~first ~| ~assumption 1~T.assumption 1~S 2~group ~| ~exact And.right ~(  1~hygieneInfo 2~E.hygienicLParen ~by ~assumption 1~T.assumption 1~S 2~E.byTactic ~) 3~E.paren 1~null 2~E.app 2~T.exact 1~S 2~group ~| ~exact And.right ~(  1~hygieneInfo 2~E.hygienicLParen And.right ~(  1~hygieneInfo 2~E.hygienicLParen ~by ~assumption 1~T.assumption 1~S 2~E.byTactic ~) 3~E.paren 1~null 2~E.app ~) 3~E.paren 1~null 2~E.app 2~T.exact 1~S 2~group ~| ~exact And.right ~(  1~hygieneInfo 2~E.hygienicLParen And.right ~(  1~hygieneInfo 2~E.hygienicLParen And.right ~(  1~hygieneInfo 2~E.hygienicLParen ~by ~assumption 1~T.assumption 1~S 2~E.byTactic ~) 3~E.paren 1~null 2~E.app ~) 3~E.paren 1~null 2~E.app ~) 3~E.paren 1~null 2~E.app 2~T.exact 1~S 2~group ~| ~exact And.right ~(  1~hygieneInfo 2~E.hygienicLParen And.right ~(  1~hygieneInfo 2~E.hygienicLParen And.right ~(  1~hygieneInfo 2~E.hygienicLParen And.right ~(  1~hygieneInfo 2~E.hygienicLParen ~by ~assumption 1~T.assumption 1~S 2~E.byTactic ~) 3~E.paren 1~null 2~E.app ~) 3~E.paren 1~null 2~E.app ~) 3~E.paren 1~null 2~E.app ~) 3~E.paren 1~null 2~E.app 2~T.exact 1~S 2~group ~| ~exact And.right ~(  1~hygieneInfo 2~E.hygienicLParen And.right ~(  1~hygieneInfo 2~E.hygienicLParen And.right ~(  1~hygieneInfo 2~E.hygienicLParen And.right ~(  1~hygieneInfo 2~E.hygienicLParen And.right ~(  1~hygieneInfo 2~E.hygienicLParen ~by ~assumption 1~T.assumption 1~S 2~E.byTactic ~) 3~E.paren 1~null 2~E.app ~) 3~E.paren 1~null 2~E.app ~) 3~E.paren 1~null 2~E.app ~) 3~E.paren 1~null 2~E.app ~) 3~E.paren 1~null 2~E.app 2~T.exact 1~S 2~group 6~null 2~T.first 1~S 4~T.case 1~S ~) 3~T.paren ~; ~( ~case hd~ 1~Lean.binderIdent 0~null 2~T.caseArg 1~null ~=> ~( ~try ~dsimp 0~null 1~T.optConfig 0~null ~only 1~null 0~null 0~null 6~T.dsimp 1~S 2~T.tacticTry_ 1~S ~) 3~T.paren ~; ~omega 0~null 1~T.optConfig 2~T.omega 3~S 4~T.case 1~S ~) 3~T.paren 5~S ~) 3~T.paren 1~S 2~group 2~null 2~T.first"
local macro_rules | `(tactic| walk_at "eval ListComp") => rd #[] "~( ~( ~fail_if_success ~( ~fail_if_success ~( ~have 0~null 1~E.letConfig hg 1~E.letId 0~null ~: HoldK ~\"+Comp\" 1~str 1~null 2~E.app 2~E.typeSpec 1~null ~:= ~by ~with_reducible ~assumption 1~T.assumption 1~S 2~T.withReducible 1~S 2~E.byTactic 5~E.letIdDecl 1~E.letDecl 3~T.tacticHave__ 1~S ~) 3~T.paren 1~S 2~T.failIfSuccess 1~S ~) 3~T.paren 1~S 2~T.failIfSuccess 1~S ~) 3~T.paren ~; ~k_here 1~PySem.W.tacticK_here ~; ~k_dflt ~( ~refine' compE ~? c1~ 2~E.syntheticHole ~? c2~ 2~E.syntheticHole ~? c3~ 2~E.syntheticHole ~? ~_ 2~E.syntheticHole 4~null 2~E.app 2~T.refine' ~; ~( ~case c1~ 1~Lean.binderIdent 0~null 2~T.caseArg 1~null ~=> ~with_unfolding_all ~rfl 1~T.tacticRfl 1~S 2~T.withUnfoldingAll 1~S 4~T.case 1~S ~) 3~T.paren ~; ~( ~case c2~ 1~Lean.binderIdent 0~null 2~T.caseArg 1~null ~=> ~exact rfl 2~T.exact 1~S 4~T.case 1~S ~) 3~T.paren ~; ~( ~case c3~ 1~Lean.binderIdent 0~null 2~T.caseArg 1~null ~=> ~decide 0~null 1~T.optConfig 2~T.decide 1~S 4~T.case 1~S ~) 3~T.paren 7~S ~) 3~T.paren 2~PySem.W.tacticK_dflt_ 5~S ~) 3~T.paren"
section
section
variable {prog : Program} {w : World} {A : Around} {E : Value → Shared → Prop} {s : Shared} {h₀ : Heap} {L d : Addr} {m : Str → Option Value} {news : Led} {o : Obj} {kvs : List (Int × Value)}
theorem keys_ints : ∀ (kvs : List (Int × Value)) (vs : List Value), vs.length = kvs.length → (∀ (j : Nat) (v : Value), vs[j]? = some v → ∃ k x, kvs[j]? = some (k, x) ∧ (PySem.intKind prog w).is k v = true) → IntsAre vs (kvs.map (·.1))
  | [], [], _, _ => .nil
  | [], _ :: _, h, _ => by simp at h
  | _ :: _, [], h, _ => by simp at h
  | (k, x) :: kvs, v :: vs, hl, h => by
    obtain ⟨k', x', e1, e2⟩ := h 0 v rfl
    have e1' : (k, x) = (k', x') := by simpa using e1
    cases e1'
    obtain ⟨t, rfl⟩ := PySem.Value.isInt_shape e2
    exact .cons _ _ (keys_ints kvs vs (by simpa using hl) fun j v hv => by
      obtain ⟨k', x', f1, f2⟩ := h (j + 1) v (by simpa using hv)
      exact ⟨k', x', by simpa using f1, f2⟩)
theorem sorted_dictI {Q : Value → Shared → Prop} (hh : A.handled = none) (F : Fr h₀ L s.heap m) (N : News h₀ L s.heap news) (hp : (d, o) ∈ news) (hd : o.IsDictOf (PySem.intKind prog w) kvs) (lo : (d == sysModules) = false) (h64 : kvs.length < 64)
    (h : ∀ D vs' ns' c h' tk, Fr h₀ L h' m → News h₀ L h' ((D, listOf (List.toArray vs') c) :: news) → (∀ q ∈ news, q.1 < D) → IntsAre vs' ns' → ns'.Perm (kvs.map (·.1)) → ns'.Pairwise (· ≤ ·) → Q (.ref D) { s with heap := h', toks := tk }) :
    wpAny (model prog w) A (call (.builtin "sorted") [.ref d]) Q E s := by
  obtain ⟨ep, hat⟩ := KdkAt.of hd
  refine kdu_sorted (kdl_dict (knd := PySem.intKind prog w) (kvs := kvs) (ep := ep) lo) hh F N (hat.dictAt (N _ hp).1) (by rw [sizeLine_eq]; omega) fun D h' tk vs F' N' l1 hl hv => ?_
  have hI := keys_ints kvs vs hl hv
  have hz := N' _ (.head _)
  refine wpAny_call_entry PyProof.Rows.slot_list_sort ⟨_, hz.1, rfl⟩ PyProof.Rows.entry_list_sort (list_sort_tree (n := 0) (vs := vs) hz.1 hI (by omega) fun out ns' h1 h2 h3 => ⟨.none, rfl, ?_⟩) (PyProof.Rows.args_list_sort _)
  obtain ⟨e, he⟩ := sortedHeap_at (out := out) hz.1
  have hold : ∀ b o, b ≠ D → h'.get? b = some o → (sortedHeap h' D vs out).get? b = some o := fun b o hb e => by
    rw [sortedHeap_old hb (Heap.lt_size e)]; exact e
  refine h D out.toList ns' e _ tk ⟨F'.ns.at' fun o e => hold _ o (fun q => hz.2.1 q.symm) e, fun b o e => hold b o (fun q => ?_) (F'.keep b o e), F'.above⟩ (fun p hp => ?_) l1 h1 h2 h3
  · rw [q, hz.2.2] at e; cases e
  · rcases List.mem_cons.mp hp with rfl | hp
    · exact ⟨by rw [Array.toArray_toList]; exact he, hz.2⟩
    · exact ⟨hold _ _ (Nat.ne_of_lt (l1 p hp)) (N' p (.tail _ hp)).1, (N' p (.tail _ hp)).2⟩
theorem min_dictI : ∀ {prog : Program} {w : World} {A : Around} {E : Value → Shared → Prop} {s : Shared} {h₀ : Heap} {L : Addr} {d : Addr} {m : Str → Option Value} {news : Led} {o : Obj} {kvs : List (Int × Value)} {Q : Value → Shared → Prop} (hh : A.handled = none) (F : Fr h₀ L s.heap m) (N : News h₀ L s.heap news) (hp : (d, o) ∈ news) (hd : o.IsDictOf (PySem.intKind prog w) kvs) (lo : (d == sysModules) = false) (hne : 0 < kvs.length) (h : ∀ h' M (t : Tok) tk, Fr h₀ L h' m → News h₀ L h' news → M ∈ kvs.map (·.1) → (∀ a, a ∈ kvs.map (·.1) → M ≤ a) → Q (.int M t) { s with heap := h', toks := tk }), wpAny (model prog w) A (call (.builtin "min") [.ref d]) Q E s := by
  have skon : SkOn := .mk
  intro prog w A E s h₀ L d m news o kvs Q hh F N hp hd lo hne h
  obtain ⟨ep, hat⟩ := KdkAt.of hd
  have K := kdl_dict (prog := prog) (w := w) (knd := PySem.intKind prog w) (kvs := kvs) (ep := ep) (d := d) lo
  have hok := hat.dictAt (N _ hp).1
  have hval : ∀ (i : Nat) (v : Value), (∃ k x, kvs[i]? = some (k, x) ∧ (PySem.intKind prog w).is k v = true) → ∃ t : Tok, v = .int (((kvs.map (·.1))[i]?).getD 0) t := fun i v ⟨k, x, h1, h2⟩ => by
    obtain ⟨t, rfl⟩ := PySem.Value.isInt_shape h2
    exact ⟨t, by simp [h1]⟩
  refine call_min_walk ?_
  obtain ⟨oI, St, hit, W, st⟩ := K.iter A.in1 s hh hok
  refine hit _ _ ⟨s.heap.objs.size, _, _, _, _, _, _, rfl, W, st, fun b hb => ?_, hne, CmpOf.ints_lt (fun i => ((kvs.map (·.1))[i]?).getD 0) hval, fun v h' tk hP hk => ?_⟩
  · show b < (s.heap.push oI).objs.size
    rw [size_push']
    rcases List.mem_cons.mp hb with e | hb
    · rw [e]; exact Nat.lt_succ_self _
    · rw [List.mem_singleton.mp hb]; exact Nat.lt_succ_of_lt (K.there _ hok).2
  · obtain ⟨t, rfl⟩ := hval _ _ hP
    have hold : ∀ b o, s.heap.get? b = some o → h'.get? b = some o := fun b o e =>
      hk b o (fun hI => absurd (Heap.lt_size e) (by rw [List.mem_singleton.mp hI]; exact Nat.lt_irrefl _)) (Heap.get?_push_of_some _ e)
    obtain ⟨h1, h2⟩ := argBest_lt (fun i => ((kvs.map (·.1))[i]?).getD 0) (kvs.length - 1)
    refine h _ _ t tk (F.grownK hold) (N.grown hold) ?_ fun a ha => ?_
    · rw [List.getElem?_eq_getElem (by rw [List.length_map]; omega)]
      exact List.getElem_mem _
    · obtain ⟨j, hj, rfl⟩ := List.mem_iff_getElem.mp ha
      have := h2 j (by rw [List.length_map] at hj; omega)
      simp only [List.getElem?_eq_getElem hj, Option.getD_some] at this
      exact this
end
end
section
theorem warm_B2 : PySem.Challenge.rw_ta0132_01.Holds → hd1.heap_1_39 = hd1.heap_1_39 := by
  k_fill
  intro _
  rfl
noncomputable def digs (n : Nat) : List Int := if h : n < 64 then [(n : Int)] else digs (n / 64) ++ [((n % 64 : Nat) : Int)]
termination_by n
decreasing_by omega
theorem fm64 (n : Nat) : Int.fmod (n : Int) 64 = ((n % 64 : Nat) : Int) := by rw [Int.fmod_eq_emod_of_nonneg _ (by decide)]; omega
theorem fd64 (n : Nat) : Int.fdiv (n : Int) 64 = ((n / 64 : Nat) : Int) := by rw [Int.fdiv_eq_ediv_of_nonneg _ (by decide)]; omega
theorem digs_small {n : Nat} (h : n < 64) : digs n = [(n : Int)] := by rw [digs]; simp [h]
theorem digs_big {n : Nat} (h : ¬ n < 64) : digs n = digs (n / 64) ++ [((n % 64 : Nat) : Int)] := by rw [digs]; simp [h]
theorem digs_last (n : Nat) : digs n = (digs n).dropLast ++ [((n % 64 : Nat) : Int)] := by
  by_cases h : n < 64
  · rw [digs_small h]; simp; omega
  · rw [digs_big h]; simp
noncomputable def figJ (n₀ : Nat) (news : Led) : Nat → (Str → Option Value) → Led → Prop := fun k m₁ news₁ =>
  ∃ tk l fs ds j, m₁ (Str.ofString "number") = some (.int k tk) ∧ m₁ (Str.ofString "figures") = some (.ref l) ∧ (∃ junk, news₁ = (l, listOf (List.toArray fs) 0) :: (junk ++ news)) ∧ IntsAre fs ds ∧ digs n₀ = (digs k).dropLast ++ ds ∧ k < 64 ^ j ∧ ds.length + j ≤ 12
/-- a contract of a call, whatever exception is at work -/
noncomputable abbrev ConH (w : World) (d : Nat) (c : Sem Value) (news : Led) (R : Value → Led → Prop) : Prop :=
  ∀ (hv : Option Value) (mean : ExcName → Option Value) (mg mb : Str → Option Value) (dp un : Nat) (gd : Option (List Code)) (cn : Str) (cs : Scope) (a : Addr) (ccd : Value) (cl : List (Str × Addr)) (outer : List Env) (A₀ : Around) (base h₀ : Heap) (L : Addr) (m : Str → Option Value) (s : Shared) (Q E : Value → Shared → Prop),
    Below A₀ base outer h₀ → Fr h₀ L s.heap m → (hd1.heap_1_39 w.params).In h₀ → News h₀ L s.heap news → Top topProg LO mean mg mb h₀ → cs.kind = .function → dp + d < recursionLimit → un + 8 * d < cLine →
    (∀ r news' h' tk', Fr h₀ L h' m → News h₀ L h' news' → R r news' → Q r { s with heap := h', toks := tk' }) →
    wpAny (model PySem.Challenge.pw_ta0132_01 w) { handled := hv, depth := dp, frames := some (envX cn cs L a ccd cl :: outer), guards := gd, units := un } c Q E s
theorem ConH.con {w : World} {d : Nat} {c : Sem Value} {news : Led} {R : Value → Led → Prop} (h : ConH w d c news R) : Con w d c news R := h none
theorem c_figuresH : ∀ (w : World) (n : Nat) (tk : Tok) (news : Led) (hn : n < 64 ^ 11), ConH w 2 (call (.ref 356) [.int n tk]) news (fun r news' => ∃ l fs, r = .ref l ∧ (∃ junk, news' = (l, listOf (List.toArray fs) 0) :: (junk ++ news)) ∧ IntsAre fs (digs n)) := by
  k_with_none
  have hold0 : HoldK "exec While Compare cons nil" := .mk
  have skon : SkOn := .mk
  intro w n tk news hn
  unfold ConH
  intro hv
  intro mean mg mb dp un gd cn cs a ccd cl outer A₀ base h₀ L m s Q E B F X N T hk hd hu hret
  refine wpAny_call ?_
  k_dflt (refine' code_def (binds := [(Str.ofString "number", .int n tk)]) ?k1 ?k2 ?k3 ?k4 ?k5 ?kA ?kF ?kK ?k6 ?k7 ?k8 ?k9 ?kB ?_ ?c2 ?c3 ?c4 ?c5; (case kA => exact rfl); (case kF => exact rfl); (case kK => first | assumption | exact rfl); (case k1 => k_asm); (case k2 => k_asm); (case k3 => k_asm); (case k4 => k_asm); (case k5 => k_asm); (case k6 => k_is); (case k7 => k_is); (case k8 => k_room); (case k9 => first | exact BindsTo.of_eq rfl | exact binds_K (by k_in) rfl (by k_is) rfl rfl rfl); (case c5 => decide); (case kB => exact locs rfl); (case c2 => exact rfl); (case c3 => exact rfl); (case c4 => exact rfl); k_whole; intro g1 L1 h1 FG1 F1 N1 B1 X1 T1; (try dsimp only); (try k_lift B1); (try k_fold))
  k_steps
  refine Hold.to ?_
  rename Fr g1 L1 _ _ => F2
  rename News g1 L1 _ _ => N2
  refine While_inv (figJ n news) (n₀ := n) F2 N2 ?h0 ?turn
  case h0 =>
    refine (exI2 ⟨[Value.int _ _], _, 11, rfl, rfl, ⟨[], rfl⟩, IntsAre.cons _ _ .nil, ?_, hn, by simp⟩)
    rw [fm64]; exact digs_last n
  intro k m₁ news₁ h₃ tk₃ F3 N3 hJ
  obtain ⟨tkn, l, fs, ds, j, hm1, hm2, ⟨junk, rfl⟩, hI, hdg, hkj, hlen⟩ := hJ
  have hfl : fs.length ≤ 12 := by rw [hI.length]; omega
  rw [set2 hm1 hm2] at F3
  clear F2 N2
  k_steps
  · rename Fr g1 L1 _ _ => F9
    rename News g1 L1 _ _ => N9
    rename IntsAre _ (_ ++ _) => I9
    rename (63 : Int) < _ => h63
    have hj : j ≠ 0 := by intro hq9; obtain rfl := hq9; omega
    obtain ⟨j, rfl⟩ : ∃ i, j = i + 1 := ⟨j - 1, by omega⟩
    refine WhileStep.intro (n' := k / 64) F9 N9 (by omega) ⟨_, _, _, _, j, (by rw [← fd64]; exact rfl), rfl, ⟨_ :: _ :: junk, rfl⟩, I9, ?_, ?_, ?_⟩
    · rw [hdg, digs_big (n := k) (by omega), fd64, fm64]
      rw [List.dropLast_concat]
      conv => lhs; rw [digs_last (k / 64)]
      simp
    · rw [Nat.pow_succ] at hkj; omega
    · simp only [List.length_append, List.length_cons, List.length_nil] at hlen ⊢; omega
  · rename (¬ (63 : Int) < _) => h63
    refine hret _ _ _ _ (by assumption) (by assumption) (exI2 ⟨rfl, ⟨junk, rfl⟩, ?_⟩)
    rw [hdg, digs_small (by omega)]
    exact hI
theorem c_figures (w : World) (n : Nat) (tk : Tok) (news : Led) (hn : n < 64 ^ 11) : Con w 2 (call (.ref 356) [.int n tk]) news (fun r news' => ∃ l fs, r = .ref l ∧ (∃ junk, news' = (l, listOf (List.toArray fs) 0) :: (junk ++ news)) ∧ IntsAre fs (digs n)) := (c_figuresH w n tk news hn).con
theorem c_figuresZ (w : World) (z : Int) (tk : Tok) (news : Led) (h0 : 0 ≤ z) (hn : z < 64 ^ 11) : Con w 2 (call (.ref 356) [.int z tk]) news (fun r news' => ∃ l fs, r = .ref l ∧ (∃ junk, news' = (l, listOf (List.toArray fs) 0) :: (junk ++ news)) ∧ IntsAre fs (digs z.toNat)) := by
  obtain ⟨n, rfl⟩ := Int.eq_ofNat_of_zero_le h0
  exact c_figures w n tk news (by omega)
noncomputable def smallI (l : List Int) : Int := l.foldl (fun s f => 64 * s + f + (if 0 < f ∧ f < 27 then 32 else 0)) 0
theorem smallI_snoc : ∀ (l : List Int) (c : Int), smallI (l ++ [c]) = 64 * smallI l + c + (if 0 < c ∧ c < 27 then 32 else 0) := by
  have skon : SkOn := .mk
  intro l c
  unfold smallI; rw [List.foldl_append]; rfl
theorem drop1 {p q : Addr × Obj} {junk news : Led} (hp : p ∈ news) : p ∈ q :: (junk ++ news) := List.mem_cons_of_mem _ (List.mem_append_right _ hp)
theorem c_small : ∀ (w : World) (z : Int) (tk : Tok) (news : Led) (h0 : 0 ≤ z) (hn : z < 64 ^ 11), Con w 4 (call (.ref 363) [.int z tk]) news (fun r news' => news' = news ∧ ∃ tk, r = .int (smallI (digs z.toNat)) tk) := by
  k_with "call ref" => (k_here; (with_reducible show wpAny _ _ (PySem.call (Value.ref 356) _) _ _ _); k_dflt (refine' c_figuresZ _ _ _ _ ?p1 ?p2 _ _ _ _ _ _ _ _ _ _ _ _ _ _ _ _ _ _ _ _ ?k1 ?k2 ?k3 ?k4 ?k5 ?kK ?kd ?ku ?_; (case k1 => k_asm); (case k2 => k_asm); (case k3 => k_asm); (case k4 => k_asm); (case k5 => k_asm); (case kK => first | exact rfl | assumption); (case kd => k_room); (case ku => k_units); (case p1 => omega); (case p2 => omega); intro _ _ _ _ _ _ H9); obtain ⟨l9, fs9, e9, ⟨junk9, e8⟩, hI9⟩ := H9; subst e9; subst e8; (try dsimp only); (try k_fold))
  have hold0 : HoldK "exec While Compare cons nil" := .mk
  have skon : SkOn := .mk
  intro w z tk news h0 hn
  unfold Con
  intro mean mg mb dp un gd cn cs a ccd cl outer A₀ base h₀ L m s Q E B F X N T hk hd hu hret
  refine wpAny_call ?_
  k_dflt (refine' code_def (binds := [(Str.ofString "number", .int z tk)]) ?k1 ?k2 ?k3 ?k4 ?k5 ?kA ?kF ?kK ?k6 ?k7 ?k8 ?k9 ?kB ?_ ?c2 ?c3 ?c4 ?c5; (case kA => exact rfl); (case kF => exact rfl); (case kK => first | assumption | exact rfl); (case k1 => k_asm); (case k2 => k_asm); (case k3 => k_asm); (case k4 => k_asm); (case k5 => k_asm); (case k6 => k_is); (case k7 => k_is); (case k8 => k_room); (case k9 => first | exact BindsTo.of_eq rfl | exact binds_K (by k_in) rfl (by k_is) rfl rfl rfl); (case c5 => decide); (case kB => exact locs rfl); (case c2 => exact rfl); (case c3 => exact rfl); (case c4 => exact rfl); k_whole; intro g1 L1 h1 FG1 F1 N1 B1 X1 T1; (try dsimp only); (try k_lift B1); (try k_fold))
  k_with "pyIter ref" => k_state (fun pre small => (small : Int) = smallI pre) "small"
  k_with "state" => first | exact rfl | (rw [smallI_snoc, if_pos (by omega)]; omega) | (rw [smallI_snoc, if_neg (by omega)]; omega)
  k_steps
  k_with_none
  rename _ = smallI _ => hk9
  refine hret _ _ _ _ (by assumption) (cb_drop (by assumption) fun _ => drop1) ⟨rfl, _, by rw [hk9]⟩
end
section
open PyProof.V
theorem itemK {prog : Program} {w : World} {A : Around} {E : Value → Shared → Prop} {s : Shared} {value slice : PySem.Expr} {l : Addr} {its : List Value} {k : Int} {u : Tok} {x : Value} {Q : Value → Shared → Prop} (hl : s.heap.IsList l its.toArray)
    (h0 : 0 ≤ k) (hfit : k < 2 ^ 63) (hx : its[k.toNat]? = some x) (h : Q x s)
    (hs : subscripted slice false (.ref l) (.int k u) = operate [.ref l, .int k u] (getItem (.ref l) (.int k u)) := by with_unfolding_all rfl) :
    wpAny (model prog w) A (subscriptTail value slice (.ref l) (.int k u)) Q E s := item_listR hl h0 hfit (by simpa using hx) h hs
structure Ro where
  a : Addr
  dot : Bool
  num : Int
  tn : Tok
  val : Int
  tv : Tok
instance : Nonempty Ro := ⟨⟨0, false, 0, 0, 0, 0⟩⟩
noncomputable def Ro.obj (r : Ro) : Addr × Obj := (r.a, listOf #[.bool r.dot, .int r.num r.tn, .int r.val r.tv] 0)
noncomputable def Ro.dat (r : Ro) : PyData := .list [.bool r.dot, .int r.num, .int r.val]
noncomputable def ros (l : List Ro) : List Value := l.map fun r => Value.ref r.a
noncomputable def roEq (p q : Ro) : Bool := p.dot == q.dot && (p.num == q.num && p.val == q.val)
noncomputable def smallOf (n : Int) : Int := smallI (digs n.toNat)
noncomputable def RoOk (r : Ro) : Prop := 0 ≤ r.num ∧ r.num < 64 ^ 11 ∧ 0 ≤ r.val ∧ r.val < 4096
noncomputable def alikeP (dot : Bool) (num : Int) (r : Ro) : Bool := r.dot == dot && smallOf r.num == smallOf num
section
variable {prog : Program} {w : World} {A : Around} {E : Value → Shared → Prop} {s : Shared} {h₀ h : Heap} {L D C : Addr} {news : Led} {R : List Ro} {r : Ro} {n k : Nat} {Q : Value → Shared → Prop}
theorem ro_reads (N : News h₀ L h news) (hr : r.obj ∈ news) : ∃ as, Reads h (.ref r.a) r.dat as :=
  ⟨_, reads_list_at (N.get hr) rfl rfl (ReadsAll.cons (Reads.bool _) (ReadsAll.cons (Reads.int _ _) (ReadsAll.cons (Reads.int _ _) ReadsAll.nil)))⟩
theorem ros_reads (N : News h₀ L h news) : ∀ R : List Ro, (∀ r ∈ R, r.obj ∈ news) → ∃ as, ReadsAll h (ros R) (R.map Ro.dat) as
  | [], _ => ⟨_, ReadsAll.nil⟩
  | r :: R, hR => by
    obtain ⟨a, q⟩ := ro_reads N (hR r (.head _))
    obtain ⟨b, p⟩ := ros_reads N R fun x hx => hR x (.tail _ hx)
    exact ⟨_, ReadsAll.cons q p⟩
theorem ros_lay : ∀ R : List Ro, PyData.canLayAll0 (R.map Ro.dat) = true ∧ PyData.depthAll (R.map Ro.dat) ≤ 2
  | [] => by simp [PyData.canLayAll0, PyData.depthAll]
  | r :: R => by
    have q := ros_lay R
    simp only [List.map_cons, Ro.dat, PyData.canLayAll0, PyData.canLay0, PyData.depthAll, PyData.depth, Bool.true_and, Bool.and_true]
    refine ⟨q.1, ?_⟩
    exact Nat.max_le.mpr ⟨by decide, q.2⟩
theorem ros_any : ∀ R : List Ro, ((R.map Ro.dat).any fun y => PyData.eqv y r.dat) = R.any fun p => roEq p r := fun R => by
  rw [List.any_map]
  congr 1
  funext p
  simp [Ro.dat, PyData.eqv, PyData.eqvAll, roEq, Function.comp]
theorem notin_rows (N : News h₀ L s.heap news) (hD : (D, listOf (ros R).toArray n) ∈ news) (hR : ∀ r ∈ R, r.obj ∈ news) (hr : r.obj ∈ news) (hu : A.units + 64 < cLine) (hq : Q (.bool (!R.any fun p => roEq p r)) s) :
    wpAny (model prog w) A (compareOp .NotIn (.ref r.a) (.ref D)) Q E s := by
  obtain ⟨as, ra⟩ := ros_reads N R hR
  obtain ⟨bs, rx⟩ := ro_reads N hr
  refine SeqAt.notIn_list_reads (reads_list_at (N.get hD) rfl rfl (by simpa using ra)) rx (ros_lay R).1 (by simp [Ro.dat, PyData.canLay0, PyData.canLayAll0]) ?_ (by rw [ros_any]; exact hq)
  have := Nat.min_le_left (PyData.depthAll (R.map Ro.dat)) r.dat.depth
  have := (ros_lay R).2
  omega
theorem ne_rows (N : News h₀ L s.heap news) (hD : (D, listOf (ros R).toArray n) ∈ news) (hR : ∀ r ∈ R, r.obj ∈ news) (hC : (C, listOf #[] k) ∈ news) (hu : A.units + 64 < cLine) (hq : Q (.bool (!R.isEmpty)) s) :
    wpAny (model prog w) A (compareOp .NotEq (.ref D) (.ref C)) Q E s := by
  obtain ⟨as, ra⟩ := ros_reads N R hR
  have e : PyData.eqv (.list (R.map Ro.dat)) (.list []) = R.isEmpty := by cases R <;> simp [PyData.eqv, PyData.eqvAll]
  refine ne_dataH (reads_list_at (N.get hD) rfl rfl (by simpa using ra)) (reads_list_at (N.get hC) rfl rfl ReadsAll.nil) ?_ ?_ hu (by rw [e]; exact hq)
  · unfold SeqAt.shaped
    rw [PyData.canLay0, (ros_lay R).1, Bool.true_and]
    exact decide_eq_true (by rw [PyData.depth]; have := (ros_lay R).2; omega)
  · rfl
theorem add_all {m : Str → Option Value} {l b : Addr} {vs ws : List Value} {n1 n2 : Nat} (F : Fr h₀ L s.heap m) (N : News h₀ L s.heap news) (hl : (l, listOf vs.toArray n1) ∈ news) (hb : (b, listOf ws.toArray n2) ∈ news) (hsz : vs.length + ws.length ≤ sizeLine)
    (h : ∀ D h', Fr h₀ L h' m → News h₀ L h' ((D, listOf (vs ++ ws).toArray 0) :: news) → (∀ p ∈ news, p.1 < D) → Q (.ref D) { s with heap := h' }) :
    wpAny (model prog w) A (binaryOp .Add (.ref l) (.ref b)) Q E s :=
  add_lists F N (N.isList hl) (N.isList hb) (fun h' F' N' => h _ h' F' N' fun p hp => Heap.lt_size (N p hp).1) hsz
theorem any_alike {dot : Bool} {num : Int} {R : List Ro} {r : Ro} (hr : r ∈ R) : ((R.filter (alikeP dot num)).any fun p => roEq p r) = alikeP dot num r := by
  cases h : alikeP dot num r with
  | true => exact List.any_eq_true.mpr ⟨r, List.mem_filter.mpr ⟨hr, h⟩, by simp [roEq]⟩
  | false =>
    rw [List.any_eq_false]
    intro p hp hq
    obtain ⟨_, hp⟩ := List.mem_filter.mp hp
    simp only [roEq, Bool.and_eq_true, beq_iff_eq] at hq
    obtain ⟨h1, h2, _⟩ := hq
    have : alikeP dot num p = alikeP dot num r := by simp [alikeP, h1, h2]
    rw [hp, h] at this
    cases this
end
noncomputable def Ext (news news' : Led) : Prop := ∃ extra, news' = extra ++ news ∧ ∀ p ∈ extra, ∀ q ∈ news, @Ne Nat p.1 q.1
theorem Ext.refl {news : Led} : Ext news news := ⟨[], rfl, fun _ h => nomatch h⟩
theorem Ext.cons {news news' : Led} {p : Addr × Obj} (h : Ext news news') (hp : ∀ q ∈ news, @Ne Nat p.1 q.1) : Ext news (p :: news') := by
  obtain ⟨ex, rfl, he⟩ := h
  refine ⟨p :: ex, rfl, fun x hx => ?_⟩
  rcases List.mem_cons.mp hx with rfl | hx
  · exact hp
  · exact he x hx
theorem Ext.mem {news news' : Led} {p : Addr × Obj} (h : Ext news news') (hp : p ∈ news) : p ∈ news' := by
  obtain ⟨ex, rfl, _⟩ := h
  exact List.mem_append_right _ hp
theorem allLt_off {d : Nat} {l : Led} {p : Addr × Obj} (h : AllLt d l) (hd : d ≤ p.1) : ∀ q ∈ l, @Ne Nat p.1 q.1 := fun q hq => by
  have : @LT.lt Nat _ q.1 d := tb_ltOf h q hq
  omega
noncomputable def pairS (v : Int) : Str := ⟨#[(64 + v.fdiv 64).toNat]⟩ ++ ⟨#[(v.fmod 64).toNat]⟩
noncomputable def toldR (deed : Int) (dot : Bool) (num : Int) (R : List Ro) : List Ro := if deed < 2 then R.filter (fun r => !alikeP dot num r) else R
/-- what _law_told answers: the rows and the answer due -/
noncomputable def Told (deed : Int) (dot : Bool) (num val : Int) (R R' : List Ro) (due : Value) : Prop :=
  (deed = 1 ∧ R' = toldR deed dot num R ∧ due = .none) ∨
  (deed = 2 ∧ ∃ r, R.find? (alikeP dot num) = some r ∧ R' = R ∧ ∃ t, due = .str (pairS r.val) t) ∨
  (deed ≠ 1 ∧ (deed = 2 → R.find? (alikeP dot num) = none) ∧ val.fmod 64 = 10 ∧ R' = toldR deed dot num R ∧ ∃ t, due = .int 0 t) ∨
  (deed ≠ 1 ∧ (deed = 2 → R.find? (alikeP dot num) = none) ∧ val.fmod 64 ≠ 10 ∧ (∃ a tn tv, R' = toldR deed dot num R ++ [⟨a, dot, num, tn, val, tv⟩]) ∧ (deed = 2 → ∃ t, due = .str (pairS val) t) ∧ (deed ≠ 2 → due = .none))
noncomputable def ToldPost (Rr : Addr) (news : Led) (deed : Int) (dot : Bool) (num val : Int) (R : List Ro) (r : Value) (news' : Led) : Prop :=
  ∃ T X n' R' due, r = .ref T ∧ Ext news news' ∧ (T, ({ cls := .type "tuple", data := .seq #[.ref X, due] } : Obj)) ∈ news' ∧ (X, listOf (ros R').toArray n') ∈ news' ∧ (X = Rr ∨ ∀ q ∈ news, @Ne Nat X q.1) ∧ (∀ r ∈ R', r ∈ R ∨ r.obj ∈ news') ∧ Told deed dot num val R R' due
theorem told_lt {deed : Int} {dot : Bool} {num : Int} {R : List Ro} (h : deed < 2) : toldR deed dot num R = R.filter fun r => !alikeP dot num r := if_pos h
theorem told_ge {deed : Int} {dot : Bool} {num : Int} {R : List Ro} (h : ¬ deed < 2) : toldR deed dot num R = R := if_neg h
theorem find_nil {dot : Bool} {num : Int} {R : List Ro} (h : R.filter (alikeP dot num) = []) : R.find? (alikeP dot num) = none := by rw [← List.head?_filter, h]; rfl
theorem find_cons {dot : Bool} {num : Int} {R Al : List Ro} {r : Ro} (h : R.filter (alikeP dot num) = r :: Al) : R.find? (alikeP dot num) = some r := by rw [← List.head?_filter, h]; rfl
theorem ros_snoc {R : List Ro} {a : Addr} {dot : Bool} {num val : Int} {tn tv : Tok} : ros (R ++ [⟨a, dot, num, tn, val, tv⟩]) = ros R ++ [Value.ref a] := by simp [ros]
theorem robj_snoc {R R0 : List Ro} {news' : Led} {a : Addr} {dot : Bool} {num val : Int} {tn tv : Tok} (h : ∀ r ∈ R, r ∈ R0) (hm : (a, listOf #[.bool dot, .int num tn, .int val tv] 0) ∈ news') : ∀ r ∈ R ++ [⟨a, dot, num, tn, val, tv⟩], r ∈ R0 ∨ r.obj ∈ news' := fun r hr => by
  rcases List.mem_append.mp hr with hr | hr
  · exact .inl (h r hr)
  · cases List.mem_singleton.mp hr; exact .inr hm
end
section
/-- what a row and an item of the table are made of: the dot, the name's one or two letters, the value's letter and mark -/
structure Rec where
  dot : Bool
  a : Nat
  b : Option Nat
  p : Nat
  q : Nat
instance : Nonempty Rec := ⟨⟨false, 0, none, 0, 0⟩⟩
noncomputable def Let (c : Nat) : Prop := 64 < c ∧ c < 127
noncomputable def Rec.ok (r : Rec) : Prop := Let r.a ∧ (∀ b, r.b = some b → Let b) ∧ Let r.p ∧ r.q < 64
noncomputable def Rec.nm (r : Rec) : List Nat := r.a :: r.b.toList
noncomputable def Rec.key (r : Rec) : List Nat := (if r.dot then [46] else []) ++ r.nm
noncomputable def Rec.num (r : Rec) : Int := match r.b with
  | none => r.a - 64
  | some b => 64 * (r.a - 64) + (b - 64)
noncomputable def Rec.val (r : Rec) : Int := 64 * (r.p - 64) + r.q
noncomputable abbrev Row := Bool × Int × Int
noncomputable def Rec.row (r : Rec) : Row := (r.dot, r.num, r.val)
noncomputable def placeR (r : Row) : Int := (if 63 < r.2.1 then r.2.1 else 64 * r.2.1) + (if r.1 then 0 else 4096)
noncomputable def rowI (r : Row) : List Int := (if r.1 then [46, 46] else []) ++ [64 * r.2.1 + 58, 32, r.2.2, 13, 10]
noncomputable def namesI (m : Int) : List Int := if m = 38 then [8901999] else []
theorem place_eq {r : Rec} (hr : r.ok) : placeR r.row = 64 * ((r.a : Int) - 64) + ((r.b.getD 64 : Nat) - 64 : Int) + (if r.dot then 0 else 4096) := by
  obtain ⟨rd, ra, rb, rp, rq⟩ := r
  obtain ⟨⟨h1, h1'⟩, h2, -, -⟩ := hr
  cases rb with
  | none =>
    simp only at h1 h1'
    show (if (63 : Int) < (ra : Int) - 64 then (ra : Int) - 64 else 64 * ((ra : Int) - 64)) + (if rd = true then (0 : Int) else 4096) = 64 * ((ra : Int) - 64) + (((64 : Nat) : Int) - 64) + (if rd = true then (0 : Int) else 4096)
    rw [if_neg (by omega)]; omega
  | some b =>
    obtain ⟨h3, h4⟩ := h2 b rfl
    simp only at h1 h1'
    show (if (63 : Int) < 64 * ((ra : Int) - 64) + ((b : Int) - 64) then 64 * ((ra : Int) - 64) + ((b : Int) - 64) else 64 * (64 * ((ra : Int) - 64) + ((b : Int) - 64))) + (if rd = true then (0 : Int) else 4096) = 64 * ((ra : Int) - 64) + ((b : Int) - 64) + (if rd = true then (0 : Int) else 4096)
    rw [if_pos (by omega)]
theorem nm_lt {r s : Rec} (hr : r.ok) (hs : s.ok) : r.nm < s.nm ↔ 64 * ((r.a : Int) - 64) + ((r.b.getD 64 : Nat) - 64 : Int) < 64 * ((s.a : Int) - 64) + ((s.b.getD 64 : Nat) - 64 : Int) := by
  obtain ⟨rd, ra, rb, rp, rq⟩ := r
  obtain ⟨sd, sa, sb, sp, sq⟩ := s
  obtain ⟨-, h2, -, -⟩ := hr
  obtain ⟨-, k2, -, -⟩ := hs
  show ra :: rb.toList < sa :: sb.toList ↔ _
  have rb' : rb.getD 64 ≤ 126 ∧ 64 ≤ rb.getD 64 := by
    cases rb with
    | none => decide
    | some b => have := h2 b rfl; exact ⟨Nat.le_of_lt_succ this.2, Nat.le_of_lt this.1⟩
  have sb' : sb.getD 64 ≤ 126 ∧ 64 ≤ sb.getD 64 := by
    cases sb with
    | none => decide
    | some b => have := k2 b rfl; exact ⟨Nat.le_of_lt_succ this.2, Nat.le_of_lt this.1⟩
  have e : rb.toList < sb.toList ↔ rb.getD 64 < sb.getD 64 := by
    cases rb with
    | none => cases sb with
      | none => exact ⟨fun h => absurd h (List.lt_irrefl _), fun h => absurd h (Nat.lt_irrefl _)⟩
      | some b => exact ⟨fun _ => (k2 b rfl).1, fun _ => List.nil_lt_cons _ _⟩
    | some b => cases sb with
      | none => exact ⟨fun h => absurd h (List.not_lt_nil _), fun h => absurd (Nat.lt_trans (h2 b rfl).1 h) (Nat.lt_irrefl _)⟩
      | some c =>
        show [b] < [c] ↔ b < c
        rw [List.cons_lt_cons_iff]
        exact ⟨fun h => h.elim id fun h => absurd h.2 (List.lt_irrefl _), .inl⟩
  show ra :: rb.toList < sa :: sb.toList ↔ 64 * ((ra : Int) - 64) + ((rb.getD 64 : Nat) - 64 : Int) < 64 * ((sa : Int) - 64) + ((sb.getD 64 : Nat) - 64 : Int)
  rw [List.cons_lt_cons_iff, e]
  generalize rb.getD 64 = x at rb' e
  generalize sb.getD 64 = y at sb' e
  clear e h2 k2
  omega
theorem pl_bnd {r : Rec} (hr : r.ok) : 0 < 64 * ((r.a : Int) - 64) + ((r.b.getD 64 : Nat) - 64 : Int) ∧ 64 * ((r.a : Int) - 64) + ((r.b.getD 64 : Nat) - 64 : Int) < 4096 := by
  obtain ⟨rd, ra, rb, rp, rq⟩ := r
  obtain ⟨⟨h1, h1'⟩, h2, -, -⟩ := hr
  have rb' : rb.getD 64 ≤ 126 ∧ 64 ≤ rb.getD 64 := by
    cases rb with
    | none => decide
    | some b => have := h2 b rfl; exact ⟨Nat.le_of_lt_succ this.2, Nat.le_of_lt this.1⟩
  simp only at h1 h1' ⊢
  clear h2
  omega
theorem key_lt {r s : Rec} (hr : r.ok) (hs : s.ok) : r.key < s.key ↔ placeR r.row < placeR s.row := by
  rw [place_eq hr, place_eq hs]
  have h := nm_lt hr hs
  have b1 := pl_bnd hr
  have b2 := pl_bnd hs
  have a1 : 46 < r.a := Nat.lt_trans (by decide) hr.1.1
  have a2 : 46 < s.a := Nat.lt_trans (by decide) hs.1.1
  have e1 : r.nm = r.a :: r.b.toList := rfl
  have e2 : s.nm = s.a :: s.b.toList := rfl
  generalize 64 * ((r.a : Int) - 64) + ((r.b.getD 64 : Nat) - 64 : Int) = x at h b1
  generalize 64 * ((s.a : Int) - 64) + ((s.b.getD 64 : Nat) - 64 : Int) = y at h b2
  show (if r.dot = true then [46] else []) ++ r.nm < (if s.dot = true then [46] else []) ++ s.nm ↔ x + (if r.dot = true then (0 : Int) else 4096) < y + (if s.dot = true then (0 : Int) else 4096)
  have ff : ¬ (false = true) := Bool.false_ne_true
  cases r.dot with
  | true => cases s.dot with
    | true =>
      rw [if_pos rfl, if_pos rfl, Int.add_zero, Int.add_zero, ← h]
      show 46 :: r.nm < 46 :: s.nm ↔ _
      rw [List.cons_lt_cons_iff]
      exact ⟨fun h => h.elim (fun h => absurd h (Nat.lt_irrefl _)) (·.2), fun h => .inr ⟨rfl, h⟩⟩
    | false =>
      rw [if_pos rfl, if_neg ff, if_pos rfl, if_neg ff, Int.add_zero, e2]
      show 46 :: r.nm < s.a :: s.b.toList ↔ _
      rw [List.cons_lt_cons_iff]
      exact ⟨fun _ => Int.lt_trans b1.2 (Int.lt_add_of_pos_left _ b2.1), fun _ => .inl a2⟩
  | false => cases s.dot with
    | true =>
      rw [if_neg ff, if_pos rfl, if_neg ff, if_pos rfl, Int.add_zero, e1]
      show r.a :: r.b.toList < 46 :: s.nm ↔ _
      rw [List.cons_lt_cons_iff]
      exact ⟨fun h => h.elim (fun h => absurd (Nat.lt_trans a1 h) (Nat.lt_irrefl _)) (fun h => absurd (h.1 ▸ a1) (Nat.lt_irrefl _)), fun h => absurd (Int.lt_trans (Int.lt_trans (Int.lt_add_of_pos_left _ b1.1) h) b2.2) (Int.lt_irrefl _)⟩
    | false =>
      rw [if_neg ff, if_neg ff]
      show r.nm < s.nm ↔ _
      rw [h]
      exact ⟨fun h => Int.add_lt_add_right h _, fun h => Int.lt_of_add_lt_add_right h⟩
theorem key_inj {r s : Rec} (hr : r.ok) (hs : s.ok) : r.key = s.key ↔ placeR r.row = placeR s.row := by
  have a := key_lt hr hs
  have b := key_lt hs hr
  constructor
  · intro e
    rw [e] at a b
    have := List.lt_irrefl s.key
    have h1 : ¬ placeR r.row < placeR s.row := fun h => this (a.mpr h)
    have h2 : ¬ placeR s.row < placeR r.row := fun h => this (b.mpr h)
    omega
  · intro e
    have h1 : ¬ r.key < s.key := fun h => by have := a.mp h; omega
    have h2 : ¬ s.key < r.key := fun h => by have := b.mp h; omega
    exact List.le_antisymm (List.not_lt.mp h2) (List.not_lt.mp h1)
theorem eq_of_asc {A B : List Int} (hA : A.Pairwise (· < ·)) (hB : B.Pairwise (· < ·)) (h : ∀ z, z ∈ A ↔ z ∈ B) : A = B := by
  have nA : A.Nodup := hA.imp fun h e => by omega
  have nB : B.Nodup := hB.imp fun h e => by omega
  refine ((List.perm_ext_iff_of_nodup nA nB).mpr h).eq_of_pairwise (le := fun a b => a < b) (fun a b _ _ h1 h2 => by omega) hA hB
end
section
open PySem.Sre PySem.Builtin.Re
theorem runFor_some {n : Nat} {m : Sre.M} (h : m.outcome.isSome = true) : m.runFor n = m := by
  cases n with
  | zero => rfl
  | succ n => unfold Sre.M.runFor; rw [if_pos h]
theorem runFor_add (a b : Nat) (m : Sre.M) : m.runFor (a + b) = (m.runFor a).runFor b := by
  induction a generalizing m with
  | zero => rw [Nat.zero_add]; rfl
  | succ a ih =>
    rw [Nat.succ_add]
    by_cases h : m.outcome.isSome = true
    · rw [runFor_some h, runFor_some h, runFor_some h]
    · conv => lhs; unfold Sre.M.runFor
      conv => rhs; arg 2; unfold Sre.M.runFor
      rw [if_neg h, if_neg h]; exact ih _
section
variable {M : Model} {A : Around} {E : Value → Shared → Prop} {s : Shared}
theorem wp_reDrive {Q : Sre.M → Shared → Prop} : ∀ (t n : Nat) (m : Sre.M), (m.runFor n).outcome.isSome = true → n ≤ 4 * (t + 1) → Q (m.runFor n) s → wpAny M A (reDrive (t + 1) m) Q E s := by
  intro t
  induction t with
  | zero =>
    intro n m h hn hQ
    have e : m.runFor 4 = m.runFor n := by
      rw [show 4 = n + (4 - n) by omega, runFor_add, runFor_some h]
    show wpAny M A (if (m.runFor 4).outcome.isSome then pure (m.runFor 4) else _) Q E s
    rw [e, if_pos h]; exact wpAny_pure hQ
  | succ t ih =>
    intro n m h hn hQ
    show wpAny M A (if (m.runFor 4).outcome.isSome then pure (m.runFor 4) else (do rule "sre.turn"; reDrive (t + 1) (m.runFor 4))) Q E s
    by_cases h4 : (m.runFor 4).outcome.isSome = true
    · have e : m.runFor 4 = m.runFor n := by
        by_cases hn4 : n ≤ 4
        · rw [show 4 = n + (4 - n) by omega, runFor_add, runFor_some h]
        · conv => rhs; rw [show n = 4 + (n - 4) by omega, runFor_add, runFor_some h4]
      rw [if_pos h4, e]; exact wpAny_pure hQ
    · have hn4 : ¬ n ≤ 4 := fun hle => h4 (by rw [show 4 = n + (4 - n) by omega, runFor_add, runFor_some h]; exact h)
      rw [if_neg h4]
      refine wpAny_bind (wpAny_rule ?_)
      have e : m.runFor n = (m.runFor 4).runFor (n - 4) := by rw [← runFor_add]; congr 1; omega
      refine ih (n - 4) _ (e ▸ h) (by omega) (e ▸ hQ)
theorem wp_rules {Q : PUnit → Shared → Prop} (l : List Nat) (c : Nat → Bool) (g : Nat → String) (h : Q PUnit.unit s) :
    wpAny M A (forIn l PUnit.unit fun i (_ : PUnit) => if c i = true then do rule (g i); pure (ForInStep.yield PUnit.unit) else pure (ForInStep.yield PUnit.unit)) Q E s := by
  induction l with
  | nil => exact wpAny_pure h
  | cons a l ih =>
    rw [List.forIn_cons]
    refine wpAny_bind ?_
    by_cases hc : c a = true
    · rw [if_pos hc]; exact wpAny_bind (wpAny_rule (wpAny_pure ih))
    · rw [if_neg hc]; exact wpAny_pure ih
theorem wp_reRunToEnd {Q : Option Sre.M → Shared → Prop} {m : Sre.M} (n : Nat) (hn : n ≤ 2 ^ 64) (h : (m.runFor n).outcome = some .matched ∧ Q (some (m.runFor n)) s ∨ (m.runFor n).outcome = some .failed ∧ Q none s) : wpAny M A (reRunToEnd m) Q E s := by
  have hs : (m.runFor n).outcome.isSome = true := by rcases h with h | h <;> rw [h.1] <;> rfl
  unfold reRunToEnd
  refine wpAny_bind (wp_reDrive (2 ^ 64 - 1) n m hs (by omega) ?_)
  refine wpAny_bind (wp_rules _ _ _ ?_)
  rcases h with h | h
  · rw [h.1]; exact wpAny_pure h.2
  · rw [h.1]; exact wpAny_pure h.2
end
theorem slot_search : Slot "re.Pattern" "search" "re.Pattern.search" :=
  .of (owner := "re.Pattern") (n := "search") (by rw [typeLookup_type, builtinLookup_eq_fast]; kernel_rfl) (by decide +kernel) (by decide +kernel) (by decide +kernel)
    (by first | exact .inl (by decide +kernel) | exact .inr (by decide +kernel)) (by rw [isSubtype_type]; kernel_rfl)
theorem entry_search : entryFor table "re.Pattern.search" = some Builtin.«re.Pattern.search» := entryFor_of_fast (by kernel_rfl)
theorem args_search (a b : Value) : argsOk "re.Pattern.search" ⟨[a, b], []⟩ := by unfold argsOk; kernel_rfl
theorem mty_search : typeOf (.builtin "re.Pattern.search") = pure (.type "method_descriptor") := by kernel_rfl
theorem pa_pattern : PlainAttrs "re.Pattern" := ⟨⟨"object.__getattribute__", by rw [typeLookup_type, builtinLookup_eq_fast]; kernel_rfl, by decide +kernel⟩, by rw [typeLookup_type, builtinLookup_eq_fast]; kernel_rfl⟩
/-- a pattern as the top left it: its code, no groups, of texts -/
structure PatAt (h : Heap) (p : Addr) (code : List Nat) : Prop where
  ex : ∃ o ct oc pat fl n, h.get? p = some o ∧ o.cls = .type "re.Pattern" ∧ o.dict = none ∧ o.data = .fields #[pat, fl, .int 0 0, .none, .none, .ref ct, .int 0 0] ∧ h.get? ct = some oc ∧ oc.data = .seq (code.map fun (c : Nat) => rawInt (c : Int)).toArray n
section
variable {prog : Program} {w : World} {A : Around} {E : Value → Shared → Prop} {s : Shared}
theorem PatAt.typeIs {p : Addr} {code : List Nat} (P : PatAt s.heap p code) : s.TypeIs (.ref p) "re.Pattern" := by
  obtain ⟨o, _, _, _, _, _, h1, h2, _⟩ := P.ex
  exact ⟨o, h1, h2⟩
theorem getMethod_search : ∀ {prog : Program} {w : World} {A : Around} {E : Value → Shared → Prop} {s : Shared} {p : Addr} {code : List Nat} {pl : Sem Bool} {Q : Value × List Value → Shared → Prop} (P : PatAt s.heap p code) (h : Q (.builtin "re.Pattern.search", [.ref p]) s), wpAny (model prog w) A (getMethod (.ref p) "search" pl) Q E s := by
  have skon : SkOn := .mk
  intro prog w A E s p code pl Q P h
  refine getMethod_builtin P.typeIs pa_pattern slot_search mty_search (fun a e => ?_) h
  cases e
  obtain ⟨o, _, _, _, _, _, h1, _, h3, _⟩ := P.ex
  exact ⟨o, h1, h3⟩
theorem wp_reRawItems {ct : Addr} {oc : Obj} {code : List Nat} {n : Nat} {Q : Array Int → Shared → Prop} (h : s.heap.get? ct = some oc) (hd : oc.data = .seq (code.map fun (c : Nat) => rawInt (c : Int)).toArray n) (hQ : Q (code.map fun (c : Nat) => (c : Int)).toArray s) :
    wpAny (model prog w) A (reRawItems (.ref ct)) Q E s := by
  unfold reRawItems
  refine wpAny_bind (wpAny_seqItems h hd (wpAny_pure ?_))
  have e : ((some (code.map fun (c : Nat) => rawInt (c : Int)).toArray).getD #[]).map reRawOf = (code.map fun (c : Nat) => (c : Int)).toArray := by
    simp [rawInt, reRawOf, Function.comp_def]
  rw [e]; exact hQ
theorem wp_reTarget : ∀ {prog : Program} {w : World} {A : Around} {E : Value → Shared → Prop} {s : Shared} {id f : String} {p : Addr} {code : List Nat} {v : Str} {t : Tok} {Q : ReTarget → Shared → Prop} (P : PatAt s.heap p code) (hn : reNamed id f ["string", "pos", "endpos"] 1 [.str v t] [] = pure [some (.str v t), none, none]) (hlen : v.length < 2 ^ 62) (h : Q { pattern := .ref p, string := .str v t, code := code.toArray, text := v.cps, kind := 0, groups := 0, pos := 0, lim := v.cps.size } s), wpAny (model prog w) A (reTarget id f ⟨[.ref p, .str v t], []⟩) Q E s := by
  have skon : SkOn := .mk
  intro prog w A E s id f p code v t Q P hn hlen h
  obtain ⟨o, ct, oc, pat, fl, n, h1, h2, h3, h4, h5, h6⟩ := P.ex
  unfold reTarget
  refine wpAny_bind (wpAny_of_eq hn ?_)
  refine wpAny_bind (wpAny_pure ?_)
  refine wpAny_bind (wpAny_pure ?_)
  refine wpAny_bind (wpAny_fieldsOf h1 h4 ?_)
  refine wpAny_bind (wpAny_of_eq (a := (v.cps, 0)) rfl ?_)
  show wpAny (model prog w) A (do
    reNoCollectionInside (Value.str v t) 0
    let d ← reRawItems (.ref ct)
    pure { pattern := Value.ref p, string := Value.str v t, code := d.map (fun x => x.toNat), text := v.cps, kind := 0, groups := 0, pos := min (0 : Int).toNat v.cps.size, lim := min ((2 ^ 63 - 1 : Int).toNat) v.cps.size }) Q E s
  refine wpAny_bind (wpAny_of_eq (a := ()) rfl ?_)
  refine wpAny_bind (wp_reRawItems h5 h6 (wpAny_pure ?_))
  have e1 : (code.map fun (c : Nat) => (c : Int)).toArray.map (fun x => x.toNat) = code.toArray := by
    simp [Function.comp_def]
  have e2 : min ((2 ^ 63 - 1 : Int).toNat) v.cps.size = v.cps.size := by
    have : v.cps.size < 2 ^ 62 := hlen
    have e : (2 ^ 63 - 1 : Int).toNat = 9223372036854775807 := by decide +kernel
    rw [e]; omega
  have e3 : min (0 : Int).toNat v.cps.size = 0 := by simp
  rw [e1, e2, e3]; exact h
/-- a search that finds nothing -/
theorem call_search_none {p : Addr} {code : List Nat} {v : Str} {t : Tok} {Q : Value → Shared → Prop} (n : Nat) (P : PatAt s.heap p code) (hlen : v.length < 2 ^ 62) (hn : n ≤ 2 ^ 64)
    (hm : ((Sre.forSearch code.toArray v.cps 0 0 v.cps.size false).runFor n).outcome = some .failed) (h : Q .none s) :
    wpAny (model prog w) A (call (.builtin "re.Pattern.search") [.ref p, .str v t]) Q E s := by
  refine wpAny_call_entry slot_search P.typeIs entry_search ?_ (args_search _ _)
  unfold Builtin.«re.Pattern.search»
  refine wpAny_bind (wp_reTarget P rfl hlen ?_)
  unfold reAnswer
  refine wpAny_bind (wp_reRunToEnd n hn (.inr ⟨hm, ?_⟩))
  exact wpAny_pure ⟨_, rfl, h⟩
/-- a search that finds: a new match -/
theorem call_search_some {p : Addr} {code : List Nat} {v : Str} {t : Tok} {Q : Value → Shared → Prop} (n : Nat) (P : PatAt s.heap p code) (hlen : v.length < 2 ^ 62) (hn : n ≤ 2 ^ 64)
    (hm : ((Sre.forSearch code.toArray v.cps 0 0 v.cps.size false).runFor n).outcome = some .matched)
    (h : ∀ o1 o2 : Obj, o1.cls = .type "tuple" → o1.isFreed = false → o2.cls = .type "re.Match" → o2.isFreed = false → o2.dict = none → Q (.ref (s.heap.push o1).objs.size) { s with heap := (s.heap.push o1).push o2 }) :
    wpAny (model prog w) A (call (.builtin "re.Pattern.search") [.ref p, .str v t]) Q E s := by
  refine wpAny_call_entry slot_search P.typeIs entry_search ?_ (args_search _ _)
  unfold Builtin.«re.Pattern.search»
  refine wpAny_bind (wp_reTarget P rfl hlen ?_)
  unfold reAnswer
  refine wpAny_bind (wp_reRunToEnd n hn (.inl ⟨hm, ?_⟩))
  generalize (Sre.forSearch code.toArray v.cps 0 0 v.cps.size false).runFor n = mm
  show wpAny (model prog w) A.in1 (do ret (← reNewMatch (.ref p) (.str v t) 0 0 v.cps.size mm)) _ E s
  refine wpAny_bind ?_
  unfold reNewMatch
  show wpAny (model prog w) A.in1 (do
     let tp ← newTuple (rawInt mm.start :: rawInt mm.handed :: [])
     newFields "re.Match" [.str v t, .ref p, rawInt (0 : Nat), rawInt (v.cps.size : Nat), rawInt mm.lastindex, tp]) _ E s
  refine wpAny_bind (wpAny_newObj_type ?_ (by size_fits))
  refine wpAny_newObj_type (wpAny_pure ⟨_, rfl, h _ _ rfl rfl rfl rfl rfl⟩) (by size_fits)
end
end
section
open PySem.Sre PySem.Builtin.Re
/-- no sign of the text is of the pattern's first set -/
noncomputable def Off (code : List Nat) (text : Array Nat) : Prop := ∀ c ∈ text.toList, ∀ seen, ∃ seen', inSet code.toArray c code.toArray.size 5 true seen = .ok (false, seen')
theorem admitted_off {code : List Nat} {m : Sre.M} (hc : m.code = code.toArray) (hl : m.lim = m.text.size) (ho : Off code m.text) : ∀ (fuel s : Nat) (seen : Sre.Seen), ∃ seen', m.admitted fuel s seen = .ok (none, seen') := by
  intro fuel
  induction fuel with
  | zero => intro s seen; exact ⟨seen, rfl⟩
  | succ f ih =>
    intro s seen
    unfold Sre.M.admitted
    by_cases hs : s ≥ m.lim
    · rw [if_pos hs]; exact ⟨seen, rfl⟩
    · rw [if_neg hs]
      have hlt : s < m.text.size := by omega
      obtain ⟨seen', e⟩ := ho (m.text.getD s 0) (by simp [Array.getD, hlt]) seen
      rw [hc, e]
      exact ih (s + 1) seen'
theorem say_fin {m : Sre.M} (h1 : m.outcome = none) (h2 : m.frames = []) : ((m.say false).runFor 1).outcome = some .failed := by
  unfold Sre.M.runFor Sre.M.runFor Sre.M.step Sre.M.say
  simp [h1, h2]
theorem search_off {code : List Nat} {text : Array Nat} (ho : Off code text) (hh : ops[code.toArray.getD 0 0]? = some .INFO) (h2 : code.toArray.getD 2 0 = 4) (must : Bool) (pos : Nat) :
    ((Sre.forSearch code.toArray text 0 pos text.size must).runFor 1).outcome = some .failed := by
  have key : ∀ m : Sre.M, m.code = code.toArray → m.lim = m.text.size → Off code m.text → m.outcome = none → m.frames = [] → ((m.attemptFrom pos true).runFor 1).outcome = some .failed := by
    intro m hc hl hoff h1 h3
    have hf : m.hasFirstSet = true := by unfold Sre.M.hasFirstSet; rw [hc, hh, h2]; rfl
    obtain ⟨seen', e⟩ := admitted_off hc hl hoff (m.lim + 1 - pos) pos m.seen
    unfold Sre.M.attemptFrom
    rw [hf, e]
    exact say_fin h1 h3
  unfold Sre.forSearch
  dsimp only
  split
  · exact say_fin rfl rfl
  · exact key _ rfl rfl ho rfl rfl
noncomputable def codeN : List Nat := [14,10,4,1,1,22,0,31,16,127,0,13,7,22,0,31,16,127,0,1]
noncomputable def codeV : List Nat := [14, 14, 4, 1, 1, 9, 4294966783, 0, 0, 2147483648, 0, 0, 0, 0, 0, 13, 11, 9, 4294966783, 0, 0, 2147483648, 0, 0, 0, 0, 0, 1]
theorem off_N {text : Array Nat} (h : ∀ c ∈ text.toList, 31 < c ∧ c ≠ 127) : Off codeN text := by
  intro c hc seen
  obtain ⟨h1, h2⟩ := h c hc
  refine ⟨((seen.add 22).add 16).add 0, ?_⟩
  show inSet codeN.toArray c 20 5 true seen = _
  have a1 : ((0 : Nat) ≤ c && c ≤ 31) = false := by simp; omega
  have a2 : (c == 127) = false := by simpa using h2
  have s1 : inSet codeN.toArray c 20 5 true seen = if ((0 : Nat) ≤ c && c ≤ 31) = true then .ok (true, seen.add 22) else if (c == 127) = true then .ok (true, (seen.add 22).add 16) else .ok (!true, ((seen.add 22).add 16).add 0) := rfl
  rw [s1, a1, a2]; rfl
theorem off_V {text : Array Nat} (h : ∀ c ∈ text.toList, (31 < c ∧ c < 127) ∨ c = 9) : Off codeV text := by
  intro c hc seen
  refine ⟨(seen.add 9).add 0, ?_⟩
  have s1 : inSet codeV.toArray c 28 5 true seen = if (decide (c < 256) && (codeV.toArray.getD (5 + (1 + c / 32)) 0).testBit (c % 32)) = true then .ok (true, seen.add 9) else .ok (!true, (seen.add 9).add 0) := rfl
  show inSet codeV.toArray c 28 5 true seen = _
  have a1 : (decide (c < 256) && (codeV.toArray.getD (5 + (1 + c / 32)) 0).testBit (c % 32)) = false := by
    have hall : ∀ k < 127, ((31 < k) ∨ k = 9) → (decide (k < 256) && (codeV.toArray.getD (5 + (1 + k / 32)) 0).testBit (k % 32)) = false := by decide +kernel
    rcases h c hc with h | h
    · exact hall c h.2 (.inl h.1)
    · exact hall c (by omega) (.inr h)
  rw [s1, a1]; rfl
/-- a letter and a feed: the value's pattern is met -/
theorem search_feed (a : Nat) (ha : a = 65 ∨ a = 97 ∨ a = 66 ∨ a = 98 ∨ a = 95 ∨ a = 126) : ((Sre.forSearch codeV.toArray #[a, 10] 0 0 2 false).runFor 8).outcome = some .matched := by
  rcases ha with rfl | rfl | rfl | rfl | rfl | rfl <;> rfl
theorem pat_N (w : World) {h : Heap} (X : (hd1.heap_1_39 w.params).In h) : PatAt h 202 codeN := by
  refine ⟨_, 201, _, _, _, _, X 202 _ rfl, rfl, rfl, rfl, X 201 _ rfl, rfl⟩
theorem pat_V (w : World) {h : Heap} (X : (hd1.heap_1_39 w.params).In h) : PatAt h 207 codeV := by
  refine ⟨_, 206, _, _, _, _, X 207 _ rfl, rfl, rfl, rfl, X 206 _ rfl, rfl⟩
end
section
theorem warm_B4 : PySem.Challenge.rw_ta0132_01.Holds → hd1.heap_1_39 = hd1.heap_1_39 := by
  k_fill
  intro _
  rfl
open PySem.Sre PySem.Builtin.Re
noncomputable def GoodSigns (b : Bool) (v : Str) : Prop := ∀ c ∈ v.cps.toList, (31 < c ∧ c < 127) ∨ (b = false ∧ c = 9)
theorem good_N {v : Str} (h : GoodSigns true v) : ∀ c ∈ v.cps.toList, 31 < c ∧ c ≠ 127 := fun c hc => by
  rcases h c hc with h | h
  · omega
  · exact absurd h.1 (by decide)
theorem good_V {b : Bool} {v : Str} (h : GoodSigns b v) : ∀ c ∈ v.cps.toList, (31 < c ∧ c < 127) ∨ c = 9 := fun c hc => by
  rcases h c hc with h | h
  · exact .inl h
  · exact .inr h.2
theorem search_N {prog : Program} {w w' : World} {A : Around} {E : Value → Shared → Prop} {s : Shared} {v : Str} {t : Tok} {Q : Value → Shared → Prop} (X : (hd1.heap_1_39 w.params).In s.heap) (hlen : v.length < 2 ^ 62) (hg : GoodSigns true v) (h : Q .none s) :
    wpAny (model prog w') A (call (.builtin "re.Pattern.search") [.ref 202, .str v t]) Q E s :=
  call_search_none 1 (pat_N w X) hlen (by decide) (search_off (off_N (good_N hg)) rfl rfl false 0) h
theorem search_V {prog : Program} {w w' : World} {A : Around} {E : Value → Shared → Prop} {s : Shared} {v : Str} {t : Tok} {b : Bool} {Q : Value → Shared → Prop} (X : (hd1.heap_1_39 w.params).In s.heap) (hlen : v.length < 2 ^ 62) (hg : GoodSigns b v) (h : Q .none s) :
    wpAny (model prog w') A (call (.builtin "re.Pattern.search") [.ref 207, .str v t]) Q E s :=
  call_search_none 1 (pat_V w X) hlen (by decide) (search_off (off_V (good_V hg)) rfl rfl false 0) h
theorem c_conv : ∀ (w : World) (x : Value) (v : Str) (t : Tok) (b : Bool) (news : Led) (hg : GoodSigns b v) (hl : v.length < 2 ^ 62), Con w 3 (call (.ref 237) [x, .str v t] [(Str.ofString "name", .bool b)]) news (fun r news' => news' = news ∧ r = .str v t) := by
  k_with_none
  k_with "getMethod ref" => (k_here; (with_reducible show wpAny _ _ (getMethod (Value.ref 202) _ _) _ _ _); k_dflt (refine' getMethod_search (code := codeN) ?k1 ?_); (case k1 => exact pat_N _ (Frag.In.keeps (by k_asm) (Fr.keep (by k_asm)))))
  k_with "getMethod ref" => (k_here; (with_reducible show wpAny _ _ (getMethod (Value.ref 207) _ _) _ _ _); k_dflt (refine' getMethod_search (code := codeV) ?k1 ?_); (case k1 => exact pat_V _ (Frag.In.keeps (by k_asm) (Fr.keep (by k_asm)))))
  k_with "call builtin:re.Pattern.search" => (k_here; k_dflt (first | refine' search_N ?k1 ?k2 ?k3 ?_ | refine' search_V ?k1 ?k2 ?k3 ?_); (case k1 => exact (Frag.In.keeps (by k_asm) (Fr.keep (by k_asm)))); (case k2 => first | assumption | omega); (case k3 => first | assumption | simp_all))
  have skon : SkOn := .mk
  intro w x v t b news hg hl
  unfold Con
  intro mean mg mb dp un gd cn cs a ccd cl outer A₀ base h₀ L m s Q E B F X N T hk hd hu hret
  refine wpAny_call ?_
  k_dflt (refine' code_def (binds := [(Str.ofString "self", x), (Str.ofString "value", .str v t), (Str.ofString "name", .bool b)]) ?k1 ?k2 ?k3 ?k4 ?k5 ?kA ?kF ?kK ?k6 ?k7 ?k8 ?k9 ?kB ?_ ?c2 ?c3 ?c4 ?c5; (case kA => exact rfl); (case kF => exact rfl); (case kK => first | assumption | exact rfl); (case k1 => k_asm); (case k2 => k_asm); (case k3 => k_asm); (case k4 => k_asm); (case k5 => k_asm); (case k6 => k_is); (case k7 => k_is); (case k8 => k_room); (case k9 => first | exact BindsTo.of_eq rfl | exact binds_K (by k_in) rfl (by k_is) rfl rfl rfl); (case c5 => decide); (case kB => exact locs rfl); (case c2 => exact rfl); (case c3 => exact rfl); (case c4 => exact rfl); k_whole; intro g1 L1 h1 FG1 F1 N1 B1 X1 T1; (try dsimp only); (try k_lift B1); (try k_fold))
  k_steps
  all_goals exact hret _ _ _ _ (by assumption) (by assumption) ⟨rfl, rfl⟩
end
section
theorem warm_T1 : PySem.Challenge.rw_ta0132_01.Holds → hd1.heap_1_39 = hd1.heap_1_39 := by
  k_fill
  intro _
  rfl
structure It where
  a : Addr
  k : Str
  tk : Tok
  v : Str
  tv : Tok
instance : Nonempty It := ⟨⟨0, Str.empty, 0, Str.empty, 0⟩⟩
noncomputable def It.obj (i : It) : Addr × Obj := (i.a, { cls := .type "tuple", data := .seq #[.str i.k i.tk, .str i.v i.tv] })
noncomputable def its (l : List It) : List Value := l.map fun i => Value.ref i.a
noncomputable abbrev TabF (P : Params) (x d l : Addr) (t : Tok) (n : Nat) (I : List It) (rest : Led) : Led :=
  (l, listOf (List.toArray (its I)) n) :: (x, instObj 338 d) :: (d, dictOf [⟨PyData.keyHash P (Str.ofString "_headers"), .str (Str.ofString "_headers") t, .ref l⟩] 1) :: rest
theorem kv2 {a b : Str} {x z u1 u2 : Option Value} {r : Str → Option Value} : (fun y => if y = a then x else if y = b then z else if y = a then u1 else if y = b then u2 else r y) = fun y => if y = a then x else if y = b then z else r y := by
  funext y
  by_cases h1 : y = a
  · simp [h1]
  · by_cases h2 : y = b <;> simp [h1, h2]
theorem kv0 {a b : Str} {r : Str → Option Value} (ha : r a = none) (hb : r b = none) : r = fun y => if y = a then none else if y = b then none else r y := by
  funext y
  by_cases h1 : y = a
  · simp [h1, ha]
  · by_cases h2 : y = b <;> simp [h1, h2, hb]
theorem take_snoc {α : Type} {l : List α} {i : Nat} {x : α} (h : l[i]? = some x) : l.take (i + 1) = l.take i ++ [x] := by
  rw [List.take_add_one, h]; rfl
theorem good_len {v : Str} (h : v.length ≤ 4) : v.length < 2 ^ 62 := Nat.lt_of_le_of_lt h (by decide)
theorem lower_signs {v : Str} (hg : GoodSigns true v) : ∀ c ∈ v.cps.toList, c < 128 := fun c hc => by
  rcases hg c hc with h | h
  · omega
  · exact absurd h.1 (by decide)
theorem good_lower {v : Str} (hg : GoodSigns true v) : GoodSigns true (Txt.lower v) := by
  rw [lower_ascii (lower_signs hg)]
  intro c hc
  simp only [Array.toList_map, List.mem_map] at hc
  obtain ⟨b, hb, rfl⟩ := hc
  rcases hg b hb with h | h
  · have : ∀ k < 127, 31 < k → 31 < lo1 k ∧ lo1 k < 127 := by decide +kernel
    exact .inl (this b h.2 h.1)
  · exact absurd h.1 (by decide)
/-- what is known of a table's rows -/
noncomputable def ItOk (i : It) : Prop := i.k.length ≤ 4 ∧ GoodSigns true i.k ∧ i.v.length ≤ 4 ∧ GoodSigns false i.v
noncomputable def keyHit (nm : Str) (i : It) : Bool := Txt.lower i.k == Txt.lower nm
noncomputable def gotten (I : List It) (nm : Str) : Value := match I.find? (keyHit nm) with
  | some i => .str i.v i.tv
  | none => .none
theorem gotten_none {I : List It} {nm : Str} (h : ∀ i ∈ I, keyHit nm i = false) : gotten I nm = .none := by
  unfold gotten
  rw [List.find?_eq_none.mpr fun i hi => by rw [h i hi]; decide]
theorem gotten_at {I : List It} {nm : Str} {k : Nat} {it : It} (hk : I[k]? = some it) (h0 : ∀ i ∈ I.take k, keyHit nm i = false) (h1 : keyHit nm it = true) : gotten I nm = .str it.v it.tv := by
  unfold gotten
  obtain ⟨hlt, he⟩ := List.getElem?_eq_some_iff.mp hk
  have e : I = I.take k ++ it :: I.drop (k + 1) := by rw [← he, ← List.drop_eq_getElem_cons hlt, List.take_append_drop]
  rw [e, List.find?_append, List.find?_eq_none.mpr fun i hi => by rw [h0 i hi]; decide]
  simp [h1]
theorem c_get : ∀ (w : World) (x d l : Addr) (t : Tok) (n : Nat) (I : List It) (rest : Led) (nm : Str) (tn : Tok) (hI : ∀ i ∈ I, i.obj ∈ rest) (hK : ∀ i ∈ I, ItOk i) (hnl : nm.length ≤ 4) (hg : GoodSigns true nm), Con w 6 (call (.ref 285) [.ref x, .str nm tn]) (TabF w.params x d l t n I rest) (fun r news' => news' = TabF w.params x d l t n I rest ∧ r = gotten I nm) := by
  k_with_none
  k_with "exec For" => (with_unfolding_all refine wpAny_For ?_ (by intro _; rfl))
  k_with "call ref" => (k_here; (with_reducible show wpAny _ _ (PySem.call (Value.ref 237) _ _) _ _ _); k_dflt (refine' c_conv _ _ _ _ _ _ ?p1 ?p2 _ _ _ _ _ _ _ _ _ _ _ _ _ _ _ _ _ _ _ _ ?k1 ?k2 ?k3 ?k4 ?k5 ?kK ?kd ?ku ?_; (case k1 => k_asm); (case k2 => k_asm); (case k3 => k_asm); (case k4 => k_asm); (case k5 => k_asm); (case kK => first | exact rfl | assumption); (case kd => k_room); (case ku => k_units); (case p1 => assumption); (case p2 => first | assumption | omega); intro _ _ _ _ _ _ H9); obtain ⟨e8, e9⟩ := H9; subst e9; subst e8; (try dsimp only); (try k_fold))
  k_with "assign Tuple cons ref" => (k_dflt (refine' asg2 ?k1 ?k2 ?k3 ?k4 ?k5 ?k6 ?k7 ?k8 ?k9 ?_; (case k1 => exact rfl); (case k2 => k_asm); (case k3 => k_asm); (case k4 => k_mem); (case k5 => exact rfl); (case k6 => exact rfl); (case k7 => exact rfl); (case k8 => exact rfl); (case k9 => exact rfl); k_whole); intro _ _ _ _; (try dsimp only); (try k_sweep))
  k_with "TurnJ ret" => dsimp only [TurnJ]
  have hold0 : HoldK "pyIter ref" := .mk
  have skon : SkOn := .mk
  intro w x d l t n I rest nm tn hI hK hnl hg
  unfold Con
  intro mean mg mb dp un gd cn cs a ccd cl outer A₀ base h₀ L m s Q E B F X N T hk hd hu hret
  refine wpAny_call ?_
  k_dflt (refine' code_def (binds := [(Str.ofString "self", .ref x), (Str.ofString "name", .str nm tn), (Str.ofString "default", .none)]) ?k1 ?k2 ?k3 ?k4 ?k5 ?kA ?kF ?kK ?k6 ?k7 ?k8 ?k9 ?kB ?_ ?c2 ?c3 ?c4 ?c5; (case kA => exact rfl); (case kF => exact rfl); (case kK => first | assumption | exact rfl); (case k1 => k_asm); (case k2 => k_asm); (case k3 => k_asm); (case k4 => k_asm); (case k5 => k_asm); (case k6 => k_is); (case k7 => k_is); (case k8 => k_room); (case k9 => first | exact BindsTo.of_eq rfl | exact binds_K (by k_in) rfl (by k_is) rfl rfl rfl); (case c5 => decide); (case kB => exact locs rfl); (case c2 => exact rfl); (case c3 => exact rfl); (case c4 => exact rfl); k_whole; intro g1 L1 h1 FG1 F1 N1 B1 X1 T1; (try dsimp only); (try k_lift B1); (try k_fold))
  have hgl := good_lower hg
  k_steps
  refine Hold.to ?_
  rename Fr g1 L1 _ _ => F2
  rename News g1 L1 _ _ => N2
  rename (Txt.lower nm).length ≤ _ => hlen
  refine iterL (items := its I) (fun i m' news' => news' = TabF w.params x d l t n I rest ∧ (∃ u1 u2, m' = fun y => if y = Str.ofString "v" then u1 else if y = Str.ofString "k" then u2 else if y = Str.ofString "name" then some (Value.str (Txt.lower nm) (s.toks + 3)) else List.lookup y [(Str.ofString "self", Value.ref x), (Str.ofString "name", Value.str nm tn), (Str.ofString "default", Value.none)].reverse) ∧ ∀ it ∈ I.take i, keyHit nm it = false) (by rfl) (by constructor) F2 N2 ?hl ?h0 ?turn ?done
  case hl =>
    intro i m' news' h' hq9; obtain ⟨rfl, _⟩ := hq9; intro F' N'
    exact ⟨_, (N' _ (.head _)).1, rfl, _, rfl⟩
  case h0 =>
    exact ⟨rfl, ⟨none, none, kv0 rfl rfl⟩, by simp⟩
  case turn =>
    intro i v m₁ news₁ h₁ tk₁ Ia oi hv hq9; obtain ⟨rfl, ⟨u1, u2, rfl⟩, hno⟩ := hq9; intro hne F3 N3
    obtain ⟨it, hit, rfl⟩ : ∃ it, I[i]? = some it ∧ v = .ref it.a := by
      simp only [its, List.getElem?_map, Option.map_eq_some_iff] at hv
      obtain ⟨it, h1, h2⟩ := hv
      exact ⟨it, h1, h2.symm⟩
    have hmem := hI it (List.mem_of_getElem? hit)
    unfold It.obj at hmem
    obtain ⟨hkl, hkg, hvl, hvg⟩ := hK it (List.mem_of_getElem? hit)
    clear F2 N2
    k_steps
    · rename _ = true => hh
      exact hret _ _ _ _ (by assumption) (cb_drop (by assumption) fun _ => List.mem_cons_of_mem _) ⟨rfl, (gotten_at hit hno hh).symm⟩
    · rename _ = false => hh
      refine (exI4 ⟨rfl, by assumption, by assumption, hne, rfl, ⟨_, _, kv2⟩, ?_⟩)
      rw [take_snoc hit]
      intro it' h'
      rcases List.mem_append.mp h' with h' | h'
      · exact hno it' h'
      · cases List.mem_singleton.mp h'; exact hh
  case done =>
    intro m' news' h' tk' hq9; obtain ⟨rfl, ⟨u1, u2, rfl⟩, hno⟩ := hq9; intro F' N'
    have hno' : ∀ i ∈ I, keyHit nm i = false := by
      rw [show (its I).length = I.length by simp [its], List.take_length] at hno
      exact hno
    k_steps
    exact hret _ _ _ _ (by assumption) (by assumption) ⟨rfl, (gotten_none hno').symm⟩
end
section
section
variable {prog : Program} {w : World} {A : Around} {E : Value → Shared → Prop} {s : Shared} {h₀ : Heap} {L b : Addr} {news : Led} {Q : Value → Shared → Prop} {k v : Str} {t tk tv : Tok} {n : Nat}
theorem mod_kv (N : News h₀ L s.heap news) (hb : (b, ({ cls := .type "tuple", data := .seq #[.str k tk, .str v tv] n } : Obj)) ∈ news) (hk : k.length ≤ 4) (hv : v.length ≤ 4) (h : ∀ t' k', Q (.str (k ++ Str.ofString ": " ++ v) t') { s with toks := k' }) :
    wpAny (model prog w) A (binaryOp .Mod (.str (Str.ofString "%s: %s") t) (.ref b)) Q E s := by
  refine KPt.mod_tuple N hb (by kpt_eq) (by kpt_run) ?_
  intro t' k'
  exact h t' k'
end
end
section
theorem warm_S1 : PySem.Challenge.rw_ta0132_01.Holds → hd1.heap_1_39 = hd1.heap_1_39 := by
  k_fill
  intro _
  rfl
noncomputable def lineS (i : It) : Str := i.k ++ Str.ofString ": " ++ i.v
theorem line_len {i : It} (h : ItOk i) : (lineS i).length ≤ 10 := by
  have h1 := h.1
  have h2 := h.2.2.1
  unfold lineS
  show (i.k.cps ++ _ ++ i.v.cps).size ≤ 10
  have h1' : i.k.cps.size ≤ 4 := h1
  have h2' : i.v.cps.size ≤ 4 := h2
  have h3 : (Str.ofString ": ").cps.size = 2 := rfl
  simp only [Array.size_append, h3]
  omega
theorem lines_weight : ∀ I : List It, (∀ i ∈ I, ItOk i) → ((I.map fun i => (lineS i).length).sum) ≤ 10 * I.length
  | [], _ => by simp
  | i :: I, h => by
    have := lines_weight I fun j hj => h j (.tail _ hj)
    have := line_len (h i (.head _))
    simp only [List.map_cons, List.sum_cons, List.length_cons]
    omega
theorem c_str : ∀ (w : World) (x d l : Addr) (t : Tok) (n : Nat) (I : List It) (rest : Led) (hI : ∀ i ∈ I, i.obj ∈ rest) (hK : ∀ i ∈ I, ItOk i) (hIn : I.length ≤ 64), Con w 6 (call (.ref 314) [.ref x]) (TabF w.params x d l t n I rest) (fun r news' => news' = TabF w.params x d l t n I rest ∧ ∃ t', r = .str (Txt.join (Str.ofString "\r\n") (I.map lineS ++ [Str.ofString "", Str.ofString ""])) t') := by
  k_with_none
  k_with "exec For" => (with_unfolding_all refine wpAny_For ?_ (by intro _; rfl))
  k_with "storeName" => (k_here; (with_reducible show wpAny _ _ (storeName (envOfC _ _ _ _ _) _ _) _ _ _); k_dflt (refine' st_cell ?k1 ?k2 ?k3 ?k4 ?k5 ?k6 ?k7 ?_; (case k1 => k_asm); (case k2 => k_asm); (case k3 => exact rfl); (case k4 => exact rfl); (case k5 => exact rfl); (case k6 => k_updF); (case k7 => k_asm); k_whole); intro _ _ _ _ _; (try dsimp only))
  k_with "setItem ref ref ref" => (k_here; k_dflt (refine' store_all ?k1 ?k2 ?k3 ?k4 ?k5 ?k6 ?k7 ?k8 ?_; (case k1 => k_asm); (case k2 => k_asm); (case k3 => exact rfl); (case k4 => k_updF); (case k5 => k_mem); (case k6 => first | (simp only [beq_eq_false_iff_ne]; (try dsimp only); (refine neN ?_); omega) | (simp only [beq_eq_false_iff_ne]; assumption)); (case k7 => assumption); (case k8 => assumption); k_whole); intro _ _ _ _; (try dsimp only))
  k_with "call builtin:list.append" => (k_here; (with_reducible show wpAny _ _ (call (Value.builtin _) [Value.ref _, _]) _ _ _); k_dflt (refine' append_K ?k1 ?k2 ?k3 ?_ ?z; (case k1 => k_asm); (case k2 => k_asm); (case k3 => k_upd); (case z => first | size_fits | exact Nat.le_trans (by with_reducible assumption) (by decide)); k_whole); intro _ _ _; (try k_sweep))
  k_with "exec Assign cons ListComp" => (k_here; k_dflt (refine' compA ?c0 ?c1 ?c2 ?c3 ?_; (case c0 => exact rfl); (case c1 => with_unfolding_all rfl); (case c2 => exact rfl); (case c3 => decide)))
  k_with "binaryOp Mod str ref" => (k_here; k_dflt (refine' mod_kv ?N ?b ?c ?d ?_; (case N => k_asm); (case b => k_mem); (case c => assumption); (case d => assumption); k_whole); intro _ _)
  k_with "binaryOp Add ref ref" => (k_here; k_dflt (refine' add_all ?F ?N ?a0 ?b ?z ?_; (case F => k_asm); (case N => k_asm); (case a0 => k_mem); (case b => k_mem); (case z => (simp only [List.length_cons, List.length_nil]; refine Nat.le_trans (m := 66) (by omega) (by decide))); k_whole); intro _ _ _ _ l9; (try k_lt l9); (try k_sweep))
  have hold0 : HoldK "pyIter ref" := .mk
  have hold1 : HoldK "+Comp" := .mk
  have hold2 : HoldK "call builtin:str.join" := .mk
  have skon : SkOn := .mk
  intro w x d l t n I rest hI hK hIn
  unfold Con
  intro mean mg mb dp un gd cn cs a ccd cl outer A₀ base h₀ L m s Q E B F X N T hk hd hu hret
  refine wpAny_call ?_
  k_dflt (refine' code_def (binds := [(Str.ofString "self", .ref x)]) ?k1 ?k2 ?k3 ?k4 ?k5 ?kA ?kF ?kK ?k6 ?k7 ?k8 ?k9 ?kB ?_ ?c2 ?c3 ?c4 ?c5; (case kA => exact rfl); (case kF => exact rfl); (case kK => first | assumption | exact rfl); (case k1 => k_asm); (case k2 => k_asm); (case k3 => k_asm); (case k4 => k_asm); (case k5 => k_asm); (case k6 => k_is); (case k7 => k_is); (case k8 => k_room); (case k9 => first | exact BindsTo.of_eq rfl | exact binds_K (by k_in) rfl (by k_is) rfl rfl rfl); (case c5 => decide); (case kB => exact locs rfl); (case c2 => exact rfl); (case c3 => exact rfl); (case c4 => exact rfl); k_whole; intro g1 L1 h1 FG1 F1 N1 B1 X1 T1; (try dsimp only); (try k_lift B1); (try k_fold))
  k_steps
  refine compGoE (items := its I) (fun i ys news' => news' = TabF w.params x d l t n I rest ∧ StrsAre ys ((I.take i).map lineS)) (by rfl) ?hsz (by decide) (by rfl) (by rfl) F1 N1 ?hl ?h0 ?turn ?fin
  case hsz => simp only [its, List.length_map]; exact Nat.le_trans hIn (by decide)
  case hl =>
    intro i ys news' h' hq9; obtain ⟨rfl, _⟩ := hq9; intro _ N'
    exact ⟨_, (N' _ (.head _)).1, rfl, _, rfl⟩
  case h0 => exact ⟨rfl, .nil⟩
  case turn =>
    intro i v ys news₁ h₁ tk₁ Ia oI C oC D m₂ E' hv hq9; obtain ⟨rfl, hys⟩ := hq9; intro hC hm2 F3 N3 hoff hne
    obtain ⟨it, hit, rfl⟩ : ∃ it, I[i]? = some it ∧ v = .ref it.a := by
      simp only [its, List.getElem?_map, Option.map_eq_some_iff] at hv
      obtain ⟨it, h1, h2⟩ := hv
      exact ⟨it, h1, h2.symm⟩
    have hmem := hI it (List.mem_of_getElem? hit)
    unfold It.obj at hmem
    obtain ⟨hkl, hkg, hvl, hvg⟩ := hK it (List.mem_of_getElem? hit)
    clear F1 N1
    dsimp only [CTree]
    k_steps
    refine (exI3 ⟨rfl, F3, N3, hoff, rfl, ?_⟩)
    rw [take_snoc hit, List.map_append]
    exact StrsAre.append' hys (.cons _ _ .nil)
  case fin =>
    intro D h' tk' news' ys F' N' hD hq9; obtain ⟨rfl, hys⟩ := hq9
    rw [show (its I).length = I.length by simp [its], List.take_length] at hys
    have hyl : ys.length ≤ 64 := by rw [hys.length, List.length_map]; exact hIn
    k_steps
    refine Hold.to ?_
    rename News g1 L1 _ _ => N9
    refine join_listW (ys := I.map lineS ++ [Str.ofString "", Str.ofString ""]) (N9.isList (.head _)) ?sa (by decide) ?wt ?_
    case sa => exact StrsAre.append' hys (.cons _ _ (.cons _ _ .nil))
    case wt =>
      have := lines_weight I hK
      simp only [List.map_append, List.sum_append, List.length_append, List.length_map, List.map_map, Function.comp_def, List.map_cons, List.map_nil, List.sum_cons, List.sum_nil, List.length_cons, List.length_nil]
      have h0 : (Str.ofString "").length = 0 := rfl
      omega
    intro t8 k8
    (try dsimp only); (try k_fold)
    k_steps
    exact hret _ _ _ _ (by assumption) (cb_drop (by assumption) fun _ hp => .tail _ (.tail _ (.tail _ hp))) ⟨rfl, _, rfl⟩
end
section
theorem warm_T2 : PySem.Challenge.rw_ta0132_01.Holds → hd1.heap_1_39 = hd1.heap_1_39 := by
  k_fill
  intro _
  rfl
theorem c_del : ∀ (w : World) (x d l : Addr) (t : Tok) (n : Nat) (I : List It) (rest : Led) (nm : Str) (tn : Tok) (hI : ∀ i ∈ I, i.obj ∈ rest) (hK : ∀ i ∈ I, ItOk i) (hIn : I.length ≤ 64) (hlr : ∀ p ∈ rest, p.1 ≠ l) (hxl : @Ne Nat x l) (hdl : @Ne Nat d l) (hnl : nm.length ≤ 4) (hg : GoodSigns true nm), Con w 6 (call (.ref 256) [.ref x, .str nm tn]) (TabF w.params x d l t n I rest) (fun r news' => (∃ n', news' = TabF w.params x d l t n' (I.filter fun i => !keyHit nm i) rest) ∧ r = .none) := by
  k_with_none
  k_with "exec For" => (with_unfolding_all refine wpAny_For ?_ (by intro _; rfl))
  k_with "storeName" => (k_here; (with_reducible show wpAny _ _ (storeName (envOfC _ _ _ _ _) _ _) _ _ _); k_dflt (refine' st_cell ?k1 ?k2 ?k3 ?k4 ?k5 ?k6 ?k7 ?_; (case k1 => k_asm); (case k2 => k_asm); (case k3 => exact rfl); (case k4 => exact rfl); (case k5 => exact rfl); (case k6 => k_updF); (case k7 => k_asm); k_whole); intro _ _ _ _ _; (try dsimp only))
  k_with "setItem ref ref ref" => (k_here; k_dflt (refine' store_all ?k1 ?k2 ?k3 ?k4 ?k5 ?k6 ?k7 ?k8 ?_; (case k1 => k_asm); (case k2 => k_asm); (case k3 => exact rfl); (case k4 => k_updF); (case k5 => k_mem); (case k6 => first | (simp only [beq_eq_false_iff_ne]; (try dsimp only); (refine neN ?_); omega) | (simp only [beq_eq_false_iff_ne]; assumption)); (case k7 => assumption); (case k8 => assumption); k_whole); intro _ _ _ _; (try dsimp only))
  k_with "call builtin:list.append" => (k_here; (with_reducible show wpAny _ _ (call (Value.builtin _) [Value.ref _, _]) _ _ _); k_dflt (refine' append_K ?k1 ?k2 ?k3 ?_ ?z; (case k1 => k_asm); (case k2 => k_asm); (case k3 => k_upd); (case z => first | size_fits | exact Nat.le_trans (by with_reducible assumption) (by decide)); k_whole); intro _ _ _; (try k_sweep))
  k_with "exec Assign cons ListComp" => (k_here; k_dflt (refine' compA ?c0 ?c1 ?c2 ?c3 ?_; (case c0 => exact rfl); (case c1 => with_unfolding_all rfl); (case c2 => exact rfl); (case c3 => decide)))
  k_with "call ref" => (k_here; (with_reducible show wpAny _ _ (PySem.call (Value.ref 237) _ _) _ _ _); k_dflt (refine' c_conv _ _ _ _ _ _ ?p1 ?p2 _ _ _ _ _ _ _ _ _ _ _ _ _ _ _ _ _ _ _ _ ?k1 ?k2 ?k3 ?k4 ?k5 ?kK ?kd ?ku ?_; (case k1 => k_asm); (case k2 => k_asm); (case k3 => k_asm); (case k4 => k_asm); (case k5 => k_asm); (case kK => first | exact rfl | assumption); (case kd => k_room); (case ku => k_units); (case p1 => assumption); (case p2 => first | assumption | omega); intro _ _ _ _ _ _ H9); obtain ⟨e8, e9⟩ := H9; subst e9; subst e8; (try dsimp only); (try k_fold))
  have hold0 : HoldK "pyIter ref" := .mk
  have hold1 : HoldK "+Comp" := .mk
  have skon : SkOn := .mk
  intro w x d l t n I rest nm tn hI hK hIn hlr hxl hdl hnl hg
  unfold Con
  intro mean mg mb dp un gd cn cs a ccd cl outer A₀ base h₀ L m s Q E B F X N T hk hd hu hret
  refine wpAny_call ?_
  k_dflt (refine' code_defC (binds := [(Str.ofString "self", .ref x), (Str.ofString "name", .str nm tn)]) ?k1 ?k2 ?k3 ?k4 ?k5 ?kA ?kF ?kK ?k6 ?k7 ?k8 ?k9 ?kB ?kD ?_ ?c2 ?c3 ?c4; (case kA => exact rfl); (case kF => exact rfl); (case kK => first | assumption | exact rfl); (case k1 => k_asm); (case k2 => k_asm); (case k3 => k_asm); (case k4 => k_asm); (case k5 => k_asm); (case k6 => k_is); (case k7 => k_is); (case k8 => k_room); (case k9 => first | exact BindsTo.of_eq rfl | exact binds_K (by k_in) rfl (by k_is) rfl rfl rfl); (case kB => exact rfl); (case kD => decide +kernel); (case c2 => exact rfl); (case c3 => exact rfl); (case c4 => exact rfl); k_whole; intro g1 L1 h1 tk1 cells1 FG1 F1 N1 Y1 B1 X1 T1 l1; (try k_lt l1); k_cells Y1; (try simp only [List.cons_append, List.nil_append] at N1); (try dsimp only); (try k_lift B1); (try k_fold))
  have hgl := good_lower hg
  k_steps
  rename_i oc hc9 hcell F2 N2
  rename (Txt.lower nm).length ≤ _ => hlen
  refine compGoE (items := its I) (fun i ys news' => news' = (L1 + 1, oc) :: TabF w.params x d l t n I rest ∧ ys = its ((I.take i).filter fun i => !keyHit nm i)) (by rfl) ?hsz (by decide) (by rfl) (by rfl) F2 N2 ?hl ?h0 ?turn ?fin
  case hsz => simp only [its, List.length_map]; exact Nat.le_trans hIn (by decide)
  case hl =>
    intro i ys news' h' hq9; obtain ⟨rfl, _⟩ := hq9; intro _ N'
    exact ⟨_, (N' _ (.tail _ (.head _))).1, rfl, _, rfl⟩
  case h0 => exact ⟨rfl, rfl⟩
  case turn =>
    intro i v ys news₁ h₁ tk₁ Ia oI C oC D m₂ E' hv hq9; obtain ⟨rfl, hys⟩ := hq9; intro hC hm2 F3 N3 hoff hne
    obtain ⟨it, hit, rfl⟩ : ∃ it, I[i]? = some it ∧ v = .ref it.a := by
      simp only [its, List.getElem?_map, Option.map_eq_some_iff] at hv
      obtain ⟨it, h1, h2⟩ := hv
      exact ⟨it, h1, h2.symm⟩
    have hmem := hI it (List.mem_of_getElem? hit)
    unfold It.obj at hmem
    obtain ⟨hkl, hkg, hvl, hvg⟩ := hK it (List.mem_of_getElem? hit)
    clear F2 N2
    dsimp only [CTree]
    k_steps
    · rename _ = true => hh
      have hkf : keyHit nm it = false := by
        unfold keyHit; cases hq : (Txt.lower it.k == Txt.lower nm) with
        | false => rfl
        | true => simp [bne, hq] at hh
      refine (exI3 ⟨rfl, F3, N3, hoff, rfl, ?_⟩)
      rw [take_snoc hit, List.filter_append, hys]
      simp [its, hkf]
    · rename _ = false => hh
      have hkf : keyHit nm it = true := by
        unfold keyHit; cases hq : (Txt.lower it.k == Txt.lower nm) with
        | true => rfl
        | false => simp [bne, hq] at hh
      refine (exI3 ⟨rfl, F3, N3, hoff, rfl, ?_⟩)
      rw [take_snoc hit, List.filter_append, hys]
      simp [its, hkf]
  case fin =>
    intro D h' tk' news' ys F' N' hD hq9; obtain ⟨rfl, rfl⟩ := hq9
    rw [show (its I).length = I.length by simp [its], List.take_length] at N'
    have hy : (its I).toArray.size ≤ 1000 := by simp only [its, List.size_toArray, List.length_map]; omega
    have hy2 : (its (I.filter fun i => !keyHit nm i)).toArray.size ≤ 1000 := by simp only [its, List.size_toArray, List.length_map]; have := List.length_filter_le (fun i => !keyHit nm i) I; omega
    have hlD : @Ne Nat l D := fun e => hD (l, _) (.tail _ (.head _)) e
    k_steps
    exact hret _ _ _ _ (by assumption) (cb_drop (by assumption) fun _ hp => List.mem_cons_of_mem _ (List.mem_cons_of_mem _ hp)) ⟨⟨_, rfl⟩, rfl⟩
end
section
theorem warm_T3 : PySem.Challenge.rw_ta0132_01.Holds → hd1.heap_1_39 = hd1.heap_1_39 := by
  k_fill
  intro _
  rfl
theorem delItem_own {M : Model} {A : Around} {E : Value → Shared → Prop} {s : Shared} {K : Frag} {x C L f : Addr} {h₀ : Heap} {m : Str → Option Value} {ox : Obj} {od : Option Obj} {i : Value} {Q : Unit → Shared → Prop} (F : Fr h₀ L s.heap m) (X₀ : K.In h₀) (I : InstAt s.heap x ox C od) (hq : noSeq K C = true) (hs : findIn K (.ref C) "__delitem__" = some (some (.ref f))) (hf : isFn K (.ref f) = true)
    (h : wpAny M A (call (.ref f) [.ref x, i]) (fun _ s' => Q () s') E s) : wpAny M A (delItem (.ref x) i) Q E s := by
  have X := X₀.keeps F.keep
  unfold delItem sequenceKey
  refine wpAny_holding (wpAny_bind (wpAny_bind (I.type.here ?_)))
  refine wpAny_bind ((anyM_none X hq).here ?_)
  rw [if_pos (show (!false) = true from rfl)]
  exact wpAny_pure (wpAny_bind (special_fn X I hs (beq_iff_eq.mp hf) (wpAny_mono h (fun _ _ z => wpAny_pure z) fun _ _ z => z)))
/-- the table behind a deed -/
noncomputable def TabPost (P : Params) (x d l : Addr) (t : Tok) (I : List It) (rest : Led) (news' : Led) : Prop :=
  ∃ n' rest', news' = TabF P x d l t n' I rest' ∧ (∀ p ∈ rest, p ∈ rest') ∧ (∀ i ∈ I, i.obj ∈ rest') ∧ (∀ p ∈ rest', p.1 ≠ l)
theorem its_snoc (I : List It) (i : It) : (its I).toArray.push (.ref i.a) = (its (I ++ [i])).toArray := by simp [its]
theorem its_size {I : List It} (h : I.length ≤ 64) : (its I).toArray.size ≤ 1000 := by simp only [its, List.size_toArray, List.length_map]; omega
theorem filter_len {I : List It} {p : It → Bool} (h : I.length ≤ 64) : (I.filter p).length ≤ 64 := Nat.le_trans (List.length_filter_le p I) h
theorem post_snoc {P : Params} {x d l D : Addr} {t tn tv : Tok} {n9 : Nat} {F : List It} {rest : Led} {nm vl : Str} (hI : ∀ i ∈ F, i.obj ∈ rest) (hlr : ∀ p ∈ rest, p.1 ≠ l) (hD : @LT.lt Nat _ l D) :
    TabPost P x d l t (F ++ [⟨D, nm, tn, vl, tv⟩]) rest (TabF P x d l t n9 (F ++ [⟨D, nm, tn, vl, tv⟩]) ((⟨D, nm, tn, vl, tv⟩ : It).obj :: rest)) := by
  refine ⟨n9, _, rfl, fun p hp => .tail _ hp, ?_, ?_⟩
  · intro i hi
    rcases List.mem_append.mp hi with hi | hi
    · exact .tail _ (hI i hi)
    · cases List.mem_singleton.mp hi; exact .head _
  · intro p hp
    rcases List.mem_cons.mp hp with rfl | hp
    · exact Nat.ne_of_gt hD
    · exact hlr p hp
theorem news_snoc {P : Params} {x d l D L : Addr} {t tn tv : Tok} {n9 : Nat} {F : List It} {rest : Led} {nm vl : Str} {h₀ h : Heap}
    (N : News h₀ L h ((D, { cls := .type "tuple", data := .seq #[.str nm tn, .str vl tv] }) :: (l, listOf ((its F).toArray.push (.ref D)) n9) :: (x, instObj 338 d) :: (d, dictOf [⟨PyData.keyHash P (Str.ofString "_headers"), .str (Str.ofString "_headers") t, .ref l⟩] 1) :: rest)) :
    News h₀ L h (TabF P x d l t n9 (F ++ [⟨D, nm, tn, vl, tv⟩]) ((⟨D, nm, tn, vl, tv⟩ : It).obj :: rest)) := by
  rw [its_snoc F ⟨D, nm, tn, vl, tv⟩] at N
  refine fun p hp => N p ((?_ : ∀ p ∈ _, p ∈ _) p hp)
  unfold TabF It.obj
  repeat' first | (refine List.forall_mem_cons.mpr ⟨by k_mem, ?_⟩) | exact fun p hp => by repeat' first | exact hp | apply List.mem_cons_of_mem
theorem c_set : ∀ (w : World) (x d l : Addr) (t : Tok) (n : Nat) (I : List It) (rest : Led) (nm : Str) (tn : Tok) (vl : Str) (tv : Tok) (hI : ∀ i ∈ I, i.obj ∈ rest) (hK : ∀ i ∈ I, ItOk i) (hIn : I.length ≤ 64) (hlr : ∀ p ∈ rest, p.1 ≠ l) (hxl : @Ne Nat x l) (hdl : @Ne Nat d l) (hnl : nm.length ≤ 4) (hg : GoodSigns true nm) (hvl : vl.length ≤ 4) (hvg : GoodSigns false vl), Con w 8 (call (.ref 251) [.ref x, .str nm tn, .str vl tv]) (TabF w.params x d l t n I rest) (fun r news' => r = .none ∧ ∃ D, TabPost w.params x d l t ((I.filter fun i => !keyHit nm i) ++ [⟨D, nm, tn, vl, tv⟩]) rest news') := by
  k_with_none
  k_with "exec For" => (with_unfolding_all refine wpAny_For ?_ (by intro _; rfl))
  k_with "storeName" => (k_here; (with_reducible show wpAny _ _ (storeName (envOfC _ _ _ _ _) _ _) _ _ _); k_dflt (refine' st_cell ?k1 ?k2 ?k3 ?k4 ?k5 ?k6 ?k7 ?_; (case k1 => k_asm); (case k2 => k_asm); (case k3 => exact rfl); (case k4 => exact rfl); (case k5 => exact rfl); (case k6 => k_updF); (case k7 => k_asm); k_whole); intro _ _ _ _ _; (try dsimp only))
  k_with "setItem ref ref ref" => (k_here; k_dflt (refine' store_all ?k1 ?k2 ?k3 ?k4 ?k5 ?k6 ?k7 ?k8 ?_; (case k1 => k_asm); (case k2 => k_asm); (case k3 => exact rfl); (case k4 => k_updF); (case k5 => k_mem); (case k6 => first | (simp only [beq_eq_false_iff_ne]; (try dsimp only); (refine neN ?_); omega) | (simp only [beq_eq_false_iff_ne]; assumption)); (case k7 => assumption); (case k8 => assumption); k_whole); intro _ _ _ _; (try dsimp only))
  k_with "call builtin:list.append" => (k_here; (with_reducible show wpAny _ _ (call (Value.builtin _) [Value.ref _, _]) _ _ _); k_dflt (refine' append_K ?k1 ?k2 ?k3 ?_ ?z; (case k1 => k_asm); (case k2 => k_asm); (case k3 => k_upd); (case z => first | size_fits | exact Nat.le_trans (by with_reducible assumption) (by decide)); k_whole); intro _ _ _; (try k_sweep))
  k_with "exec Assign cons ListComp" => (k_here; k_dflt (refine' compA ?c0 ?c1 ?c2 ?c3 ?_; (case c0 => exact rfl); (case c1 => with_unfolding_all rfl); (case c2 => exact rfl); (case c3 => decide)))
  k_with "delItem ref" => (k_here; (with_reducible show wpAny _ _ (delItem (Value.ref _) _) _ _ _); k_dflt (refine' delItem_own ?F ?X ?I ?hQ ?hS ?hF ?_; (case F => k_asm); (case X => k_asm); (case I => k_inst); (case hS => k_is); (case hF => k_is); (case hQ => k_is); k_whole))
  have hold0 : HoldK "pyIter ref" := .mk
  have hold1 : HoldK "+Comp" := .mk
  have hold2 : HoldA 237 := .mk
  have hold3 : HoldA 256 := .mk
  have skon : SkOn := .mk
  intro w x d l t n I rest nm tn vl tv hI hK hIn hlr hxl hdl hnl hg hvl hvg
  unfold Con
  intro mean mg mb dp un gd cn cs a ccd cl outer A₀ base h₀ L m s Q E B F X N T hk hd hu hret
  have hnl2 := good_len hnl
  have hvl2 := good_len hvl
  have hfs := its_size (filter_len (p := fun i => !keyHit nm i) hIn)
  refine wpAny_call ?_
  k_dflt (refine' code_def (binds := [(Str.ofString "self", .ref x), (Str.ofString "name", .str nm tn), (Str.ofString "val", .str vl tv)]) ?k1 ?k2 ?k3 ?k4 ?k5 ?kA ?kF ?kK ?k6 ?k7 ?k8 ?k9 ?kB ?_ ?c2 ?c3 ?c4 ?c5; (case kA => exact rfl); (case kF => exact rfl); (case kK => first | assumption | exact rfl); (case k1 => k_asm); (case k2 => k_asm); (case k3 => k_asm); (case k4 => k_asm); (case k5 => k_asm); (case k6 => k_is); (case k7 => k_is); (case k8 => k_room); (case k9 => first | exact BindsTo.of_eq rfl | exact binds_K (by k_in) rfl (by k_is) rfl rfl rfl); (case c5 => decide); (case kB => exact locs rfl); (case c2 => exact rfl); (case c3 => exact rfl); (case c4 => exact rfl); k_whole; intro g1 L1 h1 FG1 F1 N1 B1 X1 T1; (try dsimp only); (try k_lift B1); (try k_fold))
  k_steps
  refine Hold.to ?_; k_dflt (refine' c_del _ _ _ _ _ _ _ _ _ _ ?p1 ?p2 ?p3 ?p4 ?p5 ?p6 ?p7 ?p8 _ _ _ _ _ _ _ _ _ _ _ _ _ _ _ _ _ _ _ _ ?k1 ?k2 ?k3 ?k4 ?k5 ?kK ?kd ?ku ?_; (case k1 => k_asm); (case k2 => k_asm); (case k3 => k_asm); (case k4 => k_asm); (case k5 => k_asm); (case kK => first | exact rfl | assumption); (case kd => k_room); (case ku => k_units); (case p1 => assumption); (case p2 => assumption); (case p3 => assumption); (case p4 => assumption); (case p5 => assumption); (case p6 => assumption); (case p7 => assumption); (case p8 => assumption); intro r9 n9 h9 tk9 F9 N9 H9)
  obtain ⟨⟨n8, rfl⟩, rfl⟩ := H9
  (try dsimp only); (try k_fold)
  k_steps
  refine Hold.to ?_; k_dflt (refine' c_conv _ _ _ _ _ _ hg hnl2 _ _ _ _ _ _ _ _ _ _ _ _ _ _ _ _ _ _ _ _ ?k1 ?k2 ?k3 ?k4 ?k5 ?kK ?kd ?ku ?_; (case k1 => k_asm); (case k2 => k_asm); (case k3 => k_asm); (case k4 => k_asm); (case k5 => k_asm); (case kK => first | exact rfl | assumption); (case kd => k_room); (case ku => k_units); intro r9 n9 h9 tk9 F9 N9 H9)
  obtain ⟨rfl, rfl⟩ := H9
  (try dsimp only); (try k_fold)
  k_steps
  refine Hold.to ?_; k_dflt (refine' c_conv _ _ _ _ _ _ hvg hvl2 _ _ _ _ _ _ _ _ _ _ _ _ _ _ _ _ _ _ _ _ ?k1 ?k2 ?k3 ?k4 ?k5 ?kK ?kd ?ku ?_; (case k1 => k_asm); (case k2 => k_asm); (case k3 => k_asm); (case k4 => k_asm); (case k5 => k_asm); (case kK => first | exact rfl | assumption); (case kd => k_room); (case ku => k_units); intro r9 n9 h9 tk9 F9 N9 H9)
  obtain ⟨rfl, rfl⟩ := H9
  (try dsimp only); (try k_fold)
  k_steps
  rename News h₀ L _ _ => N9
  rename _ ∧ _ ∧ _ ∧ AllLt _ rest => hlt
  exact hret _ _ _ _ (by assumption) (news_snoc N9) ⟨rfl, _, post_snoc (fun i hi => hI i (List.mem_filter.mp hi).1) hlr hlt.1⟩
end
section
theorem warm_S2 : PySem.Challenge.rw_ta0132_01.Holds → hd1.heap_1_39 = hd1.heap_1_39 := by
  k_fill
  intro _
  rfl
theorem slice_all {prog : Program} {w : World} {A : Around} {E : Value → Shared → Prop} {s : Shared} {h₀ : Heap} {L l : Addr} {m : Str → Option Value} {news : Led} {Q : Value → Shared → Prop} {value slice : PySem.Expr} {vs : List Value} {n : Nat} (F : Fr h₀ L s.heap m) (N : News h₀ L s.heap news) (hl : (l, listOf vs.toArray n) ∈ news)
    (h : ∀ D h', Fr h₀ L h' m → News h₀ L h' ((D, listOf vs.toArray 0) :: news) → (∀ p ∈ news, p.1 < D) → Q (.ref D) { s with heap := h' })
    (hs : subscripted slice false (.ref l) (.ref s.heap.objs.size) = operate [.ref s.heap.objs.size, .ref l] (getItem (.ref l) (.ref s.heap.objs.size))) (ht : ∀ r, letTemporaryGo value (.ref l) r = pure ()) (hz : vs.toArray.size ≤ sizeLine) :
    wpAny (model prog w) A (subscriptTail value slice (.ref l) (.ref s.heap.objs.size)) Q E { s with heap := s.heap.push { cls := .type "slice", data := .fields #[.none, .none, .none] } } :=
  kmk_slice_lit F N (N.isList hl) IsPart.none IsPart.none (by rw [slicePick_all]) h hs ht hz
theorem c_items : ∀ (w : World) (x d l : Addr) (t : Tok) (n : Nat) (I : List It) (rest : Led) (hIn : I.length ≤ 64), Con w 3 (call (.ref 302) [.ref x]) (TabF w.params x d l t n I rest) (fun r news' => ∃ D n', r = .ref D ∧ news' = (D, listOf (its I).toArray n') :: TabF w.params x d l t n I rest) := by
  k_with_none
  k_with "subscriptTail Name Slice ref ref" => (k_here; k_dflt (refine' slice_all ?F ?N ?l ?_ ?s ?t ?z; (case F => k_asm); (case N => k_asm); (case l => k_mem); (case s => with_unfolding_all rfl); (case t => kmk_pure); (case z => exact Nat.le_trans (by assumption) (by decide))); intro _ _ _ _ l9; (try k_lt l9); (try k_sweep))
  have skon : SkOn := .mk
  intro w x d l t n I rest hIn
  unfold Con
  intro mean mg mb dp un gd cn cs a ccd cl outer A₀ base h₀ L m s Q E B F X N T hk hd hu hret
  have hsz := its_size hIn
  refine wpAny_call ?_
  k_dflt (refine' code_def (binds := [(Str.ofString "self", .ref x)]) ?k1 ?k2 ?k3 ?k4 ?k5 ?kA ?kF ?kK ?k6 ?k7 ?k8 ?k9 ?kB ?_ ?c2 ?c3 ?c4 ?c5; (case kA => exact rfl); (case kF => exact rfl); (case kK => first | assumption | exact rfl); (case k1 => k_asm); (case k2 => k_asm); (case k3 => k_asm); (case k4 => k_asm); (case k5 => k_asm); (case k6 => k_is); (case k7 => k_is); (case k8 => k_room); (case k9 => first | exact BindsTo.of_eq rfl | exact binds_K (by k_in) rfl (by k_is) rfl rfl rfl); (case c5 => decide); (case kB => exact locs rfl); (case c2 => exact rfl); (case c3 => exact rfl); (case c4 => exact rfl); k_whole; intro g1 L1 h1 FG1 F1 N1 B1 X1 T1; (try dsimp only); (try k_lift B1); (try k_fold))
  k_steps
  exact hret _ _ _ _ (by assumption) (by assumption) (exI2 ⟨rfl, rfl⟩)
end
section
theorem warm_G6 : PySem.Challenge.rw_ta0132_01.Holds → hd1.heap_1_39 = hd1.heap_1_39 := by
  k_fill
  intro _
  rfl
open PySem.Builtin.Str
/-- the letters of names and values -/
noncomputable def letN : List Nat := [65, 97, 66, 98, 95, 126]
noncomputable def escM (b : Nat) : List Nat := if b = 38 then [38, 97, 109, 112, 59] else if b = 60 then [38, 108, 116, 59] else if b = 34 then [38, 113, 117, 111, 116, 59] else if b = 9 then [38, 35, 120, 57, 59] else [b]
noncomputable def escS (a b : Nat) : Str := ⟨(a :: escM b).toArray⟩
noncomputable def occ0 (v : Str) (k : String) : Bool := (occurrences v (Str.ofString k) 0 v.length 1).isEmpty
theorem esc38 : ∀ a ∈ letN, occ0 ⟨#[a, 38]⟩ "&" = false ∧ Txt.replace ⟨#[a, 38]⟩ (Str.ofString "&") (Str.ofString "&amp;") = escS a 38 ∧ occ0 (escS a 38) "<" = true ∧ occ0 (escS a 38) "\"" = true ∧ occ0 (escS a 38) "\t" = true ∧ occ0 (escS a 38) "\n" = true ∧ occ0 (escS a 38) "\r" = true := by decide +kernel
theorem esc60 : ∀ a ∈ letN, occ0 ⟨#[a, 60]⟩ "&" = true ∧ occ0 ⟨#[a, 60]⟩ "<" = false ∧ Txt.replace ⟨#[a, 60]⟩ (Str.ofString "<") (Str.ofString "&lt;") = escS a 60 ∧ occ0 (escS a 60) "\"" = true ∧ occ0 (escS a 60) "\t" = true ∧ occ0 (escS a 60) "\n" = true ∧ occ0 (escS a 60) "\r" = true := by decide +kernel
theorem esc34 : ∀ a ∈ letN, occ0 ⟨#[a, 34]⟩ "&" = true ∧ occ0 ⟨#[a, 34]⟩ "<" = true ∧ occ0 ⟨#[a, 34]⟩ "\"" = false ∧ Txt.replace ⟨#[a, 34]⟩ (Str.ofString "\"") (Str.ofString "&quot;") = escS a 34 ∧ occ0 (escS a 34) "\t" = true ∧ occ0 (escS a 34) "\n" = true ∧ occ0 (escS a 34) "\r" = true := by decide +kernel
theorem esc9 : ∀ a ∈ letN, occ0 ⟨#[a, 9]⟩ "&" = true ∧ occ0 ⟨#[a, 9]⟩ "<" = true ∧ occ0 ⟨#[a, 9]⟩ "\"" = true ∧ occ0 ⟨#[a, 9]⟩ "\t" = false ∧ Txt.replace ⟨#[a, 9]⟩ (Str.ofString "\t") (Str.ofString "&#x9;") = escS a 9 ∧ occ0 (escS a 9) "\n" = true ∧ occ0 (escS a 9) "\r" = true := by decide +kernel
theorem esc0 : ∀ a ∈ letN, ∀ b ∈ [62, 46], occ0 ⟨#[a, b]⟩ "&" = true ∧ occ0 ⟨#[a, b]⟩ "<" = true ∧ occ0 ⟨#[a, b]⟩ "\"" = true ∧ occ0 ⟨#[a, b]⟩ "\t" = true ∧ occ0 ⟨#[a, b]⟩ "\n" = true ∧ occ0 ⟨#[a, b]⟩ "\r" = true := by decide +kernel
theorem gen_toks {M : Model} {A : Around} {c : Sem Flow} {Q : Flow → Shared → Prop} {E : Value → Shared → Prop} {h : Heap} {g : Array GenState} {d : Drawn} {os : OsState} {n : Nat} (H : ∀ tk, 0 < tk → wpAny M A c Q E ⟨h, g, d, tk, os⟩) : wpAny M A c Q E ⟨h, g, d, n + 1, os⟩ := H _ (Nat.succ_pos _)
theorem txt_replace {prog : Program} {w : World} {A : Around} {E : Value → Shared → Prop} {s : Shared} {x y z r : Str} {t u v : Tok} {Q : Value → Shared → Prop} (hu : @Ne Nat u 0) (hv : @Ne Nat v 0) (huv : @Ne Nat u v) (hyz : (y == z) = false) (hx : x.length ≤ 64) (hz : z.length ≤ 14) (hr : Txt.replace x y z = r)
    (hq : ∀ t' k, Q (.str r t') { s with toks := k }) : wpAny (model prog w) A (call (.builtin "str.replace") [.str x t, .str y u, .str z v]) Q E s := SC.replaceW hu hv huv hyz (Nat.le_trans hx (by decide)) hz (by rw [hr]; exact hq)
theorem occ_if {P R : Prop} {v : Str} {k : String} (h : occ0 v k = true) (hr : R) : if (!(occurrences v (Str.ofString k) 0 v.length 1).isEmpty) = true then P else R := by
  have h' : (occurrences v (Str.ofString k) 0 v.length 1).isEmpty = true := h
  rw [h', if_neg (by decide)]; exact hr
theorem occ_if2 : ∀ {P R : Prop} {v : Str} {k : String} (h : occ0 v k = false) (hp : P), if (!(occurrences v (Str.ofString k) 0 v.length 1).isEmpty) = true then P else R := by
  have skon : SkOn := .mk
  intro P R v k h hp
  have h' : (occurrences v (Str.ofString k) 0 v.length 1).isEmpty = false := h
  rw [h', if_pos (by decide)]; exact hp
theorem c_esc : ∀ (w : World) (ca cb : Nat) (tv : Tok) (news : Led) (ha : ca ∈ letN) (hb : cb ∈ [38, 60, 34, 9, 62, 46]), Con w 5 (call (.ref 168) [.str ⟨#[ca, cb]⟩ tv]) news (fun r news' => ∃ t, r = .str (escS ca cb) t ∧ news' = news) := by
  k_with_none
  k_with "exec Try" => (refine wpAny_Try_except ?_)
  k_with "execs cons" => (k_here; (with_reducible refine gen_toks ?_); intro _ _)
  k_with "call builtin:str.replace" => (k_here; k_dflt (refine' txt_replace ?u ?v ?uv ?yz ?x ?z ?r ?_; (case u => (try dsimp only); omega); (case v => (try dsimp only); omega); (case uv => (try dsimp only); omega); (case yz => decide); (case x => assumption); (case z => decide); (case r => assumption)); intro _ _; (try dsimp only))
  k_with "ite" => (first | refine occ_if (by assumption) ?_ | refine occ_if2 (by assumption) ?_)
  have skon : SkOn := .mk
  intro w ca cb tv news ha hb
  unfold Con
  intro mean mg mb dp un gd cn cs a ccd cl outer A₀ base h₀ L m s Q E B F X N T hk hd hu hret
  refine wpAny_call ?_
  k_dflt (refine' code_def (binds := [(Str.ofString "text", .str ⟨#[ca, cb]⟩ tv)]) ?k1 ?k2 ?k3 ?k4 ?k5 ?kA ?kF ?kK ?k6 ?k7 ?k8 ?k9 ?kB ?_ ?c2 ?c3 ?c4 ?c5; (case kA => exact rfl); (case kF => exact rfl); (case kK => first | assumption | exact rfl); (case k1 => k_asm); (case k2 => k_asm); (case k3 => k_asm); (case k4 => k_asm); (case k5 => k_asm); (case k6 => k_is); (case k7 => k_is); (case k8 => k_room); (case k9 => first | exact BindsTo.of_eq rfl | exact binds_K (by k_in) rfl (by k_is) rfl rfl rfl); (case c5 => decide); (case kB => exact locs rfl); (case c2 => exact rfl); (case c3 => exact rfl); (case c4 => exact rfl); k_whole; intro g1 L1 h1 FG1 F1 N1 B1 X1 T1; (try dsimp only); (try k_lift B1); (try k_fold))
  have hsl : (⟨#[ca, cb]⟩ : Str).length ≤ 64 := Nat.le_of_ble_eq_true rfl
  have hfin : ∀ {t k h}, Fr h₀ L h m → News h₀ L h news → Q (.str (escS ca cb) t) ⟨h, s.gens, s.drawn, k, s.os⟩ := fun F' N' => hret _ _ _ _ F' N' ⟨_, rfl, rfl⟩
  simp only [List.mem_cons, List.not_mem_nil, or_false] at hb
  rcases hb with rfl | rfl | rfl | rfl | hb
  · obtain ⟨e1, e2, e3, e4, e5, e6, e7⟩ := esc38 ca ha
    k_steps
    exact hfin (by assumption) (by assumption)
  · obtain ⟨e1, e2, e3, e4, e5, e6, e7⟩ := esc60 ca ha
    k_steps
    exact hfin (by assumption) (by assumption)
  · obtain ⟨e1, e2, e3, e4, e5, e6, e7⟩ := esc34 ca ha
    k_steps
    exact hfin (by assumption) (by assumption)
  · obtain ⟨e1, e2, e3, e4, e5, e6, e7⟩ := esc9 ca ha
    k_steps
    exact hfin (by assumption) (by assumption)
  · have hb2 : cb ∈ [62, 46] := by simpa using hb
    obtain ⟨e1, e2, e3, e4, e5, e6⟩ := esc0 ca ha cb hb2
    have ee : (⟨#[ca, cb]⟩ : Str) = escS ca cb := by
      rcases hb with rfl | rfl <;> rfl
    k_steps
    rw [ee]
    exact hfin (by assumption) (by assumption)
end
section
noncomputable def numZ (l : List Nat) : Int := l.foldl (fun n c => 64 * n + ((c % 64 : Nat) : Int)) 0
theorem numZ_snoc (l : List Nat) (c : Nat) : numZ (l ++ [c]) = 64 * numZ l + ((c % 64 : Nat) : Int) := by
  unfold numZ; rw [List.foldl_append]; rfl
theorem numZ_nonneg (l : List Nat) : 0 ≤ numZ l := by
  suffices h : ∀ (l : List Nat) (n : Int), 0 ≤ n → 0 ≤ l.foldl (fun n c => 64 * n + ((c % 64 : Nat) : Int)) n from h l 0 (by omega)
  intro l
  induction l with
  | nil => exact fun n h => h
  | cons c l ih => exact fun n h => ih _ (by show 0 ≤ 64 * n + ((c % 64 : Nat) : Int); omega)
noncomputable def WordOk (w : List Nat) : Prop := ∃ pre c, w = pre ++ [c] ∧ (∀ x ∈ pre, 64 ≤ x ∧ x < 128) ∧ c < 64 ∧ (∀ x, pre.head? = some x → 64 < x) ∧ pre.length ≤ 8
/-- the words of an escaped value -/
noncomputable def valW (p q : Nat) : List (List Nat) := if q = 38 then [[p, 38], [97, 109, 112, 59]] else if q = 60 then [[p, 38], [108, 116, 59]] else if q = 34 then [[p, 38], [113, 117, 111, 116, 59]] else if q = 9 then [[p, 38], [35], [120, 57], [59]] else [[p, q]]
noncomputable def markI (v : Int) : List Int := if v.fmod 64 = 38 then [v - v.fmod 64 + 38, numZ [97, 109, 112, 59]] else if v.fmod 64 = 60 then [v - v.fmod 64 + 38, numZ [108, 116, 59]] else if v.fmod 64 = 34 then [v - v.fmod 64 + 38, numZ [113, 117, 111, 116, 59]] else if v.fmod 64 = 9 then [v - v.fmod 64 + 38, numZ [35], numZ [120, 57], numZ [59]] else [v]
noncomputable def headW (r : Rec) : List (List Nat) := (if r.dot then [[46], [46]] else []) ++ [r.nm ++ [58], [32], [r.p, r.q], [13], [10]]
noncomputable def attrW (first : Bool) (r : Rec) : List (List Nat) := (if first then [] else [[32]]) ++ (if r.dot then [[46]] else []) ++ [r.nm ++ [61], [34]] ++ valW r.p r.q ++ [[34]]
noncomputable def attrsW : List Rec → List (List Nat)
  | [] => []
  | r :: ss => attrW true r ++ (ss.map (attrW false)).flatten
noncomputable def mailW (rs ss : List Rec) : List (List Nat) := (rs.map headW).flatten ++ [[13], [10], [60], if rs = [] then [109, 62] else [109, 32]] ++ attrsW ss ++ (if rs = [] then [] else [[62]]) ++ [[60], [47], [109, 62]]
noncomputable def attrI (first : Bool) (r : Row) : List Int := (if first then [] else [32]) ++ ((if r.1 then [46] else []) ++ [64 * r.2.1 + 61, 34] ++ markI r.2.2 ++ [34])
noncomputable def attrsI : List Row → List Int
  | [] => []
  | r :: ss => attrI true r ++ (ss.map (attrI false)).flatten
/-- what _law_mail answers, of its rows and of the named ones in their order -/
noncomputable def mailI (rows qs : List Row) : List Int := (rows.map rowI).flatten ++ [13, 10, 60, if rows = [] then 2942 else 2912] ++ attrsI qs ++ (if rows = [] then [] else [62]) ++ [60, 47, 2942]
noncomputable def lineQ (r : Rec) : List Nat := (if r.dot then [46, 46] else []) ++ r.nm ++ [58, 32, r.p, r.q, 13, 10]
noncomputable def attrC (r : Rec) : List Nat := 32 :: r.key ++ [61, 34] ++ (r.p :: escM r.q) ++ [34]
noncomputable def tagC (ss : List Rec) : List Nat := [60, 109] ++ (ss.map attrC).flatten ++ [62] ++ [60, 47, 109, 62]
noncomputable def textQ (rs ss : List Rec) : List Nat := (rs.map lineQ).flatten ++ [13, 10] ++ tagC ss
theorem valW_flat (p q : Nat) : (valW p q).flatten = p :: escM q := by
  unfold valW escM
  split
  · rfl
  split
  · rfl
  split
  · rfl
  split
  · rfl
  · rfl
theorem headW_flat (r : Rec) : (headW r).flatten = lineQ r := by
  unfold headW lineQ
  cases r.dot <;> simp
theorem attrW_flat (b : Bool) (r : Rec) : (attrW b r).flatten = (if b then [] else [32]) ++ (r.key ++ [61, 34] ++ (r.p :: escM r.q) ++ [34]) := by
  unfold attrW Rec.key
  simp only [List.flatten_append, valW_flat]
  cases b <;> cases r.dot <;> simp
theorem flat_map {α : Type} (f : α → List (List Nat)) (g : α → List Nat) (h : ∀ x, (f x).flatten = g x) (l : List α) : ((l.map f).flatten).flatten = (l.map g).flatten := by
  induction l with
  | nil => rfl
  | cons a l ih => simp only [List.map_cons, List.flatten_cons, List.flatten_append, h, ih]
theorem text_words (rs ss : List Rec) (h : rs = [] ↔ ss = []) : textQ rs ss = (mailW rs ss).flatten := by
  unfold textQ mailW tagC
  simp only [List.flatten_append, flat_map headW lineQ headW_flat]
  cases ss with
  | nil =>
    rw [h.mpr rfl]; rfl
  | cons r ss =>
    have hr : rs ≠ [] := fun e => by cases h.mp e
    rw [if_neg hr, if_neg hr]
    have e : ∀ l : List Rec, ((l.map (attrW false)).flatten).flatten = (l.map attrC).flatten := flat_map _ _ fun x => by rw [attrW_flat]; simp [attrC]
    simp only [attrsW, List.flatten_append, e, attrW_flat, List.map_cons, List.flatten_cons, attrC]
    simp
noncomputable def QOk (q : Nat) : Prop := q ∈ [38, 60, 34, 9, 62, 46]
theorem nm_words {r : Rec} (h : r.ok) (x : Nat) (hx : x < 64) : WordOk (r.nm ++ [x]) := by
  obtain ⟨h1, h2, -, -⟩ := h
  unfold Let at h1 h2
  refine ⟨r.nm, x, rfl, ?_, hx, ?_, ?_⟩
  · intro y hy
    rcases List.mem_cons.mp hy with rfl | hy
    · omega
    · have := h2 y (by simpa using hy)
      omega
  · intro y hy
    cases hy
    omega
  · show (r.b.toList).length + 1 ≤ 8
    cases r.b <;> simp
theorem one_word {c : Nat} (h : c < 64) : WordOk [c] := ⟨[], c, rfl, (fun _ h => nomatch h), h, (fun _ h => nomatch h), Nat.zero_le _⟩
theorem two_word {p c : Nat} (hp : Let p) (h : c < 64) : WordOk [p, c] := ⟨[p], c, rfl, (fun x hx => by cases List.mem_singleton.mp hx; exact ⟨Nat.le_of_lt hp.1, by have := hp.2; omega⟩), h, (fun x hx => by cases hx; exact hp.1), by simp⟩
theorem lit_word {w : List Nat} (h : (w.dropLast.all (fun x => decide (64 < x) && decide (x < 128)) && (match w.getLast? with | some c => decide (c < 64) | none => false) && decide (w.length ≤ 9)) = true) : WordOk w := by
  simp only [Bool.and_eq_true, List.all_eq_true, decide_eq_true_eq] at h
  obtain ⟨⟨h1, h2⟩, h3⟩ := h
  cases hw : w.getLast? with
  | none => rw [hw] at h2; cases h2
  | some c =>
    rw [hw] at h2
    simp only [decide_eq_true_eq] at h2
    refine ⟨w.dropLast, c, ?_, fun x hx => by have := h1 x hx; omega, h2, fun x hx => (h1 x (List.mem_of_head? hx)).1, ?_⟩
    · obtain ⟨ys, rfl⟩ := List.getLast?_eq_some_iff.mp hw
      simp
    · rw [List.length_dropLast]; omega
theorem valW_ok {p q : Nat} (hp : Let p) (hq : q < 64) : ∀ w ∈ valW p q, WordOk w := by
  unfold valW
  intro w
  have h38 := two_word hp (c := 38) (by omega)
  have hpq := two_word hp hq
  split
  · intro h; simp only [List.mem_cons, List.not_mem_nil, or_false] at h
    rcases h with rfl | rfl
    · exact h38
    · exact lit_word (by decide)
  split
  · intro h; simp only [List.mem_cons, List.not_mem_nil, or_false] at h
    rcases h with rfl | rfl
    · exact h38
    · exact lit_word (by decide)
  split
  · intro h; simp only [List.mem_cons, List.not_mem_nil, or_false] at h
    rcases h with rfl | rfl
    · exact h38
    · exact lit_word (by decide)
  split
  · intro h; simp only [List.mem_cons, List.not_mem_nil, or_false] at h
    rcases h with rfl | rfl | rfl | rfl
    · exact h38
    · exact lit_word (by decide)
    · exact lit_word (by decide)
    · exact lit_word (by decide)
  · intro h; cases List.mem_singleton.mp h; exact hpq
theorem mem3 {α : Type} {w a : α} {P : α → Prop} {l : List α} (ha : P a) (hl : ∀ w ∈ l, P w) : ∀ w ∈ a :: l, P w := fun w hw => by
  rcases List.mem_cons.mp hw with rfl | hw
  · exact ha
  · exact hl w hw
theorem memA {α : Type} {P : α → Prop} {l k : List α} (ha : ∀ w ∈ l, P w) (hl : ∀ w ∈ k, P w) : ∀ w ∈ l ++ k, P w := fun w hw => by
  rcases List.mem_append.mp hw with hw | hw
  · exact ha w hw
  · exact hl w hw
theorem memN {α : Type} {P : α → Prop} : ∀ w ∈ ([] : List α), P w := fun _ h => nomatch h
theorem memF {α β : Type} {P : β → Prop} {f : α → List β} {l : List α} (h : ∀ x ∈ l, ∀ w ∈ f x, P w) : ∀ w ∈ (l.map f).flatten, P w := fun w hw => by
  obtain ⟨k, hk, hw⟩ := List.mem_flatten.mp hw
  obtain ⟨x, hx, rfl⟩ := List.mem_map.mp hk
  exact h x hx w hw
theorem memI {α : Type} {P : α → Prop} {c : Prop} [Decidable c] {l k : List α} (ha : ∀ w ∈ l, P w) (hl : ∀ w ∈ k, P w) : ∀ w ∈ (if c then l else k), P w := by
  split
  · exact ha
  · exact hl
theorem headW_ok {r : Rec} (h : r.ok) : ∀ w ∈ headW r, WordOk w :=
  memA (memI (mem3 (w := []) (one_word (by omega)) (mem3 (w := []) (one_word (by omega)) memN)) memN) (mem3 (w := []) (nm_words h 58 (by omega)) (mem3 (w := []) (one_word (by omega)) (mem3 (w := []) (two_word h.2.2.1 h.2.2.2) (mem3 (w := []) (one_word (by omega)) (mem3 (w := []) (one_word (by omega)) memN)))))
theorem attrW_ok {r : Rec} (h : r.ok) (b : Bool) : ∀ w ∈ attrW b r, WordOk w :=
  memA (memA (memA (memA (memI memN (mem3 (w := []) (one_word (by omega)) memN)) (memI (mem3 (w := []) (one_word (by omega)) memN) memN)) (mem3 (w := []) (nm_words h 61 (by omega)) (mem3 (w := []) (one_word (by omega)) memN))) (valW_ok h.2.2.1 h.2.2.2)) (mem3 (w := []) (one_word (by omega)) memN)
theorem attrsW_ok : ∀ {ss : List Rec}, (∀ r ∈ ss, r.ok) → ∀ w ∈ attrsW ss, WordOk w
  | [], _ => memN
  | r :: ss, h => memA (attrW_ok (h r (.head _)) true) (memF fun x hx => attrW_ok (h x (.tail _ hx)) false)
theorem mailW_ok {rs ss : List Rec} (hr : ∀ r ∈ rs, r.ok) (hs : ∀ r ∈ ss, r.ok) : ∀ w ∈ mailW rs ss, WordOk w := by
  refine memA (memA (memA (memA (memF fun x hx => headW_ok (hr x hx)) ?_) (attrsW_ok hs)) (memI memN (mem3 (w := []) (one_word (by omega)) memN))) (mem3 (w := []) (one_word (by omega)) (mem3 (w := []) (one_word (by omega)) (mem3 (w := []) (lit_word (by decide)) memN)))
  refine mem3 (w := []) (one_word (by omega)) (mem3 (w := []) (one_word (by omega)) (mem3 (w := []) (one_word (by omega)) (mem3 (w := []) ?_ memN)))
  split <;> exact lit_word (by decide)
theorem lit1 (c : Nat) (h : c < 64) : numZ [c] = (c : Int) := by
  unfold numZ
  simp only [List.foldl_cons, List.foldl_nil]
  omega
theorem let64 {c : Nat} (h : Let c) : ((c % 64 : Nat) : Int) = (c : Int) - 64 := by
  unfold Let at h
  omega
theorem numZ_one {c : Nat} (h : Let c) : numZ [c] = (c : Int) - 64 := by
  have e := numZ_snoc [] c
  rw [let64 h] at e
  exact e.trans (Int.zero_add _)
theorem val_num {p q : Nat} (h : Let p) (hq : q < 64) : numZ [p, q] = 64 * ((p : Int) - 64) + q := by
  have e := numZ_snoc [p] q
  rw [numZ_one h, Nat.mod_eq_of_lt hq] at e
  exact e
theorem nm_num {r : Rec} (h : r.ok) (x : Nat) (hx : x < 64) : numZ (r.nm ++ [x]) = 64 * r.num + x := by
  obtain ⟨rd, ra, rb, rp, rq⟩ := r
  obtain ⟨h1, h2, -, -⟩ := h
  rw [numZ_snoc, Nat.mod_eq_of_lt hx]
  cases rb with
  | none =>
    show 64 * numZ [ra] + (x : Int) = 64 * ((ra : Int) - 64) + x
    rw [numZ_one h1]
  | some b =>
    have e := numZ_snoc [ra] b
    rw [numZ_one h1, let64 (h2 b rfl)] at e
    exact congrArg (fun z => 64 * z + (x : Int)) e
theorem headW_num {r : Rec} (h : r.ok) : (headW r).map numZ = rowI r.row := by
  unfold headW rowI
  show _ = (if r.dot = true then [46, 46] else []) ++ [64 * r.num + 58, 32, r.val, 13, 10]
  rw [List.map_append]
  congr 1
  · split <;> rfl
  · simp only [List.map_cons, List.map_nil, nm_num h 58 (by omega), lit1 32 (by omega), lit1 13 (by omega), lit1 10 (by omega), val_num h.2.2.1 h.2.2.2]
    rfl
theorem valW_num {p q : Nat} (h : Let p) (hq : q < 64) : (valW p q).map numZ = markI (64 * ((p : Int) - 64) + q) := by
  have e : Int.fmod (64 * ((p : Int) - 64) + q) 64 = q := by
    rw [Int.fmod_eq_emod_of_nonneg _ (by decide), Int.mul_add_emod_self_left]
    exact Int.emod_eq_of_lt (Int.natCast_nonneg q) (Int.ofNat_lt.mpr hq)
  unfold valW markI
  rw [e]
  have c : ∀ k : Nat, ((q : Int) = (k : Int)) ↔ q = k := fun k => Int.ofNat_inj
  have c38 : ((q : Int) = 38) ↔ q = 38 := c 38
  have c60 : ((q : Int) = 60) ↔ q = 60 := c 60
  have c34 : ((q : Int) = 34) ↔ q = 34 := c 34
  have c9 : ((q : Int) = 9) ↔ q = 9 := c 9
  have e38 : numZ [p, 38] = 64 * ((p : Int) - 64) + (q : Int) - (q : Int) + 38 := by rw [val_num h (by decide), Int.add_sub_cancel]; rfl
  have epq := val_num h hq
  by_cases h1 : q = 38
  · rw [if_pos h1, if_pos (c38.mpr h1)]; simp only [List.map_cons, List.map_nil, e38]
  rw [if_neg h1, if_neg (fun h => h1 (c38.mp h))]
  by_cases h2 : q = 60
  · rw [if_pos h2, if_pos (c60.mpr h2)]; simp only [List.map_cons, List.map_nil, e38]
  rw [if_neg h2, if_neg (fun h => h2 (c60.mp h))]
  by_cases h3 : q = 34
  · rw [if_pos h3, if_pos (c34.mpr h3)]; simp only [List.map_cons, List.map_nil, e38]
  rw [if_neg h3, if_neg (fun h => h3 (c34.mp h))]
  by_cases h4 : q = 9
  · rw [if_pos h4, if_pos (c9.mpr h4)]; simp only [List.map_cons, List.map_nil, e38]
  rw [if_neg h4, if_neg (fun h => h4 (c9.mp h))]
  simp only [List.map_cons, List.map_nil, epq]
theorem attrW_num {r : Rec} (h : r.ok) (b : Bool) : (attrW b r).map numZ = attrI b r.row := by
  unfold attrW attrI
  show _ = (if b = true then [] else [32]) ++ ((if r.dot = true then [46] else []) ++ [64 * r.num + 61, 34] ++ markI r.val ++ [34])
  simp only [List.map_append, valW_num h.2.2.1 h.2.2.2, List.map_cons, List.map_nil, nm_num h 61 (by omega), lit1 34 (by omega)]
  cases b <;> cases r.dot <;> simp [lit1, Rec.val]
theorem attrsW_num : ∀ {ss : List Rec}, (∀ r ∈ ss, r.ok) → (attrsW ss).map numZ = attrsI (ss.map Rec.row)
  | [], _ => rfl
  | r :: ss, h => by
    simp only [attrsW, List.map_cons, attrsI, List.map_append, attrW_num (h r (.head _))]
    congr 1
    rw [List.map_flatten, List.map_map, List.map_map]
    congr 1
    exact List.map_congr_left fun x hx => attrW_num (h x (.tail _ hx)) false
theorem mail_words {rs ss : List Rec} (hr : ∀ r ∈ rs, r.ok) (hs : ∀ r ∈ ss, r.ok) : mailI (rs.map Rec.row) (ss.map Rec.row) = (mailW rs ss).map numZ := by
  unfold mailI mailW
  simp only [List.map_append, attrsW_num hs, List.map_eq_nil_iff]
  have e : (rs.map Rec.row).map rowI = rs.map (fun r => (headW r).map numZ) := by
    rw [List.map_map]
    exact List.map_congr_left fun x hx => (headW_num (hr x hx)).symm
  rw [e, List.map_flatten, List.map_map]
  by_cases h : rs = []
  · simp only [if_pos h]; rfl
  · simp only [if_neg h]; rfl
/-- the figures of a word's number are as many as its signs -/
noncomputable def numN (l : List Nat) : Nat := l.foldl (fun n c => 64 * n + c % 64) 0
theorem numZ_N (l : List Nat) : numZ l = (numN l : Int) := by
  suffices h : ∀ (l : List Nat) (n : Nat), l.foldl (fun (n : Int) c => 64 * n + ((c % 64 : Nat) : Int)) (n : Int) = ((l.foldl (fun n c => 64 * n + c % 64) n : Nat) : Int) from h l 0
  intro l
  induction l with
  | nil => exact fun n => rfl
  | cons c l ih => exact fun n => ih (64 * n + c % 64)
theorem numN_snoc (l : List Nat) (c : Nat) : numN (l ++ [c]) = 64 * numN l + c % 64 := by
  unfold numN; rw [List.foldl_append]; rfl
theorem digs_N : ∀ (k : Nat) (pre : List Nat), pre.length = k → (∀ x ∈ pre, 64 ≤ x ∧ x < 128) → (∀ x, pre.head? = some x → 64 < x) → ∀ c : Nat, (digs (numN (pre ++ [c]))).length = pre.length + 1 ∧ (pre ≠ [] → 0 < numN pre) := by
  intro k
  induction k with
  | zero =>
    intro pre hk h1 h2 c
    obtain rfl := List.eq_nil_of_length_eq_zero hk
    refine ⟨?_, fun h => absurd rfl h⟩
    have e : numN ([] ++ [c]) = c % 64 := Nat.zero_add _
    rw [e, digs_small (Nat.mod_lt _ (by decide))]; rfl
  | succ k ih =>
    intro pre hk h1 h2 c
    have hne : pre ≠ [] := fun e => by rw [e] at hk; cases hk
    obtain ⟨p, d, rfl⟩ : ∃ p d, pre = p ++ [d] := ⟨pre.dropLast, pre.getLast hne, (List.dropLast_concat_getLast hne).symm⟩
    rw [List.length_append] at hk
    have hp2 : ∀ x, p.head? = some x → 64 < x := fun x hx => h2 x (by
      cases p with
      | nil => cases hx
      | cons a p => exact hx)
    obtain ⟨i1, i2⟩ := ih p (Nat.succ.inj hk) (fun x hx => h1 x (List.mem_append_left _ hx)) hp2 d
    have hd := h1 d (List.mem_append_right _ (.head _))
    have hpos : 0 < numN (p ++ [d]) := by
      rw [numN_snoc]
      by_cases e : p = []
      · have h := h2 d (by rw [e]; rfl)
        refine Nat.lt_of_lt_of_le (m := d % 64) ?_ (Nat.le_add_left _ _)
        rw [Nat.mod_eq_sub_mod hd.1, Nat.mod_eq_of_lt (Nat.sub_lt_left_of_lt_add hd.1 hd.2)]
        exact Nat.sub_pos_of_lt h
      · exact Nat.lt_of_lt_of_le (Nat.mul_pos (by decide) (i2 e)) (Nat.le_add_right _ _)
    refine ⟨?_, fun _ => hpos⟩
    rw [numN_snoc, digs_big (Nat.not_lt.mpr (Nat.le_trans (Nat.mul_le_mul_left 64 hpos) (Nat.le_add_right _ _))), Nat.mul_add_div (by decide), Nat.div_eq_of_lt (Nat.mod_lt _ (by decide)), Nat.add_zero, List.length_append, List.length_append, i1]
    rfl
theorem word_digs {w : List Nat} (h : WordOk w) : (digs (numZ w).toNat).length = w.length := by
  obtain ⟨pre, c, rfl, h1, h2, h3, h4⟩ := h
  rw [numZ_N, Int.toNat_natCast, (digs_N _ pre rfl h1 h3 c).1, List.length_append]; rfl
theorem numN_lt : ∀ (k : Nat) (l : List Nat), l.length = k → numN l < 64 ^ k := by
  intro k
  induction k with
  | zero => intro l h; rw [List.eq_nil_of_length_eq_zero h]; decide
  | succ k ih =>
    intro l h
    have hne : l ≠ [] := fun e => by rw [e] at h; cases h
    obtain ⟨p, d, rfl⟩ : ∃ p d, l = p ++ [d] := ⟨l.dropLast, l.getLast hne, (List.dropLast_concat_getLast hne).symm⟩
    rw [List.length_append] at h
    rw [numN_snoc, Nat.pow_succ, Nat.mul_comm (64 ^ k)]
    exact Nat.lt_of_lt_of_le (Nat.add_lt_add_left (Nat.mod_lt _ (by decide)) _) (Nat.mul_le_mul_left 64 (ih p (Nat.succ.inj h)))
theorem numZ_lt (k : Nat) (l : List Nat) (h : l.length = k) : numZ l < 64 ^ k := by
  rw [numZ_N]
  exact Int.ofNat_lt.mpr (numN_lt k l h)
theorem word_lt {w : List Nat} (h : WordOk w) : numZ w < 64 ^ 9 := by
  obtain ⟨pre, c, rfl, h1, h2, h3, h4⟩ := h
  have := numZ_lt _ (pre ++ [c]) rfl
  refine Int.lt_of_lt_of_le this ?_
  rw [List.length_append, List.length_singleton]
  exact (by decide : ∀ k ≤ 9, (64 : Int) ^ k ≤ 64 ^ 9) _ (by omega)
end
section
theorem warm_M2 : PySem.Challenge.rw_ta0132_01.Holds → hd1.heap_1_39 = hd1.heap_1_39 := by
  k_fill
  intro _
  rfl
noncomputable def Ro.row (r : Ro) : Row := (r.dot, r.num, r.val)
noncomputable def pieces (q : Int) : List Int := if q = 38 then [numZ [97, 109, 112, 59]] else if q = 60 then [numZ [108, 116, 59]] else if q = 34 then [numZ [113, 117, 111, 116, 59]] else if q = 9 then [numZ [35], numZ [120, 57], numZ [59]] else []
noncomputable def MarkQ (q : Int) : Prop := q = 38 ∨ q = 60 ∨ q = 34 ∨ q = 9
theorem markI_in : ∀ {v : Int} (h : MarkQ (v.fmod 64)), markI v = [v - v.fmod 64 + 38] ++ pieces (v.fmod 64) := by
  have skon : SkOn := .mk
  intro v h
  unfold markI pieces
  rcases h with h | h | h | h <;> rw [h] <;> rfl
theorem markI_out {v : Int} (h : ¬ MarkQ (v.fmod 64)) : markI v = [v] := by
  unfold markI
  unfold MarkQ at h
  rw [if_neg (fun e => h (.inl e)), if_neg (fun e => h (.inr (.inl e))), if_neg (fun e => h (.inr (.inr (.inl e)))), if_neg (fun e => h (.inr (.inr (.inr e))))]
theorem mark_pick {w : World} {h₀ h : Heap} {L l1 l2 l3 l4 dn : Addr} {on : Obj} {k1 k2 k3 k4 t1 t2 t3 t4 t5 t6 : Tok} {rest : Led} {q : Int}
    (N : News h₀ L h ((l4, listOf #[.str (Str.ofString "#") t4, .str (Str.ofString "x9") t5, .str (Str.ofString ";") t6] 0) :: (l3, listOf #[.str (Str.ofString "quot;") t3] 0) :: (l2, listOf #[.str (Str.ofString "lt;") t2] 0) :: (l1, listOf #[.str (Str.ofString "amp;") t1] 0) :: (dn, on) :: rest))
    (hd : on.IsDictOf (PySem.intKind PySem.Challenge.pw_ta0132_01 w) (intKeyPairs [(.int 38 k1, .ref l1), (.int 60 k2, .ref l2), (.int 34 k3, .ref l3), (.int 9 k4, .ref l4)])) (hq : MarkQ q) : ∃ lp vs ps, valueAt (intKeyPairs [(.int 38 k1, .ref l1), (.int 60 k2, .ref l2), (.int 34 k3, .ref l3), (.int 9 k4, .ref l4)]) q = some (.ref lp) ∧
    (lp, listOf (List.toArray vs) 0) ∈ (l4, listOf #[.str (Str.ofString "#") t4, .str (Str.ofString "x9") t5, .str (Str.ofString ";") t6] 0) :: (l3, listOf #[.str (Str.ofString "quot;") t3] 0) :: (l2, listOf #[.str (Str.ofString "lt;") t2] 0) :: (l1, listOf #[.str (Str.ofString "amp;") t1] 0) :: (dn, on) :: rest ∧
    StrsAre vs ps ∧ ps.length ≤ 3 ∧ (ps.map fun p => numI (KStt.codes p)) = pieces q := by
  rcases hq with rfl | rfl | rfl | rfl
  · exact ⟨l1, [_], [_], rfl, .tail _ (.tail _ (.tail _ (.head _))), .cons _ _ .nil, by decide, by decide +kernel⟩
  · exact ⟨l2, [_], [_], rfl, .tail _ (.tail _ (.head _)), .cons _ _ .nil, by decide, by decide +kernel⟩
  · exact ⟨l3, [_], [_], rfl, .tail _ (.head _), .cons _ _ .nil, by decide, by decide +kernel⟩
  · exact ⟨l4, [_, _, _], [_, _, _], rfl, .head _, .cons _ _ (.cons _ _ (.cons _ _ .nil)), by decide, by decide +kernel⟩
theorem mark_none {w : World} {on : Obj} {v1 v2 v3 v4 : Value} {k1 k2 k3 k4 : Tok} {q : Int} (hd : on.IsDictOf (PySem.intKind PySem.Challenge.pw_ta0132_01 w) (intKeyPairs [(.int 38 k1, v1), (.int 60 k2, v2), (.int 34 k3, v3), (.int 9 k4, v4)])) (hq : ¬ MarkQ q) : valueAt (intKeyPairs [(.int 38 k1, v1), (.int 60 k2, v2), (.int 34 k3, v3), (.int 9 k4, v4)]) q = none := by
  show valueAt [((38 : Int), v1), (60, v2), (34, v3), (9, v4)] q = none
  unfold MarkQ at hq
  have h1 : (38 : Int) ≠ q := fun e => hq (.inl e.symm)
  have h2 : (60 : Int) ≠ q := fun e => hq (.inr (.inl e.symm))
  have h3 : (34 : Int) ≠ q := fun e => hq (.inr (.inr (.inl e.symm)))
  have h4 : (9 : Int) ≠ q := fun e => hq (.inr (.inr (.inr e.symm)))
  simp [valueAt, h1, h2, h3, h4]
theorem strs_val : ∀ {vs : List Value} {ps : List Str}, StrsAre vs ps → ∀ {k : Nat} {v : Value}, vs[k]? = some v → ∃ p t, ps[k]? = some p ∧ v = .str p t := by
  intro vs ps h
  induction h with
  | nil => intro k v hk; simp at hk
  | cons n t h ih =>
    intro k v hk
    cases k with
    | zero => simp at hk; subst hk; exact (exI2 ⟨rfl, rfl⟩)
    | succ k => simpa using ih (k := k) (v := v) (by simpa using hk)
theorem ints_snoc' {vs : List Value} {ns : List Int} {n : Int} {t : Tok} (h : IntsAre vs ns) : IntsAre (vs ++ [.int n t]) (ns ++ [n]) := by
  induction h with
  | nil => exact .cons _ _ .nil
  | cons n' t' h ih => exact .cons _ _ ih
theorem sub_one {a b1 b2 b3 b4 d : Addr} {o o1 o2 o3 o4 od : Obj} {news : Led} : ∀ p ∈ (a, o) :: news, p ∈ (a, o) :: (b4, o4) :: (b3, o3) :: (b2, o2) :: (b1, o1) :: (d, od) :: news := fun p hp => by
  rcases List.mem_cons.mp hp with rfl | hp
  · exact .head _
  · exact .tail _ (.tail _ (.tail _ (.tail _ (.tail _ (.tail _ hp)))))
theorem head_in {p : Addr × Obj} {l B : Led} (h : p :: l = B) : p ∈ B := h ▸ .head _
theorem sub_two {p q : Addr × Obj} {news B : Led} (h : ∀ x ∈ news, x ∈ B) : ∀ x ∈ p :: news, x ∈ p :: q :: B := fun x hx => by
  rcases List.mem_cons.mp hx with rfl | hx
  · exact .head _
  · exact .tail _ (.tail _ (h x hx))
theorem pieces_len (q : Int) : (pieces q).length ≤ 3 := by
  unfold pieces
  split
  · decide
  split
  · decide
  split
  · decide
  split
  · decide
  · decide
theorem c_marked : ∀ (w : World) (v : Int) (tv : Tok) (news : Led) (hv0 : 0 ≤ v) (hv1 : v < 4096), Con w 6 (call (.ref 387) [.int v tv]) news (fun r news' => ∃ l fs n, r = .ref l ∧ news' = (l, listOf (List.toArray fs) n) :: news ∧ (∀ p ∈ news, @LT.lt Nat _ p.1 l) ∧ IntsAre fs (markI v)) := by
  k_with_none
  k_with "storeName" => (k_here; (with_reducible show wpAny _ _ (storeName (envOfC _ _ _ _ _) _ _) _ _ _); k_dflt (refine' st_cell ?k1 ?k2 ?k3 ?k4 ?k5 ?k6 ?k7 ?_; (case k1 => k_asm); (case k2 => k_asm); (case k3 => exact rfl); (case k4 => exact rfl); (case k5 => exact rfl); (case k6 => k_updF); (case k7 => k_asm); k_whole); intro _ _ _ _ _; (try dsimp only))
  k_with "setItem ref ref ref" => (k_here; k_dflt (refine' store_all ?k1 ?k2 ?k3 ?k4 ?k5 ?k6 ?k7 ?k8 ?_; (case k1 => k_asm); (case k2 => k_asm); (case k3 => exact rfl); (case k4 => k_updF); (case k5 => k_mem); (case k6 => first | (simp only [beq_eq_false_iff_ne]; (try dsimp only); (refine neN ?_); omega) | (simp only [beq_eq_false_iff_ne]; assumption)); (case k7 => assumption); (case k8 => assumption); k_whole); intro _ _ _ _; (try dsimp only))
  k_with "call builtin:list.append" => (k_here; (with_reducible show wpAny _ _ (call (Value.builtin _) [Value.ref _, _]) _ _ _); k_dflt (refine' append_K ?k1 ?k2 ?k3 ?_ ?z; (case k1 => k_asm); (case k2 => k_asm); (case k3 => k_upd); (case z => first | size_fits | exact Nat.le_trans (by with_reducible assumption) (by decide)); k_whole); intro _ _ _; (try k_sweep))
  k_with "exec Assign cons ListComp" => (k_here; k_dflt (refine' compA ?c0 ?c1 ?c2 ?c3 ?_; (case c0 => exact rfl); (case c1 => with_unfolding_all rfl); (case c2 => exact rfl); (case c3 => decide)))
  have hold0 : HoldK "+Comp" := .mk
  have hold1 : HoldA 349 := .mk
  have hold2 : HoldK "compareOp NotIn int ref" := .mk
  have hold3 : HoldK "subscriptTail" := .mk
  have hold4 : HoldK "binaryOp Add ref ref" := .mk
  have skon : SkOn := .mk
  intro w v tv news hv0 hv1
  unfold Con
  intro mean mg mb dp un gd cn cs a ccd cl outer A₀ base h₀ L m s Q E B F X N T hk hd hu hret
  refine wpAny_call ?_
  k_dflt (refine' code_def (binds := [(Str.ofString "value", .int v tv)]) ?k1 ?k2 ?k3 ?k4 ?k5 ?kA ?kF ?kK ?k6 ?k7 ?k8 ?k9 ?kB ?_ ?c2 ?c3 ?c4 ?c5; (case kA => exact rfl); (case kF => exact rfl); (case kK => first | assumption | exact rfl); (case k1 => k_asm); (case k2 => k_asm); (case k3 => k_asm); (case k4 => k_asm); (case k5 => k_asm); (case k6 => k_is); (case k7 => k_is); (case k8 => k_room); (case k9 => first | exact BindsTo.of_eq rfl | exact binds_K (by k_in) rfl (by k_is) rfl rfl rfl); (case c5 => decide); (case kB => exact locs rfl); (case c2 => exact rfl); (case c3 => exact rfl); (case c4 => exact rfl); k_whole; intro g1 L1 h1 FG1 F1 N1 B1 X1 T1; (try dsimp only); (try k_lift B1); (try k_fold))
  k_steps
  refine Hold.to ?_
  rename News g1 L1 _ _ => N2
  rename Fr g1 L1 _ _ => F2
  rename (_ == sysModules) = false => lo
  rename Obj.IsDictOf _ _ (intKeyPairs _) => hD2
  refine wpAny_notIn_of (PySem.intKind_is _ _ _ _) lo (kda_dict N2 (by k_mem) hD2).mapOf ?_
  by_cases hq : MarkQ (v.fmod 64)
  · obtain ⟨lp, vs, ps, hval, hmp, hvs, hps, hpm⟩ := mark_pick N2 hD2 hq
    rw [hval]
    (try dsimp only [Option.isSome, Bool.not_true]); (try k_fold)
    k_steps
    refine Hold.to ?_
    rename News g1 L1 _ _ => N3
    rename Fr g1 L1 _ _ => F3
    refine kda_item N3 (by k_mem) hD2 (PySem.intKind_is _ _ _ _) hval ?_
    (try dsimp only); (try k_fold)
    k_steps
    rename News g1 L1 _ _ => N4
    rename Fr g1 L1 _ _ => F4
    generalize hB9 : (_, listOf #[_] 0) :: _ = B9 at N4
    have m0 := head_in hB9
    have hBp : (lp, listOf (List.toArray vs) 0) ∈ B9 := by rw [← hB9]; exact .tail _ hmp
    have hBn : ∀ p ∈ news, p ∈ B9 := fun p hp => by rw [← hB9]; exact .tail _ (.tail _ (.tail _ (.tail _ (.tail _ (.tail _ hp)))))
    clear hB9 hmp hval
    refine compGoE (items := vs) (fun i ys nw => nw = B9 ∧ IntsAre ys ((ps.take i).map fun p => numI (KStt.codes p))) (by rfl) ?hsz (by decide) (by rfl) (by rfl) F4 N4 ?hl ?h0 ?turn ?fin
    case hsz => rw [hvs.length, sizeLine_eq]; omega
    case hl =>
      intro i ys nw h' hq9; obtain ⟨rfl, _⟩ := hq9; intro _ N'
      exact ⟨_, (N' _ hBp).1, rfl, _, rfl⟩
    case h0 => exact ⟨rfl, .nil⟩
    case turn =>
      intro i x ys news₁ h₁ tk₁ Ia oI C oC D m₂ E' hx hq9; obtain ⟨rfl, hys⟩ := hq9; intro hC hm2 F5 N5 hoff hne
      obtain ⟨p, tp, hp, rfl⟩ := strs_val hvs hx
      dsimp only [CTree]
      k_steps
      refine Hold.to ?_; k_dflt (refine' c_number _ _ _ _ _ _ _ _ _ _ _ _ _ _ _ _ _ _ _ _ _ _ _ _ ?k1 ?k2 ?k3 ?k4 ?k5 ?kK ?kd ?ku ?_; (case k1 => k_asm); (case k2 => k_asm); (case k3 => k_asm); (case k4 => k_asm); (case k5 => k_asm); (case kK => first | exact rfl | assumption); (case kd => k_room); (case ku => k_units); intro r9 n9 h9 tk9 F9 N9 H9)
      obtain ⟨rfl, tk8, rfl⟩ := H9
      (try dsimp only); (try k_fold)
      k_steps
      refine (exI3 ⟨rfl, by assumption, by assumption, hoff, rfl, ?_⟩)
      rw [take_snoc hp, List.map_append]
      exact ints_snoc' hys
    case fin =>
      intro D h' tk' nw ys F' N' hD hq9; obtain ⟨rfl, hys⟩ := hq9
      rw [hvs.length, List.take_length, hpm] at hys
      k_steps
      refine Hold.to ?_
      refine add_all F' N' (vs := [_]) (by k_mem) (.head _) (by rw [hys.length, sizeLine_eq]; have := pieces_len (v.fmod 64); simp only [List.length_cons, List.length_nil]; omega) ?_
      intro D2 h2 F7 N7 l7
      (try dsimp only); (try k_fold)
      k_steps
      rename News h₀ L _ _ => N8
      exact hret _ _ _ _ (by assumption) (cb_drop N8 (fun p hp => sub_two hBn p hp)) (exI2 ⟨0, rfl, rfl, fun p hp => l7 p (.tail _ (hBn p hp)), by rw [markI_in hq]; exact .cons _ _ hys⟩)
  · have hnone := mark_none hD2 hq
    rw [hnone]
    (try dsimp only [Option.isSome, Bool.not_false]); (try k_fold)
    k_steps
    rename _ ∧ _ ∧ _ ∧ _ ∧ _ ∧ AllLt _ news => lz
    exact hret _ _ _ _ (by assumption) (cb_drop (by assumption) (fun p hp => sub_one p hp)) ⟨_, [_], 0, rfl, rfl, fun p hp => tb_ltOf lz.2.2.2.2.2 p hp, by rw [markI_out hq]; exact .cons _ _ .nil⟩
end
section
open PySem.Sre PySem.Builtin.Re
noncomputable def Hit (code : List Nat) (text : Array Nat) (start b e : Nat) : Prop := ∃ n, n ≤ 2 ^ 64 ∧ ((Sre.forSearch code.toArray text 0 start text.size false).runFor n).outcome = some .matched ∧ ((Sre.forSearch code.toArray text 0 start text.size false).runFor n).start = b ∧ ((Sre.forSearch code.toArray text 0 start text.size false).runFor n).handed = e
noncomputable def NoHit (code : List Nat) (text : Array Nat) (start : Nat) : Prop := ∃ n, n ≤ 2 ^ 64 ∧ ((Sre.forSearch code.toArray text 0 start text.size false).runFor n).outcome = some .failed
/-- the pieces that a substitution gathers from a place on -/
inductive Subs (code : List Nat) (text : Array Nat) (repl : Str) : Nat → List Str → Prop
  | done {start : Nat} : NoHit code text start → Subs code text repl start (if start < text.size then [⟨text.extract start text.size⟩] else [])
  | step {start b e : Nat} {ps : List Str} : Hit code text start b e → b < e → Subs code text repl e ps → Subs code text repl start ((if start < b then [⟨text.extract start b⟩] else []) ++ repl :: ps)
theorem entry_subloop : entryFor table "re.Pattern.sub.loop" = some Builtin.«re.Pattern.sub.loop» := entryFor_of_tree (by kernel_rfl)
theorem plain_subloop : plainId "re.Pattern.sub.loop" = true := by decide +kernel
theorem slot_sub : Slot "re.Pattern" "sub" "re.Pattern.sub" :=
  .of (owner := "re.Pattern") (n := "sub") (by rw [typeLookup_type, builtinLookup_eq_fast]; kernel_rfl) (by decide +kernel) (by decide +kernel) (by decide +kernel)
    (by first | exact .inl (by decide +kernel) | exact .inr (by decide +kernel)) (by rw [isSubtype_type]; kernel_rfl)
theorem entry_sub : entryFor table "re.Pattern.sub" = some Builtin.«re.Pattern.sub» := entryFor_of_fast (by kernel_rfl)
theorem args_sub (a b c : Value) : argsOk "re.Pattern.sub" ⟨[a, b, c], []⟩ := by unfold argsOk; kernel_rfl
theorem mty_sub : typeOf (.builtin "re.Pattern.sub") = pure (.type "method_descriptor") := by kernel_rfl
section
variable {prog : Program} {w : World} {A : Around} {E : Value → Shared → Prop} {s : Shared}
theorem getMethod_sub {p : Addr} {code : List Nat} {pl : Sem Bool} {Q : Value × List Value → Shared → Prop} (P : PatAt s.heap p code) (h : Q (.builtin "re.Pattern.sub", [.ref p]) s) : wpAny (model prog w) A (getMethod (.ref p) "sub" pl) Q E s := by
  refine getMethod_builtin P.typeIs pa_pattern slot_sub mty_sub (fun a e => ?_) h
  cases e
  obtain ⟨o, _, _, _, _, _, h1, _, h3, _⟩ := P.ex
  exact ⟨o, h1, h3⟩
theorem wp_reWhole : ∀ {prog : Program} {w : World} {A : Around} {E : Value → Shared → Prop} {s : Shared} {p : Addr} {code : List Nat} {v : Str} {t : Tok} {Q : ReTarget → Shared → Prop} (P : PatAt s.heap p code) (h : Q { pattern := .ref p, string := .str v t, code := code.toArray, text := v.cps, kind := 0, groups := 0, pos := 0, lim := v.cps.size } s), wpAny (model prog w) A (reWholeTarget (.ref p) (.str v t)) Q E s := by
  have skon : SkOn := .mk
  intro prog w A E s p code v t Q P h
  obtain ⟨o, ct, oc, pat, fl, n, h1, h2, h3, h4, h5, h6⟩ := P.ex
  unfold reWholeTarget
  refine wpAny_bind (wpAny_fieldsOf h1 h4 ?_)
  refine wpAny_bind (wpAny_of_eq (a := (v.cps, 0)) rfl ?_)
  show wpAny (model prog w) A (do
    reNoCollectionInside (Value.str v t) 0
    let d ← reRawItems (.ref ct)
    pure { pattern := Value.ref p, string := Value.str v t, code := d.map (fun x => x.toNat), text := v.cps, kind := 0, groups := 0, pos := 0, lim := v.cps.size }) Q E s
  refine wpAny_bind (wpAny_of_eq (a := ()) rfl ?_)
  refine wpAny_bind (wp_reRawItems h5 h6 (wpAny_pure ?_))
  have e1 : (code.map fun (c : Nat) => (c : Int)).toArray.map (fun x => x.toNat) = code.toArray := by
    simp [Function.comp_def]
  rw [e1]; exact h
variable {h₀ : Heap} {L : Addr} {m : Str → Option Value} {news : Led}
theorem fr_push {a : Addr} {xs : Array Value} {k : Nat} {y : Value} {Q : Unit → Shared → Prop} (F : Fr h₀ L s.heap m) (N : News h₀ L s.heap ((a, listOf xs k) :: news)) (off : ∀ q ∈ news, q.1 ≠ a) (hz : xs.size ≤ 1048576)
    (h : ∀ h' k', Fr h₀ L h' m → News h₀ L h' ((a, listOf (xs.push y) k') :: news) → Q () { s with heap := h' }) : wpAny (model prog w) A (updateSeq a (·.push y)) Q E s := by
  have z := N _ (.head _)
  refine wpAny_updateSeq z.1 rfl ?_ (Nat.le_trans hz (by decide)) (by rw [Array.size_push]; exact Nat.le_trans (Nat.succ_le_succ hz) (by decide))
  have hs : Heap.SameBut a s.heap (s.heap.update a (Obj.mapSeq (·.push y))) := Heap.SameBut.update ..
  refine h _ (k + 1) (F.change hs z.2.1 z.2.2) fun p hp => ?_
  rcases List.mem_cons.mp hp with rfl | hp
  · exact ⟨by rw [Heap.get?_update_self _ z.1 (by rw [mapSeq_push]; rfl), mapSeq_push], z.2⟩
  · exact ⟨hs.extBut _ _ (off p hp) (N p (.tail _ hp)).1, (N p (.tail _ hp)).2⟩
theorem ext_le {xs : Array Nat} {z : Nat} (h : xs.size ≤ z) (b e : Nat) : (xs.extract b e).size ≤ z := by
  rw [Array.size_extract]
  exact Nat.le_trans (Nat.sub_le _ _) (Nat.le_trans (Nat.min_le_right _ _) h)
theorem acc_fits {α β : Type} {acc : List α} {ys ps : List β} {x z : Nat} (e : acc.length = ys.length) (h : x + (ys ++ ps).length ≤ z) : acc.length ≤ z := by
  rw [List.length_append] at h
  exact Nat.le_trans (e ▸ Nat.le_trans (Nat.le_add_right _ _) (Nat.le_add_left _ x)) h
noncomputable def SubGo (prog : Program) (w : World) (A : Around) (h₀ : Heap) (L : Addr) (m : Str → Option Value) (news : Led) (p a : Addr) (v repl : Str) (t tr : Tok) (start : Nat) (ps : List Str) : Prop :=
  ∀ (s : Shared) (acc : List Value) (ys : List Str) (k n : Nat) (R : Result → Shared → Prop), StrsAre acc ys → Fr h₀ L s.heap m → News h₀ L s.heap ((a, listOf acc.toArray k) :: news) → ((ys ++ ps).map (·.length)).sum + (ys ++ ps).length ≤ 1048576 → ys ++ ps ≠ [] →
      (∀ h' tk' t', Fr h₀ L h' m → News h₀ L h' news → R (.ok (.ret (.str (Txt.join ⟨#[]⟩ (ys ++ ps)) t'))) { s with heap := h', toks := tk' }) →
      codeAny (model prog w) A (.builtin "re.Pattern.sub.loop" ⟨[.ref p, .str v t, .str repl tr, rawInt 0, rawInt 0, rawInt n, rawInt start, rawInt start, .bool false, .ref a, .bool false], []⟩) R s
theorem sub_done : ∀ {prog : Program} {w : World} {A : Around} {h₀ : Heap} {L : Addr} {m : Str → Option Value} {news : Led} {p a : Addr} {code : List Nat} {v repl : Str} {t tr : Tok} {start : Nat} (hpat : ∀ h : Heap, (∀ b o, h₀.get? b = some o → h.get? b = some o) → PatAt h p code) (off : ∀ q ∈ news, q.1 ≠ a) (hext : ∀ b e : Nat, (⟨v.cps.extract b e⟩ : Str).length ≤ sizeLine) (H0 : NoHit code v.cps start), SubGo prog w A h₀ L m news p a v repl t tr start (if start < v.cps.size then [⟨v.cps.extract start v.cps.size⟩] else []) := by
  have skon : SkOn := .mk
  intro prog w A h₀ L m news p a code v repl t tr start hpat off hext H0
  unfold SubGo
  intro s acc ys k n R hacc F N hw hne hR
  obtain ⟨n0, hn0, hm⟩ := H0
  refine codeAny_builtin entry_subloop ?_
  rw [Around.under_plainId plain_subloop _]
  show wpAny _ A.in1 (reWholeTarget (.ref p) (.str v t) >>= _) _ _ s
  refine wpAny_bind (wp_reWhole (hpat _ F.keep) ?_)
  dsimp only
  simp only [Int.toNat_natCast]
  rw [if_pos (show ((0 : Int) == 0) = true from rfl)]
  refine wpAny_bind (wpAny_of_eq (a := ()) rfl ?_)
  refine wpAny_bind ?_
  rw [if_neg (show ¬ ((0 : Int) != 0 && decide ((n : Int) ≥ 0)) = true from Bool.false_ne_true)]
  unfold reNextFound
  refine wp_reRunToEnd n0 hn0 (.inr ⟨hm, ?_⟩)
  dsimp only
  have fin : ∀ (s₁ : Shared) (acc' : List Value) (k' : Nat) (zs : List Str), s₁.gens = s.gens → s₁.drawn = s.drawn → s₁.os = s.os → StrsAre acc' zs → Fr h₀ L s₁.heap m → News h₀ L s₁.heap ((a, listOf acc'.toArray k') :: news) → (zs.map (·.length)).sum + zs.length ≤ 1048576 → zs ≠ [] →
      (∀ h' tk' t', Fr h₀ L h' m → News h₀ L h' news → R (.ok (.ret (.str (Txt.join ⟨#[]⟩ zs) t'))) { s with heap := h', toks := tk' }) →
      wpAny (model prog w) A.in1 (do
        let joiner ← reSlice v.cps 0 0 0
        let ps ← seqItems? (.ref a)
        if (ps.getD #[]).isEmpty = true then do
            let text ← pure joiner
            if false = true then do
              let q ← holding [text] do newTuple [text, ← mkInt (n : Int)]
              ret q
            else ret text
          else do
            let text ← call (.builtin (if ((0 : Nat) == 0) = true then "str.join" else "bytes.join")) [joiner, .ref a]
            if false = true then do
              let q ← holding [text] do newTuple [text, ← mkInt (n : Int)]
              ret q
            else ret text) (fun fin s' => match fin with | .done f => R (.ok f) s' | .again c' => c'.quiet = true ∧ codeAny (model prog w) A c' R s') (fun e s' => R (.error e) s') s₁ := by
    intro s₁ acc' k' zs e1 e2 e3 hacc' F' N' hw' hne' hR'
    refine wpAny_bind (wpAny_mkStr ?_ (hext 0 0))
    refine wpAny_bind (wpAny_seqItems (N' _ (.head _)).1 rfl ?_)
    have hem : (acc'.toArray).isEmpty = false := by
      cases acc' with
      | nil => cases hacc'; exact absurd rfl hne'
      | cons => rfl
    show wpAny _ _ (if (acc'.toArray).isEmpty = true then _ else _) _ _ _
    rw [if_neg (by rw [hem]; decide), if_pos (show ((0 : Nat) == 0) = true from rfl)]
    refine wpAny_bind (join_listW (ys := zs) (N'.isList (.head _)) (by simpa using hacc') (by show (v.cps.extract 0 0).size ≤ 16; simp) hw' fun t' k'' => ?_)
    rw [if_neg Bool.false_ne_true]
    have := hR' s₁.heap k'' t' F' fun q hq => N' q (.tail _ hq)
    rw [← e1, ← e2, ← e3] at this
    have e0 : v.cps.extract 0 0 = #[] := by simp
    rw [e0]
    exact wpAny_pure this
  by_cases hlt : start < v.cps.size
  · rw [if_pos hlt] at hw hne hR ⊢
    refine wpAny_bind (wpAny_mkStr ?_ (hext _ _))
    refine wpAny_bind (fr_push F N off ?_ fun h' k' F' N' => ?_)
    · exact acc_fits hacc.length hw
    · rw [List.push_toArray] at N'
      exact fin _ _ k' _ rfl rfl rfl (StrsAre.append' hacc (.cons _ _ .nil)) F' N' hw hne hR
  · rw [if_neg hlt] at hw hne hR ⊢
    rw [List.append_nil] at hw hne hR
    exact fin s acc k ys rfl rfl rfl hacc F N hw hne hR
theorem sub_step : ∀ {prog : Program} {w : World} {A : Around} {h₀ : Heap} {L : Addr} {m : Str → Option Value} {news : Led} {p a : Addr} {code : List Nat} {v repl : Str} {t tr : Tok} {start b e : Nat} {ps : List Str} (hpat : ∀ h : Heap, (∀ b o, h₀.get? b = some o → h.get? b = some o) → PatAt h p code) (off : ∀ q ∈ news, q.1 ≠ a) (hext : ∀ b e : Nat, (⟨v.cps.extract b e⟩ : Str).length ≤ sizeLine) (H1 : Hit code v.cps start b e) (hbe : b < e) (ih : SubGo prog w A h₀ L m news p a v repl t tr e ps), SubGo prog w A h₀ L m news p a v repl t tr start ((if start < b then [⟨v.cps.extract start b⟩] else []) ++ repl :: ps) := by
  have skon : SkOn := .mk
  intro prog w A h₀ L m news p a code v repl t tr start b e ps hpat off hext H1 hbe ih
  unfold SubGo
  intro s acc ys k n R hacc F N hw hne hR
  obtain ⟨n0, hn0, hm, hmb, hme⟩ := H1
  refine codeAny_builtin entry_subloop ?_
  rw [Around.under_plainId plain_subloop _]
  show wpAny _ A.in1 (reWholeTarget (.ref p) (.str v t) >>= _) _ _ s
  refine wpAny_bind (wp_reWhole (hpat _ F.keep) ?_)
  dsimp only
  simp only [Int.toNat_natCast]
  rw [if_pos (show ((0 : Int) == 0) = true from rfl)]
  refine wpAny_bind (wpAny_of_eq (a := ()) rfl ?_)
  refine wpAny_bind ?_
  rw [if_neg (show ¬ ((0 : Int) != 0 && decide ((n : Int) ≥ 0)) = true from Bool.false_ne_true)]
  unfold reNextFound
  refine wp_reRunToEnd n0 hn0 (.inl ⟨hm, ?_⟩)
  dsimp only
  rw [hmb, hme]
  have heb : (e == b) = false := beq_eq_false_iff_ne.mpr (Nat.ne_of_gt hbe)
  have go : ∀ (s₁ : Shared) (acc' : List Value) (k' : Nat) (zs : List Str), s₁.gens = s.gens → s₁.drawn = s.drawn → s₁.os = s.os → StrsAre acc' zs → Fr h₀ L s₁.heap m → News h₀ L s₁.heap ((a, listOf acc'.toArray k') :: news) → zs ++ repl :: ps = ys ++ ((if start < b then [⟨v.cps.extract start b⟩] else []) ++ repl :: ps) →
      wpAny (model prog w) A.in1 (do
        let item ← pure (Value.str repl tr)
        if (item != Value.none) = true then do
          updateSeq a fun x => x.push item
          again (Code.builtin "re.Pattern.sub.loop" ⟨[.ref p, .str v t, .str repl tr, rawInt 0, rawInt 0, rawInt ((n : Int) + 1), rawInt e, rawInt e, .bool (e == b), .ref a, .bool false], []⟩)
        else again (Code.builtin "re.Pattern.sub.loop" ⟨[.ref p, .str v t, .str repl tr, rawInt 0, rawInt 0, rawInt ((n : Int) + 1), rawInt e, rawInt e, .bool (e == b), .ref a, .bool false], []⟩)) (fun fin s' => match fin with | .done f => R (.ok f) s' | .again c' => c'.quiet = true ∧ codeAny (model prog w) A c' R s') (fun e s' => R (.error e) s') s₁ := by
    intro s₁ acc' k' zs e1 e2 e3 hacc' F' N' hz
    refine wpAny_bind (wpAny_pure ?_)
    rw [if_pos (by rfl), heb]
    refine wpAny_bind (fr_push F' N' off (acc_fits (ps := repl :: ps) hacc'.length (hz ▸ hw)) fun h' k'' F'' N'' => ?_)
    rw [List.push_toArray] at N''
    refine wpAny_pure ⟨plainId_quiet plain_subloop _, ?_⟩
    have hz2 : (zs ++ [repl]) ++ ps = ys ++ ((if start < b then [⟨v.cps.extract start b⟩] else []) ++ repl :: ps) := by rw [← hz, List.append_assoc]; rfl
    refine ih _ _ (zs ++ [repl]) k'' (n + 1) R (StrsAre.append' hacc' (.cons _ _ .nil)) F'' N'' (by rw [hz2]; exact hw) (by rw [hz2]; exact hne) fun h' tk' t' F3 N3 => ?_
    have := hR h' tk' t' F3 N3
    rw [← e1, ← e2, ← e3, ← hz2] at this
    exact this
  by_cases hlt : start < b
  · rw [if_pos hlt]
    refine wpAny_bind (wpAny_mkStr ?_ (hext _ _))
    refine wpAny_bind (fr_push F N off ?_ fun h' k' F' N' => ?_)
    · exact acc_fits hacc.length hw
    · rw [List.push_toArray] at N'
      exact go _ _ k' (ys ++ [⟨v.cps.extract start b⟩]) rfl rfl rfl (StrsAre.append' hacc (.cons _ _ .nil)) F' N' (by rw [if_pos hlt]; exact List.append_assoc ..)
  · rw [if_neg hlt]
    exact go s acc k ys rfl rfl rfl hacc F N (by rw [if_neg hlt]; rfl)
theorem sub_loop {p a : Addr} {code : List Nat} {v repl : Str} {t tr : Tok} {start : Nat} {ps : List Str} (hpat : ∀ h : Heap, (∀ b o, h₀.get? b = some o → h.get? b = some o) → PatAt h p code) (off : ∀ q ∈ news, q.1 ≠ a) (hv : v.length ≤ 1048576) (H : Subs code v.cps repl start ps) : SubGo prog w A h₀ L m news p a v repl t tr start ps := by
  have hext : ∀ b e : Nat, (⟨v.cps.extract b e⟩ : Str).length ≤ sizeLine := ext_le (Nat.le_trans hv (by decide))
  induction H with
  | done H0 => exact sub_done hpat off hext H0
  | step H1 hbe _ ih => exact sub_step hpat off hext H1 hbe ih
theorem str_no_call : typeLookup (.type "str") "__call__" = pure none := by rw [typeLookup_type, builtinLookup_eq_fast]; kernel_rfl
theorem named_sub (a b : Value) : reNamed "re.Pattern.sub" "sub" ["repl", "string", "count"] 2 [a, b] [] = pure [some a, some b, none] := by rfl
/-- p.sub(repl, text), repl a text without a backslash -/
theorem call_sub : ∀ {prog : Program} {w : World} {A : Around} {E : Value → Shared → Prop} {s : Shared} {h₀ : Heap} {L : Addr} {m : Str → Option Value} {news : Led} {p : Addr} {code : List Nat} {v repl : Str} {t tr : Tok} {ps : List Str} {Q : Value → Shared → Prop} (F : Fr h₀ L s.heap m) (N : News h₀ L s.heap news) (hpat : ∀ h : Heap, (∀ b o, h₀.get? b = some o → h.get? b = some o) → PatAt h p code) (hv : v.length ≤ 1048576) (hr : (!repl.cps.contains 92) = true) (H : Subs code v.cps repl 0 ps) (hw : (ps.map (·.length)).sum + ps.length ≤ 1048576) (hne : ps ≠ []) (h : ∀ h' tk' t', Fr h₀ L h' m → News h₀ L h' news → Q (.str (Txt.join ⟨#[]⟩ ps) t') { s with heap := h', toks := tk' }), wpAny (model prog w) A (call (.builtin "re.Pattern.sub") [.ref p, .str repl tr, .str v t]) Q E s := by
  have skon : SkOn := .mk
  intro prog w A E s h₀ L m news p code v repl t tr ps Q F N hpat hv hr H hw hne h
  have P := hpat _ F.keep
  refine wpAny_call (codeAny_call_builtin slot_sub.plain entry_sub (slot_sub.check _ _ _ _ _ _ _ _ P.typeIs (args_sub _ _ _) ?_))
  show wpAny _ _ (reSubstitute "re.Pattern.sub" "sub" false ⟨[.ref p, .str repl tr, .str v t], []⟩) _ _ _
  unfold reSubstitute
  refine wpAny_bind (wpAny_of_eq (named_sub _ _) ?_)
  dsimp only
  refine wpAny_bind (wpAny_pure ?_)
  refine wpAny_bind (wpAny_specialOf_val (T := "str") (by rfl) str_no_call ?_)
  dsimp only [Option.isSome]
  rw [if_neg Bool.false_ne_true]
  refine wpAny_bind ?_
  refine wpAny_bind (wpAny_of_eq (a := some repl) rfl ?_)
  refine wpAny_pure ?_
  dsimp only
  refine wpAny_bind (wpAny_pure ?_)
  rw [if_neg Bool.false_ne_true, if_pos hr]
  refine wpAny_bind (wpAny_pure ?_)
  dsimp only
  refine wpAny_bind (wpAny_holding (wp_reWhole P ?_))
  rw [if_neg (show ¬ ((0 : Int) == 1) = true from Bool.false_ne_true)]
  refine wpAny_bind (wpAny_newList ?_ (Nat.zero_le _))
  refine wpAny_pure ⟨plainId_quiet plain_subloop _, ?_⟩
  exact sub_loop (news := news) hpat (fun q hq => Nat.ne_of_lt (Heap.lt_size (N q hq).1)) hv H { s with heap := s.heap.push (listOf #[] 0) } [] [] 0 0 _ .nil (F.push _) (News.push F N _ rfl) hw hne fun h' tk' t' F' N' => h h' tk' t' F' N'
end
theorem runFor_succ {n : Nat} {m : Sre.M} (h : m.outcome = none) : m.runFor (n + 1) = m.step.runFor n := by
  conv => lhs; unfold Sre.M.runFor
  rw [h]; rfl
theorem step_exec {m : Sre.M} (ho : m.outcome = none) (ha : m.answer = none) (hp : m.pc < m.code.size) : m.step = m.exec := by
  unfold Sre.M.step
  rw [ho, ha, if_pos hp]; rfl
theorem step_lit {m : Sre.M} (ho : m.outcome = none) (ha : m.answer = none) (hp : m.pc < m.code.size) (hop : ops[m.word 0]? = some .LITERAL) (hlt : m.pos < m.lim) :
    m.step = if (m.text.getD m.pos 0 == m.code.getD (m.pc + 1) 0) = true then { m with seen := m.seen.add (m.word 0), pc := m.pc + 2, pos := m.pos + 1 } else { m with seen := m.seen.add (m.word 0) }.say false := by
  rw [step_exec ho ha hp]
  unfold Sre.M.exec
  have hop' : ops[m.code.getD m.pc 0]? = some .LITERAL := hop
  have hacc : ∀ seen, accepts m.code m.pc (m.text.getD m.pos 0) seen = .ok (m.text.getD m.pos 0 == m.code.getD (m.pc + 1) 0, seen) := fun seen => by
    unfold accepts; rw [hop']
  have hwid : itemWidth m.code m.pc = 2 := by unfold itemWidth; rw [hop']
  rw [hop]
  dsimp only
  rw [if_neg (by omega), hacc]
  cases m.text.getD m.pos 0 == m.code.getD (m.pc + 1) 0 with
  | true => rw [if_pos rfl]; dsimp only; rw [hwid]
  | false => rfl
theorem step_lit_end {m : Sre.M} (ho : m.outcome = none) (ha : m.answer = none) (hp : m.pc < m.code.size) (hop : ops[m.word 0]? = some .LITERAL) (hlt : m.lim ≤ m.pos) :
    m.step = { m with seen := m.seen.add (m.word 0) }.say false := by
  rw [step_exec ho ha hp]
  unfold Sre.M.exec
  rw [hop]
  dsimp only
  rw [if_pos hlt]
theorem step_success {m : Sre.M} (ho : m.outcome = none) (ha : m.answer = none) (hp : m.pc < m.code.size) (hop : ops[m.word 0]? = some .SUCCESS) (h1 : m.wholeText = false) (h2 : m.mustAdvance = false) :
    m.step = { m with seen := m.seen.add (m.word 0), handed := m.pos }.say true := by
  rw [step_exec ho ha hp]
  unfold Sre.M.exec
  rw [hop]
  dsimp only
  rw [if_neg (by simp [h1, h2])]
theorem step_jump {m : Sre.M} (ho : m.outcome = none) (ha : m.answer = none) (hp : m.pc < m.code.size) (hop : ops[m.word 0]? = some .JUMP) :
    m.step = { m with seen := m.seen.add (m.word 0), pc := m.pc + 1 + m.word 1 } := by
  rw [step_exec ho ha hp]
  unfold Sre.M.exec
  rw [hop]; rfl
/-- the state of a try of a pattern at a place -/
noncomputable def tryAt (code text : Array Nat) (lim lastStart pc b : Nat) (seen : Sre.Seen) (first : Bool) : Sre.M :=
  { code := code, text := text, lim := lim, start := b, lastStart := lastStart, pc := pc, pos := b, handed := b, outermost := first, marks := #[], frames := [{ wait := .nextStart, pc := pc, pos := b, outermost := first }], weight := 1, seen := seen }
noncomputable def codeC : List Nat := [14, 9, 4, 1, 2, 16, 10, 16, 13, 0, 7, 7, 16, 13, 16, 10, 15, 18, 5, 16, 10, 15, 13, 11, 16, 13, 5, 5, 0, 16, 10, 1, 15, 2, 0, 1]
theorem crlf_run {text : Array Nat} {lim ls b : Nat} {seen : Sre.Seen} {first : Bool} (h1 : text.getD b 0 = 13) (h2 : text.getD (b + 1) 0 = 10) (hb : b + 1 < lim) :
    ((tryAt codeC.toArray text lim ls 10 b seen first).runFor 8).outcome = some .matched ∧ ((tryAt codeC.toArray text lim ls 10 b seen first).runFor 8).start = b ∧ ((tryAt codeC.toArray text lim ls 10 b seen first).runFor 8).handed = b + 2 := by
  unfold tryAt
  rw [runFor_succ rfl]
  rw [show Sre.M.step _ = ({ code := codeC.toArray, text := text, lim := lim, start := b, lastStart := ls, pc := 12, pos := b, handed := b, outermost := first, marks := #[], frames := [{ wait := .nextBranch, pc := 11, pos := b, outermost := first, kept := { } }, { wait := .nextStart, pc := 10, pos := b, outermost := first }], weight := 2, seen := seen.add 7 } : Sre.M) from rfl]
  rw [runFor_succ rfl, step_lit rfl rfl (Nat.le_of_ble_eq_true rfl) rfl (show b < lim from Nat.lt_of_succ_lt hb), if_pos (by show (text.getD b 0 == 13) = true; rw [h1]; rfl)]
  rw [runFor_succ rfl, step_lit rfl rfl (Nat.le_of_ble_eq_true rfl) rfl (show b + 1 < lim from hb), if_pos (by show (text.getD (b + 1) 0 == 10) = true; rw [h2]; rfl)]
  rw [runFor_succ rfl, step_jump rfl rfl (Nat.le_of_ble_eq_true rfl) rfl]
  rw [runFor_succ rfl, step_success rfl rfl (Nat.le_of_ble_eq_true rfl) rfl rfl rfl]
  exact ⟨rfl, rfl, rfl⟩
theorem srch_in {a z : Nat} (h : a < z) : ¬ (decide (a > z) || decide (z - a < 1)) = true := by
  rw [decide_eq_false (Nat.lt_asymm h), decide_eq_false (Nat.not_lt.mpr (Nat.sub_pos_of_lt h))]
  exact Bool.false_ne_true
theorem srch_out {a z : Nat} (h : ¬ a < z) : (decide (a > z) || decide (z - a < 1)) = true := by
  rw [decide_eq_true (Nat.lt_of_le_of_lt (Nat.le_of_eq (Nat.sub_eq_zero_of_le (Nat.not_lt.mp h))) Nat.one_pos), Bool.or_true]
theorem admitted_hit {code : List Nat} {m : Sre.M} (hc : m.code = code.toArray) {b : Nat} (hb : b < m.lim) (hin : ∀ seen, ∃ seen', inSet code.toArray (m.text.getD b 0) code.toArray.size 5 true seen = .ok (true, seen')) :
    ∀ (fuel s : Nat) (seen : Sre.Seen), s ≤ b → b - s < fuel → (∀ i, s ≤ i → i < b → ∀ seen, ∃ seen', inSet code.toArray (m.text.getD i 0) code.toArray.size 5 true seen = .ok (false, seen')) → ∃ seen', m.admitted fuel s seen = .ok (some b, seen') := by
  intro fuel
  induction fuel with
  | zero => intro s seen h1 h2; exact (Nat.not_lt_zero _ h2).elim
  | succ f ih =>
    intro s seen h1 h2 hoff
    unfold Sre.M.admitted
    rw [if_neg (Nat.not_le.mpr (Nat.lt_of_le_of_lt h1 hb)), hc]
    by_cases e : s = b
    · subst e
      obtain ⟨seen', e⟩ := hin seen
      rw [e]; exact ⟨_, rfl⟩
    · have hlt := Nat.lt_of_le_of_ne h1 e
      obtain ⟨seen', e'⟩ := hoff s (Nat.le_refl _) hlt seen
      rw [e']
      exact ih (s + 1) seen' hlt (Nat.lt_of_lt_of_le (Nat.sub_lt_sub_left hlt (Nat.lt_succ_self s)) (Nat.le_of_lt_succ h2)) fun i hi => hoff i (Nat.le_of_succ_le hi)
theorem set_C (c : Nat) (seen : Sre.Seen) : ∃ seen', inSet codeC.toArray c codeC.toArray.size 5 true seen = .ok (c == 10 || c == 13, seen') := by
  have s1 : inSet codeC.toArray c codeC.toArray.size 5 true seen = if (c == 10) = true then .ok (true, seen.add 16) else if (c == 13) = true then .ok (true, (seen.add 16).add 16) else .ok (!true, ((seen.add 16).add 16).add 0) := rfl
  rw [s1]
  cases c == 10 with
  | true => exact ⟨_, rfl⟩
  | false => cases c == 13 with
    | true => exact ⟨_, rfl⟩
    | false => exact ⟨_, rfl⟩
theorem forSearch_C {text : Array Nat} {start : Nat} (h : start < text.size) : Sre.forSearch codeC.toArray text 0 start text.size false = Sre.M.attemptFrom { code := codeC.toArray, text := text, lim := text.size, start := start, lastStart := text.size, pc := 10, pos := start, handed := start, marks := #[], seen := ({} : Sre.Seen).add 14 } start true := by
  unfold Sre.forSearch
  show (if (decide (start > text.size) || decide (text.size - start < 1)) = true then _ else _) = _
  rw [if_neg (srch_in h)]
  rfl
theorem set_Cf {c : Nat} (h : c ≠ 10 ∧ c ≠ 13) (seen : Sre.Seen) : ∃ seen', inSet codeC.toArray c codeC.toArray.size 5 true seen = .ok (false, seen') := by
  have z := set_C c seen
  rw [beq_eq_false_iff_ne.mpr h.1, beq_eq_false_iff_ne.mpr h.2] at z
  exact z
theorem hit_C : ∀ {text : Array Nat} {start b : Nat} (hs : start ≤ b) (hb : b + 1 < text.size) (h1 : text.getD b 0 = 13) (h2 : text.getD (b + 1) 0 = 10) (hoff : ∀ i, start ≤ i → i < b → text.getD i 0 ≠ 10 ∧ text.getD i 0 ≠ 13), Hit codeC text start b (b + 2) := by
  have skon : SkOn := .mk
  intro text start b hs hb h1 h2 hoff
  refine ⟨8, by decide, ?_⟩
  have hb' := Nat.lt_of_succ_lt hb
  rw [forSearch_C (Nat.lt_of_le_of_lt hs hb')]
  unfold Sre.M.attemptFrom
  rw [if_neg (by rw [show Sre.M.hasFirstSet _ = true from rfl]; decide)]
  obtain ⟨seen', e⟩ := admitted_hit (code := codeC) (m := { code := codeC.toArray, text := text, lim := text.size, start := start, lastStart := text.size, pc := 10, pos := start, handed := start, marks := #[], seen := ({} : Sre.Seen).add 14 }) rfl (b := b) hb' (fun seen => by rw [h1]; exact set_C 13 seen) (text.size + 1 - start) start (({} : Sre.Seen).add 14) hs (Nat.sub_lt_sub_right hs (Nat.lt_succ_of_lt hb')) fun i hi hi' seen => set_Cf (hoff i hi hi') seen
  rw [e]
  have := crlf_run (text := text) (lim := text.size) (ls := text.size) (b := b) (seen := seen') (first := true) h1 h2 hb
  exact this
theorem nohit_C {text : Array Nat} {start : Nat} (hs : start ≤ text.size) (hoff : ∀ i, start ≤ i → i < text.size → text.getD i 0 ≠ 10 ∧ text.getD i 0 ≠ 13) : NoHit codeC text start := by
  refine ⟨1, by decide, ?_⟩
  by_cases hlt : start < text.size
  · rw [forSearch_C hlt]
    unfold Sre.M.attemptFrom
    rw [if_neg (by rw [show Sre.M.hasFirstSet _ = true from rfl]; decide)]
    have key : ∀ (m : Sre.M), m.code = codeC.toArray → m.text = text → m.lim = text.size → ∀ (fuel s : Nat) (seen : Sre.Seen), start ≤ s → ∃ seen', m.admitted fuel s seen = .ok (none, seen') := by
      intro m hc ht hl fuel
      induction fuel with
      | zero => intro s seen _; exact ⟨seen, rfl⟩
      | succ f ih =>
        intro s seen hs
        unfold Sre.M.admitted
        by_cases hge : s ≥ m.lim
        · rw [if_pos hge]; exact ⟨_, rfl⟩
        · rw [if_neg hge, hc, ht]
          obtain ⟨sn, e⟩ := set_Cf (hoff s hs (hl ▸ Nat.lt_of_not_le hge)) seen
          rw [e]
          exact ih (s + 1) sn (Nat.le_succ_of_le hs)
    obtain ⟨seen', e⟩ := key { code := codeC.toArray, text := text, lim := text.size, start := start, lastStart := text.size, pc := 10, pos := start, handed := start, marks := #[], seen := ({} : Sre.Seen).add 14 } rfl rfl rfl (text.size + 1 - start) start (({} : Sre.Seen).add 14) (Nat.le_refl _)
    rw [e]
    exact say_fin rfl rfl
  · unfold Sre.forSearch
    show (Sre.M.runFor 1 (if (decide (start > text.size) || decide (text.size - start < 1)) = true then _ else _)).outcome = _
    rw [if_pos (srch_out hlt)]
    exact say_fin rfl rfl
end
section
open PySem.Sre PySem.Builtin.Re
noncomputable def bol (text : Array Nat) (i : Nat) : Bool := i == 0 || text.getD (i - 1) 0 == 10
theorem step_at {m : Sre.M} (ho : m.outcome = none) (ha : m.answer = none) (hp : m.pc < m.code.size) (hop : ops[m.word 0]? = some .AT) (hw : m.word 1 = 1) :
    m.step = if bol m.text m.pos = true then { m with seen := (m.seen.add (m.word 0)).add (43 + 1), pc := m.pc + 2 } else Sre.M.say { m with seen := (m.seen.add (m.word 0)).add (43 + 1) } false := by
  rw [step_exec ho ha hp]
  unfold Sre.M.exec
  have h1 : ∀ q : Sre.Seen, Sre.M.word { m with seen := q } 1 = 1 := fun _ => hw
  have hb : Sre.M.isAt { m with seen := m.seen.add (m.word 0) } 1 = .ok (bol m.text m.pos) := rfl
  rw [hop]
  dsimp only
  rw [h1, hb]
noncomputable def codeD : List Nat := [14, 4, 0, 1, 1, 6, 1, 16, 46, 1]
theorem d_next {text : Array Nat} {lim i : Nat} {seen : Sre.Seen} {first : Bool} (hi : i < lim) (h : (bol text i && text.getD i 0 == 46) = false) :
    ∃ k seen', k ≤ 3 ∧ (tryAt codeD.toArray text lim lim 5 i seen first).runFor k = tryAt codeD.toArray text lim lim 5 (i + 1) seen' false := by
  have res : ∀ (sn : Sre.Seen), Sre.M.step { code := codeD.toArray, text := text, lim := lim, start := i, lastStart := lim, pc := 5, pos := i, handed := i, outermost := first, marks := #[], frames := [{ wait := .nextStart, pc := 5, pos := i, outermost := first }], weight := 1, seen := sn, answer := some false } = tryAt codeD.toArray text lim lim 5 (i + 1) sn false := fun sn => by
    show (if i < lim then _ else _) = _
    rw [if_pos hi]; rfl
  have res7 : ∀ (sn : Sre.Seen), Sre.M.step { code := codeD.toArray, text := text, lim := lim, start := i, lastStart := lim, pc := 7, pos := i, handed := i, outermost := first, marks := #[], frames := [{ wait := .nextStart, pc := 5, pos := i, outermost := first }], weight := 1, seen := sn, answer := some false } = tryAt codeD.toArray text lim lim 5 (i + 1) sn false := fun sn => by
    show (if i < lim then _ else _) = _
    rw [if_pos hi]; rfl
  cases hb : bol text i with
  | false =>
    refine ⟨2, (seen.add 6).add 44, by decide, ?_⟩
    rw [runFor_succ rfl, show tryAt codeD.toArray text lim lim 5 i seen first = { code := codeD.toArray, text := text, lim := lim, start := i, lastStart := lim, pc := 5, pos := i, handed := i, outermost := first, marks := #[], frames := [{ wait := .nextStart, pc := 5, pos := i, outermost := first }], weight := 1, seen := seen } from rfl, step_at rfl rfl (Nat.le_of_ble_eq_true rfl) rfl rfl, if_neg (by show ¬ bol text i = true; rw [hb]; decide)]
    rw [runFor_succ rfl]
    exact res _
  | true =>
    rw [hb, Bool.true_and] at h
    refine ⟨3, ((seen.add 6).add 44).add 16, by decide, ?_⟩
    rw [runFor_succ rfl, show tryAt codeD.toArray text lim lim 5 i seen first = { code := codeD.toArray, text := text, lim := lim, start := i, lastStart := lim, pc := 5, pos := i, handed := i, outermost := first, marks := #[], frames := [{ wait := .nextStart, pc := 5, pos := i, outermost := first }], weight := 1, seen := seen } from rfl, step_at rfl rfl (Nat.le_of_ble_eq_true rfl) rfl rfl, if_pos (by show bol text i = true; exact hb)]
    rw [runFor_succ rfl, step_lit rfl rfl (Nat.le_of_ble_eq_true rfl) rfl hi, if_neg (by show ¬ (text.getD i 0 == 46) = true; rw [h]; decide)]
    rw [runFor_succ rfl]
    exact res7 _
theorem d_scan {text : Array Nat} {lim b : Nat} (hb : b ≤ lim) (n : Nat) : ∀ (i : Nat) (seen : Sre.Seen) (first : Bool), i + n = b → (∀ j, i ≤ j → j < b → (bol text j && text.getD j 0 == 46) = false) →
    ∃ k seen' first', k ≤ 3 * n ∧ (tryAt codeD.toArray text lim lim 5 i seen first).runFor k = tryAt codeD.toArray text lim lim 5 b seen' first' := by
  induction n with
  | zero => exact fun i seen first e _ => ⟨0, seen, first, Nat.le_refl _, by cases e; rfl⟩
  | succ n ih =>
    intro i seen first e h
    have hlt : i < b := Nat.lt_of_lt_of_eq (Nat.lt_add_of_pos_right (Nat.succ_pos n)) e
    obtain ⟨k1, s1, h1, e1⟩ := d_next (text := text) (lim := lim) (i := i) (seen := seen) (first := first) (Nat.lt_of_lt_of_le hlt hb) (h i (Nat.le_refl _) hlt)
    obtain ⟨k2, s2, f2, h2, e2⟩ := ih (i + 1) s1 false ((Nat.add_right_comm i 1 n).trans e) fun j hj => h j (Nat.le_of_succ_le hj)
    exact ⟨k1 + k2, s2, f2, Nat.le_trans (Nat.add_le_add h1 h2) (Nat.le_of_eq (Nat.add_comm _ _)), by rw [runFor_add, e1, e2]⟩
theorem run_fits {k n m z : Nat} (hk : k ≤ 3 * n) (hn : n ≤ z) (hz : z ≤ 1048576) (hm : m ≤ 5) : k + m ≤ 2 ^ 64 :=
  Nat.le_trans (Nat.add_le_add (Nat.le_trans hk (Nat.mul_le_mul_left 3 (Nat.le_trans hn hz))) hm) (by decide)
theorem d_here {text : Array Nat} {lim b : Nat} {seen : Sre.Seen} {first : Bool} (hb : b < lim) (h1 : bol text b = true) (h2 : text.getD b 0 = 46) :
    ((tryAt codeD.toArray text lim lim 5 b seen first).runFor 5).outcome = some .matched ∧ ((tryAt codeD.toArray text lim lim 5 b seen first).runFor 5).start = b ∧ ((tryAt codeD.toArray text lim lim 5 b seen first).runFor 5).handed = b + 1 := by
  unfold tryAt
  rw [runFor_succ rfl, step_at rfl rfl (Nat.le_of_ble_eq_true rfl) rfl rfl, if_pos (by show bol text b = true; exact h1)]
  rw [runFor_succ rfl, step_lit rfl rfl (Nat.le_of_ble_eq_true rfl) rfl hb, if_pos (by show (text.getD b 0 == 46) = true; rw [h2]; rfl)]
  rw [runFor_succ rfl, step_success rfl rfl (Nat.le_of_ble_eq_true rfl) rfl rfl rfl]
  exact ⟨rfl, rfl, rfl⟩
theorem d_none {text : Array Nat} {lim : Nat} {seen : Sre.Seen} {first : Bool} : ∃ k, k ≤ 4 ∧ ((tryAt codeD.toArray text lim lim 5 lim seen first).runFor k).outcome = some .failed := by
  have res : ∀ (pc : Nat) (sn : Sre.Seen), (Sre.M.runFor 2 { code := codeD.toArray, text := text, lim := lim, start := lim, lastStart := lim, pc := pc, pos := lim, handed := lim, outermost := first, marks := #[], frames := [{ wait := .nextStart, pc := 5, pos := lim, outermost := first }], weight := 1, seen := sn, answer := some false }).outcome = some .failed := fun pc sn => by
    rw [runFor_succ rfl]
    have e : Sre.M.step { code := codeD.toArray, text := text, lim := lim, start := lim, lastStart := lim, pc := pc, pos := lim, handed := lim, outermost := first, marks := #[], frames := [{ wait := .nextStart, pc := 5, pos := lim, outermost := first }], weight := 1, seen := sn, answer := some false } = { code := codeD.toArray, text := text, lim := lim, start := lim, lastStart := lim, pc := 5, pos := lim, handed := lim, outermost := first, marks := #[], frames := [], weight := 0, seen := sn, answer := some false } := by
      show (if lim < lim then _ else _) = _
      rw [if_neg (Nat.lt_irrefl _)]; rfl
    rw [e]; rfl
  cases hb : bol text lim with
  | false =>
    refine ⟨3, by decide, ?_⟩
    unfold tryAt
    rw [runFor_succ rfl, step_at rfl rfl (Nat.le_of_ble_eq_true rfl) rfl rfl, if_neg (by show ¬ bol text lim = true; rw [hb]; decide)]
    exact res 5 _
  | true =>
    refine ⟨4, by decide, ?_⟩
    unfold tryAt
    rw [runFor_succ rfl, step_at rfl rfl (Nat.le_of_ble_eq_true rfl) rfl rfl, if_pos (by show bol text lim = true; exact hb)]
    rw [runFor_succ rfl, step_lit_end rfl rfl (Nat.le_of_ble_eq_true rfl) rfl (Nat.le_refl _)]
    exact res 7 _
theorem forSearch_D {text : Array Nat} {start : Nat} (h : start < text.size) : Sre.forSearch codeD.toArray text 0 start text.size false = tryAt codeD.toArray text text.size text.size 5 start (({} : Sre.Seen).add 14) true := by
  unfold Sre.forSearch
  show (if (decide (start > text.size) || decide (text.size - start < 1)) = true then _ else _) = _
  rw [if_neg (srch_in h)]
  rfl
theorem hit_D {text : Array Nat} {start b : Nat} (hz : text.size ≤ 1048576) (hs : start ≤ b) (hb : b < text.size) (h1 : bol text b = true) (h2 : text.getD b 0 = 46) (hoff : ∀ j, start ≤ j → j < b → (bol text j && text.getD j 0 == 46) = false) : Hit codeD text start b (b + 1) := by
  obtain ⟨k, sn, f, hk, e⟩ := d_scan (text := text) (lim := text.size) (b := b) (Nat.le_of_lt hb) (b - start) start (({} : Sre.Seen).add 14) true (Nat.add_sub_cancel' hs) hoff
  refine ⟨k + 5, run_fits hk (Nat.le_trans (Nat.sub_le _ _) (Nat.le_of_lt hb)) hz (Nat.le_refl _), ?_⟩
  rw [forSearch_D (Nat.lt_of_le_of_lt hs hb), runFor_add, e]
  exact d_here hb h1 h2
theorem nohit_D {text : Array Nat} {start : Nat} (hz : text.size ≤ 1048576) (hs : start ≤ text.size) (hoff : ∀ j, start ≤ j → j < text.size → (bol text j && text.getD j 0 == 46) = false) : NoHit codeD text start := by
  by_cases hlt : start < text.size
  · obtain ⟨k, sn, f, hk, e⟩ := d_scan (text := text) (lim := text.size) (b := text.size) (Nat.le_refl _) (text.size - start) start (({} : Sre.Seen).add 14) true (Nat.add_sub_cancel' hs) hoff
    obtain ⟨k2, hk2, e2⟩ := d_none (text := text) (lim := text.size) (seen := sn) (first := f)
    refine ⟨k + k2, run_fits hk (Nat.sub_le _ _) hz (Nat.le_succ_of_le hk2), ?_⟩
    rw [forSearch_D hlt, runFor_add, e]; exact e2
  · refine ⟨1, by decide, ?_⟩
    unfold Sre.forSearch
    show (Sre.M.runFor 1 (if (decide (start > text.size) || decide (text.size - start < 1)) = true then _ else _)).outcome = _
    rw [if_pos (srch_out hlt)]
    rfl
/-- each dot has a sign ahead that is no feed -/
noncomputable def Safe (g : List Nat) : Prop := ∀ j, g[j]? = some 46 → ∃ k, j = k + 1 ∧ g[k]? ≠ some 10
theorem Safe.append {g k : List Nat} (hg : Safe g) (hk : Safe k) : Safe (g ++ k) := fun j hj => by
  rcases Nat.lt_or_ge j g.length with hl | hl
  · obtain ⟨i, rfl, h⟩ := hg j ((List.getElem?_append_left hl).symm.trans hj)
    exact ⟨i, rfl, fun e => h ((List.getElem?_append_left (Nat.lt_of_succ_lt hl)).symm.trans e)⟩
  · obtain ⟨i, e, h⟩ := hk _ ((List.getElem?_append_right hl).symm.trans hj)
    refine ⟨i + g.length, (Nat.sub_add_cancel hl).symm.trans ((congrArg (· + g.length) e).trans (Nat.add_right_comm i 1 g.length)), fun e2 => h ?_⟩
    rw [List.getElem?_append_right (Nat.le_add_left _ _), Nat.add_sub_cancel] at e2
    exact e2
theorem Safe.nil : Safe [] := fun j h => by simp at h
theorem safe_of {x : Nat} {l : List Nat} (hx : x ≠ 46) (h0 : x ≠ 10) (hl : ∀ y ∈ l, y ≠ 10) : Safe (x :: l) := fun j hj => by
  cases j with
  | zero => simp at hj; omega
  | succ j =>
    refine ⟨j, rfl, fun h => ?_⟩
    have : (10 : Nat) ∈ x :: l := List.mem_of_getElem? h
    rcases List.mem_cons.mp this with e | h
    · exact h0 e.symm
    · exact hl _ h rfl
theorem safe_crlf : Safe [13, 10] := fun j hj => by
  match j, hj with
  | 0, hj => simp at hj
  | 1, hj => simp at hj
theorem getD_app {l k : List Nat} {i : Nat} (h : l.length ≤ i) : (l ++ k).toArray.getD i 0 = k.getD (i - l.length) 0 := by
  simp [List.getElem?_append_right h]
theorem getD_lt {l k : List Nat} {i : Nat} (h : i < l.length) : (l ++ k).toArray.getD i 0 = l.getD i 0 := by
  simp [List.getElem?_append_left h]
theorem get_of_getD {g : List Nat} {i v : Nat} (h : i < g.length) (e : g.getD i 0 = v) : g[i]? = some v := by
  rw [List.getD_eq_getElem?_getD, List.getElem?_eq_getElem h] at e
  exact (List.getElem?_eq_getElem h).trans (congrArg some e)
theorem safe_zone {pre g post : List Nat} (hg : Safe g) {j : Nat} (h1 : pre.length ≤ j) (h2 : j < pre.length + g.length) : (bol (pre ++ g ++ post).toArray j && (pre ++ g ++ post).toArray.getD j 0 == 46) = false := by
  have key : ∀ i, i < g.length → (pre ++ g ++ post).toArray.getD (pre.length + i) 0 = g.getD i 0 := fun i hi => by
    rw [List.append_assoc, getD_app (Nat.le_add_right _ _), Nat.add_sub_cancel_left, List.getD_eq_getElem?_getD, List.getElem?_append_left hi, ← List.getD_eq_getElem?_getD]
  obtain ⟨i, rfl⟩ : ∃ i, j = pre.length + i := ⟨j - pre.length, (Nat.add_sub_cancel' h1).symm⟩
  have hlt := Nat.lt_of_add_lt_add_left h2
  rw [key i hlt]
  by_cases h46 : g.getD i 0 = 46
  · obtain ⟨k, rfl, hk⟩ := hg i (get_of_getD hlt h46)
    have hlk := Nat.lt_of_succ_lt hlt
    have e2 : bol (pre ++ g ++ post).toArray (pre.length + (k + 1)) = false := by
      unfold bol
      rw [Bool.or_eq_false_iff]
      refine ⟨beq_eq_false_iff_ne.mpr (Nat.succ_ne_zero _), ?_⟩
      show ((pre ++ g ++ post).toArray.getD (pre.length + k) 0 == 10) = false
      rw [key k hlk]
      exact beq_eq_false_iff_ne.mpr fun e => hk (get_of_getD hlk e)
    rw [e2]; rfl
  · rw [beq_eq_false_iff_ne.mpr h46, Bool.and_false]
noncomputable abbrev Ln := Bool × List Nat
noncomputable def lnC (l : Ln) : List Nat := (if l.1 then [46] else []) ++ l.2 ++ [13, 10]
noncomputable def lnQ (l : Ln) : List Nat := (if l.1 then [46, 46] else []) ++ l.2 ++ [13, 10]
noncomputable def mk (l : List Nat) : Str := ⟨l.toArray⟩
theorem ext_mid {pre g post : List Nat} : ((pre ++ g ++ post).toArray.extract pre.length (pre.length + g.length)) = g.toArray := by
  simp
/-- the dots doubled -/
theorem len3 {pre g post : List Nat} : (pre ++ g ++ post).length = pre.length + g.length + post.length := by rw [List.length_append, List.length_append]
theorem subs_last {code T pre g : List Nat} {r : Str} (hT : T = pre ++ g ++ []) (hg : 0 < g.length) (nh : NoHit code T.toArray pre.length) : Subs code T.toArray r pre.length [mk g] := by
  have z := Subs.done (repl := r) nh
  have e : T.toArray.size = pre.length + g.length := by rw [hT]; exact len3
  rw [e, if_pos (Nat.lt_add_of_pos_right hg), hT, ext_mid, ← hT] at z
  exact z
theorem subs_step {code T pre g post r : List Nat} {k : Nat} {ps : List Str} (hT : T = pre ++ g ++ post) (hk : 0 < k) (hit : Hit code T.toArray pre.length (pre.length + g.length) (pre.length + g.length + k)) (h : Subs code T.toArray (mk r) (pre.length + g.length + k) ps) (hr : 1 ≤ r.length) (h3 : ∀ p ∈ ps, 1 ≤ p.length) :
    ∃ qs, Subs code T.toArray (mk r) pre.length qs ∧ (qs.map (·.cps.toList)).flatten = g ++ (r ++ (ps.map (·.cps.toList)).flatten) ∧ (∀ p ∈ qs, 1 ≤ p.length) ∧ qs ≠ [] := by
  have z := Subs.step hit (Nat.lt_add_of_pos_right hk) h
  have e : T.toArray.extract pre.length (pre.length + g.length) = g.toArray := by rw [hT]; exact ext_mid
  rw [e] at z
  have h4 : ∀ p ∈ mk r :: ps, 1 ≤ p.length := fm hr h3
  cases g with
  | nil =>
    rw [if_neg (show ¬ pre.length < pre.length + ([] : List Nat).length from Nat.lt_irrefl _)] at z
    exact ⟨_, z, rfl, h4, List.cons_ne_nil _ _⟩
  | cons a g =>
    rw [if_pos (show pre.length < pre.length + (a :: g).length from Nat.lt_add_of_pos_right (Nat.succ_pos _))] at z
    exact ⟨_, z, rfl, fm (Nat.succ_pos _) h4, List.cons_ne_nil _ _⟩
theorem subs_D {T tl : List Nat} (hz : T.length ≤ 1048576) (htl : Safe tl) (hne : tl ≠ []) :
    ∀ (ls : List Ln) (pre pend : List Nat), (∀ l ∈ ls, Safe l.2) → T = pre ++ pend ++ ((ls.map lnC).flatten ++ tl) → Safe pend → (pre ++ pend = [] ∨ ∃ l, pre ++ pend = l ++ [10]) →
      ∃ ps, Subs codeD T.toArray (mk [46, 46]) pre.length ps ∧ (ps.map (·.cps.toList)).flatten = pend ++ ((ls.map lnQ).flatten ++ tl) ∧ (∀ p ∈ ps, 1 ≤ p.length) ∧ ps ≠ [] := by
  intro ls
  induction ls with
  | nil =>
    intro pre pend _ hT hp hb
    have hT' : T = pre ++ (pend ++ tl) ++ [] := hT.trans ((List.append_assoc pre pend tl).trans (List.append_nil _).symm)
    have hg : 0 < (pend ++ tl).length := by rw [List.length_append]; exact Nat.add_pos_right _ (List.length_pos_iff.mpr hne)
    have hlen : T.toArray.size = pre.length + (pend ++ tl).length := by rw [hT']; exact len3
    refine ⟨[mk (pend ++ tl)], subs_last hT' hg (nohit_D hz (hlen ▸ Nat.le_add_right _ _) fun j h1 h2 => ?_), List.append_nil _, fun p hp => ?_, List.cons_ne_nil _ _⟩
    · rw [hlen] at h2
      rw [hT']
      exact safe_zone (hp.append htl) h1 h2
    · cases List.mem_singleton.mp hp
      exact hg
  | cons l ls ih =>
    intro pre pend hls hT hp hb
    have hl := hls l (.head _)
    obtain ⟨dot, body⟩ := l
    cases dot with
    | false =>
      obtain ⟨ps, h1, h2, h3, h4⟩ := ih pre (pend ++ (body ++ [13, 10])) (fun x hx => hls x (.tail _ hx)) (by rw [hT]; simp [lnC]) (hp.append (hl.append safe_crlf)) (.inr ⟨pre ++ pend ++ body ++ [13], by simp⟩)
      exact ⟨ps, h1, by rw [h2]; simp [lnQ], h3, h4⟩
    | true =>
      obtain ⟨ps, h1, h2, h3, h4⟩ := ih (pre ++ pend ++ [46]) (body ++ [13, 10]) (fun x hx => hls x (.tail _ hx)) (by rw [hT]; simp [lnC]) (hl.append safe_crlf) (.inr ⟨pre ++ pend ++ [46] ++ body ++ [13], by simp⟩)
      have hT' : T = pre ++ pend ++ (46 :: (body ++ [13, 10] ++ ((ls.map lnC).flatten ++ tl))) := by rw [hT]; simp [lnC]
      have hlen := (congrArg List.length hT').trans len3
      have hit : Hit codeD T.toArray pre.length (pre.length + pend.length) (pre.length + pend.length + 1) := by
        refine hit_D hz (Nat.le_add_right _ _) (Nat.lt_of_lt_of_eq (Nat.lt_add_of_pos_right (Nat.succ_pos _)) hlen.symm) ?_ ?_ fun j h1 h2 => by rw [hT']; exact safe_zone hp h1 h2
        · unfold bol
          rcases hb with hb | ⟨l, hb⟩
          · have : pre.length + pend.length = 0 := by rw [← List.length_append, hb]; rfl
            rw [this]; rfl
          · have e : pre.length + pend.length = l.length + 1 := by rw [← List.length_append, hb, List.length_append]; rfl
            rw [e, hT', hb, Nat.add_sub_cancel, List.append_assoc, getD_app (Nat.le_refl _), Nat.sub_self]
            exact Bool.or_true _
        · rw [hT', ← List.length_append, getD_app (Nat.le_refl _), Nat.sub_self]; rfl
      rw [len3] at h1
      obtain ⟨qs, k1, k2, k3, k4⟩ := subs_step hT' Nat.one_pos hit h1 (Nat.le_of_ble_eq_true rfl) h3
      exact ⟨qs, k1, by rw [k2, h2]; simp [lnQ], k3, k4⟩
/-- the feeds kept -/
theorem subs_C {T tl : List Nat} (htl : ∀ c ∈ tl, c ≠ 10 ∧ c ≠ 13) (hne : tl ≠ []) :
    ∀ (ls : List (List Nat)) (pre : List Nat), (∀ l ∈ ls, ∀ c ∈ l, c ≠ 10 ∧ c ≠ 13) → T = pre ++ ((ls.map (· ++ [13, 10])).flatten ++ tl) →
      ∃ ps, Subs codeC T.toArray (mk [13, 10]) pre.length ps ∧ (ps.map (·.cps.toList)).flatten = (ls.map (· ++ [13, 10])).flatten ++ tl ∧ (∀ p ∈ ps, 1 ≤ p.length) ∧ ps ≠ [] := by
  have off : ∀ (pre g post : List Nat) (i : Nat), (∀ c ∈ g, c ≠ 10 ∧ c ≠ 13) → pre.length ≤ i → i < pre.length + g.length → (pre ++ g ++ post).toArray.getD i 0 ≠ 10 ∧ (pre ++ g ++ post).toArray.getD i 0 ≠ 13 := fun pre g post i hg h1 h2 => by
    rw [List.append_assoc, getD_app h1]
    have hlt : i - pre.length < g.length := Nat.sub_lt_left_of_lt_add h1 h2
    have e : (g ++ post).getD (i - pre.length) 0 = g[i - pre.length] := by
      rw [List.getD_eq_getElem?_getD, List.getElem?_append_left hlt, List.getElem?_eq_getElem hlt]; rfl
    rw [e]
    exact hg _ (List.getElem_mem hlt)
  intro ls
  induction ls with
  | nil =>
    intro pre _ hT
    have hT' : T = pre ++ tl ++ [] := hT.trans (List.append_nil _).symm
    have hg : 0 < tl.length := List.length_pos_iff.mpr hne
    have hlen : T.toArray.size = pre.length + tl.length := by rw [hT']; exact len3
    refine ⟨[mk tl], subs_last hT' hg (nohit_C (hlen ▸ Nat.le_add_right _ _) fun j h1 h2 => ?_), List.append_nil _, fun p hp => ?_, List.cons_ne_nil _ _⟩
    · rw [hlen] at h2
      rw [hT']
      exact off pre tl [] j htl h1 h2
    · cases List.mem_singleton.mp hp
      exact hg
  | cons l ls ih =>
    intro pre hls hT
    have hl := hls l (.head _)
    obtain ⟨ps, h1, h2, h3, h4⟩ := ih (pre ++ l ++ [13, 10]) (fun x hx => hls x (.tail _ hx)) (by rw [hT]; simp)
    have hT' : T = pre ++ l ++ (13 :: 10 :: ((ls.map (· ++ [13, 10])).flatten ++ tl)) := by rw [hT]; simp
    have hlen := (congrArg List.length hT').trans len3
    have hit : Hit codeC T.toArray pre.length (pre.length + l.length) (pre.length + l.length + 2) := by
      refine hit_C (Nat.le_add_right _ _) (Nat.lt_of_lt_of_eq (Nat.add_lt_add_left (Nat.succ_lt_succ (Nat.succ_pos _)) _) hlen.symm) ?_ ?_ fun i h1 h2 => by rw [hT']; exact off pre l _ i hl h1 h2
      · rw [hT', ← List.length_append, getD_app (Nat.le_refl _), Nat.sub_self]; rfl
      · rw [hT', ← List.length_append, getD_app (Nat.le_add_right _ _), Nat.add_sub_cancel_left]; rfl
    rw [len3] at h1
    obtain ⟨qs, k1, k2, k3, k4⟩ := subs_step hT' (Nat.succ_pos 1) hit h1 (Nat.le_of_ble_eq_true rfl) h3
    exact ⟨qs, k1, by rw [k2, h2]; simp, k3, k4⟩
end
section
noncomputable def keyS (r : Rec) : Str := mk r.key
noncomputable def valS (r : Rec) : Str := ⟨#[r.p, r.q]⟩
noncomputable def Rok (r : Rec) : Prop := r.a ∈ letN ∧ (∀ b, r.b = some b → b ∈ letN) ∧ r.p ∈ letN ∧ r.q ∈ [38, 60, 34, 9, 62, 46, 10]
noncomputable def lows (r : Rec) : List Nat := r.nm.map lo1
noncomputable def alike (c r : Rec) : Bool := r.dot == c.dot && lows r == lows c
inductive Ans
  | none
  | zero
  | str (p q : Nat)
instance : Nonempty Ans := ⟨.none⟩
noncomputable def AnsIs : Ans → Value → Prop
  | .none, v => v = .none
  | .zero, v => ∃ t, v = .int 0 t
  | .str p q, v => ∃ t, v = .str ⟨#[p, q]⟩ t
noncomputable def stepR (deed : Int) (c : Rec) (rs : List Rec) : List Rec × Ans :=
  if deed = 0 then (if c.q = 10 then (rs.filter (fun r => !alike c r), .zero) else (rs.filter (fun r => !alike c r) ++ [c], .none))
  else if deed = 1 then (rs.filter (fun r => !alike c r), .none)
  else if deed = 2 then (match rs.find? (alike c) with
    | some r => (rs, .str r.p r.q)
    | none => if c.q = 10 then (rs, .zero) else (rs ++ [c], .str c.p c.q))
  else if c.q = 10 then (rs, .zero) else (rs ++ [c], .none)
theorem let_rng {c : Nat} (h : c ∈ letN) : 64 < c ∧ c < 127 := by
  have : ∀ x ∈ letN, 64 < x ∧ x < 127 := by decide
  exact this c h
theorem let_lo {c : Nat} (h : c ∈ letN) : 64 < lo1 c ∧ lo1 c < 127 := by
  have : ∀ x ∈ letN, 64 < lo1 x ∧ lo1 x < 127 := by decide
  exact this c h
theorem let_small {c : Nat} (h : c ∈ letN) : ((c : Int) - 64) + (if 0 < (c : Int) - 64 ∧ (c : Int) - 64 < 27 then 32 else 0) = (lo1 c : Int) - 64 := by
  have : ∀ x ∈ letN, ((x : Int) - 64) + (if 0 < (x : Int) - 64 ∧ (x : Int) - 64 < 27 then 32 else 0) = (lo1 x : Int) - 64 := by decide
  exact this c h
theorem mark_rng {q : Nat} (h : q ∈ [38, 60, 34, 9, 62, 46, 10]) : q < 64 := by
  have : ∀ x ∈ [38, 60, 34, 9, 62, 46, 10], x < 64 := by decide
  exact this q h
theorem Rok.ok {r : Rec} (h : Rok r) : r.ok := ⟨let_rng h.1, fun b hb => let_rng (h.2.1 b hb), let_rng h.2.2.1, mark_rng h.2.2.2⟩
theorem nm_let {r : Rec} (h : Rok r) : ∀ c ∈ r.nm, c ∈ letN := fun c hc => by
  rcases List.mem_cons.mp hc with rfl | hc
  · exact h.1
  · exact h.2.1 c (by simpa using hc)
theorem smallI_one (x : Int) : smallI [x] = x + (if 0 < x ∧ x < 27 then 32 else 0) := by
  unfold smallI; simp only [List.foldl_cons, List.foldl_nil]; omega
theorem small_of : ∀ {r : Rec} (h : Rok r), smallOf r.num = match r.b with
    | none => (lo1 r.a : Int) - 64
    | some b => 64 * ((lo1 r.a : Int) - 64) + ((lo1 b : Int) - 64) := by
  have skon : SkOn := .mk
  intro r h
  have ha := let_rng h.1
  have hs := let_small h.1
  have hb := h.2.1
  unfold smallOf Rec.num
  have hl : ((r.a - 64 : Nat) : Int) = (r.a : Int) - 64 := Int.ofNat_sub (Nat.le_of_lt ha.1)
  have l64 : r.a - 64 < 64 := by clear hs hb hl; omega
  cases hr : r.b with
  | none =>
    simp only
    rw [← hl, Int.toNat_natCast, digs_small l64, smallI_one, hl, hs]
  | some b =>
    have hb1 := let_rng (hb b hr)
    have hb2 := let_small (hb b hr)
    have hl2 : ((b - 64 : Nat) : Int) = (b : Int) - 64 := Int.ofNat_sub (Nat.le_of_lt hb1.1)
    have m64 : b - 64 < 64 := by clear hs hb hl hl2 l64 hb2; omega
    have n64 : ¬ 64 * (r.a - 64) + (b - 64) < 64 := by clear hs hb hl hl2 l64 hb2 m64; omega
    have e : (64 * (((r.a - 64 : Nat) : Int)) + ((b - 64 : Nat) : Int)).toNat = 64 * (r.a - 64) + (b - 64) := Int.toNat_natCast _
    have e2 : (64 * (r.a - 64) + (b - 64)) / 64 = r.a - 64 := by rw [Nat.mul_add_div (by decide), Nat.div_eq_of_lt m64]; rfl
    have e3 : (64 * (r.a - 64) + (b - 64)) % 64 = b - 64 := by rw [Nat.mul_add_mod, Nat.mod_eq_of_lt m64]
    simp only
    rw [← hl, ← hl2, e, digs_big n64, e2, e3, smallI_snoc, digs_small l64, smallI_one, hl, hl2, hs, Int.add_assoc, hb2]
theorem small_alike : ∀ {c r : Rec} (hc : Rok c) (hr : Rok r), (smallOf r.num == smallOf c.num) = (lows r == lows c) := by
  have skon : SkOn := .mk
  intro c r hc hr
  rw [small_of hc, small_of hr]
  have h1 := let_lo hc.1
  have h2 := let_lo hr.1
  have h3 := hc.2.1
  have h4 := hr.2.1
  rw [Bool.eq_iff_iff, beq_iff_eq, beq_iff_eq]
  unfold lows Rec.nm
  cases hcb : c.b with
  | none =>
    cases hrb : r.b with
    | none =>
      simp only [Option.toList, List.map_cons, List.map_nil, List.cons.injEq, and_true]
      omega
    | some b =>
      have hb := let_lo (h4 b hrb)
      simp only [Option.toList, List.map_cons, List.map_nil, List.cons.injEq, reduceCtorEq, and_false, iff_false]
      omega
  | some d =>
    have hd := let_lo (h3 d hcb)
    cases hrb : r.b with
    | none =>
      simp only [Option.toList, List.map_cons, List.map_nil, List.cons.injEq, reduceCtorEq, and_false, iff_false]
      omega
    | some b =>
      have hb := let_lo (h4 b hrb)
      simp only [Option.toList, List.map_cons, List.map_nil, List.cons.injEq, and_true]
      omega
theorem alike_ro {c r : Rec} {o : Ro} (hc : Rok c) (hr : Rok r) (e : o.row = r.row) : alikeP c.dot c.num o = alike c r := by
  have e1 : o.dot = r.dot := congrArg (fun z : Row => z.1) e
  have e2 : o.num = r.num := congrArg (fun z : Row => z.2.1) e
  unfold alikeP alike
  rw [e1, e2, small_alike hc hr]
theorem lower_key : ∀ {r : Rec} (h : Rok r), Txt.lower (keyS r) = mk ((if r.dot then [46] else []) ++ lows r) := by
  have skon : SkOn := .mk
  intro r h
  have hA : ∀ c ∈ (keyS r).cps.toList, c < 128 := fun c hc => by
    have hc' : c ∈ r.key := by simpa [keyS, mk] using hc
    unfold Rec.key at hc'
    rcases List.mem_append.mp hc' with hc' | hc'
    · split at hc'
      · cases List.mem_singleton.mp hc'; decide
      · cases hc'
    · have := let_rng (nm_let h c hc'); omega
  rw [lower_ascii hA]
  unfold keyS mk Rec.key lows
  rw [List.map_toArray, List.map_append]
  congr 3
  cases r.dot <;> rfl
theorem mk_inj {a b : List Nat} : mk a = mk b ↔ a = b := by
  unfold mk
  constructor
  · intro h
    have : a.toArray = b.toArray := congrArg Str.cps h
    simpa using this
  · rintro rfl; rfl
theorem hit_alike : ∀ {c r : Rec} (hc : Rok c) (hr : Rok r) {i : It} (hi : i.k = keyS r), keyHit (keyS c) i = alike c r := by
  have skon : SkOn := .mk
  intro c r hc hr i hi
  unfold keyHit alike
  rw [hi, lower_key hc, lower_key hr, Bool.eq_iff_iff, beq_iff_eq, mk_inj, Bool.and_eq_true, beq_iff_eq, beq_iff_eq]
  have n1 : ∀ {z : Rec}, Rok z → ∃ y ys, lows z = y :: ys ∧ y ≠ 46 := fun {z} hz => ⟨lo1 z.a, _, rfl, by have := let_lo hz.1; omega⟩
  obtain ⟨y, ys, e1, h1⟩ := n1 hc
  obtain ⟨z, zs, e2, h2⟩ := n1 hr
  rw [e1, e2]
  cases hd : r.dot <;> cases hd' : c.dot
  · simp
  · simp only [Bool.false_eq_true, if_false, if_true, List.nil_append, List.cons_append, List.cons.injEq, false_and, iff_false]
    exact fun h => h2 h.1
  · simp only [Bool.false_eq_true, if_false, if_true, List.nil_append, List.cons_append, List.cons.injEq, reduceCtorEq, false_and, iff_false]
    exact fun h => h1 h.1.symm
  · simp
noncomputable def It.pair (i : It) : Str × Str := (i.k, i.v)
noncomputable def Rec.pair (r : Rec) : Str × Str := (keyS r, valS r)
theorem rel_filter {α β γ : Type} {f : α → γ} {g : β → γ} {p : α → Bool} {q : β → Bool} : ∀ {l : List α} {k : List β}, l.map f = k.map g → (∀ x ∈ l, ∀ y ∈ k, f x = g y → p x = q y) → (l.filter p).map f = (k.filter q).map g
  | [], [], _, _ => rfl
  | [], _ :: _, h, _ => by simp at h
  | _ :: _, [], h, _ => by simp at h
  | a :: l, b :: k, h, hp => by
    simp only [List.map_cons, List.cons.injEq] at h
    have e := hp a (.head _) b (.head _) h.1
    have ih := rel_filter h.2 fun x hx y hy => hp x (.tail _ hx) y (.tail _ hy)
    simp only [List.filter_cons, e]
    cases q b with
    | true => simp only [if_true, List.map_cons, h.1, ih]
    | false => simpa using ih
theorem rel_find {α β γ : Type} {f : α → γ} {g : β → γ} {p : α → Bool} {q : β → Bool} : ∀ {l : List α} {k : List β}, l.map f = k.map g → (∀ x ∈ l, ∀ y ∈ k, f x = g y → p x = q y) → (l.find? p).map f = (k.find? q).map g
  | [], [], _, _ => rfl
  | [], _ :: _, h, _ => by simp at h
  | _ :: _, [], h, _ => by simp at h
  | a :: l, b :: k, h, hp => by
    simp only [List.map_cons, List.cons.injEq] at h
    have e := hp a (.head _) b (.head _) h.1
    have ih := rel_find h.2 fun x hx y hy => hp x (.tail _ hx) y (.tail _ hy)
    simp only [List.find?_cons, e]
    cases q b with
    | true => simp only [Option.map_some, h.1]
    | false => exact ih
theorem val_mod {r : Rec} (h : Rok r) : r.val.fmod 64 = r.q := by
  have h1 := let_rng h.2.2.1
  have h2 := mark_rng h.2.2.2
  unfold Rec.val
  rw [Int.fmod_eq_emod_of_nonneg _ (by decide)]
  omega
theorem pair_val {r : Rec} (h : Rok r) : pairS r.val = ⟨#[r.p, r.q]⟩ := by
  have h1 := let_rng h.2.2.1
  have h2 := mark_rng h.2.2.2
  unfold pairS
  rw [val_mod h]
  have e : (64 + r.val.fdiv 64).toNat = r.p := by
    unfold Rec.val
    rw [Int.fdiv_eq_ediv_of_nonneg _ (by decide)]
    omega
  rw [e]
  rfl
/-- what _law_told tells, of recs -/
theorem told_step : ∀ {deed : Int} (hd : deed = 0 ∨ deed = 1 ∨ deed = 2 ∨ deed = 3) {c : Rec} {rs : List Rec} {R R' : List Ro} {due : Value} (hc : Rok c) (hrs : ∀ r ∈ rs, Rok r) (hrel : R.map Ro.row = rs.map Rec.row) (h : Told deed c.dot c.num c.val R R' due), R'.map Ro.row = (stepR deed c rs).1.map Rec.row ∧ AnsIs (stepR deed c rs).2 due := by
  have skon : SkOn := .mk
  intro deed hd c rs R R' due hc hrs hrel h
  have hal : ∀ x ∈ R, ∀ y ∈ rs, x.row = y.row → alikeP c.dot c.num x = alike c y := fun x _ y hy e => alike_ro hc (hrs y hy) e
  have hf : (R.filter fun r => !alikeP c.dot c.num r).map Ro.row = (rs.filter fun r => !alike c r).map Rec.row := rel_filter hrel fun x hx y hy e => by rw [hal x hx y hy e]
  have hfd : (R.find? (alikeP c.dot c.num)).map Ro.row = (rs.find? (alike c)).map Rec.row := rel_find hrel hal
  have hq := val_mod hc
  rcases hd with rfl | rfl | rfl | rfl
  · -- a store
    rcases h with ⟨h, _⟩ | ⟨h, _⟩ | ⟨_, _, h1, rfl, t, rfl⟩ | ⟨_, _, h1, ⟨a, tn, tv, rfl⟩, _, h3⟩
    · exact absurd h (by decide)
    · exact absurd h (by decide)
    · have : c.q = 10 := by omega
      unfold stepR; rw [if_pos rfl, if_pos this, told_lt (by decide)]
      exact ⟨hf, _, rfl⟩
    · have : ¬ c.q = 10 := by omega
      unfold stepR; rw [if_pos rfl, if_neg this, told_lt (by decide), List.map_append, List.map_append, hf]
      exact ⟨rfl, h3 (by decide)⟩
  · rcases h with ⟨_, rfl, rfl⟩ | ⟨h, _⟩ | ⟨h, _⟩ | ⟨h, _⟩
    · unfold stepR; rw [if_neg (by decide), if_pos rfl, told_lt (by decide)]
      exact ⟨hf, rfl⟩
    · exact absurd h (by decide)
    · exact absurd rfl h
    · exact absurd rfl h
  · have e2 : stepR 2 c rs = (match rs.find? (alike c) with
      | some r => (rs, .str r.p r.q)
      | none => if c.q = 10 then (rs, .zero) else (rs ++ [c], .str c.p c.q)) := by unfold stepR; rw [if_neg (by decide), if_neg (by decide), if_pos rfl]
    rw [e2]
    rcases h with ⟨h, _⟩ | ⟨_, r, hr, rfl, t, rfl⟩ | ⟨_, hn, h1, rfl, t, rfl⟩ | ⟨_, hn, h1, ⟨a, tn, tv, rfl⟩, h2, _⟩
    · exact absurd h (by decide)
    · rw [hr] at hfd
      cases hk : rs.find? (alike c) with
      | none => rw [hk] at hfd; cases hfd
      | some k =>
        rw [hk] at hfd
        have hkm := List.mem_of_find?_eq_some hk
        have e : r.row = k.row := by simpa using hfd
        have e3 : r.val = k.val := congrArg (fun z : Row => z.2.2) e
        refine ⟨hrel, t, ?_⟩
        rw [e3, pair_val (hrs k hkm)]
    · rw [hn rfl] at hfd
      cases hk : rs.find? (alike c) with
      | some k => rw [hk] at hfd; cases hfd
      | none =>
        have : c.q = 10 := by omega
        simp only
        rw [if_pos this]
        exact ⟨hrel, t, rfl⟩
    · rw [hn rfl] at hfd
      cases hk : rs.find? (alike c) with
      | some k => rw [hk] at hfd; cases hfd
      | none =>
        have : ¬ c.q = 10 := by omega
        obtain ⟨t, rfl⟩ := h2 rfl
        simp only
        rw [if_neg this, told_ge (by decide), List.map_append, List.map_append, hrel]
        exact ⟨rfl, t, by rw [pair_val hc]⟩
  · have e2 : stepR 3 c rs = if c.q = 10 then (rs, .zero) else (rs ++ [c], .none) := by unfold stepR; rw [if_neg (by decide), if_neg (by decide), if_neg (by decide)]
    rw [e2]
    rcases h with ⟨h, _⟩ | ⟨h, _⟩ | ⟨_, _, h1, rfl, t, rfl⟩ | ⟨_, _, h1, ⟨a, tn, tv, rfl⟩, _, h3⟩
    · exact absurd h (by decide)
    · exact absurd h (by decide)
    · have : c.q = 10 := by omega
      rw [if_pos this]
      exact ⟨hrel, t, rfl⟩
    · have : ¬ c.q = 10 := by omega
      rw [if_neg this, told_ge (by decide), List.map_append, List.map_append, hrel]
      exact ⟨rfl, h3 (by decide)⟩
end
section
theorem warm_T4 : PySem.Challenge.rw_ta0132_01.Holds → hd1.heap_1_39 = hd1.heap_1_39 := by
  k_fill
  intro _
  rfl
open PySem.Sre PySem.Builtin.Re
theorem match_no_bool : typeLookup (.type "re.Match") "__bool__" = pure none := by rw [typeLookup_type, builtinLookup_eq_fast]; kernel_rfl
theorem match_no_len : typeLookup (.type "re.Match") "__len__" = pure none := by rw [typeLookup_type, builtinLookup_eq_fast]; kernel_rfl
section
variable {prog : Program} {w : World} {A : Around} {E : Value → Shared → Prop} {s : Shared} {h₀ : Heap} {L : Addr} {m : Str → Option Value} {news : Led}
theorem truthy_match {a : Addr} {o : Obj} {Q : Bool → Shared → Prop} (h : s.heap.get? a = some o) (hc : o.cls = .type "re.Match") (hQ : Q true s) : wpAny (model prog w) A (truthy (.ref a)) Q E s := by
  have hT : s.TypeIs (.ref a) "re.Match" := ⟨o, h, hc⟩
  unfold truthy
  refine wpAny_bind (m := callSpecial? (.ref a) (Str.ofString "__bool__")) (wpAny_callSpecial?_none hT match_no_bool ?_)
  refine wpAny_bind (wpAny_specialOf hT match_no_len ?_)
  exact wpAny_pure hQ
/-- a search in a value that bears a feed -/
theorem search_bad {a : Nat} {t : Tok} {Q : Value → Shared → Prop} (F : Fr h₀ L s.heap m) (N : News h₀ L s.heap news) (X : (hd1.heap_1_39 w.params).In s.heap) (ha : a = 65 ∨ a = 97 ∨ a = 66 ∨ a = 98 ∨ a = 95 ∨ a = 126)
    (h : ∀ q o h', o.cls = .type "re.Match" → Fr h₀ L h' m → News h₀ L h' ((q, o) :: news) → (∀ p ∈ news, p.1 < q) → Q (.ref q) { s with heap := h' }) :
    wpAny (model prog w) A (call (.builtin "re.Pattern.search") [.ref 207, .str ⟨#[a, 10]⟩ t]) Q E s := by
  refine call_search_some 8 (pat_V w X) (by show 2 < 2 ^ 62; decide) (by decide) (search_feed a ha) fun o1 o2 _ hf1 hc2 hf2 _ => ?_
  have F1 := F.push o1
  have N1 := N.grown (h' := s.heap.push o1) fun b o e => Heap.get?_push_of_some _ e
  exact h _ o2 _ hc2 (F1.push o2) (N1.push F1 o2 hf2) fun p hp => Heap.lt_size (N1 p hp).1
end
theorem c_convX : ∀ (w : World) (x : Value) (lt : Nat) (t : Tok) (news : Led) (ha : lt = 65 ∨ lt = 97 ∨ lt = 66 ∨ lt = 98 ∨ lt = 95 ∨ lt = 126), ConX w 4 (call (.ref 237) [x, .str ⟨#[lt, 10]⟩ t] [(Str.ofString "name", .bool false)]) news (fun newsX => newsX = news) := by
  k_with_none
  k_with "exec For" => (with_unfolding_all refine wpAny_For ?_ (by intro _; rfl))
  k_with "storeName" => (k_here; (with_reducible show wpAny _ _ (storeName (envOfC _ _ _ _ _) _ _) _ _ _); k_dflt (refine' st_cell ?k1 ?k2 ?k3 ?k4 ?k5 ?k6 ?k7 ?_; (case k1 => k_asm); (case k2 => k_asm); (case k3 => exact rfl); (case k4 => exact rfl); (case k5 => exact rfl); (case k6 => k_updF); (case k7 => k_asm); k_whole); intro _ _ _ _ _; (try dsimp only))
  k_with "setItem ref ref ref" => (k_here; k_dflt (refine' store_all ?k1 ?k2 ?k3 ?k4 ?k5 ?k6 ?k7 ?k8 ?_; (case k1 => k_asm); (case k2 => k_asm); (case k3 => exact rfl); (case k4 => k_updF); (case k5 => k_mem); (case k6 => first | (simp only [beq_eq_false_iff_ne]; (try dsimp only); (refine neN ?_); omega) | (simp only [beq_eq_false_iff_ne]; assumption)); (case k7 => assumption); (case k8 => assumption); k_whole); intro _ _ _ _; (try dsimp only))
  k_with "call builtin:list.append" => (k_here; (with_reducible show wpAny _ _ (call (Value.builtin _) [Value.ref _, _]) _ _ _); k_dflt (refine' append_K ?k1 ?k2 ?k3 ?_ ?z; (case k1 => k_asm); (case k2 => k_asm); (case k3 => k_upd); (case z => first | size_fits | exact Nat.le_trans (by with_reducible assumption) (by decide)); k_whole); intro _ _ _; (try k_sweep))
  k_with "exec Assign cons ListComp" => (k_here; k_dflt (refine' compA ?c0 ?c1 ?c2 ?c3 ?_; (case c0 => exact rfl); (case c1 => with_unfolding_all rfl); (case c2 => exact rfl); (case c3 => decide)))
  k_with "leaving ref" => (k_here; first | (refine' leave_raiseS ?k1 (Heap.MadeExc.of (by assumption)) ?k2 ?k3 ?_; (case k1 => assumption); (case k2 => assumption); (case k3 => k_asm); k_whole; intro h' _ R' RK' U'; (try dsimp only at R' U' ⊢)) | (refine' leave_onS ?k1 ?k2 ?k3 ?k4 ?_; (case k3 => assumption); (case k1 => assumption); (case k4 => assumption); (case k2 => assumption); k_whole; intro h' R' RK' U'; (try dsimp only at R' U' ⊢)))
  k_with "getMethod ref" => (k_here; (with_reducible show wpAny _ _ (getMethod (Value.ref 207) _ _) _ _ _); k_dflt (refine' getMethod_search (code := codeV) ?k1 ?_); (case k1 => exact pat_V _ (Frag.In.keeps (by k_asm) (Fr.keep (by k_asm)))))
  k_with "call builtin:re.Pattern.search" => (k_here; k_dflt (refine' search_bad ?k1 ?k2 ?k3 ?k4 ?_; (case k1 => k_asm); (case k2 => k_asm); (case k3 => exact (Frag.In.keeps (by k_asm) (Fr.keep (by k_asm)))); (case k4 => assumption); k_whole); intro _ _ _ _ _ _ l9; (try k_lt l9); (try dsimp only))
  k_with "truthy ref" => (k_dflt (refine' truthy_match ?k1 ?k2 ?_; (case k1 => exact News.get (by k_asm) (by k_mem)); (case k2 => k_asm); k_whole))
  have hold0 : HoldK "pyIter ref" := .mk
  have hold1 : HoldK "+Comp" := .mk
  have skon : SkOn := .mk
  intro w x lt t news ha
  unfold ConX
  intro mean mg mb dp un gd cn cs a ccd cl outer A₀ base h₀ L m s Q E B F X N T hk hd hu hret
  refine wpAny_call ?_
  k_dflt (refine' code_def (binds := [(Str.ofString "self", x), (Str.ofString "value", .str ⟨#[lt, 10]⟩ t), (Str.ofString "name", .bool false)]) ?k1 ?k2 ?k3 ?k4 ?k5 ?kA ?kF ?kK ?k6 ?k7 ?k8 ?k9 ?kB ?_ ?c2 ?c3 ?c4 ?c5; (case kA => exact rfl); (case kF => exact rfl); (case kK => first | assumption | exact rfl); (case k1 => k_asm); (case k2 => k_asm); (case k3 => k_asm); (case k4 => k_asm); (case k5 => k_asm); (case k6 => k_is); (case k7 => k_is); (case k8 => k_room); (case k9 => first | exact BindsTo.of_eq rfl | exact binds_K (by k_in) rfl (by k_is) rfl rfl rfl); (case c5 => decide); (case kB => exact locs rfl); (case c2 => exact rfl); (case c3 => exact rfl); (case c4 => exact rfl); k_whole; intro g1 L1 h1 FG1 F1 N1 B1 X1 T1; (try dsimp only); (try k_lift B1); (try k_fold))
  k_steps
  exact hret _ _ _ _ _ _ _ (by assumption) (raised_drop (by assumption) fun _ => List.mem_cons_of_mem _) (by assumption) rfl
end
section
theorem warm_T5 : PySem.Challenge.rw_ta0132_01.Holds → hd1.heap_1_39 = hd1.heap_1_39 := by
  k_fill
  intro _
  rfl
theorem news_tail {h₀ h : Heap} {L : Addr} {p : Addr × Obj} {news : Led} (N : News h₀ L h (p :: news)) : News h₀ L h news := fun q hq => N q (List.mem_cons_of_mem _ hq)
theorem join_one (v : Str) (x : Str) : Txt.join x [v] = v := by first | rfl | simp [Txt.join, Txt.glued]
theorem news_1_4 {h₀ h : Heap} {L : Addr} {a b c d : Addr × Obj} {news : Led} (N : News h₀ L h (a :: b :: c :: d :: news)) : News h₀ L h (a :: d :: news) := fun q hq => N q (by
  simp only [List.mem_cons] at hq ⊢
  rcases hq with h | h | h <;> simp [h])
theorem c_add : ∀ (w : World) (x d l : Addr) (t : Tok) (n : Nat) (I : List It) (rest : Led) (nm : Str) (tn : Tok) (vl : Str) (tv : Tok) (hI : ∀ i ∈ I, i.obj ∈ rest) (hIn : I.length ≤ 64) (hlr : ∀ p ∈ rest, p.1 ≠ l) (hxl : @Ne Nat x l) (hdl : @Ne Nat d l) (hnl : nm.length ≤ 4) (hg : GoodSigns true nm) (hvl : vl.length ≤ 4) (hvg : GoodSigns false vl), Con w 8 (call (.ref 335) [.ref x, .str nm tn, .str vl tv]) (TabF w.params x d l t n I rest) (fun r news' => r = .none ∧ ∃ D tv, TabPost w.params x d l t (I ++ [⟨D, nm, tn, vl, tv⟩]) rest news') := by
  k_with_none
  k_with "storeName" => (k_here; (with_reducible show wpAny _ _ (storeName (envOfC _ _ _ _ _) _ _) _ _ _); k_dflt (refine' st_cell ?k1 ?k2 ?k3 ?k4 ?k5 ?k6 ?k7 ?_; (case k1 => k_asm); (case k2 => k_asm); (case k3 => exact rfl); (case k4 => exact rfl); (case k5 => exact rfl); (case k6 => k_updF); (case k7 => k_asm); k_whole); intro _ _ _ _ _; (try dsimp only))
  k_with "setItem ref ref ref" => (k_here; k_dflt (refine' store_all ?k1 ?k2 ?k3 ?k4 ?k5 ?k6 ?k7 ?k8 ?_; (case k1 => k_asm); (case k2 => k_asm); (case k3 => exact rfl); (case k4 => k_updF); (case k5 => k_mem); (case k6 => first | (simp only [beq_eq_false_iff_ne]; (try dsimp only); (refine neN ?_); omega) | (simp only [beq_eq_false_iff_ne]; assumption)); (case k7 => assumption); (case k8 => assumption); k_whole); intro _ _ _ _; (try dsimp only))
  k_with "call builtin:list.append" => (k_here; (with_reducible show wpAny _ _ (call (Value.builtin _) [Value.ref _, _]) _ _ _); k_dflt (refine' append_K ?k1 ?k2 ?k3 ?_ ?z; (case k1 => k_asm); (case k2 => k_asm); (case k3 => k_upd); (case z => first | size_fits | exact Nat.le_trans (by with_reducible assumption) (by decide)); k_whole); intro _ _ _; (try k_sweep))
  k_with "exec Assign cons ListComp" => (k_here; k_dflt (refine' compA ?c0 ?c1 ?c2 ?c3 ?_; (case c0 => exact rfl); (case c1 => with_unfolding_all rfl); (case c2 => exact rfl); (case c3 => decide)))
  have hold0 : HoldK "+Comp" := .mk
  have hold1 : HoldA 237 := .mk
  have hold2 : HoldA 285 := .mk
  have skon : SkOn := .mk
  intro w x d l t n I rest nm tn vl tv hI hIn hlr hxl hdl hnl hg hvl hvg
  unfold Con
  intro mean mg mb dp un gd cn cs a ccd cl outer A₀ base h₀ L m s Q E B F X N T hk hd hu hret
  have hnl2 := good_len hnl
  have hvl2 := good_len hvl
  refine wpAny_call ?_
  k_dflt (refine' kp_more (front := [(Str.ofString "self", .ref x), (Str.ofString "_name", .str nm tn), (Str.ofString "_value", .str vl tv)]) ?k1 ?k2 ?k3 ?k4 ?k5 ?kA ?kF ?kK ?k6 ?k7 ?k8 ?kX ?kM ?kN ?kD ?kR ?kP ?kT ?kB ?_ ?c2 ?c3 ?c4 ?c5; (case kA => exact rfl); (case kF => exact rfl); (case kK => first | assumption | exact rfl); (case k1 => k_asm); (case k2 => k_asm); (case k3 => k_asm); (case k4 => k_asm); (case k5 => k_asm); (case k6 => k_is); (case k7 => k_is); (case k8 => k_room); (case kX => kp_lit); (case kM => exact rfl); (case kN => exact rfl); (case kD => kp_flats); (case kR => exact rfl); (case kP => exact rfl); (case kT => exact fun _ => rfl); (case kB => exact fun _ => locs rfl); (case c5 => decide); (case c2 => exact rfl); (case c3 => exact rfl); (case c4 => exact rfl); k_whole; intro D1 o1 g1 L1 h1 tk1 l1 lo1 hs1 fs1 FG1 F1 N1 B1 X1 T1; (try k_lt l1); (try dsimp only); (try k_lift B1); (try k_fold))
  k_steps
  refine Hold.to ?_; k_dflt (refine' c_conv _ _ _ _ _ _ hvg hvl2 _ _ _ _ _ _ _ _ _ _ _ _ _ _ _ _ _ _ _ _ ?k1 ?k2 ?k3 ?k4 ?k5 ?kK ?kd ?ku ?_; (case k1 => k_asm); (case k2 => k_asm); (case k3 => k_asm); (case k4 => k_asm); (case k5 => k_asm); (case kK => first | exact rfl | assumption); (case kd => k_room); (case ku => k_units); intro r9 n9 h9 tk9 F9 N9 H9)
  obtain ⟨rfl, rfl⟩ := H9
  (try dsimp only); (try k_fold)
  k_steps
  rename News g1 _ _ _ => N5
  replace N5 := news_tail N5
  refine Hold.to ?_; k_dflt (refine' c_conv _ _ _ _ _ _ hg hnl2 _ _ _ _ _ _ _ _ _ _ _ _ _ _ _ _ _ _ _ _ ?k1 ?k2 ?k3 ?k4 ?k5 ?kK ?kd ?ku ?_; (case k1 => k_asm); (case k2 => k_asm); (case k3 => k_asm); (case k4 => k_asm); (case k5 => k_asm); (case kK => first | exact rfl | assumption); (case kd => k_room); (case ku => k_units); intro r9 n9 h9 tk9 F9 N9 H9)
  obtain ⟨rfl, rfl⟩ := H9
  (try dsimp only); (try k_fold)
  have hfs := its_size hIn
  k_steps
  rename News h₀ L _ _ => N9
  rename _ ∧ _ ∧ _ ∧ _ ∧ _ ∧ AllLt _ rest => hlt
  rw [join_one] at N9
  exact hret _ _ _ _ (by assumption) (news_snoc (F := I) (news_1_4 N9)) ⟨rfl, _, _, post_snoc hI hlr hlt.2.2.1⟩
end
section
theorem warm_T6 : PySem.Challenge.rw_ta0132_01.Holds → hd1.heap_1_39 = hd1.heap_1_39 := by
  k_fill
  intro _
  rfl
theorem c_sdef0 : ∀ (w : World) (x d l : Addr) (t : Tok) (n : Nat) (I : List It) (rest : Led) (nm : Str) (tn : Tok) (vl : Str) (tv : Tok) (hI : ∀ i ∈ I, i.obj ∈ rest) (hK : ∀ i ∈ I, ItOk i) (hIn : I.length ≤ 64) (hlr : ∀ p ∈ rest, p.1 ≠ l) (hxl : @Ne Nat x l) (hdl : @Ne Nat d l) (hnl : nm.length ≤ 4) (hg : GoodSigns true nm) (hvl : vl.length ≤ 4) (hvg : GoodSigns false vl) (hf : gotten I nm = .none), Con w 8 (call (.ref 328) [.ref x, .str nm tn, .str vl tv]) (TabF w.params x d l t n I rest) (fun r news' => r = .str vl tv ∧ ∃ D, TabPost w.params x d l t (I ++ [⟨D, nm, tn, vl, tv⟩]) rest news') := by
  k_with_none
  k_with "storeName" => (k_here; (with_reducible show wpAny _ _ (storeName (envOfC _ _ _ _ _) _ _) _ _ _); k_dflt (refine' st_cell ?k1 ?k2 ?k3 ?k4 ?k5 ?k6 ?k7 ?_; (case k1 => k_asm); (case k2 => k_asm); (case k3 => exact rfl); (case k4 => exact rfl); (case k5 => exact rfl); (case k6 => k_updF); (case k7 => k_asm); k_whole); intro _ _ _ _ _; (try dsimp only))
  k_with "setItem ref ref ref" => (k_here; k_dflt (refine' store_all ?k1 ?k2 ?k3 ?k4 ?k5 ?k6 ?k7 ?k8 ?_; (case k1 => k_asm); (case k2 => k_asm); (case k3 => exact rfl); (case k4 => k_updF); (case k5 => k_mem); (case k6 => first | (simp only [beq_eq_false_iff_ne]; (try dsimp only); (refine neN ?_); omega) | (simp only [beq_eq_false_iff_ne]; assumption)); (case k7 => assumption); (case k8 => assumption); k_whole); intro _ _ _ _; (try dsimp only))
  k_with "call builtin:list.append" => (k_here; (with_reducible show wpAny _ _ (call (Value.builtin _) [Value.ref _, _]) _ _ _); k_dflt (refine' append_K ?k1 ?k2 ?k3 ?_ ?z; (case k1 => k_asm); (case k2 => k_asm); (case k3 => k_upd); (case z => first | size_fits | exact Nat.le_trans (by with_reducible assumption) (by decide)); k_whole); intro _ _ _; (try k_sweep))
  k_with "exec Assign cons ListComp" => (k_here; k_dflt (refine' compA ?c0 ?c1 ?c2 ?c3 ?_; (case c0 => exact rfl); (case c1 => with_unfolding_all rfl); (case c2 => exact rfl); (case c3 => decide)))
  k_with "leaving ref" => (k_here; first | (refine' leave_raiseS ?k1 (Heap.MadeExc.of (by assumption)) ?k2 ?k3 ?_; (case k1 => assumption); (case k2 => assumption); (case k3 => k_asm); k_whole; intro h' _ R' RK' U'; (try dsimp only at R' U' ⊢)) | (refine' leave_onS ?k1 ?k2 ?k3 ?k4 ?_; (case k3 => assumption); (case k1 => assumption); (case k4 => assumption); (case k2 => assumption); k_whole; intro h' R' RK' U'; (try dsimp only at R' U' ⊢)))
  have hold0 : HoldK "+Comp" := .mk
  have hold1 : HoldA 237 := .mk
  have hold2 : HoldA 285 := .mk
  have skon : SkOn := .mk
  intro w x d l t n I rest nm tn vl tv hI hK hIn hlr hxl hdl hnl hg hvl hvg hf
  unfold Con
  intro mean mg mb dp un gd cn cs a ccd cl outer A₀ base h₀ L m s Q E B F X N T hk hd hu hret
  have hnl2 := good_len hnl
  have hvl2 := good_len hvl
  have hfs := its_size hIn
  refine wpAny_call ?_
  k_dflt (refine' code_def (binds := [(Str.ofString "self", .ref x), (Str.ofString "name", .str nm tn), (Str.ofString "value", .str vl tv)]) ?k1 ?k2 ?k3 ?k4 ?k5 ?kA ?kF ?kK ?k6 ?k7 ?k8 ?k9 ?kB ?_ ?c2 ?c3 ?c4 ?c5; (case kA => exact rfl); (case kF => exact rfl); (case kK => first | assumption | exact rfl); (case k1 => k_asm); (case k2 => k_asm); (case k3 => k_asm); (case k4 => k_asm); (case k5 => k_asm); (case k6 => k_is); (case k7 => k_is); (case k8 => k_room); (case k9 => first | exact BindsTo.of_eq rfl | exact binds_K (by k_in) rfl (by k_is) rfl rfl rfl); (case c5 => decide); (case kB => exact locs rfl); (case c2 => exact rfl); (case c3 => exact rfl); (case c4 => exact rfl); k_whole; intro g1 L1 h1 FG1 F1 N1 B1 X1 T1; (try dsimp only); (try k_lift B1); (try k_fold))
  k_steps
  refine Hold.to ?_; k_dflt (refine' c_get _ _ _ _ _ _ _ _ _ _ ?p1 ?p2 ?p3 ?p4 _ _ _ _ _ _ _ _ _ _ _ _ _ _ _ _ _ _ _ _ ?k1 ?k2 ?k3 ?k4 ?k5 ?kK ?kd ?ku ?_; (case k1 => k_asm); (case k2 => k_asm); (case k3 => k_asm); (case k4 => k_asm); (case k5 => k_asm); (case kK => first | exact rfl | assumption); (case kd => k_room); (case ku => k_units); (case p1 => assumption); (case p2 => assumption); (case p3 => assumption); (case p4 => assumption); intro r9 n9 h9 tk9 F9 N9 H9)
  obtain ⟨rfl, rfl⟩ := H9
  rw [hf]
  (try dsimp only); (try k_fold)
  k_steps
  refine Hold.to ?_; k_dflt (refine' c_conv _ _ _ _ _ _ hg hnl2 _ _ _ _ _ _ _ _ _ _ _ _ _ _ _ _ _ _ _ _ ?k1 ?k2 ?k3 ?k4 ?k5 ?kK ?kd ?ku ?_; (case k1 => k_asm); (case k2 => k_asm); (case k3 => k_asm); (case k4 => k_asm); (case k5 => k_asm); (case kK => first | exact rfl | assumption); (case kd => k_room); (case ku => k_units); intro r9 n9 h9 tk9 F9 N9 H9)
  obtain ⟨rfl, rfl⟩ := H9
  (try dsimp only); (try k_fold)
  k_steps
  refine Hold.to ?_; k_dflt (refine' c_conv _ _ _ _ _ _ hvg hvl2 _ _ _ _ _ _ _ _ _ _ _ _ _ _ _ _ _ _ _ _ ?k1 ?k2 ?k3 ?k4 ?k5 ?kK ?kd ?ku ?_; (case k1 => k_asm); (case k2 => k_asm); (case k3 => k_asm); (case k4 => k_asm); (case k5 => k_asm); (case kK => first | exact rfl | assumption); (case kd => k_room); (case ku => k_units); intro r9 n9 h9 tk9 F9 N9 H9)
  obtain ⟨rfl, rfl⟩ := H9
  (try dsimp only); (try k_fold)
  k_steps
  rename News h₀ L _ _ => N9
  rename _ ∧ _ ∧ _ ∧ AllLt _ rest => hlt
  exact hret _ _ _ _ (by assumption) (news_snoc N9) ⟨rfl, _, post_snoc hI hlr hlt.1⟩
theorem c_sdef1 : ∀ (w : World) (x d l : Addr) (t : Tok) (n : Nat) (I : List It) (rest : Led) (nm : Str) (tn : Tok) (vl : Str) (tv : Tok) (v' : Str) (tv' : Tok) (hI : ∀ i ∈ I, i.obj ∈ rest) (hK : ∀ i ∈ I, ItOk i) (hnl : nm.length ≤ 4) (hg : GoodSigns true nm) (hf : gotten I nm = .str v' tv'), Con w 8 (call (.ref 328) [.ref x, .str nm tn, .str vl tv]) (TabF w.params x d l t n I rest) (fun r news' => r = .str v' tv' ∧ news' = TabF w.params x d l t n I rest) := by
  have hold0 : HoldK "+Comp" := .mk
  have hold1 : HoldA 237 := .mk
  have hold2 : HoldA 285 := .mk
  have skon : SkOn := .mk
  intro w x d l t n I rest nm tn vl tv v' tv' hI hK hnl hg hf
  unfold Con
  intro mean mg mb dp un gd cn cs a ccd cl outer A₀ base h₀ L m s Q E B F X N T hk hd hu hret
  refine wpAny_call ?_
  k_dflt (refine' code_def (binds := [(Str.ofString "self", .ref x), (Str.ofString "name", .str nm tn), (Str.ofString "value", .str vl tv)]) ?k1 ?k2 ?k3 ?k4 ?k5 ?kA ?kF ?kK ?k6 ?k7 ?k8 ?k9 ?kB ?_ ?c2 ?c3 ?c4 ?c5; (case kA => exact rfl); (case kF => exact rfl); (case kK => first | assumption | exact rfl); (case k1 => k_asm); (case k2 => k_asm); (case k3 => k_asm); (case k4 => k_asm); (case k5 => k_asm); (case k6 => k_is); (case k7 => k_is); (case k8 => k_room); (case k9 => first | exact BindsTo.of_eq rfl | exact binds_K (by k_in) rfl (by k_is) rfl rfl rfl); (case c5 => decide); (case kB => exact locs rfl); (case c2 => exact rfl); (case c3 => exact rfl); (case c4 => exact rfl); k_whole; intro g1 L1 h1 FG1 F1 N1 B1 X1 T1; (try dsimp only); (try k_lift B1); (try k_fold))
  k_steps
  refine Hold.to ?_; k_dflt (refine' c_get _ _ _ _ _ _ _ _ _ _ ?p1 ?p2 ?p3 ?p4 _ _ _ _ _ _ _ _ _ _ _ _ _ _ _ _ _ _ _ _ ?k1 ?k2 ?k3 ?k4 ?k5 ?kK ?kd ?ku ?_; (case k1 => k_asm); (case k2 => k_asm); (case k3 => k_asm); (case k4 => k_asm); (case k5 => k_asm); (case kK => first | exact rfl | assumption); (case kd => k_room); (case ku => k_units); (case p1 => assumption); (case p2 => assumption); (case p3 => assumption); (case p4 => assumption); intro r9 n9 h9 tk9 F9 N9 H9)
  obtain ⟨rfl, rfl⟩ := H9
  rw [hf]
  (try dsimp only); (try k_fold)
  k_steps
  exact hret _ _ _ _ (by assumption) (by assumption) ⟨rfl, rfl⟩
theorem c_sdefX : ∀ (w : World) (x d l : Addr) (t : Tok) (n : Nat) (I : List It) (rest : Led) (nm : Str) (tn : Tok) (lt : Nat) (tv : Tok) (hI : ∀ i ∈ I, i.obj ∈ rest) (hK : ∀ i ∈ I, ItOk i) (hnl : nm.length ≤ 4) (hg : GoodSigns true nm) (ha : lt = 65 ∨ lt = 97 ∨ lt = 66 ∨ lt = 98 ∨ lt = 95 ∨ lt = 126) (hf : gotten I nm = .none), ConX w 8 (call (.ref 328) [.ref x, .str nm tn, .str ⟨#[lt, 10]⟩ tv]) (TabF w.params x d l t n I rest) (fun newsX => newsX = TabF w.params x d l t n I rest) := by
  have hold0 : HoldK "+Comp" := .mk
  have hold1 : HoldA 237 := .mk
  have hold2 : HoldA 285 := .mk
  have skon : SkOn := .mk
  intro w x d l t n I rest nm tn lt tv hI hK hnl hg ha hf
  unfold ConX
  intro mean mg mb dp un gd cn cs a ccd cl outer A₀ base h₀ L m s Q E B F X N T hk hd hu hret
  have hnl2 := good_len hnl
  refine wpAny_call ?_
  k_dflt (refine' code_def (binds := [(Str.ofString "self", .ref x), (Str.ofString "name", .str nm tn), (Str.ofString "value", .str ⟨#[lt, 10]⟩ tv)]) ?k1 ?k2 ?k3 ?k4 ?k5 ?kA ?kF ?kK ?k6 ?k7 ?k8 ?k9 ?kB ?_ ?c2 ?c3 ?c4 ?c5; (case kA => exact rfl); (case kF => exact rfl); (case kK => first | assumption | exact rfl); (case k1 => k_asm); (case k2 => k_asm); (case k3 => k_asm); (case k4 => k_asm); (case k5 => k_asm); (case k6 => k_is); (case k7 => k_is); (case k8 => k_room); (case k9 => first | exact BindsTo.of_eq rfl | exact binds_K (by k_in) rfl (by k_is) rfl rfl rfl); (case c5 => decide); (case kB => exact locs rfl); (case c2 => exact rfl); (case c3 => exact rfl); (case c4 => exact rfl); k_whole; intro g1 L1 h1 FG1 F1 N1 B1 X1 T1; (try dsimp only); (try k_lift B1); (try k_fold))
  k_steps
  refine Hold.to ?_; k_dflt (refine' c_get _ _ _ _ _ _ _ _ _ _ ?p1 ?p2 ?p3 ?p4 _ _ _ _ _ _ _ _ _ _ _ _ _ _ _ _ _ _ _ _ ?k1 ?k2 ?k3 ?k4 ?k5 ?kK ?kd ?ku ?_; (case k1 => k_asm); (case k2 => k_asm); (case k3 => k_asm); (case k4 => k_asm); (case k5 => k_asm); (case kK => first | exact rfl | assumption); (case kd => k_room); (case ku => k_units); (case p1 => assumption); (case p2 => assumption); (case p3 => assumption); (case p4 => assumption); intro r9 n9 h9 tk9 F9 N9 H9)
  obtain ⟨rfl, rfl⟩ := H9
  rw [hf]
  (try dsimp only); (try k_fold)
  k_steps
  refine Hold.to ?_; k_dflt (refine' c_conv _ _ _ _ _ _ hg hnl2 _ _ _ _ _ _ _ _ _ _ _ _ _ _ _ _ _ _ _ _ ?k1 ?k2 ?k3 ?k4 ?k5 ?kK ?kd ?ku ?_; (case k1 => k_asm); (case k2 => k_asm); (case k3 => k_asm); (case k4 => k_asm); (case k5 => k_asm); (case kK => first | exact rfl | assumption); (case kd => k_room); (case ku => k_units); intro r9 n9 h9 tk9 F9 N9 H9)
  obtain ⟨rfl, rfl⟩ := H9
  (try dsimp only); (try k_fold)
  k_steps
  refine Hold.to ?_; k_dflt (refine' c_convX _ _ _ _ _ ha _ _ _ _ _ _ _ _ _ _ _ _ _ _ _ _ _ _ _ _ ?k1 ?k2 ?k3 ?k4 ?k5 ?kK ?kd ?ku ?_; (case k1 => k_asm); (case k2 => k_asm); (case k3 => k_asm); (case k4 => k_asm); (case k5 => k_asm); (case kK => first | exact rfl | assumption); (case kd => k_room); (case ku => k_units); intro e9 t9 args9 g9 h9 tk9 n9 F9 R9 U9 H9)
  subst H9
  (try dsimp only); (try k_fold)
  k_steps
  exact hret _ _ _ _ _ _ _ FG1 (by assumption) (by assumption) rfl
end
section
theorem warm_T7 : PySem.Challenge.rw_ta0132_01.Holds → hd1.heap_1_39 = hd1.heap_1_39 := by
  k_fill
  intro _
  rfl
theorem c_addX : ∀ (w : World) (x d l : Addr) (t : Tok) (n : Nat) (I : List It) (rest : Led) (nm : Str) (tn : Tok) (lt : Nat) (tv : Tok) (hxl : @Ne Nat x l) (hdl : @Ne Nat d l) (ha : lt = 65 ∨ lt = 97 ∨ lt = 66 ∨ lt = 98 ∨ lt = 95 ∨ lt = 126), ConX w 8 (call (.ref 335) [.ref x, .str nm tn, .str ⟨#[lt, 10]⟩ tv]) (TabF w.params x d l t n I rest) (fun newsX => newsX = TabF w.params x d l t n I rest) := by
  k_with_none
  k_with "storeName" => (k_here; (with_reducible show wpAny _ _ (storeName (envOfC _ _ _ _ _) _ _) _ _ _); k_dflt (refine' st_cell ?k1 ?k2 ?k3 ?k4 ?k5 ?k6 ?k7 ?_; (case k1 => k_asm); (case k2 => k_asm); (case k3 => exact rfl); (case k4 => exact rfl); (case k5 => exact rfl); (case k6 => k_updF); (case k7 => k_asm); k_whole); intro _ _ _ _ _; (try dsimp only))
  k_with "setItem ref ref ref" => (k_here; k_dflt (refine' store_all ?k1 ?k2 ?k3 ?k4 ?k5 ?k6 ?k7 ?k8 ?_; (case k1 => k_asm); (case k2 => k_asm); (case k3 => exact rfl); (case k4 => k_updF); (case k5 => k_mem); (case k6 => first | (simp only [beq_eq_false_iff_ne]; (try dsimp only); (refine neN ?_); omega) | (simp only [beq_eq_false_iff_ne]; assumption)); (case k7 => assumption); (case k8 => assumption); k_whole); intro _ _ _ _; (try dsimp only))
  k_with "call builtin:list.append" => (k_here; (with_reducible show wpAny _ _ (call (Value.builtin _) [Value.ref _, _]) _ _ _); k_dflt (refine' append_K ?k1 ?k2 ?k3 ?_ ?z; (case k1 => k_asm); (case k2 => k_asm); (case k3 => k_upd); (case z => first | size_fits | exact Nat.le_trans (by with_reducible assumption) (by decide)); k_whole); intro _ _ _; (try k_sweep))
  k_with "exec Assign cons ListComp" => (k_here; k_dflt (refine' compA ?c0 ?c1 ?c2 ?c3 ?_; (case c0 => exact rfl); (case c1 => with_unfolding_all rfl); (case c2 => exact rfl); (case c3 => decide)))
  k_with "leaving ref" => (k_here; first | (refine' leave_raiseS ?k1 (Heap.MadeExc.of (by assumption)) ?k2 ?k3 ?_; (case k1 => assumption); (case k2 => assumption); (case k3 => k_asm); k_whole; intro h' _ R' RK' U'; (try dsimp only at R' U' ⊢)) | (refine' leave_onS ?k1 ?k2 ?k3 ?k4 ?_; (case k3 => assumption); (case k1 => assumption); (case k4 => assumption); (case k2 => assumption); k_whole; intro h' R' RK' U'; (try dsimp only at R' U' ⊢)))
  k_with "delItem ref" => (k_here; (with_reducible show wpAny _ _ (delItem (Value.ref _) _) _ _ _); k_dflt (refine' delItem_own ?F ?X ?I ?hQ ?hS ?hF ?_; (case F => k_asm); (case X => k_asm); (case I => k_inst); (case hS => k_is); (case hF => k_is); (case hQ => k_is); k_whole))
  have hold0 : HoldK "+Comp" := .mk
  have hold1 : HoldA 237 := .mk
  have hold2 : HoldA 256 := .mk
  have skon : SkOn := .mk
  intro w x d l t n I rest nm tn lt tv hxl hdl ha
  unfold ConX
  intro mean mg mb dp un gd cn cs a ccd cl outer A₀ base h₀ L m s Q E B F X N T hk hd hu hret
  refine wpAny_call ?_
  k_dflt (refine' kp_more (front := [(Str.ofString "self", .ref x), (Str.ofString "_name", .str nm tn), (Str.ofString "_value", .str ⟨#[lt, 10]⟩ tv)]) ?k1 ?k2 ?k3 ?k4 ?k5 ?kA ?kF ?kK ?k6 ?k7 ?k8 ?kX ?kM ?kN ?kD ?kR ?kP ?kT ?kB ?_ ?c2 ?c3 ?c4 ?c5; (case kA => exact rfl); (case kF => exact rfl); (case kK => first | assumption | exact rfl); (case k1 => k_asm); (case k2 => k_asm); (case k3 => k_asm); (case k4 => k_asm); (case k5 => k_asm); (case k6 => k_is); (case k7 => k_is); (case k8 => k_room); (case kX => kp_lit); (case kM => exact rfl); (case kN => exact rfl); (case kD => kp_flats); (case kR => exact rfl); (case kP => exact rfl); (case kT => exact fun _ => rfl); (case kB => exact fun _ => locs rfl); (case c5 => decide); (case c2 => exact rfl); (case c3 => exact rfl); (case c4 => exact rfl); k_whole; intro D1 o1 g1 L1 h1 tk1 l1 lo1 hs1 fs1 FG1 F1 N1 B1 X1 T1; (try k_lt l1); (try dsimp only); (try k_lift B1); (try k_fold))
  k_steps
  refine Hold.to ?_; k_dflt (refine' c_convX _ _ _ _ _ ha _ _ _ _ _ _ _ _ _ _ _ _ _ _ _ _ _ _ _ _ ?k1 ?k2 ?k3 ?k4 ?k5 ?kK ?kd ?ku ?_; (case k1 => k_asm); (case k2 => k_asm); (case k3 => k_asm); (case k4 => k_asm); (case k5 => k_asm); (case kK => first | exact rfl | assumption); (case kd => k_room); (case ku => k_units); intro e9 t9 args9 g9 h9 tk9 n9 F9 R9 U9 H9)
  subst H9
  (try dsimp only); (try k_fold)
  k_steps
  exact hret _ _ _ _ _ _ _ FG1 (raised_drop (by assumption) fun _ h => List.mem_cons_of_mem _ (List.mem_cons_of_mem _ h)) (by assumption) rfl
theorem c_setX : ∀ (w : World) (x d l : Addr) (t : Tok) (n : Nat) (I : List It) (rest : Led) (nm : Str) (tn : Tok) (lt : Nat) (tv : Tok) (hI : ∀ i ∈ I, i.obj ∈ rest) (hK : ∀ i ∈ I, ItOk i) (hIn : I.length ≤ 64) (hlr : ∀ p ∈ rest, p.1 ≠ l) (hxl : @Ne Nat x l) (hdl : @Ne Nat d l) (hnl : nm.length ≤ 4) (hg : GoodSigns true nm) (ha : lt = 65 ∨ lt = 97 ∨ lt = 66 ∨ lt = 98 ∨ lt = 95 ∨ lt = 126), ConX w 8 (call (.ref 251) [.ref x, .str nm tn, .str ⟨#[lt, 10]⟩ tv]) (TabF w.params x d l t n I rest) (fun newsX => ∃ n', newsX = TabF w.params x d l t n' (I.filter fun i => !keyHit nm i) rest) := by
  have hold0 : HoldK "+Comp" := .mk
  have hold1 : HoldA 237 := .mk
  have hold2 : HoldA 256 := .mk
  have skon : SkOn := .mk
  intro w x d l t n I rest nm tn lt tv hI hK hIn hlr hxl hdl hnl hg ha
  unfold ConX
  intro mean mg mb dp un gd cn cs a ccd cl outer A₀ base h₀ L m s Q E B F X N T hk hd hu hret
  have hnl2 := good_len hnl
  refine wpAny_call ?_
  k_dflt (refine' code_def (binds := [(Str.ofString "self", .ref x), (Str.ofString "name", .str nm tn), (Str.ofString "val", .str ⟨#[lt, 10]⟩ tv)]) ?k1 ?k2 ?k3 ?k4 ?k5 ?kA ?kF ?kK ?k6 ?k7 ?k8 ?k9 ?kB ?_ ?c2 ?c3 ?c4 ?c5; (case kA => exact rfl); (case kF => exact rfl); (case kK => first | assumption | exact rfl); (case k1 => k_asm); (case k2 => k_asm); (case k3 => k_asm); (case k4 => k_asm); (case k5 => k_asm); (case k6 => k_is); (case k7 => k_is); (case k8 => k_room); (case k9 => first | exact BindsTo.of_eq rfl | exact binds_K (by k_in) rfl (by k_is) rfl rfl rfl); (case c5 => decide); (case kB => exact locs rfl); (case c2 => exact rfl); (case c3 => exact rfl); (case c4 => exact rfl); k_whole; intro g1 L1 h1 FG1 F1 N1 B1 X1 T1; (try dsimp only); (try k_lift B1); (try k_fold))
  k_steps
  refine Hold.to ?_; k_dflt (refine' c_del _ _ _ _ _ _ _ _ _ _ ?p1 ?p2 ?p3 ?p4 ?p5 ?p6 ?p7 ?p8 _ _ _ _ _ _ _ _ _ _ _ _ _ _ _ _ _ _ _ _ ?k1 ?k2 ?k3 ?k4 ?k5 ?kK ?kd ?ku ?_; (case k1 => k_asm); (case k2 => k_asm); (case k3 => k_asm); (case k4 => k_asm); (case k5 => k_asm); (case kK => first | exact rfl | assumption); (case kd => k_room); (case ku => k_units); (case p1 => assumption); (case p2 => assumption); (case p3 => assumption); (case p4 => assumption); (case p5 => assumption); (case p6 => assumption); (case p7 => assumption); (case p8 => assumption); intro r9 n9 h9 tk9 F9 N9 H9)
  obtain ⟨⟨n8, rfl⟩, rfl⟩ := H9
  (try dsimp only); (try k_fold)
  k_steps
  refine Hold.to ?_; k_dflt (refine' c_conv _ _ _ _ _ _ hg hnl2 _ _ _ _ _ _ _ _ _ _ _ _ _ _ _ _ _ _ _ _ ?k1 ?k2 ?k3 ?k4 ?k5 ?kK ?kd ?ku ?_; (case k1 => k_asm); (case k2 => k_asm); (case k3 => k_asm); (case k4 => k_asm); (case k5 => k_asm); (case kK => first | exact rfl | assumption); (case kd => k_room); (case ku => k_units); intro r9 n9 h9 tk9 F9 N9 H9)
  obtain ⟨rfl, rfl⟩ := H9
  (try dsimp only); (try k_fold)
  k_steps
  refine Hold.to ?_; k_dflt (refine' c_convX _ _ _ _ _ ha _ _ _ _ _ _ _ _ _ _ _ _ _ _ _ _ _ _ _ _ ?k1 ?k2 ?k3 ?k4 ?k5 ?kK ?kd ?ku ?_; (case k1 => k_asm); (case k2 => k_asm); (case k3 => k_asm); (case k4 => k_asm); (case k5 => k_asm); (case kK => first | exact rfl | assumption); (case kd => k_room); (case ku => k_units); intro e9 t9 args9 g9 h9 tk9 n9 F9 R9 U9 H9)
  subst H9
  (try dsimp only); (try k_fold)
  k_steps
  exact hret _ _ _ _ _ _ _ FG1 (by assumption) (by assumption) ⟨_, rfl⟩
end
section
theorem warm_T8 : PySem.Challenge.rw_ta0132_01.Holds → hd1.heap_1_39 = hd1.heap_1_39 := by
  k_fill
  intro _
  rfl
theorem c_ans0g : ∀ (w : World) (x d l : Addr) (t : Tok) (n : Nat) (I : List It) (rest : Led) (nm : Str) (tn : Tok) (vl : Str) (tv : Tok) (td : Tok) (hI : ∀ i ∈ I, i.obj ∈ rest) (hK : ∀ i ∈ I, ItOk i) (hIn : I.length ≤ 64) (hlr : ∀ p ∈ rest, p.1 ≠ l) (hxl : @Ne Nat x l) (hdl : @Ne Nat d l) (hnl : nm.length ≤ 4) (hg : GoodSigns true nm) (hvl : vl.length ≤ 4) (hvg : GoodSigns false vl), Con w 10 (call (.ref 377) [.ref x, .int 0 td, .str nm tn, .str vl tv]) (TabF w.params x d l t n I rest) (fun r news' => r = .none ∧ ∃ D, TabPost w.params x d l t ((I.filter fun i => !keyHit nm i) ++ [⟨D, nm, tn, vl, tv⟩]) rest news') := by
  k_with_none
  k_with "storeName" => (k_here; (with_reducible show wpAny _ _ (storeName (envOfC _ _ _ _ _) _ _) _ _ _); k_dflt (refine' st_cell ?k1 ?k2 ?k3 ?k4 ?k5 ?k6 ?k7 ?_; (case k1 => k_asm); (case k2 => k_asm); (case k3 => exact rfl); (case k4 => exact rfl); (case k5 => exact rfl); (case k6 => k_updF); (case k7 => k_asm); k_whole); intro _ _ _ _ _; (try dsimp only))
  k_with "setItem ref ref ref" => (k_here; k_dflt (refine' store_all ?k1 ?k2 ?k3 ?k4 ?k5 ?k6 ?k7 ?k8 ?_; (case k1 => k_asm); (case k2 => k_asm); (case k3 => exact rfl); (case k4 => k_updF); (case k5 => k_mem); (case k6 => first | (simp only [beq_eq_false_iff_ne]; (try dsimp only); (refine neN ?_); omega) | (simp only [beq_eq_false_iff_ne]; assumption)); (case k7 => assumption); (case k8 => assumption); k_whole); intro _ _ _ _; (try dsimp only))
  k_with "call builtin:list.append" => (k_here; (with_reducible show wpAny _ _ (call (Value.builtin _) [Value.ref _, _]) _ _ _); k_dflt (refine' append_K ?k1 ?k2 ?k3 ?_ ?z; (case k1 => k_asm); (case k2 => k_asm); (case k3 => k_upd); (case z => first | size_fits | exact Nat.le_trans (by with_reducible assumption) (by decide)); k_whole); intro _ _ _; (try k_sweep))
  k_with "exec Assign cons ListComp" => (k_here; k_dflt (refine' compA ?c0 ?c1 ?c2 ?c3 ?_; (case c0 => exact rfl); (case c1 => with_unfolding_all rfl); (case c2 => exact rfl); (case c3 => decide)))
  k_with "leaving ref" => (k_here; first | (refine' leave_raiseS ?k1 (Heap.MadeExc.of (by assumption)) ?k2 ?k3 ?_; (case k1 => assumption); (case k2 => assumption); (case k3 => k_asm); k_whole; intro h' _ R' RK' U'; (try dsimp only at R' U' ⊢)) | (refine' leave_onS ?k1 ?k2 ?k3 ?k4 ?_; (case k3 => assumption); (case k1 => assumption); (case k4 => assumption); (case k2 => assumption); k_whole; intro h' R' RK' U'; (try dsimp only at R' U' ⊢)))
  k_with "delItem ref" => (k_here; (with_reducible show wpAny _ _ (delItem (Value.ref _) _) _ _ _); k_dflt (refine' delItem_own ?F ?X ?I ?hQ ?hS ?hF ?_; (case F => k_asm); (case X => k_asm); (case I => k_inst); (case hS => k_is); (case hF => k_is); (case hQ => k_is); k_whole))
  have hold0 : HoldK "+Comp" := .mk
  have hold1 : HoldA 256 := .mk
  have hold2 : HoldA 251 := .mk
  have hold3 : HoldA 328 := .mk
  have hold4 : HoldA 335 := .mk
  have skon : SkOn := .mk
  intro w x d l t n I rest nm tn vl tv td hI hK hIn hlr hxl hdl hnl hg hvl hvg
  unfold Con
  intro mean mg mb dp un gd cn cs a ccd cl outer A₀ base h₀ L m s Q E B F X N T hk hd hu hret
  refine wpAny_call ?_
  k_dflt (refine' code_def (binds := [(Str.ofString "table", .ref x), (Str.ofString "deed", .int 0 td), (Str.ofString "name", .str nm tn), (Str.ofString "value", .str vl tv)]) ?k1 ?k2 ?k3 ?k4 ?k5 ?kA ?kF ?kK ?k6 ?k7 ?k8 ?k9 ?kB ?_ ?c2 ?c3 ?c4 ?c5; (case kA => exact rfl); (case kF => exact rfl); (case kK => first | assumption | exact rfl); (case k1 => k_asm); (case k2 => k_asm); (case k3 => k_asm); (case k4 => k_asm); (case k5 => k_asm); (case k6 => k_is); (case k7 => k_is); (case k8 => k_room); (case k9 => first | exact BindsTo.of_eq rfl | exact binds_K (by k_in) rfl (by k_is) rfl rfl rfl); (case c5 => decide); (case kB => exact locs rfl); (case c2 => exact rfl); (case c3 => exact rfl); (case c4 => exact rfl); k_whole; intro g1 L1 h1 FG1 F1 N1 B1 X1 T1; (try dsimp only); (try k_lift B1); (try k_fold))
  k_steps
  refine Hold.to ?_; k_dflt (refine' c_set _ _ _ _ _ _ _ _ _ _ _ _ ?p1 ?p2 ?p3 ?p4 ?p5 ?p6 ?p7 ?p8 ?p9 ?p10 _ _ _ _ _ _ _ _ _ _ _ _ _ _ _ _ _ _ _ _ ?k1 ?k2 ?k3 ?k4 ?k5 ?kK ?kd ?ku ?_; (case k1 => k_asm); (case k2 => k_asm); (case k3 => k_asm); (case k4 => k_asm); (case k5 => k_asm); (case kK => first | exact rfl | assumption); (case kd => k_room); (case ku => k_units); (case p1 => assumption); (case p2 => assumption); (case p3 => assumption); (case p4 => assumption); (case p5 => assumption); (case p6 => assumption); (case p7 => assumption); (case p8 => assumption); (case p9 => assumption); (case p10 => assumption); intro r9 n9 h9 tk9 F9 N9 H9)
  obtain ⟨rfl, D9, n', rest', rfl, H1, H2, H3⟩ := H9
  (try dsimp only); (try k_fold)
  k_steps
  exact hret _ _ _ _ (by assumption) (by assumption) ⟨rfl, _, _, _, rfl, H1, H2, H3⟩
theorem c_ans0b : ∀ (w : World) (x d l : Addr) (t : Tok) (n : Nat) (I : List It) (rest : Led) (nm : Str) (tn : Tok) (lt : Nat) (tv : Tok) (td : Tok) (hI : ∀ i ∈ I, i.obj ∈ rest) (hK : ∀ i ∈ I, ItOk i) (hIn : I.length ≤ 64) (hlr : ∀ p ∈ rest, p.1 ≠ l) (hxl : @Ne Nat x l) (hdl : @Ne Nat d l) (hnl : nm.length ≤ 4) (hg : GoodSigns true nm) (ha : lt = 65 ∨ lt = 97 ∨ lt = 66 ∨ lt = 98 ∨ lt = 95 ∨ lt = 126), Con0 w 10 (call (.ref 377) [.ref x, .int 0 td, .str nm tn, .str ⟨#[lt, 10]⟩ tv]) (TabF w.params x d l t n I rest) (fun r news' => (∃ k, r = .int 0 k) ∧ ∃ n', news' = TabF w.params x d l t n' (I.filter fun i => !keyHit nm i) rest) := by
  have hold0 : HoldK "+Comp" := .mk
  have hold1 : HoldA 256 := .mk
  have hold2 : HoldA 251 := .mk
  have hold3 : HoldA 328 := .mk
  have hold4 : HoldA 335 := .mk
  have skon : SkOn := .mk
  intro w x d l t n I rest nm tn lt tv td hI hK hIn hlr hxl hdl hnl hg ha
  unfold Con0
  intro mean mg mb dp un gd cn cs a ccd A₀ h₀ L m s Q E B F X N T hk hd hu hret
  refine wpAny_call ?_
  k_dflt (refine' code_defS0 (binds := [(Str.ofString "table", .ref x), (Str.ofString "deed", .int 0 td), (Str.ofString "name", .str nm tn), (Str.ofString "value", .str ⟨#[lt, 10]⟩ tv)]) ?k1 ?k2 ?k3 ?k4 ?k5 ?kA ?k6 ?k7 ?k8 ?k9 ?kB ?_ ?cK ?c2 ?c3 ?c4 ?c5; (case kA => exact rfl); (case k2 => k_asm); (case k1 => k_asm); (case k3 => k_asm); (case k4 => k_asm); (case k5 => k_asm); (case k6 => k_is); (case k7 => k_is); (case k8 => k_room); (case k9 => first | exact BindsTo.of_eq rfl | exact binds_K (by k_in) rfl (by k_is) rfl rfl rfl); (case kB => exact locs rfl); (case cK => assumption); (case c2 => exact rfl); (case c3 => exact rfl); (case c4 => exact rfl); (case c5 => decide); k_whole; intro g1 L1 h1 FG1 F1 N1 B1 X1 T1 D1; (try dsimp only); (try k_lift B1); (try k_fold))
  k_steps
  refine Hold.to ?_; k_dflt (refine' c_setX _ _ _ _ _ _ _ _ _ _ _ _ ?p1 ?p2 ?p3 ?p4 ?p5 ?p6 ?p7 ?p8 ?p9 _ _ _ _ _ _ _ _ _ _ _ _ _ _ _ _ _ _ _ _ ?k1 ?k2 ?k3 ?k4 ?k5 ?kK ?kd ?ku ?_; (case k1 => k_asm); (case k2 => k_asm); (case k3 => k_asm); (case k4 => k_asm); (case k5 => k_asm); (case kK => first | exact rfl | assumption); (case kd => k_room); (case ku => k_units); (case p1 => assumption); (case p2 => assumption); (case p3 => assumption); (case p4 => assumption); (case p5 => assumption); (case p6 => assumption); (case p7 => assumption); (case p8 => assumption); (case p9 => assumption); intro e9 t9 args9 g9 h9 tk9 n9 F9 R9 U9 H9)
  obtain ⟨n', rfl⟩ := H9
  (try dsimp only); (try k_fold)
  k_steps
  exact hret _ _ _ _ (by assumption) (by assumption) ⟨⟨_, rfl⟩, _, rfl⟩
theorem c_ans1 : ∀ (w : World) (x d l : Addr) (t : Tok) (n : Nat) (I : List It) (rest : Led) (nm : Str) (tn : Tok) (vl : Str) (tv : Tok) (td : Tok) (hI : ∀ i ∈ I, i.obj ∈ rest) (hK : ∀ i ∈ I, ItOk i) (hIn : I.length ≤ 64) (hlr : ∀ p ∈ rest, p.1 ≠ l) (hxl : @Ne Nat x l) (hdl : @Ne Nat d l) (hnl : nm.length ≤ 4) (hg : GoodSigns true nm), Con w 10 (call (.ref 377) [.ref x, .int 1 td, .str nm tn, .str vl tv]) (TabF w.params x d l t n I rest) (fun r news' => r = .none ∧ ∃ n', news' = TabF w.params x d l t n' (I.filter fun i => !keyHit nm i) rest) := by
  have hold0 : HoldK "+Comp" := .mk
  have hold1 : HoldA 256 := .mk
  have hold2 : HoldA 251 := .mk
  have hold3 : HoldA 328 := .mk
  have hold4 : HoldA 335 := .mk
  have skon : SkOn := .mk
  intro w x d l t n I rest nm tn vl tv td hI hK hIn hlr hxl hdl hnl hg
  unfold Con
  intro mean mg mb dp un gd cn cs a ccd cl outer A₀ base h₀ L m s Q E B F X N T hk hd hu hret
  refine wpAny_call ?_
  k_dflt (refine' code_def (binds := [(Str.ofString "table", .ref x), (Str.ofString "deed", .int 1 td), (Str.ofString "name", .str nm tn), (Str.ofString "value", .str vl tv)]) ?k1 ?k2 ?k3 ?k4 ?k5 ?kA ?kF ?kK ?k6 ?k7 ?k8 ?k9 ?kB ?_ ?c2 ?c3 ?c4 ?c5; (case kA => exact rfl); (case kF => exact rfl); (case kK => first | assumption | exact rfl); (case k1 => k_asm); (case k2 => k_asm); (case k3 => k_asm); (case k4 => k_asm); (case k5 => k_asm); (case k6 => k_is); (case k7 => k_is); (case k8 => k_room); (case k9 => first | exact BindsTo.of_eq rfl | exact binds_K (by k_in) rfl (by k_is) rfl rfl rfl); (case c5 => decide); (case kB => exact locs rfl); (case c2 => exact rfl); (case c3 => exact rfl); (case c4 => exact rfl); k_whole; intro g1 L1 h1 FG1 F1 N1 B1 X1 T1; (try dsimp only); (try k_lift B1); (try k_fold))
  k_steps
  refine Hold.to ?_; k_dflt (refine' c_del _ _ _ _ _ _ _ _ _ _ ?p1 ?p2 ?p3 ?p4 ?p5 ?p6 ?p7 ?p8 _ _ _ _ _ _ _ _ _ _ _ _ _ _ _ _ _ _ _ _ ?k1 ?k2 ?k3 ?k4 ?k5 ?kK ?kd ?ku ?_; (case k1 => k_asm); (case k2 => k_asm); (case k3 => k_asm); (case k4 => k_asm); (case k5 => k_asm); (case kK => first | exact rfl | assumption); (case kd => k_room); (case ku => k_units); (case p1 => assumption); (case p2 => assumption); (case p3 => assumption); (case p4 => assumption); (case p5 => assumption); (case p6 => assumption); (case p7 => assumption); (case p8 => assumption); intro r9 n9 h9 tk9 F9 N9 H9)
  obtain ⟨⟨n', rfl⟩, rfl⟩ := H9
  (try dsimp only); (try k_fold)
  k_steps
  exact hret _ _ _ _ (by assumption) (by assumption) ⟨rfl, _, rfl⟩
theorem c_ans2g : ∀ (w : World) (x d l : Addr) (t : Tok) (n : Nat) (I : List It) (rest : Led) (nm : Str) (tn : Tok) (vl : Str) (tv : Tok) (td : Tok) (hI : ∀ i ∈ I, i.obj ∈ rest) (hK : ∀ i ∈ I, ItOk i) (hIn : I.length ≤ 64) (hlr : ∀ p ∈ rest, p.1 ≠ l) (hxl : @Ne Nat x l) (hdl : @Ne Nat d l) (hnl : nm.length ≤ 4) (hg : GoodSigns true nm) (hvl : vl.length ≤ 4) (hvg : GoodSigns false vl) (hf : gotten I nm = .none), Con w 10 (call (.ref 377) [.ref x, .int 2 td, .str nm tn, .str vl tv]) (TabF w.params x d l t n I rest) (fun r news' => r = .str vl tv ∧ ∃ D, TabPost w.params x d l t (I ++ [⟨D, nm, tn, vl, tv⟩]) rest news') := by
  have hold0 : HoldK "+Comp" := .mk
  have hold1 : HoldA 256 := .mk
  have hold2 : HoldA 251 := .mk
  have hold3 : HoldA 328 := .mk
  have hold4 : HoldA 335 := .mk
  have skon : SkOn := .mk
  intro w x d l t n I rest nm tn vl tv td hI hK hIn hlr hxl hdl hnl hg hvl hvg hf
  unfold Con
  intro mean mg mb dp un gd cn cs a ccd cl outer A₀ base h₀ L m s Q E B F X N T hk hd hu hret
  refine wpAny_call ?_
  k_dflt (refine' code_def (binds := [(Str.ofString "table", .ref x), (Str.ofString "deed", .int 2 td), (Str.ofString "name", .str nm tn), (Str.ofString "value", .str vl tv)]) ?k1 ?k2 ?k3 ?k4 ?k5 ?kA ?kF ?kK ?k6 ?k7 ?k8 ?k9 ?kB ?_ ?c2 ?c3 ?c4 ?c5; (case kA => exact rfl); (case kF => exact rfl); (case kK => first | assumption | exact rfl); (case k1 => k_asm); (case k2 => k_asm); (case k3 => k_asm); (case k4 => k_asm); (case k5 => k_asm); (case k6 => k_is); (case k7 => k_is); (case k8 => k_room); (case k9 => first | exact BindsTo.of_eq rfl | exact binds_K (by k_in) rfl (by k_is) rfl rfl rfl); (case c5 => decide); (case kB => exact locs rfl); (case c2 => exact rfl); (case c3 => exact rfl); (case c4 => exact rfl); k_whole; intro g1 L1 h1 FG1 F1 N1 B1 X1 T1; (try dsimp only); (try k_lift B1); (try k_fold))
  k_steps
  refine Hold.to ?_; k_dflt (refine' c_sdef0 _ _ _ _ _ _ _ _ _ _ _ _ ?p1 ?p2 ?p3 ?p4 ?p5 ?p6 ?p7 ?p8 ?p9 ?p10 ?p11 _ _ _ _ _ _ _ _ _ _ _ _ _ _ _ _ _ _ _ _ ?k1 ?k2 ?k3 ?k4 ?k5 ?kK ?kd ?ku ?_; (case k1 => k_asm); (case k2 => k_asm); (case k3 => k_asm); (case k4 => k_asm); (case k5 => k_asm); (case kK => first | exact rfl | assumption); (case kd => k_room); (case ku => k_units); (case p1 => assumption); (case p2 => assumption); (case p3 => assumption); (case p4 => assumption); (case p5 => assumption); (case p6 => assumption); (case p7 => assumption); (case p8 => assumption); (case p9 => assumption); (case p10 => assumption); (case p11 => assumption); intro r9 n9 h9 tk9 F9 N9 H9)
  obtain ⟨rfl, D9, n', rest', rfl, H1, H2, H3⟩ := H9
  (try dsimp only); (try k_fold)
  k_steps
  exact hret _ _ _ _ (by assumption) (by assumption) ⟨rfl, _, _, _, rfl, H1, H2, H3⟩
theorem c_ans2o : ∀ (w : World) (x d l : Addr) (t : Tok) (n : Nat) (I : List It) (rest : Led) (nm : Str) (tn : Tok) (vl : Str) (tv : Tok) (td : Tok) (hI : ∀ i ∈ I, i.obj ∈ rest) (hK : ∀ i ∈ I, ItOk i) (hIn : I.length ≤ 64) (hlr : ∀ p ∈ rest, p.1 ≠ l) (hxl : @Ne Nat x l) (hdl : @Ne Nat d l) (hnl : nm.length ≤ 4) (hg : GoodSigns true nm) (v' : Str) (tv' : Tok) (hf : gotten I nm = .str v' tv'), Con w 10 (call (.ref 377) [.ref x, .int 2 td, .str nm tn, .str vl tv]) (TabF w.params x d l t n I rest) (fun r news' => r = .str v' tv' ∧ news' = TabF w.params x d l t n I rest) := by
  have hold0 : HoldK "+Comp" := .mk
  have hold1 : HoldA 256 := .mk
  have hold2 : HoldA 251 := .mk
  have hold3 : HoldA 328 := .mk
  have hold4 : HoldA 335 := .mk
  have skon : SkOn := .mk
  intro w x d l t n I rest nm tn vl tv td hI hK hIn hlr hxl hdl hnl hg v' tv' hf
  unfold Con
  intro mean mg mb dp un gd cn cs a ccd cl outer A₀ base h₀ L m s Q E B F X N T hk hd hu hret
  refine wpAny_call ?_
  k_dflt (refine' code_def (binds := [(Str.ofString "table", .ref x), (Str.ofString "deed", .int 2 td), (Str.ofString "name", .str nm tn), (Str.ofString "value", .str vl tv)]) ?k1 ?k2 ?k3 ?k4 ?k5 ?kA ?kF ?kK ?k6 ?k7 ?k8 ?k9 ?kB ?_ ?c2 ?c3 ?c4 ?c5; (case kA => exact rfl); (case kF => exact rfl); (case kK => first | assumption | exact rfl); (case k1 => k_asm); (case k2 => k_asm); (case k3 => k_asm); (case k4 => k_asm); (case k5 => k_asm); (case k6 => k_is); (case k7 => k_is); (case k8 => k_room); (case k9 => first | exact BindsTo.of_eq rfl | exact binds_K (by k_in) rfl (by k_is) rfl rfl rfl); (case c5 => decide); (case kB => exact locs rfl); (case c2 => exact rfl); (case c3 => exact rfl); (case c4 => exact rfl); k_whole; intro g1 L1 h1 FG1 F1 N1 B1 X1 T1; (try dsimp only); (try k_lift B1); (try k_fold))
  k_steps
  refine Hold.to ?_; k_dflt (refine' c_sdef1 _ _ _ _ _ _ _ _ _ _ _ _ _ _ ?p1 ?p2 ?p3 ?p4 ?p5 _ _ _ _ _ _ _ _ _ _ _ _ _ _ _ _ _ _ _ _ ?k1 ?k2 ?k3 ?k4 ?k5 ?kK ?kd ?ku ?_; (case k1 => k_asm); (case k2 => k_asm); (case k3 => k_asm); (case k4 => k_asm); (case k5 => k_asm); (case kK => first | exact rfl | assumption); (case kd => k_room); (case ku => k_units); (case p1 => assumption); (case p2 => assumption); (case p3 => assumption); (case p4 => assumption); (case p5 => assumption); intro r9 n9 h9 tk9 F9 N9 H9)
  obtain ⟨rfl, rfl⟩ := H9
  (try dsimp only); (try k_fold)
  k_steps
  exact hret _ _ _ _ (by assumption) (by assumption) ⟨rfl, rfl⟩
theorem c_ans2b : ∀ (w : World) (x d l : Addr) (t : Tok) (n : Nat) (I : List It) (rest : Led) (nm : Str) (tn : Tok) (lt : Nat) (tv : Tok) (td : Tok) (hI : ∀ i ∈ I, i.obj ∈ rest) (hK : ∀ i ∈ I, ItOk i) (hIn : I.length ≤ 64) (hlr : ∀ p ∈ rest, p.1 ≠ l) (hxl : @Ne Nat x l) (hdl : @Ne Nat d l) (hnl : nm.length ≤ 4) (hg : GoodSigns true nm) (ha : lt = 65 ∨ lt = 97 ∨ lt = 66 ∨ lt = 98 ∨ lt = 95 ∨ lt = 126) (hf : gotten I nm = .none), Con0 w 10 (call (.ref 377) [.ref x, .int 2 td, .str nm tn, .str ⟨#[lt, 10]⟩ tv]) (TabF w.params x d l t n I rest) (fun r news' => (∃ k, r = .int 0 k) ∧ news' = TabF w.params x d l t n I rest) := by
  have hold0 : HoldK "+Comp" := .mk
  have hold1 : HoldA 256 := .mk
  have hold2 : HoldA 251 := .mk
  have hold3 : HoldA 328 := .mk
  have hold4 : HoldA 335 := .mk
  have skon : SkOn := .mk
  intro w x d l t n I rest nm tn lt tv td hI hK hIn hlr hxl hdl hnl hg ha hf
  unfold Con0
  intro mean mg mb dp un gd cn cs a ccd A₀ h₀ L m s Q E B F X N T hk hd hu hret
  refine wpAny_call ?_
  k_dflt (refine' code_defS0 (binds := [(Str.ofString "table", .ref x), (Str.ofString "deed", .int 2 td), (Str.ofString "name", .str nm tn), (Str.ofString "value", .str ⟨#[lt, 10]⟩ tv)]) ?k1 ?k2 ?k3 ?k4 ?k5 ?kA ?k6 ?k7 ?k8 ?k9 ?kB ?_ ?cK ?c2 ?c3 ?c4 ?c5; (case kA => exact rfl); (case k2 => k_asm); (case k1 => k_asm); (case k3 => k_asm); (case k4 => k_asm); (case k5 => k_asm); (case k6 => k_is); (case k7 => k_is); (case k8 => k_room); (case k9 => first | exact BindsTo.of_eq rfl | exact binds_K (by k_in) rfl (by k_is) rfl rfl rfl); (case kB => exact locs rfl); (case cK => assumption); (case c2 => exact rfl); (case c3 => exact rfl); (case c4 => exact rfl); (case c5 => decide); k_whole; intro g1 L1 h1 FG1 F1 N1 B1 X1 T1 D1; (try dsimp only); (try k_lift B1); (try k_fold))
  k_steps
  refine Hold.to ?_; k_dflt (refine' c_sdefX _ _ _ _ _ _ _ _ _ _ _ _ ?p1 ?p2 ?p3 ?p4 ?p5 ?p6 _ _ _ _ _ _ _ _ _ _ _ _ _ _ _ _ _ _ _ _ ?k1 ?k2 ?k3 ?k4 ?k5 ?kK ?kd ?ku ?_; (case k1 => k_asm); (case k2 => k_asm); (case k3 => k_asm); (case k4 => k_asm); (case k5 => k_asm); (case kK => first | exact rfl | assumption); (case kd => k_room); (case ku => k_units); (case p1 => assumption); (case p2 => assumption); (case p3 => assumption); (case p4 => assumption); (case p5 => assumption); (case p6 => assumption); intro e9 t9 args9 g9 h9 tk9 n9 F9 R9 U9 H9)
  subst H9
  (try dsimp only); (try k_fold)
  k_steps
  exact hret _ _ _ _ (by assumption) (by assumption) ⟨⟨_, rfl⟩, rfl⟩
theorem c_ans3g : ∀ (w : World) (x d l : Addr) (t : Tok) (n : Nat) (I : List It) (rest : Led) (nm : Str) (tn : Tok) (vl : Str) (tv : Tok) (td : Tok) (hI : ∀ i ∈ I, i.obj ∈ rest) (hK : ∀ i ∈ I, ItOk i) (hIn : I.length ≤ 64) (hlr : ∀ p ∈ rest, p.1 ≠ l) (hxl : @Ne Nat x l) (hdl : @Ne Nat d l) (hnl : nm.length ≤ 4) (hg : GoodSigns true nm) (hvl : vl.length ≤ 4) (hvg : GoodSigns false vl), Con w 10 (call (.ref 377) [.ref x, .int 3 td, .str nm tn, .str vl tv]) (TabF w.params x d l t n I rest) (fun r news' => r = .none ∧ ∃ D tv, TabPost w.params x d l t (I ++ [⟨D, nm, tn, vl, tv⟩]) rest news') := by
  have hold0 : HoldK "+Comp" := .mk
  have hold1 : HoldA 256 := .mk
  have hold2 : HoldA 251 := .mk
  have hold3 : HoldA 328 := .mk
  have hold4 : HoldA 335 := .mk
  have skon : SkOn := .mk
  intro w x d l t n I rest nm tn vl tv td hI hK hIn hlr hxl hdl hnl hg hvl hvg
  unfold Con
  intro mean mg mb dp un gd cn cs a ccd cl outer A₀ base h₀ L m s Q E B F X N T hk hd hu hret
  refine wpAny_call ?_
  k_dflt (refine' code_def (binds := [(Str.ofString "table", .ref x), (Str.ofString "deed", .int 3 td), (Str.ofString "name", .str nm tn), (Str.ofString "value", .str vl tv)]) ?k1 ?k2 ?k3 ?k4 ?k5 ?kA ?kF ?kK ?k6 ?k7 ?k8 ?k9 ?kB ?_ ?c2 ?c3 ?c4 ?c5; (case kA => exact rfl); (case kF => exact rfl); (case kK => first | assumption | exact rfl); (case k1 => k_asm); (case k2 => k_asm); (case k3 => k_asm); (case k4 => k_asm); (case k5 => k_asm); (case k6 => k_is); (case k7 => k_is); (case k8 => k_room); (case k9 => first | exact BindsTo.of_eq rfl | exact binds_K (by k_in) rfl (by k_is) rfl rfl rfl); (case c5 => decide); (case kB => exact locs rfl); (case c2 => exact rfl); (case c3 => exact rfl); (case c4 => exact rfl); k_whole; intro g1 L1 h1 FG1 F1 N1 B1 X1 T1; (try dsimp only); (try k_lift B1); (try k_fold))
  k_steps
  refine Hold.to ?_; k_dflt (refine' c_add _ _ _ _ _ _ _ _ _ _ _ _ ?p1 ?p2 ?p3 ?p4 ?p5 ?p6 ?p7 ?p8 ?p9 _ _ _ _ _ _ _ _ _ _ _ _ _ _ _ _ _ _ _ _ ?k1 ?k2 ?k3 ?k4 ?k5 ?kK ?kd ?ku ?_; (case k1 => k_asm); (case k2 => k_asm); (case k3 => k_asm); (case k4 => k_asm); (case k5 => k_asm); (case kK => first | exact rfl | assumption); (case kd => k_room); (case ku => k_units); (case p1 => assumption); (case p2 => assumption); (case p3 => assumption); (case p4 => assumption); (case p5 => assumption); (case p6 => assumption); (case p7 => assumption); (case p8 => assumption); (case p9 => assumption); intro r9 n9 h9 tk9 F9 N9 H9)
  obtain ⟨rfl, D9, tv9, n', rest', rfl, H1, H2, H3⟩ := H9
  (try dsimp only); (try k_fold)
  k_steps
  exact hret _ _ _ _ (by assumption) (by assumption) ⟨rfl, _, _, _, _, rfl, H1, H2, H3⟩
theorem c_ans3b : ∀ (w : World) (x d l : Addr) (t : Tok) (n : Nat) (I : List It) (rest : Led) (nm : Str) (tn : Tok) (lt : Nat) (tv : Tok) (td : Tok) (hI : ∀ i ∈ I, i.obj ∈ rest) (hK : ∀ i ∈ I, ItOk i) (hIn : I.length ≤ 64) (hlr : ∀ p ∈ rest, p.1 ≠ l) (hxl : @Ne Nat x l) (hdl : @Ne Nat d l) (hnl : nm.length ≤ 4) (hg : GoodSigns true nm) (ha : lt = 65 ∨ lt = 97 ∨ lt = 66 ∨ lt = 98 ∨ lt = 95 ∨ lt = 126), Con0 w 10 (call (.ref 377) [.ref x, .int 3 td, .str nm tn, .str ⟨#[lt, 10]⟩ tv]) (TabF w.params x d l t n I rest) (fun r news' => (∃ k, r = .int 0 k) ∧ news' = TabF w.params x d l t n I rest) := by
  have hold0 : HoldK "+Comp" := .mk
  have hold1 : HoldA 256 := .mk
  have hold2 : HoldA 251 := .mk
  have hold3 : HoldA 328 := .mk
  have hold4 : HoldA 335 := .mk
  have skon : SkOn := .mk
  intro w x d l t n I rest nm tn lt tv td hI hK hIn hlr hxl hdl hnl hg ha
  unfold Con0
  intro mean mg mb dp un gd cn cs a ccd A₀ h₀ L m s Q E B F X N T hk hd hu hret
  refine wpAny_call ?_
  k_dflt (refine' code_defS0 (binds := [(Str.ofString "table", .ref x), (Str.ofString "deed", .int 3 td), (Str.ofString "name", .str nm tn), (Str.ofString "value", .str ⟨#[lt, 10]⟩ tv)]) ?k1 ?k2 ?k3 ?k4 ?k5 ?kA ?k6 ?k7 ?k8 ?k9 ?kB ?_ ?cK ?c2 ?c3 ?c4 ?c5; (case kA => exact rfl); (case k2 => k_asm); (case k1 => k_asm); (case k3 => k_asm); (case k4 => k_asm); (case k5 => k_asm); (case k6 => k_is); (case k7 => k_is); (case k8 => k_room); (case k9 => first | exact BindsTo.of_eq rfl | exact binds_K (by k_in) rfl (by k_is) rfl rfl rfl); (case kB => exact locs rfl); (case cK => assumption); (case c2 => exact rfl); (case c3 => exact rfl); (case c4 => exact rfl); (case c5 => decide); k_whole; intro g1 L1 h1 FG1 F1 N1 B1 X1 T1 D1; (try dsimp only); (try k_lift B1); (try k_fold))
  k_steps
  refine Hold.to ?_; k_dflt (refine' c_addX _ _ _ _ _ _ _ _ _ _ _ _ ?p1 ?p2 ?p3 _ _ _ _ _ _ _ _ _ _ _ _ _ _ _ _ _ _ _ _ ?k1 ?k2 ?k3 ?k4 ?k5 ?kK ?kd ?ku ?_; (case k1 => k_asm); (case k2 => k_asm); (case k3 => k_asm); (case k4 => k_asm); (case k5 => k_asm); (case kK => first | exact rfl | assumption); (case kd => k_room); (case ku => k_units); (case p1 => assumption); (case p2 => assumption); (case p3 => assumption); intro e9 t9 args9 g9 h9 tk9 n9 F9 R9 U9 H9)
  subst H9
  (try dsimp only); (try k_fold)
  k_steps
  exact hret _ _ _ _ (by assumption) (by assumption) ⟨⟨_, rfl⟩, rfl⟩
end
section
theorem Con0.mono {w : World} {d : Nat} {c : Sem Value} {news : Led} {R R' : Value → Led → Prop} (h : Con0 w d c news R) (hr : ∀ v n, R v n → R' v n) : Con0 w d c news R' := by
  unfold Con0 at h ⊢
  intro mean mg mb dp un gd cn cs a ccd A₀ h₀ L m s Q E B F X N T hk hd hu hret
  exact h mean mg mb dp un gd cn cs a ccd A₀ h₀ L m s Q E B F X N T hk hd hu fun r news' h' tk' F' N' hR => hret r news' h' tk' F' N' (hr _ _ hR)
theorem key_good : ∀ {r : Rec} (h : Rok r), (keyS r).length ≤ 4 ∧ GoodSigns true (keyS r) := by
  have skon : SkOn := .mk
  intro r h
  constructor
  · show r.key.toArray.size ≤ 4
    rw [List.size_toArray]
    unfold Rec.key Rec.nm
    cases r.dot <;> cases r.b <;> simp
  · intro c hc
    have hc' : c ∈ r.key := by simpa [keyS, mk] using hc
    unfold Rec.key at hc'
    left
    rcases List.mem_append.mp hc' with hc' | hc'
    · split at hc'
      · cases List.mem_singleton.mp hc'; decide
      · cases hc'
    · have := let_rng (nm_let h c hc'); omega
theorem val_good {r : Rec} (h : Rok r) (hq : r.q ≠ 10) : (valS r).length ≤ 4 ∧ GoodSigns false (valS r) := by
  constructor
  · show (#[r.p, r.q] : Array Nat).size ≤ 4
    exact Nat.le_of_ble_eq_true rfl
  · intro c hc
    have hc' : c = r.p ∨ c = r.q := by simpa [valS] using hc
    rcases hc' with rfl | rfl
    · have := let_rng h.2.2.1; left; omega
    · have h1 : ∀ x ∈ [38, 60, 34, 9, 62, 46, 10], x ≠ 10 → (31 < x ∧ x < 127) ∨ (false = false ∧ x = 9) := by decide
      exact h1 _ h.2.2.2 hq
theorem let_or {c : Nat} (h : c ∈ letN) : c = 65 ∨ c = 97 ∨ c = 66 ∨ c = 98 ∨ c = 95 ∨ c = 126 := by simpa [letN] using h
theorem rel_mem {I : List It} {rs : List Rec} (h : I.map It.pair = rs.map Rec.pair) {i : It} (hi : i ∈ I) : ∃ r ∈ rs, i.k = keyS r ∧ i.v = valS r := by
  have : i.pair ∈ rs.map Rec.pair := by rw [← h]; exact List.mem_map.mpr ⟨i, hi, rfl⟩
  obtain ⟨r, hr, e⟩ := List.mem_map.mp this
  exact ⟨r, hr, (congrArg Prod.fst e).symm, (congrArg Prod.snd e).symm⟩
theorem c_answer : ∀ (w : World) (x d l : Addr) (t : Tok) (n : Nat) (I : List It) (rest : Led) (rs : List Rec) (c : Rec) (deed : Int) (td tn tv : Tok) (hdd : deed = 0 ∨ deed = 1 ∨ deed = 2 ∨ deed = 3) (hI : ∀ i ∈ I, i.obj ∈ rest) (hIn : I.length ≤ 64) (hlr : ∀ p ∈ rest, p.1 ≠ l) (hxl : @Ne Nat x l) (hdl : @Ne Nat d l) (hrel : I.map It.pair = rs.map Rec.pair) (hrs : ∀ r ∈ rs, Rok r ∧ r.q ≠ 10) (hc : Rok c), Con0 w 10 (call (.ref 377) [.ref x, .int deed td, .str (keyS c) tn, .str (valS c) tv]) (TabF w.params x d l t n I rest) (fun r news' => AnsIs (stepR deed c rs).2 r ∧ ∃ I', TabPost w.params x d l t I' rest news' ∧ I'.map It.pair = (stepR deed c rs).1.map Rec.pair) := by
  have skon : SkOn := .mk
  intro w x d l t n I rest rs c deed td tn tv hdd hI hIn hlr hxl hdl hrel hrs hc
  have hK : ∀ i ∈ I, ItOk i := fun i hi => by
    obtain ⟨r, hr, e1, e2⟩ := rel_mem hrel hi
    unfold ItOk
    rw [e1, e2]
    exact ⟨(key_good (hrs r hr).1).1, (key_good (hrs r hr).1).2, (val_good (hrs r hr).1 (hrs r hr).2).1, (val_good (hrs r hr).1 (hrs r hr).2).2⟩
  obtain ⟨hnl, hg⟩ := key_good hc
  have hhit : ∀ i ∈ I, ∀ r ∈ rs, i.pair = r.pair → keyHit (keyS c) i = alike c r := fun i _ r hr e => hit_alike hc (hrs r hr).1 (congrArg Prod.fst e)
  have hf : (I.filter fun i => !keyHit (keyS c) i).map It.pair = (rs.filter fun r => !alike c r).map Rec.pair := rel_filter hrel fun i hi r hr e => by rw [hhit i hi r hr e]
  have hfd : (I.find? (keyHit (keyS c))).map It.pair = (rs.find? (alike c)).map Rec.pair := rel_find hrel hhit
  have hsame : ∀ n', TabPost w.params x d l t I rest (TabF w.params x d l t n' I rest) := fun n' => ⟨n', rest, rfl, fun _ h => h, hI, hlr⟩
  have hfil : ∀ n', TabPost w.params x d l t (I.filter fun i => !keyHit (keyS c) i) rest (TabF w.params x d l t n' (I.filter fun i => !keyHit (keyS c) i) rest) := fun n' => ⟨n', rest, rfl, fun _ h => h, fun i hi => hI i (List.mem_filter.mp hi).1, hlr⟩
  have hbad : c.q = 10 → valS c = ⟨#[c.p, 10]⟩ := fun e => by unfold valS; rw [e]
  have hp := let_or hc.2.2.1
  rcases hdd with rfl | rfl | rfl | rfl
  · by_cases hq : c.q = 10
    · rw [hbad hq]
      refine (c_ans0b w x d l t n I rest (keyS c) tn c.p tv td hI hK hIn hlr hxl hdl hnl hg hp).mono fun v nw ⟨⟨k, e⟩, n', e2⟩ => ?_
      subst e; subst e2
      unfold stepR; rw [if_pos rfl, if_pos hq]
      exact ⟨⟨_, rfl⟩, _, hfil n', hf⟩
    · obtain ⟨hvl, hvg⟩ := val_good hc hq
      refine (c_ans0g w x d l t n I rest (keyS c) tn (valS c) tv td hI hK hIn hlr hxl hdl hnl hg hvl hvg).to0.mono fun v nw ⟨e, D, hD⟩ => ?_
      unfold stepR; rw [if_pos rfl, if_neg hq]
      refine ⟨e, _, hD, ?_⟩
      rw [List.map_append, List.map_append, hf]; rfl
  · refine (c_ans1 w x d l t n I rest (keyS c) tn (valS c) tv td hI hK hIn hlr hxl hdl hnl hg).to0.mono fun v nw ⟨e, n', e2⟩ => ?_
    subst e2
    unfold stepR; rw [if_neg (by decide), if_pos rfl]
    exact ⟨e, _, hfil n', hf⟩
  · have e2 : stepR 2 c rs = (match rs.find? (alike c) with
      | some r => (rs, .str r.p r.q)
      | none => if c.q = 10 then (rs, .zero) else (rs ++ [c], .str c.p c.q)) := by unfold stepR; rw [if_neg (by decide), if_neg (by decide), if_pos rfl]; try rfl
    rw [e2]
    cases hfi : I.find? (keyHit (keyS c)) with
    | some i =>
      rw [hfi] at hfd
      cases hk : rs.find? (alike c) with
      | none => rw [hk] at hfd; cases hfd
      | some k =>
        rw [hk] at hfd
        have e : i.pair = k.pair := by simpa using hfd
        have ev : i.v = valS k := congrArg Prod.snd e
        refine (c_ans2o w x d l t n I rest (keyS c) tn (valS c) tv td hI hK hIn hlr hxl hdl hnl hg i.v i.tv (by unfold gotten; rw [hfi])).to0.mono fun v nw ⟨e3, e4⟩ => ?_
        subst e4
        exact ⟨⟨i.tv, by rw [e3, ev]; rfl⟩, _, hsame n, hrel⟩
    | none =>
      rw [hfi] at hfd
      have hgn : gotten I (keyS c) = .none := by unfold gotten; rw [hfi]
      cases hk : rs.find? (alike c) with
      | some k => rw [hk] at hfd; cases hfd
      | none =>
        simp only
        by_cases hq : c.q = 10
        · rw [hbad hq, if_pos hq]
          refine (c_ans2b w x d l t n I rest (keyS c) tn c.p tv td hI hK hIn hlr hxl hdl hnl hg hp hgn).mono fun v nw ⟨⟨k, e⟩, e4⟩ => ?_
          subst e; subst e4
          exact ⟨⟨_, rfl⟩, _, hsame n, hrel⟩
        · obtain ⟨hvl, hvg⟩ := val_good hc hq
          rw [if_neg hq]
          refine (c_ans2g w x d l t n I rest (keyS c) tn (valS c) tv td hI hK hIn hlr hxl hdl hnl hg hvl hvg hgn).to0.mono fun v nw ⟨e, D, hD⟩ => ?_
          refine ⟨⟨tv, e⟩, _, hD, ?_⟩
          rw [List.map_append, List.map_append, hrel]; rfl
  · have e2 : stepR 3 c rs = if c.q = 10 then (rs, .zero) else (rs ++ [c], .none) := by unfold stepR; rw [if_neg (by decide), if_neg (by decide), if_neg (by decide)]
    rw [e2]
    by_cases hq : c.q = 10
    · rw [hbad hq, if_pos hq]
      refine (c_ans3b w x d l t n I rest (keyS c) tn c.p tv td hI hK hIn hlr hxl hdl hnl hg hp).mono fun v nw ⟨⟨k, e⟩, e4⟩ => ?_
      subst e; subst e4
      exact ⟨⟨_, rfl⟩, _, hsame n, hrel⟩
    · obtain ⟨hvl, hvg⟩ := val_good hc hq
      rw [if_neg hq]
      refine (c_ans3g w x d l t n I rest (keyS c) tn (valS c) tv td hI hK hIn hlr hxl hdl hnl hg hvl hvg).to0.mono fun v nw ⟨e, D, tv', hD⟩ => ?_
      refine ⟨e, _, hD, ?_⟩
      rw [List.map_append, List.map_append, hrel]; rfl
end
section
theorem warm_T9 : PySem.Challenge.rw_ta0132_01.Holds → hd1.heap_1_39 = hd1.heap_1_39 := by
  k_fill
  intro _
  rfl
theorem c_told : ∀ (w : World) (Rr : Addr) (n : Nat) (R : List Ro) (news : Led) (deed : Int) (td : Tok) (dot : Bool) (num : Int) (tn : Tok) (val : Int) (tv : Tok) (hRr : (Rr, listOf (ros R).toArray n) ∈ news) (hR : ∀ r ∈ R, r.obj ∈ news) (hK : ∀ r ∈ R, RoOk r) (hRn : R.length ≤ 64) (hn0 : 0 ≤ num) (hn1 : num < 64 ^ 11) (hv0 : 0 ≤ val) (hv1 : val < 4096), Con w 14 (call (.ref 382) [.ref Rr, .int deed td, .bool dot, .int num tn, .int val tv]) news (ToldPost Rr news deed dot num val R) := by
  k_with_none
  k_with "exec For" => (with_unfolding_all refine wpAny_For ?_ (by intro _; rfl))
  k_with "storeName" => (k_here; (with_reducible show wpAny _ _ (storeName (envOfC _ _ _ _ _) _ _) _ _ _); k_dflt (refine' st_cell ?k1 ?k2 ?k3 ?k4 ?k5 ?k6 ?k7 ?_; (case k1 => k_asm); (case k2 => k_asm); (case k3 => exact rfl); (case k4 => exact rfl); (case k5 => exact rfl); (case k6 => k_updF); (case k7 => k_asm); k_whole); intro _ _ _ _ _; (try dsimp only))
  k_with "setItem ref ref ref" => (k_here; k_dflt (refine' store_all ?k1 ?k2 ?k3 ?k4 ?k5 ?k6 ?k7 ?k8 ?_; (case k1 => k_asm); (case k2 => k_asm); (case k3 => exact rfl); (case k4 => k_updF); (case k5 => k_mem); (case k6 => first | (simp only [beq_eq_false_iff_ne]; (try dsimp only); (refine neN ?_); omega) | (simp only [beq_eq_false_iff_ne]; assumption)); (case k7 => assumption); (case k8 => assumption); k_whole); intro _ _ _ _; (try dsimp only))
  k_with "call builtin:list.append" => (k_here; (with_reducible show wpAny _ _ (call (Value.builtin _) [Value.ref _, _]) _ _ _); k_dflt (refine' append_K ?k1 ?k2 ?k3 ?_ ?z; (case k1 => k_asm); (case k2 => k_asm); (case k3 => k_upd); (case z => first | size_fits | exact Nat.le_trans (by with_reducible assumption) (by decide)); k_whole); intro _ _ _; (try k_sweep))
  k_with "exec Assign cons ListComp" => (k_here; k_dflt (refine' compA ?c0 ?c1 ?c2 ?c3 ?_; (case c0 => exact rfl); (case c1 => with_unfolding_all rfl); (case c2 => exact rfl); (case c3 => decide)))
  k_with "subscriptTail" => (k_here; (with_reducible show wpAny _ _ (subscriptTail _ _ (Value.ref _) (Value.int _ _)) _ _ _); k_dflt (refine' itemK ?t ?a0 ?b ?c ?_; (case t => exact News.isList (by k_asm) (by k_mem)); (case a0 => decide); (case b => decide); (case c => exact rfl); k_whole); (try dsimp only))
  k_with "binaryOp Add ref ref" => (k_here; k_dflt (refine' add_all ?F ?N ?a0 ?b ?z ?_; (case F => k_asm); (case N => k_asm); (case a0 => k_mem); (case b => k_mem); (case z => (simp only [ros, List.length_map, List.length_cons, List.length_nil]; refine Nat.le_trans (m := 65) (by omega) (by decide))); k_whole); intro _ _ _ _ l9; (try k_lt l9); (try k_sweep))
  have hold0 : HoldK "pyIter ref" := .mk
  have hold1 : HoldK "+Comp" := .mk
  have hold2 : HoldA 363 := .mk
  have hold3 : HoldK "compareOp NotIn ref ref" := .mk
  have hold4 : HoldK "compareOp NotEq ref ref" := .mk
  have skon : SkOn := .mk
  intro w Rr n R news deed td dot num tn val tv hRr hR hK hRn hn0 hn1 hv0 hv1
  unfold Con
  intro mean mg mb dp un gd cn cs a ccd cl outer A₀ base h₀ L m s Q E B F X N T hk hd hu hret
  refine wpAny_call ?_
  k_dflt (refine' code_defC (binds := [(Str.ofString "rows", .ref Rr), (Str.ofString "deed", .int deed td), (Str.ofString "dot", .bool dot), (Str.ofString "number", .int num tn), (Str.ofString "value", .int val tv)]) ?k1 ?k2 ?k3 ?k4 ?k5 ?kA ?kF ?kK ?k6 ?k7 ?k8 ?k9 ?kB ?kD ?_ ?c2 ?c3 ?c4; (case kA => exact rfl); (case kF => exact rfl); (case kK => first | assumption | exact rfl); (case k1 => k_asm); (case k2 => k_asm); (case k3 => k_asm); (case k4 => k_asm); (case k5 => k_asm); (case k6 => k_is); (case k7 => k_is); (case k8 => k_room); (case k9 => first | exact BindsTo.of_eq rfl | exact binds_K (by k_in) rfl (by k_is) rfl rfl rfl); (case kB => exact rfl); (case kD => decide +kernel); (case c2 => exact rfl); (case c3 => exact rfl); (case c4 => exact rfl); k_whole; intro g1 L1 h1 tk1 cells1 FG1 F1 N1 Y1 B1 X1 T1 l1; (try k_lt l1); k_cells Y1; (try simp only [List.cons_append, List.nil_append] at N1); (try dsimp only); (try k_lift B1); (try k_fold))
  rename_i oc1 oc2 oc3 hc1 hc2 hc3
  k_steps
  refine compGoE (items := ros R) (fun i ys news' => news' = (L1 + 1 + 1 + 1, oc1) :: (L1 + 1 + 1, oc2) :: (L1 + 1, oc3) :: news ∧ ys = ros ((R.take i).filter (alikeP dot num))) (by rfl) ?hsz (by decide) (by rfl) (by rfl) F1 N1 ?hl ?h0 ?turn ?fin
  case hsz => simp only [ros, List.length_map]; exact Nat.le_trans hRn (by decide)
  case hl =>
    intro i ys news' h' hq9; obtain ⟨rfl, _⟩ := hq9; intro _ N'
    exact ⟨_, (N' _ (.tail _ (.tail _ (.tail _ hRr)))).1, rfl, _, rfl⟩
  case h0 => exact ⟨rfl, rfl⟩
  case turn =>
    intro i v ys news₁ h₁ tk₁ Ia oI C oC D m₂ E' hv hq9; obtain ⟨rfl, hys⟩ := hq9; intro hC hm2 F3 N3 hoff hne
    obtain ⟨r, hit, rfl⟩ : ∃ r, R[i]? = some r ∧ v = .ref r.a := by
      simp only [ros, List.getElem?_map, Option.map_eq_some_iff] at hv
      obtain ⟨it, h1, h2⟩ := hv
      exact ⟨it, h1, h2.symm⟩
    have hmem := hR r (List.mem_of_getElem? hit)
    unfold Ro.obj at hmem
    obtain ⟨hk0, hk1, hk2, hk3⟩ := hK r (List.mem_of_getElem? hit)
    clear F1 N1
    dsimp only [CTree]
    k_steps
    · refine Hold.to ?_; k_dflt (refine' c_small _ _ _ _ ?p1 ?p2 _ _ _ _ _ _ _ _ _ _ _ _ _ _ _ _ _ _ _ _ ?k1 ?k2 ?k3 ?k4 ?k5 ?kK ?kd ?ku ?_; (case k1 => k_asm); (case k2 => k_asm); (case k3 => k_asm); (case k4 => k_asm); (case k5 => k_asm); (case kK => first | exact rfl | assumption); (case kd => k_room); (case ku => k_units); (case p1 => assumption); (case p2 => assumption); intro r9 n9 h9 tk9 F9 N9 H9)
      obtain ⟨rfl, tk8, rfl⟩ := H9
      (try dsimp only); (try k_fold)
      k_steps
      refine Hold.to ?_; k_dflt (refine' c_small _ _ _ _ ?p1 ?p2 _ _ _ _ _ _ _ _ _ _ _ _ _ _ _ _ _ _ _ _ ?k1 ?k2 ?k3 ?k4 ?k5 ?kK ?kd ?ku ?_; (case k1 => k_asm); (case k2 => k_asm); (case k3 => k_asm); (case k4 => k_asm); (case k5 => k_asm); (case kK => first | exact rfl | assumption); (case kd => k_room); (case ku => k_units); (case p1 => assumption); (case p2 => assumption); intro r9 n9 h9 tk9 F9 N9 H9)
      obtain ⟨rfl, tk7, rfl⟩ := H9
      (try dsimp only); (try k_fold)
      k_steps
      · rename smallI _ = smallI _ => hs
        rename _ = true => hh
        have hal : alikeP dot num r = true := by simp [alikeP, hh, smallOf, hs]
        refine (exI3 ⟨rfl, by assumption, by assumption, hoff, rfl, ?_⟩)
        rw [take_snoc hit, List.filter_append, hys]
        simp [ros, hal]
      · rename smallI _ ≠ smallI _ => hs
        have hal : alikeP dot num r = false := by simp [alikeP, smallOf, hs]
        refine (exI3 ⟨rfl, by assumption, by assumption, hoff, rfl, ?_⟩)
        rw [take_snoc hit, List.filter_append, hys]
        simp [ros, hal]
    · rename _ = false => hh
      refine (exI3 ⟨rfl, F3, N3, hoff, rfl, ?_⟩)
      rw [take_snoc hit, List.filter_append, hys]
      simp [ros, alikeP, hh]
  case fin =>
    intro D h' tk' news' ys F' N' hD hq9; obtain ⟨rfl, rfl⟩ := hq9
    rw [show (ros R).length = R.length by simp [ros], List.take_length] at N'
    have l1a := allLt_of l1
    have hD1 : @Ne Nat (L1 + 1 + 1 + 1) D := hD _ (.head _)
    have hD2 : @Ne Nat (L1 + 1 + 1) D := hD _ (.tail _ (.head _))
    have hD3 : @Ne Nat (L1 + 1) D := hD _ (.tail _ (.tail _ (.head _)))
    have hD4 : ∀ p ∈ news, p.1 ≠ D := fun p hp => hD p (.tail _ (.tail _ (.tail _ hp)))
    have hR' : ∀ r ∈ R.filter (alikeP dot num), r.obj ∈ news := fun r hr => hR r (List.mem_filter.mp hr).1
    k_steps
    · rename (_ : Int) < 2 => hd2
      rename News g1 L1 _ _ => N2
      rename Fr g1 L1 _ _ => F2
      rename Obj => oc9
      rename oc9.data = _ => hc9
      refine compGoA (items := ros R) (fun i ys news' => news' = (D, LCg.lst (ros (R.filter (alikeP dot num)))) :: (L1 + 1 + 1 + 1, oc9) :: (L1 + 1 + 1, oc2) :: (L1 + 1, oc3) :: news ∧ ys = ros ((R.take i).filter fun r => !alikeP dot num r)) (by rfl) ?hsz2 (by rfl) (by decide) (by rfl) (by rfl) (by rfl) (by rfl) F2 N2 ?hl2 ?h02 ?turn2 ?fin2
      case hsz2 => simp only [ros, List.length_map]; exact Nat.le_trans hRn (by decide)
      case hl2 =>
        intro i ys news' h' hq9; obtain ⟨rfl, _⟩ := hq9; intro _ N'
        exact ⟨_, (N' _ (.tail _ (.tail _ (.tail _ (.tail _ hRr))))).1, rfl, _, rfl⟩
      case h02 => exact ⟨rfl, rfl⟩
      case turn2 =>
        intro i v ys news₁ h₁ tk₁ Ia oI C oC D' m₂ E' hv hq9; obtain ⟨rfl, hys⟩ := hq9; intro hC hm2 F3 N3 hoff hne
        obtain ⟨r, hit, rfl⟩ : ∃ r, R[i]? = some r ∧ v = .ref r.a := by
          simp only [ros, List.getElem?_map, Option.map_eq_some_iff] at hv
          obtain ⟨it, h1, h2⟩ := hv
          exact ⟨it, h1, h2.symm⟩
        have hmem := hR r (List.mem_of_getElem? hit)
        clear F2 N2 N' F1 N1
        dsimp only [CTree]
        k_steps
        refine Hold.to ?_
        refine notin_rows N3 (.tail _ (.tail _ (.tail _ (.head _)))) (fun q hq => .tail _ (.tail _ (.tail _ (.tail _ (.tail _ (.tail _ (.tail _ (hR' q hq)))))))) (.tail _ (.tail _ (.tail _ (.tail _ (.tail _ (.tail _ (.tail _ (hR r (List.mem_of_getElem? hit))))))))) (by ktr_units) ?_
        rw [any_alike (List.mem_of_getElem? hit)]
        (try dsimp only); (try k_fold)
        k_steps
        · rename alikeP _ _ _ = _ => hal
          refine (exI3 ⟨rfl, by assumption, by assumption, hoff, rfl, ?_⟩)
          rw [take_snoc hit, List.filter_append, hys]
          simp [ros, hal]
        · rename alikeP _ _ _ = _ => hal
          refine (exI3 ⟨rfl, by assumption, by assumption, hoff, rfl, ?_⟩)
          rw [take_snoc hit, List.filter_append, hys]
          simp [ros, hal]
      case fin2 =>
        intro D' h' tk' news' ys F' N' hD hq9; obtain ⟨rfl, rfl⟩ := hq9
        rw [show (ros R).length = R.length by simp [ros], List.take_length] at N'
        clear N2 F2 N1 F1
        have hfl := List.length_filter_le (fun r => !alikeP dot num r) R
        have hD5 : ∀ p ∈ news, p.1 ≠ D' := fun p hp => hD p (.tail _ (.tail _ (.tail _ (.tail _ hp))))
        k_steps
        · refine hret _ _ _ _ (by assumption) (by assumption) (exI3 ⟨R.filter fun r => !alikeP dot num r, _, rfl, ?_, .head _, by k_mem, (by first | exact .inl rfl | exact .inr (fun q hq => (hD5 q hq).symm) | exact .inr (fun q hq => (hD4 q hq).symm) | exact .inr (allLt_off (p := (_, listOf #[] 0)) l1a (by (try dsimp only); omega))), fun r hr => .inl (List.mem_filter.mp hr).1, .inl ⟨by assumption, (told_lt hd2).symm, rfl⟩⟩)
          (repeat' first | exact Ext.refl | (refine Ext.cons ?_ (allLt_off l1a (by (try dsimp only); omega))) | (refine Ext.cons ?_ (fun q hq => (hD4 q hq).symm)) | (refine Ext.cons ?_ (fun q hq => (hD5 q hq).symm)))
        · exfalso; omega
        · refine hret _ _ _ _ (by assumption) (by assumption) (exI3 ⟨R.filter fun r => !alikeP dot num r, _, rfl, ?_, .head _, by k_mem, (by first | exact .inl rfl | exact .inr (fun q hq => (hD5 q hq).symm) | exact .inr (fun q hq => (hD4 q hq).symm) | exact .inr (allLt_off (p := (_, listOf #[] 0)) l1a (by (try dsimp only); omega))), fun r hr => .inl (List.mem_filter.mp hr).1, .inr (.inr (.inl ⟨by assumption, fun _ => by exfalso; omega, by assumption, (told_lt hd2).symm, _, rfl⟩))⟩)
          (repeat' first | exact Ext.refl | (refine Ext.cons ?_ (allLt_off l1a (by (try dsimp only); omega))) | (refine Ext.cons ?_ (fun q hq => (hD4 q hq).symm)) | (refine Ext.cons ?_ (fun q hq => (hD5 q hq).symm)))
        · exfalso; omega
        · refine hret _ _ _ _ (by assumption) (by assumption) (exI3 ⟨(R.filter fun r => !alikeP dot num r) ++ [⟨_, dot, num, tn, val, tv⟩], _, rfl, ?_, .head _, by rw [ros_snoc]; k_mem, (by first | exact .inl rfl | exact .inr (fun q hq => (hD5 q hq).symm) | exact .inr (fun q hq => (hD4 q hq).symm) | exact .inr (allLt_off (p := (_, listOf #[] 0)) l1a (by (try dsimp only); omega))), robj_snoc (fun r hr => (List.mem_filter.mp hr).1) (by k_mem), .inr (.inr (.inr ⟨by assumption, fun _ => by exfalso; omega, by assumption, ⟨_, _, _, by rw [told_lt hd2]⟩, fun _ => by exfalso; omega, fun _ => rfl⟩))⟩)
          (repeat' first | exact Ext.refl | (refine Ext.cons ?_ (allLt_off l1a (by (try dsimp only); omega))) | (refine Ext.cons ?_ (fun q hq => (hD4 q hq).symm)) | (refine Ext.cons ?_ (fun q hq => (hD5 q hq).symm)))
    · refine hret _ _ _ _ (by assumption) (by assumption) (exI3 ⟨R, _, rfl, ?_, .head _, by k_mem, (by first | exact .inl rfl | exact .inr (fun q hq => (hD5 q hq).symm) | exact .inr (fun q hq => (hD4 q hq).symm) | exact .inr (allLt_off (p := (_, listOf #[] 0)) l1a (by (try dsimp only); omega))), fun r hr => .inl hr, .inl ⟨by assumption, (told_ge (by assumption)).symm, rfl⟩⟩)
      (repeat' first | exact Ext.refl | (refine Ext.cons ?_ (allLt_off l1a (by (try dsimp only); omega))) | (refine Ext.cons ?_ (fun q hq => (hD4 q hq).symm)) | (refine Ext.cons ?_ (fun q hq => (hD5 q hq).symm)))
    · refine Hold.to ?_
      rename News g1 L1 _ _ => N2
      rename Fr g1 L1 _ _ => F2
      refine ne_rows N2 (.tail _ (.head _)) (fun q hq => .tail _ (.tail _ (.tail _ (.tail _ (.tail _ (hR' q hq)))))) (.head _) (by ktr_units) ?_
      rcases list_or (R.filter (alikeP dot num)) with hAl | hAl
      · (try rw [hAl])
        rw [hAl] at N2
        (try dsimp only [List.isEmpty, Bool.not_true, Bool.not_false]); (try k_fold)
        k_steps
        · refine hret _ _ _ _ (by assumption) (by assumption) (exI3 ⟨R, _, rfl, ?_, .head _, by k_mem, (by first | exact .inl rfl | exact .inr (fun q hq => (hD5 q hq).symm) | exact .inr (fun q hq => (hD4 q hq).symm) | exact .inr (allLt_off (p := (_, listOf #[] 0)) l1a (by (try dsimp only); omega))), fun r hr => .inl hr, .inr (.inr (.inl ⟨by omega, fun _ => find_nil hAl, by assumption, (told_ge (by assumption)).symm, _, rfl⟩))⟩)
          (repeat' first | exact Ext.refl | (refine Ext.cons ?_ (allLt_off l1a (by (try dsimp only); omega))) | (refine Ext.cons ?_ (fun q hq => (hD4 q hq).symm)) | (refine Ext.cons ?_ (fun q hq => (hD5 q hq).symm)))
        · refine hret _ _ _ _ (by assumption) (by assumption) (exI3 ⟨R ++ [⟨_, dot, num, tn, val, tv⟩], _, rfl, ?_, .head _, by rw [ros_snoc]; k_mem, (by first | exact .inl rfl | exact .inr (fun q hq => (hD5 q hq).symm) | exact .inr (fun q hq => (hD4 q hq).symm) | exact .inr (allLt_off (p := (_, listOf #[] 0)) l1a (by (try dsimp only); omega))), robj_snoc (fun r hr => hr) (by k_mem), .inr (.inr (.inr ⟨by omega, fun _ => find_nil hAl, by assumption, ⟨_, _, _, by rw [told_ge (by assumption)]⟩, fun _ => ⟨_, rfl⟩, fun _ => by exfalso; omega⟩))⟩)
          (repeat' first | exact Ext.refl | (refine Ext.cons ?_ (allLt_off l1a (by (try dsimp only); omega))) | (refine Ext.cons ?_ (fun q hq => (hD4 q hq).symm)) | (refine Ext.cons ?_ (fun q hq => (hD5 q hq).symm)))
        · exfalso; omega
      · obtain ⟨r, Al, hAl⟩ := hAl
        (try rw [hAl])
        rw [hAl] at N2
        have hmem := hR' r (by rw [hAl]; exact .head _)
        unfold Ro.obj at hmem
        obtain ⟨hk0, hk1, hk2, hk3⟩ := hK r (List.mem_filter.mp (show r ∈ R.filter (alikeP dot num) by rw [hAl]; exact .head _)).1
        (try dsimp only [List.isEmpty, Bool.not_true, Bool.not_false, ros, List.map]); (try k_fold)
        k_steps
        refine hret _ _ _ _ (by assumption) (by assumption) (exI3 ⟨R, _, rfl, ?_, .head _, by k_mem, (by first | exact .inl rfl | exact .inr (fun q hq => (hD5 q hq).symm) | exact .inr (fun q hq => (hD4 q hq).symm) | exact .inr (allLt_off (p := (_, listOf #[] 0)) l1a (by (try dsimp only); omega))), fun r hr => .inl hr, .inr (.inl ⟨by assumption, r, find_cons hAl, rfl, _, rfl⟩)⟩)
        (repeat' first | exact Ext.refl | (refine Ext.cons ?_ (allLt_off l1a (by (try dsimp only); omega))) | (refine Ext.cons ?_ (fun q hq => (hD4 q hq).symm)) | (refine Ext.cons ?_ (fun q hq => (hD5 q hq).symm)))
    · refine hret _ _ _ _ (by assumption) (by assumption) (exI3 ⟨R, _, rfl, ?_, .head _, by k_mem, (by first | exact .inl rfl | exact .inr (fun q hq => (hD5 q hq).symm) | exact .inr (fun q hq => (hD4 q hq).symm) | exact .inr (allLt_off (p := (_, listOf #[] 0)) l1a (by (try dsimp only); omega))), fun r hr => .inl hr, .inr (.inr (.inl ⟨by omega, fun _ => by exfalso; omega, by assumption, (told_ge (by assumption)).symm, _, rfl⟩))⟩)
      (repeat' first | exact Ext.refl | (refine Ext.cons ?_ (allLt_off l1a (by (try dsimp only); omega))) | (refine Ext.cons ?_ (fun q hq => (hD4 q hq).symm)) | (refine Ext.cons ?_ (fun q hq => (hD5 q hq).symm)))
    · exfalso; omega
    · refine hret _ _ _ _ (by assumption) (by assumption) (exI3 ⟨R ++ [⟨_, dot, num, tn, val, tv⟩], _, rfl, ?_, .head _, by rw [ros_snoc]; k_mem, (by first | exact .inl rfl | exact .inr (fun q hq => (hD5 q hq).symm) | exact .inr (fun q hq => (hD4 q hq).symm) | exact .inr (allLt_off (p := (_, listOf #[] 0)) l1a (by (try dsimp only); omega))), robj_snoc (fun r hr => hr) (by k_mem), .inr (.inr (.inr ⟨by omega, fun _ => by exfalso; omega, by assumption, ⟨_, _, _, by rw [told_ge (by assumption)]⟩, fun _ => by exfalso; omega, fun _ => rfl⟩))⟩)
      (repeat' first | exact Ext.refl | (refine Ext.cons ?_ (allLt_off l1a (by (try dsimp only); omega))) | (refine Ext.cons ?_ (fun q hq => (hD4 q hq).symm)) | (refine Ext.cons ?_ (fun q hq => (hD5 q hq).symm)))
end
section
noncomputable def letAt (k : Int) : Nat := letN.getD k.toNat 0
noncomputable def markAt (k : Int) : Nat := [38, 60, 34, 9, 62, 46, 10].getD k.toNat 0
noncomputable def drawnRec (x : Int) : Rec := { dot := (x.fdiv 7).fmod 3 == 0, a := letAt (x.fmod 6), b := if (x.fdiv 5).fmod 2 = 1 then some (letAt ((x.fdiv 6).fmod 6)) else none, p := letAt ((x.fdiv 4).fmod 6), q := markAt ((x.fdiv 11).fmod 7) }
theorem fmod_rng (x : Int) (k : Nat) (hk : 0 < k) : ∃ n : Nat, n < k ∧ x.fmod (k : Int) = n := by
  have h0 : 0 ≤ x.fmod (k : Int) := Int.fmod_nonneg_of_pos x (by omega)
  have h1 : x.fmod (k : Int) < k := Int.fmod_lt_of_pos x (by omega)
  exact ⟨(x.fmod (k : Int)).toNat, by omega, by omega⟩
theorem let_item (x : Int) : Txt.item (Str.ofString "AaBb_~") (x.fmod 6) = ⟨#[letAt (x.fmod 6)]⟩ ∧ letAt (x.fmod 6) ∈ letN := by
  obtain ⟨n, hn, e⟩ := fmod_rng x 6 (by decide)
  have h : ∀ n < 6, Txt.item (Str.ofString "AaBb_~") ((n : Nat) : Int) = ⟨#[letAt ((n : Nat) : Int)]⟩ ∧ letAt ((n : Nat) : Int) ∈ letN := by decide +kernel
  have e' : x.fmod 6 = n := e
  rw [e']; exact h n hn
theorem mark_item (x : Int) : Txt.item (Str.ofString "&<\"\t>.\n") (x.fmod 7) = ⟨#[markAt (x.fmod 7)]⟩ ∧ markAt (x.fmod 7) ∈ [38, 60, 34, 9, 62, 46, 10] := by
  obtain ⟨n, hn, e⟩ := fmod_rng x 7 (by decide)
  have h : ∀ n < 7, Txt.item (Str.ofString "&<\"\t>.\n") ((n : Nat) : Int) = ⟨#[markAt ((n : Nat) : Int)]⟩ ∧ markAt ((n : Nat) : Int) ∈ [38, 60, 34, 9, 62, 46, 10] := by decide +kernel
  have e' : x.fmod 7 = n := e
  rw [e']; exact h n hn
theorem drawn_ok (x : Int) : Rok (drawnRec x) := by
  refine ⟨(let_item x).2, fun b hb => ?_, (let_item _).2, (mark_item _).2⟩
  unfold drawnRec at hb
  simp only at hb
  split at hb
  · cases hb; exact (let_item _).2
  · cases hb
theorem drawn_name (x : Int) : drawnName x = mk (drawnRec x).nm := by
  unfold drawnName drawnRec Rec.nm
  simp only
  split
  · rw [(let_item _).1, (let_item _).1]; rfl
  · rw [(let_item _).1]; rfl
theorem drawn_val (x : Int) : drawnVal x = valS (drawnRec x) := by
  unfold drawnVal drawnRec valS
  rw [(let_item _).1, (mark_item _).1]; rfl
theorem dot_mk (l : List Nat) : Str.ofString "." ++ mk l = mk (46 :: l) := by
  have e : Str.ofString "." = ⟨#[46]⟩ := by decide +kernel
  rw [e]
  show (⟨#[46] ++ l.toArray⟩ : Str) = ⟨(46 :: l).toArray⟩
  congr 1
  simp
theorem drawn_key_t {x : Int} (h : ((x.fdiv 7).fmod 3 == 0) = true) : Str.ofString "." ++ drawnName x = keyS (drawnRec x) := by
  rw [drawn_name, dot_mk]
  unfold keyS Rec.key
  rw [show (drawnRec x).dot = true from h]; rfl
theorem drawn_key_f {x : Int} (h : ((x.fdiv 7).fmod 3 == 0) = false) : drawnName x = keyS (drawnRec x) := by
  rw [drawn_name]
  unfold keyS Rec.key
  rw [show (drawnRec x).dot = false from h]; rfl
theorem let_fm {c : Nat} (h : c ∈ letN) : (c : Int).fmod 64 = (c : Int) - 64 := by
  have := let_rng h
  rw [Int.fmod_eq_emod_of_nonneg _ (by decide)]; omega
theorem num_name : ∀ {r : Rec} (h : Rok r), numI (KStt.codes (mk r.nm)) = r.num := by
  have skon : SkOn := .mk
  intro r h
  have e : KStt.codes (mk r.nm) = r.nm.map fun c : Nat => (c : Int) := by unfold KStt.codes mk; simp
  rw [e]
  have ha := let_fm h.1
  have hb := h.2.1
  unfold numI Rec.nm Rec.num
  cases hr : r.b with
  | none => simp only [Option.toList, List.map_cons, List.map_nil, List.foldl_cons, List.foldl_nil, ha]; omega
  | some b => simp only [Option.toList, List.map_cons, List.map_nil, List.foldl_cons, List.foldl_nil, ha, let_fm (hb b hr)]; omega
theorem num_val {r : Rec} (h : Rok r) : numI (KStt.codes (valS r)) = r.val := by
  have e : KStt.codes (valS r) = [(r.p : Int), (r.q : Int)] := rfl
  have hq := mark_rng h.2.2.2
  have e2 : (r.q : Int).fmod 64 = r.q := by rw [Int.fmod_eq_emod_of_nonneg _ (by decide)]; omega
  rw [e]
  unfold numI Rec.val
  simp only [List.foldl_cons, List.foldl_nil, let_fm h.2.2.1, e2]; omega
theorem c_numN (w : World) (x : Int) (tk : Tok) (news : Led) : Con w 2 (call (.ref 349) [.str (drawnName x) tk]) news (fun r news' => news' = news ∧ ∃ k, r = .int (drawnRec x).num k) := by
  have h := c_number w (drawnName x) tk news
  rw [show numI (KStt.codes (drawnName x)) = (drawnRec x).num by rw [drawn_name, num_name (drawn_ok x)]] at h
  exact h
theorem c_numV (w : World) (x : Int) (tk : Tok) (news : Led) : Con w 2 (call (.ref 349) [.str (drawnVal x) tk]) news (fun r news' => news' = news ∧ ∃ k, r = .int (drawnRec x).val k) := by
  have h := c_number w (drawnVal x) tk news
  rw [show numI (KStt.codes (drawnVal x)) = (drawnRec x).val by rw [drawn_val, num_val (drawn_ok x)]] at h
  exact h
theorem deed_rng (x : Int) : (x.fdiv 2).fmod 4 = 0 ∨ (x.fdiv 2).fmod 4 = 1 ∨ (x.fdiv 2).fmod 4 = 2 ∨ (x.fdiv 2).fmod 4 = 3 := by
  obtain ⟨n, hn, e⟩ := fmod_rng (x.fdiv 2) 4 (by decide)
  match n, hn, e with
  | 0, _, e => exact .inl e
  | 1, _, e => exact .inr (.inl e)
  | 2, _, e => exact .inr (.inr (.inl e))
  | 3, _, e => exact .inr (.inr (.inr e))
theorem ne_ans {prog : Program} {w : World} {A : Around} {E : Value → Shared → Prop} {s : Shared} {a : Ans} {u v : Value} {Q : Value → Shared → Prop} (hu : AnsIs a u) (hv : AnsIs a v) (h : Q (.bool false) s) : wpAny (model prog w) A (compareOp .NotEq u v) Q E s := by
  cases a with
  | none =>
    have e1 : u = .none := hu
    have e2 : v = .none := hv
    subst e1; subst e2
    exact EqNone.ne_none_none h
  | zero =>
    obtain ⟨t1, rfl⟩ := hu
    obtain ⟨t2, rfl⟩ := hv
    exact ne_int h
  | str p q =>
    obtain ⟨t1, rfl⟩ := hu
    obtain ⟨t2, rfl⟩ := hv
    refine ne_str ?_
    rw [bne_self_eq_false]
    exact h
theorem rok_ro {R : List Ro} {rs : List Rec} (h : R.map Ro.row = rs.map Rec.row) (hrs : ∀ r ∈ rs, Rok r) : ∀ o ∈ R, RoOk o := fun o ho => by
  have : o.row ∈ rs.map Rec.row := by rw [← h]; exact List.mem_map.mpr ⟨o, ho, rfl⟩
  obtain ⟨r, hr, e⟩ := List.mem_map.mp this
  have e1 : r.num = o.num := congrArg (fun z : Row => z.2.1) e
  have e2 : r.val = o.val := congrArg (fun z : Row => z.2.2) e
  obtain ⟨h1, h2, h3, h4⟩ := (hrs r hr).ok
  have hn : 0 ≤ r.num ∧ r.num < 4096 := by
    unfold Let at h1 h2
    unfold Rec.num
    cases hb : r.b with
    | none => simp only; omega
    | some b => have := h2 b hb; simp only; omega
  have hv : 0 ≤ r.val ∧ r.val < 4096 := by
    unfold Let at h3
    unfold Rec.val
    omega
  unfold RoOk
  rw [← e1, ← e2]
  exact ⟨hn.1, Int.lt_trans hn.2 (by decide), hv.1, hv.2⟩
theorem step_ok : ∀ {deed : Int} {c : Rec} {rs : List Rec} (hd : deed = 0 ∨ deed = 1 ∨ deed = 2 ∨ deed = 3) (hc : Rok c) (hrs : ∀ r ∈ rs, Rok r ∧ r.q ≠ 10), (∀ r ∈ (stepR deed c rs).1, Rok r ∧ r.q ≠ 10) ∧ (stepR deed c rs).1.length ≤ rs.length + 1 := by
  have skon : SkOn := .mk
  intro deed c rs hd hc hrs
  have hf : ∀ r ∈ rs.filter (fun r => !alike c r), Rok r ∧ r.q ≠ 10 := fun r hr => hrs r (List.mem_filter.mp hr).1
  have hfl := List.length_filter_le (fun r => !alike c r) rs
  have snoc : ∀ l : List Rec, (∀ r ∈ l, Rok r ∧ r.q ≠ 10) → c.q ≠ 10 → ∀ r ∈ l ++ [c], Rok r ∧ r.q ≠ 10 := fun l hl hq r hr => by
    rcases List.mem_append.mp hr with hr | hr
    · exact hl r hr
    · cases List.mem_singleton.mp hr; exact ⟨hc, hq⟩
  unfold stepR
  split
  · split
    · exact ⟨hf, by simp only; omega⟩
    · exact ⟨snoc _ hf (by assumption), by simp only [List.length_append, List.length_cons, List.length_nil]; omega⟩
  split
  · exact ⟨hf, by simp only; omega⟩
  split
  · split
    · exact ⟨hrs, by simp only; omega⟩
    · split
      · exact ⟨hrs, by simp only; omega⟩
      · exact ⟨snoc _ hrs (by assumption), by simp only [List.length_append, List.length_cons, List.length_nil]; omega⟩
  split
  · exact ⟨hrs, by simp only; omega⟩
  · exact ⟨snoc _ hrs (by assumption), by simp only [List.length_append, List.length_cons, List.length_nil]; omega⟩
end
section
theorem rel_len {I : List It} {rs : List Rec} (h : I.map It.pair = rs.map Rec.pair) : I.length = rs.length := by
  have := congrArg List.length h
  simpa using this
theorem tab_mem : ∀ {P : Params} {xt d l : Addr} {t : Tok} {n : Nat} {I : List It} {rest extra : Led} {q : Addr × Obj} (h : q ∈ extra ++ TabF P xt d l t n I rest) (h1 : q.1 ≠ l ∨ q.2 ≠ listOf (List.toArray (its I)) n) (h2 : q.2.cls = .type "list" ∨ q.2.cls = .type "tuple" ∨ q.2.cls = .type "list_iterator" ∨ q.2.cls = .none), q ∈ extra ++ rest := by
  have skon : SkOn := .mk
  intro P xt d l t n I rest extra q h h1 h2
  rcases List.mem_append.mp h with h | h
  · exact List.mem_append_left _ h
  refine List.mem_append_right _ ?_
  rcases List.mem_cons.mp h with rfl | h
  · rcases h1 with h1 | h1
    · exact absurd rfl h1
    · exact absurd rfl h1
  rcases List.mem_cons.mp h with rfl | h
  · exfalso
    rcases h2 with h2 | h2 | h2 | h2 <;> simp [instObj] at h2
  rcases List.mem_cons.mp h with rfl | h
  · exfalso
    rcases h2 with h2 | h2 | h2 | h2 <;> simp [dictOf] at h2
  exact h
theorem law_end : ∀ {H h : Heap} {L xt d l I : Addr} {P : Params} {t : Tok} {n' : Nat} {I' : List It} {rest' extra : Led} {oi : Obj} (N : News H L h (extra ++ TabF P xt d l t n' I' rest')) (hoi : oi.cls = .type "list_iterator") (hI : (I, oi) ∈ rest') (ho : ∀ p ∈ extra, ∀ q ∈ TabF P xt d l t n' I' rest', @Ne Nat p.1 q.1) (hl : ∀ p ∈ rest', p.1 ≠ l) (q1 : @Ne Nat I l) (q2 : @Ne Nat I xt) (q3 : @Ne Nat I d), ∃ rest'', News H L h ((I, oi) :: TabF P xt d l t n' I' rest'') ∧ (∀ p ∈ TabF P xt d l t n' I' rest'', p.1 ≠ I) ∧ (∀ p ∈ rest'', p.1 ≠ l) ∧ (∀ q ∈ extra ++ rest', q.2.cls ≠ .type "list_iterator" → q ∈ rest'') := by
  have skon : SkOn := .mk
  intro H h L xt d l I P t n' I' rest' extra oi N hoi hI ho hl q1 q2 q3
  have hIn : (I, oi) ∈ extra ++ TabF P xt d l t n' I' rest' := List.mem_append_right _ (.tail _ (.tail _ (.tail _ hI)))
  have hsub : ∀ p ∈ extra ++ rest', p ∈ extra ++ TabF P xt d l t n' I' rest' := fun p hp => by
    rcases List.mem_append.mp hp with hp | hp
    · exact List.mem_append_left _ hp
    · exact List.mem_append_right _ (.tail _ (.tail _ (.tail _ hp)))
  refine ⟨(extra ++ rest').filter (fun p => decide (p.1 ≠ I)), cb_drop N fun p hp => ?_, fun p hp => ?_, fun p hp => ?_, fun q hq hc => ?_⟩
  · rcases List.mem_cons.mp hp with rfl | hp
    · exact hIn
    rcases List.mem_cons.mp hp with rfl | hp
    · exact List.mem_append_right _ (.head _)
    rcases List.mem_cons.mp hp with rfl | hp
    · exact List.mem_append_right _ (.tail _ (.head _))
    rcases List.mem_cons.mp hp with rfl | hp
    · exact List.mem_append_right _ (.tail _ (.tail _ (.head _)))
    · exact hsub p (List.mem_filter.mp hp).1
  · rcases List.mem_cons.mp hp with rfl | hp
    · exact fun e => q1 e.symm
    rcases List.mem_cons.mp hp with rfl | hp
    · exact fun e => q2 e.symm
    rcases List.mem_cons.mp hp with rfl | hp
    · exact fun e => q3 e.symm
    · exact of_decide_eq_true (List.mem_filter.mp hp).2
  · rcases List.mem_append.mp (List.mem_filter.mp hp).1 with hp | hp
    · exact ho p hp _ (.head _)
    · exact hl p hp
  · refine List.mem_filter.mpr ⟨hq, decide_eq_true fun e => hc ?_⟩
    have h1 := N.get hIn
    have h2 := N.get (a := q.1) (o := q.2) (hsub q hq)
    rw [e, h1] at h2
    rw [← Option.some.inj h2]; exact hoi
noncomputable def lawE (sc xt Rr : Addr) (ux ud udo un uv ua uu : Option Value) : Str → Option Value := fun y => if y = Str.ofString "due" then uu else if y = Str.ofString "rows" then some (Value.ref Rr) else if y = Str.ofString "answer" then ua else if y = Str.ofString "value" then uv else if y = Str.ofString "name" then un else if y = Str.ofString "dot" then udo else if y = Str.ofString "deed" then ud else if y = Str.ofString "x" then ux else if y = Str.ofString "table" then some (Value.ref xt) else List.lookup y [(Str.ofString "script", Value.ref sc)].reverse
noncomputable def LawI (w : World) (xt d l : Addr) (t : Tok) (D : Addr) (ws : List Value) (k : Nat) (Rr : Addr) (nw : Led) : Prop :=
  ∃ (rs : List Rec) (nR n : Nat) (I : List It) (R : List Ro) (rest : Led), nw = TabF w.params xt d l t n I rest ∧ rs.length ≤ k ∧ (∀ r ∈ rs, Rok r ∧ r.q ≠ 10) ∧ I.map It.pair = rs.map Rec.pair ∧ R.map Ro.row = rs.map Rec.row ∧ (∀ i ∈ I, i.obj ∈ rest) ∧ (∀ r ∈ R, r.obj ∈ rest) ∧
    (Rr, listOf (List.toArray (ros R)) nR) ∈ rest ∧ (D, listOf (List.toArray ws) 0) ∈ rest ∧ (123, tabObj #[]) ∈ rest ∧ (∀ p ∈ rest, p.1 ≠ l)
noncomputable def lawJ (w : World) (sc xt d l : Addr) (t : Tok) (D : Addr) (ws : List Value) : Nat → (Str → Option Value) → Led → Prop := fun i m' nw =>
  ∃ Rr ux ud udo un uv ua uu, LawI w xt d l t D ws i Rr nw ∧ m' = lawE sc xt Rr ux ud udo un uv ua uu
theorem law_env0 : ∀ {sc xt Rr : Addr}, (fun y => if y = Str.ofString "rows" then some (Value.ref Rr) else if y = Str.ofString "table" then some (Value.ref xt) else List.lookup y [(Str.ofString "script", Value.ref sc)].reverse) = lawE sc xt Rr none none none none none none none := by
  have skon : SkOn := .mk
  intro sc xt Rr
  funext y
  unfold lawE
  by_cases h1 : y = Str.ofString "due"
  · subst h1; rfl
  by_cases h2 : y = Str.ofString "rows"
  · subst h2; rfl
  by_cases h3 : y = Str.ofString "answer"
  · subst h3; rfl
  by_cases h4 : y = Str.ofString "value"
  · subst h4; rfl
  by_cases h5 : y = Str.ofString "name"
  · subst h5; rfl
  by_cases h6 : y = Str.ofString "dot"
  · subst h6; rfl
  by_cases h7 : y = Str.ofString "deed"
  · subst h7; rfl
  by_cases h8 : y = Str.ofString "x"
  · subst h8; rfl
  rw [if_neg h1, if_neg h3, if_neg h4, if_neg h5, if_neg h6, if_neg h7, if_neg h8]
theorem law_env1 {sc xt Rr X : Addr} {ux ud udo un uv ua uu vx vd vdo vn vv va vu : Option Value} : (fun y => if y = Str.ofString "due" then vu else if y = Str.ofString "rows" then some (Value.ref X) else if y = Str.ofString "answer" then va else if y = Str.ofString "value" then vv else if y = Str.ofString "name" then vn else if y = Str.ofString "dot" then vdo else if y = Str.ofString "deed" then vd else if y = Str.ofString "x" then vx else lawE sc xt Rr ux ud udo un uv ua uu y) = lawE sc xt X vx vd vdo vn vv va vu :=
  funext fun y => ic fun h1 => ic fun h2 => ic fun h3 => ic fun h4 => ic fun h5 => ic fun h6 => ic fun h7 => ic fun h8 => (if_neg h1).trans ((if_neg h2).trans ((if_neg h3).trans ((if_neg h4).trans ((if_neg h5).trans ((if_neg h6).trans ((if_neg h7).trans (if_neg h8)))))))
/-- the table and the rows behind a turn -/
theorem law_turn : ∀ {w : World} {H h : Heap} {L xt d l I D Rr X : Addr} {t : Tok} {n' nR' k : Nat} {I' : List It} {R R' : List Ro} {rs : List Rec} {rest' news' : Led} {oi : Obj} {ws : List Value} (N : News H L h news') (hE : Ext (TabF w.params xt d l t n' I' rest') news') (hoi : oi.cls = .type "list_iterator") (hI : (I, oi) ∈ rest') (hl : ∀ p ∈ rest', p.1 ≠ l) (q1 : @Ne Nat I l) (q2 : @Ne Nat I xt) (q3 : @Ne Nat I d) (hX : (X, listOf (List.toArray (ros R')) nR') ∈ news') (hXo : X = Rr ∨ ∀ q ∈ TabF w.params xt d l t n' I' rest', @Ne Nat X q.1) (hRl : @Ne Nat Rr l) (hR : ∀ r ∈ R', r ∈ R ∨ r.obj ∈ news') (hRo : ∀ r ∈ R, r.obj ∈ rest') (hIo : ∀ i ∈ I', i.obj ∈ rest') (hD : (D, listOf (List.toArray ws) 0) ∈ rest') (h123 : (123, tabObj #[]) ∈ rest') (hk : rs.length ≤ k) (hrs : ∀ r ∈ rs, Rok r ∧ r.q ≠ 10) (hrI : I'.map It.pair = rs.map Rec.pair) (hrR : R'.map Ro.row = rs.map Rec.row), ∃ nw, News H L h ((I, oi) :: nw) ∧ (∀ p ∈ nw, p.1 ≠ I) ∧ LawI w xt d l t D ws k X nw := by
  have skon : SkOn := .mk
  intro w H h L xt d l I D Rr X t n' nR' k I' R R' rs rest' news' oi ws N hE hoi hI hl q1 q2 q3 hX hXo hRl hR hRo hIo hD h123 hk hrs hrI hrR
  obtain ⟨extra, rfl, ho⟩ := hE
  obtain ⟨rest'', N2, hn, hl2, hm⟩ := law_end N hoi hI ho hl q1 q2 q3
  have hXl : X ≠ l := by
    rcases hXo with rfl | h
    · exact hRl
    · exact h _ (.head _)
  have hin : ∀ q ∈ rest', q ∈ extra ++ rest' := fun q hq => List.mem_append_right _ hq
  have hlc : ∀ (a : Addr) (xs : Array Value) (n : Nat), ((a, listOf xs n) : Addr × Obj).2.cls = .type "list" := fun _ _ _ => rfl
  have hli : ∀ (c : Value), c = .type "list" → c ≠ .type "list_iterator" := fun c e => by rw [e]; decide
  refine ⟨_, N2, hn, rs, nR', n', I', R', rest'', rfl, hk, hrs, hrI, hrR, fun i hi => hm _ (hin _ (hIo i hi)) (by show Value.type "tuple" ≠ _; decide), fun r hr => ?_, ?_, hm _ (hin _ hD) (hli _ rfl), hm _ (hin _ h123) (by show Value.none ≠ _; decide), hl2⟩
  · refine hm _ ?_ (hli _ rfl)
    rcases hR r hr with h1 | h1
    · exact hin _ (hRo r h1)
    · refine tab_mem h1 (.inr fun e => ?_) (.inl rfl)
      have e1 : (#[Value.bool r.dot, .int r.num r.tn, .int r.val r.tv] : Array Value) = List.toArray (its I') := by
        have : (listOf #[Value.bool r.dot, .int r.num r.tn, .int r.val r.tv] 0).data = (listOf (List.toArray (its I')) n').data := congrArg Obj.data e
        injection this
      have e2 : [Value.bool r.dot, .int r.num r.tn, .int r.val r.tv] = its I' := congrArg Array.toList e1
      cases I' with
      | nil => simp [its] at e2
      | cons a l => simp [its] at e2
  · exact hm _ (tab_mem hX (.inl hXl) (.inl rfl)) (hli _ rfl)
end
section
theorem lk_list_append : typeLookup (.type "list") "append" = pure (some (.builtin "list.append")) := by rw [typeLookup_type, builtinLookup_eq_fast]; kernel_rfl
theorem ty_list_append : typeOf (.builtin "list.append") = pure (.type "method_descriptor") := by show builtinType _ = _; rw [builtinType_eq_fast]; kernel_rfl
theorem slot_md_get : Slot "method_descriptor" "__get__" "method_descriptor.__get__" :=
  .of (owner := "method_descriptor") (n := "__get__") (by rw [typeLookup_type, builtinLookup_eq_fast]; kernel_rfl) (by decide +kernel) (by decide +kernel) (by decide +kernel)
    (by first | exact .inl (by decide +kernel) | exact .inr (by decide +kernel)) (by rw [isSubtype_type]; kernel_rfl)
theorem entry_md_get : entryFor table "method_descriptor.__get__" = some Builtin.«method_descriptor.__get__» := entryFor_of_tree (by kernel_rfl)
theorem args_md_get (a b c : Value) : argsOk "method_descriptor.__get__" ⟨[a, b, c], []⟩ := by unfold argsOk; kernel_rfl
theorem lk_md_get : typeLookup (.type "method_descriptor") "__get__" = pure (some (.builtin "method_descriptor.__get__")) := slot_md_get.lookup
theorem lk_md_set : typeLookup (.type "method_descriptor") "__set__" = pure none := by rw [typeLookup_type, builtinLookup_eq_fast]; kernel_rfl
theorem lk_md_del : typeLookup (.type "method_descriptor") "__delete__" = pure none := by rw [typeLookup_type, builtinLookup_eq_fast]; kernel_rfl
theorem kind_la : builtinKind "list.append" = some Manifest.AttrKind.method := by kernel_rfl
noncomputable def boundAt (l : Addr) : Obj := { cls := .type "builtin_function_or_method", data := .fields #[.builtin "list.append", .ref l] }
section
variable {prog : Program} {w : World} {A : Around} {E : Value → Shared → Prop} {h : Heap} {g : Array GenState} {d : Drawn} {t : Nat} {os : OsState} {a : Addr} {o : Obj}
theorem md_get {P : PySem.Fin → Shared → Prop} (hx : h.get? a = some o) (hc : o.cls = .type "list") (hq : P (.done (.ret (.ref h.objs.size))) ⟨h.push (boundAt a), g, d, t, os⟩) :
    wpAny (model prog w) A (Builtin.«method_descriptor.__get__» ⟨[.builtin "list.append", .ref a, .type "list"], []⟩) P E ⟨h, g, d, t, os⟩ := by
  have hT : (⟨h, g, d, t, os⟩ : Shared).TypeIs (.ref a) "list" := ⟨_, hx, hc⟩
  have hsub : isSubtype (.type "list") (.type (".".intercalate ("list.append".cutAt '.').dropLast)) = pure true := by
    rw [show ".".intercalate ("list.append".cutAt '.').dropLast = "list" by decide +kernel, isSubtype_type]; kernel_rfl
  unfold Builtin.«method_descriptor.__get__»
  repeat (any_goals (first | assumption | wp_step))
theorem append_entry : ∀ {prog : Program} {w : World} {A : Around} {E : Value → Shared → Prop} {h : Heap} {g : Array GenState} {d : Drawn} {t : Nat} {os : OsState} {a : Addr} {tk : Tok} {Q : PySem.Fin → Shared → Prop} {xs : Array Value} {n : Nat} (hx : h.get? a = some (listOf xs n)) (hq : Q (.done (.ret (.ref h.objs.size))) ⟨h.push (boundAt a), g, d, t, os⟩), wpAny (model prog w) A (Builtin.«object.__getattribute__» ⟨[.ref a, .str "append" tk], []⟩) Q E ⟨h, g, d, t, os⟩ := by
  have skon : SkOn := .mk
  intro prog w A E h g d t os a tk Q xs n hx hq
  have hT : (⟨h, g, d, t, os⟩ : Shared).TypeIs (.ref a) "list" := ⟨_, hx, rfl⟩
  have f4 := lk_list_append
  have f5 := ty_list_append
  have f6 := lk_md_get
  have f7 := lk_md_set
  have f8 := lk_md_del
  have f9 := slot_md_get.bind (.builtin "list.append")
  repeat (any_goals (first | assumption | wp_step))
  refine codeAny_call_builtin slot_md_get.plain entry_md_get (slot_md_get.check _ _ _ _ _ _ _ _ (show (⟨h, g, d, t, os⟩ : Shared).TypeIs (.builtin "list.append") "method_descriptor" from ty_list_append) (args_md_get _ _ _) (md_get hx rfl ?_))
  repeat (any_goals (first | assumption | wp_step))
theorem append_call {tk : Tok} {xs : Array Value} {n : Nat} {R : Result → Shared → Prop} (hx : h.get? a = some (listOf xs n)) (hq : R (.ok (.ret (.ref h.objs.size))) ⟨h.push (boundAt a), g, d, t, os⟩) :
    codeAny (model prog w) A (.call (.builtin "list.__getattribute__") ⟨[.ref a, .str "append" tk], []⟩) R ⟨h, g, d, t, os⟩ :=
  codeAny_call_builtin F.slot_list_getattribute.plain F.entry_list_ga (F.slot_list_getattribute.check _ _ _ _ _ _ _ _ (show (⟨h, g, d, t, os⟩ : Shared).TypeIs (.ref a) "list" from ⟨_, hx, rfl⟩) (F.args_list_getattribute_2 _ _) (append_entry hx hq))
theorem getAttr_append {xs : Array Value} {n : Nat} {Q : Value → Shared → Prop} (hx : h.get? a = some (listOf xs n)) (hq : Q (.ref h.objs.size) ⟨h.push (boundAt a), g, d, t + 1, os⟩) :
    wpAny (model prog w) A (getAttr (.ref a) "append" true) Q E ⟨h, g, d, t, os⟩ := by
  have hT : ∀ tk', (⟨h, g, d, tk', os⟩ : Shared).TypeIs (.ref a) "list" := fun _ => ⟨_, hx, rfl⟩
  have f3 := F.slot_list_getattribute.lookup
  have f4 := F.slot_list_getattribute.bind (.ref a)
  have f5 := am_list_getattr_none
  unfold getAttr getAttrBy
  repeat (any_goals (first | assumption | exact hT _ | ((with_reducible show codeAny _ _ (Code.call (Value.builtin "list.__getattribute__") _) _ _); refine append_call hx ?_) | wp_step))
theorem getAttr_app {s : Shared} {h₀ : Heap} {L : Addr} {m : Str → Option Value} {news : Led} {xs : Array Value} {n : Nat} {Q : Value → Shared → Prop} (F : Fr h₀ L s.heap m) (N : News h₀ L s.heap news) (hm : (a, listOf xs n) ∈ news)
    (hq : ∀ D h', Fr h₀ L h' m → News h₀ L h' ((D, boundAt a) :: news) → (∀ p ∈ news, p.1 < D) → Q (.ref D) { s with heap := h', toks := s.toks + 1 }) : wpAny (model prog w) A (getAttr (.ref a) "append" true) Q E s :=
  getAttr_append (N.get hm) (hq _ _ (F.push _) (News.push F N _ rfl) fun p hp => Heap.lt_size (N p hp).1)
end
end
section
theorem warm_G3 : PySem.Challenge.rw_ta0132_01.Holds → hd1.heap_1_39 = hd1.heap_1_39 := by
  k_fill
  intro _
  rfl
theorem at44 (w : World) : ∃ es n sl, (hd1.heap_1_39 w.params).lookup 44 = some { cls := .type "dict", dict := none, data := .dict es n, slots := sl } := by
  with_unfolding_all exact (exI3 rfl)
section
variable {prog : Program} {w w' : World} {A : Around} {E : Value → Shared → Prop} {s : Shared}
theorem getm44 {pl : Sem Bool} {Q : Value × List Value → Shared → Prop} (X : (hd1.heap_1_39 w.params).In s.heap) (h : Q (.builtin "dict.items", [.ref 44]) s) : wpAny (model prog w') A (getMethod (.ref 44) "items" pl) Q E s := by
  obtain ⟨es, n, sl, h44⟩ := at44 w
  have hx := X _ _ h44
  exact getMethod_builtin (T := "dict") ⟨_, hx, rfl⟩ F.plainAttrs_dict F.slot_dict_items F.type_dict_items (fun a e => by cases e; exact ⟨_, hx, rfl⟩) h
end
end
section
theorem warm_G4 : PySem.Challenge.rw_ta0132_01.Holds → hd1.heap_1_39 = hd1.heap_1_39 := by
  k_fill
  intro _
  rfl
theorem dict44 : ∀ (prog : Program) (w : World), ∃ o kvs, (hd1.heap_1_39 w.params).lookup 44 = some o ∧ o.IsDictOf (strKind prog w) kvs ∧ kvs.length ≤ 16777216 := by
  have skon : SkOn := .mk
  intro prog w
  refine' ⟨?o, [(Str.ofString "http://www.w3.org/XML/1998/namespace", ?v0), (Str.ofString "http://www.w3.org/1999/xhtml", ?v1), (Str.ofString "http://www.w3.org/1999/02/22-rdf-syntax-ns#", ?v2), (Str.ofString "http://schemas.xmlsoap.org/wsdl/", ?v3), (Str.ofString "http://www.w3.org/2001/XMLSchema", ?v4), (Str.ofString "http://www.w3.org/2001/XMLSchema-instance", ?v5), (Str.ofString "http://purl.org/dc/elements/1.1/", ?v6)], ?h, ?hdd, ?hn⟩
  case h => with_unfolding_all exact rfl
  case hdd =>
    refine' ⟨?es, ?ep, ⟨rfl, rfl, rfl⟩, rfl, ?keys, ?pairs, ?nd⟩
    case pairs =>
      dsimp only
      repeat (refine' PySem.Pairs.cons (knd := strKind prog w) (strKind_is prog w _ _) rfl ?_)
      exact PySem.Pairs.nil (knd := strKind prog w)
    case keys =>
      intro e he
      simp only [List.mem_toArray, List.mem_cons, List.not_mem_nil, or_false] at he
      rcases he with rfl | rfl | rfl | rfl | rfl | rfl | rfl <;> exact ⟨_, strKind_is prog w _ _, rfl⟩
    case nd => decide +kernel
  case hn => simp
section
variable {prog : Program} {w : World} {A : Around} {E : Value → Shared → Prop} {s : Shared} {h₀ : Heap} {L v : Addr} {m : Str → Option Value} {news : Led} {Q : Value → Shared → Prop}
noncomputable def view44 : Obj := { cls := .type "dict_items", data := .fields #[.ref 44] }
theorem items44 (F : Fr h₀ L s.heap m) (N : News h₀ L s.heap news) (X : (hd1.heap_1_39 w.params).In h₀)
    (h : ∀ (D : Addr) h', Fr h₀ L h' m → News h₀ L h' ((D, view44) :: news) → (∀ q ∈ news, q.1 < D) → Q (.ref D) { s with heap := h' }) : wpAny (model prog w) A (call (.builtin "dict.items") [.ref 44]) Q E s := by
  obtain ⟨o, kvs, ho, hod, hn⟩ := dict44 prog w
  have hD : s.heap.DictOf (strKind prog w) 44 kvs := Heap.dictOf_iff.mpr ⟨o, (X.keeps F.keep) _ _ ho, hod⟩
  exact call_meetsIn PySem.F.slot_dict_items hD.typeIs PySem.F.entry_dict_items (PySem.F.args_dict_items_1 _) (meets_dict_items (strKind prog w) 44 (by decide)) ⟨⟨kvs, hD⟩, h _ _ (F.push _) (News.push F N _ rfl) fun q hq => Heap.lt_size (N q hq).1⟩
theorem list44 (hh : A.handled = none) (F : Fr h₀ L s.heap m) (N : News h₀ L s.heap news) (X : (hd1.heap_1_39 w.params).In h₀) (hv : (v, view44) ∈ news)
    (h : ∀ (B : Addr) xs c h' tk, Fr h₀ L h' m → News h₀ L h' ((B, listOf xs c) :: news) → (∀ q ∈ news, q.1 < B) → Q (.ref B) { s with heap := h', toks := tk }) : wpAny (model prog w) A (call (.type "list") [.ref v]) Q E s := by
  obtain ⟨o, kvs, ho, hod, hn⟩ := dict44 prog w
  obtain ⟨ep, hat⟩ := KdkAt.of hod
  refine kdx_call (knd := strKind prog w) (kvs := kvs) (ep := ep) hh ⟨_, (N _ hv).1, rfl, rfl⟩ (hat.dictAt ((X.keeps F.keep) _ _ ho)) (kdl_size hn) fun h' tk acc c as hk hS hl hG hacc => ?_
  refine h _ acc c h' tk (F.keeps hk) (fun q hq => ?_) fun q hq => Heap.lt_size (N q hq).1
  rcases List.mem_cons.mp hq with rfl | hq
  · exact ⟨hS, kdx_fresh F (Nat.le_refl _)⟩
  · exact ⟨hk _ _ (N q hq).1, (N q hq).2⟩
end
end
section
theorem warm_G2 : PySem.Challenge.rw_ta0132_01.Holds → hd1.heap_1_39 = hd1.heap_1_39 := by
  k_fill
  intro _
  rfl
noncomputable def went (P : Params) (nm : String) (t : Tok) (v : Value) : DictEntry := ⟨PyData.keyHash P (Str.ofString nm), .str (Str.ofString nm) t, v⟩
theorem c_c14n : ∀ (w : World) (D : Addr) (news : Led), Con w 8 (call (.ref 150) [.ref D]) news (fun r news' => ∃ (x d l0 l1 l2 l3 l4 l5 dp B9 D9 Dt : Addr) (op : Obj) (xs9 : Array Value) (c9 : Nat) (t0 t1 t2 t3 t4 t5 t6 t7 t8 t9 t10 t11 t12 t13 t14 t15 t16 t17 ta tb : Tok), r = .ref x ∧ news' = (l0, listOf #[.bool false] 0) :: (dp, op) :: (l1, listOf #[] 0) :: (B9, listOf xs9 c9) :: (D9, view44) :: (l2, listOf #[.ref B9, .ref l1] 2) :: (l3, listOf #[.ref l4] 0) :: (l4, listOf #[.ref Dt] 0) :: (Dt, ({ cls := .type "tuple", data := .seq #[.str (Str.ofString "http://www.w3.org/XML/1998/namespace") ta, .str (Str.ofString "xml") tb] } : Obj)) :: (l5, listOf #[] 0) :: (x, instObj 150 d) :: (d, dictOf [went w.params "_write" t1 (.ref D), went w.params "_data" t2 (.ref l5), went w.params "_with_comments" t3 (.bool false), went w.params "_strip_text" t4 (.bool false), went w.params "_exclude_attrs" t5 (.none), went w.params "_exclude_tags" t6 (.none), went w.params "_rewrite_prefixes" t7 (.bool false), went w.params "_qname_aware_tags" t8 (.none), went w.params "_find_qname_aware_attrs" t9 (.none), went w.params "_declared_ns_stack" t10 (.ref l3), went w.params "_ns_stack" t11 (.ref l2), went w.params "_prefix_map" t12 (.ref dp), went w.params "_preserve_space" t13 (.ref l0), went w.params "_pending_start" t14 (.none), went w.params "_root_seen" t15 (.bool false), went w.params "_root_done" t16 (.bool false), went w.params "_ignored_depth" t17 (.int 0 t0)] 17) :: news ∧ AllLt d news ∧ (@LT.lt Nat _ d x) ∧ (@LT.lt Nat _ x l5) ∧ (@LT.lt Nat _ l5 Dt) ∧ (@LT.lt Nat _ Dt l4) ∧ (@LT.lt Nat _ l4 l3) ∧ (@LT.lt Nat _ l3 l2) ∧ (@LT.lt Nat _ l2 D9) ∧ (@LT.lt Nat _ D9 B9) ∧ (@LT.lt Nat _ B9 l1) ∧ (@LT.lt Nat _ l1 dp) ∧ (@LT.lt Nat _ dp l0)) := by
  k_with_none
  k_with "storeName" => (k_here; (with_reducible show wpAny _ _ (storeName (envOfC _ _ _ _ _) _ _) _ _ _); k_dflt (refine' st_cell ?k1 ?k2 ?k3 ?k4 ?k5 ?k6 ?k7 ?_; (case k1 => k_asm); (case k2 => k_asm); (case k3 => exact rfl); (case k4 => exact rfl); (case k5 => exact rfl); (case k6 => k_updF); (case k7 => k_asm); k_whole); intro _ _ _ _ _; (try dsimp only))
  k_with "setItem ref ref ref" => (k_here; k_dflt (refine' store_all ?k1 ?k2 ?k3 ?k4 ?k5 ?k6 ?k7 ?k8 ?_; (case k1 => k_asm); (case k2 => k_asm); (case k3 => exact rfl); (case k4 => k_updF); (case k5 => k_mem); (case k6 => first | (simp only [beq_eq_false_iff_ne]; (try dsimp only); (refine neN ?_); omega) | (simp only [beq_eq_false_iff_ne]; assumption)); (case k7 => assumption); (case k8 => assumption); k_whole); intro _ _ _ _; (try dsimp only))
  k_with "call builtin:list.append" => (k_here; (with_reducible show wpAny _ _ (call (Value.builtin _) [Value.ref _, _]) _ _ _); k_dflt (refine' append_K ?k1 ?k2 ?k3 ?_ ?z; (case k1 => k_asm); (case k2 => k_asm); (case k3 => k_upd); (case z => first | size_fits | exact Nat.le_trans (by with_reducible assumption) (by decide)); k_whole); intro _ _ _; (try k_sweep))
  k_with "exec Assign cons ListComp" => (k_here; k_dflt (refine' compA ?c0 ?c1 ?c2 ?c3 ?_; (case c0 => exact rfl); (case c1 => with_unfolding_all rfl); (case c2 => exact rfl); (case c3 => decide)))
  k_with "getMethod ref" => (k_here; (with_reducible show wpAny _ _ (getMethod (Value.ref 44) _ _) _ _ _); k_dflt (refine' getm44 ?X ?_; (case X => exact Frag.In.keeps (by k_asm) (Fr.keep (by k_asm))); k_whole))
  k_with "call builtin:dict.items" => (k_here; (with_reducible show wpAny _ _ (call _ [Value.ref 44]) _ _ _); k_dflt (refine' items44 ?F ?N ?X ?_; (case F => k_asm); (case N => k_asm); (case X => k_asm); k_whole); intro _ _ _ _ l9; (try k_lt l9); (try k_sweep))
  k_with "call type:list" => (k_here; k_dflt (refine' list44 ?hh ?F ?N ?X ?m ?_; (case hh => exact rfl); (case F => k_asm); (case N => k_asm); (case X => k_asm); (case m => k_mem); k_whole); intro _ _ _ _ _ _ _ l9; (try k_lt l9); (try k_sweep))
  have hold0 : HoldK "+Comp" := .mk
  have hold1 : HoldA 67 := .mk
  have skon : SkOn := .mk
  intro w D news
  unfold Con
  intro mean mg mb dp un gd cn cs a ccd cl outer A₀ base h₀ L m s Q E B F X N T hk hd hu hret
  k_dflt (refine' call_cls ?k1 ?k2 ?k3 ?k4 ?k5 ?k6 ?_; (case k1 => k_asm); (case k2 => k_asm); (case k3 => k_asm); (case k4 => k_is); (case k5 => k_is); (case k6 => k_is); k_whole; intro x d h' F' N' l1 l2; (try k_lt l1); (try k_lt2 l2); (try k_sweep))
  k_dflt (refine' code_def (binds := [(Str.ofString "self", .ref x), (Str.ofString "write", .ref D), (Str.ofString "with_comments", .bool false), (Str.ofString "strip_text", .bool false), (Str.ofString "rewrite_prefixes", .bool false), (Str.ofString "qname_aware_tags", .none), (Str.ofString "qname_aware_attrs", .none), (Str.ofString "exclude_attrs", .none), (Str.ofString "exclude_tags", .none)]) ?k1 ?k2 ?k3 ?k4 ?k5 ?kA ?kF ?kK ?k6 ?k7 ?k8 ?k9 ?kB ?_ ?c2 ?c3 ?c4 ?c5; (case kA => exact rfl); (case kF => exact rfl); (case kK => first | assumption | exact rfl); (case k1 => k_asm); (case k2 => k_asm); (case k3 => k_asm); (case k4 => k_asm); (case k5 => k_asm); (case k6 => k_is); (case k7 => k_is); (case k8 => k_room); (case k9 => first | exact BindsTo.of_eq rfl | (refine' kp_binds ?kx ?ke; (case kx => k_in); (case ke => exact fun _ => rfl))); (case c5 => decide); (case kB => exact locs rfl); (case c2 => exact rfl); (case c3 => exact rfl); (case c4 => exact rfl); k_whole; intro g1 L1 h1 FG1 F1 N1 B1 X1 T1; (try dsimp only); (try k_lift B1); (try k_fold))
  k_steps
  exact hret _ _ _ _ (by assumption) (by assumption) (exI9 (exI9 (exI9 (exI8 ⟨rfl, rfl, by first | assumption | exact allLt_of (by assumption), by omega, by omega, by omega, by omega, by omega, by omega, by omega, by omega, by omega, by omega, by omega⟩))))
end
section
theorem warm_G5 : PySem.Challenge.rw_ta0132_01.Holds → hd1.heap_1_39 = hd1.heap_1_39 := by
  k_fill
  intro _
  rfl
theorem extend_K {prog : Program} {w : World} {A : Around} {E : Value → Shared → Prop} {s : Shared} {h₀ : Heap} {L D b : Addr} {m : Str → Option Value} {news : Led} {its its2 : Array Value} {n n2 : Nat} {g : Obj → Led} {Q : Value → Shared → Prop} (F : Fr h₀ L s.heap m) (N : News h₀ L s.heap news) (hb : (b, listOf its2 n2) ∈ news)
    (U : UpdF D (listOf its n) news g) (hz : its.size + its2.size ≤ sizeLine)
    (h : ∀ h' n', Fr h₀ L h' m → News h₀ L h' (g (listOf (its ++ its2) n')) → Q .none { s with heap := h' }) : wpAny (model prog w) A (call (.builtin "list.extend") [.ref D, .ref b]) Q E s := by
  obtain ⟨pre, post, rfl, e, n1, n2⟩ := U.split
  have hb' := (N _ hb).1
  obtain ⟨li, rfl⟩ : ∃ li : List Value, its = li.toArray := ⟨its.toList, by rw [Array.toArray_toList]⟩
  refine extend_in (own := pre) (rest := post) F N n1 n2 hb' (fun h' n' F' N' => h h' n' F' ?_) (by simpa using hz)
  rw [e]
  have e2 : li.toArray ++ its2 = (li ++ its2.toList).toArray := by simp
  rw [e2]
  exact N'
theorem kv1 {a : Str} {x z : Option Value} {r : Str → Option Value} : (fun y => if y = a then x else if y = a then z else r y) = fun y => if y = a then x else r y := by
  funext y
  by_cases h1 : y = a <;> simp [h1]
theorem kv0a {a : Str} {r : Str → Option Value} (ha : r a = none) : r = fun y => if y = a then none else r y := by
  funext y
  by_cases h1 : y = a
  · simp [h1, ha]
  · simp [h1]
theorem c_walk : ∀ (w : World) (l3 l4 nn : Addr) (v : Value) (n3 n4 n5 : Nat) (news : Led) (h3 : (l3, listOf #[.ref l4, .ref nn] n3) ∈ news) (h4 : (l4, listOf #[v] n4) ∈ news) (h5 : (nn, listOf #[] n5) ∈ news), Con w 6 (call (.ref 401) [.ref l3]) news (fun r news' => ∃ b D c, r = .ref b ∧ news' = (D, listOf #[.ref nn, .ref l4] 0) :: (b, listOf #[v] c) :: news ∧ (@LT.lt Nat _ b D) ∧ AllLt b news) := by
  k_with_none
  k_with "exec For" => (with_unfolding_all refine wpAny_For ?_ (by intro _; rfl))
  k_with "storeName" => (k_here; (with_reducible show wpAny _ _ (storeName (envOfC _ _ _ _ _) _ _) _ _ _); k_dflt (refine' st_cell ?k1 ?k2 ?k3 ?k4 ?k5 ?k6 ?k7 ?_; (case k1 => k_asm); (case k2 => k_asm); (case k3 => exact rfl); (case k4 => exact rfl); (case k5 => exact rfl); (case k6 => k_updF); (case k7 => k_asm); k_whole); intro _ _ _ _ _; (try dsimp only))
  k_with "setItem ref ref ref" => (k_here; k_dflt (refine' store_all ?k1 ?k2 ?k3 ?k4 ?k5 ?k6 ?k7 ?k8 ?_; (case k1 => k_asm); (case k2 => k_asm); (case k3 => exact rfl); (case k4 => k_updF); (case k5 => k_mem); (case k6 => first | (simp only [beq_eq_false_iff_ne]; (try dsimp only); (refine neN ?_); omega) | (simp only [beq_eq_false_iff_ne]; assumption)); (case k7 => assumption); (case k8 => assumption); k_whole); intro _ _ _ _; (try dsimp only))
  k_with "call builtin:list.append" => (k_here; (with_reducible show wpAny _ _ (call (Value.builtin _) [Value.ref _, _]) _ _ _); k_dflt (refine' append_K ?k1 ?k2 ?k3 ?_ ?z; (case k1 => k_asm); (case k2 => k_asm); (case k3 => k_upd); (case z => first | size_fits | exact Nat.le_trans (by with_reducible assumption) (by decide)); k_whole); intro _ _ _; (try k_sweep))
  k_with "exec Assign cons ListComp" => (k_here; k_dflt (refine' compA ?c0 ?c1 ?c2 ?c3 ?_; (case c0 => exact rfl); (case c1 => with_unfolding_all rfl); (case c2 => exact rfl); (case c3 => decide)))
  k_with "call builtin:list.extend" => (k_here; (with_reducible show wpAny _ _ (call (Value.builtin _) [Value.ref _, Value.ref _]) _ _ _); k_dflt (refine' extend_K ?F ?N ?b ?U ?z ?_; (case F => k_asm); (case N => k_asm); (case b => k_mem); (case U => k_updF); (case z => first | decide | (with_unfolding_all decide)); k_whole); intro _ _ _ N9; (try dsimp only at N9); (try k_sweep))
  k_with "TurnJ ret" => dsimp only [TurnJ]
  have hold0 : HoldK "pyIter ref" := .mk
  have hold1 : HoldK "+Comp" := .mk
  have skon : SkOn := .mk
  intro w l3 l4 nn v n3 n4 n5 news h3 h4 h5
  unfold Con
  intro mean mg mb dp un gd cn cs a ccd cl outer A₀ base h₀ L m s Q E B F X N T hk hd hu hret
  refine wpAny_call ?_
  k_dflt (refine' code_def (binds := [(Str.ofString "levels", .ref l3)]) ?k1 ?k2 ?k3 ?k4 ?k5 ?kA ?kF ?kK ?k6 ?k7 ?k8 ?k9 ?kB ?_ ?c2 ?c3 ?c4 ?c5; (case kA => exact rfl); (case kF => exact rfl); (case kK => first | assumption | exact rfl); (case k1 => k_asm); (case k2 => k_asm); (case k3 => k_asm); (case k4 => k_asm); (case k5 => k_asm); (case k6 => k_is); (case k7 => k_is); (case k8 => k_room); (case k9 => first | exact BindsTo.of_eq rfl | exact binds_K (by k_in) rfl (by k_is) rfl rfl rfl); (case c5 => decide); (case kB => exact locs rfl); (case c2 => exact rfl); (case c3 => exact rfl); (case c4 => exact rfl); k_whole; intro g1 L1 h1 FG1 F1 N1 B1 X1 T1; (try dsimp only); (try k_lift B1); (try k_fold))
  k_steps
  rename Fr g1 L1 _ _ => F8
  rename News g1 L1 _ _ => N8
  rename_i pl hp0 plt hp1 Dl hD0 lD0
  refine Hold.to ?_
  refine iterL (items := [.ref nn, .ref l4]) (fun i m' news' => (∃ u c, news' = (Dl, W.listOf #[Value.ref nn, Value.ref l4] 0) :: (pl, listOf (if i < 2 then #[] else #[v]) c) :: news ∧ m' = fun y => if y = Str.ofString "level" then u else if y = Str.ofString "pairs" then some (Value.ref pl) else List.lookup y [(Str.ofString "levels", Value.ref l3)].reverse)) (by rfl) (by constructor) F8 N8 ?hl ?h0 ?turn ?done
  case hl =>
    intro i m' news' h' hq9; obtain ⟨u, c, rfl, _⟩ := hq9; intro F' N'
    exact ⟨_, (N' _ (.head _)).1, rfl, _, rfl⟩
  case h0 => exact ⟨none, 0, rfl, kv0a rfl⟩
  case turn =>
    intro i v' m₁ news₁ h₁ tk₁ Ia oi hv hq9; obtain ⟨u, c, rfl, rfl⟩ := hq9; intro hne F3 N3
    clear F8 N8
    have q1 : @Ne Nat Ia pl := fun e => hne _ (.tail _ (.head _)) e.symm
    have q2 : @Ne Nat Ia Dl := fun e => hne _ (.head _) e.symm
    have q3 : @LT.lt Nat _ pl Dl := lD0.1
    have q4 : AllLt pl news := allLt_of plt
    have off : ∀ o, ∀ p ∈ (Dl, W.listOf #[Value.ref nn, Value.ref l4] 0) :: (pl, o) :: news, p.1 ≠ Ia := fun o p hp => by
      rcases List.mem_cons.mp hp with rfl | hp
      · exact fun e => q2 e.symm
      · rcases List.mem_cons.mp hp with rfl | hp
        · exact fun e => q1 e.symm
        · exact hne p (.tail _ (.tail _ hp))
    match i, hv with
    | 0, hv =>
      cases hv
      simp only [Nat.zero_lt_succ, if_true] at N3
      k_steps
      exact (exI4 ⟨rfl, by assumption, by assumption, off _, _, _, rfl, kv1⟩)
    | 1, hv =>
      cases hv
      k_steps
      exact (exI4 ⟨rfl, by assumption, by assumption, off _, _, _, rfl, kv1⟩)
  case done =>
    intro m' news' h' tk' hq9; obtain ⟨u, c, rfl, rfl⟩ := hq9; intro F' N'
    k_steps
    exact hret _ _ _ _ (by assumption) (by assumption) (exI3 ⟨rfl, rfl, lD0.1, allLt_of plt⟩)
section
variable {prog : Program} {w : World} {A : Around} {E : Value → Shared → Prop} {s : Shared} {K : Frag} {x C L : Addr} {h₀ : Heap} {m : Str → Option Value} {ox : Obj} {es : List DictEntry} {n : Nat} {name : Str} {v : Value}
theorem findObj_shadow {a g : Value} {od : Obj} (hh : hasDictIn K C = true) (ha : findIn K (.ref C) name = some (some a)) (hg : specialIn K a "__get__" = some (some g)) (ht : takesIn K a = some false) (hl : lookIn name od = some (some v)) : findObj K C (some od) name = some (.value v) := by
  obtain ⟨cd, hc, hd⟩ := any_some hh
  unfold findObj
  rw [hc, Option.bind_some, ha, Option.bind_some]
  have ho : PySem.W.ownOf cd (some od) name = some (some v) := by unfold PySem.W.ownOf; rw [if_pos hd]; exact hl
  simp [hg, ht, ho]
theorem method_own {f : Addr} {g : Value} {pl : Sem Bool} {Q : Value × List Value → Shared → Prop} (F : Fr h₀ L s.heap m) (X₀ : K.In h₀) (I : InstAt s.heap x ox C (some (dictOf es n))) (hg : plainGet K C name = true) (hh : hasDictIn K C = true)
    (hf : findIn K (.ref C) name = some (some (.ref f))) (ht : isFn K (.ref f) = true) (hsg : specialIn K (.ref f) "__get__" = some (some g)) (hst : takesIn K (.ref f) = some false) (hl : getL name es = some (some v)) (hv : handedIn v = true) (h : Q (v, []) { s with toks := s.toks + 1 }) :
    wpAny (model prog w) A (getMethod (.ref x) name pl) Q E s := by
  have X := X₀.keeps F.keep
  have hga := (plainGet_of hg).1
  have hk := (plainGet_of hg).2
  have hcan := PySem.F.canon_object_ga
  have u : wpAny (model prog w) A (do return (← getAttr (.ref x) name, ([] : List Value))) Q E s := wpAny_bind (get_value X I hga (findObj_shadow hh hf hsg hst (by rw [lookIn_dict]; exact hl)) hv (wpAny_pure h))
  unfold getMethod specialOf
  refine wpAny_bind (wpAny_bind (I.type.here ((looks_findIn X hga).here ?_)))
  dsimp only
  rw [hcan, if_neg (by decide)]
  refine wpAny_bind (wpAny_bind (I.type.here ((looks_findIn X hk).here ?_)))
  refine wpAny_bind (wpAny_bind (I.type.here ((looks_findIn X hf).here (wpAny_bind ((looks_typeIn X (beq_iff_eq.mp ht)).here ?_)))))
  rw [if_neg (by decide +kernel)]
  refine wpAny_bind (wpAny_loadPart I.at_ ?_)
  have hd := I.dict
  cases e : ox.dict with
  | none => rw [e] at hd; exact hd.elim
  | some dx =>
    rw [e] at hd
    refine wpAny_bind (wpAny_bind (wpAny_loadPart hd ?_))
    have hlk : lookIn name (dictOf es n) = some (some v) := by rw [lookIn_dict]; exact hl
    rw [nsLook_of hlk]
    refine wpAny_pure ?_
    exact u
end
/-- the writer's fields while the law works with it -/
noncomputable abbrev wes (P : Params) (t1 t2 t3 t4 t5 t6 t7 t8 t9 t10 t11 t12 t13 t14 t15 t16 t17 t18 tz : Tok) (D l5 l3 l2 dp l0 : Addr) (rs : Bool) : List DictEntry := [went P "_write" t1 (.ref D), went P "_data" t2 (.ref l5), went P "_with_comments" t3 (.bool false), went P "_strip_text" t4 (.bool false), went P "_exclude_attrs" t5 (.none), went P "_exclude_tags" t6 (.none), went P "_rewrite_prefixes" t7 (.bool false), went P "_qname_aware_tags" t8 (.none), went P "_find_qname_aware_attrs" t9 (.none), went P "_declared_ns_stack" t10 (.ref l3), went P "_ns_stack" t11 (.ref l2), went P "_prefix_map" t12 (.ref dp), went P "_preserve_space" t13 (.ref l0), went P "_pending_start" t14 (.none), went P "_root_seen" t15 (.bool rs), went P "_root_done" t16 (.bool false), went P "_ignored_depth" t17 (.int 0 tz), went P "_iter_namespaces" t18 (.ref 401)]
theorem news_drop2 {h₀ h : Heap} {L : Addr} {a b : Addr × Obj} {l : Led} (N : News h₀ L h (a :: b :: l)) : News h₀ L h (a :: l) := fun p hp => N p ((List.mem_cons.mp hp).elim (fun e => e ▸ .head _) fun e => .tail _ (.tail _ e))
/-- a contract of a call's own code -/
noncomputable abbrev ConCode (w : World) (d : Nat) (f : Value) (args : List Value) (news : Led) (R : Value → Led → Prop) : Prop :=
  ∀ (mean : ExcName → Option Value) (mg mb : Str → Option Value) (dp un : Nat) (gd : Option (List Code)) (cn : Str) (cs : Scope) (a : Addr) (ccd : Value) (cl : List (Str × Addr)) (outer : List Env) (A₀ : Around) (base h₀ : Heap) (L : Addr) (m : Str → Option Value) (s : Shared) (Q E : Value → Shared → Prop),
    Below A₀ base outer h₀ → Fr h₀ L s.heap m → (hd1.heap_1_39 w.params).In h₀ → News h₀ L s.heap news → Top topProg LO mean mg mb h₀ → cs.kind = .function → dp + d < recursionLimit → un + 8 * d < cLine →
    (∀ r news' h' tk', Fr h₀ L h' m → News h₀ L h' news' → R r news' → Q r { s with heap := h', toks := tk' }) →
    codeAny (model PySem.Challenge.pw_ta0132_01 w) (ktrTop dp un gd cn cs L a ccd cl outer) (.call f ⟨args, []⟩) (fun r s' => match r with | .ok (.ret v) => Q v s' | .ok _ => False | .error e => E e s') s
theorem ConCode.con {w : World} {d : Nat} {f : Value} {args : List Value} {news : Led} {R : Value → Led → Prop} (h : ConCode w d f args news R) : Con w d (call f args) news R := by
  unfold Con
  intro mean mg mb dp un gd cn cs a ccd cl outer A₀ base h₀ L m s Q E B F X N T hk hd hu hret
  exact wpAny_call (h mean mg mb dp un gd cn cs a ccd cl outer A₀ base h₀ L m s Q E B F X N T hk hd hu hret)
theorem ConCode.meth {w : World} {d : Nat} {f x : Value} {args : List Value} {q : Addr} {news : Led} {R : Value → Led → Prop} (h : ConCode w d f (x :: args) news R) (hq : (q, methodObj f x) ∈ news) : Con w d (call (.ref q) args) news R := by
  unfold Con
  intro mean mg mb dp un gd cn cs a ccd cl outer A₀ base h₀ L m s Q E B F X N T hk hd hu hret
  exact call_meth N hq (h mean mg mb dp un gd cn cs a ccd cl outer A₀ base h₀ L m s Q E B F X N T hk hd hu hret)
theorem c_qcode : ∀ (w : World) (x d D l0 l2 l3 l4 l5 dp nn Dt : Addr) (t1 t2 t3 t4 t5 t6 t7 t8 t9 t10 t11 t12 t13 t14 t15 t16 t17 t18 tz : Tok) (rs : Bool) (nd n3 n4 n5 : Nat) (tb ta : Tok) (nm : Str) (tn : Tok) (news : Led) (hx : (x, instObj 150 d) ∈ news) (hd : (d, dictOf (wes w.params t1 t2 t3 t4 t5 t6 t7 t8 t9 t10 t11 t12 t13 t14 t15 t16 t17 t18 tz D l5 l3 l2 dp l0 rs) nd) ∈ news) (h3 : (l3, listOf #[.ref l4, .ref nn] n3) ∈ news) (h4 : (l4, listOf #[.ref Dt] n4) ∈ news) (h5 : (nn, listOf #[] n5) ∈ news) (hDt : (Dt, ({ cls := .type "tuple", data := .seq #[.str (Str.ofString "http://www.w3.org/XML/1998/namespace") ta, .str (Str.ofString "xml") tb] } : Obj)) ∈ news) (hnl : nm.length ≤ 4) (hns : (Txt.slice nm none (some 1) == Str.ofString "{") = false), ConCode w 10 (.ref 90) [.ref x, .str nm tn] news (fun r news' => ∃ q ku J, r = .ref q ∧ news' = (q, ({ cls := .type "tuple", data := .seq #[.str nm tn, .str nm tn, .str (Str.ofString "") ku] } : Obj)) :: J ++ news ∧ ∀ p ∈ (q, ({ cls := .type "tuple", data := .seq #[.str nm tn, .str nm tn, .str (Str.ofString "") ku] } : Obj)) :: J, ∀ p' ∈ news, @Ne Nat p.1 p'.1) := by
  k_with "getMethod ref" => (k_here; (with_reducible show wpAny _ _ (getMethod _ (Str.ofString "_iter_namespaces") _) _ _ _); k_dflt (refine' method_own ?k1 ?k2 ?k3 ?k4 ?k5 ?k6 ?k7 ?k8 ?k9 ?k10 ?k11 ?_; (case k1 => k_asm); (case k2 => k_asm); (case k3 => k_inst); (case k4 => k_is); (case k5 => k_is); (case k6 => k_is); (case k7 => k_is); (case k8 => k_is); (case k9 => k_is); (case k10 => k_get); (case k11 => k_handed); k_whole))
  have hold0 : HoldK "pyIter ref" := .mk
  have hold1 : HoldK "+Comp" := .mk
  have hold2 : HoldA 401 := .mk
  have skon : SkOn := .mk
  intro w x d D l0 l2 l3 l4 l5 dp nn Dt t1 t2 t3 t4 t5 t6 t7 t8 t9 t10 t11 t12 t13 t14 t15 t16 t17 t18 tz rs nd n3 n4 n5 tb ta nm tn news hx hd h3 h4 h5 hDt hnl hns
  unfold ConCode
  intro mean mg mb dp un gd cn cs a ccd cl outer A₀ base h₀ L m s Q E B F X N T hk hd hu hret
  k_dflt (refine' code_def (binds := [(Str.ofString "self", .ref x), (Str.ofString "qname", .str nm tn), (Str.ofString "uri", .none)]) ?k1 ?k2 ?k3 ?k4 ?k5 ?kA ?kF ?kK ?k6 ?k7 ?k8 ?k9 ?kB ?_ ?c2 ?c3 ?c4 ?c5; (case kA => exact rfl); (case kF => exact rfl); (case kK => first | assumption | exact rfl); (case k1 => k_asm); (case k2 => k_asm); (case k3 => k_asm); (case k4 => k_asm); (case k5 => k_asm); (case k6 => k_is); (case k7 => k_is); (case k8 => k_room); (case k9 => first | exact BindsTo.of_eq rfl | exact binds_K (by k_in) rfl (by k_is) rfl rfl rfl); (case c5 => decide); (case kB => exact locs rfl); (case c2 => exact rfl); (case c3 => exact rfl); (case c4 => exact rfl); k_whole; intro g1 L1 h1 FG1 F1 N1 B1 X1 T1; (try dsimp only); (try k_lift B1); (try k_fold))
  have hsl := good_len hnl
  k_steps
  rename News g1 L1 _ ((_, _) :: (_, _) :: news) => N5
  replace N5 := news_drop2 N5
  refine Hold.to ?_; k_dflt (refine' c_walk _ _ _ _ _ _ _ _ _ ?p1 ?p2 ?p3 _ _ _ _ _ _ _ _ _ _ _ _ _ _ _ _ _ _ _ _ ?k1 ?k2 ?k3 ?k4 ?k5 ?kK ?kd ?ku ?_; (case k1 => k_asm); (case k2 => k_asm); (case k3 => k_asm); (case k4 => k_asm); (case k5 => k_asm); (case kK => first | exact rfl | assumption); (case kd => k_room); (case ku => k_units); (case p1 => k_mem); (case p2 => k_mem); (case p3 => k_mem); intro r9 n9 h9 tk9 F9 N9 H9)
  obtain ⟨bw, Dw, cw, rfl, rfl, hw1, hw2⟩ := H9
  (try dsimp only); (try k_fold)
  rename Obj.SetObjOf (PySem.strKind _ _) _ _ _ => hz9
  refine iterL (items := [.ref Dt]) (fun i m' news' => ∃ dS so S n u1 u2 ku, news' = (Dw, W.listOf #[Value.ref nn, Value.ref l4] 0) :: (bw, W.listOf #[Value.ref Dt] cw) :: (dS, so) :: news ∧ so.SetObjOf (PySem.strKind Challenge.pw_ta0132_01 w) S n ∧ n ≤ i ∧ S (Str.ofString "") = false ∧ AllLt dS news ∧ (@LT.lt Nat _ dS bw) ∧
      (m' = fun y => if y = Str.ofString "prefix" then u1 else if y = Str.ofString "u" then u2 else if y = Str.ofString "prefixes_seen" then some (Value.ref dS) else if y = Str.ofString "tag" then some (Value.str nm tn) else if y = Str.ofString "uri" then some (Value.str (Str.ofString "") ku) else List.lookup y [(Str.ofString "self", Value.ref x), (Str.ofString "qname", Value.str nm tn), (Str.ofString "uri", Value.none)].reverse)) (by rfl) (by constructor) F9 N9 ?hl ?h0 ?turn ?done
  case hl =>
    intro i m' news' h' hq9; obtain ⟨dS, so, S, n, u1, u2, ku, rfl, _⟩ := hq9; intro F' N'
    exact ⟨_, (N' _ (.tail _ (.head _))).1, rfl, _, rfl⟩
  case h0 =>
    refine (exI4 ⟨none, none, _, rfl, hz9, Nat.le_refl _, rfl, And.right (by assumption), hw2.1, kv0 rfl rfl⟩)
  case turn =>
    intro i v' m₁ news₁ h₁ tk₁ Ia oi hv hq9; obtain ⟨dS, so, S, n, u1, u2, ku, rfl, hso, hn, hS, hl1, hl3, rfl⟩ := hq9; intro hne F3 N3
    clear F9 N9
    obtain ⟨rfl, rfl⟩ : i = 0 ∧ v' = .ref Dt := by
      cases i with
      | zero => exact ⟨rfl, by cases hv; rfl⟩
      | succ j => simp at hv
    have q1 : @Ne Nat Ia dS := fun e => hne _ (.tail _ (.tail _ (.head _))) e.symm
    k_steps
    refine (exI4 ⟨rfl, by assumption, by assumption, ?_, dS, _, _, _, _, _, ku, rfl, by assumption, ?_, ?_, hl1, hl3, kv2⟩)
    · intro p hp
      rcases List.mem_cons.mp hp with rfl | hp
      · exact hne _ (.head _)
      rcases List.mem_cons.mp hp with rfl | hp
      · exact hne _ (.tail _ (.head _))
      rcases List.mem_cons.mp hp with rfl | hp
      · exact fun e => q1 e.symm
      · exact hne p (.tail _ (.tail _ (.tail _ hp)))
    · split <;> omega
    · simp only [hS, Bool.false_or]; decide
  case done =>
    intro m' news' h' tk' hq9; obtain ⟨dS, so, S, n, u1, u2, ku, rfl, hso, hn, hS, hl1, hl3, rfl⟩ := hq9; intro F' N'
    have hn1 : n ≤ 1 := hn
    have hn2 : n < scanBound := Nat.lt_of_le_of_lt hn1 (by decide)
    clear F9 N9
    k_steps
    rename AllLt bw _ => hw2
    rename News g1 _ _ _ => N2
    have a1 : ∀ p ∈ news, @LT.lt Nat _ p.1 dS := tb_ltOf hl1
    have a2 : ∀ p ∈ news, @LT.lt Nat _ p.1 bw := fun p hp => Nat.lt_trans (a1 p hp) hl3
    have a3 : ∀ p ∈ news, @LT.lt Nat _ p.1 Dw := fun p hp => Nat.lt_trans (a2 p hp) hw1
    refine hret _ _ _ _ (by assumption) (by assumption) (exI2 ⟨[(Dw, W.listOf #[Value.ref nn, Value.ref l4] 0), (bw, W.listOf #[Value.ref Dt] cw), (dS, so)], rfl, rfl, ?_⟩)
    intro p hp q hq
    rcases List.mem_cons.mp hp with rfl | hp
    · have hz : ∀ {D : Addr}, Dw < D ∧ bw < D ∧ dS < D ∧ AllLt D news → @Ne Nat D q.1 := fun h => Nat.ne_of_gt (Nat.lt_trans (a3 q hq) h.1)
      exact hz (by assumption)
    rcases List.mem_cons.mp hp with rfl | hp
    · exact Nat.ne_of_gt (a3 q hq)
    rcases List.mem_cons.mp hp with rfl | hp
    · exact Nat.ne_of_gt (a2 q hq)
    · cases List.mem_singleton.mp hp; exact Nat.ne_of_gt (a1 q hq)
end
section
noncomputable def kOf : Value → Str
  | .str s _ => s
  | _ => Str.empty
/-- a set whose elements are these texts, in some order -/
noncomputable def SetP (prog : Program) (w : World) (h : Heap) (a : Addr) (ks : List Str) : Prop :=
  ∃ o es ep t, h.get? a = some o ∧ o.ExactSet ∧ o.data = .set es ep t ∧ ElemsOf (PySem.strKind prog w) es.toList ∧ (es.toList.map fun e => kOf e.2).Perm ks ∧ ks.Nodup ∧ es.size < scanBound ∧ t.fits es.size = true ∧ (t.plain = false ∨ ks = []) ∧ t.led = !w.params.followText "set-order"
theorem is_kOf {prog : Program} {w : World} {k : Str} {v : Value} (h : (PySem.strKind prog w).is k v = true) : kOf v = k := by
  obtain ⟨t, rfl⟩ := Value.isStrOf_shape h; rfl
theorem relayAll_keep : ∀ (t : SetTable) (es : Array (Int × Value)) (n : Nat), ((relayAll t es n).2.1.plain = t.plain ∨ (relayAll t es n).2.1.plain = false) ∧ (relayAll t es n).2.1.led = t.led := by
  have skon : SkOn := .mk
  intro t es n
  unfold relayAll
  split
  · rename_i t' order e
    obtain ⟨o, ho, e⟩ := Option.bind_eq_some_iff.mp (show (SetTable.layClean _ _).bind _ = some (t', order) from e)
    cases e
    dsimp only
    split
    · exact ⟨.inl rfl, rfl⟩
    · exact ⟨.inr rfl, rfl⟩
  · exact ⟨.inr rfl, rfl⟩
theorem layNew_keep : ∀ (t : SetTable) (es : Array (Int × Value)) (h : Int) (x : Value), ((layNew t es h x).2.1.plain = t.plain ∨ (layNew t es h x).2.1.plain = false) ∧ (layNew t es h x).2.1.led = t.led := by
  have skon : SkOn := .mk
  intro t es h x
  unfold layNew
  split
  · dsimp only
    unfold SetTable.orStandIn
    split
    · exact ⟨.inl rfl, rfl⟩
    · exact ⟨.inr rfl, rfl⟩
  · exact ⟨.inr rfl, rfl⟩
section
variable {prog : Program} {w : World} {A : Around} {E : Value → Shared → Prop} {s : Shared} {a : Addr} {ks : List Str} {k : Str}
theorem SetP.size : ∀ {prog : Program} {w : World} {a : Addr} {ks : List Str} {h : Heap} (hS : SetP prog w h a ks), ∃ o es ep t, h.get? a = some o ∧ o.ExactSet ∧ o.data = .set es ep t ∧ es.size = ks.length ∧ t.fits es.size = true := by
  have skon : SkOn := .mk
  intro prog w a ks h hS
  obtain ⟨o, es, ep, t, ho, hex, hd, hel, hp, hnd, hb, hf, hpl, hl⟩ := hS
  exact ⟨o, es, ep, t, ho, hex, hd, by simpa using hp.length_eq, hf⟩
theorem setp_store {h : Heap} {o : Obj} {es : Array (Int × Value)} {ep : Nat} {t : SetTable} (ho : h.get? a = some o) (hex : o.ExactSet) (hd : o.data = .set es ep t)
    {es' : Array (Int × Value)} {t' : SetTable} (hel : ElemsOf (PySem.strKind prog w) es'.toList) (hp : (es'.toList.map fun e => kOf e.2).Perm ks) (hnd : ks.Nodup) (hb : es'.size < scanBound) (hf : t'.fits es'.size = true) (hpl : t'.plain = false ∨ ks = []) (hl : t'.led = !w.params.followText "set-order") :
    (h.update a (Obj.putSet es' t')).get? a = some { o with data := .set es' (ep + 1) t' } ∧ SetP prog w (h.update a (Obj.putSet es' t')) a ks := by
  have hg : (h.update a (Obj.putSet es' t')).get? a = some { o with data := .set es' (ep + 1) t' } := by
    have := Heap.get?_update_self (Obj.putSet es' t') ho (by rw [putSet_of es' t' hd]; rfl)
    rw [putSet_of es' t' hd] at this; exact this
  exact ⟨hg, _, es', ep + 1, t', hg, hex, rfl, hel, hp, hnd, hb, hf, hpl, hl⟩
theorem setp_tail {g : Bool → Sem Unit} (hg : ∀ (b : Bool) (s₁ : Shared) (Q' : Unit → Shared → Prop), Q' () s₁ → wpAny (model prog w) A (g b) Q' E s₁) {o : Obj} {es es1 : Array (Int × Value)} {ep : Nat} {t t2 : SetTable} (ho : s.heap.get? a = some o) (hex : o.ExactSet) (hd : o.data = .set es ep t)
    (hel : ElemsOf (PySem.strKind prog w) es1.toList) (hp : (es1.toList.map fun e => kOf e.2).Perm ks) (hnd : ks.Nodup) (hb : es1.size < scanBound) (hf : t2.fits es1.size = true) (hpl : t2.plain = false) (hl : t2.led = !w.params.followText "set-order") {wasDummy : Bool} {R : Option Bool → Shared → Prop}
    (h : ∀ h', Heap.SameBut a s.heap h' → SetP prog w h' a ks → R (some true) { s with heap := h' }) :
    wpAny (model prog w) A (do
        storeSet a es1 t2
        if (!wasDummy && t2.tooFull) = true then do
            g (relayAll t2 es1 (SetTable.grown es1.size)).2.2
            storeSet a (relayAll t2 es1 (SetTable.grown es1.size)).1 (relayAll t2 es1 (SetTable.grown es1.size)).2.1
            pure (some true)
          else pure (some true)) R E s := by
  obtain ⟨ho1, hS1⟩ := setp_store (ks := ks) ho hex hd hel hp hnd hb hf (.inl hpl) hl
  have hsb := Heap.SameBut.update s.heap a (Obj.putSet es1 t2)
  refine wpAny_bind (wpAny_storeSet_of ho hd ?_ (fits_of_scanBound hb))
  by_cases hc : (!wasDummy && t2.tooFull) = true
  · rw [if_pos hc]
    have hp2 := relayAll_perm t2 es1 (SetTable.grown es1.size)
    have hf2 := relayAll_fits t2 es1 (SetTable.grown es1.size)
    have hk2 := relayAll_keep t2 es1 (SetTable.grown es1.size)
    generalize relayAll t2 es1 (SetTable.grown es1.size) = Rl at hp2 hf2 hk2 ⊢
    obtain ⟨es2, t3, gave⟩ := Rl
    dsimp only at hp2 hf2 hk2 ⊢
    have hb2 : es2.size < scanBound := by
      have := hp2.length_eq
      simp at this
      omega
    refine wpAny_bind (hg _ _ _ ?_)
    refine wpAny_bind (wpAny_storeSet_of ho1 rfl ?_ (fits_of_scanBound hb2))
    obtain ⟨_, hS2⟩ := setp_store (prog := prog) (ks := ks) ho1 hex rfl (hel.perm hp2) ((hp2.map _).trans hp) hnd hb2 hf2 (.inl (hk2.1.elim (fun e => e.trans hpl) id)) (hk2.2.trans hl)
    exact wpAny_pure (h _ (hsb.trans (Heap.SameBut.update _ a _)) hS2)
  · rw [if_neg hc]
    exact wpAny_pure (h _ hsb hS1)
theorem setp_add : ∀ {prog : Program} {w : World} {A : Around} {E : Value → Shared → Prop} {s : Shared} {a : Addr} {ks : List Str} {k : Str} {t : Tok} {Q : Bool → Shared → Prop} (hS : SetP prog w s.heap a ks) (hroom : ks.length + 1 < scanBound) (h : ∀ h' b, Heap.SameBut a s.heap h' → SetP prog w h' a (if k ∈ ks then ks else ks ++ [k]) → Q b { s with heap := h' }), wpAny (model prog w) A (setAddHashed a (.str k t) (hashStr w k)) Q E s := by
  have skon : SkOn := .mk
  intro prog w A E s a ks k t Q hS hroom h
  obtain ⟨o, es, ep, tb, ho, hex, hd, hel, hp, hnd, hb, hf, hpl, hl⟩ := id hS
  have hsz : es.size = ks.length := by simpa using hp.length_eq
  have hkey : (PySem.strKind prog w).is k (.str k t) = true := PySem.strKind_is _ _ _ _
  unfold setAddHashed setAddHashedIn
  refine wpAny_holding (wpAny_bind (wpAny_setState_of ho hd hf ?_))
  dsimp only
  rw [byScan_of (knd := PySem.strKind prog w) rfl hb hel]
  simp only [↓reduceIte]
  unfold setAddByScan
  refine wpAny_bind ?_
  refine wpAny_bind (wpAny_rule ?_)
  refine wpAny_bind (wpAny_setScan_of (knd := PySem.strKind prog w) hkey ho hd hf hel ?_)
  cases hr : List.findIdx? (fun e => (PySem.strKind prog w).is k e.2) es.toList with
  | some j =>
    dsimp only
    obtain ⟨hj, hpj, _⟩ := List.findIdx?_eq_some_iff_getElem.mp hr
    have hk : k ∈ ks := hp.mem_iff.mp (List.mem_map.mpr ⟨es.toList[j], List.getElem_mem hj, is_kOf hpj⟩)
    refine wpAny_pure (wpAny_pure ?_)
    have := h s.heap false (Heap.SameBut.refl a s.heap) (by rw [if_pos hk]; exact hS)
    have e : s = { s with heap := s.heap } := by cases s; rfl
    rw [e]; exact this
  | none =>
    dsimp only
    have hk : k ∉ ks := fun hk => by
      obtain ⟨e, he, hke⟩ := List.mem_map.mp (hp.mem_iff.mpr hk)
      obtain ⟨⟨k', hk', _⟩, _⟩ := hel e he
      have : (PySem.strKind prog w).is k e.2 = true := by rw [← hke, is_kOf hk']; exact hk'
      have h2 := List.findIdx?_eq_none_iff.mp hr e he
      rw [this] at h2; exact Bool.noConfusion h2
    have hgw : ∀ (b : Bool) {s₁ : Shared} {Q' : Unit → Shared → Prop}, Q' () s₁ → wpAny (model prog w) A (match b with | true => rule "set.scan.the-table-gave-way" | false => pure ()) Q' E s₁ :=
      fun b s₁ Q' hq => by cases b <;> first | exact wpAny_pure hq | exact wpAny_rule hq
    have hperm := layNew_perm tb es (hashStr w k) (.str k t)
    have hfits := layNew_fits tb es (hashStr w k) (.str k t)
    have hkeep := layNew_keep tb es (hashStr w k) (.str k t)
    generalize hL : layNew tb es (hashStr w k) (.str k t) = Lr at hperm hfits hkeep ⊢
    obtain ⟨es1, t1, wasDummy, gave⟩ := Lr
    dsimp only at hperm hfits hkeep ⊢
    have hel1 : ElemsOf (PySem.strKind prog w) es1.toList := fun e he => by
      have he' := hperm.mem_iff.mp he
      rw [Array.toList_push] at he'
      rcases List.mem_append.mp he' with q | q
      · exact hel e q
      · cases List.mem_singleton.mp q; exact ⟨⟨k, hkey, rfl⟩, rfl⟩
    have hp1 : (es1.toList.map fun e => kOf e.2).Perm (ks ++ [k]) := by
      refine (hperm.map _).trans ?_
      rw [Array.toList_push, List.map_append]
      exact hp.append (List.Perm.refl _)
    have hnd1 : (ks ++ [k]).Nodup := List.nodup_append.mpr ⟨hnd, List.nodup_cons.mpr ⟨by simp, List.nodup_nil⟩, fun x hx y hy e => by cases List.mem_singleton.mp hy; subst e; exact hk hx⟩
    have hb1 : es1.size < scanBound := by
      have := hperm.length_eq
      simp at this
      omega
    have hfin : ∀ h', Heap.SameBut a s.heap h' → SetP prog w h' a (ks ++ [k]) → wpAny (model prog w) A (pure true : Sem Bool) Q E { s with heap := h' } := fun h' hs hq => wpAny_pure (h h' true hs (by rw [if_neg hk]; exact hq))
    refine wpAny_bind (hgw _ ?_)
    cases ht : t1.plain with
    | true =>
      simp only [if_true]
      rw [hashByValue_scannable 8 (x := .str k t) rfl]
      refine wpAny_bind (wpAny_pure ?_)
      simp only [plainKind, Bool.false_eq_true, if_false]
      refine setp_tail (t2 := { t1 with plain := false }) (fun b s₁ Q' hq => hgw b hq) ho hex hd hel1 hp1 hnd1 hb1 hfits rfl (hkeep.2.trans hl) ?_; exact hfin
    | false =>
      simp only [Bool.false_eq_true, if_false]
      refine wpAny_bind (wpAny_pure ?_)
      simp only [if_true]
      refine setp_tail (fun b s₁ Q' hq => hgw b hq) ho hex hd hel1 hp1 hnd1 hb1 hfits ht (hkeep.2.trans hl) ?_; exact hfin
end
end
section
open PySem.Sem (wp)
theorem keys_miss : typeLookup (.type "list") (Str.ofString "keys") = pure none := am_miss_of_fast (by kernel_rfl)
theorem getAttrQ_list : ∀ {prog : Program} {w : World} {A : Around} {E : Value → Shared → Prop} {s : Shared} {a : Addr} {xs : Array Value} {k : Nat} {Q : Option Value → Shared → Prop} (hx : s.heap.get? a = some (listOf xs k)) (hA : A.handled = none) (h : ∀ h' tk, (∀ b o, s.heap.get? b = some o → h'.get? b = some o) → Q none { s with heap := h', toks := tk }), wpAny (model prog w) A (getAttr? (.ref a) (Str.ofString "keys")) Q E s := by
  have skon : SkOn := .mk
  intro prog w A E s a xs k Q hx hA h
  have hmiss := keys_miss
  have hname : (["__module__", "__name__", "__qualname__", "__doc__", "__annotations__"] : List Str).contains (Str.ofString "keys") = false := by decide +kernel
  obtain ⟨hp, g, d, tk, os⟩ := s
  have hT : ∀ tk', (⟨hp, g, d, tk', os⟩ : Shared).TypeIs (.ref a) "list" := fun _ => ⟨_, hx, rfl⟩
  have f1 := sub_AttributeError
  have f3 := F.slot_list_getattribute.lookup
  have f4 := F.slot_list_getattribute.bind (.ref a)
  have f5 := am_list_getattr_none
  unfold getAttr? getAttrBy? getAttrBy
  repeat (any_goals (first | assumption | exact hT _ | ((with_reducible show wpAny _ _ (call (Value.builtin "list.__getattribute__") _ _) _ _ _); refine call_meets F.slot_list_getattribute (hT _) am_entry_list_getattribute (F.args_list_getattribute_2 _ _) (meets_getattribute_miss_list a xs k #[] (Str.ofString "keys") _ hmiss hname) ⟨hx, hA, fun h' tk' e hx' => ?_⟩) | wp_step))
  obtain ⟨t', u', he⟩ := hx'.there
  show wpAny _ _ (getattributeRaised _ _ _ _ _ _ _) _ _ _
  unfold getattributeRaised
  repeat (any_goals (first | assumption | wp_step))
  exact h _ _ hx'.keeps
theorem entry_dul : entryFor table "dict.update.loop" = some Builtin.«dict.update.loop» := entryFor_of_tree (by kernel_rfl)
theorem plain_dul : plainId "dict.update.loop" = true := by decide +kernel
noncomputable def It.kv (i : It) : Str × Value := (i.k, .str i.v i.tv)
noncomputable def kvsOf (I : List It) : List (Str × Value) := merged [] (I.map It.kv)
theorem kvsOf_snoc (I : List It) (i : It) : kvsOf (I ++ [i]) = stored (kvsOf I) i.k (.str i.v i.tv) := by simp [kvsOf, merged, It.kv]
theorem stored_le {kvs : List (Str × Value)} {k : Str} {v : Value} : (stored kvs k v).length ≤ kvs.length + 1 := by
  unfold stored; split <;> simp
theorem kvsOf_le (I : List It) : ∀ n, (kvsOf (I.take n)).length ≤ n
  | 0 => by simp [kvsOf, merged]
  | n + 1 => by
    have ih := kvsOf_le I n
    rcases Nat.lt_or_ge n I.length with h | h
    · rw [take_snoc (List.getElem?_eq_getElem h), kvsOf_snoc]
      exact Nat.le_trans stored_le (by omega)
    · rw [List.take_of_length_le (by omega)] at ih ⊢
      omega
section
variable {prog : Program} {w : World} {A : Around} {R : Result → Shared → Prop} {Ia : Addr} {fp wr : List Addr} {G : Array GenState → Array GenState → Prop} {St : Nat → Shared → Prop} {I : List It}
theorem code_dict_loop : ∀ {prog : Program} {w : World} {A : Around} {R : Result → Shared → Prop} {Ia : Addr} {fp : List Addr} {wr : List Addr} {G : Array GenState → Array GenState → Prop} {St : Nat → Shared → Prop} {I : List It} (W : WalksS prog w A.in1 Ia fp wr G I.length (fun i v => (its I)[i]? = some v) St) (S : Addr) (hSf : S ∉ fp) (hI : ∀ it ∈ I, it.a ∉ S :: wr) (hIn : I.length ≤ 64), ∀ (k i : Nat) (c : Int) (tc : Tok) (s : Shared), I.length - i = k → i ≤ I.length → St i s → (∀ it ∈ I, s.heap.get? it.a = some it.obj.2) →
      s.heap.DictOf (PySem.strKind prog w) S (kvsOf (I.take i)) →
      (∀ s', Moved (S :: wr) G s s' → s'.heap.DictOf (PySem.strKind prog w) S (kvsOf I) → R (.ok (.ret .none)) s') →
      codeAny (model prog w) A (.builtin "dict.update.loop" ⟨[.ref S, .ref Ia, .int c tc, .none], []⟩) R s := by
  have skon : SkOn := .mk
  intro prog w A R Ia fp wr G St I W S hSf hI hIn
  have hSw : S ∉ wr := fun h => hSf (W.sub _ h)
  have hsub : ∀ b ∈ wr, b ∈ S :: wr := fun b hb => List.mem_cons_of_mem _ hb
  intro k
  induction k with
  | zero =>
    intro i c tc s hk hi hst hT hS hR
    have hin : i = I.length := by omega
    subst hin
    refine codeAny_builtin entry_dul ?_
    rw [Around.under_plainId plain_dul _]
    show wpAny _ A.in1 (pyNext (.ref Ia) >>= _) _ _ s
    refine wpAny_bind (W.done s _ _ hst fun s' hm => ?_)
    show wpAny _ A.in1 (ret Value.none) _ _ s'
    rw [List.take_length] at hS
    exact wpAny_pure (hR s' (hm.mono hsub) (by
      obtain ⟨o, es, ep, ho, rest⟩ := hS
      exact ⟨o, es, ep, hm.heap S _ hSw ho, rest⟩))
  | succ k ih =>
    intro i c tc s hk hi hst hT hS hR
    have hlt : i < I.length := by omega
    refine codeAny_builtin entry_dul ?_
    rw [Around.under_plainId plain_dul _]
    show wpAny _ A.in1 (pyNext (.ref Ia) >>= _) _ _ s
    refine wpAny_bind (W.item i s _ _ hlt hst fun v s' hP hst' hm => ?_)
    obtain ⟨it, hit, rfl⟩ : ∃ it, I[i]? = some it ∧ v = .ref it.a := by
      simp only [its, List.getElem?_map, Option.map_eq_some_iff] at hP
      obtain ⟨it, h1, h2⟩ := hP
      exact ⟨it, h1, h2.symm⟩
    have hmem := List.mem_of_getElem? hit
    have hT' : ∀ it ∈ I, s'.heap.get? it.a = some it.obj.2 := fun it' h' => hm.heap _ _ (fun hb => hI it' h' (hsub _ hb)) (hT it' h')
    have hS' : s'.heap.DictOf (PySem.strKind prog w) S (kvsOf (I.take i)) := by
      obtain ⟨o, es, ep, ho, rest⟩ := hS
      exact ⟨o, es, ep, hm.heap S _ hSw ho, rest⟩
    have hx := hT' it hmem
    have hTy : s'.TypeIs (.ref it.a) "tuple" := ⟨_, hx, rfl⟩
    show wpAny _ A.in1 (holding [Value.ref it.a] _ >>= _) _ _ s'
    refine wpAny_bind (wpAny_holding ?_)
    refine wpAny_bind (wpAny_tryCatch ?_)
    unfold Builtin.Dict.pairItems
    refine wpAny_bind (wpAny_typeOf hTy ?_)
    rw [if_pos (by decide)]
    refine wpAny_bind (wpAny_seqItems hx rfl ?_)
    refine wpAny_pure ?_
    show wpAny _ A.in1 (holding _ (dictSet S (.str it.k it.tk) (.str it.v it.tv))) _ _ s'
    refine wpAny_holding ?_
    have hsz : (kvsOf (I.take i)).length ≤ sizeLine := Nat.le_trans (kvsOf_le I i) (Nat.le_trans (by omega : i ≤ 64) (by decide))
    refine wpAny_dictSet_pairs (hsz := hsz) (PySem.strKind_is _ _ _ _) hS' fun h' hS2 hsb => ?_
    have hSi : h'.DictOf (PySem.strKind prog w) S (kvsOf (I.take (i + 1))) := by rw [take_snoc hit, kvsOf_snoc]; exact hS2
    refine wpAny_pure ⟨plainId_quiet plain_dul _, ih (i + 1) _ _ _ (by omega) hlt (W.frame _ s' _ _ hst' (Nat.le_succ _) fun b hb o e => ?_) (fun it' h' => ?_) hSi fun s'' hm'' hS'' => ?_⟩
    · rw [hsb.2 b (fun h : b = S => hSf (by rw [← h]; exact hb))]; exact e
    · show _ = _
      rw [hsb.2 _ (fun h : it'.a = S => hI it' h' (by rw [h]; exact List.mem_cons_self))]; exact hT' it' h'
    · refine hR s'' (Moved.trans W.gtrans ((hm.mono hsub).then_heap (Nat.le_succ _) fun b o hb e => ?_) hm'') hS''
      rw [hsb.2 b (fun h : b = S => hb (by rw [h]; exact List.mem_cons_self))]; exact e
theorem dict_pairs : ∀ {prog : Program} {w : World} {A : Around} {I : List It} {E : Value → Shared → Prop} {s : Shared} {h₀ : Heap} {L l : Addr} {m : Str → Option Value} {news : Led} {n : Nat} {Q : Value → Shared → Prop} (hh : A.handled = none) (F : Fr h₀ L s.heap m) (N : News h₀ L s.heap news) (hl : (l, listOf (its I).toArray n) ∈ news) (hI : ∀ i ∈ I, i.obj ∈ news) (hIn : I.length ≤ 64) (h : ∀ D o h' tk, Fr h₀ L h' m → News h₀ L h' ((D, o) :: news) → (∀ q ∈ news, q.1 < D) → o.IsDictOf (PySem.strKind prog w) (kvsOf I) → Q (.ref D) { s with heap := h', toks := tk }), wpAny (model prog w) A (call (.type "dict") [.ref l]) Q E s := by
  have skon : SkOn := .mk
  intro prog w A I E s h₀ L l m news n Q hh F N hl hI hIn h
  have hlh := (N _ hl).1
  refine callType_codes (Q₁ := fun obj s₁ => obj = .ref s.heap.objs.size ∧ s₁ = { s with heap := s.heap.push { cls := .type "dict", data := .dict #[] } }) PySem.F.kt_called_dict (PySem.F.kt_typeCall_dict_1 _) PySem.F.entry_dict_init (kt_code_dict_new _ ⟨rfl, rfl⟩) ?_
  intro obj s₁ hq9; obtain ⟨rfl, rfl⟩ := hq9
  have hnew : (s.heap.push { cls := .type "dict", data := .dict #[] }).DictOf (PySem.strKind prog w) s.heap.objs.size [] := Heap.DictOf.new s.heap
  have F1 := F.push { cls := .type "dict", data := .dict #[] }
  have N1 := News.push F N { cls := .type "dict", data := .dict #[] } rfl
  have hdl : ∀ p ∈ news, @LT.lt Nat _ p.1 s.heap.objs.size := fun p hp => Heap.lt_size (N p hp).1
  refine ⟨hnew.typeIs, PySem.F.args_dict_init_2 _ _, ?_⟩
  unfold Builtin.«dict.__init__»
  refine wpAny_bind ?_
  unfold Builtin.Dict.selfAndRest
  refine wpAny_bind (wpAny_notOrdered_dict hnew.typeIs ?_)
  show wpAny _ _ (pure (s.heap.objs.size, [Value.ref l])) _ _ _
  refine wpAny_pure ?_
  show wpAny _ _ (Builtin.Dict.updateFrom "dict.__init__" s.heap.objs.size (.ref l) [] .none) _ _ _
  unfold Builtin.Dict.updateFrom
  have hl1 := (N1 _ (.tail _ hl)).1
  have hT : Shared.TypeIs { s with heap := s.heap.push { cls := .type "dict", data := .dict #[] } } (.ref l) "list" := ⟨_, hl1, rfl⟩
  refine wpAny_bind (wpAny_typeOf hT ?_)
  rw [if_pos (by decide)]
  refine wpAny_bind (getAttrQ_list hl1 (by simpa using hh) fun h' tk' hk => ?_)
  simp only [Option.isNone_none, if_true]
  refine wpAny_bind (wpAny_rule ?_)
  have hlI : h'.IsList l (its I).toArray := ⟨_, hk _ _ hl1, rfl, _, rfl⟩
  refine wpAny_bind (wpAny_pyIter_list hlI ?_)
  have hlt : @LT.lt Nat _ s.heap.objs.size h'.objs.size := Heap.lt_size (hk _ _ (Heap.get?_push_size _ rfl))
  have hl2 : @LT.lt Nat _ l s.heap.objs.size := hdl _ hl
  have hneI : l ≠ h'.objs.size := Nat.ne_of_lt (Nat.lt_trans hl2 hlt)
  have hSf : s.heap.objs.size ∉ [h'.objs.size, l] := by
    simp only [List.mem_cons, List.not_mem_nil, or_false, not_or]
    exact ⟨Nat.ne_of_lt hlt, Nat.ne_of_gt hl2⟩
  have hIa : ∀ it ∈ I, it.a ∉ [s.heap.objs.size, h'.objs.size] := fun it hi => by
    have q : @LT.lt Nat _ it.a s.heap.objs.size := hdl _ (hI it hi)
    simp only [List.mem_cons, List.not_mem_nil, or_false, not_or]
    exact ⟨Nat.ne_of_lt q, Nat.ne_of_lt (Nat.lt_trans q hlt)⟩
  have hup : ∀ b o, s.heap.get? b = some o → (h'.push { cls := .type "list_iterator", data := .fields #[.ref l, .int 0 0] }).get? b = some o := fun b o e => Heap.get?_push_of_some _ (hk _ _ (Heap.get?_push_of_some _ e))
  have hh3 : A.in1.in1.handled = none := by simp [hh]
  have W := (Walks.list (prog := prog) (w := w) hh3 h'.objs.size l hneI (its I).toArray).toS
  refine wpAny_pure ⟨plainId_quiet plain_dul _, ?_⟩
  have hsz : (its I).toArray.size = I.length := by simp [its]
  rw [hsz] at W
  simp only [List.getElem?_toArray] at W
  refine code_dict_loop W s.heap.objs.size hSf hIa hIn (I.length - 0) 0 _ _ _ (by omega) (Nat.zero_le _) ⟨⟨_, Heap.get?_push_size _ rfl, rfl, rfl⟩, hlI.push _⟩ (fun it hi => hup _ _ (N _ (hI it hi)).1) ?_ ?_
  · obtain ⟨o, es, ep, ho, rest⟩ := hnew
    exact ⟨o, es, ep, Heap.get?_push_of_some _ (hk _ _ ho), rest⟩
  · intro s' hm hd'
    obtain ⟨h2, g2, d2, tk2, os2⟩ := s'
    have eg : g2 = s.gens := hm.gens
    have ed : d2 = s.drawn := hm.drawn
    have eo : os2 = s.os := hm.os
    subst eg; subst ed; subst eo
    obtain ⟨o, ho, hod⟩ := Heap.dictOf_iff.mp hd'
    have keep : ∀ b o, @LT.lt Nat _ b s.heap.objs.size → s.heap.get? b = some o → h2.get? b = some o := fun b o hb e => by
      refine hm.heap b o ?_ (hup b o e)
      simp only [List.mem_cons, List.not_mem_nil, or_false, not_or]
      exact ⟨Nat.ne_of_lt hb, Nat.ne_of_lt (Nat.lt_trans hb hlt)⟩
    have hLlt : @LT.lt Nat _ L s.heap.objs.size := F.ns.lt
    refine ⟨rfl, h s.heap.objs.size o h2 tk2 ⟨F.ns.at' fun o' e => keep _ o' hLlt e, fun b o' e => keep b o' (Heap.lt_size (F.keep b o' e)) (F.keep b o' e), F.above⟩ (fun p hp => ?_) hdl hod⟩
    rcases List.mem_cons.mp hp with rfl | hp
    · refine ⟨ho, Nat.ne_of_gt hLlt, ?_⟩
      cases hq : h₀.get? s.heap.objs.size with
      | none => rfl
      | some o' => exact absurd (Heap.lt_size (F.keep _ _ hq)) (Nat.lt_irrefl _)
    · exact ⟨keep _ _ (hdl p hp) (N p hp).1, (N p hp).2⟩
end
end
section
theorem fm_one {i n : Nat} {f : Nat → Option (Nat × Nat)} (hi : i < n) (h1 : f i = some (i, 0)) (h2 : ∀ j, j ≠ i → f j = none) : (List.range n).filterMap f = [(i, 0)] := by
  induction n with
  | zero => omega
  | succ n ih =>
    rw [List.range_succ, List.filterMap_append]
    by_cases h : i = n
    · subst h
      have e : (List.range i).filterMap f = [] := List.filterMap_eq_nil_iff.mpr fun j hj => h2 j (by have := List.mem_range.mp hj; omega)
      rw [e]; simp [h1]
    · rw [ih (by omega)]
      simp [h2 n (fun e => h e.symm)]
theorem free_one {mask i p : Nat} (hi : i ≤ mask) : SetTable.layClean.free mask (Array.replicate (mask + 1) none) (SetTable.turns mask) i p = some i := by
  have e : SetTable.turns mask = (mask + 14) + 1 := rfl
  rw [e]
  unfold SetTable.layClean.free
  have hr : SetTable.runEnd mask i + 1 - i = (SetTable.runEnd mask i - i) + 1 := by unfold SetTable.runEnd; split <;> omega
  rw [hr, List.range_succ_eq_map, List.find?_cons]
  have : ((Array.replicate (mask + 1) (none : Option Nat)).getD (i + 0) (some 0)).isNone = true := by
    simp [Array.getD, Nat.lt_succ_of_le hi]
  rw [this]
  rfl
theorem laid_one (mask fi mv : Nat) (led pl : Bool) (h : Int) : ∃ i, i ≤ mask ∧ SetTable.laid mask fi mv led pl #[h] = some ({ mask := mask, place := #[i], dummies := #[], finger := fi, led := led, moves := mv, plain := pl }, #[0]) := by
  refine ⟨SetTable.bits h % (mask + 1), Nat.le_of_lt_succ (Nat.mod_lt _ (Nat.succ_pos _)), ?_⟩
  have hi := Nat.le_of_lt_succ (Nat.mod_lt (SetTable.bits h) (Nat.succ_pos mask))
  generalize hI : SetTable.bits h % (mask + 1) = i at hi
  have hc : SetTable.layClean mask #[h] = some ((Array.replicate (mask + 1) none).setIfInBounds i (some 0)) := by
    unfold SetTable.layClean
    simp only [List.size_toArray, List.length_cons, List.length_nil, List.foldl_toArray', List.foldl_cons, List.foldl_nil, hI]
    simp only [Option.bind_eq_bind, Option.bind_some, free_one hi]
    rfl
  unfold SetTable.laid
  rw [hc]
  have hl : ((List.range (mask + 1)).filterMap fun j => (((Array.replicate (mask + 1) (none : Option Nat)).setIfInBounds i (some 0)).getD j none).map (j, ·)) = [(i, 0)] := by
    refine fm_one (Nat.lt_succ_of_le hi) ?_ ?_
    · simp [Array.getD, Nat.lt_succ_of_le hi]
    · intro j hj
      by_cases hjm : j < mask + 1
      · simp [Array.getD, hjm, Array.getElem_setIfInBounds, Ne.symm hj]
      · simp [Array.getD, hjm]
  show Option.bind (some _) _ = _
  simp only [Option.bind_some, hl]
  rfl
theorem above_small : ∀ n < 131, SetTable.sizeAbove n ≤ 256 := by decide +kernel
section
variable {prog : Program} {w : World} {A : Around} {E : Value → Shared → Prop} {s : Shared} {a : Addr} {ks : List Str} {k : Str}
theorem setp_room : ∀ {prog : Program} {w : World} {A : Around} {E : Value → Shared → Prop} {s : Shared} {a : Addr} {k : Str} {more : Nat} {Q : Unit → Shared → Prop} (hS : SetP prog w s.heap a [k]) (hm : more ≤ 64) (h : ∀ h', Heap.SameBut a s.heap h' → SetP prog w h' a [k] → Q () { s with heap := h' }), wpAny (model prog w) A (setRoomFor a more) Q E s := by
  have skon : SkOn := .mk
  intro prog w A E s a k more Q hS hm h
  obtain ⟨o, es, ep, t, ho, hex, hd, hel, hp, hnd, hb, hf, hpl, hl⟩ := id hS
  have hsz : es.size = 1 := by simpa using hp.length_eq
  obtain ⟨e0, rfl⟩ : ∃ e0, es = #[e0] := Array.size_eq_one_iff.mp hsz
  unfold setRoomFor
  refine wpAny_bind (wpAny_setState_of ho hd hf ?_)
  dsimp only
  cases hr : t.roomFor more with
  | none => exact wpAny_pure (by have := h s.heap (Heap.SameBut.refl a s.heap) hS; cases s; exact this)
  | some wanted =>
    have hw : wanted < 131 := by
      unfold SetTable.roomFor at hr
      split at hr
      · cases hr
        have : t.place.size = 1 := by
          simp only [SetTable.fits, Bool.and_eq_true, beq_iff_eq] at hf
          exact hf.1
        omega
      · cases hr
    dsimp only
    unfold setRelay
    refine wpAny_bind (wpAny_setState_of ho hd hf ?_)
    dsimp only
    rw [if_neg (by have := above_small wanted hw; rw [sizeLine_eq]; omega)]
    obtain ⟨i, hi, hlay⟩ := laid_one (SetTable.sizeAbove wanted - 1) t.finger (t.movedTo (SetTable.sizeAbove wanted - 1)) t.led t.plain e0.1
    have hrl : t.relaid (Array.map (fun x => x.1) #[e0]) wanted = some ({ mask := SetTable.sizeAbove wanted - 1, place := #[i], dummies := #[], finger := t.finger, led := t.led, moves := t.movedTo (SetTable.sizeAbove wanted - 1), plain := t.plain }, #[0]) := by
      have e : Array.map (fun x : Int × Value => x.1) #[e0] = #[e0.1] := by simp
      rw [e]; exact hlay
    rw [hrl]
    refine wpAny_bind (wpAny_of_eq (a := (#[e0], { mask := SetTable.sizeAbove wanted - 1, place := #[i], dummies := #[], finger := t.finger, led := t.led, moves := t.movedTo (SetTable.sizeAbove wanted - 1), plain := t.plain })) rfl ?_)
    dsimp only
    refine wpAny_storeSet_of ho hd ?_ (fits_of_scanBound hb)
    have hm1 : 1 ≤ SetTable.sizeAbove wanted - 1 := by
      have : ∀ n < 131, 2 ≤ SetTable.sizeAbove n := by decide +kernel
      have := this wanted hw
      omega
    exact h _ (Heap.SameBut.update ..) (setp_store (prog := prog) (t' := { mask := SetTable.sizeAbove wanted - 1, place := #[i], dummies := #[], finger := t.finger, led := t.led, moves := t.movedTo (SetTable.sizeAbove wanted - 1), plain := t.plain }) ho hex hd hel hp hnd hb (by simp [SetTable.fits, SetTable.fill]; exact hm1) hpl hl).2
end
end
section
theorem sub_dict_set : isSubtype (.type "dict") (.type "set") = pure false := by rw [isSubtype_type]; kernel_rfl
theorem sub_dict_frozenset : isSubtype (.type "dict") (.type "frozenset") = pure false := by rw [isSubtype_type]; kernel_rfl
noncomputable def addK (ks : List Str) (k : Str) : List Str := if k ∈ ks then ks else ks ++ [k]
theorem addK_le (ks : List Str) (k : Str) : (addK ks k).length ≤ ks.length + 1 := by unfold addK; split <;> simp
noncomputable def addAll (ks : List Str) (l : List Str) : List Str := l.foldl addK ks
theorem addAll_le : ∀ (l : List Str) (ks : List Str), (addAll ks l).length ≤ ks.length + l.length
  | [], ks => by simp [addAll]
  | k :: l, ks => by
    have := addAll_le l (addK ks k)
    have := addK_le ks k
    show (addAll (addK ks k) l).length ≤ _
    simp only [List.length_cons]
    omega
theorem addAll_snoc (l : List Str) (ks : List Str) (k : Str) : addAll ks (l ++ [k]) = addK (addAll ks l) k := by simp [addAll]
section
variable {prog : Program} {w : World} {A : Around} {E : Value → Shared → Prop} {s : Shared} {k0 : Str} {kvs : List (Str × Value)} {ep : Nat}
theorem SetP.at' {h h' : Heap} {a : Addr} {ks : List Str} (x : SetP prog w h a ks) (e : ∀ o, h.get? a = some o → h'.get? a = some o) : SetP prog w h' a ks := Exists.imp (fun o => Exists.imp fun es => Exists.imp fun ep => Exists.imp fun t h => ⟨e o h.1, h.2⟩) x
theorem code_set_loop {R : Result → Shared → Prop} {I : Addr} {fp wr : List Addr} {G : Array GenState → Array GenState → Prop} {St : Nat → Shared → Prop} (W : WalksS prog w A.in1 I fp wr G kvs.length (fun i v => ∃ k x, kvs[i]? = some (k, x) ∧ (PySem.strKind prog w).is k v = true) St) (S : Addr) (hSf : S ∉ fp) (hn : kvs.length ≤ 64) :
    ∀ (k i : Nat) (s : Shared), kvs.length - i = k → i ≤ kvs.length → St i s → SetP prog w s.heap S (addAll [k0] ((kvs.take i).map (·.1))) →
      (∀ s', Moved (S :: wr) G s s' → SetP prog w s'.heap S (addAll [k0] (kvs.map (·.1))) → R (.ok (.ret .none)) s') →
      codeAny (model prog w) A (.builtin "set.update.loop" ⟨[.ref S, .ref I], []⟩) R s := by
  have hSw : S ∉ wr := fun h => hSf (W.sub _ h)
  have hsub : ∀ b ∈ wr, b ∈ S :: wr := fun b hb => List.mem_cons_of_mem _ hb
  intro k
  induction k with
  | zero =>
    intro i s hk hi hst hS hR
    have hin : i = kvs.length := by omega
    subst hin
    refine codeAny_builtin PyProof.Rows.F.entry_set_update_loop ?_
    rw [Around.under_plainId PyProof.Rows.F.plain_set_update_loop _]
    show wpAny _ A.in1 (pyNext (.ref I) >>= _) _ _ s
    refine wpAny_bind (W.done s _ _ hst fun s' hm => ?_)
    show wpAny _ A.in1 (ret Value.none) _ _ s'
    rw [List.take_length] at hS
    exact wpAny_pure (hR s' (hm.mono hsub) (hS.at' fun o e => hm.heap S _ hSw e))
  | succ k ih =>
    intro i s hk hi hst hS hR
    have hlt : i < kvs.length := by omega
    refine codeAny_builtin PyProof.Rows.F.entry_set_update_loop ?_
    rw [Around.under_plainId PyProof.Rows.F.plain_set_update_loop _]
    show wpAny _ A.in1 (pyNext (.ref I) >>= _) _ _ s
    refine wpAny_bind (W.item i s _ _ hlt hst fun v s' hP hst' hm => ?_)
    obtain ⟨kk, x, hkx, hv⟩ := hP
    obtain ⟨t, rfl⟩ := Value.isStrOf_shape hv
    have hS' := hS.at' fun o e => hm.heap S _ hSw e
    show wpAny _ A.in1 (holding [Value.str kk t] (setAdd S (.str kk t)) >>= _) _ _ s'
    refine wpAny_bind (wpAny_holding ?_)
    unfold setAdd
    refine wpAny_holding ?_
    refine wpAny_bind ((PySem.strKind prog w).pyHash (k := kk) hv ?_)
    have hroom : (addAll [k0] ((kvs.take i).map (·.1))).length + 1 < scanBound := by
      have q1 := addAll_le ((kvs.take i).map (·.1)) [k0]
      have q2 : ((kvs.take i).map (·.1)).length ≤ kvs.length := by rw [List.length_map, List.length_take]; omega
      simp only [List.length_cons, List.length_nil] at q1
      unfold scanBound; omega
    refine setp_add (s := { s' with toks := s'.toks + 1 }) hS' hroom fun h' b hsb hS2 => ?_
    have hSi : SetP prog w h' S (addAll [k0] ((kvs.take (i + 1)).map (·.1))) := by rw [take_snoc hkx, List.map_append, List.map_singleton, addAll_snoc]; exact hS2
    refine wpAny_pure ⟨plainId_quiet PyProof.Rows.F.plain_set_update_loop _, ih (i + 1) _ (by omega) hlt (W.frame _ s' _ _ hst' (Nat.le_succ _) fun b hb o e => ?_) hSi fun s'' hm'' hS'' => ?_⟩
    · rw [hsb.2 b (fun h : b = S => hSf (by rw [← h]; exact hb))]; exact e
    · refine hR s'' (Moved.trans W.gtrans ((hm.mono hsub).then_heap (Nat.le_succ _) fun b o hb e => ?_) hm'') hS''
      rw [hsb.2 b (fun h : b = S => hb (by rw [h]; exact List.mem_cons_self))]; exact e
theorem star_dict : ∀ {prog : Program} {w : World} {A : Around} {E : Value → Shared → Prop} {s : Shared} {k0 : Str} {kvs : List (Str × Value)} {ep : Nat} {d S : Addr} {Q : Unit → Shared → Prop} (hh : A.handled = none) (hS : SetP prog w s.heap S [k0]) (hm : s.heap.DictAt (PySem.strKind prog w) d kvs ep) (hdS : d ≠ S) (hdm : (d == sysModules) = false) (hn : kvs.length ≤ 64) (h : ∀ h' tk, (∀ b o, b ≠ S → s.heap.get? b = some o → h'.get? b = some o) → SetP prog w h' S (addAll [k0] (kvs.map (·.1))) → Q () { s with heap := h', toks := tk }), wpAny (model prog w) A (setDisplayStar S (.ref d)) Q E s := by
  have skon : SkOn := .mk
  intro prog w A E s k0 kvs ep d S Q hh hS hm hdS hdm hn h
  obtain ⟨o, es, hod, hcd, hdd, hk, hp, hnd⟩ := id hm
  have hT : s.TypeIs (.ref d) "dict" := hm.dictOf.typeIs
  have hlen : es.size = kvs.length := by rw [← hp.length]; simp
  unfold setDisplayStar
  dsimp only
  refine wpAny_bind (wpAny_isInstance hT sub_dict_set ?_)
  simp only [Bool.false_eq_true, if_false]
  refine wpAny_bind (wpAny_isInstance hT sub_dict_frozenset ?_)
  refine wpAny_bind (wpAny_askSetting ?_)
  cases hb : ({ program := (model prog w).prog, params := (model prog w).w.params } : Setting).params.followText "set-display-star-reads-storage" with
  | true =>
    simp only [if_true]
    refine wpAny_bind (wpAny_pyIter_dict hdm hm ?_)
    have hdlt : @LT.lt Nat _ d s.heap.objs.size := Heap.lt_size hod
    have hSlt : @LT.lt Nat _ S s.heap.objs.size := by obtain ⟨_, _, _, _, e, _⟩ := hS; exact Heap.lt_size e
    refine wpAny_bind (wpAny_runValue ?_)
    have hh1 : A.in1.handled = none := by simp [hh]
    have W := (Walks.dictKeys (prog := prog) (w := w) (knd := PySem.strKind prog w) hh1 s.heap.objs.size d (Nat.ne_of_lt hdlt) kvs ep).toS
    refine code_set_loop W S ?_ hn (kvs.length - 0) 0 _ (by omega) (Nat.zero_le _) ⟨⟨_, Heap.get?_push_size _ rfl, rfl, rfl⟩, hm.push _⟩ (hS.at' fun o e => Heap.get?_push_of_some _ e) fun s' hmv hS' => ?_
    · simp only [List.mem_cons, List.not_mem_nil, or_false, not_or]
      exact ⟨Nat.ne_of_lt hSlt, fun e => hdS e.symm⟩
    · obtain ⟨h2, g2, d2, tk2, os2⟩ := s'
      have eg : g2 = s.gens := hmv.gens
      have ed : d2 = s.drawn := hmv.drawn
      have eo : os2 = s.os := hmv.os
      subst eg; subst ed; subst eo
      show wpAny _ _ _ _ _ _
      refine wpAny_pure (h h2 tk2 (fun b o hb e => ?_) hS')
      refine hmv.heap b o ?_ (Heap.get?_push_of_some _ e)
      simp only [List.mem_cons, List.not_mem_nil, or_false, not_or]
      exact ⟨hb, Nat.ne_of_lt (Heap.lt_size e)⟩
  | false =>
    simp only [Bool.false_eq_true, if_false]
    refine wpAny_bind (wpAny_typeOf hT ?_)
    rw [if_pos (by decide)]
    refine wpAny_bind (wpAny_rule ?_)
    rw [hdm]
    simp only [Bool.false_eq_true, if_false]
    refine wpAny_bind (wpAny_dictEpoch hod hdd ?_)
    refine wpAny_bind (wpAny_dictEntries hod hdd ?_)
    refine wpAny_bind (setp_room hS (by rw [hlen]; exact hn) fun h1 hsb1 hS1 => ?_)
    have hod1 : h1.get? d = some o := (hsb1.2 d hdS).trans hod
    refine wpAny_bind ?_
    rw [Std.Legacy.Range.forIn_eq_forIn_range']
    simp only [Std.Legacy.Range.size, Nat.sub_zero, Nat.add_sub_cancel, Nat.div_one]
    refine wpAny_forIn_list _
      (fun rest _ s' => ∃ h' i, s' = { s with heap := h' } ∧ rest = List.range' i (es.size - i) ∧ i ≤ es.size ∧ SetP prog w h' S (addAll [k0] ((kvs.take i).map (·.1))) ∧ h'.get? d = some o ∧ Heap.SameBut S s.heap h')
      _ ?_ ?_ _ _ ⟨h1, 0, rfl, by simp, Nat.zero_le _, hS1, hod1, hsb1⟩
    · intro x rest b s' hq9; obtain ⟨h', i, rfl, hr, hi, hS', hod', hs'⟩ := hq9
      have hlt : i < es.size := by
        rcases Nat.lt_or_ge i es.size with h | h
        · exact h
        · rw [Nat.sub_eq_zero_of_le h] at hr; simp at hr
      obtain ⟨rfl, hrest⟩ : x = i ∧ rest = List.range' (i + 1) (es.size - (i + 1)) := by
        have e : es.size - i = (es.size - (i + 1)) + 1 := by omega
        rw [e, List.range'_succ] at hr
        injection hr with h1 h2
        exact ⟨h1, h2⟩
      refine wpAny_bind (wpAny_dictEntries hod' hdd ?_)
      rw [Array.getElem?_eq_getElem hlt]
      obtain ⟨kv, hkv⟩ : ∃ kv, kvs[x]? = some kv := ⟨kvs[x]'(by rw [← hlen]; exact hlt), List.getElem?_eq_getElem _⟩
      obtain ⟨k, v⟩ := kv
      obtain ⟨hkey, hval⟩ := hp.get? (e := es[x]) (by simp [hlt]) hkv
      obtain ⟨k', hkey', hhash⟩ := hk es[x] (Array.getElem_mem hlt)
      obtain rfl : k' = k := (PySem.strKind prog w).inj _ _ _ hkey' hkey
      obtain ⟨t, hkt⟩ := Value.isStrOf_shape hkey
      show wpAny _ _ (holding [es[x].key] (setAddHashed S es[x].key es[x].hash >>= fun _ => pure ()) >>= _) _ _ _
      rw [hhash, hkt]
      have hroom : (addAll [k0] ((kvs.take x).map (·.1))).length + 1 < scanBound := by
        have q1 := addAll_le ((kvs.take x).map (·.1)) [k0]
        have q2 : ((kvs.take x).map (·.1)).length ≤ kvs.length := by rw [List.length_map, List.length_take]; omega
        simp only [List.length_cons, List.length_nil] at q1
        unfold scanBound; omega
      refine wpAny_bind (wpAny_holding (wpAny_bind (setp_add hS' hroom fun h'' b hsb hS2 => wpAny_pure ?_)))
      have hod'' : h''.get? d = some o := (hsb.2 d hdS).trans hod'
      refine wpAny_bind (wpAny_dictEpoch hod'' hdd ?_)
      rw [if_neg (by simp)]
      exact wpAny_pure ⟨h'', x + 1, rfl, hrest, hlt, by rw [take_snoc hkv, List.map_append, List.map_singleton, addAll_snoc]; exact hS2, hod'', hs'.trans hsb⟩
    · intro b s' hq9; obtain ⟨h', i, rfl, hr, hi, hS', hod', hs'⟩ := hq9
      have hin : i = es.size := by
        rcases Nat.lt_or_ge i es.size with h | h
        · have e : es.size - i = (es.size - (i + 1)) + 1 := by omega
          rw [e, List.range'_succ] at hr
          cases hr
        · omega
      subst hin
      rw [hlen, List.take_length] at hS'
      exact wpAny_pure (h h' s.toks (fun b o hb e => by rw [hs'.2 b hb]; exact e) hS')
end
end
section
theorem slot_si_next : Slot "set_iterator" "__next__" "set_iterator.__next__" :=
  .of (owner := "set_iterator") (n := "__next__") (by rw [typeLookup_type, builtinLookup_eq_fast]; kernel_rfl) (by decide +kernel) (by decide +kernel) (by decide +kernel)
    (by first | exact .inl (by decide +kernel) | exact .inr (by decide +kernel)) (by rw [isSubtype_type]; kernel_rfl)
theorem entry_si_next : entryFor table "set_iterator.__next__" = some Builtin.«set_iterator.__next__» := entryFor_of_tree (by kernel_rfl)
theorem args_si_next (a : Value) : argsOk "set_iterator.__next__" ⟨[a], []⟩ := by unfold argsOk; kernel_rfl
theorem lk_si_iter : ∃ id, typeLookup (.type "set_iterator") "__iter__" = pure (some (.builtin id)) := ⟨"set_iterator.__iter__", by rw [typeLookup_type, builtinLookup_eq_fast]; kernel_rfl⟩
noncomputable def siObj (first : Value) (i : Nat) (S : Addr) (n ep : Nat) : Obj := { cls := .type "set_iterator", data := .fields #[first, .int i 0, .ref S, .int n 0, .int ep 0] }
section
variable {prog : Program} {w : World} {A : Around} {E : Value → Shared → Prop} {s : Shared} {I S : Addr} {oS : Obj} {es : Array (Int × Value)} {ep : Nat} {t : SetTable} {i : Nat}
theorem si_next_some : ∀ {prog : Program} {w : World} {A : Around} {E : Value → Shared → Prop} {s : Shared} {I : Addr} {S : Addr} {oS : Obj} {es : Array (Int × Value)} {ep : Nat} {t : SetTable} {i : Nat} {sl nx : Nat} {x : Value} {Q : Option Value → Shared → Prop} (hI : s.heap.get? I = some (siObj (.int sl 0) i S es.size ep)) (hS : s.heap.get? S = some oS) (hd : oS.data = .set es ep t) (hf : t.fits es.size = true) (hnx : ∀ (A' : Around) (E' : Value → Shared → Prop) (Q' : Option (Value × Nat) → Shared → Prop), Q' (some (x, nx)) s → wpAny (model prog w) A' (setNext S sl i ep) Q' E' s) (hQ : ∀ h', h'.get? I = some (siObj (.int nx 0) (i + 1) S es.size ep) → Heap.SameBut I s.heap h' → Q (some x) { s with heap := h' }), wpAny (model prog w) A (pyNext (.ref I)) Q E s := by
  have skon : SkOn := .mk
  intro prog w A E s I S oS es ep t i sl nx x Q hI hS hd hf hnx hQ
  have hT : s.TypeIs (.ref I) "set_iterator" := ⟨_, hI, rfl⟩
  unfold pyNext
  refine wpAny_bind (wpAny_attempt (wpAny_callSpecial?_slot (name := Str.ofString "__next__") hT slot_si_next (wpAny_call_entry slot_si_next hT entry_si_next ?_ (args_si_next _))))
  unfold Builtin.«set_iterator.__next__»
  refine wpAny_bind (wpAny_pure ?_)
  refine wpAny_bind (wpAny_fieldsOf hI rfl ?_)
  dsimp only
  refine wpAny_bind (wpAny_setEntries_of hS hd hf ?_)
  rw [if_neg (by simp)]
  refine wpAny_bind (hnx _ _ _ ?_)
  dsimp only
  refine wpAny_bind (wpAny_setField hI rfl (by simp) ?_)
  have h1 := Heap.get?_update_self (Obj.mapFields (·.setIfInBounds 0 (rawInt (nx : Int)))) hI rfl
  refine wpAny_bind (wpAny_setField h1 rfl (by simp) ?_)
  have h2 := Heap.get?_update_self (Obj.mapFields (·.setIfInBounds 1 (rawInt ((i : Int) + 1)))) h1 rfl
  exact wpAny_pure ⟨_, rfl, wpAny_pure (hQ _ h2 ((Heap.SameBut.update ..).trans (Heap.SameBut.update ..)))⟩
theorem si_stop {α : Type} {Q : α → Shared → Prop} {C : Value → Shared → Prop} {first : Value} {n : Nat} (hh : A.handled = none) (hI : s.heap.get? I = some (siObj first i S n ep))
    (hQ : ∀ h' e, Heap.ExtBut I s.heap h' → Shared.TypeIs { s with heap := h' } (.ref e) "StopIteration" → C (.ref e) { s with heap := h' }) :
    wpAny (model prog w) A (setField (.ref I) 2 .none >>= fun _ => newExc (.type "StopIteration") [] >>= fun e => (raiseNew e : Sem α)) Q C s := by
  refine wpAny_bind (wpAny_setField hI rfl (by simp) ?_)
  refine wpAny_bind ?_
  simp only [newExc, newTuple]
  refine wpAny_bind (wpAny_newObj_type ?_ (by size_fits))
  refine wpAny_bind (m := firstArgMember _ _) (wpAny_of_eq (a := Value.none) (by first | rfl | (simp only [firstArgMember]; rfl)) ?_)
  refine wpAny_newObj_type ?_ (by size_fits)
  simp only [raiseNew]
  refine wpAny_bind (wpAny_handled ?_)
  rw [hh]
  refine wpAny_bind (wpAny_pure (wpAny_throw ?_))
  exact hQ _ _ (((Heap.SameBut.update ..).extBut.push _).push _) ⟨_, Heap.get?_push_size _ rfl, rfl⟩
theorem si_next_none {sl : Nat} {Q : Option Value → Shared → Prop} (hh : A.handled = none) (hI : s.heap.get? I = some (siObj (.int sl 0) i S es.size ep)) (hS : s.heap.get? S = some oS) (hd : oS.data = .set es ep t) (hf : t.fits es.size = true)
    (hnx : ∀ (A' : Around) (E' : Value → Shared → Prop) (Q' : Option (Value × Nat) → Shared → Prop), Q' none s → wpAny (model prog w) A' (setNext S sl i ep) Q' E' s)
    (hQ : ∀ h', Heap.ExtBut I s.heap h' → Q none { s with heap := h' }) : wpAny (model prog w) A (pyNext (.ref I)) Q E s := by
  have hT : s.TypeIs (.ref I) "set_iterator" := ⟨_, hI, rfl⟩
  unfold pyNext
  refine wpAny_bind (wpAny_attempt (wpAny_callSpecial?_slot (name := Str.ofString "__next__") hT slot_si_next (wpAny_call_entry slot_si_next hT entry_si_next ?_ (args_si_next _))))
  unfold Builtin.«set_iterator.__next__»
  refine wpAny_bind (wpAny_pure ?_)
  refine wpAny_bind (wpAny_fieldsOf hI rfl ?_)
  dsimp only
  refine wpAny_bind (wpAny_setEntries_of hS hd hf ?_)
  rw [if_neg (by simp)]
  refine wpAny_bind (hnx _ _ _ ?_)
  dsimp only
  refine si_stop (A := A.in1) (by simpa using hh) hI fun h' e hx hTe => ?_
  refine wpAny_bind (wpAny_isInstance (T := "StopIteration") (b := true) hTe isSubtype_stop ?_)
  exact wpAny_pure (hQ _ hx)
/-- the other road: places drawn ahead -/
theorem si_drawn_some {T : Addr} {oT : Obj} {pl : List Nat} {nT j : Nat} {e : Int × Value} {Q : Option Value → Shared → Prop} (hI : s.heap.get? I = some (siObj (.ref T) i S es.size ep)) (hT' : s.heap.get? T = some oT) (hdT : oT.data = .seq ((pl.map fun (k : Nat) => rawInt k).toArray) nT)
    (hS : s.heap.get? S = some oS) (hd : oS.data = .set es ep t) (hf : t.fits es.size = true) (hj : pl[i]? = some j) (he : es[j]? = some e)
    (hQ : ∀ h', h'.get? I = some (siObj (.ref T) (i + 1) S es.size ep) → Heap.SameBut I s.heap h' → Q (some e.2) { s with heap := h' }) : wpAny (model prog w) A (pyNext (.ref I)) Q E s := by
  have hT : s.TypeIs (.ref I) "set_iterator" := ⟨_, hI, rfl⟩
  unfold pyNext
  refine wpAny_bind (wpAny_attempt (wpAny_callSpecial?_slot (name := Str.ofString "__next__") hT slot_si_next (wpAny_call_entry slot_si_next hT entry_si_next ?_ (args_si_next _))))
  unfold Builtin.«set_iterator.__next__»
  refine wpAny_bind (wpAny_pure ?_)
  refine wpAny_bind (wpAny_fieldsOf hI rfl ?_)
  dsimp only
  refine wpAny_bind (wpAny_setEntries_of hS hd hf ?_)
  rw [if_neg (by simp)]
  refine wpAny_bind (wpAny_seqItems hT' hdT ?_)
  have hp : ((pl.map fun (k : Nat) => rawInt k).toArray)[(i : Int).toNat]? = some (.int j 0) := by
    simp only [List.getElem?_toArray, Int.toNat_natCast, List.getElem?_map, hj]
    rfl
  simp only [hp]
  have hnd : ∀ (A' : Around) (E' : Value → Shared → Prop) (Q' : Value → Shared → Prop), Q' e.2 s → wpAny (model prog w) A' (setNextDrawn S j ep) Q' E' s := fun A' E' Q' hq => by
    unfold setNextDrawn
    refine wpAny_bind (wpAny_setState_of hS hd hf ?_)
    dsimp only
    rw [if_neg (by simp), he]
    exact wpAny_pure hq
  simp only [Int.toNat_natCast]
  refine wpAny_bind (hnd _ _ _ ?_)
  refine wpAny_bind (wpAny_setField hI rfl (by simp) ?_)
  have h1 := Heap.get?_update_self (Obj.mapFields (·.setIfInBounds 1 (rawInt ((i : Int) + 1)))) hI rfl
  exact wpAny_pure ⟨_, rfl, wpAny_pure (hQ _ h1 (Heap.SameBut.update ..))⟩
theorem si_drawn_none {T : Addr} {oT : Obj} {pl : List Nat} {nT : Nat} {Q : Option Value → Shared → Prop} (hh : A.handled = none) (hI : s.heap.get? I = some (siObj (.ref T) i S es.size ep)) (hT' : s.heap.get? T = some oT) (hdT : oT.data = .seq ((pl.map fun (k : Nat) => rawInt k).toArray) nT)
    (hS : s.heap.get? S = some oS) (hd : oS.data = .set es ep t) (hf : t.fits es.size = true) (hj : pl[i]? = none)
    (hQ : ∀ h', Heap.ExtBut I s.heap h' → Q none { s with heap := h' }) : wpAny (model prog w) A (pyNext (.ref I)) Q E s := by
  have hT : s.TypeIs (.ref I) "set_iterator" := ⟨_, hI, rfl⟩
  unfold pyNext
  refine wpAny_bind (wpAny_attempt (wpAny_callSpecial?_slot (name := Str.ofString "__next__") hT slot_si_next (wpAny_call_entry slot_si_next hT entry_si_next ?_ (args_si_next _))))
  unfold Builtin.«set_iterator.__next__»
  refine wpAny_bind (wpAny_pure ?_)
  refine wpAny_bind (wpAny_fieldsOf hI rfl ?_)
  dsimp only
  refine wpAny_bind (wpAny_setEntries_of hS hd hf ?_)
  rw [if_neg (by simp)]
  refine wpAny_bind (wpAny_seqItems hT' hdT ?_)
  have hp : ((pl.map fun (k : Nat) => rawInt k).toArray)[(i : Int).toNat]? = none := by
    simp only [List.getElem?_toArray, Int.toNat_natCast, List.getElem?_map, hj]
    rfl
  simp only [hp]
  refine wpAny_bind (wpAny_setField hI rfl (by simp) ?_)
  have h1 : (s.heap.update I (Obj.mapFields (·.setIfInBounds 0 (rawInt 0)))).get? I = some (siObj (rawInt 0) i S es.size ep) := Heap.get?_update_self (Obj.mapFields (·.setIfInBounds 0 (rawInt 0))) hI rfl
  refine si_stop (A := A.in1) (by simpa using hh) h1 fun h' e hx hTe => ?_
  refine wpAny_bind (wpAny_isInstance (T := "StopIteration") (b := true) hTe isSubtype_stop ?_)
  exact wpAny_pure (hQ _ fun b o hb e => hx b o hb ((Heap.SameBut.update ..).extBut b o hb e))
end
end
section
theorem entry_set_iter : entryFor table "set.__iter__" = some Builtin.«frozenset.__iter__» :=
  entryFor_alias (id' := "frozenset.__iter__") (by kernel_rfl) rfl (by decide +kernel) (by kernel_rfl)
theorem slot_si_iter : Slot "set_iterator" "__iter__" "set_iterator.__iter__" :=
  .of (owner := "set_iterator") (n := "__iter__") (by rw [typeLookup_type, builtinLookup_eq_fast]; kernel_rfl) (by decide +kernel) (by decide +kernel) (by decide +kernel)
    (by first | exact .inl (by decide +kernel) | exact .inr (by decide +kernel)) (by rw [isSubtype_type]; kernel_rfl)
theorem entry_si_iter : entryFor table "set_iterator.__iter__" = some Builtin.«dict_keyiterator.__iter__» :=
  entryFor_alias (id' := "dict_keyiterator.__iter__") (by kernel_rfl) rfl (by decide +kernel) (by kernel_rfl)
theorem args_si_iter (a : Value) : argsOk "set_iterator.__iter__" ⟨[a], []⟩ := by unfold argsOk; kernel_rfl
theorem erase_perm {α : Type} : ∀ (l : List α) (i : Nat) (h : i < l.length), ([l[i]] ++ l.eraseIdx i).Perm l
  | x :: l, 0, _ => by simp
  | x :: l, i + 1, h => by
    have h' : i < l.length := by simpa using h
    simp only [List.getElem_cons_succ, List.eraseIdx_cons_succ, List.singleton_append]
    exact (List.Perm.swap _ _ _).trans ((erase_perm l i h').cons x)
theorem pick_perm {α : Type} (next : Nat → Nat) : ∀ (n k : Nat) (left : List α) (out : Array α), left.length = n → (pickOrder.go next n k left out).toList.Perm (out.toList ++ left)
  | 0, k, left, out, h => by
    have : left = [] := List.length_eq_zero_iff.mp h
    subst this
    simp [pickOrder.go]
  | n + 1, k, left, out, h => by
    unfold pickOrder.go
    have hlt : next k % left.length < left.length := Nat.mod_lt _ (by omega)
    rw [List.getElem?_eq_getElem hlt]
    dsimp only
    refine (pick_perm next n (k + 1) _ _ (by rw [List.length_eraseIdx_of_lt hlt]; omega)).trans ?_
    rw [Array.toList_push, List.append_assoc]
    refine List.Perm.append_left _ ?_
    exact erase_perm left _ hlt
theorem pickOrder_perm {α : Type} (next : Nat → Nat) (es : Array α) : (pickOrder next es).toList.Perm es.toList := by
  have := pick_perm next es.size 0 es.toList #[] (by simp)
  simpa [pickOrder] using this
section
variable {prog : Program} {w : World} {A : Around} {E : Value → Shared → Prop} {s : Shared} {I S T : Addr} {oS oT : Obj} {es : Array (Int × Value)} {ep : Nat} {t : SetTable}
theorem si_self {first : Value} {i n : Nat} {Q : Value → Shared → Prop} (hI : s.heap.get? I = some (siObj first i S n ep)) (h : Q (.ref I) s) : wpAny (model prog w) A (pyIter (.ref I)) Q E s := by
  have hT : s.TypeIs (.ref I) "set_iterator" := ⟨_, hI, rfl⟩
  refine wpAny_pyIter_slot hT slot_si_iter (wpAny_call_entry slot_si_iter hT entry_si_iter ?_ (args_si_iter _))
  show wpAny _ _ (ret (.ref I)) _ _ s
  exact wpAny_pure ⟨_, rfl, "set_iterator", _, hT, slot_si_next.lookup, h⟩
theorem setNext_text : ∀ {prog : Program} {w : World} {A : Around} {E : Value → Shared → Prop} {s : Shared} {S : Addr} {oS : Obj} {es : Array (Int × Value)} {ep : Nat} {t : SetTable} {sl i : Nat} {Q : Option (Value × Nat) → Shared → Prop} (hb : w.params.followText "set-order" = true) (hS : s.heap.get? S = some oS) (hd : oS.data = .set es ep t) (hf : t.fits es.size = true) (h : Q (((pickOrder (w.params.setOrder S ep) es)[i]?).map fun e => (e.2, sl)) s), wpAny (model prog w) A (setNext S sl i ep) Q E s := by
  have skon : SkOn := .mk
  intro prog w A E s S oS es ep t sl i Q hb hS hd hf h
  unfold setNext setsByText
  refine wpAny_bind (wpAny_setState_of hS hd hf ?_)
  dsimp only
  refine wpAny_bind (wpAny_bind (wpAny_askSetting (wpAny_pure ?_)))
  have hb' : ({ program := (model prog w).prog, params := (model prog w).w.params } : Setting).params.followText "set-order" = true := hb
  rw [hb']
  simp only [if_true]
  rw [if_neg (by simp)]
  unfold setWalk setsByText
  refine wpAny_bind (wpAny_bind (wpAny_setState_of hS hd hf ?_))
  dsimp only
  refine wpAny_bind (wpAny_bind (wpAny_askSetting (wpAny_pure ?_)))
  rw [hb']
  simp only [if_true]
  refine wpAny_bind (wpAny_askSetting (wpAny_pure ?_))
  exact wpAny_pure h
theorem setNext_slot {sl i : Nat} {Q : Option (Value × Nat) → Shared → Prop} (hb : w.params.followText "set-order" = false) (hl : t.led = true) (h1 : es.size = 1) (hS : s.heap.get? S = some oS) (hd : oS.data = .set es ep t) (hf : t.fits es.size = true)
    (h : Q (match es[SetTable.below t.place sl]?, t.place[SetTable.below t.place sl]? with | some (_, x), some j => some (x, j + 1) | _, _ => none) s) : wpAny (model prog w) A (setNext S sl i ep) Q E s := by
  unfold setNext setsByText
  refine wpAny_bind (wpAny_setState_of hS hd hf ?_)
  dsimp only
  refine wpAny_bind (wpAny_bind (wpAny_askSetting (wpAny_pure ?_)))
  have hb' : ({ program := (model prog w).prog, params := (model prog w).w.params } : Setting).params.followText "set-order" = false := hb
  rw [hb']
  simp only [Bool.false_eq_true, if_false]
  refine wpAny_ite_split (fun hab => ?_) fun _ => ?_
  · have hx : (!t.plain && decide (es.size > 1)) = true := hab
    rw [h1] at hx
    simp at hx
  · refine wpAny_bind (wpAny_of_eq (a := ()) ?_ ?_)
    · show (if (!t.led && !es.isEmpty) = true then unsupported "set:maker-not-led" else pure ()) = pure ()
      rw [hl]; rfl
    · exact wpAny_pure h
theorem walk_text (hh : A.handled = none) (hIS : I ≠ S) (hb : w.params.followText "set-order" = true) (hd : oS.data = .set es ep t) (hf : t.fits es.size = true) :
    Walks prog w A I [I, S] [I] es.size (fun i v => ((pickOrder (w.params.setOrder S ep) es).toList.map (·.2))[i]? = some v) (fun i h => h.get? I = some (siObj (.int 0 0) i S es.size ep) ∧ h.get? S = some oS) where
  sub := fun b hb => by simp at hb; simp [hb]
  frame := fun _ _ _ st hk => ⟨hk I (by simp) _ st.1, hk S (by simp) _ st.2⟩
  item := fun i s Q E hi st hQ => by
    have hz : (pickOrder (w.params.setOrder S ep) es).size = es.size := by simpa using (pickOrder_perm (w.params.setOrder S ep) es).length_eq
    refine si_next_some (sl := 0) (nx := 0) (x := ((pickOrder (w.params.setOrder S ep) es)[i]'(by omega)).2) st.1 st.2 hd hf (fun A' E' Q' hq => setNext_text hb st.2 hd hf ?_) fun h' hI' hs => ?_
    · rw [Array.getElem?_eq_getElem (by omega)]; exact hq
    · refine hQ _ h' s.toks ?_ ⟨hI', (hs.2 S hIS.symm).trans st.2⟩ fun b o hb e => hs.extBut b o (fun h => hb (by simp [h])) e
      rw [List.getElem?_map, Array.getElem?_toList, Array.getElem?_eq_getElem (by omega)]; rfl
  done := fun s Q E st hQ => by
    have hz : (pickOrder (w.params.setOrder S ep) es).size = es.size := by simpa using (pickOrder_perm (w.params.setOrder S ep) es).length_eq
    refine si_next_none (sl := 0) hh st.1 st.2 hd hf (fun A' E' Q' hq => setNext_text hb st.2 hd hf ?_) fun h' hs => hQ h' s.toks fun b o hb e => hs b o (fun h => hb (by simp [h])) e
    rw [Array.getElem?_eq_none (by omega)]; exact hq
  self := fun _ _ _ _ st hQ => si_self st.1 hQ
theorem walk_drawn {pl : List Nat} {nT : Nat} (hh : A.handled = none) (hIS : I ≠ S) (hIT : I ≠ T) (hd : oS.data = .set es ep t) (hf : t.fits es.size = true) (hdT : oT.data = .seq ((pl.map fun (k : Nat) => rawInt k).toArray) nT) (hpl : ∀ k ∈ pl, k < es.size) :
    Walks prog w A I [I, S, T] [I] pl.length (fun i v => (pl.map fun k => (es.getD k (0, .none)).2)[i]? = some v) (fun i h => h.get? I = some (siObj (.ref T) i S es.size ep) ∧ h.get? S = some oS ∧ h.get? T = some oT) where
  sub := fun b hb => by simp at hb; simp [hb]
  frame := fun _ _ _ st hk => ⟨hk I (by simp) _ st.1, hk S (by simp) _ st.2.1, hk T (by simp) _ st.2.2⟩
  item := fun i s Q E hi st hQ => by
    have hk := hpl _ (List.getElem_mem hi)
    refine si_drawn_some (pl := pl) (j := pl[i]) (e := es[pl[i]]) st.1 st.2.2 hdT st.2.1 hd hf (List.getElem?_eq_getElem hi) (Array.getElem?_eq_getElem hk) fun h' hI' hs => ?_
    refine hQ _ h' s.toks ?_ ⟨hI', (hs.2 S hIS.symm).trans st.2.1, (hs.2 T hIT.symm).trans st.2.2⟩ fun b o hb e => hs.extBut b o (fun h => hb (by simp [h])) e
    rw [List.getElem?_map, List.getElem?_eq_getElem hi]
    simp [Array.getD, hk]
  done := fun s Q E st hQ => si_drawn_none (pl := pl) hh st.1 st.2.2 hdT st.2.1 hd hf (by simp) fun h' hs => hQ h' s.toks fun b o hb e => hs b o (fun h => hb (by simp [h])) e
  self := fun _ _ _ _ st hQ => si_self st.1 hQ
theorem walk_slot {p : Nat} (hh : A.handled = none) (hIS : I ≠ S) (hb : w.params.followText "set-order" = false) (hl : t.led = true) (h1 : es.size = 1) (hp : t.place = #[p]) (hd : oS.data = .set es ep t) (hf : t.fits es.size = true) :
    Walks prog w A I [I, S] [I] es.size (fun i v => (es.toList.map (·.2))[i]? = some v) (fun i h => h.get? I = some (siObj (.int (if i = 0 then (0 : Nat) else p + 1 : Nat) 0) i S es.size ep) ∧ h.get? S = some oS) where
  sub := fun b hb => by simp at hb; simp [hb]
  frame := fun _ _ _ st hk => ⟨hk I (by simp) _ st.1, hk S (by simp) _ st.2⟩
  item := fun i s Q E hi st hQ => by
    obtain rfl : i = 0 := by omega
    have hb0 : SetTable.below t.place 0 = 0 := by rw [hp]; simp [SetTable.below, SetTable.below.go]
    refine si_next_some (sl := 0) (nx := p + 1) (x := (es[0]'(by omega)).2) st.1 st.2 hd hf (fun A' E' Q' hq => setNext_slot hb hl h1 st.2 hd hf ?_) fun h' hI' hs => ?_
    · rw [hb0, Array.getElem?_eq_getElem (by omega), hp]; exact hq
    · refine hQ _ h' s.toks ?_ ⟨hI', (hs.2 S hIS.symm).trans st.2⟩ fun b o hb e => hs.extBut b o (fun h => hb (by simp [h])) e
      rw [List.getElem?_map, Array.getElem?_toList, Array.getElem?_eq_getElem (by omega)]; rfl
  done := fun s Q E st hQ => by
    rw [h1] at st
    have hb1 : SetTable.below t.place (p + 1) = 1 := by rw [hp]; simp [SetTable.below, SetTable.below.go]
    refine si_next_none (sl := p + 1) (i := 1) (es := es) hh (by rw [h1]; exact st.1) st.2 hd hf (fun A' E' Q' hq => setNext_slot hb hl h1 st.2 hd hf ?_) fun h' hs => hQ h' s.toks fun b o hb e => hs b o (fun h => hb (by simp [h])) e
    rw [hb1, Array.getElem?_eq_none (by omega)]; exact hq
  self := fun _ _ _ _ st hQ => si_self st.1 hQ
end
end
section
section
variable {prog : Program} {w : World} {A : Around} {E : Value → Shared → Prop} {s : Shared} {S : Addr} {ks : List Str}
theorem wpAny_draw {M : Model} {src : Source} {n : Nat} {Q : Nat → Shared → Prop} (hn : n ≠ 0) (h : ∀ i, i < n → Q i { s with drawn := s.drawn.bump src }) : wpAny M A (choose src n) Q E s := by
  intro Γ p hΓ
  unfold choose
  rw [Sem.wp_choose]
  refine ⟨hn, ?_⟩
  have := h (M.w.draws src (s.drawn.get src) % n) (Nat.mod_lt _ (Nat.pos_of_ne_zero hn))
  simpa using this
theorem draw_perm {M : Model} {α : Type} : ∀ (n : Nat) (l : List α) (s : Shared) {Q : List α → Shared → Prop}, l.length = n → (∀ r dr, r.Perm l → Q r { s with drawn := dr }) → wpAny M A (drawOrder n l) Q E s
  | 0, l, s, Q, hl, h => by
    have : l = [] := List.length_eq_zero_iff.mp hl
    subst this
    exact wpAny_pure (h [] s.drawn (List.Perm.refl _))
  | n + 1, l, s, Q, hl, h => by
    cases l with
    | nil => simp at hl
    | cons a l =>
      unfold drawOrder
      refine wpAny_bind (wpAny_draw (by simp) fun i hi => ?_)
      rw [List.getElem?_eq_getElem hi]
      dsimp only
      refine wpAny_bind (draw_perm n _ _ (by rw [List.length_eraseIdx_of_lt hi]; omega) fun r dr hp => ?_)
      exact wpAny_pure (h _ dr ((hp.cons _).trans (erase_perm (a :: l) i hi)))
theorem iter_set : ∀ {prog : Program} {w : World} {A : Around} {E : Value → Shared → Prop} {s : Shared} {S : Addr} {ks : List Str} {Q : Value → Shared → Prop} (hS : SetP prog w s.heap S ks) (hne : ks ≠ []) (hn : ks.length ≤ 100) (h : ∀ (xs : List Value) (I : Addr) (fp : List Addr) (St : Nat → Heap → Prop) (h' : Heap) (dr : Drawn), (∀ A' : Around, A'.handled = none → Walks prog w A' I fp [I] xs.length (fun i v => xs[i]? = some v) St) → St 0 h' → (∀ b ∈ fp, b = S ∨ s.heap.get? b = none) → I ∈ fp → s.heap.get? I = none →
      Shared.TypeIs { s with heap := h', drawn := dr } (.ref I) "set_iterator" → (∀ b o, s.heap.get? b = some o → h'.get? b = some o) → (xs.map kOf).Perm ks → (∀ v ∈ xs, ∃ k t, v = .str k t) → Q (.ref I) { s with heap := h', drawn := dr }), wpAny (model prog w) A (pyIter (.ref S)) Q E s := by
  have skon : SkOn := .mk
  intro prog w A E s S ks Q hS hne hn h
  obtain ⟨o, es, ep, t, ho, hex, hd, hel, hp, hnd, hb, hf, hpl, hl⟩ := id hS
  have hT : s.TypeIs (.ref S) "set" := ⟨o, ho, hex.1⟩
  have hsz : es.size = ks.length := by simpa using hp.length_eq
  have hplain : t.plain = false := hpl.resolve_right hne
  have hSlt : @LT.lt Nat _ S s.heap.objs.size := Heap.lt_size ho
  have hstr : ∀ e ∈ es.toList, ∃ k tk, e.2 = .str k tk := fun e he => by
    obtain ⟨⟨k, hk, _⟩, _⟩ := hel e he
    obtain ⟨tk, hk⟩ := Value.isStrOf_shape hk
    exact ⟨k, tk, hk⟩
  refine wpAny_pyIter_slot hT PySem.F.slot_set_iter (wpAny_call_entry PySem.F.slot_set_iter hT entry_set_iter ?_ (PySem.F.args_set_iter_1 _))
  unfold Builtin.«frozenset.__iter__» Builtin.Frozenset.slot0 slotArgs
  simp only [List.isEmpty_nil, Bool.not_true, Bool.false_eq_true, ↓reduceIte, bind_assoc, List.length_nil, bne_self_eq_false]
  unfold Builtin.Frozenset.addrOf Builtin.Frozenset.sizeOf
  refine wpAny_bind (wpAny_pure ?_)
  try dsimp only
  refine wpAny_bind (wpAny_pure ?_)
  refine wpAny_bind (wpAny_bind (wpAny_setEntries_of ho hd hf (wpAny_pure ?_)))
  unfold setDrawn setsByText
  refine wpAny_bind (wpAny_bind (wpAny_setState_of ho hd hf ?_))
  dsimp only
  refine wpAny_bind (wpAny_bind (wpAny_askSetting (wpAny_pure ?_)))
  cases hbt : w.params.followText "set-order" with
  | true =>
    have hb' : ({ program := (model prog w).prog, params := (model prog w).w.params } : Setting).params.followText "set-order" = true := hbt
    rw [hb']
    refine wpAny_pure (wpAny_ite_split (fun hab => Bool.noConfusion hab) fun _ => ?_)
    refine wpAny_bind (wpAny_pure ?_)
    refine wpAny_bind (wpAny_setEpoch_of ho hd hf ?_)
    unfold newFields
    refine wpAny_bind (wpAny_newObj_type (wpAny_pure ⟨_, rfl, "set_iterator", _, ⟨_, Heap.get?_push_size _ rfl, rfl⟩, slot_si_next.lookup, ?_⟩))
    have hpk := pickOrder_perm (w.params.setOrder S ep) es
    have hz : ((pickOrder (w.params.setOrder S ep) es).toList.map (·.2)).length = es.size := by rw [List.length_map, hpk.length_eq, Array.length_toList]
    refine h ((pickOrder (w.params.setOrder S ep) es).toList.map (·.2)) s.heap.objs.size [s.heap.objs.size, S] (fun i h => h.get? s.heap.objs.size = some (siObj (.int 0 0) i S es.size ep) ∧ h.get? S = some o) _ s.drawn (fun A' hA => by rw [hz]; exact walk_text hA (Nat.ne_of_gt hSlt) hbt hd hf) ⟨Heap.get?_push_size _ rfl, Heap.get?_push_of_some _ ho⟩ ?_ (by simp) (Heap.get?_none_of_le (Nat.le_refl _)) ⟨_, Heap.get?_push_size _ rfl, rfl⟩ (fun b o e => Heap.get?_push_of_some _ e) ?_ ?_
    · intro b hb
      simp only [List.mem_cons, List.not_mem_nil, or_false] at hb
      rcases hb with rfl | rfl
      · exact .inr (Heap.get?_none_of_le (Nat.le_refl _))
      · exact .inl rfl
    · rw [List.map_map]
      exact ((hpk.map _).trans hp)
    · intro v hv
      obtain ⟨e, he, rfl⟩ := List.mem_map.mp hv
      exact hstr e (hpk.mem_iff.mp he)
  | false =>
    have hb' : ({ program := (model prog w).prog, params := (model prog w).w.params } : Setting).params.followText "set-order" = false := hbt
    rw [hb']
    have hled : t.led = true := by rw [hl, hbt]; rfl
    by_cases hsz1 : es.size > 1
    · have hdr : (!false && (!t.plain && decide (es.size > 1))) = true := by rw [hplain]; simp [hsz1]
      refine wpAny_pure (wpAny_ite_split (fun _ => ?_) fun hab => absurd hdr hab)
      refine wpAny_bind (draw_perm _ _ _ (by simp) fun r dr hr => ?_)
      have hrl : r.length = es.size := by rw [hr.length_eq]; simp
      have hrm : ∀ k ∈ r, k < es.size := fun k hk => List.mem_range.mp (hr.mem_iff.mp hk)
      refine wpAny_bind (wpAny_newTuple ?_ (by rw [List.length_map, hrl, hsz, sizeLine_eq]; omega))
      have ho1 : ∀ ob, (s.heap.push ob).get? S = some o := fun ob => Heap.get?_push_of_some _ ho
      refine wpAny_bind (wpAny_setEpoch_of (ho1 _) hd hf ?_)
      unfold newFields
      refine wpAny_bind (wpAny_newObj_type (wpAny_pure ⟨_, rfl, "set_iterator", _, ⟨_, Heap.get?_push_size _ rfl, rfl⟩, slot_si_next.lookup, ?_⟩))
      dsimp only
      generalize hH : s.heap.push { cls := Value.type "tuple", data := Data.seq (List.map (fun (i : Nat) => rawInt i) r).toArray } = H
      have hHs : H.objs.size = s.heap.objs.size + 1 := by rw [← hH, Heap.size_push]
      have hHT : H.get? s.heap.objs.size = some { cls := Value.type "tuple", data := Data.seq (List.map (fun (i : Nat) => rawInt i) r).toArray } := by rw [← hH]; exact Heap.get?_push_size _ rfl
      have hHS : H.get? S = some o := by rw [← hH]; exact ho1 _
      have hIS : @Ne Nat H.objs.size S := by rw [hHs]; exact Nat.ne_of_gt (Nat.lt_succ_of_lt hSlt)
      have hIT : @Ne Nat H.objs.size s.heap.objs.size := by rw [hHs]; exact Nat.succ_ne_self _
      have hup : ∀ b ob, s.heap.get? b = some ob → H.get? b = some ob := fun b ob e => by rw [← hH]; exact Heap.get?_push_of_some _ e
      have hz : (r.map fun k => (es.getD k (0, .none)).2).length = r.length := List.length_map ..
      refine h (r.map fun k => (es.getD k (0, .none)).2) H.objs.size [H.objs.size, S, s.heap.objs.size] (fun i h => h.get? H.objs.size = some (siObj (.ref s.heap.objs.size) i S es.size ep) ∧ h.get? S = some o ∧ h.get? s.heap.objs.size = some { cls := Value.type "tuple", data := Data.seq (List.map (fun (i : Nat) => rawInt i) r).toArray }) _ dr (fun A' hA => by rw [hz]; exact walk_drawn hA hIS hIT hd hf rfl hrm) ⟨Heap.get?_push_size _ rfl, Heap.get?_push_of_some _ hHS, Heap.get?_push_of_some _ hHT⟩ ?_ (by simp) (Heap.get?_none_of_le (by rw [hHs]; exact Nat.le_succ _)) ⟨_, Heap.get?_push_size _ rfl, rfl⟩ (fun b ob e => Heap.get?_push_of_some _ (hup b ob e)) ?_ ?_
      · intro b hb
        simp only [List.mem_cons, List.not_mem_nil, or_false] at hb
        rcases hb with rfl | rfl | rfl
        · exact .inr (Heap.get?_none_of_le (by rw [hHs]; exact Nat.le_succ _))
        · exact .inl rfl
        · exact .inr (Heap.get?_none_of_le (Nat.le_refl _))
      · have e1 : (List.range es.size).map (fun k => es.getD k (0, .none)) = es.toList := by
          refine List.ext_getElem (by simp) fun i h1 h2 => ?_
          simp only [List.length_map, List.length_range] at h1
          simp [Array.getD, h1]
        refine List.Perm.trans ?_ hp
        rw [← e1, List.map_map, List.map_map]
        exact hr.map _
      · intro v hv
        obtain ⟨k, hk, rfl⟩ := List.mem_map.mp hv
        have hk' := hrm k hk
        refine hstr (es.getD k (0, .none)) ?_
        simp [Array.getD, hk']
    · have h1 : es.size = 1 := by
        have : es.size ≠ 0 := fun e => hne (List.length_eq_zero_iff.mp (by omega))
        omega
      have hdr : (!false && (!t.plain && decide (es.size > 1))) = false := by rw [h1]; simp
      refine wpAny_pure (wpAny_ite_split (fun hab => absurd ((show (!false && (!t.plain && decide (es.size > 1))) = true from hab).symm.trans hdr) (by decide)) fun _ => ?_)
      refine wpAny_bind (wpAny_pure ?_)
      refine wpAny_bind (wpAny_setEpoch_of ho hd hf ?_)
      unfold newFields
      refine wpAny_bind (wpAny_newObj_type (wpAny_pure ⟨_, rfl, "set_iterator", _, ⟨_, Heap.get?_push_size _ rfl, rfl⟩, slot_si_next.lookup, ?_⟩))
      obtain ⟨p, hpp⟩ : ∃ p, t.place = #[p] := by
        have : t.place.size = 1 := by
          simp only [SetTable.fits, Bool.and_eq_true, beq_iff_eq] at hf
          rw [hf.1, h1]
        generalize t.place = pl at this
        obtain ⟨l⟩ := pl
        match l, this with
        | [x], _ => exact ⟨x, rfl⟩
      have hz : (es.toList.map (·.2)).length = es.size := by rw [List.length_map, Array.length_toList]
      refine h (es.toList.map (·.2)) s.heap.objs.size [s.heap.objs.size, S] (fun i h => h.get? s.heap.objs.size = some (siObj (.int (if i = 0 then (0 : Nat) else p + 1 : Nat) 0) i S es.size ep) ∧ h.get? S = some o) _ s.drawn (fun A' hA => by rw [hz]; exact walk_slot hA (Nat.ne_of_gt hSlt) hbt hled h1 hpp hd hf) ⟨Heap.get?_push_size _ rfl, Heap.get?_push_of_some _ ho⟩ ?_ (by simp) (Heap.get?_none_of_le (Nat.le_refl _)) ⟨_, Heap.get?_push_size _ rfl, rfl⟩ (fun b o e => Heap.get?_push_of_some _ e) ?_ ?_
      · intro b hb
        simp only [List.mem_cons, List.not_mem_nil, or_false] at hb
        rcases hb with rfl | rfl
        · exact .inr (Heap.get?_none_of_le (Nat.le_refl _))
        · exact .inl rfl
      · rw [List.map_map]
        exact hp
      · intro v hv
        obtain ⟨e, he, rfl⟩ := List.mem_map.mp hv
        exact hstr e he
end
end
section
section
variable {prog : Program} {w : World} {A : Around} {E : Value → Shared → Prop} {s : Shared} {S : Addr} {ks : List Str}
theorem set_hint : ∀ {prog : Program} {w : World} {A : Around} {E : Value → Shared → Prop} {s : Shared} {r : Addr} (hT : s.TypeIs (.ref r) "set") {Q : Bool → Shared → Prop} (h : Q false s), wpAny (model prog w) A (Builtin.List.listLengthHint (.ref r)) Q E s := by
  have skon : SkOn := .mk
  intro prog w A E s r hT Q h
  unfold Builtin.List.listLengthHint
  refine wpAny_bind (wpAny_specialOf hT PySem.F.slot_set_len.lookup ?_)
  generalize hid : ("set.__len__" : String) = id0
  wp_delta
  rw [show splitId id0 = some ("set", "__len__") from by subst hid; decide +kernel]
  subst hid
  refine wpAny_bind (wpAny_isInstance (T := "set") (b := true) hT (by rw [isSubtype_type]; kernel_rfl) ?_)
  refine wpAny_ite_split (fun hab => absurd hab (by decide)) (fun _ => ?_)
  refine wpAny_ite_split (fun _ => ?_) (fun hab => absurd (by decide +kernel) hab)
  refine wpAny_bind (wpAny_typeOf hT ?_)
  exact wpAny_pure h
theorem collect_set : ∀ {prog : Program} {w : World} {A : Around} {E : Value → Shared → Prop} {s : Shared} {S : Addr} {ks : List Str} {Q : List Value → Shared → Prop} (hh : A.handled = none) (hS : SetP prog w s.heap S ks) (hne : ks ≠ []) (hn : ks.length ≤ 100) (hQ : ∀ xs h' dr tk, (∀ b o, s.heap.get? b = some o → h'.get? b = some o) → (xs.map kOf).Perm ks → (∀ v ∈ xs, ∃ k t, v = .str k t) → Q xs { s with heap := h', drawn := dr, toks := tk }), wpAny (model prog w) A (collect (.ref S)) Q E s := by
  have skon : SkOn := .mk
  intro prog w A E s S ks Q hh hS hne hn hQ
  obtain ⟨o, es, ep, t, ho, hex, hd, hel, hp, hnd, hb, hf, hpl, hl⟩ := id hS
  have hSlt : @LT.lt Nat _ S s.heap.objs.size := Heap.lt_size ho
  have hT : s.TypeIs (.ref S) "set" := ⟨o, ho, hex.1⟩
  unfold collect
  refine wpAny_bind (wpAny_runValue (codeAny_builtin PySem.F.entry_proto_collect ?_))
  rw [Around.under_plainId PySem.F.plain_proto_collect _]
  show wpAny _ A.in1 (newList [] >>= fun l => again (.builtin "list.__iadd__" ⟨[l, .ref S], []⟩)) _ _ s
  refine wpAny_bind (wpAny_newObj_type ?_)
  refine wpAny_pure ⟨plainId_quiet PySem.F.plain_list_iadd _, codeAny_builtin PySem.F.entry_list_iadd ?_⟩
  rw [Around.under_plainId PySem.F.plain_list_iadd _]
  show wpAny _ A.in1 (Builtin.List.listExtendWith (.ref s.heap.objs.size) (.ref S) (.ref s.heap.objs.size)) _ _ _
  generalize hH : s.heap.push { cls := .type "list", data := .seq ([] : List Value).toArray } = H
  have hHs : H.objs.size = s.heap.objs.size + 1 := by rw [← hH, Heap.size_push]
  have hHD : H.get? s.heap.objs.size = some { cls := .type "list", data := .seq ([] : List Value).toArray } := by rw [← hH]; exact Heap.get?_push_size _ rfl
  have hup : ∀ b ob, s.heap.get? b = some ob → H.get? b = some ob := fun b ob e => by rw [← hH]; exact Heap.get?_push_of_some _ e
  have hTH : Shared.TypeIs { s with heap := H } (.ref S) "set" := ⟨o, hup _ _ ho, hex.1⟩
  unfold Builtin.List.listExtendWith
  refine wpAny_bind (wpAny_typeOf hTH ?_)
  have h1 : Builtin.List.listSameRef (.ref s.heap.objs.size) (.ref S) = false := by simp [Builtin.List.listSameRef, Nat.ne_of_gt hSlt]
  have h2 : (Value.type "set" == Value.type "list") = false := by decide
  have h3 : (Value.type "set" == Value.type "tuple") = false := by decide
  simp only [h1, h2, h3, Bool.or_false, Bool.false_eq_true, if_false]
  refine wpAny_bind (iter_set (s := { s with heap := H }) (hS.at' fun o e => hup _ _ e) hne hn fun xs I fp St h' dr hW hst hfp hI hIn hTI hk hxp hxs => ?_)
  have hDlt : @LT.lt Nat _ s.heap.objs.size H.objs.size := by rw [hHs]; exact Nat.lt_succ_self _
  have hD' := hk _ _ hHD
  refine wpAny_bind (wpAny_holding (set_hint ⟨o, hk _ _ (hup _ _ ho), hex.1⟩ ?_))
  refine wpAny_ite_split (fun _ => ?_) (fun hab => absurd (by decide +kernel) hab)
  refine wpAny_bind (wpAny_rule ?_)
  refine wpAny_bind ?_
  show wpAny _ _ (updateSeq s.heap.objs.size (·.push .none) >>= fun _ => updateSeq s.heap.objs.size (·.pop)) _ _ _
  refine wpAny_bind (wpAny_updateSeq hD' rfl ?_)
  have hS₂ := Heap.get?_update_self (Obj.mapSeq (·.push Value.none)) hD' rfl
  refine wpAny_updateSeq (hz := by seq_fits) hS₂ rfl ?_
  have hS₃ := Heap.get?_update_self (Obj.mapSeq (·.pop)) hS₂ rfl
  have hDf : s.heap.objs.size ∉ fp := fun hm => by
    rcases hfp _ hm with e | e
    · exact Nat.ne_of_gt hSlt e
    · rw [show H.get? s.heap.objs.size = none from e] at hHD; cases hHD
  have hDI : s.heap.objs.size ≠ I := fun e => hDf (e ▸ hI)
  have oth : ∀ b o, b ≠ s.heap.objs.size → h'.get? b = some o → ((h'.update s.heap.objs.size (Obj.mapSeq (·.push Value.none))).update s.heap.objs.size (Obj.mapSeq (·.pop))).get? b = some o :=
    fun b o hb e => (Heap.get?_update_other _ _ (Ne.symm hb)).trans ((Heap.get?_update_other _ _ (Ne.symm hb)).trans e)
  have W := (hW A.in1 (by simp [hh])).toS
  have hlen : xs.length ≤ sizeLine := by
    have := hxp.length_eq
    rw [List.length_map] at this
    rw [this, sizeLine_eq]; omega
  refine wpAny_pure ⟨plainId_quiet PySem.F.plain_extend_loop _, codeAny_extend_loopS W hlen s.heap.objs.size hDf _ xs.length 0 _ #[] _ rfl (Nat.zero_le _) ((hW A.in1 (by simp [hh])).frame 0 h' _ hst fun b hb o e => oth b o (fun h => hDf (h ▸ hb)) e) hS₃ (ItemsOf.nil _) fun s' acc' c' hm hS' hacc => ?_⟩
  show wpAny _ A (load s.heap.objs.size >>= _) _ _ s'
  refine wpAny_bind (wpAny_load hS' ?_)
  have hx : acc'.toList = xs := by
    refine List.ext_getElem? fun i => ?_
    rw [Array.getElem?_toList]
    cases hi : acc'[i]? with
    | some v => exact (hacc.2 i v hi).symm
    | none =>
      have : acc'.size ≤ i := by simpa using hi
      rw [hacc.1] at this
      exact (List.getElem?_eq_none this).symm
  dsimp only
  rw [hx]
  obtain ⟨h2, g2, d2, tk2, os2⟩ := s'
  have eg : g2 = s.gens := hm.gens
  have ed : d2 = dr := hm.drawn
  have eo : os2 = s.os := hm.os
  subst eg; subst ed; subst eo
  refine wpAny_pure (hQ xs h2 d2 tk2 (fun b ob e => ?_) hxp hxs)
  have hb1 : b ≠ s.heap.objs.size := Nat.ne_of_lt (Heap.lt_size e)
  have hb2 : b ≠ I := fun h => by
    have hIn' : H.get? I = none := hIn
    rw [← h, hup _ _ e] at hIn'; cases hIn'
  refine hm.heap b ob ?_ (oth b ob hb1 (hk _ _ (hup _ _ e)))
  simp only [List.mem_cons, List.not_mem_nil, or_false, not_or]
  exact ⟨hb1, hb2⟩
end
end
section
noncomputable def kRun {α : Type} (lt : Nat → Nat → Bool) : KasT α → α
  | .ret a => a
  | .ask i j k => kRun lt (k (lt i j))
theorem kRun_bind {α β : Type} (lt : Nat → Nat → Bool) (f : α → KasT β) : ∀ t : KasT α, kRun lt (t.bind f) = kRun lt (f (kRun lt t))
  | .ret _ => rfl
  | .ask _ _ k => kRun_bind lt f (k _)
/-- asked pairs lie below n -/
noncomputable def kIn {α : Type} (n : Nat) (lt : Nat → Nat → Bool) : KasT α → Prop
  | .ret _ => True
  | .ask i j k => i < n ∧ j < n ∧ i ≠ j ∧ kIn n lt (k (lt i j))
theorem kIn_bind {α β : Type} {n : Nat} {lt : Nat → Nat → Bool} {f : α → KasT β} : ∀ {t : KasT α}, kIn n lt t → kIn n lt (f (kRun lt t)) → kIn n lt (t.bind f)
  | .ret _, _, h => h
  | .ask _ _ _, h, h2 => ⟨h.1, h.2.1, h.2.2.1, kIn_bind h.2.2.2 h2⟩
theorem kWp {α : Type} {n : Nat} {lt : Nat → Nat → Bool} {I : Shared → Prop} {cmp : Nat → Nat → (Bool → Shared → Prop) → Shared → Prop} (hc : ∀ i j C s, i < n → j < n → i ≠ j → I s → (∀ s', I s' → C (lt i j) s') → cmp i j C s) {Q : α → Shared → Prop} : ∀ (t : KasT α) (s : Shared), kIn n lt t → I s → (∀ s', I s' → Q (kRun lt t) s') → t.kasWp cmp Q s
  | .ret _, s, _, hs, h => h s hs
  | .ask i j k, s, hin, hs, h => hc i j _ s hin.1 hin.2.1 hin.2.2.1 hs fun s' hs' => kWp hc (k (lt i j)) s' hin.2.2.2 hs' h
section
variable {n : Nat} {ρ : Nat → Nat}
noncomputable abbrev rl (ρ : Nat → Nat) (i j : Nat) : Bool := decide (ρ i < ρ j)
/-- an order of the places below n -/
structure Ord' (n : Nat) (p : Array Nat) : Prop where
  sz : p.size = n
  lo : ∀ i, i < n → p.getD i 0 < n
  ne : ∀ i j, i < n → j < n → i ≠ j → p.getD i 0 ≠ p.getD j 0
  pm : p.toList.Perm (List.range n)
noncomputable def Asc (ρ : Nat → Nat) (p : Array Nat) (k : Nat) : Prop := ∀ i j, i < j → j < k → ρ (p.getD i 0) < ρ (p.getD j 0)
noncomputable def Dsc (ρ : Nat → Nat) (p : Array Nat) (k : Nat) : Prop := ∀ i j, i < j → j < k → ρ (p.getD j 0) < ρ (p.getD i 0)
theorem ord_of_perm {p : Array Nat} (h : p.toList.Perm (List.range n)) : Ord' n p := by
  have hz : p.size = n := by have := h.length_eq; simpa using this
  have hl : ∀ i, i < n → i < p.toList.length := fun i hi => by rw [Array.length_toList, hz]; exact hi
  have hg : ∀ i (hi : i < n), p.getD i 0 = p.toList[i]'(hl i hi) := fun i hi => by simp [Array.getD, hz, hi]
  refine ⟨hz, fun i hi => ?_, fun i j hi hj hij => ?_, h⟩
  · rw [hg i hi]
    have := h.mem_iff.mp (List.getElem_mem (hl i hi))
    simpa using this
  · rw [hg i hi, hg j hj]
    have nd : p.toList.Nodup := h.nodup_iff.mpr List.nodup_range
    have nd2 := List.pairwise_iff_getElem.mp nd
    rcases Nat.lt_or_gt_of_ne hij with e | e
    · exact nd2 i j _ _ e
    · exact (nd2 j i _ _ e).symm
theorem ord_range : Ord' n (List.toArray (List.range n)) := ord_of_perm (by simp)
theorem ord_rev {p : Array Nat} (h : Ord' n p) (i j : Nat) : Ord' n (kas_rev p i j) := ord_of_perm ((Array.perm_iff_toList_perm.mp (mirror_perm p i j _)).trans h.pm)
theorem ord_bubble {p : Array Nat} (h : Ord' n p) (i j : Nat) : Ord' n (bubble p i j) := ord_of_perm ((Array.perm_iff_toList_perm.mp (bubble_perm p i j)).trans h.pm)
theorem getD_of {p q : Array Nat} {i j : Nat} (h : p[i]? = q[j]?) : p.getD i 0 = q.getD j 0 := by
  rw [Array.getD_eq_getD_getElem?, Array.getD_eq_getD_getElem?, h]
theorem lt_or (hρ : ∀ i j, i < n → j < n → ρ i = ρ j → i = j) {p : Array Nat} (h : Ord' n p) {i j : Nat} (hi : i < n) (hj : j < n) (hij : i ≠ j) (hl : ¬ ρ (p.getD i 0) < ρ (p.getD j 0)) : ρ (p.getD j 0) < ρ (p.getD i 0) := by
  rcases Nat.lt_or_eq_of_le (Nat.le_of_not_lt hl) with e | e
  · exact e
  · exact absurd (hρ _ _ (h.lo _ hj) (h.lo _ hi) e) (h.ne _ _ hj hi (Ne.symm hij))
theorem Ord'.nb {p : Array Nat} (h : Ord' n p) {k : Nat} (h1 : 1 ≤ k) (hk : k < n) : (p.getD k 0 < n ∧ p.getD (k - 1) 0 < n ∧ p.getD k 0 ≠ p.getD (k - 1) 0) ∧ k - 1 < n ∧ k ≠ k - 1 := by
  have a : k - 1 < k := Nat.sub_lt h1 Nat.one_pos
  have b := Nat.lt_trans a hk
  exact ⟨⟨h.lo _ hk, h.lo _ b, h.ne _ _ hk b (Nat.ne_of_gt a)⟩, b, Nat.ne_of_gt a⟩
theorem lt_up {k f n : Nat} (hk : k + (f + 1) ≤ n) : k < n ∧ k + 1 + f ≤ n := ⟨Nat.lt_of_lt_of_le (Nat.lt_add_of_pos_right (Nat.succ_pos f)) hk, Nat.le_trans (Nat.le_of_eq (Nat.add_right_comm k 1 f)) hk⟩
theorem asc_one {p : Array Nat} : Asc ρ p 1 := fun i j hij hj => absurd (Nat.lt_of_lt_of_le hij (Nat.le_of_lt_succ hj)) (Nat.not_lt_zero i)
theorem dsc_one {p : Array Nat} : Dsc ρ p 1 := fun i j hij hj => absurd (Nat.lt_of_lt_of_le hij (Nat.le_of_lt_succ hj)) (Nat.not_lt_zero i)
theorem asc_step {p : Array Nat} {k : Nat} (h1 : 1 ≤ k) (h : Asc ρ p k) (hl : ρ (p.getD (k - 1) 0) < ρ (p.getD k 0)) : Asc ρ p (k + 1) := by
  intro i j hij hj
  rcases Nat.lt_or_eq_of_le (Nat.le_of_lt_succ hj) with e | e
  · exact h i j hij e
  · subst e
    rcases Nat.lt_or_eq_of_le (Nat.le_sub_one_of_lt hij) with e | e
    · exact Nat.lt_trans (h i (j - 1) e (Nat.sub_lt h1 Nat.one_pos)) hl
    · rw [e]; exact hl
theorem dsc_step {p : Array Nat} {k : Nat} (h1 : 1 ≤ k) (h : Dsc ρ p k) (hl : ρ (p.getD k 0) < ρ (p.getD (k - 1) 0)) : Dsc ρ p (k + 1) := by
  intro i j hij hj
  rcases Nat.lt_or_eq_of_le (Nat.le_of_lt_succ hj) with e | e
  · exact h i j hij e
  · subst e
    rcases Nat.lt_or_eq_of_le (Nat.le_sub_one_of_lt hij) with e | e
    · exact Nat.lt_trans hl (h i (j - 1) e (Nat.sub_lt h1 Nat.one_pos))
    · rw [e]; exact hl
noncomputable def KOk {α : Type} (n : Nat) (ρ : Nat → Nat) (R : α → Prop) (t : KasT α) : Prop := kIn n (rl ρ) t ∧ R (kRun (rl ρ) t)
theorem KOk.imp {α : Type} {R S : α → Prop} {t : KasT α} (h : KOk n ρ S t) (k : ∀ a, S a → R a) : KOk n ρ R t := ⟨h.1, k _ h.2⟩
theorem KOk.ask {α : Type} {R : α → Prop} {i j : Nat} {k : Bool → KasT α} (hi : i < n) (hj : j < n) (hij : i ≠ j) (ht : ρ i < ρ j → KOk n ρ R (k true)) (hf : ¬ ρ i < ρ j → KOk n ρ R (k false)) : KOk n ρ R (.ask i j k) := by
  have e : KOk n ρ R (k (rl ρ i j)) := by
    by_cases h : ρ i < ρ j
    · rw [show rl ρ i j = true from decide_eq_true h]; exact ht h
    · rw [show rl ρ i j = false from decide_eq_false h]; exact hf h
  exact ⟨⟨hi, hj, hij, e.1⟩, e.2⟩
theorem KOk.bind {α β : Type} {S : α → Prop} {R : β → Prop} {t : KasT α} {f : α → KasT β} (h : KOk n ρ S t) (k : ∀ a, S a → KOk n ρ R (f a)) : KOk n ρ R (t.bind f) :=
  ⟨kIn_bind h.1 (k _ h.2).1, (kRun_bind _ f t).symm ▸ (k _ h.2).2⟩
theorem asc_run (hρ : ∀ i j, i < n → j < n → ρ i = ρ j → i = j) {p : Array Nat} (h : Ord' n p) (f : Nat) : ∀ k, 1 ≤ k → k + f ≤ n → Asc ρ p k →
    KOk n ρ (fun r => k ≤ r ∧ r ≤ k + f ∧ Asc ρ p r ∧ (r < k + f → ρ (p.getD r 0) < ρ (p.getD (r - 1) 0))) (kas_asc p f k) := by
  induction f with
  | zero => exact fun k _ _ ha => ⟨trivial, Nat.le_refl _, Nat.le_refl _, ha, fun h => absurd h (Nat.lt_irrefl _)⟩
  | succ f ih =>
    intro k h1 hk ha
    obtain ⟨hkn, hk'⟩ := lt_up hk
    obtain ⟨q, q1, q2⟩ := h.nb h1 hkn
    have e : k + 1 + f = k + (f + 1) := Nat.add_right_comm k 1 f
    exact KOk.ask (k := fun c => if c = true then .ret k else kas_asc p f (k + 1)) q.1 q.2.1 q.2.2 (fun hc => ⟨trivial, Nat.le_refl _, Nat.le_add_right _ _, ha, fun _ => hc⟩) fun hc =>
      (ih (k + 1) (Nat.le_add_left 1 k) hk' (asc_step h1 ha (lt_or hρ h hkn q1 q2 hc))).imp fun r z => ⟨Nat.le_of_succ_le z.1, Nat.le_trans z.2.1 (Nat.le_of_eq e), z.2.2.1, fun q => z.2.2.2 (Nat.lt_of_lt_of_eq q e.symm)⟩
theorem dsc_run (hρ : ∀ i j, i < n → j < n → ρ i = ρ j → i = j) {p : Array Nat} (h : Ord' n p) (f : Nat) : ∀ k, 1 ≤ k → k + f ≤ n → Dsc ρ p k →
    KOk n ρ (fun r => ∃ k', r = (p, k', 0) ∧ k ≤ k' ∧ k' ≤ k + f ∧ Dsc ρ p k') (kas_desc f p k 0) := by
  induction f with
  | zero => exact fun k _ _ ha => ⟨trivial, k, rfl, Nat.le_refl _, Nat.le_refl _, ha⟩
  | succ f ih =>
    intro k h1 hk ha
    obtain ⟨hkn, hk'⟩ := lt_up hk
    obtain ⟨q, q1, q2⟩ := h.nb h1 hkn
    exact KOk.ask (k := fun c => if c = true then kas_desc f p (k + 1) 0 else .ask (p.getD (k - 1) 0) (p.getD k 0) fun d => if d = true then .ret (p, k, 0) else kas_desc f p (k + 1) 1) q.1 q.2.1 q.2.2
      (fun hc => (ih (k + 1) (Nat.le_add_left 1 k) hk' (dsc_step h1 ha hc)).imp fun r => Exists.imp fun k' z => ⟨z.1, Nat.le_of_succ_le z.2.1, Nat.le_trans z.2.2.1 (Nat.le_of_eq (Nat.add_right_comm k 1 f)), z.2.2.2⟩)
      fun hc => KOk.ask (k := fun d => if d = true then .ret (p, k, 0) else kas_desc f p (k + 1) 1) q.2.1 q.1 q.2.2.symm (fun _ => ⟨trivial, k, rfl, Nat.le_refl _, Nat.le_add_right _ _, ha⟩) fun hd => absurd (lt_or hρ h hkn q1 q2 hc) hd
theorem rev_asc {p : Array Nat} {k : Nat} (hk : k ≤ p.size) (h : Dsc ρ p k) : Asc ρ (kas_rev p 0 k) k := by
  intro i j hij hj
  have e : ∀ i, i < k → (kas_rev p 0 k).getD i 0 = p.getD (0 + k - 1 - i) 0 := fun i hi => getD_of ((getElem?_mirror_all hk i).trans (if_pos ⟨Nat.zero_le _, hi⟩))
  rw [e i (Nat.lt_trans hij hj), e j hj]
  rw [Nat.zero_add]
  exact h _ _ (Nat.sub_lt_sub_left (Nat.lt_of_lt_of_le hij (Nat.le_sub_one_of_lt hj)) hij) (Nat.lt_of_le_of_lt (Nat.sub_le _ _) (Nat.sub_lt (Nat.zero_lt_of_lt hj) Nat.one_pos))
noncomputable abbrev CntR (n : Nat) (ρ : Nat → Nat) (r : Nat × Array Nat) : Prop := 1 ≤ r.1 ∧ r.1 ≤ n ∧ Ord' n r.2 ∧ Asc ρ r.2 r.1
theorem tail3_run (hρ : ∀ i j, i < n → j < n → ρ i = ρ j → i = j) {p : Array Nat} (h : Ord' n p) {k : Nat} (h1 : 1 ≤ k) (hk : k ≤ n) (hd : Dsc ρ p k) : KOk n ρ (CntR n ρ) (kas_tail3 k n p) := by
  have hr := ord_rev h 0 k
  have e := Nat.add_sub_cancel' hk
  exact (asc_run hρ hr (n - k) k h1 (Nat.le_of_eq e) (rev_asc (h.sz.symm ▸ hk) hd)).bind fun r z => ⟨trivial, Nat.le_trans h1 z.1, Nat.le_trans z.2.1 (Nat.le_of_eq e), hr, z.2.2.1⟩
theorem count_run (hρ : ∀ i j, i < n → j < n → ρ i = ρ j → i = j) {p : Array Nat} (h : Ord' n p) (h1 : 1 ≤ n) : KOk n ρ (CntR n ρ) (kas_count n p) := by
  refine (asc_run hρ h (n - 1) 1 (Nat.le_refl _) (Nat.le_of_eq (Nat.add_sub_cancel' h1)) asc_one).bind (f := fun k => if (k == n) = true then .ret (k, p) else if k > 1 then .ask (p.getD 0 0) (p.getD (k - 1) 0) fun c => if c = true then .ret (k, p) else kas_descPart k n (kas_rev p 0 k) else kas_descPart k n p) fun k z => ?_
  obtain ⟨i2, i3, i4, i5⟩ := z
  rw [Nat.add_sub_cancel' h1] at i3 i5
  show KOk n ρ (CntR n ρ) (if (k == n) = true then .ret (k, p) else _)
  by_cases hk : k = n
  · rw [if_pos (beq_iff_eq.mpr hk)]
    exact ⟨trivial, i2, i3, h, i4⟩
  · rw [if_neg (fun e => hk (beq_iff_eq.mp e))]
    have hkn : k < n := Nat.lt_of_le_of_ne i3 hk
    by_cases h2 : k > 1
    · rw [if_pos h2]
      have k0 : 0 < k - 1 := Nat.sub_pos_of_lt h2
      obtain ⟨q, q1, q2⟩ := h.nb i2 hkn
      exact KOk.ask (h.lo _ h1) q.2.1 (h.ne _ _ h1 q1 (Nat.ne_of_lt k0)) (fun _ => ⟨trivial, i2, i3, h, i4⟩) fun hc => absurd (i4 0 (k - 1) k0 (Nat.sub_lt i2 Nat.one_pos)) hc
    · rw [if_neg h2]
      obtain rfl : k = 1 := Nat.le_antisymm (Nat.not_lt.mp h2) i2
      have e2n : 2 + (n - 2) = n := Nat.add_sub_cancel' hkn
      refine (dsc_run hρ h (n - 2) 2 (Nat.le_succ 1) (Nat.le_of_eq e2n) (dsc_step (Nat.le_refl _) dsc_one (i5 hkn))).bind (f := fun r => if r.2.2 > 0 then kas_tail3 r.2.1 n (kas_rev r.1 (r.2.1 - (r.2.2 + 1)) r.2.1) else kas_tail3 r.2.1 n r.1) fun r z => ?_
      obtain ⟨k', rfl, d3, d4, d5⟩ := z
      exact tail3_run hρ h (Nat.le_of_succ_le d3) (Nat.le_trans d4 (Nat.le_of_eq e2n)) d5
theorem mid_rng {l r : Nat} (h : l < r) : l ≤ (l + r) / 2 ∧ (l + r) / 2 < r := by omega
theorem place_run {p : Array Nat} (h : Ord' n p) {k : Nat} (hk : k < n) (ha : Asc ρ p k) (f : Nat) : ∀ l r, r - l ≤ f → l ≤ r → r ≤ k → (∀ i, i < l → ρ (p.getD i 0) ≤ ρ (p.getD k 0)) → (∀ i, r ≤ i → i < k → ρ (p.getD k 0) < ρ (p.getD i 0)) →
    KOk n ρ (fun q => q ≤ k ∧ (∀ i, i < q → ρ (p.getD i 0) ≤ ρ (p.getD k 0)) ∧ (∀ i, q ≤ i → i < k → ρ (p.getD k 0) < ρ (p.getD i 0))) (kas_place p k f l r) := by
  induction f with
  | zero => exact fun l r hf hlr hr h1 h2 => ⟨trivial, Nat.le_trans hlr hr, h1, fun i hi hik => h2 i (Nat.le_trans (Nat.le_of_sub_eq_zero (Nat.le_zero.mp hf)) hi) hik⟩
  | succ f ih =>
    intro l r hf hlr hr h1 h2
    show KOk n ρ _ (if l ≥ r then .ret l else .ask (p.getD k 0) (p.getD ((l + r) / 2) 0) fun c => if c = true then kas_place p k f l ((l + r) / 2) else kas_place p k f ((l + r) / 2 + 1) r)
    by_cases hc : l ≥ r
    · rw [if_pos hc]
      exact ⟨trivial, Nat.le_trans hlr hr, h1, fun i hi hik => h2 i (Nat.le_trans hc hi) hik⟩
    · rw [if_neg hc]
      obtain ⟨m1, m2⟩ := mid_rng (Nat.lt_of_not_le hc)
      generalize (l + r) / 2 = md at m1 m2 ⊢
      have mk := Nat.lt_of_lt_of_le m2 hr
      have mn := Nat.lt_trans mk hk
      refine KOk.ask (h.lo _ hk) (h.lo _ mn) (h.ne _ _ hk mn (Nat.ne_of_gt mk)) (fun hm => ?_) fun hm => ?_
      · exact ih l md (Nat.le_of_lt_succ (Nat.lt_of_lt_of_le (Nat.sub_lt_sub_right m1 m2) hf)) m1 (Nat.le_of_lt mk) h1 fun i hi hik => (Nat.lt_or_eq_of_le hi).elim (fun e => Nat.lt_trans hm (ha _ _ e hik)) fun e => e ▸ hm
      · have hm' := Nat.le_of_not_lt hm
        exact ih (md + 1) r (Nat.le_of_lt_succ (Nat.lt_of_lt_of_le (Nat.sub_lt_sub_left (Nat.lt_of_le_of_lt m1 m2) (Nat.lt_succ_of_le m1)) hf)) m2 hr (fun i hi => (Nat.lt_or_eq_of_le (Nat.le_of_lt_succ hi)).elim (fun e => Nat.le_trans (Nat.le_of_lt (ha _ _ e mk)) hm') fun e => e ▸ hm') h2
theorem bubble_asc (hρ : ∀ i j, i < n → j < n → ρ i = ρ j → i = j) {p : Array Nat} (h : Ord' n p) {k l : Nat} (hk : k < n) (hl : l ≤ k) (ha : Asc ρ p k) (h1 : ∀ i, i < l → ρ (p.getD i 0) ≤ ρ (p.getD k 0)) (h2 : ∀ i, l ≤ i → i < k → ρ (p.getD k 0) < ρ (p.getD i 0)) : Asc ρ (bubble p k (k - l)) (k + 1) := by
  have e := getElem?_bubble (xs := p) (src := k) (h.sz.symm ▸ hk) (k - l) (Nat.sub_le k l)
  rw [Nat.sub_sub_self hl] at e
  have blt : ∀ {i}, i < l → (bubble p k (k - l)).getD i 0 = p.getD i 0 := fun a => getD_of ((e _).trans ((if_neg (Nat.ne_of_lt a)).trans (if_neg fun h => Nat.lt_asymm a h.1)))
  have beq : (bubble p k (k - l)).getD l 0 = p.getD k 0 := getD_of ((e l).trans (if_pos rfl))
  have bgt : ∀ {i}, l < i → i ≤ k → (bubble p k (k - l)).getD i 0 = p.getD (i - 1) 0 := fun b c => getD_of ((e _).trans ((if_neg (Nat.ne_of_gt b)).trans (if_pos ⟨b, c⟩)))
  have dn : ∀ {i}, l < i → i ≤ k → i - 1 < k := fun b c => Nat.lt_of_lt_of_le (Nat.sub_lt (Nat.zero_lt_of_lt b) Nat.one_pos) c
  intro i j hij hj
  have hjk := Nat.le_of_lt_succ hj
  rcases Nat.lt_trichotomy i l with a | rfl | a
  · have ik := Nat.lt_of_lt_of_le a hl
    rw [blt a]
    rcases Nat.lt_trichotomy j l with b | rfl | b
    · rw [blt b]; exact ha _ _ hij (Nat.lt_of_lt_of_le b hl)
    · rw [beq]
      exact Nat.lt_of_le_of_ne (h1 i a) fun q => h.ne _ _ (Nat.lt_trans ik hk) hk (Nat.ne_of_lt ik) (hρ _ _ (h.lo _ (Nat.lt_trans ik hk)) (h.lo _ hk) q)
    · rw [bgt b hjk]; exact ha _ _ (Nat.lt_of_lt_of_le a (Nat.le_sub_one_of_lt b)) (dn b hjk)
  · rw [beq, bgt hij hjk]; exact h2 _ (Nat.le_sub_one_of_lt hij) (dn hij hjk)
  · have b := Nat.lt_trans a hij
    rw [bgt a (Nat.le_trans (Nat.le_of_lt hij) hjk), bgt b hjk]
    exact ha _ _ (Nat.sub_lt_sub_right (Nat.zero_lt_of_lt a) hij) (dn b hjk)
theorem bin_run (hρ : ∀ i j, i < n → j < n → ρ i = ρ j → i = j) (f : Nat) : ∀ k (p : Array Nat), Ord' n p → 1 ≤ k → k + f = n → Asc ρ p k → KOk n ρ (fun q => Ord' n q ∧ Asc ρ q n) (kas_bin f p k) := by
  induction f with
  | zero => intro k p h _ hk ha; subst hk; exact ⟨trivial, h, ha⟩
  | succ f ih =>
    intro k p h h1 hk ha
    obtain ⟨hkn, _⟩ := lt_up (Nat.le_of_eq hk)
    exact (place_run h hkn ha k 0 k (Nat.le_refl _) (Nat.zero_le _) (Nat.le_refl _) (fun i hi => absurd hi (Nat.not_lt_zero _)) fun i hi hik => absurd hik (Nat.not_lt.mpr hi)).bind fun l z =>
      ih (k + 1) _ (ord_bubble h k (k - l)) (Nat.le_add_left 1 k) ((Nat.add_right_comm k 1 f).trans hk) (bubble_asc hρ h hkn z.1 ha z.2.1 z.2.2)
theorem sort_run (hρ : ∀ i j, i < n → j < n → ρ i = ρ j → i = j) (h1 : 1 ≤ n) : KOk n ρ (fun q => Ord' n q ∧ Asc ρ q n) (kas_sort n) := by
  refine (count_run hρ (ord_range (n := n)) h1).bind (f := fun r => if r.1 < n then kas_bin (n - max r.1 1) r.2 (max r.1 1) else .ret r.2) fun r z => ?_
  obtain ⟨k, p⟩ := r
  obtain ⟨c3, c4, c5, c6⟩ := z
  show KOk n ρ _ (if k < n then kas_bin (n - max k 1) p (max k 1) else .ret p)
  rw [Nat.max_eq_left c3]
  by_cases hk : k < n
  · rw [if_pos hk]
    exact bin_run hρ (n - k) k p c5 c3 (Nat.add_sub_cancel' c4) c6
  · rw [if_neg hk]
    obtain rfl : k = n := Nat.le_antisymm c4 (Nat.not_lt.mp hk)
    exact ⟨trivial, c5, c6⟩
end
end
section
open PySem.AutoSeq1 (wpAny_loadPart')
open PySem.SeqAt MeetsSeq MeetsSeq2 MeetsSeq3
section
variable {prog : Program} {w : World} {A : Around} {E : Value → Shared → Prop} {s : Shared}
theorem rich_lt_str {a b : Str} {t u : Tok} {Q : Value → Shared → Prop} (h : Q (.bool (decide (a.cps.toList < b.cps.toList))) s) : wpAny (model prog w) A (richCompare .Lt (.str a t) (.str b u)) Q E s :=
  show wpAny (model prog w) A (compareOp .Lt (.str a t) (.str b u)) Q E s from PyProof.Rows.lt_str h
theorem lt_body {x y : Addr} {a b : Str} {t u : Tok} {c d : Nat} {R : Result → Shared → Prop} (hx : s.heap.get? x = some (listOf #[.str a t] c)) (hy : s.heap.get? y = some (listOf #[.str b u] d)) (hne : a ≠ b)
    (h : R (.ok (.ret (.bool (decide (a.cps.toList < b.cps.toList))))) s) :
    codeAny (model prog w) A (.builtin "list.__eq__.loop" ⟨[.ref x, .ref y, rawInt 0, rawInt 0], []⟩) R s := by
  refine codeAny_builtin entry_eq_loop ?_
  rw [Around.under_plainId plain_eq_loop _]
  have hab : ¬ decide (a = b) = true := by simpa using hne
  show wpAny _ A.in1 (Builtin.List.listItems (.ref x) >>= _) _ _ _
  refine wpAny_bind (listItems_at hx rfl ?_)
  show wpAny _ A.in1 (Builtin.List.listItems (.ref y) >>= _) _ _ _
  refine wpAny_bind (listItems_at hy rfl ?_)
  show wpAny _ A.in1 (eqBool (.str a t) (.str b u) >>= _) _ _ _
  refine wpAny_bind (wpAny_eqBool_str ?_)
  rw [if_neg hab]
  show wpAny _ A.in1 (Builtin.List.listItems (.ref x) >>= _) _ _ _
  refine wpAny_bind (listItems_at hx rfl ?_)
  show wpAny _ A.in1 (Builtin.List.listItems (.ref y) >>= _) _ _ _
  refine wpAny_bind (listItems_at hy rfl ?_)
  show wpAny _ A.in1 (richCompare .Lt (.str a t) (.str b u) >>= _) _ _ _
  refine wpAny_bind (rich_lt_str ?_)
  exact wpAny_pure h
theorem lt_lists {x y : Addr} {a b : Str} {t u : Tok} {c d : Nat} {Q : Bool → Shared → Prop} (hu : A.units < cLine) (hx : s.heap.get? x = some (listOf #[.str a t] c)) (hy : s.heap.get? y = some (listOf #[.str b u] d)) (hne : a ≠ b)
    (h : Q (decide (a.cps.toList < b.cps.toList)) s) : wpAny (model prog w) A (keyLt' oneType' (.ref x) (.ref y)) Q E s := by
  have hT : s.TypeIs (.ref x) "list" := ⟨_, hx, rfl⟩
  have hTy : s.TypeIs (.ref y) "list" := ⟨_, hy, rfl⟩
  rw [keyLt'_oneType, oneLt'_eq]
  simp only [if_true]
  refine wpAny_bind (wpAny_cRoomFor hu ?_)
  refine wpAny_bind (wpAny_callSpecialIfBound?_slot hT PySem.F.slot_list_lt (wpAny_call (codeAny_call_builtin PySem.F.slot_list_lt.plain PySem.F.entry_list_lt (PySem.F.slot_list_lt.check _ _ _ _ _ _ _ _ hT (PySem.F.args_list_lt_2 _ _) ?_))))
  show wpAny _ A.in1 (isInstance (.ref y) (.type "list") >>= _) _ _ _
  refine wpAny_bind (wpAny_isInstance (T := "list") (b := true) hTy (by rw [isSubtype_type]; kernel_rfl) ?_)
  refine wpAny_pure ⟨plainId_quiet plain_eq_loop _, ?_⟩
  refine lt_body hx hy hne ?_
  show wpAny _ _ (truthOfDropped (.bool _)) _ _ _
  exact wpAny_truthy_bool h
end
theorem kRun_congr {α : Type} {n : Nat} {lt lt' : Nat → Nat → Bool} (h : ∀ i j, i < n → j < n → i ≠ j → lt i j = lt' i j) : ∀ t : KasT α, kIn n lt t → kRun lt t = kRun lt' t ∧ kIn n lt' t
  | .ret _, _ => ⟨rfl, trivial⟩
  | .ask i j k, hin => by
    have e := h i j hin.1 hin.2.1 hin.2.2.1
    obtain ⟨a, b⟩ := kRun_congr h (k (lt i j)) hin.2.2.2
    refine ⟨?_, hin.1, hin.2.1, hin.2.2.1, ?_⟩
    · show kRun lt (k (lt i j)) = kRun lt' (k (lt' i j))
      rw [a, e]
    · rw [← e]; exact b
noncomputable def keyD (ss : List Str) (i : Nat) : List Nat := (ss.getD i Str.empty).cps.toList
noncomputable def ltD (ss : List Str) (i j : Nat) : Bool := decide (keyD ss i < keyD ss j)
noncomputable def rankD (ss : List Str) (i : Nat) : Nat := ((List.range ss.length).filter fun j => ltD ss j i).length
theorem filter_lt {α : Type} {p q : α → Bool} : ∀ (l : List α), (∀ x ∈ l, p x = true → q x = true) → (∃ x ∈ l, p x = false ∧ q x = true) → (l.filter p).length < (l.filter q).length
  | [], _, h => by obtain ⟨x, hx, _⟩ := h; cases hx
  | y :: l, hpq, h => by
    have hle : (l.filter p).length ≤ (l.filter q).length := by
      clear h
      induction l with
      | nil => simp
      | cons z l ih =>
        have ih := ih fun x hx => hpq x (by simp at hx ⊢; rcases hx with h | h <;> simp [h])
        have hz := hpq z (by simp)
        rw [List.filter_cons, List.filter_cons]
        by_cases h1 : p z = true
        · rw [if_pos h1, if_pos (hz h1)]; simp; exact ih
        · rw [if_neg h1]
          split
          · simp; omega
          · exact ih
    obtain ⟨x, hx, h1, h2⟩ := h
    rw [List.filter_cons, List.filter_cons]
    rcases List.mem_cons.mp hx with rfl | hx
    · rw [if_neg (by rw [h1]; decide), if_pos h2]; simp; omega
    · have ih := filter_lt l (fun x hx => hpq x (List.mem_cons_of_mem _ hx)) ⟨x, hx, h1, h2⟩
      by_cases h3 : p y = true
      · rw [if_pos h3, if_pos (hpq y (List.mem_cons_self ..) h3)]; simp; omega
      · rw [if_neg h3]
        split
        · simp; omega
        · exact ih
theorem rank_lt {ss : List Str} {i j : Nat} (hi : i < ss.length) (h : keyD ss i < keyD ss j) : rankD ss i < rankD ss j := by
  refine filter_lt _ (fun x _ hx => ?_) ⟨i, List.mem_range.mpr hi, ?_, ?_⟩
  · exact decide_eq_true (List.lt_trans (of_decide_eq_true hx) h)
  · exact decide_eq_false (List.lt_irrefl _)
  · exact decide_eq_true h
theorem keyD_inj {ss : List Str} (hnd : ss.Nodup) {i j : Nat} (hi : i < ss.length) (hj : j < ss.length) (h : keyD ss i = keyD ss j) : i = j := by
  have e1 : ss.getD i Str.empty = ss[i] := by simp [List.getD, hi]
  have e2 : ss.getD j Str.empty = ss[j] := by simp [List.getD, hj]
  unfold keyD at h
  rw [e1, e2] at h
  have e3 : ss[i] = ss[j] := by
    have := Array.toList_inj.mp h
    cases h1 : ss[i]; cases h2 : ss[j]
    rw [h1, h2] at this
    simpa using this
  have nd2 := List.pairwise_iff_getElem.mp hnd
  rcases Nat.lt_trichotomy i j with q | q | q
  · exact absurd e3 (nd2 i j hi hj q)
  · exact q
  · exact absurd e3.symm (nd2 j i hj hi q)
theorem rank_eq : ∀ {ss : List Str} (hnd : ss.Nodup) {i j : Nat} (hi : i < ss.length) (hj : j < ss.length) (hij : i ≠ j), rl (rankD ss) i j = ltD ss i j := by
  have skon : SkOn := .mk
  intro ss hnd i j hi hj hij
  rcases Classical.em (keyD ss i < keyD ss j) with h | h
  · have := rank_lt hi h
    rw [rl, ltD, decide_eq_true this, decide_eq_true h]
  · have h2 : keyD ss j < keyD ss i := by
      rcases List.le_iff_lt_or_eq.mp (List.not_lt.mp h) with q | q
      · exact q
      · exact absurd (keyD_inj hnd hj hi q).symm hij
    have := rank_lt hj h2
    rw [rl, ltD, decide_eq_false (by omega), decide_eq_false h]
theorem str_sort : ∀ {ss : List Str} (hnd : ss.Nodup) (h1 : 1 ≤ ss.length), kIn ss.length (ltD ss) (kas_sort ss.length) ∧ Ord' ss.length (kRun (ltD ss) (kas_sort ss.length)) ∧ ∀ i j, i < j → j < ss.length → keyD ss ((kRun (ltD ss) (kas_sort ss.length)).getD i 0) < keyD ss ((kRun (ltD ss) (kas_sort ss.length)).getD j 0) := by
  have skon : SkOn := .mk
  intro ss hnd h1
  have hρ : ∀ i j, i < ss.length → j < ss.length → rankD ss i = rankD ss j → i = j := fun i j hi hj e => by
    rcases Classical.em (i = j) with q | q
    · exact q
    · have a := rank_eq hnd hi hj q
      have b := rank_eq hnd hj hi (Ne.symm q)
      rw [rl, e, decide_eq_false (Nat.lt_irrefl _)] at a
      rw [rl, e, decide_eq_false (Nat.lt_irrefl _)] at b
      have a' := of_decide_eq_false a.symm
      have b' := of_decide_eq_false b.symm
      exact keyD_inj hnd hi hj (List.le_antisymm (List.not_lt.mp b') (List.not_lt.mp a'))
  obtain ⟨r1, r2, r3⟩ := sort_run hρ h1
  obtain ⟨c1, c2⟩ := kRun_congr (fun i j hi hj hij => rank_eq hnd hi hj hij) _ r1
  rw [← c1]
  refine ⟨c2, r2, fun i j hij hj => ?_⟩
  have hr := r3 i j hij hj
  have hi' := r2.lo i (by omega)
  have hj' := r2.lo j hj
  have hne := r2.ne i j (by omega) hj (by omega)
  have q := rank_eq hnd hi' hj' hne
  rw [rl, decide_eq_true hr] at q
  exact of_decide_eq_true q.symm
end
section
noncomputable def KeyL (cur : Led) (ks done : List Value) : Prop := ks.length = done.length ∧ ∀ (i : Nat) (v : Value), done[i]? = some v → ∃ (q : Addr) (k : Str) (t t' : Tok) (c : Nat), v = .str k t ∧ ks[i]? = some (.ref q) ∧ (q, listOf #[.str k t'] c) ∈ cur
theorem updF_at {d : Addr} {o : Obj} : ∀ {pre post : Led}, (∀ p ∈ pre, p.1 ≠ d) → (∀ p ∈ post, p.1 ≠ d) → UpdF d o (pre ++ (d, o) :: post) (fun o' => pre ++ (d, o') :: post)
  | [], _, _, h => .head h
  | p :: pre, _, h1, h2 => .tail (h1 p (.head _)) (updF_at (fun q hq => h1 q (.tail _ hq)) h2)
section
variable {prog : Program} {w : World} {A : Around} {E : Value → Shared → Prop} {s : Shared} {h₀ : Heap} {L : Addr} {m : Str → Option Value} {news : Led} {f : Value}
/-- what a key function that makes a list of its text does -/
noncomputable def KeyFn (prog : Program) (w : World) (A : Around) (h₀ : Heap) (L : Addr) (m : Str → Option Value) (news : Led) (f : Value) (P : Str → Prop) : Prop :=
  ∀ (k : Str) (t : Tok) (cur : Led) (s' : Shared) (Q' : Value → Shared → Prop), P k → Fr h₀ L s'.heap m → News h₀ L s'.heap cur → (∀ p ∈ news, p ∈ cur) →
    (∀ q t' c J h' tk', Fr h₀ L h' m → News h₀ L h' ((q, listOf #[.str k t'] c) :: J ++ cur) → (∀ p ∈ (q, listOf #[.str k t'] c) :: J, ∀ p' ∈ cur, p.1 ≠ p'.1) → Q' (.ref q) { s' with heap := h', toks := tk' }) →
    wpAny (model prog w) A (call f [.str k t]) Q' (fun _ _ => False) s'
theorem keys_all {P : Str → Prop} {kS D : Addr} {oD : Obj} (hf : KeyFn prog w A h₀ L m news f P) (hkD : kS ≠ D) {Fin : List Value → Nat → Shared → Prop} {vs : List Value} {s0 : Shared}
    (hfin : ∀ ks e ex h tk, KeyL ex ks vs → Fr h₀ L h m → News h₀ L h ((kS, seqObj "list" (List.toArray ks) e) :: (D, oD) :: (ex ++ news)) → (∀ p ∈ ex ++ news, p.1 ≠ kS ∧ p.1 ≠ D) → (∀ p ∈ ex, ∀ p' ∈ news, p.1 ≠ p'.1) → Fin ks e { s0 with heap := h, toks := tk }) :
    ∀ (r done ks : List Value) (e : Nat) (ex : Led) (h : Heap) (tk : Nat), done ++ r = vs → (∀ v ∈ r, ∃ k t, v = .str k t ∧ P k) → KeyL ex ks done → Fr h₀ L h m → News h₀ L h ((kS, seqObj "list" (List.toArray ks) e) :: (D, oD) :: (ex ++ news)) → (∀ p ∈ ex ++ news, p.1 ≠ kS ∧ p.1 ≠ D) → (∀ p ∈ ex, ∀ p' ∈ news, p.1 ≠ p'.1) →
      KatKeys prog w A h₀ L m kS f Fin r ks e { s0 with heap := h, toks := tk }
  | [], done, ks, e, ex, h, tk, hd, _, hk, F, N, ho, hx => KatKeys.nil (hfin ks e ex h tk (by rw [← hd, List.append_nil]; exact hk) F N ho hx)
  | v :: r, done, ks, e, ex, h, tk, hd, hr, hk, F, N, ho, hx => by
    obtain ⟨k, t, rfl, hP⟩ := hr v (.head _)
    refine KatKeys.cons (hf k t _ _ _ hP F N (fun p hp => .tail _ (.tail _ (List.mem_append_right _ hp))) fun q t' c J h' tk' F' N' hnew => ?_)
    have hkS : ∀ p ∈ (q, listOf #[.str k t'] c) :: J, p.1 ≠ kS := fun p hp => hnew p hp _ (.head _)
    have hD : ∀ p ∈ (q, listOf #[.str k t'] c) :: J, p.1 ≠ D := fun p hp => hnew p hp _ (.tail _ (.head _))
    refine KatBack.intro F' N' (updF_at hkS (fun p hp => ?_)) fun h2 c2 F2 N2 => ?_
    · rcases List.mem_cons.mp hp with rfl | hp
      · exact fun e => hkD e.symm
      · exact (ho p hp).1
    · refine keys_all hf hkD hfin r (done ++ [.str k t]) (ks ++ [.ref q]) c2 (((q, listOf #[.str k t'] c) :: J) ++ ex) h2 tk' (by simp [hd]) (fun v hv => hr v (.tail _ hv)) ?_ F2 (fun p hp => N2 p ?_) ?_ ?_
      · refine ⟨by simp [hk.1], fun i v hv => ?_⟩
        rcases Nat.lt_or_ge i done.length with hi | hi
        · rw [List.getElem?_append_left hi] at hv
          obtain ⟨q', k', t1, t2, c', a1, a2, a3⟩ := hk.2 i v hv
          exact ⟨q', k', t1, t2, c', a1, by rw [List.getElem?_append_left (by rw [hk.1]; exact hi)]; exact a2, List.mem_append_right _ a3⟩
        · rw [List.getElem?_append_right hi] at hv
          have hi0 : i - done.length = 0 := by
            rcases Nat.eq_zero_or_pos (i - done.length) with h | h
            · exact h
            · rw [List.getElem?_eq_none (by simp; omega)] at hv; cases hv
          rw [hi0] at hv
          cases hv
          refine ⟨q, k, t, t', c, rfl, ?_, List.mem_append_left _ (.head _)⟩
          rw [List.getElem?_append_right (by rw [hk.1]; exact hi), hk.1, hi0]
          rfl
      · simp only [List.mem_cons, List.mem_append, List.cons_append] at hp ⊢
        grind
      · intro p hp
        rw [List.append_assoc] at hp
        rcases List.mem_append.mp hp with hp | hp
        · exact ⟨hkS p hp, hD p hp⟩
        · exact ho p hp
      · intro p hp p' hp'
        rcases List.mem_append.mp hp with hp | hp
        · exact hnew p hp p' (.tail _ (.tail _ (List.mem_append_right _ hp')))
        · exact hx p hp p' hp'
theorem look_list {M : Model} {h : Heap} {q : Addr} {xs : Array Value} {c : Nat} (hq : h.get? q = some (listOf xs c)) : Looks M h (typeOf (.ref q)) (.type "list") := Looks.ld hq |>.andThen .now
/-- the end of a sort whose keys are lists of one text each -/
theorem keyed_end {kS D : Addr} {e1 e : Nat} {vs ks : List Value} {ss : List Str} {ex : Led} {P : PySem.Fin → Shared → Prop} (hu : A.units < cLine) (hv : vs.map kOf = ss) (hnd : ss.Nodup) (hk : KeyL ex ks vs) (h1 : 1 ≤ vs.length) (h64 : vs.length < 64)
    (F : Fr h₀ L s.heap m) (N : News h₀ L s.heap ((kS, seqObj "list" (List.toArray ks) e) :: (D, seqObj "list" #[] e1) :: (ex ++ news))) (ho : ∀ p ∈ ex ++ news, p.1 ≠ kS ∧ p.1 ≠ D) (hkD : kS ≠ D)
    (h : ∀ (out : List Value) (c : Nat) (h' : Heap), out.Perm vs → Fr h₀ L h' m → News h₀ L h' ((D, listOf out.toArray c) :: (ex ++ news)) → P (.done (.ret .none)) { s with heap := h' }) :
    wpAny (model prog w) A (ksk_end D false vs.toArray e1 (.ref kS) (List.toArray ks)) P E s := by
  have fin : ∀ (out : List Value), out.Perm vs → KatFin h₀ L m kS D ks e e1 out (fun s' => P (.done (.ret .none)) s') s := fun out hp => by
    refine KatFin.intro F N (UpdF.head fun p hp => ?_) fun h' c F' N' => ?_
    · rcases List.mem_cons.mp hp with rfl | hp
      · exact fun e => hkD e.symm
      · exact (ho p hp).1
    · refine KasFin.intro F' (fun p hp => N' p (.tail _ hp)) (UpdF.head fun p hp => (ho p hp).2) fun h2 c2 F2 N2 => h out c2 h2 hp F2 N2
  rcases Nat.lt_or_ge vs.length 2 with h2 | h2
  · unfold ksk_end
    try dsimp only
    rw [if_neg Bool.false_ne_true]
    have hz : vs.toArray.size < 2 := by rw [List.size_toArray]; exact h2
    rw [if_pos hz, if_pos hz]
    refine wpAny_bind (wpAny_pure ?_)
    refine wpAny_bind ?_
    show wpAny _ _ (pure ((), SortSt.mk' general' ((List.toArray ks).zip vs.toArray) #[] 7 none)) _ _ _
    refine wpAny_pure ?_
    refine kat_tail (b := false) (out := vs) (ks := ks) ?_ h64 (by rw [hk.1]; exact h64) rfl (fin vs (List.Perm.refl _))
    apply Array.toList_inj.mp
    show (((List.toArray ks).zip vs.toArray).map (·.2)).toList = vs
    simp only [Array.toList_map, Array.toList_zip, List.toList_toArray]
    exact List.map_snd_zip (by rw [hk.1]; exact Nat.le_refl _)
  · refine kat_end (h₀ := h₀) (L := L) (m := m) (e := e) (b := false) hk.1 h2 h64 ?_
    have hlen : ss.length = vs.length := by rw [← hv, List.length_map]
    have at' : ∀ i, i < vs.length → ∃ q k t' c, ks.getD i Value.none = .ref q ∧ s.heap.get? q = some (listOf #[.str k t'] c) ∧ keyD ss i = k.cps.toList ∧ ss.getD i Str.empty = k := fun i hi => by
      obtain ⟨q, k, t, t', c, a1, a2, a3⟩ := hk.2 i vs[i] (List.getElem?_eq_getElem hi)
      have e1 : ss.getD i Str.empty = k := by
        rw [List.getD_eq_getElem?_getD, ← hv, List.getElem?_map, List.getElem?_eq_getElem hi, a1]; rfl
      refine ⟨q, k, t', c, by rw [List.getD_eq_getElem?_getD, a2]; rfl, (N _ (.tail _ (.tail _ (List.mem_append_left _ a3)))).1, by unfold keyD; rw [e1], e1⟩
    refine kas_kind (T := .type "list") (by rw [hk.1]; exact h2) (fun v hv' => ?_) (by decide) (by decide) ?_
    · obtain ⟨i, hi, rfl⟩ := List.mem_iff_getElem.mp hv'
      obtain ⟨q, k, t', c, b1, b2, _⟩ := at' i (by rw [← hk.1]; exact hi)
      have : ks.getD i Value.none = ks[i] := by simp [List.getD, hi]
      rw [← this, b1]
      exact look_list b2
    · obtain ⟨r1, r2, r3⟩ := str_sort (ss := ss) hnd (by omega)
      rw [hlen] at r1 r2 r3
      refine kWp (n := vs.length) (lt := ltD ss) (I := fun s' => s' = s) (fun i j C s' hi hj hij hs hc => ?_) _ s r1 rfl fun s' hs => ?_
      · subst hs
        obtain ⟨q1, k1, t1, c1, a1, a2, a3, a4⟩ := at' i hi
        obtain ⟨q2, k2, t2, c2, b1, b2, b3, b4⟩ := at' j hj
        show wpAny (model prog w) A (keyLt' oneType' ((katRev false ks).getD i Value.none) ((katRev false ks).getD j Value.none)) C _ s'
        have e0 : katRev false ks = ks := rfl
        rw [e0, a1, b1]
        refine lt_lists hu a2 b2 (fun e => hij (keyD_inj hnd (by omega) (by omega) (by rw [a3, b3, e]))) ?_
        have := hc s' rfl
        rw [ltD, a3, b3] at this
        exact this
      · subst hs
        refine fin _ ?_
        have e0 : katRev false vs = vs := rfl
        rw [show ∀ l : List Value, katRev false l = l from fun _ => rfl, e0]
        have e1 : (List.range vs.length).map (fun i => vs.getD i Value.none) = vs := by
          refine List.ext_getElem (by simp) fun i h1 h2 => ?_
          simp only [List.length_map, List.length_range] at h1
          simp [List.getD, h1]
        have := r2.pm.map fun i => vs.getD i Value.none
        rw [e1] at this
        exact this
end
end
section
section
variable {prog : Program} {w : World} {A : Around} {E : Value → Shared → Prop} {s : Shared} {h₀ : Heap} {L : Addr} {m : Str → Option Value} {news : Led} {f : Value}
theorem keyed_rest {a kS : Addr} {e1 : Nat} {vs : List Value} {P : PySem.Fin → Shared → Prop} (hk : s.heap.get? kS = some (seqObj "list" #[] 0)) (h64 : vs.length < 64)
    (h : KatKeys prog w A h₀ L m kS f (fun ks _ s' => wpAny (model prog w) A (ksk_end a false vs.toArray e1 (.ref kS) (List.toArray ks)) P E s') vs [] 0 s) :
    wpAny (model prog w) A (ksk_rest a f false vs.toArray e1 (.ref kS)) P E s := by
  unfold ksk_rest
  refine wpAny_bind (wpAny_rule ?_)
  first
    | rw [List.forIn_toArray]
    | (rw [← Array.forIn_toList]; simp only [List.toList_toArray])
    | rw [← Array.forIn_toList]
  refine wpAny_bind (wpAny_mono (kat_fold h64 (fun x ks e s' C hz hx => ?_) vs [] 0 s (by simp) hk h) (fun _ s' hd => ?_) fun _ _ x => x)
  · refine wpAny_bind (wpAny_attempt (wpAny_mono hx (fun k s'' hk => ?_) fun _ _ hF => hF.elim))
    obtain ⟨news', g, F', N', U, c⟩ := hk
    obtain ⟨pre, post, e0, hg, x1, x2⟩ := U.split
    rw [e0] at N'
    have nk := N' (kS, seqObj "list" (List.toArray ks) e) (List.mem_append_right _ (.head _))
    have s1 := Heap.SameBut.update s''.heap kS (Obj.mapSeq (·.push k))
    have ea : (List.toArray ks).push k = List.toArray (ks ++ [k]) := by simp
    obtain ⟨c2, hc2⟩ : ∃ c2, (s''.heap.update kS (Obj.mapSeq (·.push k))).get? kS = some (seqObj "list" (List.toArray (ks ++ [k])) c2) := ⟨_, by rw [← ea]; exact get?_update_seq nk.1 (·.push k)⟩
    try dsimp only
    refine wpAny_bind (listUpdate_at nk.1 rfl ?_ (by rw [List.size_toArray, sizeLine_eq]; omega) (Nat.le_trans (Nat.le_of_eq (Array.size_push ..)) (by rw [List.size_toArray, sizeLine_eq]; omega)))
    exact wpAny_pure ⟨rfl, k, c2, hc2, c _ c2 (kas_fr F' s1 nk.2.1 nk.2.2) (by rw [hg]; exact news_set N' x1 x2 s1 hc2)⟩
  · obtain ⟨ks, e, hk', hl, fin⟩ := hd
    try dsimp only
    exact wpAny_bind (listItems_at hk' rfl fin)
/-- sorted(set of texts, key=..), the key a list of the text -/
theorem sorted_set : ∀ {prog : Program} {w : World} {A : Around} {E : Value → Shared → Prop} {s : Shared} {h₀ : Heap} {L : Addr} {m : Str → Option Value} {news : Led} {S fa : Addr} {ks : List Str} {Q : Value → Shared → Prop} (hh : A.handled = none) (hu : A.units + 64 < cLine) (F : Fr h₀ L s.heap m) (N : News h₀ L s.heap news) (hS : SetP prog w s.heap S ks) (hne : ks ≠ []) (hn : ks.length < 64) (hf : KeyFn prog w A.in1.in1 h₀ L m news (.ref fa) (fun k => k ∈ ks)) (h : ∀ D (out : List Value) c ex h' dr tk, Fr h₀ L h' m → News h₀ L h' ((D, listOf out.toArray c) :: (ex ++ news)) → (∀ p ∈ (D, listOf out.toArray c) :: ex, ∀ p' ∈ news, p.1 ≠ p'.1) → (∀ p ∈ ex, p.1 ≠ D) → (out.map kOf).Perm ks → (∀ v ∈ out, ∃ k t, v = .str k t ∧ k ∈ ks) → Q (.ref D) { s with heap := h', drawn := dr, toks := tk }), wpAny (model prog w) A (call (.builtin "sorted") [.ref S] [(Str.ofString "key", .ref fa)]) Q E s := by
  have skon : SkOn := .mk
  intro prog w A E s h₀ L m news S fa ks Q hh hu F N hS hne hn hf h
  have hnd : ks.Nodup := by obtain ⟨_, _, _, _, _, _, _, _, _, hnd, _⟩ := hS; exact hnd
  refine call_function_entry_kw kind_sorted plain_sorted entry_sorted (ksk_s1 _ _) ?_
  unfold Builtin.«sorted»
  refine wpAny_bind (m := checkCount "sorted" 1 1 _) (wpAny_pure ?_)
  refine wpAny_bind (collect_set (A := A.in1) (by simpa using hh) hS hne (by omega) fun xs h1 dr tk hk hxp hxs => ?_)
  have hlen : xs.length = ks.length := by rw [← hxp.length_eq, List.length_map]
  have F1 : Fr h₀ L h1 m := F.kept hk
  have N1 : News h₀ L h1 news := fun p hp => ⟨hk _ _ (N p hp).1, (N p hp).2⟩
  have hxk : ∀ v ∈ xs, ∃ k t, v = .str k t ∧ k ∈ ks := fun v hv => by
    obtain ⟨k, t, rfl⟩ := hxs v hv
    exact ⟨k, t, rfl, hxp.mem_iff.mp (List.mem_map.mpr ⟨_, hv, rfl⟩)⟩
  refine wpAny_bind (wpAny_newList ?_ (by rw [sizeLine_eq]; omega))
  have ho : (h1.push (seqObj "list" xs.toArray 0)).get? h1.objs.size = some (seqObj "list" xs.toArray 0) := Heap.get?_push_size _ rfl
  have hLlt : @LT.lt Nat _ L h1.objs.size := F1.ns.lt
  have hDL : h1.objs.size ≠ L := Nat.ne_of_gt hLlt
  have hD0 : h₀.get? h1.objs.size = none := Heap.get?_none_of_le (Nat.le_trans F1.above (Nat.le_of_lt hLlt))
  have hlt : ∀ p ∈ news, @LT.lt Nat _ p.1 h1.objs.size := fun p hp => Heap.lt_size (N1 p hp).1
  dsimp only
  refine wpAny_bind (wpAny_holding (wpAny_call_entry_kw slot_list_sort ⟨_, ho, rfl⟩ entry_list_sort ?body (ksk_l1 _ _)))
  case body =>
    rw [ksk_t1]
    generalize hDe : h1.objs.size = D at *
    generalize hH : h1.push (seqObj "list" xs.toArray 0) = H at *
    have hHs : H.objs.size = D + 1 := by rw [← hH, Heap.size_push, hDe]
    have FH : Fr h₀ L H m := by rw [← hH]; exact F1.push _
    have NH : News h₀ L H news := fun p hp => by rw [← hH]; exact ⟨Heap.get?_push_of_some _ (N1 p hp).1, (N1 p hp).2⟩
    have s1 := Heap.SameBut.update H D (Obj.mapSeq fun _ => (#[] : Array Value))
    obtain ⟨e1, ho1⟩ : ∃ e1, (H.update D (Obj.mapSeq fun _ => (#[] : Array Value))).get? D = some (seqObj "list" #[] e1) := ⟨_, get?_update_seq ho fun _ => #[]⟩
    have F2 := kas_fr FH s1 hDL hD0
    have N2 := kas_news NH s1 fun p hp => Nat.ne_of_lt (hlt p hp)
    unfold ksk_tree
    refine wpAny_bind (listItems_at ho rfl ?_)
    refine wpAny_bind (listUpdate_at ho rfl ?_ (by rw [List.size_toArray, sizeLine_eq]; omega) (Nat.zero_le _))
    refine wpAny_bind (seqEpoch_at ho1 rfl ?_)
    refine wpAny_bind (wpAny_newTuple ?_ (by show xs.length ≤ _; rw [sizeLine_eq]; omega))
    refine wpAny_bind (wpAny_newList ?_ (Nat.zero_le _))
    refine wpAny_holding ?_
    dsimp only
    generalize hH2 : (H.update D (Obj.mapSeq fun _ => (#[] : Array Value))).push { cls := Value.type "tuple", data := Data.seq xs.toArray.toList.toArray } = H2
    have hH2s : H2.objs.size = D + 1 + 1 := by rw [← hH2, Heap.size_push, Heap.size_update, hHs]
    have up2 : ∀ b o, (H.update D (Obj.mapSeq fun _ => (#[] : Array Value))).get? b = some o → H2.get? b = some o := fun b o e => by rw [← hH2]; exact Heap.get?_push_of_some _ e
    have F3 : Fr h₀ L H2 m := by rw [← hH2]; exact F2.push _
    have hkD : H2.objs.size ≠ D := by rw [hH2s]; exact Nat.ne_of_gt (Nat.lt_succ_of_lt (Nat.lt_succ_self _))
    have hkL : H2.objs.size ≠ L := by rw [hH2s]; exact Nat.ne_of_gt (Nat.lt_succ_of_lt (Nat.lt_succ_of_lt hLlt))
    have hk0 : h₀.get? H2.objs.size = none := Heap.get?_none_of_le (Nat.le_trans F3.above (Nat.le_of_lt F3.ns.lt))
    have hoff : ∀ p ∈ news, p.1 ≠ H2.objs.size ∧ p.1 ≠ D := fun p hp => ⟨by rw [hH2s]; exact Nat.ne_of_lt (Nat.lt_succ_of_lt (Nat.lt_succ_of_lt (hlt p hp))), Nat.ne_of_lt (hlt p hp)⟩
    have hss : xs.map kOf = xs.map kOf := rfl
    refine keyed_rest (Heap.get?_push_size _ rfl) (by omega) (keys_all (prog := prog) (w := w) (oD := seqObj "list" #[] e1) (vs := xs) (s0 := { s with drawn := dr }) hf hkD (fun kk e ex h3 tk3 hkl F' N' ho' hx' => ?_) xs [] [] 0 [] _ _ rfl hxk ⟨rfl, fun i v hv => by simp at hv⟩ (F3.push _) ?_ hoff (fun p hp => nomatch hp))
    · refine keyed_end (h₀ := h₀) (L := L) (m := m) (news := news) (ss := xs.map kOf) (ex := ex) (e := e) ?_ rfl (hxp.nodup_iff.mpr hnd) hkl (by rw [hlen]; exact List.length_pos_iff.mpr hne) (by omega) F' N' ho' hkD fun out c h4 hperm F4 N4 => ?_
      · show A.units + 1 + 1 < cLine
        omega
      · refine ⟨_, rfl, wpAny_pure ⟨_, rfl, h D out c ex h4 dr tk3 F4 N4 ?_ (fun p hp => (ho' p (List.mem_append_left _ hp)).2) ((hperm.map _).trans hxp) fun v hv => hxk v (hperm.mem_iff.mp hv)⟩⟩
        intro p hp p' hp'
        rcases List.mem_cons.mp hp with rfl | hp
        · exact fun e => (hoff p' hp').2 e.symm
        · exact hx' p hp p' hp'
    · intro p hp
      rcases List.mem_cons.mp hp with rfl | hp
      · exact ⟨Heap.get?_push_size _ rfl, hkL, hk0⟩
      · rcases List.mem_cons.mp hp with rfl | hp
        · exact ⟨Heap.get?_push_of_some _ (up2 _ _ ho1), hDL, hD0⟩
        · exact ⟨Heap.get?_push_of_some _ (up2 _ _ (N2 p hp).1), (N2 p hp).2⟩
end
end
section
section
variable {prog : Program} {w : World} {A : Around} {E : Value → Shared → Prop} {s : Shared} {h₀ : Heap} {L : Addr} {m : Str → Option Value} {news : Led}
theorem list_sort1 : ∀ {prog : Program} {w : World} {A : Around} {E : Value → Shared → Prop} {s : Shared} {h₀ : Heap} {L : Addr} {m : Str → Option Value} {news : Led} {a : Addr} {v : Value} {n : Nat} {P : PySem.Fin → Shared → Prop} (F : Fr h₀ L s.heap m) (N : News h₀ L s.heap news) (ho : s.heap.get? a = some (seqObj "list" #[v] n)) (haL : a ≠ L) (ha0 : h₀.get? a = none) (hna : ∀ p ∈ news, p.1 ≠ a) (h : ∀ c h', Fr h₀ L h' m → News h₀ L h' ((a, listOf #[v] c) :: news) → P (.done (.ret .none)) { s with heap := h' }), wpAny (model prog w) A (Builtin.«list.sort» ⟨[.ref a], []⟩) P E s := by
  have skon : SkOn := .mk
  intro prog w A E s h₀ L m news a v n P F N ho haL ha0 hna h
  have s1 := Heap.SameBut.update s.heap a (Obj.mapSeq fun _ => (#[] : Array Value))
  obtain ⟨e1, ho1⟩ : ∃ e1, (s.heap.update a (Obj.mapSeq fun _ => (#[] : Array Value))).get? a = some (seqObj "list" #[] e1) := ⟨_, get?_update_seq ho fun _ => #[]⟩
  have F1 := kas_fr F s1 haL ha0
  have N1 := kas_news N s1 hna
  rw [list_sort_plain]
  refine wpAny_bind (listItems_at ho rfl ?_)
  refine wpAny_bind (listUpdate_at ho rfl ?_ (by show (1 : Nat) ≤ _; rw [sizeLine_eq]; omega) (Nat.zero_le _))
  refine wpAny_bind (seqEpoch_at ho1 rfl ?_)
  refine wpAny_bind (wpAny_newTuple ?_ (by show (1 : Nat) ≤ _; rw [sizeLine_eq]; omega))
  refine wpAny_bind (wpAny_newList ?_ (Nat.zero_le _))
  refine wpAny_holding ?_
  generalize hH : ((s.heap.update a (Obj.mapSeq fun _ => (#[] : Array Value))).push { cls := Value.type "tuple", data := Data.seq (#[v] : Array Value).toList.toArray }).push (seqObj "list" #[] 0) = H
  have hup : ∀ b o, (s.heap.update a (Obj.mapSeq fun _ => (#[] : Array Value))).get? b = some o → H.get? b = some o := fun b o e => by rw [← hH]; exact Heap.get?_push_of_some _ (Heap.get?_push_of_some _ e)
  have F2 : Fr h₀ L H m := by rw [← hH]; exact (F1.push _).push _
  have N2 : News h₀ L H news := fun p hp => ⟨hup _ _ (N1 p hp).1, (N1 p hp).2⟩
  have ho2 := hup _ _ ho1
  show wpAny (model prog w) A _ P E { s with heap := H }
  dsimp only
  have hz : (#[v] : Array Value).size < 2 := by show (1 : Nat) < 2; omega
  rw [if_pos hz, if_pos hz]
  refine wpAny_bind (wpAny_pure ?_)
  refine wpAny_bind ?_
  show wpAny _ _ (pure ((), SortSt.mk' general' ((#[v] : Array Value).zip #[v]) #[] 7 none)) _ _ _
  refine wpAny_pure ?_
  dsimp only
  have hout : ((arrOf (SortSt.mk' general' ((#[v] : Array Value).zip #[v]) #[] 7 none)).map (·.2)) = #[v] := by
    show ((#[v] : Array Value).zip #[v]).map (·.2) = #[v]
    simp
  rw [hout]
  refine wpAny_bind (seqEpoch_at ho2 rfl ?_)
  have s2 := Heap.SameBut.update H a (Obj.mapSeq fun _ => (#[v] : Array Value))
  obtain ⟨c2, hc2⟩ : ∃ c2, (H.update a (Obj.mapSeq fun _ => (#[v] : Array Value))).get? a = some (seqObj "list" #[v] c2) := ⟨_, get?_update_seq ho2 fun _ => #[v]⟩
  refine wpAny_bind (listUpdate_at ho2 rfl ?_ (Nat.zero_le _) (by show (1 : Nat) ≤ _; rw [sizeLine_eq]; omega))
  show wpAny _ _ (if (e1 != e1) = true then _ else _) _ _ _
  simp only [bne_self_eq_false, Bool.false_eq_true, if_false]
  refine wpAny_pure (h c2 _ (kas_fr F2 s2 haL ha0) fun p hp => ?_)
  rcases List.mem_cons.mp hp with rfl | hp
  · exact ⟨hc2, haL, ha0⟩
  · exact (kas_news N2 s2 hna) p hp
theorem its_tups {h : Heap} : ∀ (I : List It), (∀ i ∈ I, h.get? i.a = some i.obj.2) → KatTups h (its I) (I.map fun i => Value.str i.k i.tk)
  | [], _ => KatTups.nil
  | i :: I, hI => KatTups.cons (hI i (.head _)) rfl rfl rfl (its_tups I fun j hj => hI j (.tail _ hj))
/-- list.sort of pairs whose first items are distinct texts -/
theorem sort_pairs : ∀ {prog : Program} {w : World} {A : Around} {E : Value → Shared → Prop} {s : Shared} {h₀ : Heap} {L : Addr} {m : Str → Option Value} {news : Led} {a : Addr} {I : List It} {n : Nat} {P : PySem.Fin → Shared → Prop} (F : Fr h₀ L s.heap m) (N : News h₀ L s.heap news) (ho : s.heap.get? a = some (seqObj "list" (its I).toArray n)) (haL : a ≠ L) (ha0 : h₀.get? a = none) (hna : ∀ p ∈ news, p.1 ≠ a) (hI : ∀ i ∈ I, i.obj ∈ news) (h1 : 1 ≤ I.length) (h64 : I.length < 64) (hnd : (I.map It.k).Nodup) (h : ∀ (I' : List It) c h', I'.Perm I → I'.Pairwise (fun i j => i.k.cps.toList < j.k.cps.toList) → Fr h₀ L h' m → News h₀ L h' ((a, listOf (its I').toArray c) :: news) → P (.done (.ret .none)) { s with heap := h' }), wpAny (model prog w) A (Builtin.«list.sort» ⟨[.ref a], []⟩) P E s := by
  have skon : SkOn := .mk
  intro prog w A E s h₀ L m news a I n P F N ho haL ha0 hna hI h1 h64 hnd h
  have hil : (its I).length = I.length := by simp [its]
  rcases Nat.lt_or_ge I.length 2 with h2 | h2
  · obtain ⟨i, rfl⟩ := List.length_eq_one_iff.mp (Nat.le_antisymm (Nat.le_of_lt_succ h2) h1)
    exact list_sort1 F N ho haL ha0 hna fun c h' F' N' => h [i] c h' (List.Perm.refl _) (List.pairwise_singleton ..) F' N'
  · refine kat_list_sort F N ho haL ha0 hna (by rw [hil]; exact h2) (by rw [hil]; exact h64) fun e1 h' F' N' => ?_
    have hT : ∀ i ∈ I, h'.get? i.a = some i.obj.2 := fun i hi => (N' _ (.tail _ (hI i hi))).1
    refine kat_kind (T := .type "str") (its_tups I hT) (by rw [List.length_map]; omega) (fun v hv => ?_) (by decide) ?_
    · obtain ⟨i, _, rfl⟩ := List.mem_map.mp hv
      exact Looks.of_pure rfl
    · have hlen : (I.map It.k).length = (its I).length := by rw [List.length_map, hil]
      obtain ⟨r1, r2, r3⟩ := str_sort (ss := I.map It.k) hnd (by rw [List.length_map]; omega)
      rw [hlen] at r1 r2 r3
      have at' : ∀ i, i < (its I).length → ∃ it, it ∈ I ∧ I[i]? = some it ∧ (its I).getD i Value.none = .ref it.a ∧ keyD (I.map It.k) i = it.k.cps.toList := fun i hi => by
        have hi' : i < I.length := by rw [← hil]; exact hi
        refine ⟨I[i], List.getElem_mem _, List.getElem?_eq_getElem _, ?_, ?_⟩
        · rw [List.getD_eq_getElem?_getD, its, List.getElem?_map, List.getElem?_eq_getElem hi']; rfl
        · unfold keyD; rw [List.getD_eq_getElem?_getD, List.getElem?_map, List.getElem?_eq_getElem hi']; rfl
      refine kWp (n := (its I).length) (lt := ltD (I.map It.k)) (I := fun s' => s' = { s with heap := h' }) (fun i j C s' hi hj hij hs hc => ?_) _ _ r1 rfl fun s' hs => ?_
      · subst hs
        obtain ⟨x, hx, _, a2, a3⟩ := at' i hi
        obtain ⟨y, hy, _, b2, b3⟩ := at' j hj
        show wpAny (model prog w) A (keyLt' (tuples' true) ((its I).getD i Value.none) ((its I).getD j Value.none)) C _ _
        rw [a2, b2]
        have hne : decide (x.k = y.k) = false := decide_eq_false fun e => hij (keyD_inj hnd (by omega) (by omega) (by rw [a3, b3, e]))
        refine kat_lt (hT x hx) rfl (hT y hy) rfl ?_
        show KatLex prog w A true _ C [(Value.str x.k x.tk, Value.str y.k y.tk), (Value.str x.v x.tv, Value.str y.v y.tv)] 0 _
        refine kat_cons (wpAny_eqBool_str ?_)
        rw [hne]
        refine kat_no ?_
        show wpAny _ _ (oneLt' true _ _) _ _ _
        refine oneLt_str ?_
        have := hc _ rfl
        rw [ltD, a3, b3] at this
        exact this
      · subst hs
        obtain ⟨x0, hx0⟩ : ∃ x0, x0 ∈ I := ⟨I[0], List.getElem_mem _⟩
        generalize hp : kRun (ltD (I.map It.k)) (kas_sort (its I).length) = p at r2 r3
        have hlo : ∀ k ∈ p.toList, k < I.length := fun k hk => by rw [← hil]; exact List.mem_range.mp (r2.pm.mem_iff.mp hk)
        have hpz : p.toList.length = I.length := by rw [r2.pm.length_eq, List.length_range, hil]
        have hits : (p.toList.map fun i => (its I).getD i Value.none) = its (p.toList.map fun i => I.getD i x0) := by
          unfold its
          rw [List.map_map]
          refine List.map_congr_left fun k hk => ?_
          have hk' := hlo k hk
          rw [List.getD_eq_getElem?_getD, List.getElem?_map, List.getElem?_eq_getElem hk']
          simp [List.getD, hk']
        rw [hits]
        refine KasFin.intro F' N' (UpdF.head hna) fun h2 c F2 N2 => h _ c h2 ?_ ?_ F2 N2
        · have e1 : (List.range I.length).map (fun i => I.getD i x0) = I := by
            refine List.ext_getElem (by simp) fun i q1 q2 => ?_
            simp only [List.length_map, List.length_range] at q1
            simp [List.getD, q1]
          have := r2.pm.map fun i => I.getD i x0
          rw [hil, e1] at this
          exact this
        · rw [List.pairwise_iff_getElem]
          intro i j hi hj hij
          simp only [List.length_map] at hi hj
          have q := r3 i j hij (by rw [hil, ← hpz]; exact hj)
          have g : ∀ k (hk : k < p.toList.length), p.getD k 0 = p.toList[k] := fun k hk => by
            have : k < p.size := by simpa using hk
            simp [Array.getD, this]
          rw [g i hi, g j hj] at q
          have g2 : ∀ k, k < I.length → keyD (I.map It.k) k = (I.getD k x0).k.cps.toList := fun k hk => by
            unfold keyD; rw [List.getD_eq_getElem?_getD, List.getElem?_map, List.getElem?_eq_getElem hk]
            simp [List.getD, hk]
          rw [g2 _ (hlo _ (List.getElem_mem _)), g2 _ (hlo _ (List.getElem_mem _))] at q
          simpa using q
end
end
section
section
variable {prog : Program} {w : World} {A : Around} {E : Value → Shared → Prop} {s : Shared} {h₀ : Heap} {L : Addr} {m : Str → Option Value} {news : Led}
theorem its_of : ∀ (as : List Addr) (kvs : List (Str × Value)) {h : Heap} {lo : Addr}, as.length = kvs.length → (∀ p ∈ kvs, ∃ v t, p.2 = .str v t) → KdxG (PySem.strKind prog w) kvs lo h as →
    ∃ I : List It, I.map It.a = as ∧ I.map It.kv = kvs ∧ ∀ i ∈ I, h.get? i.a = some i.obj.2
  | [], [], _, _, _, _, _ => ⟨[], rfl, rfl, fun _ h => nomatch h⟩
  | [], _ :: _, _, _, h, _, _ => by simp at h
  | _ :: _, [], _, _, h, _, _ => by simp at h
  | a :: as, (k, x) :: kvs, h, lo, hl, hv, G => by
    obtain ⟨key, k', x', e1, e2, e3⟩ := G.pairs 0 a rfl
    have e1' : (k, x) = (k', x') := by simpa using e1
    cases e1'
    obtain ⟨tk, rfl⟩ := Value.isStrOf_shape e2
    obtain ⟨v, t, hx⟩ := hv (k, x) (.head _)
    obtain ⟨I, i1, i2, i3⟩ := its_of as kvs (h := h) (lo := lo) (by simpa using hl) (fun p hp => hv p (.tail _ hp)) ⟨(List.pairwise_cons.mp G.rise).2, fun b hb => G.above b (.tail _ hb), fun j b hj => by
      obtain ⟨key, k2, x2, f1, f2, f3⟩ := G.pairs (j + 1) b (by simpa using hj)
      exact ⟨key, k2, x2, by simpa using f1, f2, f3⟩⟩
    simp only at hx
    subst hx
    refine ⟨⟨a, k, tk, v, t⟩ :: I, by simp [i1], by simp [i2, It.kv], fun i hi => ?_⟩
    rcases List.mem_cons.mp hi with rfl | hi
    · exact e3
    · exact i3 i hi
/-- sorted(d.items()) of texts by texts -/
theorem sorted_items {v d : Addr} {od : Obj} {kvs : List (Str × Value)} {Q : Value → Shared → Prop} (hh : A.handled = none) (F : Fr h₀ L s.heap m) (N : News h₀ L s.heap news) (hvw : (v, { cls := .type "dict_items", data := .fields #[.ref d] }) ∈ news) (hmd : (d, od) ∈ news) (hod : od.IsDictOf (PySem.strKind prog w) kvs)
    (h1 : 1 ≤ kvs.length) (h64 : kvs.length < 64) (hv : ∀ p ∈ kvs, ∃ v t, p.2 = .str v t)
    (h : ∀ D (I : List It) c ex h' tk, Fr h₀ L h' m → News h₀ L h' ((D, listOf (its I).toArray c) :: (ex ++ news)) → (∀ i ∈ I, i.obj ∈ ex) → (∀ p ∈ (D, listOf (its I).toArray c) :: ex, ∀ p' ∈ news, p.1 ≠ p'.1) → (∀ p ∈ ex, p.1 ≠ D) → (I.map It.kv).Perm kvs → I.Pairwise (fun i j => i.k.cps.toList < j.k.cps.toList) → Q (.ref D) { s with heap := h', toks := tk }) :
    wpAny (model prog w) A (call (.builtin "sorted") [.ref v]) Q E s := by
  have hnd : (kvs.map (·.1)).Nodup := by obtain ⟨_, _, _, _, _, _, hn⟩ := hod; exact hn
  obtain ⟨ep, hat⟩ := KdkAt.of hod
  refine Calls.call_function_entry kind_sorted plain_sorted entry_sorted (args_sorted1 _) ?_
  unfold Builtin.«sorted»
  refine wpAny_bind (m := checkCount "sorted" 1 1 _) (wpAny_pure ?_)
  refine wpAny_bind (kdx_collect (A := A.in1) (knd := PySem.strKind prog w) (kvs := kvs) (ep := ep) hh ⟨_, (N _ hvw).1, rfl, rfl⟩ (hat.dictAt (N _ hmd).1) (by rw [sizeLine_eq]; omega) fun h1' tk as hk hl hG => ?_)
  obtain ⟨I, i1, i2, i3⟩ := its_of as kvs hl hv hG
  have has : as.map Value.ref = its I := by rw [← i1, List.map_map]; rfl
  rw [has]
  have hIl : I.length = kvs.length := by rw [← i2, List.length_map]
  have F1 : Fr h₀ L h1' m := F.kept hk
  have N1 : News h₀ L h1' news := fun p hp => ⟨hk _ _ (N p hp).1, (N p hp).2⟩
  have hLlt : @LT.lt Nat _ L h1'.objs.size := F1.ns.lt
  have hIa : ∀ i ∈ I, @LT.lt Nat _ s.heap.objs.size i.a := fun i hi => hG.above _ (by rw [← i1]; exact List.mem_map.mpr ⟨i, hi, rfl⟩)
  have N2 : News h₀ L h1' (I.map It.obj ++ news) := fun p hp => by
    rcases List.mem_append.mp hp with hp | hp
    · obtain ⟨i, hi, rfl⟩ := List.mem_map.mp hp
      exact ⟨i3 i hi, kdx_fresh F (Nat.le_of_lt (hIa i hi))⟩
    · exact N1 p hp
  refine wpAny_bind (wpAny_newList ?_ (by rw [its, List.length_map, hIl, sizeLine_eq]; omega))
  have ho : (h1'.push (seqObj "list" (its I).toArray 0)).get? h1'.objs.size = some (seqObj "list" (its I).toArray 0) := Heap.get?_push_size _ rfl
  have hDf := kdx_fresh F1 (Nat.le_refl h1'.objs.size)
  have hlt : ∀ p ∈ I.map It.obj ++ news, @LT.lt Nat _ p.1 h1'.objs.size := fun p hp => Heap.lt_size (N2 p hp).1
  refine wpAny_bind (wpAny_holding (wpAny_call_entry slot_list_sort ⟨_, ho, rfl⟩ entry_list_sort ?body (args_list_sort _)))
  case body =>
    refine sort_pairs (s := { s with heap := h1'.push (seqObj "list" (its I).toArray 0), toks := tk }) (I := I) (news := I.map It.obj ++ news) (F1.push _) (fun p hp => ⟨Heap.get?_push_of_some _ (N2 p hp).1, (N2 p hp).2⟩) ho hDf.1 hDf.2 (fun p hp => Nat.ne_of_lt (hlt p hp)) (fun i hi => List.mem_append_left _ (List.mem_map.mpr ⟨i, hi, rfl⟩)) (by omega) (by omega) ?_ fun I' c h' hp hs F' N' => ?_
    · have : I.map It.k = kvs.map (·.1) := by rw [← i2, List.map_map]; rfl
      rw [this]; exact hnd
    · refine ⟨_, rfl, wpAny_pure ⟨_, rfl, h _ I' c (I.map It.obj) h' tk F' N' (fun i hi => List.mem_map.mpr ⟨i, hp.mem_iff.mp hi, rfl⟩) ?_ (fun p hp => Nat.ne_of_lt (hlt p (List.mem_append_left _ hp))) ((hp.map _).trans (by rw [i2])) hs⟩⟩
      intro p hp p' hp'
      rcases List.mem_cons.mp hp with rfl | hp
      · exact fun e => Nat.ne_of_lt (hlt p' (List.mem_append_right _ hp')) e.symm
      · obtain ⟨i, hi, rfl⟩ := List.mem_map.mp hp
        have : @LT.lt Nat _ p'.1 s.heap.objs.size := Heap.lt_size (N p' hp').1
        exact Nat.ne_of_gt (Nat.lt_trans this (hIa i hi))
end
end
section
open PyProof.Rows.LCg (NsObj lst ns_obj)
/-- what stands when the two parts of a dict comprehension's turn are there -/
noncomputable def CTurnD (prog : Program) (w : World) (h₀ : Heap) (L : Addr) (m : Str → Option Value) (s : Shared) (I : Addr) (oI : Obj) (C : Addr) (oC : Obj) (D : Addr) (oD : Obj) (kv : Value) (J' : Str → Led → Prop) (s₂ : Shared) : Prop :=
  ∃ h' tk news' k, s₂ = { s with heap := h', toks := tk } ∧ (PySem.strKind prog w).is k kv = true ∧ Fr h₀ L h' m ∧ News h₀ L h' ((I, oI) :: (C, oC) :: (D, oD) :: news') ∧ (∀ p ∈ news', p.1 ≠ I ∧ p.1 ≠ C ∧ p.1 ≠ D) ∧ J' k news'
theorem stored_leD {kvs : List (Str × Value)} {k : Str} {v : Value} : (stored kvs k v).length ≤ kvs.length + 1 := by
  unfold stored; split <;> simp
section
variable {prog : Program} {w : World} {A : Around} {E : Value → Shared → Prop} {s : Shared} {h₀ : Heap} {L : Addr} {m : Str → Option Value} {env : Env} {news : Led}
theorem newD_is {prog : Program} {w : World} : ({ cls := .type "dict", data := .dict #[] } : Obj).IsDictOf (PySem.strKind prog w) [] := by
  obtain ⟨o, e, h⟩ := Heap.dictOf_iff.mp (Heap.DictOf.new (knd := PySem.strKind prog w) (default : Heap))
  rw [Heap.get?_push_size _ rfl] at e
  cases e
  exact h
theorem comp_blockD : ∀ {prog : Program} {w : World} {A : Around} {E : Value → Shared → Prop} {s : Shared} {h₀ : Heap} {L : Addr} {m : Str → Option Value} {env : Env} {news : Led} {kx vx iter : PySem.Expr} {x : Str} {px : Pos} {scope : Scope} {cl : List (Str × Addr)} {pos : Pos} {I ax : Addr} {items : List Value} {RR : Value → Addr → Result → Shared → Prop} (J : Nat → List (Str × Value) → Led → Prop) (hh : A.handled = none) (hsz : items.length ≤ sizeLine) (hl : ∀ i ys news' h', J i ys news' → (∀ b o, h₀.get? b = some o → h'.get? b = some o) → News h₀ L h' news' → h'.IsList ax items.toArray) (hcell : ∀ y ∈ scope.names, y.2 ≠ .cell) (hkind : scope.kind = .function) (hx : scope.names.lookup x = some .local) (F : Fr h₀ L s.heap m) (N : News h₀ L s.heap news) (h0 : J 0 [] news) (hit : s.heap.IsListIter I ax 0) (hne : ax ≠ I) (hIL : L ≠ I) (hI₀ : h₀.get? I = none) (off : ∀ p ∈ news, p.1 ≠ I) (turn : ∀ i v ys news₁ h₁ tk₁ oI C oC D oD m₂ (E' : Value → Shared → Prop), items[i]? = some v → J i ys news₁ → NsObj oC m₂ → m₂ x = some v → oD.IsDictOf (PySem.strKind prog w) ys → Fr h₀ L h₁ m → News h₀ L h₁ ((I, oI) :: (C, oC) :: (D, oD) :: news₁) →
      (∀ p ∈ news₁, p.1 ≠ I ∧ p.1 ≠ C ∧ p.1 ≠ D) → ((@Ne Nat I C) ∧ (@Ne Nat I D) ∧ (@Ne Nat C D)) →
      wpAny (model prog w) A (eval kx (compEnvC scope cl C env)) (fun kv s₄ => wpAny (model prog w) A (eval vx (compEnvC scope cl C env)) (fun vv => CTurnD prog w h₀ L m s I oI C oC D oD kv (fun k => J (i + 1) (stored ys k vv))) E' s₄) E' { s with heap := h₁, toks := tk₁ }) (hRR : ∀ D oD C h tk m' ys news', Fr h₀ L h m → News h₀ L h ((D, oD) :: news') → oD.IsDictOf (PySem.strKind prog w) ys → (∀ p ∈ news', p.1 ≠ C ∧ p.1 ≠ D) → h.Ns C m' → h₀.get? C = none → h₀.get? D = none → C ≠ L → D ≠ L → C ≠ D → J items.length ys news' → RR (.ref D) C (.ok .next) { s with heap := h, toks := tk }), wpAny (model prog w) A newDict (fun acc s₃ => wpAny (model prog w) A (newFunctionEnv scope env.globals cl [] env.qual none .none (some env)) (fun cenv s₄ =>
      codeAny (model prog w) A (.compStart (.DictComp kx vx [⟨.Name x px, iter, [], 0⟩] scope pos) 0 (.ref I) acc { cenv with scope := relabel scope env }) (RR acc cenv.locals) s₄) E s₃) E s := by
  have skon : SkOn := .mk
  intro prog w A E s h₀ L m env news kx vx iter x px scope cl pos I ax items RR J hh hsz hl hcell hkind hx F N h0 hit hne hIL hI₀ off turn hRR
  have hls := hl 0 [] news _ h0 F.keep N
  have W := list_at (prog := prog) (w := w) (its := items.toArray) hh hne
  have hn : items.toArray.size = items.length := List.size_toArray
  have axlt : ax < s.heap.objs.size := by obtain ⟨o, e, _⟩ := hls; exact Heap.lt_size e
  have Ilt : I < s.heap.objs.size := by obtain ⟨o, e, _⟩ := hit; exact Heap.lt_size e
  refine comp_alloc hcell hkind F N Ilt off (Nat.zero_le _) rfl ?_
  intro D C h₁ tk1 m1 F₁ hns₁ N₁ off₀ old hall
  obtain ⟨hC₀, hD₀, hCL, hDL, hCD, hIC, hID⟩ := hall
  obtain ⟨oD0, hoD0, hdD0⟩ : ∃ oD0 : Obj, oD0 = { cls := .type "dict", data := .dict #[] } ∧ oD0.IsDictOf (PySem.strKind prog w) [] := ⟨_, rfl, newD_is⟩
  rw [← hoD0] at N₁
  have loop : codeAny (model prog w) A (.compLoop (.DictComp kx vx [⟨.Name x px, iter, [], 0⟩] scope pos) 0 (.ref I) (.ref D) (compEnvC scope cl C env)) (RR (.ref D) C) { s with heap := h₁, toks := tk1 } := by
    refine codeAny_compLoop_testsD
      (fun k s' => ∃ h' tk i ys oD m' news', s' = { s with heap := h', toks := tk } ∧ i ≤ items.length ∧ k = items.length + 1 - i ∧ ys.length ≤ i ∧ h'.IsListIter I ax i ∧ Fr h₀ L h' m ∧ h'.Ns C m' ∧ News h₀ L h' ((D, oD) :: news') ∧ oD.IsDictOf (PySem.strKind prog w) ys ∧
        (∀ p ∈ news', p.1 ≠ I ∧ p.1 ≠ C ∧ p.1 ≠ D) ∧ J i ys news') ?_ (items.length + 1)
      ⟨h₁, _, 0, [], oD0, _, news, rfl, Nat.zero_le _, rfl, Nat.le_refl _, ?_, F₁, hns₁, N₁, hdD0, off₀, h0⟩
    · intro k s' hq9; obtain ⟨h', tk, i, ys, oD, m', news', rfl, hi, rfl, hyl, hit', F', hn', N', hdD, off', hJ⟩ := hq9
      have hlist := hl i ys news' h' hJ F'.keep fun p hp => N' p (.tail _ hp)
      have next : ∀ h₂ : Heap, (∀ b o, b ∉ [I] → h'.get? b = some o → h₂.get? b = some o) → Fr h₀ L h₂ m ∧ h₂.Ns C m' ∧ News h₀ L h₂ ((D, oD) :: news') := fun h₂ hk => comp_next hIL hI₀ hIC hID F' hn' N' off' hk
      by_cases hlt : i < items.length
      · refine W.item i _ _ _ hlt ⟨hit', hlist⟩ ?_
        intro v h₂ tk₂ hPv hst₂ hk₂
        obtain ⟨F₂, hn₂, N₂⟩ := next h₂ hk₂
        refine wpAny_assign_Name (wpAny_storeName_local (lookup_relabel_local hx) hn₂ ?_ (comp_hp hkind))
        intro h₃ hn₃ hs₃
        obtain ⟨oI, heI, hcI, hdI⟩ := hst₂.1
        obtain ⟨oC, heC, hoC⟩ := ns_obj hn₃
        have heI₃ : h₃.get? I = some oI := hs₃.extBut _ _ hIC heI
        have F₃ : Fr h₀ L h₃ m := F₂.change hs₃ hCL hC₀
        have N₃ : News h₀ L h₃ ((I, oI) :: (C, oC) :: (D, oD) :: news') := comp_news3 hIL hI₀ hCL hC₀ hCD heI₃ heC hs₃.extBut N₂ off'
        have stay : ∀ h₄ news₄, News h₀ L h₄ ((I, oI) :: (C, oC) :: (D, oD) :: news₄) → h₄.IsListIter I ax (i + 1) ∧ h₄.Ns C (fun y => if y = x then some v else m' y) ∧ News h₀ L h₄ ((D, oD) :: news₄) := fun h₄ news₄ N₄ =>
          ⟨⟨oI, (N₄ _ (.head _)).1, hcI, hdI⟩, hoC.ns (N₄ _ (.tail _ (.head _))).1, fun p hp => N₄ p (.tail _ (.tail _ hp))⟩
        have hv : items[i]? = some v := List.getElem?_toArray.symm.trans hPv
        refine wpAny_tests_nil ?_
        simp only [if_true]
        refine wpAny_mono (turn i v ys news' h₃ _ oI C oC D oD _ _ hv hJ hoC (if_pos rfl) hdD F₃ N₃ off' ⟨hIC, hID, hCD⟩) ?_ fun _ _ e => e
        intro kv s₄ h₄
        refine wpAny_mono h₄ ?_ fun _ _ e => e
        intro vv s₅ h₅
        obtain ⟨h₅, tk₅, news₅, k, rfl, hkey, F₅, N₅, off₅, hJ₅⟩ := h₅
        obtain ⟨q1, q2, q3⟩ := stay h₅ news₅ N₅
        refine wpAny_dictSet_pairs (hsz := Nat.le_trans hyl (Nat.le_trans hi hsz)) hkey (Heap.dictOf_iff.mpr ⟨oD, (q3 _ (.head _)).1, hdD⟩) ?_
        intro h₆ hD₆ hs₆
        obtain ⟨oD6, hD6, hdD6⟩ := Heap.dictOf_iff.mp hD₆
        refine ⟨items.length + 1 - (i + 1), Nat.sub_lt_sub_left (Nat.lt_succ_of_lt hlt) (Nat.lt_succ_self i), h₆, _, i + 1, stored ys k vv, oD6, _, news₅, rfl, hlt, rfl, Nat.le_trans stored_leD (Nat.succ_le_succ hyl), q1.extBut hs₆.extBut hID, F₅.change hs₆ hDL hD₀, q2.sameBut hs₆ hCD, comp_filled hDL hD₀ hD6 hs₆.extBut q3 off₅, hdD6, off₅, hJ₅⟩
      · obtain rfl : i = items.length := Nat.le_antisymm hi (Nat.not_lt.mp hlt)
        refine W.done _ _ _ ⟨hit', hlist⟩ ?_
        intro h₂ tk₂ hk₂
        obtain ⟨F₂, hn₂, N₂⟩ := next h₂ hk₂
        exact hRR D oD C h₂ tk₂ m' ys news' F₂ N₂ hdD (fun p hp => (off' p hp).2) hn₂ hC₀ hD₀ hCL hDL hCD hJ
    · obtain ⟨o, e, r⟩ := hit; exact ⟨o, old _ _ e, r⟩
  refine codeAny_compStart_dict loop (wpAny_pyIter_listiter (i := 0) (l := ax) ?_ loop)
  obtain ⟨o, e, r⟩ := hit; exact ⟨o, old _ _ e, r⟩
/-- behind the source's value: the rest of a dict comprehension that a plain name takes -/
noncomputable def CompGoD (prog : Program) (w : World) (A : Around) (env : Env) (e : PySem.Expr) (scope : Scope) (cl : List (Str × Addr)) (E : Value → Shared → Prop) (use : Option (Value → Sem Unit)) (Q : Value → Shared → Prop) (xv : Value) (s₁ : Shared) : Prop :=
  wpAny (model prog w) A (pyIter xv) (fun it s₂ => wpAny (model prog w) A newDict (fun acc s₃ => wpAny (model prog w) A (newFunctionEnv scope env.globals cl [] env.qual none .none (some env)) (fun cenv s₄ =>
    codeAny (model prog w) A (.compStart e 0 it acc { cenv with scope := relabel scope env }) (compPost (model prog w) A E use Q acc cenv.locals) s₄) E s₃) E s₂) E s₁
theorem compAD {kx vx iter : PySem.Expr} {x y : Str} {px py : Pos} {scope : Scope} {cl : List (Str × Addr)} {pos spos : Pos} {Q : Flow → Shared → Prop}
    (hsw : swapsWith (.DictComp kx vx [⟨.Name x px, iter, [], 0⟩] scope pos) (some (.Name y py)) spos.line env = pure true)
    (hclos : closureFor scope env = pure cl) (hkind : scope.kind = .function) (hnames : ∀ y ∈ scope.names, y.2 = .local → scope.names.lookup y.1 = some .local)
    (h : wpAny (model prog w) A (eval iter env) (CompGoD prog w A env (.DictComp kx vx [⟨.Name x px, iter, [], 0⟩] scope pos) scope cl E (some (assign (.Name y py) env)) (fun _ s' => Q .next s')) E s)
    (hs : ∀ x, foldedSetIterable iter env x = pure x := by intro _; rfl) :
    wpAny (model prog w) A (exec (.Assign [.Name y py] (.DictComp kx vx [⟨.Name x px, iter, [], 0⟩] scope pos) spos) env) Q E s := by
  rw [exec_Assign_Name_used _ _ _ _ hsw]
  refine wpAny_bind (wpAny_standAt (wpAny_bind ?_))
  show wpAny _ A (do let _ ← comprehension (.DictComp kx vx [⟨.Name x px, iter, [], 0⟩] scope pos) scope env _ newDict false (eval iter env) (some (assign (.Name y py) env))) _ _ s
  exact wpAny_bind (wpAny_mono (wpAny_comprehension_free (use := some (assign (.Name y py) env)) (Q := fun _ s' => Q .next s') rfl hs hclos hkind hnames h) (fun _ s' hq => wpAny_pure (wpAny_pure hq)) fun _ _ e => e)
theorem compGoAD {kx vx iter : PySem.Expr} {x y : Str} {px py : Pos} {scope : Scope} {cl : List (Str × Addr)} {pos : Pos} {ax : Addr} {items : List Value} {Q : Value → Shared → Prop}
    (J : Nat → List (Str × Value) → Led → Prop) (hh : A.handled = none) (hsz : items.length ≤ sizeLine) (hLe : env.locals = L)
    (hcell : ∀ y ∈ scope.names, y.2 ≠ .cell) (hkind : scope.kind = .function) (hx : scope.names.lookup x = some .local)
    (hy : env.kindOf y = some .local) (hp : (env.scope.kind == .class || (env.scope.kind == .module && env.locals != env.globals)) = false)
    (F : Fr h₀ L s.heap m) (N : News h₀ L s.heap news)
    (hl : ∀ i ys news' h', J i ys news' → (∀ b o, h₀.get? b = some o → h'.get? b = some o) → News h₀ L h' news' → h'.IsList ax items.toArray)
    (h0 : J 0 [] news)
    (turn : ∀ i v ys news₁ h₁ tk₁ I oI C oC D oD m₂ (E' : Value → Shared → Prop), items[i]? = some v → J i ys news₁ → NsObj oC m₂ → m₂ x = some v → oD.IsDictOf (PySem.strKind prog w) ys → Fr h₀ L h₁ m → News h₀ L h₁ ((I, oI) :: (C, oC) :: (D, oD) :: news₁) →
      (∀ p ∈ news₁, p.1 ≠ I ∧ p.1 ≠ C ∧ p.1 ≠ D) → ((@Ne Nat I C) ∧ (@Ne Nat I D) ∧ (@Ne Nat C D)) →
      wpAny (model prog w) A (eval kx (compEnvC scope cl C env)) (fun kv s₄ => wpAny (model prog w) A (eval vx (compEnvC scope cl C env)) (fun vv => CTurnD prog w h₀ L m s I oI C oC D oD kv (fun k => J (i + 1) (stored ys k vv))) E' s₄) E' { s with heap := h₁, toks := tk₁ })
    (fin : ∀ D oD h' tk news' ys, Fr h₀ L h' (fun z => if z = y then some (.ref D) else m z) → News h₀ L h' ((D, oD) :: news') → oD.IsDictOf (PySem.strKind prog w) ys → (∀ p ∈ news', p.1 ≠ D) → J items.length ys news' → Q .none { s with heap := h', toks := tk }) :
    CompGoD prog w A env (.DictComp kx vx [⟨.Name x px, iter, [], 0⟩] scope pos) scope cl E (some (assign (.Name y py) env)) Q (.ref ax) s := by
  subst hLe
  have hls := hl 0 [] news _ h0 F.keep N
  have hlt : ax < s.heap.objs.size := by obtain ⟨_, e, _⟩ := hls; exact Heap.lt_size e
  unfold CompGoD
  refine wpAny_pyIter_list hls ?_
  have up : ∀ b o, s.heap.get? b = some o → (s.heap.push { cls := .type "list_iterator", data := .fields #[.ref ax, .int 0 0] }).get? b = some o := fun b o e => Heap.get?_push_of_some _ e
  refine comp_blockD (s := { s with heap := s.heap.push { cls := .type "list_iterator", data := .fields #[.ref ax, .int 0 0] } }) J hh hsz hl hcell hkind hx (F.keeps up) (N.grown up) h0 ⟨_, Heap.get?_push_size _ rfl, rfl, rfl⟩ (Nat.ne_of_lt hlt) (Nat.ne_of_lt F.ns.lt) (next_is_new F) (fun p hp => Nat.ne_of_lt (Heap.lt_size (N p hp).1))
    (fun i v ys news₁ h₁ tk₁ oI C oC D oD m₂ E' => turn i v ys news₁ h₁ tk₁ _ oI C oC D oD m₂ E') ?_
  intro D oD C h tk m' ys news' F' N' hdD o1 hn hC₀ hD₀ hCL hDL hCD hJ
  show wpAny _ A (assign (.Name y py) env (.ref D)) _ _ _
  refine wpAny_assign_Name (wpAny_storeName_local hy F'.ns (fun h₂ hn₂ hs₂ => ?_) hp)
  have hL₀ : h₀.get? env.locals = none := Heap.get?_none_of_le F'.above
  have F₂ : Fr h₀ env.locals h₂ (fun z => if z = y then some (.ref D) else m z) := ⟨hn₂, fun b o e => hs₂.extBut b o (fun q => by rw [q, hL₀] at e; cases e) (F'.keep b o e), F'.above⟩
  refine ⟨m', hn.sameBut hs₂ hCL, fun h'' hs'' => fin D oD h'' _ news' ys (F₂.change hs'' hCL hC₀) (fun p hp => ?_) hdD (fun p hp => (o1 p hp).2) hJ⟩
  have z : h₂.get? p.1 = some p.2 := hs₂.extBut _ _ (N' p hp).2.1 (N' p hp).1
  refine ⟨hs''.extBut _ _ ?_ z, (N' p hp).2⟩
  rcases List.mem_cons.mp hp with rfl | hp
  · exact Ne.symm hCD
  · exact (o1 p hp).1
end
end
section
noncomputable def SetO (prog : Program) (w : World) (o : Obj) (ks : List Str) : Prop :=
  ∃ es ep t, o.ExactSet ∧ o.data = .set es ep t ∧ ElemsOf (PySem.strKind prog w) es.toList ∧ (es.toList.map fun e => kOf e.2).Perm ks ∧ ks.Nodup ∧ es.size < scanBound ∧ t.fits es.size = true ∧ (t.plain = false ∨ ks = []) ∧ t.led = !w.params.followText "set-order"
section
variable {prog : Program} {w : World} {A : Around} {E : Value → Shared → Prop} {s : Shared} {h₀ : Heap} {L : Addr} {m : Str → Option Value} {news : Led}
theorem SetP.toO {h : Heap} {a : Addr} {ks : List Str} (x : SetP prog w h a ks) : ∃ o, h.get? a = some o ∧ SetO prog w o ks := Exists.imp (fun o h => h.elim fun es h => h.elim fun ep h => h.elim fun t h => ⟨h.1, es, ep, t, h.2⟩) x
theorem SetO.toP {h : Heap} {a : Addr} {o : Obj} {ks : List Str} (x : SetO prog w o ks) (ho : h.get? a = some o) : SetP prog w h a ks := ⟨o, Exists.imp (fun es => Exists.imp fun ep => Exists.imp fun t r => ⟨ho, r⟩) x⟩
theorem set_star_eval : ∀ {prog : Program} {w : World} {A : Around} {E : Value → Shared → Prop} {s : Shared} {h₀ : Heap} {L : Addr} {m : Str → Option Value} {news : Led} {K : Frag} {e1 e2 : PySem.Expr} {p2 pos : Pos} {k : Nat} {env : Env} {k0 : Str} {t0 : Tok} {av : Addr} {oa : Obj} {kvs : List (Str × Value)} {Q : Value → Shared → Prop} (hh : A.handled = none) (F : Fr h₀ L s.heap m) (N : News h₀ L s.heap news) (X : K.In h₀) (hc : kdsCode K env.code = true) (hroad : displayRoad k [e1, .Starred e2 p2] = .oneByOne) (hst : starEach [e1, .Starred e2 p2] env = [(false, eval e1 env), (true, eval e2 env)]) (he1 : ∀ h' tk, Fr h₀ L h' m → wpAny (model prog w) A (eval e1 env) (fun v s1 => v = .str k0 t0 ∧ s1 = { s with heap := h', toks := tk }) E { s with heap := h', toks := tk }) (he2 : ∀ h' tk, Fr h₀ L h' m → wpAny (model prog w) A (eval e2 env) (fun v s1 => v = .ref av ∧ s1 = { s with heap := h', toks := tk }) E { s with heap := h', toks := tk }) (hav : (av, oa) ∈ news) (hoa : oa.IsDictOf (PySem.strKind prog w) kvs) (hats : (av == sysModules) = false) (hkn : kvs.length ≤ 64) (h : ∀ D so h' tk, Fr h₀ L h' m → News h₀ L h' ((D, so) :: news) → (∀ p ∈ news, p.1 < D) → SetO prog w so (addAll [k0] (kvs.map (·.1))) → Q (.ref D) { s with heap := h', toks := tk }), wpAny (model prog w) A (eval (.Set [e1, .Starred e2 p2] k pos) env) Q E s := by
  have skon : SkOn := .mk
  intro prog w A E s h₀ L m news K e1 e2 p2 pos k env k0 t0 av oa kvs Q hh F N X hc hroad hst he1 he2 hav hoa hats hkn h
  rw [arm_eval_Set, hroad, hst]
  refine wpAny_bind (wpAny_standAt ?_)
  refine wpAny_bind (kds_main (X.keeps F.keep) hc fun b => ?_)
  simp only [List.map_cons, List.map_nil]
  unfold setDisplay
  dsimp only
  rw [if_neg (by decide)]
  unfold newSet setsByText
  refine wpAny_bind (wpAny_bind (wpAny_bind (wpAny_askSetting (wpAny_pure ?_))))
  dsimp only
  simp only [newObj]
  refine wpAny_bind (wpAny_alloc (wpAny_pure ?_))
  have ho0 : (s.heap.push { cls := Value.type "set", dict := none, data := .set #[] 0 (.fresh 0 0 (!w.params.followText "set-order")) }).get? s.heap.objs.size = some { cls := Value.type "set", dict := none, data := .set #[] 0 (.fresh 0 0 (!w.params.followText "set-order")) } := Heap.get?_push_size _ rfl
  have hS0 : SetP prog w (s.heap.push { cls := Value.type "set", dict := none, data := .set #[] 0 (.fresh 0 0 (!w.params.followText "set-order")) }) s.heap.objs.size [] :=
    ⟨_, #[], 0, _, ho0, ⟨rfl, rfl, rfl⟩, rfl, fun e he => by simp at he, by simp, List.nodup_nil, by decide, by rfl, .inr rfl, rfl⟩
  have F0 : Fr h₀ L (s.heap.push { cls := Value.type "set", dict := none, data := .set #[] 0 (.fresh 0 0 (!w.params.followText "set-order")) }) m := F.push _
  have up0 : ∀ b o, s.heap.get? b = some o → (s.heap.push { cls := Value.type "set", dict := none, data := .set #[] 0 (.fresh 0 0 (!w.params.followText "set-order")) }).get? b = some o := fun b o e => Heap.get?_push_of_some _ e
  show wpAny (model prog w) A _ Q E { s with heap := s.heap.push { cls := Value.type "set", dict := none, data := .set #[] 0 (.fresh 0 0 (!w.params.followText "set-order")) } }
  generalize s.heap.push { cls := Value.type "set", dict := none, data := .set #[] 0 (.fresh 0 0 (!w.params.followText "set-order")) } = H at ho0 hS0 F0 up0 ⊢
  have hDlt : @LT.lt Nat _ s.heap.objs.size H.objs.size := Heap.lt_size ho0
  have hlt : ∀ p ∈ news, @LT.lt Nat _ p.1 s.heap.objs.size := fun p hp => Heap.lt_size (N p hp).1
  have hLlt : @LT.lt Nat _ L s.heap.objs.size := F.ns.lt
  have hD0 : h₀.get? s.heap.objs.size = none := Heap.get?_none_of_le (Nat.le_trans F.above (Nat.le_of_lt hLlt))
  generalize hDe : s.heap.objs.size = D at *
  have keepF : ∀ h', Heap.SameBut D H h' → Fr h₀ L h' m := fun h' hs => F0.change hs (Nat.ne_of_gt hLlt) hD0
  show wpAny _ _ (holding [Value.ref D] (evalAll [(do let v ← eval e1 env; standAt pos; pure v)] >>= _) >>= fun _ => pure (Value.ref D)) _ _ _
  refine wpAny_bind (wpAny_holding ?_)
  refine wpAny_bind ?_
  show wpAny _ _ ((eval e1 env >>= fun v => standAt pos >>= fun _ => pure v) >>= fun v => holding [v] (pure []) >>= fun r => pure (v :: r)) _ _ _
  refine wpAny_bind (wpAny_bind (wpAny_mono (he1 H s.toks F0) (fun v s1 hv => ?_) fun _ _ e => e))
  obtain ⟨rfl, rfl⟩ := hv
  refine wpAny_bind (wpAny_standAt (wpAny_pure (wpAny_bind (wpAny_holding (wpAny_pure (wpAny_pure ?_))))))
  refine wpAny_bind (wpAny_holding ?_)
  rw [List.forIn_cons]
  refine wpAny_bind (wpAny_bind ?_)
  unfold setAdd
  refine wpAny_bind (wpAny_holding (wpAny_bind ((PySem.strKind prog w).pyHash (k := k0) (PySem.strKind_is _ _ _ _) ?_)))
  refine setp_add (s := { s with heap := H, toks := s.toks + 1 }) hS0 (by decide) fun h1 b1 hsb1 hS1 => ?_
  refine wpAny_pure ?_
  dsimp only
  rw [List.forIn_nil]
  refine wpAny_pure ?_
  rw [if_neg (by decide)]
  refine wpAny_pure ?_
  simp only [List.not_mem_nil, if_false, List.nil_append] at hS1
  show wpAny _ _ (forIn [(true, do let v ← eval e2 env; standAt pos; pure v)] PUnit.unit _ >>= fun _ => pure PUnit.unit) _ _ _
  refine wpAny_bind ?_
  rw [List.forIn_cons]
  refine wpAny_bind ?_
  refine wpAny_bind ?_
  show wpAny _ _ (eval e2 env >>= fun v => standAt pos >>= fun _ => pure v) _ _ _
  have F1 := keepF h1 hsb1
  refine wpAny_bind (wpAny_mono (he2 h1 (s.toks + 1) F1) (fun v s1 hv => ?_) fun _ _ e => e)
  obtain ⟨rfl, rfl⟩ := hv
  refine wpAny_bind (wpAny_standAt (wpAny_pure ?_))
  simp only [if_true]
  have hava := (N _ hav).1
  have hav1 : h1.get? av = some oa := (hsb1.2 av (Nat.ne_of_lt (hlt _ hav))).trans (up0 _ _ hava)
  obtain ⟨ep, hat⟩ := KdkAt.of hoa
  refine wpAny_bind (wpAny_holding (star_dict (s := { s with heap := h1, toks := s.toks + 1 }) hh hS1 (hat.dictAt hav1) (Nat.ne_of_lt (hlt _ hav)) hats hkn fun h2 tk2 hk2 hS2 => ?_))
  refine wpAny_pure ?_
  dsimp only
  rw [List.forIn_nil]
  refine wpAny_pure (wpAny_pure (wpAny_pure ?_))
  obtain ⟨so, hso, hSO⟩ := hS2.toO
  have up2 : ∀ b o, @LT.lt Nat _ b D → s.heap.get? b = some o → h2.get? b = some o := fun b o hb e => hk2 b o (Nat.ne_of_lt hb) ((hsb1.2 b (Nat.ne_of_lt hb)).trans (up0 b o e))
  have up3 : ∀ b o, s.heap.get? b = some o → h2.get? b = some o := fun b o e => up2 b o (by rw [← hDe]; exact Heap.lt_size e) e
  refine h D so h2 tk2 (F.kept up3) (fun p hp => ?_) hlt hSO
  rcases List.mem_cons.mp hp with rfl | hp
  · exact ⟨hso, Nat.ne_of_gt hLlt, hD0⟩
  · exact ⟨up3 _ _ (N p hp).1, (N p hp).2⟩
end
end
section
theorem mem_addK {ks : List Str} {k x : Str} (h : x ∈ ks ∨ x = k) : x ∈ addK ks k := by
  unfold addK
  split
  · rename_i hk
    rcases h with h | rfl
    · exact h
    · exact hk
  · rcases h with h | rfl
    · exact List.mem_append_left _ h
    · exact List.mem_append_right _ (.head _)
theorem mem_addAll : ∀ {l : List Str} {ks : List Str} {x : Str}, x ∈ ks ∨ x ∈ l → x ∈ addAll ks l
  | [], ks, x, h => by
    rcases h with h | h
    · exact h
    · cases h
  | k :: l, ks, x, h => by
    show x ∈ addAll (addK ks k) l
    refine mem_addAll ?_
    rcases h with h | h
    · exact .inl (mem_addK (.inl h))
    · rcases List.mem_cons.mp h with rfl | h
      · exact .inl (mem_addK (.inr rfl))
      · exact .inr h
theorem codeHd_125 (w : World) {h : Heap} (X : (KP w).In h) : CodeHd h 125 123 := codeHd_of_K X (by kernel_rfl)
theorem one_str {l : List (Str × Tok)} {k : Str} (h : l.map (fun x => x.1) = [k]) : ∃ t, l = [(k, t)] := by
  obtain ⟨⟨a, t⟩, rfl⟩ := List.length_eq_one_iff.mp ((List.length_map _).symm.trans (congrArg List.length h))
  cases h
  exact ⟨t, rfl⟩
noncomputable abbrev tup3 (k : Str) (t t' u : Tok) : Obj := { cls := .type "tuple", data := .seq #[.str k t, .str k t', .str (Str.ofString "") u] }
/-- the parsed names: each key's value is its tuple -/
noncomputable def Parsed (ys : List (Str × Value)) (news : Led) (ks : List Str) : Prop := ∀ k ∈ ks, ∃ q t t' u, valueAt ys k = some (.ref q) ∧ (q, tup3 k t t' u) ∈ news
theorem valueAt_same : ∀ {ys : List (Str × Value)} {k : Str} {v : Value}, valueAt (stored ys k v) k = some v := by
  have skon : SkOn := .mk
  intro ys k v
  unfold stored valueAt
  split
  · rename_i h
    obtain ⟨p, hp, hk⟩ := List.any_eq_true.mp h
    simp only [decide_eq_true_eq] at hk
    cases hf : (ys.map fun kv => if kv.1 = k then (kv.1, v) else kv).find? (fun kv => decide (kv.1 = k)) with
    | none =>
      have := List.find?_eq_none.mp hf (p.1, v) (List.mem_map.mpr ⟨p, hp, by rw [if_pos hk]⟩)
      simp [hk] at this
    | some z =>
      obtain ⟨p', hp', e⟩ := List.mem_map.mp (List.mem_of_find?_eq_some hf)
      have hz := List.find?_some hf
      simp only [decide_eq_true_eq] at hz
      split at e
      · rw [← e]; rfl
      · rw [← e] at hz; contradiction
  · rename_i h
    have : ys.find? (fun kv => decide (kv.1 = k)) = none := List.find?_eq_none.mpr fun p hp hq => h (List.any_eq_true.mpr ⟨p, hp, hq⟩)
    rw [List.find?_append, this]
    simp
theorem valueAt_other {ys : List (Str × Value)} {k k' : Str} {v : Value} (hne : k' ≠ k) : valueAt (stored ys k v) k' = valueAt ys k' := by
  unfold stored valueAt
  split
  · congr 1
    induction ys with
    | nil => rfl
    | cons p ys ih =>
      simp only [List.map_cons, List.find?_cons]
      by_cases h : p.1 = k
      · rw [if_pos h]
        have h1 : decide (p.1 = k') = false := decide_eq_false fun e => hne (e.symm.trans h)
        simp only [h1]
        by_cases h2 : (ys.any fun kv => decide (kv.1 = k)) = true
        · exact ih h2
        · have : (ys.map fun kv => if kv.1 = k then (kv.1, v) else kv) = ys := by
            have h3 : ∀ q ∈ ys, q.1 ≠ k := fun q hq e => h2 (List.any_eq_true.mpr ⟨q, hq, decide_eq_true e⟩)
            rw [show (ys.map fun kv => if kv.1 = k then (kv.1, v) else kv) = ys.map id from List.map_congr_left fun q hq => if_neg (h3 q hq)]
            simp
          rw [this]
      · rw [if_neg h]
        cases decide (p.1 = k') with
        | true => rfl
        | false =>
          rename_i hh
          refine ih ?_
          rw [List.any_cons, decide_eq_false h, Bool.false_or] at hh
          exact hh
  · rw [List.find?_append]
    cases ys.find? (fun kv => decide (kv.1 = k')) with
    | some z => rfl
    | none => simp [Ne.symm hne]
theorem Parsed.put {ys : List (Str × Value)} {news news' : Led} {ks : List Str} {k : Str} {q : Addr} {t t' u : Tok} (h : Parsed ys news ks) (hs : ∀ p ∈ news, p ∈ news') (hq : (q, tup3 k t t' u) ∈ news') : Parsed (stored ys k (.ref q)) news' (ks ++ [k]) := fun k' hk' => by
  by_cases e : k' = k
  · subst e
    exact ⟨q, t, t', u, valueAt_same, hq⟩
  · obtain ⟨q', a, b, c, h1, h2⟩ := h k' ((List.mem_append.mp hk').resolve_right fun h => e (List.mem_singleton.mp h))
    exact ⟨q', a, b, c, by rw [valueAt_other e]; exact h1, hs _ h2⟩
theorem tr_list0 {prog : Program} {w : World} {A : Around} {E : Value → Shared → Prop} {s : Shared} {h₀ : Heap} {L a : Addr} {news : Led} {n : Nat} {Q : Bool → Shared → Prop} (N : News h₀ L s.heap news) (hm : (a, PySem.W.listOf #[] n) ∈ news) (h : ∀ tk, Q false { s with toks := tk }) :
    wpAny (model prog w) A (truthy (.ref a)) Q E s := wpAny_truthy_list (N.isList hm) (by decide) (h _)
theorem tr_dict {prog : Program} {w : World} {A : Around} {E : Value → Shared → Prop} {s : Shared} {h₀ : Heap} {L a : Addr} {news : Led} {o : Obj} {kvs : List (Str × Value)} {b : Bool} {Q : Bool → Shared → Prop} (N : News h₀ L s.heap news) (hm : (a, o) ∈ news) (hd : o.IsDictOf (PySem.strKind prog w) kvs) (hs : (a == sysModules) = false) (hz : kvs.length ≤ 62) (hb : (!kvs.isEmpty) = b) (h : ∀ tk, Q b { s with toks := tk }) :
    wpAny (model prog w) A (truthy (.ref a)) Q E s := wpAny_truthy_dict hs (Heap.dictOf_iff.mpr ⟨o, (N _ hm).1, hd⟩) (by omega) (by rw [hb]; exact h _)
theorem kv5 {a b c d e : Str} {x1 x2 x3 x4 x5 u1 u2 u3 u4 u5 : Option Value} {r : Str → Option Value} :
    (fun y => if y = a then x1 else if y = b then x2 else if y = c then x3 else if y = d then x4 else if y = e then x5 else if y = a then u1 else if y = b then u2 else if y = c then u3 else if y = d then u4 else if y = e then u5 else r y) =
    fun y => if y = a then x1 else if y = b then x2 else if y = c then x3 else if y = d then x4 else if y = e then x5 else r y :=
  funext fun y => ic fun h1 => ic fun h2 => ic fun h3 => ic fun h4 => ic fun h5 => (if_neg h1).trans ((if_neg h2).trans ((if_neg h3).trans ((if_neg h4).trans (if_neg h5))))
theorem kv50 {a b c d e : Str} {r : Str → Option Value} (h1 : r a = none) (h2 : r b = none) (h3 : r c = none) (h4 : r d = none) (h5 : r e = none) :
    r = fun y => if y = a then none else if y = b then none else if y = c then none else if y = d then none else if y = e then none else r y :=
  funext fun y => ik (fun e => (congrArg r e).trans h1) (ik (fun e => (congrArg r e).trans h2) (ik (fun e => (congrArg r e).trans h3) (ik (fun e => (congrArg r e).trans h4) (ik (fun e => (congrArg r e).trans h5) rfl))))
/-- a contract of a call that may draw -/
noncomputable abbrev ConD (w : World) (d : Nat) (c : Sem Value) (news : Led) (R : Value → Led → Prop) : Prop :=
  ∀ (mean : ExcName → Option Value) (mg mb : Str → Option Value) (dp un : Nat) (gd : Option (List Code)) (cn : Str) (cs : Scope) (a : Addr) (ccd : Value) (cl : List (Str × Addr)) (outer : List Env) (A₀ : Around) (base h₀ : Heap) (L : Addr) (m : Str → Option Value) (s : Shared) (Q E : Value → Shared → Prop),
    Below A₀ base outer h₀ → Fr h₀ L s.heap m → (hd1.heap_1_39 w.params).In h₀ → News h₀ L s.heap news → Top topProg LO mean mg mb h₀ → cs.kind = .function → dp + d < recursionLimit → un + 8 * d < cLine →
    (∀ r news' h' dr' tk', Fr h₀ L h' m → News h₀ L h' news' → R r news' → Q r { s with heap := h', drawn := dr', toks := tk' }) →
    wpAny (model PySem.Challenge.pw_ta0132_01 w) (ktrTop dp un gd cn cs L a ccd cl outer) c Q E s
end
section
theorem sig_app : ∃ sig, Manifest.signature? "list.append" = some sig ∧ ∀ a b, Bind.checkArgs "list.append" { sig with full := "list.append" } ⟨[a, b], []⟩ = pure () := ⟨_, signature?_of (id := "list.append") (n := ['d', 'n', 'e', 'p', 'p', 'a']) (o := ['t', 's', 'i', 'l']) (by kernel_rfl) F.owner_list, fun a b => by kernel_rfl⟩
theorem va_app : Manifest.varargsMethods.contains "list.append" = false := by decide +kernel
theorem nm_app : s!"{Bind.lastOf "list"}.{Bind.lastOf "list.append"}" = "list.append" := by decide +kernel
section
variable {prog : Program} {w : World} {A : Around} {E : Value → Shared → Prop} {s : Shared} {h₀ : Heap} {L : Addr} {m : Str → Option Value} {news : Led}
theorem check_app {a : Addr} {x : Value} {o : Obj} {xs : Array Value} {n : Nat} {M : Model} {Q : Unit → Shared → Prop} (hx : s.heap.get? a = some o) (hc : o.cls = .type "list") (hd : o.data = .seq xs n) (h : Q () s) : wpAny M A (checkBoundCall "list.append" ⟨[.ref a, x], []⟩) Q E s := by
  obtain ⟨sig, h1, h2⟩ := sig_app
  have hT : s.TypeIs (.ref a) "list" := ⟨_, hx, hc⟩
  unfold checkBoundCall
  rw [h1]
  dsimp only
  rw [kind_la]
  dsimp only
  rw [if_neg (by decide)]
  refine wpAny_bind (wpAny_isInstance hT (show isSubtype (.type "list") (.type "module") = pure false by rw [isSubtype_type]; kernel_rfl) ?_)
  rw [va_app, Bool.false_or, if_neg (by decide)]
  have ht : wpAny M A (isType (.ref a)) (fun b s' => b = false ∧ s' = s) E s := by
    unfold isType loadHead
    refine wpAny_bind (wpAny_loadPart hx (wpAny_pure ?_))
    rw [hd]; exact ⟨rfl, rfl⟩
  refine wpAny_bind (wpAny_mono ht (fun b s' hb => ?_) fun _ _ e => e)
  obtain ⟨rfl, rfl⟩ := hb
  rw [if_neg (by decide)]
  refine wpAny_bind (wpAny_typeOf hT ?_)
  exact wpAny_of_eq (h2 _ _) h
/-- the call of a list's own append, held as a value -/
theorem call_app {D out : Addr} {its : Array Value} {n : Nat} {x : Value} {g : Obj → Led} {Q : Value → Shared → Prop} (F : Fr h₀ L s.heap m) (N : News h₀ L s.heap news) (hD : (D, boundAt out) ∈ news) (U : UpdF out (listOf its n) news g) (hsz : its.size ≤ sizeLine)
    (h : ∀ h' n', Fr h₀ L h' m → News h₀ L h' (g (listOf (its.push x) n')) → Q .none { s with heap := h' }) : wpAny (model prog w) A (call (.ref D) [x]) Q E s := by
  obtain ⟨pre, post, rfl, e, n1, n2⟩ := U.split
  have z := N (out, listOf its n) (List.mem_append.mpr (.inr (.head _)))
  refine wpAny_call (codeAny_of_tree ?_)
  show wpAny _ _ (callAny (.ref D) _) _ _ _
  unfold callAny
  refine wpAny_bind (wpAny_load (N.get hD) ?_)
  dsimp only [boundAt]
  rw [if_pos (by decide)]
  show wpAny _ _ (do checkBoundCall "list.append" ⟨[.ref out, x], []⟩; again (Code.builtin "list.append" ⟨[.ref out, x], []⟩)) _ _ _
  refine wpAny_bind (check_app z.1 rfl rfl ?_)
  refine wpAny_pure ⟨Code.quiet_builtin _ (by decide +kernel), codeAny_builtin entry_list_append ?_⟩
  show wpAny _ _ (updateSeq out (·.push x) >>= fun _ => ret .none) _ _ s
  refine wpAny_bind ?_
  refine wpAny_updateSeq z.1 rfl (wpAny_pure ?_)
  have hs : Heap.SameBut out s.heap (s.heap.update out (Obj.mapSeq (·.push x))) := Heap.SameBut.update ..
  refine h _ (n + 1) (F.change hs z.2.1 z.2.2) ?_
  rw [e]
  exact news_set N n1 n2 hs (by rw [Heap.get?_update_self _ z.1 (by rw [mapSeq_push]; rfl), mapSeq_push])
noncomputable def AppAt (D out : Addr) (h : Heap) : Prop := h.get? D = some (boundAt out)
theorem appAt_of {D out : Addr} {h : Heap} (N : News h₀ L h news) (hm : (D, boundAt out) ∈ news) : AppAt D out h := N.get hm
theorem callWith_app {M : Model} {env : Env} {pos : Pos} {D out : Addr} {first : List Value} {e : PySem.Expr} {rest : List PySem.Expr} {Q : Value → Shared → Prop} (_N : News h₀ L s.heap news) (_hm : (D, boundAt out) ∈ news)
    (h : wpAny M A (spliced (backTo pos (starEach (e :: rest) env))) (fun vs s₁ => AppAt D out s₁.heap ∧ wpAny M A (call (.ref D) (first ++ vs)) Q E s₁) E s)
    (he : starEach (e :: rest) env = (false, eval e env) :: starEach rest env := by rfl) (hplain : (backTo pos (starEach rest env)).any (·.1) = false := by rfl) :
    wpAny M A (callWith pos (.ref D) first (backTo pos (starEach (e :: rest) env)) []) Q E s := by
  rw [he] at h ⊢
  exact callWith_of (P := AppAt D out) (by show ((false || (backTo pos (starEach rest env)).any (·.1)) || false) = false; rw [hplain]; rfl) (fun h' X => ⟨.machine, .inr (.inl rfl), (Looks.ld (part := none) X).andThen .now⟩) (Calls.evalArgs_plain h)
theorem tr_its {a : Addr} {I : List It} {n : Nat} {b : Bool} {Q : Bool → Shared → Prop} (N : News h₀ L s.heap news) (hm : (a, PySem.W.listOf (its I).toArray n) ∈ news) (hI : I.length ≤ 64) (hb : (!I.isEmpty) = b) (h : ∀ tk, Q b { s with toks := tk }) :
    wpAny (model prog w) A (truthy (.ref a)) Q E s := by
  refine wpAny_truthy_list (N.isList hm) ?_ ?_
  · have := its_size hI
    have : ((its I).toArray.size : Int) ≤ 1000 := by exact_mod_cast this
    omega
  · have e : (!(its I).toArray.isEmpty) = b := by rw [← hb]; cases I <;> rfl
    rw [e]; exact h _
end
end
section
open PyProof.Rows.LCg (NsObj lst ns_obj)
section
variable {prog : Program} {w : World} {A : Around} {E : Value → Shared → Prop} {s : Shared} {h₀ : Heap} {L : Addr} {m : Str → Option Value} {env : Env} {news : Led}
theorem compEP {elt iter : PySem.Expr} {x x2 : Str} {px px2 tp : Pos} {tk : Nat} {scope : Scope} {cl : List (Str × Addr)} {pos : Pos} {Q : Value → Shared → Prop}
    (hclos : closureFor scope env = pure cl) (hkind : scope.kind = .function) (hnames : ∀ y ∈ scope.names, y.2 = .local → scope.names.lookup y.1 = some .local)
    (h : wpAny (model prog w) A (eval iter env) (CompGo prog w A env (.ListComp elt [⟨.Tuple [.Name x px, .Name x2 px2] tk tp, iter, [], 0⟩] scope pos) scope cl E none Q) E s)
    (hs : ∀ x, foldedSetIterable iter env x = pure x := by intro _; rfl) :
    wpAny (model prog w) A (eval (.ListComp elt [⟨.Tuple [.Name x px, .Name x2 px2] tk tp, iter, [], 0⟩] scope pos) env) Q E s := by
  rw [eval_ListComp]
  exact wpAny_comprehension_free (use := none) rfl hs hclos hkind hnames h
theorem comp_blockP : ∀ {prog : Program} {w : World} {A : Around} {E : Value → Shared → Prop} {s : Shared} {h₀ : Heap} {L : Addr} {m : Str → Option Value} {env : Env} {news : Led} {elt iter : PySem.Expr} {x x2 : Str} {px px2 tp : Pos} {tk : Nat} {scope : Scope} {cl : List (Str × Addr)} {pos : Pos} {I ax : Addr} {items : List Value} {RR : Value → Addr → Result → Shared → Prop} (J : Nat → List Value → Led → Prop) (hh : A.handled = none) (hsz : items.length ≤ sizeLine) (hl : ∀ i ys news' h', J i ys news' → (∀ b o, h₀.get? b = some o → h'.get? b = some o) → News h₀ L h' news' → h'.IsList ax items.toArray) (hcell : ∀ y ∈ scope.names, y.2 ≠ .cell) (hkind : scope.kind = .function) (hx : scope.names.lookup x = some .local) (hx2 : scope.names.lookup x2 = some .local) (hxx : x ≠ x2) (F : Fr h₀ L s.heap m) (N : News h₀ L s.heap news) (h0 : J 0 [] news) (hit : s.heap.IsListIter I ax 0) (hne : ax ≠ I) (hIL : L ≠ I) (hI₀ : h₀.get? I = none) (off : ∀ p ∈ news, p.1 ≠ I) (turn : ∀ i v ys news₁, items[i]? = some v → J i ys news₁ → ∃ (t : Addr) (ot : Obj) (v₁ v₂ : Value) (nt : Nat), v = .ref t ∧ (t, ot) ∈ news₁ ∧ ot.cls = .type "tuple" ∧ ot.data = .seq #[v₁, v₂] nt ∧ (∀ h₁ tk₁ I oI C oC D m₂ (E' : Value → Shared → Prop), NsObj oC m₂ → m₂ x = some v₁ → m₂ x2 = some v₂ → Fr h₀ L h₁ m → News h₀ L h₁ ((I, oI) :: (C, oC) :: (D, lst ys) :: news₁) →
      (∀ p ∈ news₁, p.1 ≠ I ∧ p.1 ≠ C ∧ p.1 ≠ D) → ((@Ne Nat I C) ∧ (@Ne Nat I D) ∧ (@Ne Nat C D)) →
      wpAny (model prog w) A (eval elt (compEnvC scope cl C env)) (fun y => CTurn h₀ L m s I oI C oC D (lst ys) (J (i + 1) (ys ++ [y]))) E' { s with heap := h₁, toks := tk₁ })) (hRR : ∀ D C h tk m' ys news', Fr h₀ L h m → News h₀ L h ((D, lst ys) :: news') → (∀ p ∈ news', p.1 ≠ C ∧ p.1 ≠ D) → h.Ns C m' → h₀.get? C = none → h₀.get? D = none → C ≠ L → D ≠ L → C ≠ D → J items.length ys news' → RR (.ref D) C (.ok .next) { s with heap := h, toks := tk }), wpAny (model prog w) A (newList []) (fun acc s₃ => wpAny (model prog w) A (newFunctionEnv scope env.globals cl [] env.qual none .none (some env)) (fun cenv s₄ =>
      codeAny (model prog w) A (.compStart (.ListComp elt [⟨.Tuple [.Name x px, .Name x2 px2] tk tp, iter, [], 0⟩] scope pos) 0 (.ref I) acc { cenv with scope := relabel scope env }) (RR acc cenv.locals) s₄) E s₃) E s := by
  have skon : SkOn := .mk
  intro prog w A E s h₀ L m env news elt iter x x2 px px2 tp tk scope cl pos I ax items RR J hh hsz hl hcell hkind hx hx2 hxx F N h0 hit hne hIL hI₀ off turn hRR
  have hls := hl 0 [] news _ h0 F.keep N
  have W := list_at (prog := prog) (w := w) (its := items.toArray) hh hne
  have hn : items.toArray.size = items.length := List.size_toArray
  have axlt : ax < s.heap.objs.size := by obtain ⟨o, e, _⟩ := hls; exact Heap.lt_size e
  have Ilt : I < s.heap.objs.size := by obtain ⟨o, e, _⟩ := hit; exact Heap.lt_size e
  refine comp_alloc hcell hkind F N Ilt off (Nat.zero_le _) rfl ?_
  intro D C h₁ tk1 m1 F₁ hns₁ N₁ off₀ old hall
  obtain ⟨hC₀, hD₀, hCL, hDL, hCD, hIC, hID⟩ := hall
  have loop : codeAny (model prog w) A (.compLoop (.ListComp elt [⟨.Tuple [.Name x px, .Name x2 px2] tk tp, iter, [], 0⟩] scope pos) 0 (.ref I) (.ref D) (compEnvC scope cl C env)) (RR (.ref D) C) { s with heap := h₁, toks := tk1 } := by
    refine PyProof.Rows.LCp.codeAny_compLoop_pair
      (fun k s' => ∃ h' tk i ys m' news', s' = { s with heap := h', toks := tk } ∧ i ≤ items.length ∧ k = items.length + 1 - i ∧ ys.length ≤ i ∧ h'.IsListIter I ax i ∧ Fr h₀ L h' m ∧ h'.Ns C m' ∧ News h₀ L h' ((D, lst ys) :: news') ∧
        (∀ p ∈ news', p.1 ≠ I ∧ p.1 ≠ C ∧ p.1 ≠ D) ∧ J i ys news') ?_ (items.length + 1)
      ⟨h₁, _, 0, [], _, news, rfl, Nat.zero_le _, rfl, Nat.le_refl _, ?_, F₁, hns₁, N₁, off₀, h0⟩
    · intro k s' hq9; obtain ⟨h', tk, i, ys, m', news', rfl, hi, rfl, hyl, hit', F', hn', N', off', hJ⟩ := hq9
      have hlist := hl i ys news' h' hJ F'.keep fun p hp => N' p (.tail _ hp)
      have next : ∀ h₂ : Heap, (∀ b o, b ∉ [I] → h'.get? b = some o → h₂.get? b = some o) → Fr h₀ L h₂ m ∧ h₂.Ns C m' ∧ News h₀ L h₂ ((D, lst ys) :: news') := fun h₂ hk => comp_next hIL hI₀ hIC hID F' hn' N' off' hk
      by_cases hlt : i < items.length
      · refine W.item i _ _ _ hlt ⟨hit', hlist⟩ ?_
        intro v h₂ tk₂ hPv hst₂ hk₂
        obtain ⟨F₂, hn₂, N₂⟩ := next h₂ hk₂
        obtain ⟨t, ot, v₁, v₂, nt, rfl, hmt, hct, hdt, R''⟩ := turn i v ys news' (List.getElem?_toArray.symm.trans hPv) hJ
        have ht : IsTup h₂ t #[v₁, v₂] := ⟨ot, (N₂ _ (.tail _ hmt)).1, hct, nt, hdt⟩
        refine wpAny_letOwnedTupleGo_listiter hst₂.1 ?_
        refine assign_Tuple_tuple hh ht rfl rfl ?_
        intro h₅ he
        have he' : ∀ b o, h₂.get? b = some o → h₅.get? b = some o := fun b o e => he b o (Nat.ne_of_lt (Heap.lt_size e)) e
        refine assignInOrder_cons (wpAny_assign_Name (wpAny_storeName_local (lookup_relabel_local hx) (hn₂.at' fun o e => he' _ o e) ?_ (comp_hp hkind)))
        intro h₆ hn₆ hs₆
        refine assignInOrder_cons (wpAny_assign_Name (wpAny_storeName_local (lookup_relabel_local hx2) hn₆ ?_ (comp_hp hkind)))
        intro h₃ hn₃ hs₃
        refine assignInOrder_nil ?_
        have old3 : ∀ b o, b ≠ C → h₂.get? b = some o → h₃.get? b = some o := fun b o hb e => hs₃.extBut b o hb (hs₆.extBut b o hb (he' b o e))
        obtain ⟨oI, heI, hcI, hdI⟩ := hst₂.1
        obtain ⟨oC, heC, hoC⟩ := ns_obj hn₃
        have heI₃ : h₃.get? I = some oI := old3 _ _ hIC heI
        have F₃ : Fr h₀ L h₃ m := ((F₂.keeps he').change hs₆ hCL hC₀).change hs₃ hCL hC₀
        have N₃ : News h₀ L h₃ ((I, oI) :: (C, oC) :: (D, lst ys) :: news') := comp_news3 hIL hI₀ hCL hC₀ hCD heI₃ heC old3 N₂ off'
        have stay : ∀ h₄ news₄, Fr h₀ L h₄ m → News h₀ L h₄ ((I, oI) :: (C, oC) :: (D, lst ys) :: news₄) → h₄.IsListIter I ax (i + 1) ∧ (∃ m₄, h₄.Ns C m₄) ∧ News h₀ L h₄ ((D, lst ys) :: news₄) := fun h₄ news₄ F₄ N₄ =>
          ⟨⟨oI, (N₄ _ (.head _)).1, hcI, hdI⟩, ⟨_, hoC.ns (N₄ _ (.tail _ (.head _))).1⟩, fun p hp => N₄ p (.tail _ (.tail _ hp))⟩
        refine wpAny_mono (R'' _ _ I oI C oC D _ _ hoC ((if_neg hxx).trans (if_pos rfl)) (if_pos rfl) F₃ N₃ off' ⟨hIC, hID, hCD⟩) ?_ fun _ _ e => e
        intro y s₅ h₅
        obtain ⟨h₅, tk₅, news₅, rfl, F₅, N₅, off₅, hJ₅⟩ := h₅
        obtain ⟨q1, ⟨m₅, q2⟩, q3⟩ := stay h₅ news₅ F₅ N₅
        refine append_at (hsz := Nat.le_trans hyl (Nat.le_trans hi hsz)) (q3 _ (.head _)).1 ?_
        intro h₆ hs₆ hD₆
        refine ⟨items.length + 1 - (i + 1), Nat.sub_lt_sub_left (Nat.lt_succ_of_lt hlt) (Nat.lt_succ_self i), h₆, tk₅, i + 1, ys ++ [y], _, news₅, rfl, hlt, rfl, Nat.le_trans (Nat.le_of_eq List.length_append) (Nat.succ_le_succ hyl), q1.extBut hs₆.extBut hID, F₅.change hs₆ hDL hD₀, q2.sameBut hs₆ hCD, comp_filled hDL hD₀ (hD₆.trans (congrArg some (PyProof.Rows.LCg.lst_snoc ys y))) hs₆.extBut q3 off₅, off₅, hJ₅⟩
      · obtain rfl : i = items.length := Nat.le_antisymm hi (Nat.not_lt.mp hlt)
        refine W.done _ _ _ ⟨hit', hlist⟩ ?_
        intro h₂ tk₂ hk₂
        obtain ⟨F₂, hn₂, N₂⟩ := next h₂ hk₂
        exact hRR D C h₂ tk₂ m' ys news' F₂ N₂ (fun p hp => (off' p hp).2) hn₂ hC₀ hD₀ hCL hDL hCD hJ
    · obtain ⟨o, e, r⟩ := hit; exact ⟨o, old _ _ e, r⟩
  refine codeAny_compStart_list loop (wpAny_pyIter_listiter (i := 0) (l := ax) ?_ loop)
  obtain ⟨o, e, r⟩ := hit; exact ⟨o, old _ _ e, r⟩
theorem compGoEP {elt iter : PySem.Expr} {x x2 : Str} {px px2 tp : Pos} {tk : Nat} {scope : Scope} {cl : List (Str × Addr)} {pos : Pos} {ax : Addr} {items : List Value} {Q : Value → Shared → Prop}
    (J : Nat → List Value → Led → Prop) (hh : A.handled = none) (hsz : items.length ≤ sizeLine)
    (hcell : ∀ y ∈ scope.names, y.2 ≠ .cell) (hkind : scope.kind = .function) (hx : scope.names.lookup x = some .local) (hx2 : scope.names.lookup x2 = some .local) (hxx : x ≠ x2)
    (F : Fr h₀ L s.heap m) (N : News h₀ L s.heap news)
    (hl : ∀ i ys news' h', J i ys news' → (∀ b o, h₀.get? b = some o → h'.get? b = some o) → News h₀ L h' news' → h'.IsList ax items.toArray)
    (h0 : J 0 [] news)
    (turn : ∀ i v ys news₁, items[i]? = some v → J i ys news₁ → ∃ (t : Addr) (ot : Obj) (v₁ v₂ : Value) (nt : Nat), v = .ref t ∧ (t, ot) ∈ news₁ ∧ ot.cls = .type "tuple" ∧ ot.data = .seq #[v₁, v₂] nt ∧ (∀ h₁ tk₁ I oI C oC D m₂ (E' : Value → Shared → Prop), NsObj oC m₂ → m₂ x = some v₁ → m₂ x2 = some v₂ → Fr h₀ L h₁ m → News h₀ L h₁ ((I, oI) :: (C, oC) :: (D, lst ys) :: news₁) →
      (∀ p ∈ news₁, p.1 ≠ I ∧ p.1 ≠ C ∧ p.1 ≠ D) → ((@Ne Nat I C) ∧ (@Ne Nat I D) ∧ (@Ne Nat C D)) →
      wpAny (model prog w) A (eval elt (compEnvC scope cl C env)) (fun y => CTurn h₀ L m s I oI C oC D (lst ys) (J (i + 1) (ys ++ [y]))) E' { s with heap := h₁, toks := tk₁ }))
    (fin : ∀ D h' tk news' ys, Fr h₀ L h' m → News h₀ L h' ((D, lst ys) :: news') → (∀ p ∈ news', p.1 ≠ D) → J items.length ys news' → Q (.ref D) { s with heap := h', toks := tk }) :
    CompGo prog w A env (.ListComp elt [⟨.Tuple [.Name x px, .Name x2 px2] tk tp, iter, [], 0⟩] scope pos) scope cl E none Q (.ref ax) s := by
  have hls := hl 0 [] news _ h0 F.keep N
  have hlt : ax < s.heap.objs.size := by obtain ⟨_, e, _⟩ := hls; exact Heap.lt_size e
  unfold CompGo
  refine wpAny_pyIter_list hls ?_
  have up : ∀ b o, s.heap.get? b = some o → (s.heap.push { cls := .type "list_iterator", data := .fields #[.ref ax, .int 0 0] }).get? b = some o := fun b o e => Heap.get?_push_of_some _ e
  refine comp_blockP (s := { s with heap := s.heap.push { cls := .type "list_iterator", data := .fields #[.ref ax, .int 0 0] } }) J hh hsz hl hcell hkind hx hx2 hxx (F.keeps up) (N.grown up) h0 ⟨_, Heap.get?_push_size _ rfl, rfl, rfl⟩ (Nat.ne_of_lt hlt) (Nat.ne_of_lt F.ns.lt) (next_is_new F) (fun p hp => Nat.ne_of_lt (Heap.lt_size (N p hp).1))
    turn ?_
  intro D C h tk m' ys news' F' N' o1 hn hC₀ hD₀ hCL hDL hCD hJ
  refine ⟨m', hn, fun h'' hs'' => fin D h'' tk news' ys (F'.change hs'' hCL hC₀) (fun p hp => ?_) (fun p hp => (o1 p hp).2) hJ⟩
  refine ⟨hs''.extBut _ _ ?_ (N' p hp).1, (N' p hp).2⟩
  rcases List.mem_cons.mp hp with rfl | hp
  · exact Ne.symm hCD
  · exact (o1 p hp).1
end
end
theorem flush1 : True ∧ True := by first | (walk1; done) | exact ⟨trivial, trivial⟩
section
theorem warm_G7 : PySem.Challenge.rw_ta0132_01.Holds → hd1.heap_1_39 = hd1.heap_1_39 := by
  k_fill
  intro _
  rfl
inductive Flag : Nat → Prop
  | mk (n : Nat) : Flag n
noncomputable abbrev bS (AL PD : Addr) (vR : Option Value) (SA nn av : Addr) (tm : Tok) : Str → Option Value := fun y => if y = Str.ofString "attr_list" then some (.ref AL) else if y = Str.ofString "parsed_qnames" then some (.ref PD) else if y = Str.ofString "qattrs" then some .none else if y = Str.ofString "resolved_names" then vR else if y = Str.ofString "qnames" then some (.ref SA) else if y = Str.ofString "qname_text" then some .none else if y = Str.ofString "new_namespaces" then some (.ref nn) else if y = Str.ofString "attrs" then some (.ref av) else if y = Str.ofString "tag" then some (.str (Str.ofString "m") tm) else none
noncomputable abbrev b5 (u1 u2 u3 u4 u5 : Option Value) (r : Str → Option Value) : Str → Option Value := fun y => if y = Str.ofString "uri" then u1 else if y = Str.ofString "attr_name" then u2 else if y = Str.ofString "attr_qname" then u3 else if y = Str.ofString "v" then u4 else if y = Str.ofString "k" then u5 else r y
theorem b5_none {r : Str → Option Value} (h1 : r (Str.ofString "uri") = none) (h2 : r (Str.ofString "attr_name") = none) (h3 : r (Str.ofString "attr_qname") = none) (h4 : r (Str.ofString "v") = none) (h5 : r (Str.ofString "k") = none) : b5 none none none none none r = r := (kv50 h1 h2 h3 h4 h5).symm
theorem get_none {prog : Program} {w : World} {A : Around} {E : Value → Shared → Prop} {s : Shared} {h₀ : Heap} {L d : Addr} {news : Led} {o : Obj} {kvs : List (Str × Value)} {k : Str} {t : Tok} {Q : Value → Shared → Prop} (N : News h₀ L s.heap news) (hp : (d, o) ∈ news) (hd : o.IsDictOf (PySem.strKind prog w) kvs) (lo : (d == sysModules) = false) (hl : valueAt kvs k = none) (h : Q .none { s with toks := s.toks + 1 }) :
    wpAny (model prog w) A (call (.builtin "dict.get") [.ref d, .str k t]) Q E s := kdg_get1 N hp hd lo (strKind_is _ _ _ _) none hl h
noncomputable def KeyG (k : Str) : Prop := k.length ≤ 4 ∧ Txt.splitMax k (Str.ofString "}") 1 = [k] ∧ (Txt.slice k none (some 1) == Str.ofString "{") = false
theorem keyG_m : KeyG (Str.ofString "m") := by unfold KeyG; decide +kernel
theorem of_addK {ks : List Str} {k x : Str} (h : x ∈ addK ks k) : x ∈ ks ∨ x = k := by
  unfold addK at h
  split at h
  · exact .inl h
  · rcases List.mem_append.mp h with h | h
    · exact .inl h
    · exact .inr (List.mem_singleton.mp h)
theorem of_addAll : ∀ {l ks : List Str} {x : Str}, x ∈ addAll ks l → x ∈ ks ∨ x ∈ l
  | [], _, _, h => .inl h
  | k :: l, ks, x, h => by
    rcases of_addAll (l := l) (ks := addK ks k) h with h | h
    · rcases of_addK h with h | rfl
      · exact .inl h
      · exact .inr (.head _)
    · exact .inr (.tail _ h)
noncomputable def escV (v : Str) : Str := escS (v.cps.getD 0 0) (v.cps.getD 1 0)
/-- an attribute as it is written -/
noncomputable def attrS (i : It) : Str := Str.ofString " " ++ i.k ++ Str.ofString "=\"" ++ escV i.v ++ Str.ofString "\""
noncomputable def outV (I : List It) (ta tb tc : Tok) : Array Value := if I = [] then #[.str (Str.ofString "<" ++ Str.ofString "m") ta, .str (Str.ofString ">") tc] else #[.str (Str.ofString "<" ++ Str.ofString "m") ta, .str (Txt.join (Str.ofString "") (I.map attrS)) tb, .str (Str.ofString ">") tc]
/-- the middle of _start: the attributes gathered -/
noncomputable def MidS (w : World) (t1 t2 t3 t4 t5 t6 t7 t8 t9 t10 t11 t12 t13 t14 t15 t16 t17 t18 tz : Tok) (D d out l0 lq l2 l3 l5 B9 dpm nn av : Addr) (nd n0 n2 no : Nat) (tm : Tok) (AL PD SA : Addr) (g1 : Heap) (L1 : Addr) (kvs : List (Str × Value)) (rest2 : Led) (s : Shared) (f : Flow) (s' : Shared) : Prop :=
  f = .next ∧ ∃ h' tk' I nA u1 u2 u3 u4 u5 u6 rest3, s' = { s with heap := h', toks := tk' } ∧ Fr g1 L1 h' (b5 u1 u2 u3 u4 u5 (bS AL PD u6 SA nn av tm)) ∧ News g1 L1 h' ((AL, listOf (its I).toArray nA) :: (l0, listOf #[.bool false] n0) :: (l2, listOf #[.ref B9, .ref lq] n2) :: (d, dictOf (wes w.params t1 t2 t3 t4 t5 t6 t7 t8 t9 t10 t11 t12 t13 t14 t15 t16 t17 t18 tz D l5 l3 l2 dpm l0 false) nd) :: (out, listOf #[] no) :: rest3) ∧ (I.map It.kv).Perm kvs ∧ (I.map It.kv).Pairwise (fun i j => i.1.cps.toList < j.1.cps.toList) ∧ (∀ i ∈ I, i.obj ∈ rest3) ∧ (∀ p ∈ rest2, p ∈ rest3) ∧ (∀ p ∈ rest3, p.1 ≠ AL ∧ p.1 ≠ l0 ∧ p.1 ≠ l2 ∧ p.1 ≠ d ∧ p.1 ≠ out)
local macro_rules | `(tactic| walk_at "eval ListComp") => rd #[] "~( ~k_here 1~PySem.W.tacticK_here ~; ~k_dflt ~( ~refine' compEP ~? c1~ 2~E.syntheticHole ~? c2~ 2~E.syntheticHole ~? c3~ 2~E.syntheticHole ~? ~_ 2~E.syntheticHole 4~null 2~E.app 2~T.refine' ~; ~( ~case c1~ 1~Lean.binderIdent 0~null 2~T.caseArg 1~null ~=> ~with_unfolding_all ~rfl 1~T.tacticRfl 1~S 2~T.withUnfoldingAll 1~S 4~T.case 1~S ~) 3~T.paren ~; ~( ~case c2~ 1~Lean.binderIdent 0~null 2~T.caseArg 1~null ~=> ~exact rfl 2~T.exact 1~S 4~T.case 1~S ~) 3~T.paren ~; ~( ~case c3~ 1~Lean.binderIdent 0~null 2~T.caseArg 1~null ~=> ~decide 0~null 1~T.optConfig 2~T.decide 1~S 4~T.case 1~S ~) 3~T.paren 7~S ~) 3~T.paren 2~PySem.W.tacticK_dflt_ 3~S ~) 3~T.paren"
noncomputable abbrev topS (w : World) (t1 t2 t3 t4 t5 t6 t7 t8 t9 t10 t11 t12 t13 t14 t15 t16 t17 t18 tz : Tok) (D d out l0 l1 l2 l3 l5 B9 dp : Addr) (rs : Bool) (nd n0 n2 no : Nat) (vo ps : Array Value) (rest : Led) : Led :=
  (123, tabObj ps) :: (l0, listOf #[.bool false] n0) :: (l2, listOf #[.ref B9, .ref l1] n2) :: (d, dictOf (wes w.params t1 t2 t3 t4 t5 t6 t7 t8 t9 t10 t11 t12 t13 t14 t15 t16 t17 t18 tz D l5 l3 l2 dp l0 rs) nd) :: (out, listOf vo no) :: rest
theorem put_seen (P : Params) (t1 t2 t3 t4 t5 t6 t7 t8 t9 t10 t11 t12 t13 t14 t15 t16 t17 t18 tz : Tok) (D l5 l3 l2 dp l0 : Addr) (n : Nat) (hs : Int) (k : Value) : (putL (Str.ofString "_root_seen") hs k (.bool true) (wes P t1 t2 t3 t4 t5 t6 t7 t8 t9 t10 t11 t12 t13 t14 t15 t16 t17 t18 tz D l5 l3 l2 dp l0 false), putN (Str.ofString "_root_seen") (wes P t1 t2 t3 t4 t5 t6 t7 t8 t9 t10 t11 t12 t13 t14 t15 t16 t17 t18 tz D l5 l3 l2 dp l0 false) n) = (wes P t1 t2 t3 t4 t5 t6 t7 t8 t9 t10 t11 t12 t13 t14 t15 t16 t17 t18 tz D l5 l3 l2 dp l0 true, n) := by kernel_rfl
theorem esc_len (a b : Nat) : (escS a b).length ≤ 8 := by
  show (a :: escM b).toArray.size ≤ 8
  unfold escM
  repeat' split
  all_goals simp
theorem attr_len {i : It} (h : i.k.length ≤ 4) : (attrS i).length ≤ 16 := by
  have h2 : (escV i.v).length ≤ 8 := esc_len _ _
  have h1 : i.k.cps.size ≤ 4 := h
  have h2' : (escV i.v).cps.size ≤ 8 := h2
  unfold attrS
  show (((((Str.ofString " ").cps ++ i.k.cps) ++ (Str.ofString "=\"").cps) ++ (escV i.v).cps) ++ (Str.ofString "\"").cps).size ≤ 16
  have e1 : (Str.ofString " ").cps.size = 1 := rfl
  have e2 : (Str.ofString "=\"").cps.size = 2 := rfl
  have e3 : (Str.ofString "\"").cps.size = 1 := rfl
  simp only [Array.size_append, e1, e2, e3]
  omega
theorem attrs_weight : ∀ I : List It, (∀ i ∈ I, i.k.length ≤ 4) → ((I.map attrS).map (·.length)).sum ≤ 16 * I.length
  | [], _ => by simp
  | i :: I, h => by
    have := attrs_weight I fun j hj => h j (.tail _ hj)
    have := attr_len (h i (.head _))
    simp only [List.map_cons, List.sum_cons, List.length_cons]
    omega
theorem attr_eq {i : It} {ca cb : Nat} (h : i.v = ⟨#[ca, cb]⟩) : Str.empty ++ Str.ofString " " ++ i.k ++ Str.ofString "=\"" ++ escS ca cb ++ Str.ofString "\"" = attrS i := by
  unfold attrS
  rw [Str.empty_append]
  have : escV i.v = escS ca cb := by rw [h]; rfl
  rw [this]
theorem start_news {h₀ h : Heap} {L l' AL l0 l2 d out : Addr} {o' oA o0 o2 od oo : Obj} {rest : Led} (N : News h₀ L h ((l', o') :: (AL, oA) :: (l0, o0) :: (l2, o2) :: (d, od) :: (out, oo) :: rest)) : News h₀ L h ((l0, o0) :: (l2, o2) :: (d, od) :: (out, oo) :: (l', o') :: (AL, oA) :: rest) := cb_drop N (fm (by k_mem) (fm (by k_mem) (fm (by k_mem) (fm (by k_mem) (fm (by k_mem) (fm (by k_mem) (mt (mt (mt (mt (mt (mt mi))))))))))))
theorem start_off {l' AL l0 l2 d out : Addr} {o' oA : Obj} {rest : Led} (hz : AL < l' ∧ l0 < l' ∧ l2 < l' ∧ d < l' ∧ out < l') (y1 : @Ne Nat AL l0) (y2 : @Ne Nat AL l2) (y3 : @Ne Nat AL d) (y4 : @Ne Nat AL out) (ho : ∀ p ∈ rest, p.1 ≠ AL ∧ p.1 ≠ l0 ∧ p.1 ≠ l2 ∧ p.1 ≠ d ∧ p.1 ≠ out) : ∀ p ∈ (l', o') :: (AL, oA) :: rest, p.1 ≠ l0 ∧ p.1 ≠ l2 ∧ p.1 ≠ d ∧ p.1 ≠ out := fun p hp => by
  rcases List.mem_cons.mp hp with rfl | hp
  · exact ⟨Nat.ne_of_gt hz.2.1, Nat.ne_of_gt hz.2.2.1, Nat.ne_of_gt hz.2.2.2.1, Nat.ne_of_gt hz.2.2.2.2⟩
  rcases List.mem_cons.mp hp with rfl | hp
  · exact ⟨y1, y2, y3, y4⟩
  · exact (ho p hp).2
/-- what _start leaves -/
noncomputable def StartPost (w : World) (t1 t2 t3 t4 t5 t6 t7 t8 t9 t10 t11 t12 t13 t14 t15 t16 t17 t18 tz : Tok) (D d out l0 lq l2 l3 l5 B9 dpm : Addr) (kvs : List (Str × Value)) (rest : Led) (r : Value) (news' : Led) : Prop :=
  r = .none ∧ ∃ (I : List It) (lz : Addr) (nd' n0' n2' no' : Nat) (tA tB tC : Tok) (rest' : Led), news' = (l0, W.listOf #[.bool false, .bool false] n0') :: (l2, W.listOf #[.ref B9, .ref lq, .ref lz] n2') :: (d, dictOf (wes w.params t1 t2 t3 t4 t5 t6 t7 t8 t9 t10 t11 t12 t13 t14 t15 t16 t17 t18 tz D l5 l3 l2 dpm l0 true) nd') :: (out, W.listOf (outV I tA tB tC) no') :: rest' ∧ (∀ p ∈ rest, p ∈ rest') ∧ (∀ p ∈ rest', p.1 ≠ l0 ∧ p.1 ≠ l2 ∧ p.1 ≠ d ∧ p.1 ≠ out) ∧ (I.map It.kv).Perm kvs ∧ (I.map It.kv).Pairwise (fun i j => i.1.cps.toList < j.1.cps.toList)
theorem start_post1 {w : World} {t1 t2 t3 t4 t5 t6 t7 t8 t9 t10 t11 t12 t13 t14 t15 t16 t17 t18 tz : Tok} {D d out l0 lq l2 l3 l5 B9 dpm : Addr} {kvs : List (Str × Value)} {rest rest' : Led} {I : List It} {lz : Addr} {nd' n0' n2' no' : Nat} {tA tB tC : Tok} (hI : I ≠ []) (h1 : ∀ p ∈ rest, p ∈ rest') (h2 : ∀ p ∈ rest', p.1 ≠ l0 ∧ p.1 ≠ l2 ∧ p.1 ≠ d ∧ p.1 ≠ out) (h3 : (I.map It.kv).Perm kvs) (h4 : (I.map It.kv).Pairwise (fun i j => i.1.cps.toList < j.1.cps.toList)) :
    StartPost w t1 t2 t3 t4 t5 t6 t7 t8 t9 t10 t11 t12 t13 t14 t15 t16 t17 t18 tz D d out l0 lq l2 l3 l5 B9 dpm kvs rest .none ((l0, W.listOf #[.bool false, .bool false] n0') :: (l2, W.listOf (#[.ref B9, .ref lq].push (.ref lz)) n2') :: (d, dictOf (wes w.params t1 t2 t3 t4 t5 t6 t7 t8 t9 t10 t11 t12 t13 t14 t15 t16 t17 t18 tz D l5 l3 l2 dpm l0 true) nd') :: (out, W.listOf ((#[.str (Str.ofString "<" ++ Str.ofString "m") tA].push (.str (Txt.join (Str.ofString "") (I.map attrS)) tB)).push (.str (Str.ofString ">") tC)) no') :: rest') := by
  refine ⟨rfl, I, lz, nd', n0', n2', no', tA, tB, tC, rest', ?_, h1, h2, h3, h4⟩
  rw [outV, if_neg hI]; rfl
theorem start_post0 {w : World} {t1 t2 t3 t4 t5 t6 t7 t8 t9 t10 t11 t12 t13 t14 t15 t16 t17 t18 tz : Tok} {D d out l0 lq l2 l3 l5 B9 dpm : Addr} {kvs : List (Str × Value)} {rest rest' : Led} {I : List It} {lz : Addr} {nd' n0' n2' no' : Nat} {tA tC : Tok} (hI : I = []) (h1 : ∀ p ∈ rest, p ∈ rest') (h2 : ∀ p ∈ rest', p.1 ≠ l0 ∧ p.1 ≠ l2 ∧ p.1 ≠ d ∧ p.1 ≠ out) (h3 : (I.map It.kv).Perm kvs) (h4 : (I.map It.kv).Pairwise (fun i j => i.1.cps.toList < j.1.cps.toList)) :
    StartPost w t1 t2 t3 t4 t5 t6 t7 t8 t9 t10 t11 t12 t13 t14 t15 t16 t17 t18 tz D d out l0 lq l2 l3 l5 B9 dpm kvs rest .none ((l0, W.listOf #[.bool false, .bool false] n0') :: (l2, W.listOf (#[.ref B9, .ref lq].push (.ref lz)) n2') :: (d, dictOf (wes w.params t1 t2 t3 t4 t5 t6 t7 t8 t9 t10 t11 t12 t13 t14 t15 t16 t17 t18 tz D l5 l3 l2 dpm l0 true) nd') :: (out, W.listOf ((#[].push (.str (Str.ofString "<" ++ Str.ofString "m") tA)).push (.str (Str.ofString ">") tC)) no') :: rest') := by
  refine ⟨rfl, I, lz, nd', n0', n2', no', tA, tA, tC, rest', ?_, h1, h2, h3, h4⟩
  rw [outV, if_pos hI]; rfl
theorem off_cons {a : Addr} {o : Obj} {b : Addr} {l : Led} (h1 : @Ne Nat a b) (h : ∀ p ∈ l, p.1 ≠ b) : ∀ p ∈ (a, o) :: l, p.1 ≠ b := fun p hp => by
  rcases List.mem_cons.mp hp with rfl | hp
  · exact h1
  · exact h p hp
theorem c_start2 : ∀ (w : World) (t1 t2 t3 t4 t5 t6 t7 t8 t9 t10 t11 t12 t13 t14 t15 t16 t17 t18 tz : Tok) (x D d out l0 lq l2 l3 l4 l5 B9 dpm nn Dt av : Addr) (oa : Obj) (kvs : List (Str × Value)) (nd n0 n2 n3 n4 n5 no : Nat) (ta tb tm : Tok) (rest : Led) (hx : (x, instObj 150 d) ∈ rest) (hav : (av, oa) ∈ rest) (hoa : oa.IsDictOf (PySem.strKind PySem.Challenge.pw_ta0132_01 w) kvs) (hats : (av == sysModules) = false) (hkn : kvs.length ≤ 62) (hvv : ∀ p ∈ kvs, ∃ ca cb t, ca ∈ letN ∧ cb ∈ [38, 60, 34, 9, 62, 46] ∧ p.2 = .str ⟨#[ca, cb]⟩ t) (hkg : ∀ p ∈ kvs, KeyG p.1) (h3 : (l3, listOf #[.ref l4, .ref nn] n3) ∈ rest) (h4 : (l4, listOf #[.ref Dt] n4) ∈ rest) (h5 : (nn, listOf #[] n5) ∈ rest) (hDt : (Dt, ({ cls := .type "tuple", data := .seq #[.str (Str.ofString "http://www.w3.org/XML/1998/namespace") ta, .str (Str.ofString "xml") tb] } : Obj)) ∈ rest) (hD : (D, boundAt out) ∈ rest) (q1 : @Ne Nat 123 l0) (q2 : @Ne Nat 123 l2) (q3 : @Ne Nat 123 d) (q4 : @Ne Nat 123 out) (q5 : @Ne Nat l0 l2) (q6 : @Ne Nat l0 d) (q7 : @Ne Nat l0 out) (q8 : @Ne Nat l2 d) (q9 : @Ne Nat l2 out) (q10 : @Ne Nat d out) (r1 : ∀ p ∈ rest, p.1 ≠ 123) (r2 : ∀ p ∈ rest, p.1 ≠ l0) (r3 : ∀ p ∈ rest, p.1 ≠ l2) (r4 : ∀ p ∈ rest, p.1 ≠ d) (r5 : ∀ p ∈ rest, p.1 ≠ out), ConD w 16 (call (.ref 126) [.ref x, .str (Str.ofString "m") tm, .ref av, .ref nn]) (topS w t1 t2 t3 t4 t5 t6 t7 t8 t9 t10 t11 t12 t13 t14 t15 t16 t17 t18 tz D d out l0 lq l2 l3 l5 B9 dpm false nd n0 n2 no #[] #[] rest) (fun r news' => ∃ ps, StartPost w t1 t2 t3 t4 t5 t6 t7 t8 t9 t10 t11 t12 t13 t14 t15 t16 t17 t18 tz D d out l0 lq l2 l3 l5 B9 dpm kvs ((123, tabObj ps) :: rest) r news') := by
  k_with_none
  k_with "exec For" => (with_unfolding_all refine wpAny_For ?_ (by intro _; rfl))
  k_with "storeName" => (k_here; (with_reducible show wpAny _ _ (storeName (envOfC _ _ _ _ _) _ _) _ _ _); k_dflt (refine' st_cell ?k1 ?k2 ?k3 ?k4 ?k5 ?k6 ?k7 ?_; (case k1 => k_asm); (case k2 => k_asm); (case k3 => exact rfl); (case k4 => exact rfl); (case k5 => exact rfl); (case k6 => k_updF); (case k7 => k_asm); k_whole); intro _ _ _ _ _; (try dsimp only))
  k_with "setItem ref ref ref" => (k_here; k_dflt (refine' store_all ?k1 ?k2 ?k3 ?k4 ?k5 ?k6 ?k7 ?k8 ?_; (case k1 => k_asm); (case k2 => k_asm); (case k3 => exact rfl); (case k4 => k_updF); (case k5 => k_mem); (case k6 => first | (simp only [beq_eq_false_iff_ne]; (try dsimp only); (refine neN ?_); omega) | (simp only [beq_eq_false_iff_ne]; assumption)); (case k7 => assumption); (case k8 => assumption); k_whole); intro _ _ _ _; (try dsimp only))
  k_with "call builtin:list.append" => (k_here; (with_reducible show wpAny _ _ (call (Value.builtin _) [Value.ref _, _]) _ _ _); k_dflt (refine' append_K ?k1 ?k2 ?k3 ?_ ?z; (case k1 => k_asm); (case k2 => k_asm); (case k3 => k_upd); (case z => first | size_fits | exact Nat.le_trans (by with_reducible assumption) (by decide)); k_whole); intro _ _ _; (try k_sweep))
  k_with "exec Assign cons ListComp" => (k_here; k_dflt (refine' compA ?c0 ?c1 ?c2 ?c3 ?_; (case c0 => exact rfl); (case c1 => with_unfolding_all rfl); (case c2 => exact rfl); (case c3 => decide)))
  k_with "truthy ref" => (k_here; k_dflt (first | (refine' tr_list0 ?N ?m ?_; (case N => k_asm); (case m => k_mem); k_whole) | (refine' tr_its ?N ?m ?i ?b ?_; (case N => k_asm); (case m => k_mem); (case i => assumption); (case b => assumption); k_whole) | (refine' tr_dict ?N ?m ?d ?hs ?z ?b ?_; (case N => k_asm); (case m => k_mem); (case d => assumption); (case hs => assumption); (case z => assumption); (case b => assumption); k_whole)); intro _)
  k_with "exec Expr" => ((have hflag : Flag 5 := by assumption); clear hflag; (refine Hold.of ?_))
  k_with "exec Assign" => ((have hflag : Flag 6 := by assumption); clear hflag; (refine Hold.of ?_))
  k_with "callWith" => ((have hflag : Flag 3 := by assumption); clear hflag; (refine Hold.of ?_))
  k_with "callWith ref" => (k_here; (with_reducible show wpAny _ _ (callWith _ (Value.ref _) _ (backTo _ (starEach (_ :: _) _)) []) _ _ _); k_dflt (refine' callWith_app ?aN ?aM ?_; (case aN => k_asm); (case aM => k_mem); k_whole))
  k_with "And" => ((with_reducible show AppAt _ _ _ ∧ _); k_dflt (refine ⟨appAt_of (by k_asm) (by k_mem), ?_⟩); (try dsimp only [List.nil_append, List.cons_append]))
  k_with "eval BinOp" => ((have hflag : Flag 3 := by assumption); clear hflag; (refine Hold.of ?_))
  k_with "getMethod ref" => (k_here; (with_reducible show wpAny _ _ (getMethod (Value.ref _) (Str.ofString "items") _) _ _ _); k_dflt (refine' kdl_method (knd := PySem.strKind _ _) PySem.F.slot_dict_items PySem.F.type_dict_items ?N ?m ?d ?_; (case N => k_asm); (case m => k_mem); (case d => assumption); k_whole))
  k_with "getMethod ref" => (k_here; (with_reducible show wpAny _ _ (getMethod (Value.ref _) (Str.ofString "get") _) _ _ _); k_dflt (refine' kdg_method (knd := PySem.strKind _ _) ?N ?m ?d ?_; (case N => k_asm); (case m => k_mem); (case d => assumption); k_whole))
  k_with "call builtin:dict.get" => (k_here; k_dflt (refine' get_none ?N ?m ?d ?lo ?hl ?_; (case N => k_asm); (case m => k_mem); (case d => assumption); (case lo => assumption); (case hl => assumption); k_whole))
  k_with "subscriptTail" => (k_here; (with_reducible show wpAny _ _ (subscriptTail _ _ (Value.ref _) (Value.str _ _)) _ _ _); k_dflt (refine' kda_item (knd := PySem.strKind _ _) ?N ?m ?d ?hk ?hl ?_; (case N => k_asm); (case m => k_mem); (case d => assumption); (case hk => exact strKind_is _ _ _ _); (case hl => assumption); k_whole))
  k_with "exec If Name" => ((have hflag : Flag 1 := by assumption); clear hflag; (with_reducible show wpAny _ _ (exec (PySem.Stmt.If (PySem.Expr.Name (Str.ofString "attrs") _) _ _ _) _) _ _ _); (refine Hold.of ?_))
  k_with "exec Assign cons DictComp" => (k_here; k_dflt (refine' compAD ?c0 ?c1 ?c2 ?c3 ?_; (case c0 => exact rfl); (case c1 => with_unfolding_all rfl); (case c2 => exact rfl); (case c3 => decide)))
  k_with "setAttr ref" => (k_here; k_dflt (refine' set_dict ?k1 ?k2 ?k3 ?k4 ?k5 ?k6 ?k7 ?k8 ?k9 ?k10 ?k11 ?k12 ?k13 ?_; (case k1 => k_asm); (case k2 => k_asm); (case k3 => k_asm); (case k4 => k_inst); (case k5 => exact rfl); (case k6 => k_is); (case k7 => k_is); (case k8 => k_is); (case k9 => k_is); (case k10 => k_get); (case k11 => exact put_seen _ _ _ _ _ _ _ _ _ _ _ _ _ _ _ _ _ _ _ _ _ _ _ _ _ _ _ _ _); (case k12 => k_upd); (case k13 => exact Nat.le_of_ble_eq_true rfl); k_whole; intro _ _ _))
  have hold0 : HoldK "pyIter ref" := .mk
  have hold1 : HoldK "+Comp" := .mk
  have hold2 : HoldK "call ref" := .mk
  have hold3 : HoldK "call builtin:str.join" := .mk
  have hold4 : HoldK "call builtin:sorted" := .mk
  have hold5 : HoldK "eval Lambda" := .mk
  have hold6 : HoldK "eval Set" := .mk
  have skon : SkOn := .mk
  intro w t1 t2 t3 t4 t5 t6 t7 t8 t9 t10 t11 t12 t13 t14 t15 t16 t17 t18 tz x D d out l0 lq l2 l3 l4 l5 B9 dpm nn Dt av oa kvs nd n0 n2 n3 n4 n5 no ta tb tm rest hx hav hoa hats hkn hvv hkg h3 h4 h5 hDt hD q1 q2 q3 q4 q5 q6 q7 q8 q9 q10 r1 r2 r3 r4 r5
  have hv : ∀ p ∈ kvs, ∃ v t, p.2 = .str v t := fun p hp => let ⟨_, _, _, _, _, e⟩ := hvv p hp; ⟨_, _, e⟩
  unfold ConD
  intro mean mg mb dp un gd cn cs a ccd cl outer A₀ base h₀ L m s Q E B F X N T hk hd hu hret
  refine wpAny_call ?_
  k_dflt (refine' code_defC (binds := [(Str.ofString "self", .ref x), (Str.ofString "tag", .str (Str.ofString "m") tm), (Str.ofString "attrs", .ref av), (Str.ofString "new_namespaces", .ref nn), (Str.ofString "qname_text", .none)]) ?k1 ?k2 ?k3 ?k4 ?k5 ?kA ?kF ?kK ?k6 ?k7 ?k8 ?k9 ?kB ?kD ?_ ?c2 ?c3 ?c4; (case kA => exact rfl); (case kF => exact rfl); (case kK => first | assumption | exact rfl); (case k1 => k_asm); (case k2 => k_asm); (case k3 => k_asm); (case k4 => k_asm); (case k5 => k_asm); (case k6 => k_is); (case k7 => k_is); (case k8 => k_room); (case k9 => first | exact BindsTo.of_eq rfl | exact binds_K (by k_in) rfl (by k_is) rfl rfl rfl); (case kB => exact rfl); (case kD => decide +kernel); (case c2 => exact rfl); (case c3 => exact rfl); (case c4 => exact rfl); k_whole; intro g1 L1 h1 tk1 cells1 FG1 F1 N1 Y1 B1 X1 T1 l1; (try k_lt l1); k_cells Y1; (try simp only [List.cons_append, List.nil_append] at N1); (try dsimp only); (try k_lift B1); (try k_fold))
  rename_i oc1 oc2 hc1 hc2
  have hflag : Flag 1 := .mk _
  replace F1 : Fr g1 L1 h1 (fun y => if y = Str.ofString "qname_text" then some .none else if y = Str.ofString "new_namespaces" then some (.ref nn) else if y = Str.ofString "attrs" then some (.ref av) else if y = Str.ofString "tag" then some (.str (Str.ofString "m") tm) else none) := F1
  have hLL : @LT.lt Nat _ l0 L1 ∧ @LT.lt Nat _ l2 L1 ∧ @LT.lt Nat _ d L1 ∧ @LT.lt Nat _ out L1 := ⟨l1.2.1, l1.2.2.1, l1.2.2.2.1, l1.2.2.2.2.1⟩
  k_steps
  refine Hold.to ?_
  refine set_star_eval (K := KP w) (k0 := Str.ofString "m") (t0 := tm) (av := av) (oa := oa) (kvs := kvs) (by rfl) F1 N1 X1 ?hc (by rfl) (by rfl) ?he1 ?he2 (by k_mem) hoa hats (by omega) ?_
  case hc => first | k_is | kernel_rfl
  case he1 =>
    intro h' tk' F'
    clear F1 N1
    k_steps
  case he2 =>
    intro h' tk' F'
    clear F1 N1
    k_steps
  intro SA so h3' tk3 F3 N3 l3' hSO
  (try k_lt l3')
  clear F1 N1
  (try dsimp only); (try k_fold)
  k_steps
  refine Hold.to ?_
  rename Fr g1 L1 _ _ => F5
  rename News g1 L1 _ _ => N5
  have hC : CodeHd g1 125 123 := codeHd_125 w X1
  k_dflt (refine' kla_eval ?d0 ?_; (case d0 => exact rfl))
  k_dflt (refine' kla_nest ?F ?N ?T ?C ?cd ?U ?t ?n ?cl ?_; (case F => exact F5); (case N => exact N5); (case T => k_asm); (case cd => exact rfl); (case C => exact hC); (case U => k_updF); (case t => kn_triples); (case n => kn_among); (case cl => exact rfl); k_whole)
  clear hC
  intro fl cl' ocl psl tl ctl hl9 tkl Fl Nl dl1 dl2 ll1 ll2
  (try dsimp only at Nl); (try k_lt ll1); (try k_lt2 ll2)
  clear F5 N5
  (try k_fold)
  k_steps
  refine Hold.to ?_
  have hkl : (addAll [Str.ofString "m"] (kvs.map (·.1))).length < 64 := by
    have := addAll_le (kvs.map (·.1)) [Str.ofString "m"]
    simp only [List.length_map, List.length_cons, List.length_nil] at this
    omega
  have hgood : ∀ k ∈ addAll [Str.ofString "m"] (kvs.map (·.1)), k.length ≤ 4 ∧ Txt.splitMax k (Str.ofString "}") 1 = [k] ∧ (Txt.slice k none (some 1) == Str.ofString "{") = false := fun k hk => by
    rcases of_addAll hk with hk | hk
    · cases List.mem_singleton.mp hk
      exact keyG_m
    · obtain ⟨p, hp, rfl⟩ := List.mem_map.mp hk
      exact hkg p hp
  refine sorted_set (ks := addAll [Str.ofString "m"] (kvs.map (·.1))) (by rfl) (by ktr_units) Fl Nl (hSO.toP (Nl.get (by k_mem))) (fun e => by have hmm : Str.ofString "m" ∈ addAll [Str.ofString "m"] (kvs.map (·.1)) := mem_addAll (.inl (.head _)); rw [e] at hmm; cases hmm) hkl ?hlam ?hsorted
  case hlam =>
    intro k t cur s' Q' hk' F' N' hsub hpost
    have hfl := hsub _ (List.Mem.head _)
    have hclm := hsub _ (List.Mem.tail _ (List.Mem.head _))
    have hkg := hgood k hk'
    clear Fl Nl
    refine wpAny_call ?_
    refine' kla_code ?k1 ?k2 ?k3 ?k4 ?k5 ?kA ?kF ?kK ?k6 ?k7 ?k8 ?k9 ?kB ?_ ?c2 ?c3 ?c4 ?c5
    case kA => exact rfl
    case kF => exact rfl
    case kK => exact rfl
    case k1 => k_asm
    case k2 => exact F'
    case k3 => k_asm
    case k4 => exact N'
    case k5 => k_asm
    case k6 => exact hfl
    case k7 => exact codeRec_news N' hclm (by assumption) (by assumption)
    case k8 => ktr_room
    case k9 => exact rfl
    case c5 => decide
    case kB => exact locs rfl
    case c2 => exact rfl
    case c3 => exact rfl
    case c4 => exact rfl
    intro g2 L2 h2 FG2 F2 N2 B2 X2 T2
    (try dsimp only); (try k_lift B2); (try k_fold)
    have hsl2 := good_len hkg.1
    clear F' N'
    have hlt2 : ∀ p ∈ cur, @LT.lt Nat _ p.1 h2.objs.size := fun p hp => Heap.lt_size (N2 p hp).1
    k_steps
    rename List.map _ _ = Txt.splitMax _ _ _ => hl9
    rw [hkg.2.1] at hl9
    obtain ⟨t9, hl8⟩ := one_str hl9
    rename News g1 L1 _ (_ :: cur) => N8
    rw [hl8] at N8
    refine hpost _ t9 0 [] _ _ (by assumption) N8 fun p hp p' hp' => ?_
    cases List.mem_singleton.mp hp
    exact Nat.ne_of_gt (hlt2 p' hp')
  case hsorted =>
    intro SD sout sc ex h4' dr4 tk4 F4 N4 o41 o42 hperm hstr
    clear Fl Nl
    (try dsimp only)
    obtain ⟨ps0, hps0⟩ : ∃ ps0 : Array Value, (h4'.get? 123 = some (tabObj ps0) ∧ (123 : Addr) ≠ L1 ∧ g1.get? 123 = none) := ⟨_, N4 (123, tabObj _) (.tail _ (List.mem_append_right _ (by k_mem)))⟩
    obtain ⟨pm, oc9, ps9, rest, hrest, hc9, hpx, NB⟩ : ∃ (pm : Addr) (oc9 : Obj) (ps9 : Array Value) (R2 : Led), R2 = (123, tabObj ps9) :: rest ∧ oc9.data = Data.cell (some (Value.ref pm)) ∧ (@LT.lt Nat _ (L1 + 1 + 1) pm ∧ (@LT.lt Nat _ l0 pm) ∧ (@LT.lt Nat _ l2 pm) ∧ (@LT.lt Nat _ d pm) ∧ (@LT.lt Nat _ out pm) ∧ AllLt pm R2) ∧ News g1 L1 h4' ((l0, PySem.W.listOf #[.bool false] n0) :: (l2, PySem.W.listOf #[.ref B9, .ref lq] n2) :: (d, dictOf (wes w.params t1 t2 t3 t4 t5 t6 t7 t8 t9 t10 t11 t12 t13 t14 t15 t16 t17 t18 tz D l5 l3 l2 dpm l0 false) nd) :: (out, PySem.W.listOf #[] no) :: (SD, PySem.W.listOf sout.toArray sc) :: (pm, methodObj (.ref 90) (.ref x)) :: (L1 + 1 + 1, oc9) :: (L1 + 1, oc2) :: R2) := by
      refine (exI2 ⟨ps0, _, rfl, by assumption, ?_, ?_⟩)
      rotate_left
      repeat' (first | refine List.forall_mem_cons.mpr ⟨?_, ?_⟩)
      all_goals (first | exact hps0 | exact N4 _ (.head _) | exact N4 _ (.tail _ (List.mem_append_right _ (by k_mem))) | skip)
      · exact fun p hp => N4 p (.tail _ (List.mem_append_right _ (by repeat (first | exact hp | refine List.Mem.tail _ ?_))))
      · have hz : ∀ {b c : Addr} {ps : Array Value}, (c < b ∧ SA < b ∧ L1 + 1 + 1 < b ∧ L1 + 1 < b ∧ 123 < b ∧ l0 < b ∧ l2 < b ∧ d < b ∧ out < b ∧ AllLt b rest) → L1 + 1 + 1 < b ∧ l0 < b ∧ l2 < b ∧ d < b ∧ out < b ∧ AllLt b ((123, tabObj ps) :: rest) := fun h => ⟨h.2.2.1, h.2.2.2.2.2.1, h.2.2.2.2.2.2.1, h.2.2.2.2.2.2.2.1, h.2.2.2.2.2.2.2.2.1, h.2.2.2.2.1, h.2.2.2.2.2.2.2.2.2⟩
        exact hz (by assumption)
    clear N4
    replace hx : (x, instObj 150 d) ∈ rest := by rw [hrest]; exact .tail _ hx
    replace hav : (av, oa) ∈ rest := by rw [hrest]; exact .tail _ hav
    replace h3 : (l3, listOf #[.ref l4, .ref nn] n3) ∈ rest := by rw [hrest]; exact .tail _ h3
    replace h4 : (l4, listOf #[.ref Dt] n4) ∈ rest := by rw [hrest]; exact .tail _ h4
    replace h5 : (nn, listOf #[] n5) ∈ rest := by rw [hrest]; exact .tail _ h5
    replace hDt : (Dt, ({ cls := .type "tuple", data := .seq #[.str (Str.ofString "http://www.w3.org/XML/1998/namespace") ta, .str (Str.ofString "xml") tb] } : Obj)) ∈ rest := by rw [hrest]; exact .tail _ hDt
    replace hD : (D, boundAt out) ∈ rest := by rw [hrest]; exact .tail _ hD
    replace r2 : ∀ p ∈ rest, p.1 ≠ l0 := by rw [hrest]; exact off_cons q1 r2
    replace r3 : ∀ p ∈ rest, p.1 ≠ l2 := by rw [hrest]; exact off_cons q2 r3
    replace r4 : ∀ p ∈ rest, p.1 ≠ d := by rw [hrest]; exact off_cons q3 r4
    replace r5 : ∀ p ∈ rest, p.1 ≠ out := by rw [hrest]; exact off_cons q4 r5
    replace hret : ∀ r news' h' dr' tk', Fr h₀ L h' m → News h₀ L h' news' → StartPost w t1 t2 t3 t4 t5 t6 t7 t8 t9 t10 t11 t12 t13 t14 t15 t16 t17 t18 tz D d out l0 lq l2 l3 l5 B9 dpm kvs rest r news' → Q r { s with heap := h', drawn := dr', toks := tk' } := fun r news' h' dr' tk' F' N' hR => hret r news' h' dr' tk' F' N' ⟨ps9, by rw [← hrest]; exact hR⟩
    have hsz : sout.length = (addAll [Str.ofString "m"] (kvs.map (·.1))).length := by rw [← hperm.length_eq, List.length_map]
    generalize hnB : ((l0, PySem.W.listOf #[.bool false] n0) :: (l2, PySem.W.listOf #[.ref B9, .ref lq] n2) :: (d, dictOf (wes w.params t1 t2 t3 t4 t5 t6 t7 t8 t9 t10 t11 t12 t13 t14 t15 t16 t17 t18 tz D l5 l3 l2 dpm l0 false) nd) :: (out, PySem.W.listOf #[] no) :: (SD, PySem.W.listOf sout.toArray sc) :: (pm, methodObj (.ref 90) (.ref x)) :: (L1 + 1 + 1, oc9) :: (L1 + 1, oc2) :: rest) = newsB at NB
    have sB : ∀ p ∈ rest, p ∈ newsB := fun p hp => by rw [← hnB]; repeat (first | exact hp | refine List.Mem.tail _ ?_)
    have sD : (d, dictOf (wes w.params t1 t2 t3 t4 t5 t6 t7 t8 t9 t10 t11 t12 t13 t14 t15 t16 t17 t18 tz D l5 l3 l2 dpm l0 false) nd) ∈ newsB := by rw [← hnB]; k_mem
    have sS : (SD, PySem.W.listOf sout.toArray sc) ∈ newsB := by rw [← hnB]; k_mem
    have sp : (pm, methodObj (.ref 90) (.ref x)) ∈ newsB := by rw [← hnB]; k_mem
    have sc9 : (L1 + 1 + 1, oc9) ∈ newsB := by rw [← hnB]; k_mem
    refine compGoAD (items := sout) (fun i ys news' => ∃ J', news' = J' ++ newsB ∧ (∀ p ∈ J', ∀ p' ∈ newsB, @Ne Nat p.1 p'.1) ∧ Parsed ys J' ((sout.take i).map kOf)) (by rfl) ?hsz (by rfl) (by decide) (by rfl) (by rfl) (by rfl) (by rfl) F4 NB ?hl ?h0 ?turn ?fin
    case hsz => rw [hsz]; exact Nat.le_trans (Nat.le_of_lt hkl) (by decide)
    case hl =>
      intro i ys news' h' hq9; obtain ⟨J', rfl, _⟩ := hq9; intro _ N'
      exact ⟨_, (N' _ (List.mem_append_right _ sS)).1, rfl, _, rfl⟩
    case h0 => exact ⟨[], rfl, (fun p hp => nomatch hp), fun k hk => by simp at hk⟩
    case turn =>
      intro i v ys news₁ h₁ tk₁ Ia oI C oC D' oD' m₂ E' hv hq9; obtain ⟨J', rfl, hJo, hPar⟩ := hq9; intro hNs hm2 hdD F3 N3 hoff hne
      obtain ⟨k, t, rfl, hk'⟩ := hstr v (List.mem_of_getElem? hv)
      have hkg := hgood k hk'
      have n1 : ∀ p ∈ rest, p ∈ J' ++ newsB := fun p hp => List.mem_append_right _ (sB p hp)
      have n2' := List.mem_append_right J' sD
      have n3' := List.mem_append_right J' sp
      have n4' := List.mem_append_right J' sc9
      generalize hnb : J' ++ newsB = nb at *
      clear F4 NB
      k_steps
      refine Hold.to ?_; k_dflt (refine' ConCode.meth (c_qcode w x d D l0 l2 l3 l4 l5 dpm nn Dt t1 t2 t3 t4 t5 t6 t7 t8 t9 t10 t11 t12 t13 t14 t15 t16 t17 t18 tz false nd n3 n4 n5 tb ta k _ _ ?p1 ?p2 ?p3 ?p4 ?p5 ?p6 ?p7 ?p8) ?p9 _ _ _ _ _ _ _ _ _ _ _ _ _ _ _ _ _ _ _ _ ?k1 ?k2 ?k3 ?k4 ?k5 ?kK ?kd ?ku ?_; (case k1 => k_asm); (case k2 => k_asm); (case k3 => k_asm); (case k4 => k_asm); (case k5 => k_asm); (case kK => first | exact rfl | assumption); (case kd => k_room); (case ku => k_units); (case p1 => exact .tail _ (.tail _ (.tail _ (n1 _ hx)))); (case p2 => exact .tail _ (.tail _ (.tail _ n2'))); (case p3 => exact .tail _ (.tail _ (.tail _ (n1 _ h3)))); (case p4 => exact .tail _ (.tail _ (.tail _ (n1 _ h4)))); (case p5 => exact .tail _ (.tail _ (.tail _ (n1 _ h5)))); (case p6 => exact .tail _ (.tail _ (.tail _ (n1 _ hDt)))); (case p7 => exact hkg.1); (case p8 => exact hkg.2.2); (case p9 => exact .tail _ (.tail _ (.tail _ n3'))); intro r9 n9 h9 tk9 F9 N9 H9)
      obtain ⟨qa, ku, Jq, rfl, rfl, hqo⟩ := H9
      (try dsimp only)
      show CTurnD _ _ _ _ _ _ _ _ _ _ _ _ _ _ _
      unfold CTurnD
      refine ⟨h9, tk9, ((qa, tup3 k t t ku) :: Jq) ++ nb, k, rfl, PySem.strKind_is _ _ _ _, F9, fun p hp => N9 p ?_, fun p hp => ?_, ((qa, tup3 k t t ku) :: Jq) ++ J', by rw [← hnb, List.append_assoc], fun p hp p' hp' => ?_, ?_⟩
      · rcases List.mem_cons.mp hp with rfl | hp
        · exact List.mem_append_right _ (.head _)
        rcases List.mem_cons.mp hp with rfl | hp
        · exact List.mem_append_right _ (.tail _ (.head _))
        rcases List.mem_cons.mp hp with rfl | hp
        · exact List.mem_append_right _ (.tail _ (.tail _ (.head _)))
        rcases List.mem_append.mp hp with hp | hp
        · exact List.mem_append_left _ hp
        · exact List.mem_append_right _ (.tail _ (.tail _ (.tail _ hp)))
      · rcases List.mem_append.mp hp with hp | hp
        · exact ⟨hqo p hp _ (.head _), hqo p hp _ (.tail _ (.head _)), hqo p hp _ (.tail _ (.tail _ (.head _)))⟩
        · exact hoff p hp
      · rcases List.mem_append.mp hp with hp | hp
        · exact hqo p hp p' (.tail _ (.tail _ (.tail _ (by rw [← hnb]; exact List.mem_append_right _ hp'))))
        · exact hJo p hp p' hp'
      · rw [take_snoc hv, List.map_append, List.map_singleton]
        exact hPar.put (fun p hp => List.mem_append_right _ hp) (List.mem_append_left _ (.head _))
    case fin =>
      intro PD oPD h5' tk5 news' ys F5 N5 hdPD hoffD hq9; obtain ⟨J', rfl, hJo, hPar⟩ := hq9
      rw [List.take_length] at hPar
      clear F4 NB
      have hkn' : ∀ k ∈ addAll [Str.ofString "m"] (kvs.map (·.1)), ∃ q t t' u, valueAt ys k = some (.ref q) ∧ (q, tup3 k t t' u) ∈ J' := fun k hk => hPar k (hperm.mem_iff.mpr hk)
      have hself : (L1 + 1, oc2) ∈ newsB := by rw [← hnB]; k_mem
      obtain ⟨rest2, NC, mPD, mJ, mR, mC, s2, s3, s4, s5⟩ : ∃ rest2 : Led, News g1 L1 h5' ((l0, PySem.W.listOf #[.bool false] n0) :: (l2, PySem.W.listOf #[.ref B9, .ref lq] n2) :: (d, dictOf (wes w.params t1 t2 t3 t4 t5 t6 t7 t8 t9 t10 t11 t12 t13 t14 t15 t16 t17 t18 tz D l5 l3 l2 dpm l0 false) nd) :: (out, PySem.W.listOf #[] no) :: rest2) ∧ (PD, oPD) ∈ rest2 ∧ (∀ p ∈ J', p ∈ rest2) ∧ (∀ p ∈ rest, p ∈ rest2) ∧ (L1 + 1, oc2) ∈ rest2 ∧ (∀ p ∈ rest2, p.1 ≠ l0) ∧ (∀ p ∈ rest2, p.1 ≠ l2) ∧ (∀ p ∈ rest2, p.1 ≠ d) ∧ (∀ p ∈ rest2, p.1 ≠ out) := by
        have m0 : (l0, PySem.W.listOf #[.bool false] n0) ∈ newsB := by rw [← hnB]; k_mem
        have m2 : (l2, PySem.W.listOf #[.ref B9, .ref lq] n2) ∈ newsB := by rw [← hnB]; k_mem
        have mo : (out, PySem.W.listOf #[] no) ∈ newsB := by rw [← hnB]; k_mem
        have off2 : ∀ {a : Addr} {o : Obj}, (a, o) ∈ newsB → (∀ p ∈ rest, p.1 ≠ a) → L1 + 1 ≠ a → ∀ p ∈ (PD, oPD) :: (L1 + 1, oc2) :: (J' ++ rest), p.1 ≠ a := fun {a o} hm hr hc p hp => by
          rcases List.mem_cons.mp hp with rfl | hp
          · exact fun e => hoffD _ (List.mem_append_right _ hm) e.symm
          rcases List.mem_cons.mp hp with rfl | hp
          · exact hc
          rcases List.mem_append.mp hp with hp | hp
          · exact hJo p hp _ hm
          · exact hr p hp
        have hlq : @LT.lt Nat _ l0 L1 ∧ @LT.lt Nat _ l2 L1 ∧ @LT.lt Nat _ d L1 ∧ @LT.lt Nat _ out L1 := hLL
        refine ⟨(PD, oPD) :: (L1 + 1, oc2) :: (J' ++ rest), ?_, .head _, fun p hp => .tail _ (.tail _ (List.mem_append_left _ hp)), fun p hp => .tail _ (.tail _ (List.mem_append_right _ hp)), .tail _ (.head _), off2 m0 r2 ?_, off2 m2 r3 ?_, off2 sD r4 ?_, off2 mo r5 ?_⟩
        · refine List.forall_mem_cons.mpr ⟨N5 _ (.tail _ (List.mem_append_right _ m0)), List.forall_mem_cons.mpr ⟨N5 _ (.tail _ (List.mem_append_right _ m2)), List.forall_mem_cons.mpr ⟨N5 _ (.tail _ (List.mem_append_right _ sD)), List.forall_mem_cons.mpr ⟨N5 _ (.tail _ (List.mem_append_right _ mo)), List.forall_mem_cons.mpr ⟨N5 _ (.head _), List.forall_mem_cons.mpr ⟨N5 _ (.tail _ (List.mem_append_right _ hself)), fun p hp => ?_⟩⟩⟩⟩⟩⟩
          rcases List.mem_append.mp hp with hp | hp
          · exact N5 p (.tail _ (List.mem_append_left _ hp))
          · exact N5 p (.tail _ (List.mem_append_right _ (sB p hp)))
        · exact Nat.ne_of_gt (Nat.lt_succ_of_lt hlq.1)
        · exact Nat.ne_of_gt (Nat.lt_succ_of_lt hlq.2.1)
        · exact Nat.ne_of_gt (Nat.lt_succ_of_lt hlq.2.2.1)
        · exact Nat.ne_of_gt (Nat.lt_succ_of_lt hlq.2.2.2)
      have hPar2 : ∀ k ∈ addAll [Str.ofString "m"] (kvs.map (·.1)), ∃ q t t' u, valueAt ys k = some (.ref q) ∧ (q, tup3 k t t' u) ∈ rest2 := fun k hk => by
        obtain ⟨q, t, t', u, h1, h2⟩ := hkn' k hk
        exact ⟨q, t, t', u, h1, mJ _ h2⟩
      have hx2 := mR _ hx
      have hav2 := mR _ hav
      have h52 := mR _ h5
      have hD2 := mR _ hD
      clear N5 hoffD hJo hPar hkn' mJ
      (try k_fold)
      k_steps
      refine Hold.to ?_
      rename Fr g1 L1 _ _ => F6
      rename News g1 L1 _ _ => N6
      rename _ ∧ _ ∧ _ ∧ _ ∧ AllLt _ rest2 => lA
      rename_i AL h60 h6
      clear hflag
      obtain ⟨u60, F6'⟩ : ∃ u6, Fr g1 L1 h6 (b5 none none none none none (bS AL PD u6 SA nn av tm)) := ⟨_, by rw [b5_none rfl rfl rfl rfl rfl]; exact F6⟩
      have hspace : valueAt kvs (Str.ofString "{http://www.w3.org/XML/1998/namespace}space") = none := by
        unfold valueAt
        rw [List.find?_eq_none.mpr fun p hp => ?_]
        · rfl
        · intro e
          have e' : p.1 = Str.ofString "{http://www.w3.org/XML/1998/namespace}space" := by simpa using e
          have := (hkg p hp).1
          rw [e'] at this
          exact absurd this (by decide)
      refine wpAny_mono (Q := MidS w t1 t2 t3 t4 t5 t6 t7 t8 t9 t10 t11 t12 t13 t14 t15 t16 t17 t18 tz D d out l0 lq l2 l3 l5 B9 dpm nn av nd n0 n2 no tm AL PD SA g1 L1 kvs rest2 { s with drawn := dr4 }) (E := fun _ _ => False) ?blk ?_ (fun _ _ e => e.elim)
      case blk =>
        by_cases hk0 : kvs = []
        · have hb0 : (!kvs.isEmpty) = false := by rw [hk0]; rfl
          k_steps
          refine ⟨rfl, _, _, [], _, none, none, none, none, none, u60, rest2, rfl, F6', N6, ?_, List.Pairwise.nil, (fun i hi => nomatch hi), fun p hp => hp, fun p hp => ⟨?_, s2 p hp, s3 p hp, s4 p hp, s5 p hp⟩⟩
          · rw [hk0]; exact List.Perm.refl _
          · exact Nat.ne_of_lt (tb_ltOf lA.2.2.2.2 p hp)
        · have hb0 : (!kvs.isEmpty) = true := by cases kvs with
            | nil => exact absurd rfl hk0
            | cons => rfl
          k_steps
          refine Hold.to ?_
          rename Fr g1 L1 _ _ => F7
          rename News g1 L1 _ _ => N7
          refine sorted_items (by rfl) F7 N7 (.head _) (by k_mem) hoa (List.length_pos_iff.mpr hk0) (by omega) hv ?_
          intro SI I cI ex h8 tk8 F8 N8 hIe ho1 ho2 hIp hIs
          clear F6 N6 F7 N7
          (try dsimp only)
          k_steps
          refine Hold.to ?_
          have hmem : ∀ it ∈ I, it.k ∈ addAll [Str.ofString "m"] (kvs.map (·.1)) := fun it hit => mem_addAll (.inr (List.mem_map.mpr ⟨it.kv, hIp.mem_iff.mp (List.mem_map.mpr ⟨it, hit, rfl⟩), rfl⟩))
          have hIl : I.length = kvs.length := by rw [← hIp.length_eq, List.length_map]
          rename AL < _ ∧ _ => lD6
          obtain ⟨rest4, N9, mSI, mI, mR4, s40⟩ : ∃ rest4 : Led, News g1 L1 h8 ((AL, PySem.W.listOf (its []).toArray 0) :: (l0, PySem.W.listOf #[.bool false] n0) :: (l2, PySem.W.listOf #[.ref B9, .ref lq] n2) :: (d, dictOf (wes w.params t1 t2 t3 t4 t5 t6 t7 t8 t9 t10 t11 t12 t13 t14 t15 t16 t17 t18 tz D l5 l3 l2 dpm l0 false) nd) :: (out, PySem.W.listOf #[] no) :: rest4) ∧ (SI, PySem.W.listOf (its I).toArray cI) ∈ rest4 ∧ (∀ i ∈ I, i.obj ∈ rest4) ∧ (∀ p ∈ rest2, p ∈ rest4) ∧ (∀ p ∈ rest4, p.1 ≠ AL ∧ p.1 ≠ l0 ∧ p.1 ≠ l2 ∧ p.1 ≠ d ∧ p.1 ≠ out) := by
            refine ⟨(SI, PySem.W.listOf (its I).toArray cI) :: (ex ++ rest2), fun p hp => N8 p ?_, .head _, fun i hi => .tail _ (List.mem_append_left _ (hIe i hi)), fun p hp => .tail _ (List.mem_append_right _ hp), fun p hp => ?_⟩
            · rcases List.mem_cons.mp hp with rfl | hp
              · exact .tail _ (List.mem_append_right _ (.tail _ (.head _)))
              rcases List.mem_cons.mp hp with rfl | hp
              · exact .tail _ (List.mem_append_right _ (.tail _ (.tail _ (.head _))))
              rcases List.mem_cons.mp hp with rfl | hp
              · exact .tail _ (List.mem_append_right _ (.tail _ (.tail _ (.tail _ (.head _)))))
              rcases List.mem_cons.mp hp with rfl | hp
              · exact .tail _ (List.mem_append_right _ (.tail _ (.tail _ (.tail _ (.tail _ (.head _))))))
              rcases List.mem_cons.mp hp with rfl | hp
              · exact .tail _ (List.mem_append_right _ (.tail _ (.tail _ (.tail _ (.tail _ (.tail _ (.head _)))))))
              rcases List.mem_cons.mp hp with rfl | hp
              · exact .head _
              rcases List.mem_append.mp hp with hp | hp
              · exact .tail _ (List.mem_append_left _ hp)
              · exact .tail _ (List.mem_append_right _ (.tail _ (.tail _ (.tail _ (.tail _ (.tail _ (.tail _ hp)))))))
            · have hz : p ∈ (SI, PySem.W.listOf (its I).toArray cI) :: ex ∨ p ∈ rest2 := by
                rcases List.mem_cons.mp hp with rfl | hp
                · exact .inl (.head _)
                · exact (List.mem_append.mp hp).imp (fun h => .tail _ h) id
              rcases hz with hp | hp
              · exact ⟨ho1 p hp _ (.tail _ (.head _)), ho1 p hp _ (.tail _ (.tail _ (.head _))), ho1 p hp _ (.tail _ (.tail _ (.tail _ (.head _)))), ho1 p hp _ (.tail _ (.tail _ (.tail _ (.tail _ (.head _))))), ho1 p hp _ (.tail _ (.tail _ (.tail _ (.tail _ (.tail _ (.head _))))))⟩
              · exact ⟨Nat.ne_of_lt (tb_ltOf lA.2.2.2.2 p hp), s2 p hp, s3 p hp, s4 p hp, s5 p hp⟩
          clear N8 hIe
          refine iterL (items := its I) (fun i m' news' => ∃ I1 nA u1 u2 u3 u4 u5 rest3, news' = (AL, PySem.W.listOf (its I1).toArray nA) :: (l0, PySem.W.listOf #[.bool false] n0) :: (l2, PySem.W.listOf #[.ref B9, .ref lq] n2) :: (d, dictOf (wes w.params t1 t2 t3 t4 t5 t6 t7 t8 t9 t10 t11 t12 t13 t14 t15 t16 t17 t18 tz D l5 l3 l2 dpm l0 false) nd) :: (out, PySem.W.listOf #[] no) :: rest3 ∧ m' = b5 u1 u2 u3 u4 u5 (bS AL PD u60 SA nn av tm) ∧ I1.map It.kv = (I.take i).map It.kv ∧ (∀ i ∈ I1, i.obj ∈ rest3) ∧ (∀ p ∈ rest4, p ∈ rest3) ∧ (∀ p ∈ rest3, p.1 ≠ AL ∧ p.1 ≠ l0 ∧ p.1 ≠ l2 ∧ p.1 ≠ d ∧ p.1 ≠ out)) (by rfl) (by constructor) F8 N9 ?hl ?h0 ?turn ?done
          case hl =>
            intro i m' news' h' hq9; obtain ⟨I1, nA, u1, u2, u3, u4, u5, rest3, rfl, rfl, _, _, q3, _⟩ := hq9; intro F' N'
            exact ⟨_, (N' _ (.tail _ (.tail _ (.tail _ (.tail _ (.tail _ (q3 _ mSI))))))).1, rfl, _, rfl⟩
          case h0 => exact ⟨[], 0, none, none, none, none, none, rest4, rfl, rfl, rfl, (fun i hi => nomatch hi), fun p hp => hp, s40⟩
          case turn =>
            intro i v m₁ news₁ h₁ tk₁ Ia oi hv' hq9; obtain ⟨I1, nA, u1, u2, u3, u4, u5, rest3, rfl, rfl, q1', q2', q3', q4'⟩ := hq9; intro hne F3 N3
            obtain ⟨it, hit, rfl⟩ : ∃ it, I[i]? = some it ∧ v = .ref it.a := by
              simp only [its, List.getElem?_map, Option.map_eq_some_iff] at hv'
              obtain ⟨it, h1, h2⟩ := hv'
              exact ⟨it, h1, h2.symm⟩
            have hmi := List.mem_of_getElem? hit
            have hio := q3' _ (mI it hmi)
            unfold It.obj at hio
            obtain ⟨qt, ta', tb', tu', hq1, hq2⟩ := hPar2 _ (hmem it hmi)
            have hq3 := q3' _ (mR4 _ hq2)
            have hPD3 := q3' _ (mR4 _ mPD)
            have hz1 : (its I1).toArray.size ≤ 1000 := by
              have : (I1.map It.kv).length = ((I.take i).map It.kv).length := by rw [q1']
              simp only [List.length_map, List.length_take] at this
              refine its_size ?_
              omega
            clear F8 N9
            have qI : @Ne Nat Ia AL := fun e => hne _ (.head _) e.symm
            have hrA : ∀ p ∈ rest3, p.1 ≠ AL := fun p hp => (q4' p hp).1
            k_steps
            rename Ia < _ ∧ _ => lT
            rename Fr g1 L1 _ _ => F4
            rename News g1 L1 _ _ => N4
            rename_i T h40 h41
            have e1 := its_snoc I1 ⟨T, it.k, tb', it.v, it.tv⟩
            simp only at e1
            rw [e1] at N4
            have hrT : ∀ p ∈ rest3, @LT.lt Nat _ p.1 T := tb_ltOf lT.2.2.2.2.2.2
            refine (exI4 ⟨rfl, F4, ?N, ?off, I1 ++ [⟨T, it.k, tb', it.v, it.tv⟩], nA + 1, _, _, _, _, _, (T, { cls := Value.type "tuple", data := Data.seq #[Value.str it.k tb', Value.str it.v it.tv] }) :: rest3, rfl, kv5, ?_, ?_, ?_, ?_⟩)
            case N =>
              intro p hp
              rcases List.mem_cons.mp hp with rfl | hp
              · exact N4 _ (.tail _ (.head _))
              rcases List.mem_cons.mp hp with rfl | hp
              · exact N4 _ (.tail _ (.tail _ (.head _)))
              rcases List.mem_cons.mp hp with rfl | hp
              · exact N4 _ (.tail _ (.tail _ (.tail _ (.head _))))
              rcases List.mem_cons.mp hp with rfl | hp
              · exact N4 _ (.tail _ (.tail _ (.tail _ (.tail _ (.head _)))))
              rcases List.mem_cons.mp hp with rfl | hp
              · exact N4 _ (.tail _ (.tail _ (.tail _ (.tail _ (.tail _ (.head _))))))
              rcases List.mem_cons.mp hp with rfl | hp
              · exact N4 _ (.tail _ (.tail _ (.tail _ (.tail _ (.tail _ (.tail _ (.head _)))))))
              rcases List.mem_cons.mp hp with rfl | hp
              · exact N4 _ (.head _)
              · exact N4 _ (.tail _ (.tail _ (.tail _ (.tail _ (.tail _ (.tail _ (.tail _ hp)))))))
            case off =>
              intro p hp
              rcases List.mem_cons.mp hp with rfl | hp
              · exact fun e => qI e.symm
              rcases List.mem_cons.mp hp with rfl | hp
              · exact hne _ (.tail _ (.head _))
              rcases List.mem_cons.mp hp with rfl | hp
              · exact hne _ (.tail _ (.tail _ (.head _)))
              rcases List.mem_cons.mp hp with rfl | hp
              · exact hne _ (.tail _ (.tail _ (.tail _ (.head _))))
              rcases List.mem_cons.mp hp with rfl | hp
              · exact hne _ (.tail _ (.tail _ (.tail _ (.tail _ (.head _)))))
              rcases List.mem_cons.mp hp with rfl | hp
              · exact Nat.ne_of_gt lT.1
              · exact hne _ (.tail _ (.tail _ (.tail _ (.tail _ (.tail _ hp)))))
            · rw [List.map_append, q1', take_snoc hit, List.map_append]; rfl
            · intro i' hi'
              rcases List.mem_append.mp hi' with hi' | hi'
              · exact .tail _ (q2' i' hi')
              · cases List.mem_singleton.mp hi'; exact .head _
            · exact fun p hp => .tail _ (q3' p hp)
            · intro p hp
              rcases List.mem_cons.mp hp with rfl | hp
              · exact ⟨Nat.ne_of_gt lT.2.1, Nat.ne_of_gt lT.2.2.1, Nat.ne_of_gt lT.2.2.2.1, Nat.ne_of_gt lT.2.2.2.2.1, Nat.ne_of_gt lT.2.2.2.2.2.1⟩
              · exact q4' p hp
          case done =>
            intro m' news' h' tk' hq9; obtain ⟨I1, nA, u1, u2, u3, u4, u5, rest3, rfl, rfl, q1', q2', q3', q4'⟩ := hq9; intro F' N'
            rw [show (its I).length = I.length by simp [its], List.take_length] at q1'
            k_steps
            refine ⟨rfl, _, _, I1, _, u1, u2, u3, u4, u5, u60, rest3, rfl, F', N', by rw [q1']; exact hIp, ?_, q2', fun p hp => q3' _ (mR4 _ hp), q4'⟩
            rw [q1']
            exact List.pairwise_map.mpr hIs
      intro f s' hs
      obtain ⟨rfl, h7, tk7, I, nA, u1, u2, u3, u4, u5, u6, rest3, rfl, F7, N7, hIp, hIs, hIm, hr3, ho3⟩ := hs
      have hx3 := hr3 _ hx2
      have hav3 := hr3 _ hav2
      have h53 := hr3 _ h52
      have hD3 := hr3 _ hD2
      have mC3 := hr3 _ mC
      clear F6 N6
      (try dsimp only)
      have mPD3 := hr3 _ mPD
      obtain ⟨qm, um1, um2, um3, hm1, hm2⟩ := hPar2 _ (mem_addAll (.inl (.head _)))
      have hm3 := hr3 _ hm2
      have z1 : ∀ p ∈ rest3, p.1 ≠ AL := fun p hp => (ho3 p hp).1
      have z2 : ∀ p ∈ rest3, p.1 ≠ l0 := fun p hp => (ho3 p hp).2.1
      have z3 : ∀ p ∈ rest3, p.1 ≠ l2 := fun p hp => (ho3 p hp).2.2.1
      have z4 : ∀ p ∈ rest3, p.1 ≠ d := fun p hp => (ho3 p hp).2.2.2.1
      have z5 : ∀ p ∈ rest3, p.1 ≠ out := fun p hp => (ho3 p hp).2.2.2.2
      have y1 : @Ne Nat AL l0 := Nat.ne_of_gt lA.1
      have y2 : @Ne Nat AL l2 := Nat.ne_of_gt lA.2.1
      have y3 : @Ne Nat AL d := Nat.ne_of_gt lA.2.2.1
      have y4 : @Ne Nat AL out := Nat.ne_of_gt lA.2.2.2.1
      have hf5 : Flag 5 := .mk _
      k_steps
      refine Hold.to ?_
      clear hf5
      have hf6 : Flag 6 := .mk _
      k_steps
      refine Hold.to ?_
      clear hf6
      have hf5 : Flag 5 := .mk _
      k_steps
      refine Hold.to ?_
      clear hf5
      k_steps
      refine Hold.to ?_
      rename Fr g1 L1 _ _ => F8
      rename News g1 L1 _ _ => N8
      refine call_app F8 N8 (by k_mem) (by k_updF) (Nat.zero_le _) ?_
      intro h9 n9 F9 N9
      clear F8 N8
      (try dsimp only at N9)
      (try k_fold)
      have hIl : I.length ≤ 64 := by
        have := hIp.length_eq
        rw [List.length_map] at this
        omega
      have hIv : ∀ i ∈ I, ∃ ca cb, ca ∈ letN ∧ cb ∈ [38, 60, 34, 9, 62, 46] ∧ i.v = ⟨#[ca, cb]⟩ := fun i hi => by
        obtain ⟨ca, cb, t, ha, hb, e⟩ := hvv i.kv (hIp.mem_iff.mp (List.mem_map.mpr ⟨i, hi, rfl⟩))
        have e' : Value.str i.v i.tv = .str ⟨#[ca, cb]⟩ t := e
        exact ⟨ca, cb, ha, hb, (Value.str.inj e').1⟩
      have hIk : ∀ i ∈ I, i.k.length ≤ 4 := fun i hi => (hkg i.kv (hIp.mem_iff.mp (List.mem_map.mpr ⟨i, hi, rfl⟩))).1
      have hnew : ∀ {h : Heap} {t : Tok} {n : Nat}, News g1 L1 h ((AL, W.listOf (its I).toArray nA) :: (l0, W.listOf #[Value.bool false, Value.bool false] (n0 + 1)) :: (l2, W.listOf #[Value.ref B9, Value.ref lq] n2) :: (d, dictOf (wes w.params t1 t2 t3 t4 t5 t6 t7 t8 t9 t10 t11 t12 t13 t14 t15 t16 t17 t18 tz D l5 l3 l2 dpm l0 false) nd) :: (out, W.listOf (#[].push (Value.str (Str.ofString "<" ++ Str.ofString "m") t)) n) :: rest3) →
          ∃ newsC, newsC = (AL, W.listOf (its I).toArray nA) :: (l0, W.listOf #[Value.bool false, Value.bool false] (n0 + 1)) :: (l2, W.listOf #[Value.ref B9, Value.ref lq] n2) :: (d, dictOf (wes w.params t1 t2 t3 t4 t5 t6 t7 t8 t9 t10 t11 t12 t13 t14 t15 t16 t17 t18 tz D l5 l3 l2 dpm l0 false) nd) :: (out, W.listOf #[Value.str (Str.ofString "<" ++ Str.ofString "m") t] n) :: rest3 ∧ News g1 L1 h newsC := fun N => ⟨_, rfl, N⟩
      by_cases hb0 : (!I.isEmpty) = true
      · k_steps
        obtain ⟨newsC, hnC, N10⟩ := hnew N9
        have hIo : ∀ i ∈ I, i.obj ∈ newsC := fun i hi => by rw [hnC]; exact .tail _ (.tail _ (.tail _ (.tail _ (.tail _ (hIm i hi)))))
        have hAL : (AL, W.listOf (its I).toArray nA) ∈ newsC := by rw [hnC]; exact .head _
        refine' compGoEP (h₀ := g1) (L := L1) (items := its I) (fun i ys news' => news' = newsC ∧ StrsAre ys ((I.take i).map attrS)) ?hh ?hsz ?cl ?kd ?x1 ?x2 ?xx ?F9 ?N9 ?hl ?h0 ?turn ?fin
        case F9 => exact F9
        case N9 => exact N10
        case hh => exact rfl
        case cl => decide
        case kd => exact rfl
        case x1 => exact rfl
        case x2 => exact rfl
        case xx => decide
        case hsz => simp only [its, List.length_map]; exact Nat.le_trans hIl (by decide)
        case hl =>
          intro i ys news' h' hq9; obtain ⟨rfl, _⟩ := hq9; intro _ N'
          exact ⟨_, (N' _ hAL).1, rfl, _, rfl⟩
        case h0 => exact ⟨rfl, .nil⟩
        case turn =>
          intro i v ys news₁ hv' hq9; obtain ⟨rfl, hys⟩ := hq9
          obtain ⟨it, hit, rfl⟩ : ∃ it, I[i]? = some it ∧ v = .ref it.a := by
            simp only [its, List.getElem?_map, Option.map_eq_some_iff] at hv'
            obtain ⟨it, h1, h2⟩ := hv'
            exact ⟨it, h1, h2.symm⟩
          have hmi := List.mem_of_getElem? hit
          refine ⟨it.a, it.obj.2, .str it.k it.tk, .str it.v it.tv, _, rfl, hIo it hmi, rfl, rfl, ?_⟩
          intro h₁ tk₁ Ia oI C oC D m₂ E' hC hm2 hm3 F3 N3 hoff hne
          obtain ⟨ca, cb, hca, hcb, hvx⟩ := hIv it hmi
          have hkl4 := hIk it hmi
          clear F9 N9 N10 hnew
          rw [hvx] at hm3
          k_steps
          refine Hold.to ?_; k_dflt (refine' c_esc _ _ _ _ _ hca hcb _ _ _ _ _ _ _ _ _ _ _ _ _ _ _ _ _ _ _ _ ?k1 ?k2 ?k3 ?k4 ?k5 ?kK ?kd ?ku ?_; (case k1 => k_asm); (case k2 => k_asm); (case k3 => k_asm); (case k4 => k_asm); (case k5 => k_asm); (case kK => first | exact rfl | assumption); (case kd => k_room); (case ku => k_units); intro r9 n9 h9 tk9 F9 N9 H9)
          obtain ⟨t9, rfl, rfl⟩ := H9
          (try dsimp only); (try k_fold)
          have hel := esc_len ca cb
          k_steps
          rename_i F4 N4
          refine (exI3 ⟨rfl, by assumption, by assumption, hoff, rfl, ?_⟩)
          rw [attr_eq hvx, take_snoc hit, List.map_append]
          exact StrsAre.append' hys (.cons _ _ .nil)
        case fin =>
          intro D h' tk' news' ys F' N' hD hq9; obtain ⟨rfl, hys⟩ := hq9
          rw [show (its I).length = I.length by simp [its], List.take_length] at hys
          rw [hnC] at N'
          clear F9 N9 N10 hnew
          have hyl : ys.length ≤ 64 := by rw [hys.length, List.length_map]; exact hIl
          k_steps
          refine Hold.to ?_
          rename News g1 L1 _ _ => N9
          refine join_listW (ys := I.map attrS) (N9.isList (.head _)) hys (by decide) ?wt ?_
          case wt =>
            have := attrs_weight I hIk
            rw [List.length_map]
            omega
          intro t8 k8
          (try dsimp only); (try k_fold)
          k_steps
          refine Hold.to ?_
          rename Fr g1 L1 _ _ => F8
          rename News g1 L1 _ _ => N8
          replace N8 := cb_drop N8 fun p hp => List.mem_cons_of_mem _ hp
          refine call_app F8 N8 (by k_mem) (by k_updF) (Nat.le_of_ble_eq_true rfl) ?_
          intro h10 n10 F10 N10
          clear F8 N8
          (try dsimp only at N10)
          (try k_fold)
          k_steps
          refine Hold.to ?_
          rename Fr g1 L1 _ _ => F8
          rename News g1 L1 _ _ => N8
          refine call_app F8 N8 (by k_mem) (by k_updF) (Nat.le_of_ble_eq_true rfl) ?_
          intro h11 n11 F11 N11
          clear F8 N8
          (try dsimp only at N11)
          (try k_fold)
          k_steps
          have hI0 : I ≠ [] := fun e => by rw [e] at hb0; cases hb0
          rename Fr h₀ L _ _ => F8
          rename News h₀ L _ _ => N8
          rename AL < _ ∧ _ => hz3
          exact hret _ _ _ _ _ F8 (start_news N8) (start_post1 hI0 (fun p hp => .tail _ (.tail _ (hr3 p (mR p hp)))) (start_off ⟨hz3.1, hz3.2.1, hz3.2.2.1, hz3.2.2.2.1, hz3.2.2.2.2.1⟩ y1 y2 y3 y4 ho3) hIp hIs)
      · replace hb0 : (!I.isEmpty) = false := by simpa using hb0
        k_steps
        refine Hold.to ?_
        rename Fr g1 L1 _ _ => F8
        rename News g1 L1 _ _ => N8
        refine call_app F8 N8 (by k_mem) (by k_updF) (Nat.le_of_ble_eq_true rfl) ?_
        intro h10 n10 F10 N10
        clear F8 N8
        (try dsimp only at N10)
        (try k_fold)
        k_steps
        have hI0 : I = [] := by cases I with
          | nil => rfl
          | cons => cases hb0
        rename Fr h₀ L _ _ => F8
        rename News h₀ L _ _ => N8
        rename AL < _ ∧ _ => hz3
        exact hret _ _ _ _ _ F8 (start_news N8) (start_post0 hI0 (fun p hp => .tail _ (.tail _ (hr3 p (mR p hp)))) (start_off ⟨hz3.1, hz3.2.1, hz3.2.2.1, hz3.2.2.2.1, hz3.2.2.2.2.1⟩ y1 y2 y3 y4 ho3) hIp hIs)
end
section
theorem warm_H1 : PySem.Challenge.rw_ta0132_01.Holds → hd1.heap_1_39 = hd1.heap_1_39 := by
  k_fill
  intro _
  rfl
theorem st_news {h₀ h : Heap} {L a1 a2 a3 a4 a5 a6 a7 : Addr} {o1 o2 o3 o4 o5 o6 o7 : Obj} {rest : Led} (N : News h₀ L h ((a1, o1) :: (a2, o2) :: (a3, o3) :: (a4, o4) :: (a5, o5) :: (a6, o6) :: (a7, o7) :: rest)) : News h₀ L h ((a3, o3) :: (a4, o4) :: (a5, o5) :: (a6, o6) :: (a7, o7) :: (a2, o2) :: (a1, o1) :: rest) := cb_drop N (fm (by k_mem) (fm (by k_mem) (fm (by k_mem) (fm (by k_mem) (fm (by k_mem) (fm (by k_mem) (fm (by k_mem) (mt (mt (mt (mt (mt (mt (mt mi))))))))))))))
theorem off_two {l3 nn b : Addr} {o3 on : Obj} {rest : Led} (h1 : @Ne Nat b l3) (h2 : @LT.lt Nat _ b nn) (h3 : ∀ p ∈ rest, p.1 ≠ b) : ∀ p ∈ (l3, o3) :: (nn, on) :: rest, p.1 ≠ b := fun p hp => by
  rcases List.mem_cons.mp hp with rfl | hp
  · exact fun e => h1 e.symm
  rcases List.mem_cons.mp hp with rfl | hp
  · exact Nat.ne_of_gt h2
  · exact h3 p hp
theorem c_start1 : ∀ (w : World) (t1 t2 t3 t4 t5 t6 t7 t8 t9 t10 t11 t12 t13 t14 t15 t16 t17 t18 tz : Tok) (x D d out l0 lq l2 l3 l4 l5 B9 dpm Dt av : Addr) (oa : Obj) (kvs : List (Str × Value)) (nd n0 n2 n3 n4 n5 no : Nat) (ta tb tm : Tok) (rest : Led) (hx : (x, instObj 150 d) ∈ rest) (hav : (av, oa) ∈ rest) (hoa : oa.IsDictOf (PySem.strKind PySem.Challenge.pw_ta0132_01 w) kvs) (hats : (av == sysModules) = false) (hkn : kvs.length ≤ 62) (hvv : ∀ p ∈ kvs, ∃ ca cb t, ca ∈ letN ∧ cb ∈ [38, 60, 34, 9, 62, 46] ∧ p.2 = .str ⟨#[ca, cb]⟩ t) (hkg : ∀ p ∈ kvs, KeyG p.1) (h4 : (l4, listOf #[.ref Dt] n4) ∈ rest) (h5 : (l5, listOf #[] n5) ∈ rest) (hDt : (Dt, ({ cls := .type "tuple", data := .seq #[.str (Str.ofString "http://www.w3.org/XML/1998/namespace") ta, .str (Str.ofString "xml") tb] } : Obj)) ∈ rest) (hD : (D, boundAt out) ∈ rest) (q1 : @Ne Nat 123 l0) (q2 : @Ne Nat 123 l2) (q3 : @Ne Nat 123 d) (q4 : @Ne Nat 123 out) (q5 : @Ne Nat l0 l2) (q6 : @Ne Nat l0 d) (q7 : @Ne Nat l0 out) (q8 : @Ne Nat l2 d) (q9 : @Ne Nat l2 out) (q10 : @Ne Nat d out) (p1 : @Ne Nat 123 l3) (p2 : @Ne Nat l0 l3) (p3 : @Ne Nat l2 l3) (p4 : @Ne Nat d l3) (p5 : @Ne Nat out l3) (r1 : ∀ p ∈ rest, p.1 ≠ 123) (r2 : ∀ p ∈ rest, p.1 ≠ l0) (r3 : ∀ p ∈ rest, p.1 ≠ l2) (r4 : ∀ p ∈ rest, p.1 ≠ d) (r5 : ∀ p ∈ rest, p.1 ≠ out) (r6 : ∀ p ∈ rest, p.1 ≠ l3), ConD w 18 (call (.ref 120) [.ref x, .str (Str.ofString "m") tm, .ref av]) ((l3, listOf #[.ref l4] n3) :: topS w t1 t2 t3 t4 t5 t6 t7 t8 t9 t10 t11 t12 t13 t14 t15 t16 t17 t18 tz D d out l0 lq l2 l3 l5 B9 dpm false nd n0 n2 no #[] #[] rest)
      (fun r news' => ∃ nn n3' n5' ps, StartPost w t1 t2 t3 t4 t5 t6 t7 t8 t9 t10 t11 t12 t13 t14 t15 t16 t17 t18 tz D d out l0 lq l2 l3 l5 B9 dpm kvs ((123, tabObj ps) :: (l3, listOf #[.ref l4, .ref nn] n3') :: (nn, listOf #[] n5') :: rest) r news') := by
  k_with_none
  k_with "storeName" => (k_here; (with_reducible show wpAny _ _ (storeName (envOfC _ _ _ _ _) _ _) _ _ _); k_dflt (refine' st_cell ?k1 ?k2 ?k3 ?k4 ?k5 ?k6 ?k7 ?_; (case k1 => k_asm); (case k2 => k_asm); (case k3 => exact rfl); (case k4 => exact rfl); (case k5 => exact rfl); (case k6 => k_updF); (case k7 => k_asm); k_whole); intro _ _ _ _ _; (try dsimp only))
  k_with "setItem ref ref ref" => (k_here; k_dflt (refine' store_all ?k1 ?k2 ?k3 ?k4 ?k5 ?k6 ?k7 ?k8 ?_; (case k1 => k_asm); (case k2 => k_asm); (case k3 => exact rfl); (case k4 => k_updF); (case k5 => k_mem); (case k6 => first | (simp only [beq_eq_false_iff_ne]; (try dsimp only); (refine neN ?_); omega) | (simp only [beq_eq_false_iff_ne]; assumption)); (case k7 => assumption); (case k8 => assumption); k_whole); intro _ _ _ _; (try dsimp only))
  k_with "call builtin:list.append" => (k_here; (with_reducible show wpAny _ _ (call (Value.builtin _) [Value.ref _, _]) _ _ _); k_dflt (refine' append_K ?k1 ?k2 ?k3 ?_ ?z; (case k1 => k_asm); (case k2 => k_asm); (case k3 => k_upd); (case z => first | size_fits | exact Nat.le_trans (by with_reducible assumption) (by decide)); k_whole); intro _ _ _; (try k_sweep))
  k_with "exec Assign cons ListComp" => (k_here; k_dflt (refine' compA ?c0 ?c1 ?c2 ?c3 ?_; (case c0 => exact rfl); (case c1 => with_unfolding_all rfl); (case c2 => exact rfl); (case c3 => decide)))
  k_with "truthy ref" => (k_here; k_dflt (refine' tr_list0 ?N ?m ?_; (case N => k_asm); (case m => k_mem); k_whole); intro _)
  have hold0 : HoldK "+Comp" := .mk
  have hold1 : HoldA 126 := .mk
  have skon : SkOn := .mk
  intro w t1 t2 t3 t4 t5 t6 t7 t8 t9 t10 t11 t12 t13 t14 t15 t16 t17 t18 tz x D d out l0 lq l2 l3 l4 l5 B9 dpm Dt av oa kvs nd n0 n2 n3 n4 n5 no ta tb tm rest hx hav hoa hats hkn hvv hkg h4 h5 hDt hD q1 q2 q3 q4 q5 q6 q7 q8 q9 q10 p1 p2 p3 p4 p5 r1 r2 r3 r4 r5 r6
  unfold ConD
  intro mean mg mb dp un gd cn cs a ccd cl outer A₀ base h₀ L m s Q E B F X N T hk hd hu hret
  dsimp only [topS] at N
  refine wpAny_call ?_
  k_dflt (refine' code_def (binds := [(Str.ofString "self", .ref x), (Str.ofString "tag", .str (Str.ofString "m") tm), (Str.ofString "attrs", .ref av)]) ?k1 ?k2 ?k3 ?k4 ?k5 ?kA ?kF ?kK ?k6 ?k7 ?k8 ?k9 ?kB ?_ ?c2 ?c3 ?c4 ?c5; (case kA => exact rfl); (case kF => exact rfl); (case kK => first | assumption | exact rfl); (case k1 => k_asm); (case k2 => k_asm); (case k3 => k_asm); (case k4 => k_asm); (case k5 => k_asm); (case k6 => k_is); (case k7 => k_is); (case k8 => k_room); (case k9 => first | exact BindsTo.of_eq rfl | exact binds_K (by k_in) rfl (by k_is) rfl rfl rfl); (case c5 => decide); (case kB => exact locs rfl); (case c2 => exact rfl); (case c3 => exact rfl); (case c4 => exact rfl); k_whole; intro g1 L1 h1 FG1 F1 N1 B1 X1 T1; (try dsimp only); (try k_lift B1); (try k_fold))
  k_steps
  refine Hold.to ?_
  rename Fr g1 L1 _ _ => F8
  rename News g1 L1 _ _ => N8
  rename l3 < _ ∧ _ => lz
  replace N8 := st_news N8
  refine Hold.of ?_
  refine Hold.to ?_; k_dflt (refine' c_start2 _ _ _ _ _ _ _ _ _ _ _ _ _ _ _ _ _ _ _ _ _ _ _ _ _ _ _ _ _ _ _ _ _ _ _ _ _ _ _ _ _ _ _ _ _ _ _ _ ?z1 ?z2 ?z3 ?z4 ?z5 ?z6 ?z7 ?z8 ?z9 ?z10 ?z11 ?z12 ?z13 ?z14 ?z15 ?z16 ?z17 ?z18 ?z19 ?z20 ?z21 ?z22 ?z23 ?z24 ?z25 ?z26 ?z27 _ _ _ _ _ _ _ _ _ _ _ _ _ _ _ _ _ _ _ _ ?k1 ?k2 ?k3 ?k4 ?k5 ?kK ?kd ?ku ?_; (case k1 => k_asm); (case k2 => k_asm); (case k3 => k_asm); (case k4 => k_asm); (case k5 => k_asm); (case kK => first | exact rfl | assumption); (case kd => k_room); (case ku => k_units); (case z1 => k_mem); (case z2 => k_mem); (case z3 => assumption); (case z4 => assumption); (case z5 => assumption); (case z6 => assumption); (case z7 => assumption); (case z8 => k_mem); (case z9 => k_mem); (case z10 => k_mem); (case z11 => k_mem); (case z12 => k_mem); (case z13 => assumption); (case z14 => assumption); (case z15 => assumption); (case z16 => assumption); (case z17 => assumption); (case z18 => assumption); (case z19 => assumption); (case z20 => assumption); (case z21 => assumption); (case z22 => assumption); (case z23 => exact off_two p1 lz.2.1 r1); (case z24 => exact off_two p2 lz.2.2.1 r2); (case z25 => exact off_two p3 lz.2.2.2.1 r3); (case z26 => exact off_two p4 lz.2.2.2.2.1 r4); (case z27 => exact off_two p5 lz.2.2.2.2.2.1 r5); intro r9 n9 h9 dr9 tk9 F9 N9 H9)
  obtain ⟨ps9, H9⟩ := H9
  (try dsimp only); (try k_fold)
  k_steps
  exact hret _ _ _ _ _ (by assumption) (by assumption) (exI3 ⟨ps9, rfl, H9.2⟩)
end
section
theorem warm_H2 : PySem.Challenge.rw_ta0132_01.Holds → hd1.heap_1_39 = hd1.heap_1_39 := by
  k_fill
  intro _
  rfl
noncomputable abbrev endS : Str := Str.empty ++ Str.ofString "</" ++ Str.ofString "m" ++ Str.ofString ">"
noncomputable abbrev wesD (P : Params) (t1 t2 t3 t4 t5 t6 t7 t8 t9 t10 t11 t12 t13 t14 t15 t16 t17 t18 tz : Tok) (D l5 l3 l2 dp l0 : Addr) (v : Value) : List DictEntry := [went P "_write" t1 (.ref D), went P "_data" t2 (.ref l5), went P "_with_comments" t3 (.bool false), went P "_strip_text" t4 (.bool false), went P "_exclude_attrs" t5 (.none), went P "_exclude_tags" t6 (.none), went P "_rewrite_prefixes" t7 (.bool false), went P "_qname_aware_tags" t8 (.none), went P "_find_qname_aware_attrs" t9 (.none), went P "_declared_ns_stack" t10 (.ref l3), went P "_ns_stack" t11 (.ref l2), went P "_prefix_map" t12 (.ref dp), went P "_preserve_space" t13 (.ref l0), went P "_pending_start" t14 (.none), went P "_root_seen" t15 (.bool true), went P "_root_done" t16 v, went P "_ignored_depth" t17 (.int 0 tz), went P "_iter_namespaces" t18 (.ref 401)]
theorem put_done (P : Params) (t1 t2 t3 t4 t5 t6 t7 t8 t9 t10 t11 t12 t13 t14 t15 t16 t17 t18 tz : Tok) (D l5 l3 l2 dp l0 : Addr) (n : Nat) (hs : Int) (k v : Value) : (putL (Str.ofString "_root_done") hs k v (wes P t1 t2 t3 t4 t5 t6 t7 t8 t9 t10 t11 t12 t13 t14 t15 t16 t17 t18 tz D l5 l3 l2 dp l0 true), putN (Str.ofString "_root_done") (wes P t1 t2 t3 t4 t5 t6 t7 t8 t9 t10 t11 t12 t13 t14 t15 t16 t17 t18 tz D l5 l3 l2 dp l0 true) n) = (wesD P t1 t2 t3 t4 t5 t6 t7 t8 t9 t10 t11 t12 t13 t14 t15 t16 t17 t18 tz D l5 l3 l2 dp l0 v, n) := by kernel_rfl
theorem c_end1 : ∀ (w : World) (t1 t2 t3 t4 t5 t6 t7 t8 t9 t10 t11 t12 t13 t14 t15 t16 t17 t18 tz : Tok) (x D d out l0 lq lz l2 l3 l4 l5 B9 dpm Dt nn : Addr) (vo : Array Value) (nd n0 n2 n3 n4 n5 n6 no : Nat) (ta tb tm : Tok) (rest : Led) (hx : (x, instObj 150 d) ∈ rest) (h4 : (l4, listOf #[.ref Dt] n4) ∈ rest) (h5 : (l5, listOf #[] n5) ∈ rest) (h6 : (nn, listOf #[] n6) ∈ rest) (hDt : (Dt, ({ cls := .type "tuple", data := .seq #[.str (Str.ofString "http://www.w3.org/XML/1998/namespace") ta, .str (Str.ofString "xml") tb] } : Obj)) ∈ rest) (hD : (D, boundAt out) ∈ rest) (hvo : vo.size ≤ 8) (q5 : @Ne Nat l0 l2) (q6 : @Ne Nat l0 d) (q7 : @Ne Nat l0 out) (q8 : @Ne Nat l2 d) (q9 : @Ne Nat l2 out) (q10 : @Ne Nat d out) (p2 : @Ne Nat l0 l3) (p3 : @Ne Nat l2 l3) (p4 : @Ne Nat d l3) (p5 : @Ne Nat out l3) (r2 : ∀ p ∈ rest, p.1 ≠ l0) (r3 : ∀ p ∈ rest, p.1 ≠ l2) (r4 : ∀ p ∈ rest, p.1 ≠ d) (r5 : ∀ p ∈ rest, p.1 ≠ out) (r6 : ∀ p ∈ rest, p.1 ≠ l3), Con w 14 (call (.ref 133) [.ref x, .str (Str.ofString "m") tm]) ((l3, listOf #[.ref l4, .ref nn] n3) :: (l0, listOf #[.bool false, .bool false] n0) :: (l2, listOf #[.ref B9, .ref lq, .ref lz] n2) :: (d, dictOf (wes w.params t1 t2 t3 t4 t5 t6 t7 t8 t9 t10 t11 t12 t13 t14 t15 t16 t17 t18 tz D l5 l3 l2 dpm l0 true) nd) :: (out, listOf vo no) :: rest)
      (fun r news' => r = .none ∧ ∃ te no', (out, listOf (vo.push (.str endS te)) no') ∈ news' ∧ ∀ p ∈ rest, p ∈ news') := by
  k_with_none
  k_with "storeName" => (k_here; (with_reducible show wpAny _ _ (storeName (envOfC _ _ _ _ _) _ _) _ _ _); k_dflt (refine' st_cell ?k1 ?k2 ?k3 ?k4 ?k5 ?k6 ?k7 ?_; (case k1 => k_asm); (case k2 => k_asm); (case k3 => exact rfl); (case k4 => exact rfl); (case k5 => exact rfl); (case k6 => k_updF); (case k7 => k_asm); k_whole); intro _ _ _ _ _; (try dsimp only))
  k_with "setItem ref ref ref" => (k_here; k_dflt (refine' store_all ?k1 ?k2 ?k3 ?k4 ?k5 ?k6 ?k7 ?k8 ?_; (case k1 => k_asm); (case k2 => k_asm); (case k3 => exact rfl); (case k4 => k_updF); (case k5 => k_mem); (case k6 => first | (simp only [beq_eq_false_iff_ne]; (try dsimp only); (refine neN ?_); omega) | (simp only [beq_eq_false_iff_ne]; assumption)); (case k7 => assumption); (case k8 => assumption); k_whole); intro _ _ _ _; (try dsimp only))
  k_with "call builtin:list.append" => (k_here; (with_reducible show wpAny _ _ (call (Value.builtin _) [Value.ref _, _]) _ _ _); k_dflt (refine' append_K ?k1 ?k2 ?k3 ?_ ?z; (case k1 => k_asm); (case k2 => k_asm); (case k3 => k_upd); (case z => first | size_fits | exact Nat.le_trans (by with_reducible assumption) (by decide)); k_whole); intro _ _ _; (try k_sweep))
  k_with "exec Assign cons ListComp" => (k_here; k_dflt (refine' compA ?c0 ?c1 ?c2 ?c3 ?_; (case c0 => exact rfl); (case c1 => with_unfolding_all rfl); (case c2 => exact rfl); (case c3 => decide)))
  k_with "truthy ref" => (k_here; k_dflt (refine' tr_list0 ?N ?m ?_; (case N => k_asm); (case m => k_mem); k_whole); intro _)
  k_with "callWith ref" => (k_here; (with_reducible show wpAny _ _ (callWith _ (Value.ref _) _ (backTo _ (starEach (_ :: _) _)) []) _ _ _); k_dflt (refine' callWith_app ?aN ?aM ?_; (case aN => k_asm); (case aM => k_mem); k_whole))
  k_with "And" => ((with_reducible show AppAt _ _ _ ∧ _); k_dflt (refine ⟨appAt_of (by k_asm) (by k_mem), ?_⟩); (try dsimp only [List.nil_append, List.cons_append]))
  k_with "setAttr ref" => (k_here; k_dflt (refine' set_dict ?k1 ?k2 ?k3 ?k4 ?k5 ?k6 ?k7 ?k8 ?k9 ?k10 ?k11 ?k12 ?k13 ?_; (case k1 => k_asm); (case k2 => k_asm); (case k3 => k_asm); (case k4 => k_inst); (case k5 => exact rfl); (case k6 => k_is); (case k7 => k_is); (case k8 => k_is); (case k9 => k_is); (case k10 => k_get); (case k11 => exact put_done _ _ _ _ _ _ _ _ _ _ _ _ _ _ _ _ _ _ _ _ _ _ _ _ _ _ _ _ _ _); (case k12 => k_upd); (case k13 => exact Nat.le_of_ble_eq_true rfl); k_whole; intro _ _ _))
  have hold0 : HoldK "+Comp" := .mk
  have hold1 : HoldK "call ref" := .mk
  have skon : SkOn := .mk
  intro w t1 t2 t3 t4 t5 t6 t7 t8 t9 t10 t11 t12 t13 t14 t15 t16 t17 t18 tz x D d out l0 lq lz l2 l3 l4 l5 B9 dpm Dt nn vo nd n0 n2 n3 n4 n5 n6 no ta tb tm rest hx h4 h5 h6 hDt hD hvo q5 q6 q7 q8 q9 q10 p2 p3 p4 p5 r2 r3 r4 r5 r6
  unfold Con
  intro mean mg mb dp un gd cn cs a ccd cl outer A₀ base h₀ L m s Q E B F X N T hk hd hu hret
  refine wpAny_call ?_
  k_dflt (refine' code_def (binds := [(Str.ofString "self", .ref x), (Str.ofString "tag", .str (Str.ofString "m") tm)]) ?k1 ?k2 ?k3 ?k4 ?k5 ?kA ?kF ?kK ?k6 ?k7 ?k8 ?k9 ?kB ?_ ?c2 ?c3 ?c4 ?c5; (case kA => exact rfl); (case kF => exact rfl); (case kK => first | assumption | exact rfl); (case k1 => k_asm); (case k2 => k_asm); (case k3 => k_asm); (case k4 => k_asm); (case k5 => k_asm); (case k6 => k_is); (case k7 => k_is); (case k8 => k_room); (case k9 => first | exact BindsTo.of_eq rfl | exact binds_K (by k_in) rfl (by k_is) rfl rfl rfl); (case c5 => decide); (case kB => exact locs rfl); (case c2 => exact rfl); (case c3 => exact rfl); (case c4 => exact rfl); k_whole; intro g1 L1 h1 FG1 F1 N1 B1 X1 T1; (try dsimp only); (try k_lift B1); (try k_fold))
  k_steps
  refine Hold.to ?_; k_dflt (refine' (c_qcode _ _ _ _ _ _ _ _ _ _ _ _ _ _ _ _ _ _ _ _ _ _ _ _ _ _ _ _ _ _ _ _ _ _ _ _ _ _ _ _ _ ?z1 ?z2 ?z3 ?z4 ?z5 ?z6 ?z7 ?z8).con _ _ _ _ _ _ _ _ _ _ _ _ _ _ _ _ _ _ _ _ ?k1 ?k2 ?k3 ?k4 ?k5 ?kK ?kd ?ku ?_; (case k1 => k_asm); (case k2 => k_asm); (case k3 => k_asm); (case k4 => k_asm); (case k5 => k_asm); (case kK => first | exact rfl | assumption); (case kd => k_room); (case ku => k_units); (case z1 => k_mem); (case z2 => k_mem); (case z3 => k_mem); (case z4 => k_mem); (case z5 => k_mem); (case z6 => k_mem); (case z7 => decide); (case z8 => exact keyG_m.2.2); intro r9 n9 h9 tk9 F9 N9 H9)
  obtain ⟨q, ku, J, rfl, rfl, hoff⟩ := H9
  (try dsimp only); (try k_fold)
  k_steps
  refine Hold.to ?_
  rename Fr g1 L1 _ _ => F8
  rename News g1 L1 _ _ => N8
  replace N8 := cb_drop N8 fun p hp => List.mem_append_right (_ :: J) hp
  refine call_app F8 N8 (by k_mem) (by k_updF) (Nat.le_trans hvo (by decide)) ?_
  intro h10 n10 F10 N10
  clear F8 N8
  (try dsimp only at N10)
  (try k_fold)
  k_steps
  exact hret _ _ _ _ (by assumption) (by assumption) ⟨rfl, _, _, .tail _ (.tail _ (.tail _ (.tail _ (.head _)))), fun p hp => .tail _ (.tail _ (.tail _ (.tail _ (.tail _ hp))))⟩
end
section
theorem warm_Q3 : PySem.Challenge.rw_ta0132_01.Holds → hd1.heap_1_39 = hd1.heap_1_39 := by
  k_fill
  intro _
  rfl
open PySem.Sre PySem.Builtin.Re
theorem glue_fold : ∀ (ps : List Str) (acc : Array Nat), (ps.foldl (fun acc p => acc ++ (#[] : Array Nat) ++ p.cps) acc).toList = acc.toList ++ (ps.map (·.cps.toList)).flatten
  | [], acc => by simp
  | p :: ps, acc => by
    rw [List.foldl_cons, glue_fold ps]
    simp
theorem join_nil : ∀ ps : List Str, (Txt.join ⟨#[]⟩ ps).cps.toList = (ps.map (·.cps.toList)).flatten
  | [] => rfl
  | p :: ps => by
    show (ps.foldl (fun acc p => acc ++ (#[] : Array Nat) ++ p.cps) p.cps).toList = _
    rw [glue_fold]; simp
theorem str_toList {v : Str} {l : List Nat} (h : v.cps.toList = l) : v = mk l := by
  cases v; subst h; simp [mk]
theorem pieces_weight {ps : List Str} (h : ∀ p ∈ ps, 1 ≤ p.length) : ps.length ≤ (ps.map (·.length)).sum := by
  induction ps with
  | nil => simp
  | cons p ps ih =>
    have := ih fun q hq => h q (.tail _ hq)
    have := h p (.head _)
    simp only [List.length_cons, List.map_cons, List.sum_cons]; omega
theorem pieces_sum (ps : List Str) : (ps.map (·.length)).sum = (ps.map (·.cps.toList)).flatten.length := by
  rw [List.length_flatten, List.map_map]; rfl
theorem pat_D (w : World) {h : Heap} (X : (hd1.heap_1_39 w.params).In h) : PatAt h 180 codeD := by
  refine ⟨_, 179, _, _, _, _, X 180 _ rfl, rfl, rfl, rfl, X 179 _ rfl, rfl⟩
theorem pat_C (w : World) {h : Heap} (X : (hd1.heap_1_39 w.params).In h) : PatAt h 185 codeC := by
  refine ⟨_, 184, _, _, _, _, X 185 _ rfl, rfl, rfl, rfl, X 184 _ rfl, rfl⟩
structure QuoteIn (ls : List Ln) (tg : List Nat) : Prop where
  safe : ∀ l ∈ ls, Safe l.2
  clean : ∀ l ∈ ls, ∀ c ∈ l.2, c ≠ 10 ∧ c ≠ 13
  tsafe : Safe tg
  tclean : ∀ c ∈ tg, c ≠ 10 ∧ c ≠ 13
  tne : tg ≠ []
  size : (((ls.map lnQ).flatten ++ ([13, 10] ++ tg)).length) ≤ 10000
noncomputable def lnB (l : Ln) : List Nat := (if l.1 then [46] else []) ++ l.2
noncomputable def rawT (ls : List Ln) (tg : List Nat) : List Nat := (ls.map lnC).flatten ++ ([13, 10] ++ tg)
noncomputable def quoT (ls : List Ln) (tg : List Nat) : List Nat := (ls.map lnQ).flatten ++ ([13, 10] ++ tg)
theorem raw_le (ls : List Ln) (tg : List Nat) : (rawT ls tg).length ≤ (quoT ls tg).length := by
  unfold rawT quoT
  rw [List.length_append, List.length_append]
  suffices h : ((ls.map lnC).flatten).length ≤ ((ls.map lnQ).flatten).length by simp only [List.length_append]; omega
  induction ls with
  | nil => simp
  | cons l ls ih =>
    simp only [List.map_cons, List.flatten_cons, List.length_append]
    have : (lnC l).length ≤ (lnQ l).length := by
      unfold lnC lnQ; cases l.1 <;> simp
    omega
theorem raw_lines (ls : List Ln) (tg : List Nat) : rawT ls tg = (((ls.map lnB) ++ [[]]).map (· ++ [13, 10])).flatten ++ tg := by
  unfold rawT
  rw [List.map_append, List.flatten_append, List.map_map, List.append_assoc]
  rfl
section
variable {prog : Program} {w w' : World} {A : Around} {E : Value → Shared → Prop} {s : Shared} {h₀ : Heap} {L : Addr} {m : Str → Option Value} {news : Led}
theorem subC {ls : List Ln} {tg : List Nat} {t tr : Tok} {Q : Value → Shared → Prop} (F : Fr h₀ L s.heap m) (N : News h₀ L s.heap news) (X : (hd1.heap_1_39 w'.params).In h₀) (q : QuoteIn ls tg)
    (h : ∀ h' tk' t', Fr h₀ L h' m → News h₀ L h' news → Q (.str (mk (rawT ls tg)) t') { s with heap := h', toks := tk' }) :
    wpAny (model prog w) A (call (.builtin "re.Pattern.sub") [.ref 185, .str (Str.ofString "\r\n") tr, .str (mk (rawT ls tg)) t]) Q E s := by
  have hsz := q.size
  have hle := raw_le ls tg
  unfold quoT at hle
  obtain ⟨ps, h1, h2, h3, h4⟩ := subs_C (T := rawT ls tg) (tl := tg) q.tclean q.tne ((ls.map lnB) ++ [[]]) [] (fun l hl => by
    rcases List.mem_append.mp hl with hl | hl
    · obtain ⟨x, hx, rfl⟩ := List.mem_map.mp hl
      intro c hc
      rcases List.mem_append.mp hc with hc | hc
      · split at hc
        · cases List.mem_singleton.mp hc; exact ⟨by decide, by decide⟩
        · cases hc
      · exact q.clean x hx c hc
    · cases List.mem_singleton.mp hl
      intro c hc; cases hc) (raw_lines ls tg)
  have hw : (ps.map (·.length)).sum = (rawT ls tg).length := by rw [pieces_sum, h2, ← raw_lines]
  rw [show Str.ofString "\r\n" = mk [13, 10] from by decide +kernel]
  refine call_sub F N (fun h hk => pat_C w' (X.keeps hk)) (by show (rawT ls tg).toArray.size ≤ _; rw [List.size_toArray]; omega) (by with_unfolding_all rfl) h1 (by have := pieces_weight h3; omega) h4 fun h' tk' t' F' N' => ?_
  rw [str_toList (show (Txt.join ⟨#[]⟩ ps).cps.toList = rawT ls tg by rw [join_nil, h2, ← raw_lines])]
  exact h h' tk' t' F' N'
theorem subD {ls : List Ln} {tg : List Nat} {t tr : Tok} {Q : Value → Shared → Prop} (F : Fr h₀ L s.heap m) (N : News h₀ L s.heap news) (X : (hd1.heap_1_39 w'.params).In h₀) (q : QuoteIn ls tg)
    (h : ∀ h' tk' t', Fr h₀ L h' m → News h₀ L h' news → Q (.str (mk (quoT ls tg)) t') { s with heap := h', toks := tk' }) :
    wpAny (model prog w) A (call (.builtin "re.Pattern.sub") [.ref 180, .str (Str.ofString "..") tr, .str (mk (rawT ls tg)) t]) Q E s := by
  have hsz := q.size
  have hle := raw_le ls tg
  unfold quoT at hle
  obtain ⟨ps, h1, h2, h3, h4⟩ := subs_D (T := rawT ls tg) (tl := [13, 10] ++ tg) (by omega) (safe_crlf.append q.tsafe) (by simp) ls [] [] q.safe rfl Safe.nil (.inl rfl)
  have hw : (ps.map (·.length)).sum = (quoT ls tg).length := by rw [pieces_sum, h2]; rfl
  unfold quoT at hw
  rw [show Str.ofString ".." = mk [46, 46] from by decide +kernel]
  refine call_sub F N (fun h hk => pat_D w' (X.keeps hk)) (by show (rawT ls tg).toArray.size ≤ _; rw [List.size_toArray]; omega) (by with_unfolding_all rfl) h1 (by have := pieces_weight h3; omega) h4 fun h' tk' t' F' N' => ?_
  rw [str_toList (show (Txt.join ⟨#[]⟩ ps).cps.toList = quoT ls tg by rw [join_nil, h2]; rfl)]
  exact h h' tk' t' F' N'
end
theorem c_quote : ∀ (w : World) (ls : List Ln) (tg : List Nat) (t : Tok) (news : Led) (q : QuoteIn ls tg), Con w 4 (call (.ref 192) [.str (mk (rawT ls tg)) t]) news (fun r news' => news' = news ∧ ∃ t, r = .str (mk (quoT ls tg)) t) := by
  k_with_none
  k_with "getMethod ref" => (k_here; (with_reducible show wpAny _ _ (getMethod (Value.ref 185) _ _) _ _ _); k_dflt (refine' getMethod_sub (code := codeC) ?k1 ?_); (case k1 => exact pat_C _ (Frag.In.keeps (by k_asm) (Fr.keep (by k_asm)))))
  k_with "getMethod ref" => (k_here; (with_reducible show wpAny _ _ (getMethod (Value.ref 180) _ _) _ _ _); k_dflt (refine' getMethod_sub (code := codeD) ?k1 ?_); (case k1 => exact pat_D _ (Frag.In.keeps (by k_asm) (Fr.keep (by k_asm)))))
  have hold0 : HoldK "call builtin:re.Pattern.sub" := .mk
  have skon : SkOn := .mk
  intro w ls tg t news q
  unfold Con
  intro mean mg mb dp un gd cn cs a ccd cl outer A₀ base h₀ L m s Q E B F X N T hk hd hu hret
  refine wpAny_call ?_
  k_dflt (refine' code_def (binds := [(Str.ofString "data", .str (mk (rawT ls tg)) t)]) ?k1 ?k2 ?k3 ?k4 ?k5 ?kA ?kF ?kK ?k6 ?k7 ?k8 ?k9 ?kB ?_ ?c2 ?c3 ?c4 ?c5; (case kA => exact rfl); (case kF => exact rfl); (case kK => first | assumption | exact rfl); (case k1 => k_asm); (case k2 => k_asm); (case k3 => k_asm); (case k4 => k_asm); (case k5 => k_asm); (case k6 => k_is); (case k7 => k_is); (case k8 => k_room); (case k9 => first | exact BindsTo.of_eq rfl | exact binds_K (by k_in) rfl (by k_is) rfl rfl rfl); (case c5 => decide); (case kB => exact locs rfl); (case c2 => exact rfl); (case c3 => exact rfl); (case c4 => exact rfl); k_whole; intro g1 L1 h1 FG1 F1 N1 B1 X1 T1; (try dsimp only); (try k_lift B1); (try k_fold))
  k_steps
  refine Hold.to ?_
  rename Fr g1 L1 _ _ => F2
  rename News g1 L1 _ _ => N2
  refine subC F2 N2 X1 q fun h' tk' t' F3 N3 => ?_
  clear F2 N2
  (try dsimp only); (try k_fold)
  k_steps
  refine Hold.to ?_
  refine subD F3 N3 X1 q fun h' tk' t' F4 N4 => ?_
  clear F3 N3
  (try dsimp only); (try k_fold)
  k_steps
  exact hret _ _ _ _ (by assumption) (by assumption) ⟨rfl, _, rfl⟩
end
section
theorem warm_H3 : PySem.Challenge.rw_ta0132_01.Holds → hd1.heap_1_39 = hd1.heap_1_39 := by
  k_fill
  intro _
  rfl
theorem put_iter (P : Params) (t1 t2 t3 t4 t5 t6 t7 t8 t9 t10 t11 t12 t13 t14 t15 t16 t17 t18 tz : Tok) (D l5 l3 l2 dp l0 : Addr) : (putL (Str.ofString "_iter_namespaces") (PyData.keyHash P (Str.ofString "_iter_namespaces")) (.str (Str.ofString "_iter_namespaces") t18) (.ref 401) [went P "_write" t1 (.ref D), went P "_data" t2 (.ref l5), went P "_with_comments" t3 (.bool false), went P "_strip_text" t4 (.bool false), went P "_exclude_attrs" t5 (.none), went P "_exclude_tags" t6 (.none), went P "_rewrite_prefixes" t7 (.bool false), went P "_qname_aware_tags" t8 (.none), went P "_find_qname_aware_attrs" t9 (.none), went P "_declared_ns_stack" t10 (.ref l3), went P "_ns_stack" t11 (.ref l2), went P "_prefix_map" t12 (.ref dp), went P "_preserve_space" t13 (.ref l0), went P "_pending_start" t14 (.none), went P "_root_seen" t15 (.bool false), went P "_root_done" t16 (.bool false), went P "_ignored_depth" t17 (.int 0 tz)], putN (Str.ofString "_iter_namespaces") [went P "_write" t1 (.ref D), went P "_data" t2 (.ref l5), went P "_with_comments" t3 (.bool false), went P "_strip_text" t4 (.bool false), went P "_exclude_attrs" t5 (.none), went P "_exclude_tags" t6 (.none), went P "_rewrite_prefixes" t7 (.bool false), went P "_qname_aware_tags" t8 (.none), went P "_find_qname_aware_attrs" t9 (.none), went P "_declared_ns_stack" t10 (.ref l3), went P "_ns_stack" t11 (.ref l2), went P "_prefix_map" t12 (.ref dp), went P "_preserve_space" t13 (.ref l0), went P "_pending_start" t14 (.none), went P "_root_seen" t15 (.bool false), went P "_root_done" t16 (.bool false), went P "_ignored_depth" t17 (.int 0 tz)] 17) = (wes P t1 t2 t3 t4 t5 t6 t7 t8 t9 t10 t11 t12 t13 t14 t15 t16 t17 t18 tz D l5 l3 l2 dp l0 false, 18) := by kernel_rfl
theorem no_mods {D : Addr} (h : @LT.lt Nat _ 123 D) : (D == sysModules) = false := by
  rw [beq_eq_false_iff_ne]
  intro e
  rw [e] at h
  exact absurd h (by decide)
theorem kvs_from : ∀ (n : Nat) (I : List It), I.length = n → ∀ p ∈ kvsOf I, ∃ i ∈ I, p = i.kv
  | 0, I, h, p, hp => by
    rw [List.eq_nil_of_length_eq_zero h] at hp
    cases hp
  | n + 1, I, h, p, hp => by
    have hne : I ≠ [] := fun e => by rw [e] at h; cases h
    obtain ⟨J, i, rfl⟩ : ∃ J i, I = J ++ [i] := ⟨I.dropLast, I.getLast hne, (List.dropLast_concat_getLast hne).symm⟩
    rw [kvsOf_snoc] at hp
    have ih := kvs_from n J (by simpa using h)
    have hor : p ∈ kvsOf J ∨ p = i.kv := by
      unfold stored at hp
      split at hp
      · obtain ⟨q, hq, e⟩ := List.mem_map.mp hp
        split at e
        · rename_i hk
          right; rw [← e, hk]; rfl
        · left; rw [← e]; exact hq
      · rcases List.mem_append.mp hp with hp | hp
        · exact .inl hp
        · exact .inr (List.mem_singleton.mp hp)
    rcases hor with h | h
    · obtain ⟨i', hi', e⟩ := ih p h
      exact ⟨i', List.mem_append_left _ hi', e⟩
    · exact ⟨i, List.mem_append_right _ (.head _), h⟩
theorem c_itemsM : ∀ (w : World) (x d l : Addr) (t : Tok) (n : Nat) (I : List It) (news : Led) (hx : (x, instObj 338 d) ∈ news) (hd' : (d, dictOf [⟨PyData.keyHash w.params (Str.ofString "_headers"), .str (Str.ofString "_headers") t, .ref l⟩] 1) ∈ news) (hl : (l, listOf (its I).toArray n) ∈ news) (hIn : I.length ≤ 64), Con w 3 (call (.ref 302) [.ref x]) news (fun r news' => ∃ D n', r = .ref D ∧ news' = (D, listOf (its I).toArray n') :: news ∧ AllLt D news) := by
  k_with_none
  k_with "storeName" => (k_here; (with_reducible show wpAny _ _ (storeName (envOfC _ _ _ _ _) _ _) _ _ _); k_dflt (refine' st_cell ?k1 ?k2 ?k3 ?k4 ?k5 ?k6 ?k7 ?_; (case k1 => k_asm); (case k2 => k_asm); (case k3 => exact rfl); (case k4 => exact rfl); (case k5 => exact rfl); (case k6 => k_updF); (case k7 => k_asm); k_whole); intro _ _ _ _ _; (try dsimp only))
  k_with "setItem ref ref ref" => (k_here; k_dflt (refine' store_all ?k1 ?k2 ?k3 ?k4 ?k5 ?k6 ?k7 ?k8 ?_; (case k1 => k_asm); (case k2 => k_asm); (case k3 => exact rfl); (case k4 => k_updF); (case k5 => k_mem); (case k6 => first | (simp only [beq_eq_false_iff_ne]; (try dsimp only); (refine neN ?_); omega) | (simp only [beq_eq_false_iff_ne]; assumption)); (case k7 => assumption); (case k8 => assumption); k_whole); intro _ _ _ _; (try dsimp only))
  k_with "call builtin:list.append" => (k_here; (with_reducible show wpAny _ _ (call (Value.builtin _) [Value.ref _, _]) _ _ _); k_dflt (refine' append_K ?k1 ?k2 ?k3 ?_ ?z; (case k1 => k_asm); (case k2 => k_asm); (case k3 => k_upd); (case z => first | size_fits | exact Nat.le_trans (by with_reducible assumption) (by decide)); k_whole); intro _ _ _; (try k_sweep))
  k_with "exec Assign cons ListComp" => (k_here; k_dflt (refine' compA ?c0 ?c1 ?c2 ?c3 ?_; (case c0 => exact rfl); (case c1 => with_unfolding_all rfl); (case c2 => exact rfl); (case c3 => decide)))
  k_with "getAttr ref" => (k_here; (with_reducible show wpAny _ _ (getAttr (Value.ref _) (Str.ofString "append") _) _ _ _); k_dflt (refine' getAttr_app ?F ?N ?m ?_; (case F => k_asm); (case N => k_asm); (case m => k_mem); k_whole); intro _ _ _ _ l9; (try k_lt l9); (try k_sweep))
  k_with "setAttr ref" => (k_here; k_dflt (refine' set_dict ?k1 ?k2 ?k3 ?k4 ?k5 ?k6 ?k7 ?k8 ?k9 ?k10 ?k11 ?k12 ?k13 ?_; (case k1 => k_asm); (case k2 => k_asm); (case k3 => k_asm); (case k4 => k_inst); (case k5 => exact rfl); (case k6 => k_is); (case k7 => k_is); (case k8 => k_is); (case k9 => k_is); (case k10 => k_get); (case k11 => exact put_iter _ _ _ _ _ _ _ _ _ _ _ _ _ _ _ _ _ _ _ _ _ _ _ _ _ _); (case k12 => k_upd); (case k13 => exact Nat.le_of_ble_eq_true rfl); k_whole; intro _ _ _))
  k_with "subscriptTail Name Slice ref ref" => (k_here; k_dflt (refine' slice_all ?F ?N ?l ?_ ?s ?t ?z; (case F => k_asm); (case N => k_asm); (case l => k_mem); (case s => with_unfolding_all rfl); (case t => kmk_pure); (case z => exact Nat.le_trans (by assumption) (by decide))); intro _ _ _ _ l9; (try k_lt l9); (try k_sweep))
  have hold0 : HoldK "+Comp" := .mk
  have hold1 : HoldK "call ref" := .mk
  have hold2 : HoldK "call type:dict" := .mk
  have hold3 : HoldK "call builtin:str.join" := .mk
  have skon : SkOn := .mk
  intro w x d l t n I news hx hd' hl hIn
  unfold Con
  intro mean mg mb dp un gd cn cs a ccd cl outer A₀ base h₀ L m s Q E B F X N T hk hd hu hret
  have hsz := its_size hIn
  refine wpAny_call ?_
  k_dflt (refine' code_def (binds := [(Str.ofString "self", .ref x)]) ?k1 ?k2 ?k3 ?k4 ?k5 ?kA ?kF ?kK ?k6 ?k7 ?k8 ?k9 ?kB ?_ ?c2 ?c3 ?c4 ?c5; (case kA => exact rfl); (case kF => exact rfl); (case kK => first | assumption | exact rfl); (case k1 => k_asm); (case k2 => k_asm); (case k3 => k_asm); (case k4 => k_asm); (case k5 => k_asm); (case k6 => k_is); (case k7 => k_is); (case k8 => k_room); (case k9 => first | exact BindsTo.of_eq rfl | exact binds_K (by k_in) rfl (by k_is) rfl rfl rfl); (case c5 => decide); (case kB => exact locs rfl); (case c2 => exact rfl); (case c3 => exact rfl); (case c4 => exact rfl); k_whole; intro g1 L1 h1 FG1 F1 N1 B1 X1 T1; (try dsimp only); (try k_lift B1); (try k_fold))
  k_steps
  exact hret _ _ _ _ (by assumption) (by assumption) (exI2 ⟨rfl, rfl, by first | assumption | exact And.left (by assumption) | exact allLt_of (by assumption)⟩)
noncomputable def tagP (Is : List It) : List Str := if Is = [] then [Str.ofString "<" ++ Str.ofString "m", Str.ofString ">", endS] else [Str.ofString "<" ++ Str.ofString "m", Txt.join (Str.ofString "") (Is.map attrS), Str.ofString ">", endS]
noncomputable def tagS (Is : List It) : Str := Txt.join (Str.ofString "") (tagP Is)
theorem outV_strs (Is : List It) (ta tb tc te : Tok) : StrsAre ((outV Is ta tb tc).push (.str endS te)).toList (tagP Is) := by
  unfold outV tagP
  split
  · exact .cons _ _ (.cons _ _ (.cons _ _ .nil))
  · exact .cons _ _ (.cons _ _ (.cons _ _ (.cons _ _ .nil)))
theorem outV_size (Is : List It) (ta tb tc : Tok) : (outV Is ta tb tc).size ≤ 8 := by
  unfold outV; split <;> exact Nat.le_of_ble_eq_true rfl
theorem tagP_weight (Is : List It) (hn : Is.length ≤ 62) (hk : ∀ i ∈ Is, i.k.length ≤ 4) : ((tagP Is).map (·.length)).sum + (tagP Is).length ≤ 1048576 := by
  have e0 : Str.ofString "" = ⟨#[]⟩ := rfl
  have h1 : (Txt.join (Str.ofString "") (Is.map attrS)).length ≤ 16 * Is.length := by
    have h2 : (Txt.join (Str.ofString "") (Is.map attrS)).length = ((Is.map attrS).map (·.length)).sum := by
      rw [e0]
      show (Txt.join ⟨#[]⟩ (Is.map attrS)).cps.size = _
      rw [← Array.length_toList, join_nil, List.length_flatten, List.map_map]; rfl
    rw [h2]
    exact attrs_weight Is hk
  have e1 : (Str.ofString "<" ++ Str.ofString "m").length = 2 := rfl
  have e2 : (Str.ofString ">").length = 1 := rfl
  have e3 : endS.length = 4 := rfl
  unfold tagP
  split
  · simp only [List.map_cons, List.map_nil, List.sum_cons, List.sum_nil, List.length_cons, List.length_nil, e1, e2, e3]; omega
  · simp only [List.map_cons, List.map_nil, List.sum_cons, List.sum_nil, List.length_cons, List.length_nil, e1, e2, e3]; omega
theorem off6 {b a1 a2 a3 a4 a5 a6 : Addr} {o1 o2 o3 o4 o5 o6 : Obj} {rest : Led} (h1 : @Ne Nat a1 b) (h2 : @Ne Nat a2 b) (h3 : @Ne Nat a3 b) (h4 : @Ne Nat a4 b) (h5 : @Ne Nat a5 b) (h6 : @Ne Nat a6 b) (h : ∀ p ∈ rest, p.1 ≠ b) : ∀ p ∈ (a1, o1) :: (a2, o2) :: (a3, o3) :: (a4, o4) :: (a5, o5) :: (a6, o6) :: rest, p.1 ≠ b := fun p hp => by
  simp only [List.mem_cons] at hp
  rcases hp with rfl | rfl | rfl | rfl | rfl | rfl | hp
  · exact h1
  · exact h2
  · exact h3
  · exact h4
  · exact h5
  · exact h6
  · exact h p hp
theorem tag_news {h₀ h : Heap} {L a1 a2 a3 a4 a5 a6 a7 a8 a9 a10 a11 a12 a13 a14 a15 a16 a17 a18 a19 a20 : Addr} {o1 o2 o3 o4 o5 o6 o7 o8 o9 o10 o11 o12 o13 o14 o15 o16 o17 o18 o19 o20 : Obj} {rest : Led}
    (N : News h₀ L h ((a1, o1) :: (a2, o2) :: (a3, o3) :: (a4, o4) :: (a5, o5) :: (a6, o6) :: (a7, o7) :: (a8, o8) :: (a9, o9) :: (a10, o10) :: (a11, o11) :: (a12, o12) :: (a13, o13) :: (a14, o14) :: (a15, o15) :: (a16, o16) :: (a17, o17) :: (a18, o18) :: (a19, o19) :: (a20, o20) :: rest)) :
    News h₀ L h ((a9, o9) :: (a17, o17) :: (a3, o3) :: (a8, o8) :: (a14, o14) :: (a16, o16) :: (a13, o13) :: (a1, o1) :: (a10, o10) :: (a12, o12) :: (a11, o11) :: (a15, o15) :: rest) := cb_drop N (by
  repeat' first | (refine List.forall_mem_cons.mpr ⟨by k_mem, ?_⟩) | exact fun p hp => by repeat' first | exact hp | apply List.mem_cons_of_mem)
theorem c_tag : ∀ (w : World) (x d l : Addr) (t : Tok) (n : Nat) (I : List It) (rest : Led) (hI : ∀ i ∈ I, i.obj ∈ rest) (hIn : I.length ≤ 62) (hvv : ∀ i ∈ I, ∃ ca cb, ca ∈ letN ∧ cb ∈ [38, 60, 34, 9, 62, 46] ∧ i.v = ⟨#[ca, cb]⟩) (hkg : ∀ i ∈ I, KeyG i.k) (q1 : @Ne Nat 123 x) (q2 : @Ne Nat 123 d) (q3 : @Ne Nat 123 l) (r1 : ∀ p ∈ rest, p.1 ≠ 123), ConD w 22 (call (.ref 408) [.ref x]) ((123, tabObj #[]) :: TabF w.params x d l t n I rest) (fun r news' => ∃ Is t', r = .str (tagS Is) t' ∧ (Is.map It.kv).Perm (kvsOf I) ∧ (Is.map It.kv).Pairwise (fun i j => i.1.cps.toList < j.1.cps.toList) ∧ (∀ p ∈ rest, p ∈ news') ∧ ∃ ps, (123, tabObj ps) ∈ news') := by
  have hold0 : HoldK "+Comp" := .mk
  have hold1 : HoldK "call ref" := .mk
  have hold2 : HoldK "call type:dict" := .mk
  have hold3 : HoldK "call builtin:str.join" := .mk
  have skon : SkOn := .mk
  intro w x d l t n I rest hI hIn hvv hkg q1 q2 q3 r1
  unfold ConD
  intro mean mg mb dp un gd cn cs a ccd cl outer A₀ base h₀ L m s Q E B F X N T hk hd hu hret
  dsimp only [TabF] at N
  refine wpAny_call ?_
  k_dflt (refine' code_def (binds := [(Str.ofString "table", .ref x)]) ?k1 ?k2 ?k3 ?k4 ?k5 ?kA ?kF ?kK ?k6 ?k7 ?k8 ?k9 ?kB ?_ ?c2 ?c3 ?c4 ?c5; (case kA => exact rfl); (case kF => exact rfl); (case kK => first | assumption | exact rfl); (case k1 => k_asm); (case k2 => k_asm); (case k3 => k_asm); (case k4 => k_asm); (case k5 => k_asm); (case k6 => k_is); (case k7 => k_is); (case k8 => k_room); (case k9 => first | exact BindsTo.of_eq rfl | exact binds_K (by k_in) rfl (by k_is) rfl rfl rfl); (case c5 => decide); (case kB => exact locs rfl); (case c2 => exact rfl); (case c3 => exact rfl); (case c4 => exact rfl); k_whole; intro g1 L1 h1 FG1 F1 N1 B1 X1 T1; (try dsimp only); (try k_lift B1); (try k_fold))
  k_steps
  refine Hold.to ?_; k_dflt (refine' c_c14n _ _ _ _ _ _ _ _ _ _ _ _ _ _ _ _ _ _ _ _ _ _ _ ?k1 ?k2 ?k3 ?k4 ?k5 ?kK ?kd ?ku ?_; (case k1 => k_asm); (case k2 => k_asm); (case k3 => k_asm); (case k4 => k_asm); (case k5 => k_asm); (case kK => first | exact rfl | assumption); (case kd => k_room); (case ku => k_units); intro r9 n9 h9 tk9 F9 N9 H9)
  obtain ⟨xw, dw, l0, l1', l2, l3, l4, l5, dpm, B9, Dv, Dt, opm, xs9, c9, t0, t1, t2, t3, t4, t5, t6, t7, t8, t9, t10, t11, t12, t13, t14, t15, t16, t17, ta, tb, rfl, rfl, lta, la, lb, lc, ld, le, lf, lg, lh, li, lj, lk⟩ := H9
  (try dsimp only); (try k_fold)
  k_steps
  refine Hold.to ?_; k_dflt (refine' c_itemsM _ _ _ _ _ _ I _ ?p1 ?p2 ?p3 ?p4 _ _ _ _ _ _ _ _ _ _ _ _ _ _ _ _ _ _ _ _ ?k1 ?k2 ?k3 ?k4 ?k5 ?kK ?kd ?ku ?_; (case k1 => k_asm); (case k2 => k_asm); (case k3 => k_asm); (case k4 => k_asm); (case k5 => k_asm); (case kK => first | exact rfl | assumption); (case kd => k_room); (case ku => k_units); (case p1 => k_mem); (case p2 => k_mem); (case p3 => k_mem); (case p4 => omega); intro r9 n9 h9 tk9 F9 N9 H9)
  obtain ⟨Di, ni, rfl, rfl, lDi⟩ := H9
  (try dsimp only); (try k_fold)
  k_steps
  refine Hold.to ?_
  rename Fr g1 L1 _ _ => F8
  rename News g1 L1 _ _ => N8
  refine dict_pairs (I := I) (by rfl) F8 N8 (.head _) ?mI (by omega) ?_
  case mI =>
    intro i hi
    have hio := hI i hi
    k_mem
  intro av oa hA tkA FA NA lA hoa
  clear F8 N8
  (try dsimp only); (try k_fold)
  k_steps
  replace NA := tag_news NA
  rename _ ∧ _ ∧ _ ∧ _ ∧ AllLt _ rest => lro
  have hDb : @LT.lt Nat _ _ dw := tb_ltOf lta _ (.head _)
  have hol : @LT.lt Nat _ _ dw := tb_ltOf lta _ (.tail _ (.head _))
  have h123 : @LT.lt Nat _ 123 dw := tb_ltOf lta _ (.tail _ (.tail _ (.head _)))
  have hlow : ∀ p ∈ rest, @LT.lt Nat _ p.1 dw := fun p hp => tb_ltOf lta p (.tail _ (.tail _ (.tail _ (.tail _ (.tail _ (.tail _ hp))))))
  have hav0 : @LT.lt Nat _ l0 av := lA _ (.tail _ (.head _))
  dsimp only at hDb hol
  have hats : (av == sysModules) = false := no_mods (by omega)
  have hkn : (kvsOf I).length ≤ 62 := by
    have := kvsOf_le I I.length
    rw [List.take_length] at this
    omega
  have hvk : ∀ p ∈ kvsOf I, ∃ ca cb t, ca ∈ letN ∧ cb ∈ [38, 60, 34, 9, 62, 46] ∧ p.2 = .str ⟨#[ca, cb]⟩ t := fun p hp => by
    obtain ⟨i, hi, rfl⟩ := kvs_from _ I rfl p hp
    obtain ⟨ca, cb, h1, h2, h3⟩ := hvv i hi
    exact ⟨ca, cb, i.tv, h1, h2, by show Value.str i.v i.tv = _; rw [h3]⟩
  have hkk : ∀ p ∈ kvsOf I, KeyG p.1 := fun p hp => by
    obtain ⟨i, hi, rfl⟩ := kvs_from _ I rfl p hp
    exact hkg i hi
  refine Hold.to ?_; k_dflt (refine' c_start1 _ _ _ _ _ _ _ _ _ _ _ _ _ _ _ _ _ _ _ _ _ _ _ _ _ _ _ _ _ _ _ _ _ _ _ _ _ _ _ _ _ _ _ _ _ _ ((xw, instObj 150 dw) :: (av, oa) :: (l4, listOf #[.ref Dt] 0) :: (l5, listOf #[] 0) :: (Dt, ({ cls := .type "tuple", data := .seq #[.str (Str.ofString "http://www.w3.org/XML/1998/namespace") ta, .str (Str.ofString "xml") tb] } : Obj)) :: (_, boundAt _) :: rest) ?zhx ?zhav ?zhoa ?zhats ?zhkn ?zhvv ?zhkg ?zh4 ?zh5 ?zhDt ?zhD ?zq1 ?zq2 ?zq3 ?zq4 ?zq5 ?zq6 ?zq7 ?zq8 ?zq9 ?zq10 ?zp1 ?zp2 ?zp3 ?zp4 ?zp5 ?zr1 ?zr2 ?zr3 ?zr4 ?zr5 ?zr6 _ _ _ _ _ _ _ _ _ _ _ _ _ _ _ _ _ _ _ _ ?k1 ?k2 ?k3 ?k4 ?k5 ?kK ?kd ?ku ?_; (case k1 => k_asm); (case k2 => k_asm); (case k3 => k_asm); (case k4 => k_asm); (case k5 => k_asm); (case kK => first | exact rfl | assumption); (case kd => k_room); (case ku => k_units); (case zhx => k_mem); (case zhav => k_mem); (case zhoa => exact hoa); (case zhats => exact hats); (case zhkn => exact hkn); (case zhvv => exact hvk); (case zhkg => exact hkk); (case zh4 => k_mem); (case zh5 => k_mem); (case zhDt => k_mem); (case zhD => k_mem); (case zq1 => omega); (case zq2 => omega); (case zq3 => omega); (case zq4 => omega); (case zq5 => omega); (case zq6 => omega); (case zq7 => omega); (case zq8 => omega); (case zq9 => omega); (case zq10 => omega); (case zp1 => omega); (case zp2 => omega); (case zp3 => omega); (case zp4 => omega); (case zp5 => omega); (case zr1 => exact off6 (by omega) (by omega) (by omega) (by omega) (by omega) (by omega) r1); (case zr2 => exact off6 (by omega) (by omega) (by omega) (by omega) (by omega) (by omega) fun p hp => Nat.ne_of_lt (Nat.lt_trans (hlow p hp) (by omega))); (case zr3 => exact off6 (by omega) (by omega) (by omega) (by omega) (by omega) (by omega) fun p hp => Nat.ne_of_lt (Nat.lt_trans (hlow p hp) (by omega))); (case zr4 => exact off6 (by omega) (by omega) (by omega) (by omega) (by omega) (by omega) fun p hp => Nat.ne_of_lt (hlow p hp)); (case zr5 => exact off6 (by omega) (by omega) (by omega) (by omega) (by omega) (by omega) fun p hp => Nat.ne_of_lt (tb_ltOf lro.2.2.2.2 p hp)); (case zr6 => exact off6 (by omega) (by omega) (by omega) (by omega) (by omega) (by omega) fun p hp => Nat.ne_of_lt (Nat.lt_trans (hlow p hp) (by omega))); intro r9 n9 h9 dr9 tk9 F9 N9 H9)
  obtain ⟨nn, n3', n5', ps9, rfl, Is, lz, nd', n0', n2', no', tA, tB, tC, rest', rfl, hsub0, hoff, hperm, hpw⟩ := H9
  have hsub := fun p hp => hsub0 p (List.Mem.tail _ hp)
  have h123m := hsub0 _ (.head _)
  (try dsimp only); (try k_fold)
  have hxw := hsub _ (.tail _ (.tail _ (.head _)))
  k_steps
  have hl3 := hsub _ (.head _)
  have hnn := hsub _ (.tail _ (.head _))
  have hne3 : @Ne Nat nn l3 := fun e => by
    have h1 := N9.get (.tail _ (.tail _ (.tail _ (.tail _ hl3))))
    have h2 := N9.get (.tail _ (.tail _ (.tail _ (.tail _ hnn))))
    have e' : nn = l3 := e
    rw [e', h1] at h2
    simp [W.listOf] at h2
  have mfil : ∀ {a : Addr} {o : Obj}, (a, o) ∈ rest' → @Ne Nat a l3 → (a, o) ∈ rest'.filter (fun p => decide (p.1 ≠ l3)) := fun h1 h2 => List.mem_filter.mpr ⟨h1, decide_eq_true h2⟩
  have mfhx := mfil hxw (by omega)
  have mfh4 := mfil (hsub _ (.tail _ (.tail _ (.tail _ (.tail _ (.head _)))))) (by omega)
  have mfh5 := mfil (hsub _ (.tail _ (.tail _ (.tail _ (.tail _ (.tail _ (.head _))))))) (by omega)
  have mfh6 := mfil hnn hne3
  have mfhDt := mfil (hsub _ (.tail _ (.tail _ (.tail _ (.tail _ (.tail _ (.tail _ (.head _)))))))) (by omega)
  have mfhD := mfil (hsub _ (.tail _ (.tail _ (.tail _ (.tail _ (.tail _ (.tail _ (.tail _ (.head _))))))))) (by omega)
  have mf123 := mfil h123m (by omega)
  have mfr : ∀ p ∈ rest, p ∈ rest'.filter (fun p => decide (p.1 ≠ l3)) := fun p hp => mfil (hsub _ (.tail _ (.tail _ (.tail _ (.tail _ (.tail _ (.tail _ (.tail _ (.tail _ hp))))))))) (by have := hlow p hp; omega)
  have N10 := cb_drop N9 (news := (l3, listOf #[.ref l4, .ref nn] n3') :: (l0, listOf #[.bool false, .bool false] n0') :: (l2, listOf #[.ref B9, .ref l1', .ref lz] n2') :: (dw, _) :: (_, listOf (outV Is tA tB tC) no') :: rest'.filter (fun p => decide (p.1 ≠ l3))) fun p hp => by
    rcases List.mem_cons.mp hp with rfl | hp
    · exact .tail _ (.tail _ (.tail _ (.tail _ hl3)))
    rcases List.mem_cons.mp hp with rfl | hp
    · exact .head _
    rcases List.mem_cons.mp hp with rfl | hp
    · exact .tail _ (.head _)
    rcases List.mem_cons.mp hp with rfl | hp
    · exact .tail _ (.tail _ (.head _))
    rcases List.mem_cons.mp hp with rfl | hp
    · exact .tail _ (.tail _ (.tail _ (.head _)))
    exact .tail _ (.tail _ (.tail _ (.tail _ (List.mem_filter.mp hp).1)))
  clear N9
  rename Fr g1 L1 _ _ => F9
  refine Hold.to ?_; k_dflt (refine' c_end1 _ _ _ _ _ _ _ _ _ _ _ _ _ _ _ _ _ _ _ _ _ _ _ _ _ _ _ _ _ _ _ _ _ _ _ _ _ _ _ _ _ _ _ _ _ _ _ _ ?yhx ?yh4 ?yh5 ?yh6 ?yhDt ?yhD ?yhvo ?yq5 ?yq6 ?yq7 ?yq8 ?yq9 ?yq10 ?yp2 ?yp3 ?yp4 ?yp5 ?yr2 ?yr3 ?yr4 ?yr5 ?yr6 _ _ _ _ _ _ _ _ _ _ _ _ _ _ _ _ _ _ _ _ ?k1 ?k2 ?k3 ?k4 ?k5 ?kK ?kd ?ku ?_; (case k1 => k_asm); (case k2 => k_asm); (case k3 => k_asm); (case k4 => k_asm); (case k5 => k_asm); (case kK => first | exact rfl | assumption); (case kd => k_room); (case ku => k_units); (case yhx => exact mfhx); (case yh4 => exact mfh4); (case yh5 => exact mfh5); (case yh6 => exact mfh6); (case yhDt => exact mfhDt); (case yhD => exact mfhD); (case yhvo => exact outV_size _ _ _ _); (case yq5 => omega); (case yq6 => omega); (case yq7 => omega); (case yq8 => omega); (case yq9 => omega); (case yq10 => omega); (case yp2 => omega); (case yp3 => omega); (case yp4 => omega); (case yp5 => omega); (case yr2 => exact fun p hp => (hoff p (List.mem_filter.mp hp).1).1); (case yr3 => exact fun p hp => (hoff p (List.mem_filter.mp hp).1).2.1); (case yr4 => exact fun p hp => (hoff p (List.mem_filter.mp hp).1).2.2.1); (case yr5 => exact fun p hp => (hoff p (List.mem_filter.mp hp).1).2.2.2); (case yr6 => exact fun p hp => of_decide_eq_true (List.mem_filter.mp hp).2); intro r9 n9 h9 tk9 F9 N9 H9)
  obtain ⟨rfl, te, no2, hout, hsub2⟩ := H9
  (try dsimp only); (try k_fold)
  k_steps
  refine Hold.to ?_
  have hIsk : ∀ i ∈ Is, i.k.length ≤ 4 := fun i hi => (hkk i.kv (hperm.mem_iff.mp (List.mem_map.mpr ⟨i, hi, rfl⟩))).1
  have hIsn : Is.length ≤ 62 := by
    have := hperm.length_eq
    rw [List.length_map] at this
    omega
  refine join_listW (ys := tagP Is) (News.isList (by assumption) hout) (outV_strs _ _ _ _ _) (by decide) (tagP_weight Is hIsn hIsk) ?_
  intro t8 k8
  (try dsimp only); (try k_fold)
  k_steps
  exact hret _ _ _ _ _ (by assumption) (by assumption) ⟨Is, _, rfl, hperm, hpw, fun p hp => hsub2 p (mfr p hp), ps9, hsub2 _ mf123⟩
end
section
open PyProof.Rows.LCg (NsObj lst ns_obj)
section
variable {prog : Program} {w : World} {A : Around} {E : Value → Shared → Prop} {s : Shared} {h₀ : Heap} {L : Addr} {m : Str → Option Value} {env : Env} {news : Led}
theorem pyIter_strK {x : Str} {t : Tok} {Q : Value → Shared → Prop}
    (hQ : ∀ (o : Obj) (St : Nat → Heap → Prop), (∀ A' : Around, A'.handled = none → Walks prog w A' s.heap.objs.size [s.heap.objs.size] [s.heap.objs.size] x.cps.size (SignAt x) St) → (∀ i h, St i h → ∃ o, h.get? s.heap.objs.size = some o) → St 0 (s.heap.push o) →
      Q (.ref s.heap.objs.size) { s with heap := s.heap.push o }) : wpAny (model prog w) A (pyIter (.str x t)) Q E s := by
  cases ha : x.cps.all (· < 128)
  · exact wpAny_pyIter_wide ha (hQ _ _ (fun A' hA => Walks.strWide hA _ x t) (fun i h st => st.imp fun _ h => h.1) ⟨_, Heap.get?_push_size _ rfl, rfl, rfl⟩)
  · exact wpAny_pyIter_ascii ha (hQ _ _ (fun A' hA => Walks.strAscii hA _ x t) (fun i h st => st.imp fun _ h => h.1) ⟨_, Heap.get?_push_size _ rfl, rfl, rfl⟩)
theorem comp_blockS {elt iter : PySem.Expr} {x : Str} {px : Pos} {ifs : List PySem.Expr} {scope : Scope} {cl : List (Str × Addr)} {pos : Pos} {I : Addr} {n : Nat} {P : Nat → Value → Prop} {St : Nat → Heap → Prop} {RR : Value → Addr → Result → Shared → Prop}
    (J : Nat → List Value → Led → Prop) (hsz : n ≤ sizeLine)
    (kl : Led) (hkl : ∀ i ys news', J i ys news' → ∀ p ∈ kl, p ∈ news') (W : Walks prog w A I (I :: kl.map (·.1)) [I] n P St) (hSt : ∀ i h, St i h → ∃ o, h.get? I = some o)
    (hcell : ∀ y ∈ scope.names, y.2 ≠ .cell) (hkind : scope.kind = .function) (hx : scope.names.lookup x = some .local)
    (F : Fr h₀ L s.heap m) (N : News h₀ L s.heap news) (h0 : J 0 [] news) (hit : St 0 s.heap) (hIL : L ≠ I) (hI₀ : h₀.get? I = none) (off : ∀ p ∈ news, p.1 ≠ I)
    (turn : ∀ i v ys news₁ h₁ tk₁ oI C oC D m₂ (E' : Value → Shared → Prop), P i v → J i ys news₁ → NsObj oC m₂ → m₂ x = some v → Fr h₀ L h₁ m → News h₀ L h₁ ((I, oI) :: (C, oC) :: (D, lst ys) :: news₁) →
      (∀ p ∈ news₁, p.1 ≠ I ∧ p.1 ≠ C ∧ p.1 ≠ D) → ((@Ne Nat I C) ∧ (@Ne Nat I D) ∧ (@Ne Nat C D)) →
      CTree prog w A (compEnvC scope cl C env) elt E' (CTurn h₀ L m s I oI C oC D (lst ys) (J (i + 1) ys)) (fun y => CTurn h₀ L m s I oI C oC D (lst ys) (J (i + 1) (ys ++ [y]))) ifs { s with heap := h₁, toks := tk₁ })
    (hRR : ∀ D C h tk m' ys news', Fr h₀ L h m → News h₀ L h ((D, lst ys) :: news') → (∀ p ∈ news', p.1 ≠ C ∧ p.1 ≠ D) → h.Ns C m' → h₀.get? C = none → h₀.get? D = none → C ≠ L → D ≠ L → C ≠ D → J n ys news' → RR (.ref D) C (.ok .next) { s with heap := h, toks := tk }) :
    wpAny (model prog w) A (newList []) (fun acc s₃ => wpAny (model prog w) A (newFunctionEnv scope env.globals cl [] env.qual none .none (some env)) (fun cenv s₄ =>
      codeAny (model prog w) A (.compStart (.ListComp elt [⟨.Name x px, iter, ifs, 0⟩] scope pos) 0 (.ref I) acc { cenv with scope := relabel scope env }) (RR acc cenv.locals) s₄) E s₃) E s :=
  comp_blockG (St := St) (P := P) J hsz (fun _ _ _ _ _ _ _ _ _ st J₁ J₂ N₁ _ N₂ k => W.frame _ _ _ st fun b hb o e => by
    rcases List.mem_cons.mp hb with rfl | hb
    · exact k o e
    · obtain ⟨p, hp, rfl⟩ := List.mem_map.mp hb
      rw [(N₁ p (hkl _ _ _ J₁ p hp)).1] at e
      cases e
      exact (N₂ p (hkl _ _ _ J₂ p hp)).1) W hSt hcell hkind hx F N h0 hit hIL hI₀ off turn hRR
theorem compGoES {elt iter : PySem.Expr} {x : Str} {px : Pos} {ifs : List PySem.Expr} {scope : Scope} {cl : List (Str × Addr)} {pos : Pos} {v : Str} {tv : Tok} {Q : Value → Shared → Prop}
    (J : Nat → List Value → Led → Prop) (hh : A.handled = none) (hsz : v.cps.size ≤ sizeLine)
    (hcell : ∀ y ∈ scope.names, y.2 ≠ .cell) (hkind : scope.kind = .function) (hx : scope.names.lookup x = some .local)
    (F : Fr h₀ L s.heap m) (N : News h₀ L s.heap news)
    (h0 : J 0 [] news)
    (turn : ∀ i c ys news₁ h₁ tk₁ I oI C oC D m₂ u (E' : Value → Shared → Prop), v.cps[i]? = some c → J i ys news₁ → NsObj oC m₂ → m₂ x = some (.str ⟨#[c]⟩ u) → Fr h₀ L h₁ m → News h₀ L h₁ ((I, oI) :: (C, oC) :: (D, lst ys) :: news₁) →
      (∀ p ∈ news₁, p.1 ≠ I ∧ p.1 ≠ C ∧ p.1 ≠ D) → ((@Ne Nat I C) ∧ (@Ne Nat I D) ∧ (@Ne Nat C D)) →
      CTree prog w A (compEnvC scope cl C env) elt E' (CTurn h₀ L m s I oI C oC D (lst ys) (J (i + 1) ys)) (fun y => CTurn h₀ L m s I oI C oC D (lst ys) (J (i + 1) (ys ++ [y]))) ifs { s with heap := h₁, toks := tk₁ })
    (fin : ∀ D h' tk news' ys, Fr h₀ L h' m → News h₀ L h' ((D, lst ys) :: news') → (∀ p ∈ news', p.1 ≠ D) → J v.cps.size ys news' → Q (.ref D) { s with heap := h', toks := tk }) :
    CompGo prog w A env (.ListComp elt [⟨.Name x px, iter, ifs, 0⟩] scope pos) scope cl E none Q (.str v tv) s := by
  unfold CompGo
  refine pyIter_strK fun o St W hSt hst => ?_
  have up : ∀ b ob, s.heap.get? b = some ob → (s.heap.push o).get? b = some ob := fun b ob e => Heap.get?_push_of_some _ e
  refine comp_blockS (s := { s with heap := s.heap.push o }) J hsz [] (fun _ _ _ _ _ h => nomatch h) (W A hh) hSt hcell hkind hx (F.keeps up) (N.grown up) h0 hst (Nat.ne_of_lt F.ns.lt) (next_is_new F) (fun p hp => Nat.ne_of_lt (Heap.lt_size (N p hp).1))
    (fun i y ys news₁ h₁ tk₁ oI C oC D m₂ E' hy hJ hC hm F1 N1 => by
      obtain ⟨c, u, hc, rfl⟩ := hy
      exact turn i c ys news₁ h₁ tk₁ _ oI C oC D m₂ u E' hc hJ hC hm F1 N1) ?_
  intro D C h tk m' ys news' F' N' o1 hn hC₀ hD₀ hCL hDL hCD hJ
  refine ⟨m', hn, fun h'' hs'' => fin D h'' tk news' ys (F'.change hs'' hCL hC₀) (fun p hp => ?_) (fun p hp => (o1 p hp).2) hJ⟩
  refine ⟨hs''.extBut _ _ ?_ (N' p hp).1, (N' p hp).2⟩
  rcases List.mem_cons.mp hp with rfl | hp
  · exact Ne.symm hCD
  · exact (o1 p hp).1
end
end
section
/-- an exception that came in no other's wake -/
noncomputable def CtxN (h : Heap) (e : Addr) : Prop := ∃ o vs, h.get? e = some o ∧ o.data = .fields vs ∧ vs[2]? = some .none
section
variable {M : Model} {A : Around} {E : Value → Shared → Prop} {s : Shared} {base : Heap} {env : Env} {outer : List Env} {L e : Addr} {cls a0 fl : Value} {Q : Unit → Shared → Prop}
theorem CtxN.of {h h' : Heap} (c : CtxN h e) (k : ∀ o, h.get? e = some o → h'.get? e = some o) : CtxN h' e := by
  obtain ⟨o, vs, ho, hd, h2⟩ := c
  exact ⟨o, vs, k o ho, hd, h2⟩
theorem CtxN.set {h : Heap} {v : Value} (c : CtxN h e) : CtxN (h.update e (Obj.mapFields (·.setIfInBounds 1 v))) e := by
  obtain ⟨o, vs, ho, hd, h2⟩ := c
  have hd' := Obj.data_mapFields hd (·.setIfInBounds 1 v)
  exact (exI2 ⟨Heap.get?_update_self _ ho (Obj.isFreed_of_fields hd'), hd', by rw [Array.getElem?_setIfInBounds_ne (by decide)]; exact h2⟩)
/-- setFlight e none, of a traced exception -/
theorem flightC (hkb : base.StaysIn s.heap) (hl : s.heap.FunFrames base outer) (ht : s.heap.TracedAtW base e cls a0 fl) (hen : base.get? e = none) (hc : CtxN s.heap e)
    (h : ∀ h', Heap.FlyingW base outer e cls a0 h' → CtxN h' e → s.heap.UpToSlots h' → Q () { s with heap := h' }) : wpAny M A (setFlight (.ref e) none) Q E s := by
  obtain ⟨oe, vs, T, oT, ts, he, hcls, hd, h1, hnT, hTe, hT, hdT, h3⟩ := ht
  have h3s : 3 < ts.size := (Array.getElem?_eq_some_iff.mp h3).1
  unfold setFlight
  refine wpAny_bind (wpAny_field he hd h1 ?_)
  rw [if_pos (show (Value.ref T != Value.none) = true from by simp)]
  generalize hv : ((none : Option Addr).elim Value.none fun f => rawInt f) = v
  have oth : ∀ b, b ≠ T → (s.heap.update T (Obj.mapFields (·.setIfInBounds 3 v))).get? b = s.heap.get? b := fun b hb => Heap.get?_update_other _ _ (Ne.symm hb)
  have nof : ∀ b o, s.heap.get? b = some o → (∀ ws, o.data ≠ .fields ws) → b ≠ T := fun b o hb hn q => by
    subst q
    rw [hT] at hb
    cases hb
    exact hn ts hdT
  have hdT' := Obj.data_mapFields hdT (·.setIfInBounds 3 v)
  refine wpAny_setField hT hdT h3s (h _ ⟨fun b o hb => ?_, hen, hl.of_keeps fun b o hb hn => ⟨o, (oth b (nof b o hb hn)).trans hb, rfl⟩, ?_⟩ (hc.of fun o ho => (oth e (Ne.symm hTe)).trans ho) fun b o hb hn => ⟨o.slots, (oth b (nof b o hb hn)).trans hb⟩)
  · exact (oth b fun q => by rw [q, hnT] at hb; cases hb).trans (hkb b o hb)
  · exact ⟨oe, vs, T, _, _, (oth e (Ne.symm hTe)).trans he, hcls, hd, h1, hnT, hTe, Heap.get?_update_self _ hT (Obj.isFreed_of_fields hdT'), hdT', by rw [← hv]; simp [h3s]⟩
/-- a new entry of a traceback -/
theorem entryC {oe : Obj} {vs : Array Value} {head : Value} {hadNext : Bool} (hfr : A.frames = some (env :: outer)) (hl : s.heap.FunFrames base (env :: outer)) (hf : env.frame = some L)
    (he : s.heap.get? e = some oe) (hkb : base.StaysIn s.heap) (hen : base.get? e = none) (hd : oe.data = .fields vs) (hcl : oe.cls = cls) (hsz : 1 < vs.size) (h0 : vs[0]? = some a0) (hc : CtxN s.heap e)
    (h : ∀ h', base.StaysIn h' → h'.FunFrames base (env :: outer) → h'.TracedAtW base e cls a0 (rawInt L) → CtxN h' e → s.heap.UpToSlots h' → Q () { s with heap := h' }) :
    wpAny M A (do let a ← frameOf env; let pl ← entryPlaceOf L hadNext; let b ← EntryCells.newEntry head a .none (rawInt L) .none pl; setField (.ref e) 1 b) Q E s := by
  have hene : e ∉ (env :: outer).filterMap (·.frame) := fun hm => by
    obtain ⟨_, o, ho, hn⟩ := hl.mem hm
    rw [he] at ho
    cases ho
    exact hn vs hd
  refine wpAny_bind (wpAny_frameOf_fun hfr hl hf fun h1 hs1 => ?_)
  refine wpAny_bind (wpAny_entryPlaceOf fun pl hpl => ?_)
  unfold EntryCells.newEntry newFields
  refine wpAny_bind (wpAny_newObj_type ?_ (hpl.sizeOk5 _ _ _ _ _))
  have he1 : h1.get? e = some oe := (hs1.2.1 e hene).trans he
  have hkb1 : base.StaysIn h1 := fun b o hb => (hs1.2.1 b fun hm => by rw [(hl.mem hm).1] at hb; cases hb).trans (hkb b o hb)
  generalize hob : ({ cls := .type "traceback", dict := none, data := .fields ([head, .ref L, .none, rawInt L, .none] ++ (if pl.isEmpty then List.replicate 6 Value.none else pl)).toArray } : Obj) = ob
  have he2 := Heap.get?_push_of_some (h := h1) ob he1
  have hTe : h1.objs.size ≠ e := Nat.ne_of_gt (Heap.lt_size he1)
  have c2 : CtxN (h1.push ob) e := (hc.of fun o ho => by rw [he] at ho; cases ho; exact he2)
  have hd3 := Obj.data_mapFields hd (·.setIfInBounds 1 (Value.ref h1.objs.size))
  have kp : ∀ b o, b ≠ e → h1.get? b = some o → ((h1.push ob).update e (Obj.mapFields (·.setIfInBounds 1 (Value.ref h1.objs.size)))).get? b = some o := fun b o hbe hb => by
    rw [Heap.get?_update_other _ _ (Ne.symm hbe)]
    exact Heap.get?_push_of_some _ hb
  have nof : ∀ b o, s.heap.get? b = some o → (∀ ws, o.data ≠ .fields ws) → b ≠ e := fun b o hb hn q => by
    subst q
    rw [he] at hb
    cases hb
    exact hn vs hd
  refine wpAny_setField he2 hd hsz (h _ (fun b o hb => kp b o (fun q => by rw [q, hen] at hb; cases hb) (hkb1 b o hb)) (hl.of_keeps fun b o hb hn => ?_) ?_ c2.set fun b o hb hn => ?_)
  · obtain ⟨sl, hs⟩ := hs1.2.2 b o hb
    exact ⟨_, kp b _ (nof b o hb hn) hs, rfl⟩
  · refine (exI2 ⟨h1.objs.size, ob, _, Heap.get?_update_self _ he2 (Obj.isFreed_of_fields hd3), ⟨(Obj.cls_mapFields _ _).trans hcl, by rw [Array.getElem?_setIfInBounds_ne (by decide)]; exact h0⟩, hd3, by simp [hsz], hkb1.fresh, hTe, ?_, by rw [← hob], ?_⟩)
    · rw [Heap.get?_update_other _ _ (Ne.symm hTe), ← hob]
      exact Heap.get?_push_size h1 rfl
    · simp
  · obtain ⟨sl, hs⟩ := hs1.2.2 b o hb
    exact ⟨sl, kp b _ (nof b o hb hn) hs⟩
/-- the first frame that an exception leaves -/
theorem leaving_firstC {oe : Obj} {vs : Array Value} (hfr : A.frames = some (env :: outer)) (hl : s.heap.FunFrames base (env :: outer)) (hf : env.frame = some L)
    (he : s.heap.get? e = some oe) (hkb : base.StaysIn s.heap) (hen : base.get? e = none) (hd : oe.data = .fields vs) (hcl : oe.cls = cls) (h1 : vs[1]? = some .none) (h0 : vs[0]? = some a0) (hc : CtxN s.heap e)
    (h : ∀ h', Heap.FlyingW base outer e cls a0 h' → CtxN h' e → s.heap.UpToSlots h' → Q () { s with heap := h' }) : wpAny M A (leaving env (.ref e)) Q E s := by
  unfold leaving noteFrame
  simp only [hf]
  refine wpAny_bind (wpAny_bind (wpAny_field he hd h1 ?_))
  rw [if_neg (by decide)]
  refine entryC hfr hl hf he hkb hen hd hcl (Array.getElem?_eq_some_iff.mp h1).1 h0 hc fun h2 k1 k2 k3 k4 k5 => ?_
  refine flightC (s := { s with heap := h2 }) k1 k2 k3 hen k4 fun h3 f1 f2 f3 => ?_
  obtain ⟨g1, g2, ⟨_, _, g3⟩, g4⟩ := f1
  exact h h3 ⟨g1, g2, g3, g4⟩ f2 (k5.trans f3)
/-- a flying exception is noted in the frame it comes to -/
theorem noteC (hfr : A.frames = some (env :: outer)) (hf : env.frame = some L) (hfl : Heap.FlyingW base (env :: outer) e cls a0 s.heap) (hc : CtxN s.heap e)
    (h : ∀ h', base.StaysIn h' → h'.FunFrames base (env :: outer) → h'.TracedAtW base e cls a0 (rawInt L) → CtxN h' e → s.heap.UpToSlots h' → Q () { s with heap := h' }) : wpAny M A (noteFrame (.ref e) env) Q E s := by
  obtain ⟨hkb, hen, hl, oe, vs, T, oT, ts, he, ⟨hcls, h0⟩, hd, h1, hnT, hTe, hT, hdT, h3⟩ := hfl
  unfold noteFrame
  simp only [hf]
  refine wpAny_bind (wpAny_field he hd h1 ?_)
  rw [if_pos (show (Value.ref T != Value.none) = true from by simp)]
  refine wpAny_bind (wpAny_field hT hdT h3 ?_)
  rw [if_neg (show ¬ ((Value.none == rawInt L) = true) from by simp [rawInt])]
  refine wpAny_bind (wpAny_setField hT hdT (Array.getElem?_eq_some_iff.mp h3).1 ?_)
  have oth : ∀ b, b ≠ T → (s.heap.update T (Obj.mapFields (·.setIfInBounds 3 Value.none))).get? b = s.heap.get? b := fun b hb => Heap.get?_update_other _ _ (Ne.symm hb)
  have nof : ∀ b o, s.heap.get? b = some o → (∀ ws, o.data ≠ .fields ws) → b ≠ T := fun b o hb hn q => by
    subst q
    rw [hT] at hb
    cases hb
    exact hn ts hdT
  have up : s.heap.UpToSlots (s.heap.update T (Obj.mapFields (·.setIfInBounds 3 Value.none))) := fun b o hb hn => ⟨o.slots, (oth b (nof b o hb hn)).trans hb⟩
  exact entryC (s := { s with heap := s.heap.update T (Obj.mapFields (·.setIfInBounds 3 Value.none)) }) hfr (hl.of_keeps fun b o hb hn => ⟨o, (oth b (nof b o hb hn)).trans hb, rfl⟩) hf ((oth e (Ne.symm hTe)).trans he)
    (fun b o hb => (oth b fun q => by rw [q, hnT] at hb; cases hb).trans (hkb b o hb)) hen hd hcls (Array.getElem?_eq_some_iff.mp h1).1 h0 (hc.of fun o ho => (oth e (Ne.symm hTe)).trans ho) fun h' k1 k2 k3 k4 k5 => h h' k1 k2 k3 k4 (up.trans k5)
end
end
section
open PyProof.Rows.LCg (NsObj lst ns_obj)
theorem entry_unchain : entryFor table "proto.unchain" = some Builtin.«proto.unchain» := entryFor_of_tree (by kernel_rfl)
theorem plain_unchain : plainId "proto.unchain" = true := by decide +kernel
section
variable {M : Model} {A : Around} {E : Value → Shared → Prop} {s : Shared} {e x : Addr}
/-- a raise while another exception is at work -/
theorem raise_chain {prog : Program} {w : World} {α : Type} {oe : Obj} {vs : Array Value} {Q : α → Shared → Prop} (hA : A.handled = some (.ref x)) (hne : @Ne Nat x e) (hc : CtxN s.heap x) (he : s.heap.get? e = some oe) (hd : oe.data = .fields vs) (h2 : 2 < vs.size)
    (h : E (.ref e) { s with heap := s.heap.update e (Obj.mapFields (·.setIfInBounds 2 (.ref x))) }) : wpAny (model prog w) A (raiseNew (.ref e) : Sem α) Q E s := by
  obtain ⟨o, ws, ho, hw, hn⟩ := hc
  unfold raiseNew
  refine wpAny_bind (wpAny_handled ?_)
  rw [hA]
  dsimp only
  have hb : (Value.ref x != Value.ref e) = true := by
    rw [bne_iff_ne]
    intro q
    cases q
    exact hne rfl
  rw [if_pos hb]
  refine wpAny_bind (wpAny_holding (wpAny_runValue (codeAny_builtin entry_unchain ?_)))
  rw [Around.under_plainId plain_unchain _]
  show wpAny _ _ (field (.ref x) 2 >>= _) _ _ s
  refine wpAny_bind (wpAny_field ho hw (x := .none) hn ?_)
  rw [if_pos (show (Value.none == Value.none) = true from by decide)]
  refine wpAny_bind (wpAny_pure ?_)
  refine wpAny_pure ?_
  show wpAny (model prog w) A (setField (.ref e) 2 (.ref x) >>= fun _ => throw (Value.ref e)) Q E s
  exact wpAny_bind (wpAny_setField he hd h2 (wpAny_throw h))
theorem next_list_endH : ∀ {A : Around} {E : Value → Shared → Prop} {s : Shared} {x : Addr} {prog : Program} {w : World} {it l : Addr} {i : Nat} {items : Array Value} {Q : Option Value → Shared → Prop} (hh : A.handled = some (.ref x)) (hx9 : @Ne Nat x it) (hc : CtxN s.heap x) (hit : s.heap.IsListIter it l i) (hl : s.heap.IsList l items) (hx : items[i]? = none) (hQ : ∀ h', Heap.ExtBut it s.heap h' → Q none { s with heap := h' }), wpAny (model prog w) A (pyNext (.ref it)) Q E s := by
  have skon : SkOn := .mk
  intro A E s x prog w it l i items Q hh hx9 hc hit hl hx hQ
  obtain ⟨o, ho, hcl, hd⟩ := id hit
  obtain ⟨ol, hol, _, nl, hdl⟩ := hl
  unfold pyNext
  refine wpAny_bind (wpAny_attempt (wpAny_callSpecial?_slot (name := Str.ofString "__next__") hit.typeIs slot_listiter_next
    (wpAny_call_entry slot_listiter_next hit.typeIs entry_listiter_next ?_ (args_listiter_next _))))
  show wpAny _ _ (field (.ref it) 0 >>= _) _ _ s
  refine wpAny_bind (wpAny_field ho hd (x := .ref l) rfl ?_)
  show wpAny _ _ (if (Value.ref l == Value.none) = true then _ else _) _ _ s
  rw [if_neg (show ¬ ((Value.ref l == Value.none) = true) from Bool.false_ne_true)]
  show wpAny _ _ (field (.ref it) 1 >>= _) _ _ s
  refine wpAny_bind (wpAny_field ho hd (x := .int i 0) rfl ?_)
  show wpAny _ _ (seqItems? (.ref l) >>= _) _ _ s
  refine wpAny_bind (wpAny_seqItems hol hdl ?_)
  simp only [Int.toNat_natCast, hx]
  have hc1 : CtxN (s.heap.update it (Obj.mapFields (·.setIfInBounds 0 Value.none))) x := hc.of fun o ho => (Heap.get?_update_other _ _ (fun q => hx9 q.symm)).trans ho
  have hs1 : Heap.ExtBut it s.heap (s.heap.update it (Obj.mapFields (·.setIfInBounds 0 Value.none))) := (Heap.SameBut.update ..).extBut
  refine wpAny_bind (wpAny_rule (wpAny_bind (wpAny_setField ho hd (by simp) ?_)))
  generalize s.heap.update it (Obj.mapFields (·.setIfInBounds 0 Value.none)) = H1 at hc1 hs1 ⊢
  show wpAny _ _ (newExc (.type "StopIteration") [] >>= _) _ _ _
  refine wpAny_bind ?_
  simp only [newExc, newTuple]
  refine wpAny_bind (wpAny_newObj_type ?_ (by size_fits))
  refine wpAny_bind (m := firstArgMember _ _) (wpAny_of_eq (a := Value.none) (by first | rfl | (simp only [firstArgMember]; rfl)) ?_)
  refine wpAny_newObj_type ?_ (by size_fits)
  dsimp only
  generalize hob : ({ cls := Value.type "tuple", dict := none, data := _ } : Obj) = ob1
  generalize hob2 : ({ cls := Value.type "StopIteration", dict := none, data := _ } : Obj) = ob2
  have hc2 : CtxN ((H1.push ob1).push ob2) x := hc1.of fun o ho => Heap.get?_push_of_some _ (Heap.get?_push_of_some _ ho)
  have hxl : @Ne Nat x (H1.push ob1).objs.size := by
    obtain ⟨o9, _, h9, _⟩ := hc1
    exact Nat.ne_of_lt (Heap.lt_size (Heap.get?_push_of_some ob1 h9))
  have hnew : ((H1.push ob1).push ob2).get? (H1.push ob1).objs.size = some ob2 := Heap.get?_push_size _ (by rw [← hob2]; rfl)
  refine raise_chain (A := A.in1) hh hxl hc2 hnew (by rw [← hob2]) (by exact Nat.le_of_ble_eq_true rfl) ?_
  have hd2 : ob2.data = Data.fields (#[Value.ref H1.objs.size, Value.none, Value.none, Value.none, Value.bool false, Value.none] ++ ownMembersOf (Value.type "StopIteration") []) := by rw [← hob2]
  have hd3 := Obj.data_mapFields hd2 (·.setIfInBounds 2 (Value.ref x))
  refine wpAny_bind (wpAny_isInstance (T := "StopIteration") (b := true) ⟨_, Heap.get?_update_self _ hnew (Obj.isFreed_of_fields hd3), (Obj.cls_mapFields ..).trans (by rw [← hob2])⟩ isSubtype_stop ?_)
  refine wpAny_pure (hQ _ fun b o hb hbo => ?_)
  have hb1 := hs1 b o hb hbo
  have hb2 := Heap.get?_push_of_some ob2 (Heap.get?_push_of_some ob1 hb1)
  exact (Heap.get?_update_other _ _ (fun q : (H1.push ob1).objs.size = b => Nat.lt_irrefl _ (by have := Heap.lt_size (Heap.get?_push_of_some ob1 hb1); rw [← q] at this; exact this))).trans hb2
end
theorem walks_listH {prog : Program} {w : World} {A : Around} {I ax x : Addr} {its : Array Value} (hh : A.handled = some (.ref x)) (hI : @Ne Nat ax I) (hx : @Ne Nat x I) :
    Walks prog w A I (I :: [ax, x]) [I] its.size (fun i v => its[i]? = some v) (fun i h => h.IsListIter I ax i ∧ h.IsList ax its ∧ CtxN h x) where
  sub := fun b hb => by rw [List.mem_singleton.mp hb]; exact .head _
  frame := fun i h h' st k => by
    obtain ⟨⟨o, ho, r⟩, ⟨o2, ho2, r2⟩, c⟩ := st
    exact ⟨⟨o, k _ (.head _) _ ho, r⟩, ⟨o2, k _ (.tail _ (.head _)) _ ho2, r2⟩, c.of fun o3 h3 => k _ (.tail _ (.tail _ (.head _))) _ h3⟩
  item := fun i s Q E hi st hQ => by
    obtain ⟨hit, hl, c⟩ := st
    refine wpAny_pyNext_list_item hit hl (x := its[i]) (by simp [hi]) fun h' hit' hs' => ?_
    have k : ∀ b o, b ≠ I → s.heap.get? b = some o → h'.get? b = some o := hs'.extBut
    obtain ⟨o2, ho2, r2⟩ := hl
    exact hQ _ h' s.toks (by simp [hi]) ⟨hit', ⟨o2, k _ _ hI ho2, r2⟩, c.of fun o3 h3 => k _ _ hx h3⟩ fun b o hb e => k b o (fun q => hb (List.mem_singleton.mpr q)) e
  done := fun s Q E st hQ => by
    obtain ⟨hit, hl, c⟩ := st
    exact next_list_endH hh hx c hit hl (by simp) fun h' he' => hQ h' s.toks fun b o hb e => he' b o (fun q => hb (List.mem_singleton.mpr q)) e
  self := fun _ _ _ _ st hQ => wpAny_pyIter_listiter st.1 hQ
section
variable {prog : Program} {w : World} {A : Around} {E : Value → Shared → Prop} {s : Shared} {h₀ : Heap} {L x : Addr} {m : Str → Option Value} {env : Env} {news : Led}
/-- a comprehension over a list while an exception is at work -/
theorem compGoEH {elt iter : PySem.Expr} {y : Str} {px : Pos} {ifs : List PySem.Expr} {scope : Scope} {cl : List (Str × Addr)} {pos : Pos} {ax : Addr} {items : List Value} {na : Nat} {ox : Obj} {vx : Array Value} {Q : Value → Shared → Prop}
    (J : Nat → List Value → Led → Prop) (hh : A.handled = some (.ref x)) (hsz : items.length ≤ sizeLine)
    (hcell : ∀ z ∈ scope.names, z.2 ≠ .cell) (hkind : scope.kind = .function) (hx : scope.names.lookup y = some .local)
    (F : Fr h₀ L s.heap m) (N : News h₀ L s.heap news) (hox : ox.data = .fields vx) (hvx : vx[2]? = some .none)
    (hl : ∀ i ys news', J i ys news' → (ax, listOf items.toArray na) ∈ news' ∧ (x, ox) ∈ news')
    (h0 : J 0 [] news)
    (turn : ∀ i v ys news₁ h₁ tk₁ I oI C oC D m₂ (E' : Value → Shared → Prop), items[i]? = some v → J i ys news₁ → NsObj oC m₂ → m₂ y = some v → Fr h₀ L h₁ m → News h₀ L h₁ ((I, oI) :: (C, oC) :: (D, lst ys) :: news₁) →
      (∀ p ∈ news₁, p.1 ≠ I ∧ p.1 ≠ C ∧ p.1 ≠ D) → ((@Ne Nat I C) ∧ (@Ne Nat I D) ∧ (@Ne Nat C D)) →
      CTree prog w A (compEnvC scope cl C env) elt E' (CTurn h₀ L m s I oI C oC D (lst ys) (J (i + 1) ys)) (fun y => CTurn h₀ L m s I oI C oC D (lst ys) (J (i + 1) (ys ++ [y]))) ifs { s with heap := h₁, toks := tk₁ })
    (fin : ∀ D h' tk news' ys, Fr h₀ L h' m → News h₀ L h' ((D, lst ys) :: news') → (∀ p ∈ news', p.1 ≠ D) → J items.length ys news' → Q (.ref D) { s with heap := h', toks := tk }) :
    CompGo prog w A env (.ListComp elt [⟨.Name y px, iter, ifs, 0⟩] scope pos) scope cl E none Q (.ref ax) s := by
  obtain ⟨ma, mx⟩ := hl 0 [] news h0
  have hls : s.heap.IsList ax items.toArray := ⟨_, (N _ ma).1, rfl, _, rfl⟩
  have hla : ax < s.heap.objs.size := Heap.lt_size (N _ ma).1
  have hlx : x < s.heap.objs.size := Heap.lt_size (N _ mx).1
  unfold CompGo
  refine wpAny_pyIter_list hls ?_
  have up : ∀ b o, s.heap.get? b = some o → (s.heap.push { cls := .type "list_iterator", data := .fields #[.ref ax, .int 0 0] }).get? b = some o := fun b o e => Heap.get?_push_of_some _ e
  have hn : items.toArray.size = items.length := by simp
  have W := walks_listH (prog := prog) (w := w) (A := A) (I := s.heap.objs.size) (ax := ax) (x := x) (its := items.toArray) hh (Nat.ne_of_lt hla) (Nat.ne_of_lt hlx)
  rw [hn] at W
  refine comp_blockS (s := { s with heap := s.heap.push { cls := .type "list_iterator", data := .fields #[.ref ax, .int 0 0] } }) J hsz [(ax, listOf items.toArray na), (x, ox)] (fun i ys news' hJ p hp => ?_) W (fun i h st => let ⟨o, ho, _⟩ := st.1; ⟨o, ho⟩) hcell hkind hx (F.keeps up) (N.grown up) h0 ⟨⟨_, Heap.get?_push_size _ rfl, rfl, rfl⟩, ⟨_, up _ _ (N _ ma).1, rfl, _, rfl⟩, ⟨ox, vx, up _ _ (N _ mx).1, hox, hvx⟩⟩ (Nat.ne_of_lt F.ns.lt) (next_is_new F) (fun p hp => Nat.ne_of_lt (Heap.lt_size (N p hp).1))
    (fun i v ys news₁ h₁ tk₁ oI C oC D m₂ E' hv => turn i v ys news₁ h₁ tk₁ _ oI C oC D m₂ E' (by simpa using hv)) ?_
  · obtain ⟨q1, q2⟩ := hl i ys news' hJ
    simp only [List.mem_cons, List.not_mem_nil, or_false] at hp
    rcases hp with rfl | rfl
    · exact q1
    · exact q2
  · intro D C h tk m' ys news' F' N' o1 hn hC₀ hD₀ hCL hDL hCD hJ
    refine ⟨m', hn, fun h'' hs'' => fin D h'' tk news' ys (F'.change hs'' hCL hC₀) (fun p hp => ?_) (fun p hp => (o1 p hp).2) hJ⟩
    refine ⟨hs''.extBut _ _ ?_ (N' p hp).1, (N' p hp).2⟩
    rcases List.mem_cons.mp hp with rfl | hp
    · exact Ne.symm hCD
    · exact (o1 p hp).1
theorem ints_val : ∀ {vs : List Value} {ns : List Int}, IntsAre vs ns → ∀ {k : Nat} {v : Value}, vs[k]? = some v → ∃ t, v = .int ((ns[k]?).getD 0) t := by
  intro vs ns h
  induction h with
  | nil => intro k v hk; simp at hk
  | cons n t h ih =>
    intro k v hk
    cases k with
    | zero => simp at hk; subst hk; exact ⟨_, rfl⟩
    | succ k => simpa using ih (k := k) (v := v) (by simpa using hk)
theorem pre_take (ns : List Int) : ∀ k, k ≤ ns.length → preSum (fun i => (ns[i]?).getD 0) k = (ns.take k).sum
  | 0, _ => rfl
  | k + 1, h => by
    have ih := pre_take ns k (by omega)
    show preSum (fun i => (ns[i]?).getD 0) k + (ns[k]?).getD 0 = _
    rw [ih, List.take_add_one, List.getElem?_eq_getElem (by omega), List.sum_append]
    show _ + ns[k] = _ + [ns[k]].sum
    rw [List.sum_cons, List.sum_nil, Int.add_zero]
/-- sum of a list of ints while an exception is at work -/
theorem sumH {ax : Addr} {vs : List Value} {ns : List Int} {na : Nat} {ox : Obj} {vx : Array Value} {Q : Value → Shared → Prop} (hh : A.handled = some (.ref x)) (F : Fr h₀ L s.heap m) (N : News h₀ L s.heap news) (hl : (ax, listOf vs.toArray na) ∈ news) (hx : (x, ox) ∈ news) (hox : ox.data = .fields vx) (hvx : vx[2]? = some .none) (hi : IntsAre vs ns)
    (h : ∀ h' tk t', Fr h₀ L h' m → News h₀ L h' news → Q (.int ns.sum t') { s with heap := h', toks := tk }) :
    wpAny (model prog w) A (call (.builtin "sum") [.ref ax]) Q E s := by
  have hla : ax < s.heap.objs.size := Heap.lt_size (N _ hl).1
  have hlx : x < s.heap.objs.size := Heap.lt_size (N _ hx).1
  refine call_sum_walkAnyS ?_
  refine wpAny_pyIter_list (N.isList hl) ?_
  have up : ∀ b o, s.heap.get? b = some o → (s.heap.push { cls := .type "list_iterator", data := .fields #[.ref ax, .int 0 0] }).get? b = some o := fun b o e => Heap.get?_push_of_some _ e
  have W := walks_listH (prog := prog) (w := w) (A := A.in1) (I := s.heap.objs.size) (ax := ax) (x := x) (its := vs.toArray) hh (Nat.ne_of_lt hla) (Nat.ne_of_lt hlx)
  refine ⟨s.heap.objs.size, _, _, _, vs.toArray.size, _, _, fun i => (ns[i]?).getD 0, rfl, W.toS, ⟨⟨_, Heap.get?_push_size _ rfl, rfl, rfl⟩, ⟨_, up _ _ (N _ hl).1, rfl, _, rfl⟩, ⟨ox, vx, up _ _ (N _ hx).1, hox, hvx⟩⟩, fun b hb => ?_, fun i v hv => ?_, fun s' t' hm => ?_⟩
  · show b < (s.heap.push _).objs.size
    rw [Heap.size_push]
    simp only [List.mem_cons, List.not_mem_nil, or_false] at hb
    rcases hb with rfl | rfl | rfl
    · exact Nat.lt_succ_self _
    · exact Nat.lt_succ_of_lt hla
    · exact Nat.lt_succ_of_lt hlx
  · exact ints_val hi (by simpa using hv)
  · have hk : ∀ b o, s.heap.get? b = some o → s'.heap.get? b = some o := fun b o e =>
      hm.heap b o (fun hI => absurd (Heap.lt_size e) (by rw [List.mem_singleton.mp hI]; exact Nat.lt_irrefl _)) (Heap.get?_push_of_some _ e)
    have e : preSum (fun i => (ns[i]?).getD 0) vs.toArray.size = ns.sum := by
      rw [List.size_toArray, hi.length, pre_take ns _ (Nat.le_refl _), List.take_length]
    rw [e, Moved.eq_with hm]
    exact h s'.heap s'.toks t' (F.keeps hk) fun p hp => ⟨hk _ _ (N p hp).1, (N p hp).2⟩
end
end
section
theorem warm_M3 : PySem.Challenge.rw_ta0132_01.Holds → hd1.heap_1_39 = hd1.heap_1_39 := by
  k_fill
  intro _
  rfl
noncomputable def put {K V : Type} [DecidableEq K] (l : List (K × V)) (k : K) (v : V) : List (K × V) := if l.any (fun p => p.1 = k) then l.map (fun p => if p.1 = k then (p.1, v) else p) else l ++ [(k, v)]
theorem put_map {K V W : Type} [DecidableEq K] (f : V → W) (l : List (K × V)) (k : K) (v : V) : (put l k v).map (fun p => (p.1, f p.2)) = put (l.map fun p => (p.1, f p.2)) k (f v) := by
  unfold put
  have e : (l.map fun p => (p.1, f p.2)).any (fun p => decide (p.1 = k)) = l.any (fun p => decide (p.1 = k)) := by rw [List.any_map]; rfl
  rw [e]
  split
  · rw [List.map_map, List.map_map]
    refine List.map_congr_left fun p _ => ?_
    simp only [Function.comp]
    split <;> rfl
  · simp
theorem stored_put {K : Type} [DecidableEq K] (l : List (K × Value)) (k : K) (v : Value) : stored l k v = put l k v := rfl
theorem put_mem {K V : Type} [DecidableEq K] {l : List (K × V)} {k : K} {v : V} {p : K × V} (h : p ∈ put l k v) : p ∈ l ∨ p.2 = v := by
  unfold put at h
  split at h
  · obtain ⟨q, hq, rfl⟩ := List.mem_map.mp h
    split
    · exact .inr rfl
    · exact .inl hq
  · rcases List.mem_append.mp h with h | h
    · exact .inl h
    · cases List.mem_singleton.mp h; exact .inr rfl
theorem put_len {K V : Type} [DecidableEq K] {l : List (K × V)} {k : K} {v : V} : (put l k v).length ≤ l.length + 1 := by
  unfold put; split <;> simp
noncomputable def namedK (rows : List Row) : List (Int × Row) := rows.foldl (fun acc r => put acc (placeR r) r) []
theorem namedK_snoc (rows : List Row) (r : Row) : namedK (rows ++ [r]) = put (namedK rows) (placeR r) r := by
  unfold namedK; rw [List.foldl_append]; rfl
noncomputable abbrev NamI := List (Int × Ro)
noncomputable def namV (N : NamI) : List (Int × Value) := N.map fun p => (p.1, Value.ref p.2.a)
noncomputable def namR (N : NamI) : List (Int × Row) := N.map fun p => (p.1, p.2.row)
theorem namV_put (N : NamI) (k : Int) (r : Ro) : namV (put N k r) = stored (namV N) k (.ref r.a) := by
  rw [stored_put]; exact put_map (fun r : Ro => Value.ref r.a) N k r
theorem namR_put (N : NamI) (k : Int) (r : Ro) : namR (put N k r) = put (namR N) k r.row := put_map (fun r : Ro => r.row) N k r
noncomputable def mailE (Rr Ml dn : Addr) (u1 u2 u3 : Option Value) : Str → Option Value := fun y => if y = Str.ofString "value" then u3 else if y = Str.ofString "number" then u2 else if y = Str.ofString "dot" then u1 else if y = Str.ofString "named" then some (Value.ref dn) else if y = Str.ofString "mail" then some (Value.ref Ml) else List.lookup y [(Str.ofString "rows", Value.ref Rr)].reverse
noncomputable def mailJ (w : World) (Rr Ml dn : Addr) (R : List Ro) (news : Led) : Nat → (Str → Option Value) → Led → Prop := fun i m' nw =>
  ∃ ms nm o rest N u1 u2 u3, nw = (Ml, listOf (List.toArray ms) nm) :: (dn, o) :: rest ∧ (∀ p ∈ rest, p.1 ≠ Ml ∧ p.1 ≠ dn) ∧ (∀ p ∈ news, p ∈ rest) ∧ IntsAre ms (((R.take i).map fun r => rowI r.row).flatten) ∧ ms.length ≤ 7 * i ∧
    o.IsDictOf (PySem.intKind PySem.Challenge.pw_ta0132_01 w) (namV N) ∧ namR N = namedK ((R.take i).map Ro.row) ∧ N.length ≤ i ∧ (∀ p ∈ N, p.2.obj ∈ rest) ∧ m' = mailE Rr Ml dn u1 u2 u3
theorem kv03 : ∀ {a b c : Str} {r : Str → Option Value} (ha : r a = none) (hb : r b = none) (hc : r c = none), r = fun y => if y = a then none else if y = b then none else if y = c then none else r y := by
  have skon : SkOn := .mk
  intro a b c r ha hb hc
  funext y
  by_cases h1 : y = a
  · simp [h1, ha]
  · by_cases h2 : y = b
    · simp [h2, hb]
    · by_cases h3 : y = c <;> simp [h1, h2, h3, hc]
theorem news_s2 {h₀ h : Heap} {L : Addr} {a b : Addr × Obj} {l : Led} (N : News h₀ L h (a :: b :: l)) : News h₀ L h (b :: a :: l) := cb_drop N fun p hp => by
  simp only [List.mem_cons] at hp ⊢
  rcases hp with h | h | h <;> simp [h]
theorem news_r4 {h₀ h : Heap} {L : Addr} {a b c d : Addr × Obj} {l : Led} (N : News h₀ L h (a :: b :: c :: d :: l)) : News h₀ L h (b :: c :: d :: a :: l) := cb_drop N fun p hp => by
  simp only [List.mem_cons] at hp ⊢
  rcases hp with h | h | h | h | h <;> simp [h]
theorem off_r4 {I Ml dn l' : Addr} {o1 o2 o3 : Obj} {rest : Led} (h1 : @Ne Nat I Ml) (h2 : @Ne Nat I dn) (h3 : @Ne Nat I l') (h : ∀ p ∈ rest, p.1 ≠ I) : ∀ p ∈ (Ml, o1) :: (dn, o2) :: (l', o3) :: rest, p.1 ≠ I := fun p hp => by
  rcases List.mem_cons.mp hp with rfl | hp
  · exact fun e => h1 e.symm
  rcases List.mem_cons.mp hp with rfl | hp
  · exact fun e => h2 e.symm
  rcases List.mem_cons.mp hp with rfl | hp
  · exact fun e => h3 e.symm
  · exact h p hp
theorem ints_row_t {r : Ro} {t1 t2 t3 t4 t5 t6 t7 : Tok} (h : r.dot = true) : IntsAre (List.toArray [Value.int 46 t1, .int 46 t2, .int (64 * r.num + 58) t3, .int 32 t4, .int r.val t5, .int 13 t6, .int 10 t7]).toList (rowI r.row) := by
  unfold rowI Ro.row
  rw [h]
  exact .cons _ _ (.cons _ _ (.cons _ _ (.cons _ _ (.cons _ _ (.cons _ _ (.cons _ _ .nil))))))
theorem ints_row_f {r : Ro} {t3 t4 t5 t6 t7 : Tok} (h : r.dot = false) : IntsAre (List.toArray [Value.int (64 * r.num + 58) t3, .int 32 t4, .int r.val t5, .int 13 t6, .int 10 t7]).toList (rowI r.row) := by
  unfold rowI Ro.row
  rw [h]
  exact .cons _ _ (.cons _ _ (.cons _ _ (.cons _ _ (.cons _ _ .nil))))
theorem place_tt {r : Ro} (h1 : r.dot = true) (h2 : 63 < r.num) : r.num + 0 = placeR r.row := by
  unfold placeR Ro.row; simp [h1, h2]
theorem place_tf {r : Ro} (h1 : r.dot = true) (h2 : ¬ 63 < r.num) : 64 * r.num + 0 = placeR r.row := by
  unfold placeR Ro.row; simp only [h1, if_neg h2, if_true]
theorem place_ft {r : Ro} (h1 : r.dot = false) (h2 : 63 < r.num) : r.num + 4096 = placeR r.row := by
  unfold placeR Ro.row; simp [h1, h2]
theorem place_ff {r : Ro} (h1 : r.dot = false) (h2 : ¬ 63 < r.num) : 64 * r.num + 4096 = placeR r.row := by
  unfold placeR Ro.row; simp [h1, if_neg h2]
theorem ints_app : ∀ {vs : List Value} {ns : List Int}, IntsAre vs ns → ∀ {vs' : List Value} {ns' : List Int}, IntsAre vs' ns' → IntsAre (vs ++ vs') (ns ++ ns') := by
  intro vs ns h
  induction h with
  | nil => exact fun h => h
  | cons n t h ih => exact fun h' => .cons _ _ (ih h')
theorem mail_turn : ∀ {w : World} {Rr Ml dn l' : Addr} {R : List Ro} {r : Ro} {news rest : Led} {i : Nat} {ms : List Value} {xs : Array Value} {n6 : Nat} {NN : NamI} {o8 : Obj} {k : Int} {u1 u2 u3 : Option Value} (hms : IntsAre ms ((R.take i).map fun r => rowI r.row).flatten) (hml : ms.length ≤ 7 * i) (hNR : namR NN = namedK ((R.take i).map Ro.row)) (hNl : NN.length ≤ i) (hNo : ∀ p ∈ NN, p.2.obj ∈ rest) (hr1 : ∀ p ∈ rest, p.1 ≠ Ml) (hr2 : ∀ p ∈ rest, p.1 ≠ dn) (hsub : ∀ p ∈ news, p ∈ rest) (hit : R[i]? = some r) (hd8 : o8.IsDictOf (PySem.intKind PySem.Challenge.pw_ta0132_01 w) (stored (namV NN) k (.ref l'))) (hx : IntsAre xs.toList (rowI r.row)) (hk : k = placeR r.row) (h1 : @LT.lt Nat _ Ml l') (h2 : @LT.lt Nat _ dn l'), mailJ w Rr Ml dn R news (i + 1) (fun y => if y = Str.ofString "value" then some (Value.int r.val r.tv) else if y = Str.ofString "number" then some (Value.int r.num r.tn) else if y = Str.ofString "dot" then some (Value.bool r.dot) else mailE Rr Ml dn u1 u2 u3 y) ((Ml, listOf (ms.toArray ++ xs) n6) :: (dn, o8) :: (l', listOf #[.bool r.dot, .int r.num r.tn, .int r.val r.tv] 0) :: rest) := by
  have skon : SkOn := .mk
  intro w Rr Ml dn l' R r news rest i ms xs n6 NN o8 k u1 u2 u3 hms hml hNR hNl hNo hr1 hr2 hsub hit hd8 hx hk h1 h2
  refine ⟨ms ++ xs.toList, n6, o8, (l', listOf #[.bool r.dot, .int r.num r.tn, .int r.val r.tv] 0) :: rest, put NN k ⟨l', r.dot, r.num, r.tn, r.val, r.tv⟩, some (Value.bool r.dot), some (Value.int r.num r.tn), some (Value.int r.val r.tv), ?_, ?_, fun p hp => .tail _ (hsub p hp), ?_, ?_, ?_, ?_, Nat.le_trans put_len (Nat.succ_le_succ hNl), ?_, ?_⟩
  · congr 3
    apply Array.toList_inj.mp
    simp
  · intro p hp
    rcases List.mem_cons.mp hp with rfl | hp
    · exact ⟨Nat.ne_of_gt h1, Nat.ne_of_gt h2⟩
    · exact ⟨hr1 p hp, hr2 p hp⟩
  · rw [take_snoc hit, List.map_append, List.flatten_append]
    refine ints_app hms ?_
    simpa using hx
  · have h3 := hx.length
    have h4 : (rowI r.row).length ≤ 7 := by
      unfold rowI; split <;> simp
    rw [List.length_append]; omega
  · rw [namV_put]; exact hd8
  · rw [namR_put, hNR, take_snoc hit, List.map_append]
    show put _ k r.row = namedK (_ ++ [r.row])
    rw [namedK_snoc, hk]
  · intro p hp
    rcases put_mem hp with hp | hp
    · exact .tail _ (hNo p hp)
    · rw [hp]; exact .head _
  · funext y
    unfold mailE
    by_cases h1 : y = Str.ofString "value"
    · simp [h1]
    · by_cases h2 : y = Str.ofString "number"
      · simp [h2]
      · by_cases h3 : y = Str.ofString "dot" <;> simp [h1, h2, h3]
theorem ros_length (R : List Ro) : (ros R).length = R.length := by simp [ros]
theorem Array.append_toArray' {α : Type} {a : List α} {b : List α} : a.toArray ++ List.toArray b = List.toArray (a ++ b) := by simp
theorem perm_lift {α β : Type} {f : α → β} : ∀ {l' : List β} {l : List α}, l'.Perm (l.map f) → ∃ q : List α, q.Perm l ∧ q.map f = l'
  | [], l, h => by
    have : l.map f = [] := List.Perm.nil_eq h |>.symm
    exact ⟨[], by rw [List.map_eq_nil_iff.mp this], rfl⟩
  | b :: l', l, h => by
    have hb : b ∈ l.map f := h.mem_iff.mp (.head _)
    obtain ⟨x, hx, rfl⟩ := List.mem_map.mp hb
    obtain ⟨s, t, rfl⟩ := List.append_of_mem hx
    have h2 : (f x :: l').Perm (f x :: (s ++ t).map f) := h.trans (by
      rw [List.map_append, List.map_cons, List.map_append]
      exact List.perm_middle)
    obtain ⟨q, hq1, hq2⟩ := perm_lift (List.Perm.cons_inv h2)
    exact ⟨x :: q, (List.Perm.cons x hq1).trans List.perm_middle.symm, by rw [List.map_cons, hq2]⟩
theorem isdict_nodup {w : World} {o : Obj} {N : NamI} (h : o.IsDictOf (PySem.intKind PySem.Challenge.pw_ta0132_01 w) (namV N)) : (N.map (·.1)).Nodup := by
  obtain ⟨_, _, _, _, _, _, hn⟩ := h
  unfold namV at hn
  rw [List.map_map] at hn
  exact hn
theorem namedK_mem (rows : List Row) : ∀ p ∈ namedK rows, p.2 ∈ rows ∧ p.1 = placeR p.2 := by
  suffices h : ∀ (rows : List Row) (acc : List (Int × Row)) (S : List Row), (∀ p ∈ acc, p.2 ∈ S ∧ p.1 = placeR p.2) → ∀ p ∈ rows.foldl (fun acc r => put acc (placeR r) r) acc, (p.2 ∈ S ++ rows) ∧ p.1 = placeR p.2 by
    intro p hp
    have := h rows [] [] (fun _ h => nomatch h) p hp
    simpa using this
  intro rows
  induction rows with
  | nil => intro acc S h p hp; have := h p hp; simpa using this
  | cons r rows ih =>
    intro acc S h p hp
    have := ih (put acc (placeR r) r) (S ++ [r]) (fun q hq => by
      unfold put at hq
      split at hq
      · obtain ⟨q', hq', rfl⟩ := List.mem_map.mp hq
        have := h q' hq'
        split
        · rename_i e
          exact ⟨by simp, e⟩
        · exact ⟨by simp [this.1], this.2⟩
      · rcases List.mem_append.mp hq with hq | hq
        · have := h q hq
          exact ⟨by simp [this.1], this.2⟩
        · cases List.mem_singleton.mp hq
          exact ⟨by simp, rfl⟩) p hp
    rw [List.append_assoc] at this
    exact this
theorem nam_facts {N : NamI} {rows : List Row} (h : namR N = namedK rows) : ∀ p ∈ N, p.2.row ∈ rows ∧ p.1 = placeR p.2.row := fun p hp => by
  have h1 : (p.1, p.2.row) ∈ namedK rows := by rw [← h]; exact List.mem_map.mpr ⟨p, hp, rfl⟩
  exact namedK_mem rows _ h1
theorem place_at {vs : List Value} {ns : List Int} {Qs : NamI} {i : Nat} {v : Value} (hi : IntsAre vs ns) (hq : Qs.map (·.1) = ns) (hv : vs[i]? = some v) : ∃ p, Qs[i]? = some p ∧ ∃ t, v = .int p.1 t := by
  obtain ⟨t, rfl⟩ := ints_val hi hv
  have hlt : i < Qs.length := by
    have h1 := (List.getElem?_eq_some_iff.mp hv).1
    have h2 := hi.length
    rw [← hq, List.length_map] at h2
    omega
  exact ⟨Qs[i], List.getElem?_eq_getElem hlt, t, by rw [← hq]; simp [hlt]⟩
noncomputable def mailE2 (Rr Ml dn : Addr) (u0 u1 u2 u3 : Option Value) : Str → Option Value := fun y => if y = Str.ofString "place" then u0 else mailE Rr Ml dn u1 u2 u3 y
theorem kvE2 {Rr Ml dn : Addr} {u1 u2 u3 : Option Value} : (fun y => if y = Str.ofString "value" then u3 else if y = Str.ofString "number" then u2 else if y = Str.ofString "dot" then u1 else if y = Str.ofString "named" then some (Value.ref dn) else if y = Str.ofString "mail" then some (Value.ref Ml) else List.lookup y [(Str.ofString "rows", Value.ref Rr)].reverse) = mailE2 Rr Ml dn none u1 u2 u3 := by
  funext y
  unfold mailE2 mailE
  by_cases h : y = Str.ofString "place"
  · subst h; rfl
  · simp only [if_neg h]
noncomputable def mailJ2 (Rr Ml dn Pl : Addr) (vsP : List Value) (cP : Nat) (o : Obj) (rest : Led) (pre : List Int) (qs : List Row) : Nat → (Str → Option Value) → Led → Prop := fun i m' nw =>
  ∃ ms nm u0 u1 u2 u3, nw = (Ml, listOf (List.toArray ms) nm) :: (Pl, listOf (List.toArray vsP) cP) :: (dn, o) :: rest ∧ IntsAre ms (pre ++ attrsI (qs.take i)) ∧ ms.length ≤ 500 + 10 * i ∧ m' = mailE2 Rr Ml dn u0 u1 u2 u3
theorem mail_perm {Qs N : NamI} {rows : List Row} (h : Qs.Perm N) (hN : namR N = namedK rows) : (Qs.map fun p => p.2.row).Perm ((namedK rows).map (·.2)) := by
  rw [← hN, namR, List.map_map]
  exact h.map _
theorem mail_asc {Qs N : NamI} {ns : List Int} (hq : Qs.map (·.1) = ns) (h : Qs.Perm N) (hn : (N.map (·.1)).Nodup) (hpw : ns.Pairwise (· ≤ ·)) (hk : ∀ p ∈ N, p.1 = placeR p.2.row) : (Qs.map fun p => p.2.row).Pairwise (fun p q => placeR p < placeR q) := by
  have hnd : ns.Nodup := by rw [← hq]; exact (h.map _).nodup_iff.mpr hn
  have hlt : ns.Pairwise (· < ·) := by
    refine List.pairwise_iff_getElem.mpr fun i j hi hj hij => ?_
    have h1 := List.pairwise_iff_getElem.mp hpw i j hi hj hij
    have h2 := List.pairwise_iff_getElem.mp hnd i j hi hj hij
    omega
  rw [← hq, List.pairwise_map] at hlt
  rw [List.pairwise_map]
  refine hlt.imp_of_mem fun ha hb hab => ?_
  rw [← hk _ (h.mem_iff.mp ha), ← hk _ (h.mem_iff.mp hb)]
  exact hab
theorem val_nam {N : NamI} {p : Int × Ro} (hn : (N.map (·.1)).Nodup) (hp : p ∈ N) : valueAt (namV N) p.1 = some (.ref p.2.a) := by
  unfold valueAt
  obtain ⟨s, t, rfl⟩ := List.append_of_mem hp
  have hs : ∀ q ∈ s, q.1 ≠ p.1 := fun q hq e => by
    rw [List.map_append, List.map_cons, List.nodup_append] at hn
    exact hn.2.2 _ (List.mem_map.mpr ⟨q, hq, rfl⟩) _ (.head _) e
  have e1 : (namV (s ++ p :: t)).find? (fun kv => decide (kv.1 = p.1)) = some (p.1, Value.ref p.2.a) := by
    unfold namV
    rw [List.map_append, List.map_cons, List.find?_append, List.find?_eq_none.mpr (fun x hx => by
      obtain ⟨q, hq, rfl⟩ := List.mem_map.mp hx
      simpa using hs q hq)]
    simp
  rw [e1]; rfl
theorem markI_len (v : Int) : (markI v).length ≤ 4 := by
  unfold markI
  split
  · simp
  split
  · simp
  split
  · simp
  split
  · simp
  · simp
theorem min_first {ns : List Int} {Qs : NamI} {N : NamI} {i : Nat} {p : Int × Ro} {M : Int} (hq : Qs.map (·.1) = ns) (hQN : Qs.Perm N) (hn : (N.map (·.1)).Nodup) (hpw : ns.Pairwise (· ≤ ·)) (hp : Qs[i]? = some p) (hM : M ∈ (namV N).map (·.1)) (hMl : ∀ a ∈ (namV N).map (·.1), M ≤ a) : p.1 = M ↔ i = 0 := by
  have e : (namV N).map (·.1) = N.map (·.1) := by rw [namV, List.map_map]; rfl
  rw [e] at hM hMl
  have hnd : ns.Nodup := by rw [← hq]; exact (hQN.map _).nodup_iff.mpr hn
  have hmem : ∀ a, a ∈ N.map (·.1) ↔ a ∈ ns := fun a => by rw [← hq]; exact ((hQN.map _).mem_iff).symm
  have hpi : ns[i]? = some p.1 := by rw [← hq, List.getElem?_map, hp]; rfl
  obtain ⟨hilt, hie⟩ := List.getElem?_eq_some_iff.mp hpi
  have h0 : ns[0] = M := by
    have h1 : M ≤ ns[0] := hMl _ ((hmem _).mpr (List.getElem_mem _))
    obtain ⟨j, hj, hje⟩ := List.mem_iff_getElem.mp ((hmem M).mp hM)
    have h2 : ns[0] ≤ ns[j] := by
      rcases Nat.eq_zero_or_pos j with rfl | hj0
      · exact Int.le_refl _
      · exact List.pairwise_iff_getElem.mp hpw 0 j (by omega) hj hj0
    omega
  constructor
  · intro h
    rcases Nat.eq_zero_or_pos i with hi0 | hi0
    · exact hi0
    · exfalso
      refine List.pairwise_iff_getElem.mp hnd 0 i (by omega) hilt hi0 ?_
      rw [hie, h0, h]
  · rintro rfl
    rw [← hie, h0]
theorem attrsI_snoc (l : List Row) (q : Row) : attrsI (l ++ [q]) = attrsI l ++ attrI l.isEmpty q := by
  cases l with
  | nil => simp [attrsI]
  | cons a l => simp [attrsI]
theorem ints_at {r : Ro} {fs : List Value} {t1 t2 t3 t4 : Tok} (h : r.dot = true) (hf : IntsAre fs (markI r.val)) : IntsAre ((([Value.int 46 t1] ++ [Value.int (64 * r.num + 61) t2, .int 34 t3]) ++ fs) ++ [Value.int 34 t4]) (attrI true r.row) := by
  unfold attrI Ro.row
  rw [h]
  exact ints_app (ints_app (.cons _ _ (.cons _ _ (.cons _ _ .nil))) hf) (.cons _ _ .nil)
theorem ints_af {r : Ro} {fs : List Value} {t2 t3 t4 : Tok} (h : r.dot = false) (hf : IntsAre fs (markI r.val)) : IntsAre ((([] ++ [Value.int (64 * r.num + 61) t2, .int 34 t3]) ++ fs) ++ [Value.int 34 t4]) (attrI true r.row) := by
  unfold attrI Ro.row
  rw [h]
  exact ints_app (ints_app (.cons _ _ (.cons _ _ .nil)) hf) (.cons _ _ .nil)
theorem attrI_false (r : Row) : attrI false r = 32 :: attrI true r := by unfold attrI; simp
theorem mail_turn2 : ∀ {Rr Ml dn Pl : Addr} {vsP : List Value} {cP : Nat} {o : Obj} {rest : Led} {pre : List Int} {qs : List Row} {i : Nat} {ms2 xs : List Value} {r : Ro} {n8 : Nat} {k : Int} {tp : Tok} {v0 v1 v2 v3 : Option Value} (hms : IntsAre ms2 (pre ++ attrsI (qs.take i))) (hml : ms2.length ≤ 500 + 10 * i) (hq : qs[i]? = some r.row) (hx : IntsAre xs (attrI (decide (i = 0)) r.row)), mailJ2 Rr Ml dn Pl vsP cP o rest pre qs (i + 1) (fun y => if y = Str.ofString "value" then some (Value.int r.val r.tv) else if y = Str.ofString "number" then some (Value.int r.num r.tn) else if y = Str.ofString "dot" then some (Value.bool r.dot) else if y = Str.ofString "place" then some (Value.int k tp) else mailE2 Rr Ml dn v0 v1 v2 v3 y)
      ((Ml, listOf (List.toArray (ms2 ++ xs)) n8) :: (Pl, listOf (List.toArray vsP) cP) :: (dn, o) :: rest) := by
  have skon : SkOn := .mk
  intro Rr Ml dn Pl vsP cP o rest pre qs i ms2 xs r n8 k tp v0 v1 v2 v3 hms hml hq hx
  have hil := (List.getElem?_eq_some_iff.mp hq).1
  refine ⟨ms2 ++ xs, n8, some (Value.int k tp), some (Value.bool r.dot), some (Value.int r.num r.tn), some (Value.int r.val r.tv), rfl, ?_, ?_, ?_⟩
  · rw [take_snoc hq, attrsI_snoc, ← List.append_assoc]
    have e : (qs.take i).isEmpty = decide (i = 0) := by
      cases i with
      | zero => simp
      | succ i =>
        cases qs with
        | nil => simp at hil
        | cons a qs => simp
    rw [e]
    exact ints_app hms hx
  · have h1 := hx.length
    have h2 : (attrI (decide (i = 0)) r.row).length ≤ 10 := by
      unfold attrI
      have := markI_len r.row.2.2
      simp only [List.length_append, List.length_cons, List.length_nil]
      split <;> split <;> simp only [List.length_cons, List.length_nil] <;> omega
    rw [List.length_append]; omega
  · funext y
    unfold mailE2 mailE
    by_cases h1 : y = Str.ofString "value"
    · have : ¬ (Str.ofString "value" = Str.ofString "place") := by decide
      simp [h1, this]
    · by_cases h2 : y = Str.ofString "number"
      · have : ¬ (Str.ofString "number" = Str.ofString "place") := by decide
        have h3 : ¬ (Str.ofString "number" = Str.ofString "value") := by decide
        simp [h2, this, h3]
      · by_cases h3 : y = Str.ofString "dot"
        · have h4 : ¬ (Str.ofString "dot" = Str.ofString "place") := by decide
          have h5 : ¬ (Str.ofString "dot" = Str.ofString "value") := by decide
          have h6 : ¬ (Str.ofString "dot" = Str.ofString "number") := by decide
          simp [h3, h4, h5, h6]
        · by_cases h4 : y = Str.ofString "place"
          · rw [if_neg h1, if_neg h2, if_neg h3, if_pos h4, if_pos h4]
          · simp [h1, h2, h3, h4]
theorem turn2_a {Rr Ml dn Pl : Addr} {vsP : List Value} {cP : Nat} {o : Obj} {rest : Led} {pre : List Int} {qs : List Row} {i : Nat} {ms2 xs : List Value} {r : Ro} {n8 : Nat} {k : Int} {tp : Tok} {v0 v1 v2 v3 : Option Value}
    (hms : IntsAre ms2 (pre ++ attrsI (qs.take i))) (hml : ms2.length ≤ 500 + 10 * i) (hq : qs[i]? = some r.row) (h0 : i = 0) (hx : IntsAre xs (attrI true r.row)) :
    mailJ2 Rr Ml dn Pl vsP cP o rest pre qs (i + 1) (fun y => if y = Str.ofString "value" then some (Value.int r.val r.tv) else if y = Str.ofString "number" then some (Value.int r.num r.tn) else if y = Str.ofString "dot" then some (Value.bool r.dot) else if y = Str.ofString "place" then some (Value.int k tp) else mailE2 Rr Ml dn v0 v1 v2 v3 y)
      ((Ml, listOf (ms2.toArray ++ xs.toArray) n8) :: (Pl, listOf (List.toArray vsP) cP) :: (dn, o) :: rest) := by
  rw [List.append_toArray]
  exact mail_turn2 hms hml hq (by rw [decide_eq_true h0]; exact hx)
theorem turn2_b {Rr Ml dn Pl : Addr} {vsP : List Value} {cP : Nat} {o : Obj} {rest : Led} {pre : List Int} {qs : List Row} {i : Nat} {ms2 xs : List Value} {r : Ro} {n8 : Nat} {k : Int} {tp t3 : Tok} {v0 v1 v2 v3 : Option Value}
    (hms : IntsAre ms2 (pre ++ attrsI (qs.take i))) (hml : ms2.length ≤ 500 + 10 * i) (hq : qs[i]? = some r.row) (h0 : ¬ i = 0) (hx : IntsAre xs (attrI true r.row)) :
    mailJ2 Rr Ml dn Pl vsP cP o rest pre qs (i + 1) (fun y => if y = Str.ofString "value" then some (Value.int r.val r.tv) else if y = Str.ofString "number" then some (Value.int r.num r.tn) else if y = Str.ofString "dot" then some (Value.bool r.dot) else if y = Str.ofString "place" then some (Value.int k tp) else mailE2 Rr Ml dn v0 v1 v2 v3 y)
      ((Ml, listOf (ms2.toArray.push (.int 32 t3) ++ xs.toArray) n8) :: (Pl, listOf (List.toArray vsP) cP) :: (dn, o) :: rest) := by
  have e : ms2.toArray.push (.int 32 t3) ++ xs.toArray = List.toArray (ms2 ++ (.int 32 t3 :: xs)) := by simp
  rw [e]
  exact mail_turn2 hms hml hq (by rw [decide_eq_false h0, attrI_false]; exact .cons _ _ hx)
theorem off_l4 {I Ml dn Pl : Addr} {o1 o2 o3 : Obj} {rest : Led} (h1 : @Ne Nat I Ml) (h2 : @Ne Nat I Pl) (h3 : @Ne Nat I dn) (h : ∀ p ∈ rest, p.1 ≠ I) : ∀ p ∈ (Ml, o1) :: (Pl, o2) :: (dn, o3) :: rest, p.1 ≠ I := fun p hp => by
  rcases List.mem_cons.mp hp with rfl | hp
  · exact fun e => h1 e.symm
  rcases List.mem_cons.mp hp with rfl | hp
  · exact fun e => h2 e.symm
  rcases List.mem_cons.mp hp with rfl | hp
  · exact fun e => h3 e.symm
  · exact h p hp
theorem c_mail : ∀ (w : World) (Rr : Addr) (n : Nat) (R : List Ro) (news : Led) (hRr : (Rr, listOf (ros R).toArray n) ∈ news) (hR : ∀ r ∈ R, r.obj ∈ news) (hK : ∀ r ∈ R, RoOk r) (hRn : R.length ≤ 62), Con w 10 (call (.ref 394) [.ref Rr]) news (fun r news' => ∃ Ml ms nm qs, r = .ref Ml ∧ (Ml, listOf (List.toArray ms) nm) ∈ news' ∧ (∀ p ∈ news, p ∈ news') ∧ (qs.Perm ((namedK (R.map Ro.row)).map (·.2))) ∧ qs.Pairwise (fun p q => placeR p < placeR q) ∧ IntsAre ms (mailI (R.map Ro.row) qs)) := by
  k_with_none
  k_with "storeName" => (k_here; (with_reducible show wpAny _ _ (storeName (envOfC _ _ _ _ _) _ _) _ _ _); k_dflt (refine' st_cell ?k1 ?k2 ?k3 ?k4 ?k5 ?k6 ?k7 ?_; (case k1 => k_asm); (case k2 => k_asm); (case k3 => exact rfl); (case k4 => exact rfl); (case k5 => exact rfl); (case k6 => k_updF); (case k7 => k_asm); k_whole); intro _ _ _ _ _; (try dsimp only))
  k_with "setItem ref ref ref" => (k_here; k_dflt (refine' store_all ?k1 ?k2 ?k3 ?k4 ?k5 ?k6 ?k7 ?k8 ?_; (case k1 => k_asm); (case k2 => k_asm); (case k3 => exact rfl); (case k4 => k_updF); (case k5 => k_mem); (case k6 => first | (simp only [beq_eq_false_iff_ne]; (try dsimp only); (refine neN ?_); omega) | (simp only [beq_eq_false_iff_ne]; assumption)); (case k7 => assumption); (case k8 => assumption); k_whole); intro _ _ _ _; (try dsimp only))
  k_with "call builtin:list.append" => (k_here; (with_reducible show wpAny _ _ (call (Value.builtin _) [Value.ref _, _]) _ _ _); k_dflt (refine' append_K ?k1 ?k2 ?k3 ?_ ?z; (case k1 => k_asm); (case k2 => k_asm); (case k3 => k_upd); (case z => first | size_fits | exact Nat.le_trans (by with_reducible assumption) (by decide)); k_whole); intro _ _ _; (try k_sweep))
  k_with "exec Assign cons ListComp" => (k_here; k_dflt (refine' compA ?c0 ?c1 ?c2 ?c3 ?_; (case c0 => exact rfl); (case c1 => with_unfolding_all rfl); (case c2 => exact rfl); (case c3 => decide)))
  k_with "exec For" => (with_unfolding_all refine wpAny_For ?_ (by intro _; rfl))
  k_with "exec For Tuple Name cons nil" => (with_unfolding_all refine wpAny_For ?_ (by intro _; rfl))
  k_with "exec For Name Call cons nil" => (with_unfolding_all refine wpAny_For ?_ (by intro _; rfl))
  k_with "binaryOp Add ref ref" => (k_here; k_dflt (refine' add_all ?F ?N ?a0 ?b ?z ?_; (case F => k_asm); (case N => k_asm); (case a0 => k_mem); (case b => k_mem); (case z => (rw [sizeLine_eq]; simp only [List.length_append, List.length_cons, List.length_nil]; omega)); k_whole); intro _ _ _ _ l9; (try k_lt l9); (try k_sweep))
  have hold0 : HoldK "+Comp" := .mk
  have hold1 : HoldK "pyIter ref" := .mk
  have hold2 : HoldA 387 := .mk
  have hold3 : HoldK "compareOp NotEq ref ref" := .mk
  have hold4 : HoldK "setItem ref int ref" := .mk
  have hold5 : HoldK "call builtin:sorted" := .mk
  have hold6 : HoldK "call builtin:min" := .mk
  have hold7 : HoldK "subscriptTail" := .mk
  have hold8 : HoldK "call builtin:list.extend" := .mk
  have skon : SkOn := .mk
  intro w Rr n R news hRr hR hK hRn
  unfold Con
  intro mean mg mb dp un gd cn cs a ccd cl outer A₀ base h₀ L m s Q E B F X N T hk hd hu hret
  refine wpAny_call ?_
  k_dflt (refine' code_def (binds := [(Str.ofString "rows", .ref Rr)]) ?k1 ?k2 ?k3 ?k4 ?k5 ?kA ?kF ?kK ?k6 ?k7 ?k8 ?k9 ?kB ?_ ?c2 ?c3 ?c4 ?c5; (case kA => exact rfl); (case kF => exact rfl); (case kK => first | assumption | exact rfl); (case k1 => k_asm); (case k2 => k_asm); (case k3 => k_asm); (case k4 => k_asm); (case k5 => k_asm); (case k6 => k_is); (case k7 => k_is); (case k8 => k_room); (case k9 => first | exact BindsTo.of_eq rfl | exact binds_K (by k_in) rfl (by k_is) rfl rfl rfl); (case c5 => decide); (case kB => exact locs rfl); (case c2 => exact rfl); (case c3 => exact rfl); (case c4 => exact rfl); k_whole; intro g1 L1 h1 FG1 F1 N1 B1 X1 T1; (try dsimp only); (try k_lift B1); (try k_fold))
  k_steps
  refine Hold.to ?_
  rename Fr g1 L1 _ _ => F2
  rename News g1 L1 _ _ => N2
  rename (_ == sysModules) = false => lo
  rename Obj.IsDictOf (PySem.intKind _ _) _ [] => hi2
  rename _ ∧ AllLt _ news => lA
  rename ∀ p ∈ news, _ < _ => lB
  obtain ⟨Ml, dn, on, F3, N3, lo3, hi3, lA3, lB3⟩ : ∃ Ml dn on, Fr g1 L1 _ (fun y => if y = Str.ofString "named" then some (Value.ref dn) else if y = Str.ofString "mail" then some (Value.ref Ml) else List.lookup y [(Str.ofString "rows", Value.ref Rr)].reverse) ∧ News g1 L1 _ ((dn, on) :: (Ml, listOf #[] 0) :: news) ∧ (dn == sysModules) = false ∧ on.IsDictOf (PySem.intKind PySem.Challenge.pw_ta0132_01 w) [] ∧ ((@LT.lt Nat _ Ml dn) ∧ AllLt dn news) ∧ (∀ p ∈ news, @LT.lt Nat _ p.1 Ml) := ⟨_, _, _, F2, N2, lo, hi2, lA, lB⟩
  clear F2 N2 lo hi2 lA lB
  refine iterL (items := ros R) (mailJ w Rr Ml dn R news) (by rfl) (by constructor) F3 (news_s2 N3) ?hl ?h0 ?turn ?done
  case hl =>
    intro i m' nw h' hq9; obtain ⟨ms, nm, o, rest, N, u1, u2, u3, rfl, -, hsub, -⟩ := hq9; intro _ N'
    exact ⟨_, (N' _ (.tail _ (.tail _ (hsub _ hRr)))).1, rfl, _, rfl⟩
  case h0 => exact ⟨[], 0, on, news, [], none, none, none, rfl, fun p hp => ⟨Nat.ne_of_lt (lB3 p hp), allLt_ne lA3.2 p hp⟩, fun _ h => h, .nil, Nat.zero_le _, hi3, rfl, Nat.zero_le _, (fun _ h => nomatch h), kv03 rfl rfl rfl⟩
  case turn =>
    intro i v m₁ news₁ h₁ tk₁ I oi hv hq9; obtain ⟨ms, nm, o, rest, NN, u1, u2, u3, rfl, hoff, hsub, hms, hml, hio, hNR, hNl, hNo, rfl⟩ := hq9; intro hne F4 N4
    obtain ⟨r, hit, rfl⟩ : ∃ r, R[i]? = some r ∧ v = .ref r.a := by
      simp only [ros, List.getElem?_map, Option.map_eq_some_iff] at hv
      obtain ⟨it, h1, h2⟩ := hv
      exact ⟨it, h1, h2.symm⟩
    have hrm := hsub _ (hR r (List.mem_of_getElem? hit))
    unfold Ro.obj at hrm
    obtain ⟨hk0, hk1, hk2, hk3⟩ := hK r (List.mem_of_getElem? hit)
    have qI1 : @Ne Nat I Ml := fun e => hne _ (.head _) e.symm
    have qI2 : @Ne Nat I dn := fun e => hne _ (.tail _ (.head _)) e.symm
    have qr0 : ∀ p ∈ rest, p.1 ≠ I := fun p hp => hne p (.tail _ (.tail _ hp))
    have qr1 : ∀ p ∈ rest, p.1 ≠ Ml := fun p hp => (hoff p hp).1
    have qr2 : ∀ p ∈ rest, p.1 ≠ dn := fun p hp => (hoff p hp).2
    have hiR : i < R.length := (List.getElem?_eq_some_iff.mp hit).1
    clear F3 N3
    delta mailE at F4
    k_steps
    all_goals
      refine Hold.to ?_
      rename Fr g1 _ _ _ => F5
      rename News g1 _ _ _ => N5
      refine extend_K F5 N5 (.head _) (by k_updF) (by rw [sizeLine_eq, List.size_toArray]; (try simp only [List.size_toArray, List.length_append, List.length_cons, List.length_nil]); have hml' : ms.length ≤ 7 * i := hml; omega) ?_
      intro h6 n6 F6 N6
      clear F5 N5
      replace N6 := news_tail (news_tail (news_tail N6))
      (try dsimp only); (try k_fold)
      k_steps
      all_goals
        refine Hold.to ?_
        rename Fr g1 _ _ _ => F7
        rename News g1 _ _ _ => N7
        refine kda_set (knd := PySem.intKind _ _) F7 N7 (by k_updF) hio (PySem.intKind_is _ _ _ _) (by rw [namV, List.length_map, sizeLine_eq]; omega) ?_
        intro h8 o8 F8 N8 hd8
        clear F7 N7
        (try dsimp only); (try k_fold)
        k_steps
        dsimp only [TurnJ]
        rename _ ∧ _ ∧ _ ∧ AllLt _ rest => lz
        rename Fr g1 _ _ _ => F9
        rename News g1 _ _ _ => N9
        refine' ⟨_, _, _, _, rfl, F9, news_r4 N9, ?OO, mail_turn (r := r) hms hml hNR hNl hNo qr1 qr2 hsub hit hd8 ?xx ?pl lz.2.1 lz.2.2.1⟩
        case OO => exact off_r4 qI1 qI2 (Nat.ne_of_lt lz.1) qr0
        case xx => first | exact ints_row_t (by assumption) | exact ints_row_f (by assumption)
        case pl => first | exact place_tt (by assumption) (by assumption) | exact place_tf (by assumption) (by assumption) | exact place_ft (by assumption) (by assumption) | exact place_ff (by assumption) (by assumption)
  case done =>
    intro m' nw h' tk' hq9; obtain ⟨ms, nm, o, rest, NN, u1, u2, u3, rfl, hoff, hsub, hms, hml, hio, hNR, hNl, hNo, rfl⟩ := hq9; intro F4 N4
    rw [ros_length, List.take_length] at hms hNR
    rw [ros_length] at hml hNl
    have qr1 : ∀ p ∈ rest, p.1 ≠ Ml := fun p hp => (hoff p hp).1
    have qr2 : ∀ p ∈ rest, p.1 ≠ dn := fun p hp => (hoff p hp).2
    have hRr' := hsub _ hRr
    have hR' : ∀ r ∈ R, r.obj ∈ rest := fun r hr => hsub _ (hR r hr)
    delta mailE at F4
    clear F3 N3 hi3
    k_steps
    refine Hold.to ?_
    rename Fr g1 _ _ _ => F5
    rename News g1 _ _ _ => N5
    refine ne_rows N5 (by k_mem) (fun q hq => .tail _ (.tail _ (.tail _ (hR' q hq)))) (.head _) (by ktr_units) ?_
    cases hRe : R.isEmpty
    case false =>
      (try dsimp only [Bool.not_true, Bool.not_false]); (try k_fold)
      k_steps
      refine Hold.to ?_
      rename Fr g1 _ _ _ => F6
      rename News g1 _ _ _ => N6
      refine extend_K F6 N6 (.head _) (by k_updF) (by rw [sizeLine_eq, List.size_toArray]; (try simp only [List.size_toArray, List.length_append, List.length_cons, List.length_nil]); have hml' : ms.length ≤ 7 * R.length := hml; omega) ?_
      intro h7 n7 F7 N7
      (try clear F5); (try clear N5); clear F6 N6
      replace N7 := news_tail (news_tail N7)
      (try dsimp only); (try k_fold)
      k_steps
      refine Hold.to ?_
      refine sorted_dictI (by rfl) F7 N7 (by k_mem) hio lo3 (by rw [namV, List.length_map]; omega) ?_
      intro Pl vs' ns' cP h8 tk8 F8 N8 l8 hns hperm hpw
      clear F7 N7
      have l81 : @LT.lt Nat _ Ml Pl := l8 _ (.head _)
      have l82 : @LT.lt Nat _ dn Pl := l8 _ (.tail _ (.head _))
      have l83 : ∀ p ∈ rest, p.1 ≠ Pl := fun p hp => Nat.ne_of_lt (l8 p (.tail _ (.tail _ hp)))
      replace N8 := news_s2 N8
      rw [Array.append_toArray'] at N8
      have hperm' : ns'.Perm (NN.map (·.1)) := by
        have e : (namV NN).map (·.1) = NN.map (·.1) := by rw [namV, List.map_map]; rfl
        rw [e] at hperm; exact hperm
      obtain ⟨Qs, hQp, hQk⟩ := perm_lift hperm'
      have hnd := isdict_nodup hio
      have hnk : ∀ p ∈ NN, p.2.row ∈ R.map Ro.row ∧ p.1 = placeR p.2.row := nam_facts hNR
      (try dsimp only); (try k_fold)
      k_steps
      refine Hold.to ?_
      refine iterL (items := vs') (mailJ2 Rr Ml dn Pl vs' cP o rest (((R.map Ro.row).map rowI).flatten ++ [13, 10, 60, 2912]) (Qs.map fun p => p.2.row)) (by rfl) (by constructor) F8 N8 ?hl2 ?h02 ?turn2 ?done2
      case hl2 =>
        intro i m' nw h' hq9; obtain ⟨ms2, nm2, v0, v1, v2, v3, rfl, -⟩ := hq9; intro _ N'
        exact ⟨_, (N' _ (.tail _ (.head _))).1, rfl, _, rfl⟩
      case h02 =>
        refine (exI2 ⟨none, u1, u2, u3, rfl, ?_, ?_, ?_⟩)
        · rw [List.take_zero]
          show IntsAre _ (_ ++ [])
          rw [List.append_nil, List.map_map]
          exact ints_app hms (.cons _ _ (.cons _ _ (.cons _ _ (.cons _ _ .nil))))
        · rw [List.length_append]
          have hml' : ms.length ≤ 7 * R.length := hml
          simp only [List.length_cons, List.length_nil]
          omega
        · exact kvE2
      case turn2 =>
        intro i v m₁ news₁ h₁ tk₁ I oi hv hq9; obtain ⟨ms2, nm2, v0, v1, v2, v3, rfl, hms2, hml2, rfl⟩ := hq9; intro hne F9 N9
        obtain ⟨p, hp, tp, rfl⟩ := place_at hns hQk hv
        have hpN := hQp.mem_iff.mp (List.mem_of_getElem? hp)
        (try clear F4); (try clear N4); (try clear F8); (try clear N8)
        have hval := val_nam hnd hpN
        have hob := hNo p hpN
        unfold Ro.obj at hob
        obtain ⟨r0, hr0, hr0e⟩ := List.mem_map.mp (hnk p hpN).1
        obtain ⟨hk0, hk1, hk2, hk3⟩ := hK r0 hr0
        have hv0 : 0 ≤ p.2.val := by have : r0.val = p.2.val := congrArg (fun z : Row => z.2.2) hr0e; omega
        have hv1 : p.2.val < 4096 := by have : r0.val = p.2.val := congrArg (fun z : Row => z.2.2) hr0e; omega
        have hmi := markI_len p.2.val
        have qI1 : @Ne Nat I Ml := fun e => hne _ (.head _) e.symm
        have qI2 : @Ne Nat I Pl := fun e => hne _ (.tail _ (.head _)) e.symm
        have qI3 : @Ne Nat I dn := fun e => hne _ (.tail _ (.tail _ (.head _))) e.symm
        have qr0 : ∀ p ∈ rest, p.1 ≠ I := fun p hp => hne p (.tail _ (.tail _ (.tail _ hp)))
        have hil : i < 62 := by
          have h1 := (List.getElem?_eq_some_iff.mp hp).1
          have h2 := hQp.length_eq
          have h3 : NN.length ≤ R.length := hNl
          omega
        delta mailE2 mailE at F9
        k_steps
        refine Hold.to ?_
        rename Fr g1 _ _ _ => F5
        rename News g1 _ _ _ => N5
        refine kda_item N5 (by k_mem) hio (PySem.intKind_is _ _ _ _) hval ?_
        (try dsimp only); (try k_fold)
        k_steps
        refine Hold.to ?_
        rename Fr g1 _ _ _ => F6
        rename News g1 _ _ _ => N6
        refine min_dictI (by rfl) F6 N6 (by k_mem) hio lo3 (by rw [namV, List.length_map]; exact List.length_pos_of_mem hpN) ?_
        intro h7 M tM tk7 F7 N7 hM hMl
        have hmin := min_first hQk hQp hnd hpw hp hM hMl
        clear F6 N6
        (try dsimp only); (try k_fold)
        k_steps
        all_goals
          refine Hold.to ?_; k_dflt (refine' c_marked _ _ _ _ ?p1 ?p2 _ _ _ _ _ _ _ _ _ _ _ _ _ _ _ _ _ _ _ _ ?k1 ?k2 ?k3 ?k4 ?k5 ?kK ?kd ?ku ?_; (case k1 => k_asm); (case k2 => k_asm); (case k3 => k_asm); (case k4 => k_asm); (case k5 => k_asm); (case kK => first | exact rfl | assumption); (case kd => k_room); (case ku => k_units); (case p1 => exact hv0); (case p2 => exact hv1); intro r9 n9 h9 tk9 F9 N9 H9)
          obtain ⟨l9, fs9, n9', rfl, rfl, hl9, hI9⟩ := H9
          have hfl : fs9.length ≤ 4 := by rw [hI9.length]; exact hmi
          k_lt hl9
          (try dsimp only); (try k_fold)
          k_steps
          refine Hold.to ?_
          rename Fr g1 _ _ _ => F6
          rename News g1 _ _ _ => N6
          refine extend_K F6 N6 (.head _) (by k_updF) ?zz ?_
          case zz =>
            rw [sizeLine_eq]
            simp only [Array.size_push, List.size_toArray, List.length_append, List.length_cons, List.length_nil]
            have hml2' : ms2.length ≤ 500 + 10 * i := hml2
            omega
          intro h8 n8 F8 N8
          clear F6 N6
          (try dsimp only); (try k_fold)
          k_steps
          dsimp only [TurnJ]
          rename Fr g1 _ _ _ => F9'
          rename News g1 _ _ _ => N9'
          replace N9' := news_tail (news_tail (news_tail (news_tail (news_tail (news_tail (news_tail N9'))))))
          refine' ⟨_, _, _, _, rfl, F9', N9', off_l4 qI1 qI2 qI3 qr0, ?J⟩
          case J =>
            have hq0 : (Qs.map fun p => p.2.row)[i]? = some p.2.row := by rw [List.getElem?_map, hp]; rfl
            first
              | exact turn2_a hms2 hml2 hq0 (hmin.mp (by assumption)) (ints_at (by assumption) hI9)
              | exact turn2_a hms2 hml2 hq0 (hmin.mp (by assumption)) (ints_af (by assumption) hI9)
              | exact turn2_b hms2 hml2 hq0 (fun e => absurd (hmin.mpr e) (by assumption)) (ints_at (by assumption) hI9)
              | exact turn2_b hms2 hml2 hq0 (fun e => absurd (hmin.mpr e) (by assumption)) (ints_af (by assumption) hI9)
      case done2 =>
        intro m' nw h' tk' hq9; obtain ⟨ms2, nm2, v0, v1, v2, v3, rfl, hms2, hml2, rfl⟩ := hq9; intro F9 N9
        (try clear F4); (try clear N4); (try clear F8); (try clear N8)
        have hvl : vs'.length = (Qs.map fun p => p.2.row).length := by
          have h1 := hns.length
          rw [← hQk, List.length_map] at h1
          rw [List.length_map]; exact h1
        rw [hvl, List.take_length] at hms2
        have hvz : vs'.length ≤ 62 := by
          have h1 := hns.length
          have h2 := hperm'.length_eq
          rw [List.length_map] at h2
          have h3 : NN.length ≤ R.length := hNl
          omega
        delta mailE2 mailE at F9
        k_steps
        refine Hold.to ?_
        rename Fr g1 _ _ _ => FA
        rename News g1 _ _ _ => NA
        refine ne_rows NA (by k_mem) (fun q hq => .tail _ (.tail _ (.tail _ (.tail _ (hR' q hq))))) (.head _) (by ktr_units) ?_
        rw [hRe]
        (try dsimp only [Bool.not_true, Bool.not_false]); (try k_fold)
        k_steps
        rename Fr g1 _ _ _ => FB
        rename News g1 _ _ _ => NB
        rw [List.push_toArray] at NB
        refine add_all FB NB (vs := ms2 ++ [_]) (.tail _ (.tail _ (.head _))) (.head _) (by rw [sizeLine_eq, List.length_append]; simp only [List.length_cons, List.length_nil]; have hml2' : ms2.length ≤ 500 + 10 * vs'.length := hml2; omega) ?_
        intro D9 h9 FC NC lC
        (try clear FA); (try clear NA); clear FB NB
        (try dsimp only); (try k_fold)
        k_steps
        rename News h₀ L _ _ => ND
        have hRne : ¬ R.map Ro.row = [] := fun e => by
          have := List.map_eq_nil_iff.mp e
          rw [this] at hRe; cases hRe
        refine hret _ _ _ _ (by assumption) ND (exI3 ⟨Qs.map fun p => p.2.row, rfl, .head _, fun p hp => .tail _ (.tail _ (.tail _ (.tail _ (.tail _ (.tail _ (hsub p hp)))))), mail_perm hQp hNR, mail_asc hQk hQp hnd hpw fun p hp => (hnk p hp).2, ?_⟩)
        unfold mailI
        rw [if_neg hRne, if_neg hRne]
        exact ints_app (ints_app hms2 (.cons _ _ .nil)) (.cons _ _ (.cons _ _ (.cons _ _ .nil)))
    case true =>
      (try dsimp only [Bool.not_true, Bool.not_false]); (try k_fold)
      k_steps
      refine Hold.to ?_
      rename Fr g1 _ _ _ => F6
      rename News g1 _ _ _ => N6
      refine extend_K F6 N6 (.head _) (by k_updF) (by rw [sizeLine_eq, List.size_toArray]; (try simp only [List.size_toArray, List.length_append, List.length_cons, List.length_nil]); have hml' : ms.length ≤ 7 * R.length := hml; omega) ?_
      intro h7 n7 F7 N7
      (try clear F5); (try clear N5); clear F6 N6
      replace N7 := news_tail (news_tail N7)
      (try dsimp only); (try k_fold)
      k_steps
      refine Hold.to ?_
      refine sorted_dictI (by rfl) F7 N7 (by k_mem) hio lo3 (by rw [namV, List.length_map]; omega) ?_
      intro Pl vs' ns' cP h8 tk8 F8 N8 l8 hns hperm hpw
      clear F7 N7
      have l81 : @LT.lt Nat _ Ml Pl := l8 _ (.head _)
      have l82 : @LT.lt Nat _ dn Pl := l8 _ (.tail _ (.head _))
      have l83 : ∀ p ∈ rest, p.1 ≠ Pl := fun p hp => Nat.ne_of_lt (l8 p (.tail _ (.tail _ hp)))
      replace N8 := news_s2 N8
      rw [Array.append_toArray'] at N8
      have hperm' : ns'.Perm (NN.map (·.1)) := by
        have e : (namV NN).map (·.1) = NN.map (·.1) := by rw [namV, List.map_map]; rfl
        rw [e] at hperm; exact hperm
      obtain ⟨Qs, hQp, hQk⟩ := perm_lift hperm'
      have hnd := isdict_nodup hio
      have hnk : ∀ p ∈ NN, p.2.row ∈ R.map Ro.row ∧ p.1 = placeR p.2.row := nam_facts hNR
      (try dsimp only); (try k_fold)
      k_steps
      refine Hold.to ?_
      refine iterL (items := vs') (mailJ2 Rr Ml dn Pl vs' cP o rest (((R.map Ro.row).map rowI).flatten ++ [13, 10, 60, 2942]) (Qs.map fun p => p.2.row)) (by rfl) (by constructor) F8 N8 ?hl2 ?h02 ?turn2 ?done2
      case hl2 =>
        intro i m' nw h' hq9; obtain ⟨ms2, nm2, v0, v1, v2, v3, rfl, -⟩ := hq9; intro _ N'
        exact ⟨_, (N' _ (.tail _ (.head _))).1, rfl, _, rfl⟩
      case h02 =>
        refine (exI2 ⟨none, u1, u2, u3, rfl, ?_, ?_, ?_⟩)
        · rw [List.take_zero]
          show IntsAre _ (_ ++ [])
          rw [List.append_nil, List.map_map]
          exact ints_app hms (.cons _ _ (.cons _ _ (.cons _ _ (.cons _ _ .nil))))
        · rw [List.length_append]
          have hml' : ms.length ≤ 7 * R.length := hml
          simp only [List.length_cons, List.length_nil]
          omega
        · exact kvE2
      case turn2 =>
        intro i v m₁ news₁ h₁ tk₁ I oi hv
        exfalso
        have hR0 : R = [] := List.isEmpty_iff.mp hRe
        subst hR0
        obtain ⟨p, hp, tp, rfl⟩ := place_at hns hQk hv
        have hpN := hQp.mem_iff.mp (List.mem_of_getElem? hp)
        have := (hnk p hpN).1
        cases this
      case done2 =>
        intro m' nw h' tk' hq9; obtain ⟨ms2, nm2, v0, v1, v2, v3, rfl, hms2, hml2, rfl⟩ := hq9; intro F9 N9
        (try clear F4); (try clear N4); (try clear F8); (try clear N8)
        have hvl : vs'.length = (Qs.map fun p => p.2.row).length := by
          have h1 := hns.length
          rw [← hQk, List.length_map] at h1
          rw [List.length_map]; exact h1
        rw [hvl, List.take_length] at hms2
        have hvz : vs'.length ≤ 62 := by
          have h1 := hns.length
          have h2 := hperm'.length_eq
          rw [List.length_map] at h2
          have h3 : NN.length ≤ R.length := hNl
          omega
        delta mailE2 mailE at F9
        k_steps
        refine Hold.to ?_
        rename Fr g1 _ _ _ => FA
        rename News g1 _ _ _ => NA
        refine ne_rows NA (by k_mem) (fun q hq => .tail _ (.tail _ (.tail _ (.tail _ (hR' q hq))))) (.head _) (by ktr_units) ?_
        rw [hRe]
        (try dsimp only [Bool.not_true, Bool.not_false]); (try k_fold)
        k_steps
        rename News h₀ L _ _ => ND
        have hRe0 : R.map Ro.row = [] := by rw [List.isEmpty_iff.mp hRe]; rfl
        refine hret _ _ _ _ (by assumption) ND ⟨_, ms2 ++ [_, _, _], 0, Qs.map fun p => p.2.row, rfl, .head _, fun p hp => .tail _ (.tail _ (.tail _ (.tail _ (.tail _ (.tail _ (hsub p hp)))))), mail_perm hQp hNR, mail_asc hQk hQp hnd hpw fun p hp => (hnk p hp).2, ?_⟩
        unfold mailI
        rw [if_pos hRe0, if_pos hRe0, List.append_nil]
        exact ints_app hms2 (.cons _ _ (.cons _ _ (.cons _ _ .nil)))
end
section
/-- the rows of one key once, the last -/
noncomputable def dd (rs : List Rec) : List (Str × Rec) := rs.foldl (fun acc r => put acc (keyS r) r) []
noncomputable def strV : Value → Str
  | .str v _ => v
  | _ => ⟨#[]⟩
theorem put_congr {K K' V W : Type} [DecidableEq K] [DecidableEq K'] {k : K} {k' : K'} {v : V} {u : W} {f : V → W} : ∀ {l : List (K × V)} {l' : List (K' × W)}, l.map (fun p => f p.2) = l'.map (·.2) → (∀ (i : Nat) (p : K × V) (q : K' × W), l[i]? = some p → l'[i]? = some q → (p.1 = k ↔ q.1 = k')) → f v = u →
    (put l k v).map (fun p => f p.2) = (put l' k' u).map (·.2) := by
  intro l l' h hk hv
  have hany : l.any (fun p => decide (p.1 = k)) = l'.any (fun p => decide (p.1 = k')) := by
    clear hv
    induction l generalizing l' with
    | nil => cases l' with
      | nil => rfl
      | cons b l' => simp at h
    | cons a l ih => cases l' with
      | nil => simp at h
      | cons b l' =>
        simp only [List.map_cons, List.cons.injEq] at h
        have e := hk 0 a b rfl rfl
        have ih' := ih h.2 fun i p q hp hq => hk (i + 1) p q (by simpa using hp) (by simpa using hq)
        simp only [List.any_cons, ih']
        by_cases hc : a.1 = k
        · simp [hc, e.mp hc]
        · have : ¬ b.1 = k' := fun h => hc (e.mpr h)
          simp [hc, this]
  unfold put
  rw [hany]
  split
  · rename_i hh; clear hh hany
    induction l generalizing l' with
    | nil => cases l' with
      | nil => rfl
      | cons b l' => simp at h
    | cons a l ih => cases l' with
      | nil => simp at h
      | cons b l' =>
        simp only [List.map_cons, List.cons.injEq] at h
        have e := hk 0 a b rfl rfl
        have ih' := ih h.2 fun i p q hp hq => hk (i + 1) p q (by simpa using hp) (by simpa using hq)
        simp only [List.map_cons, List.cons.injEq]
        refine ⟨?_, ih'⟩
        by_cases hc : a.1 = k
        · rw [if_pos hc, if_pos (e.mp hc)]; exact hv
        · rw [if_neg hc, if_neg fun h => hc (e.mpr h)]; exact h.1
  · rw [List.map_append, List.map_append, h]
    simp [hv]
theorem put_keys {K V : Type} [DecidableEq K] {g : V → K} {l : List (K × V)} {v : V} (h : ∀ p ∈ l, p.1 = g p.2) : ∀ p ∈ put l (g v) v, p.1 = g p.2 := fun p hp => by
  unfold put at hp
  split at hp
  · obtain ⟨q, hq, rfl⟩ := List.mem_map.mp hp
    split
    · assumption
    · exact h q hq
  · rcases List.mem_append.mp hp with hp | hp
    · exact h p hp
    · cases List.mem_singleton.mp hp; rfl
theorem dd_snoc (rs : List Rec) (r : Rec) : dd (rs ++ [r]) = put (dd rs) (keyS r) r := by
  unfold dd; rw [List.foldl_append]; rfl
theorem dd_facts : ∀ (n : Nat) (rs : List Rec), rs.length = n → (∀ p ∈ dd rs, p.1 = keyS p.2) ∧ (∀ p ∈ dd rs, p.2 ∈ rs)
  | 0, rs, h => by
    rw [List.eq_nil_of_length_eq_zero h]
    exact ⟨fun _ h => (nomatch h), fun _ h => (nomatch h)⟩
  | n + 1, rs, h => by
    have hne : rs ≠ [] := fun e => by rw [e] at h; cases h
    obtain ⟨l, r, rfl⟩ : ∃ l r, rs = l ++ [r] := ⟨rs.dropLast, rs.getLast hne, (List.dropLast_concat_getLast hne).symm⟩
    obtain ⟨i1, i2⟩ := dd_facts n l (by simpa using h)
    rw [dd_snoc]
    refine ⟨put_keys i1, fun p hp => ?_⟩
    rcases put_mem hp with hp | hp
    · exact List.mem_append_left _ (i2 p hp)
    · rw [hp]; simp
theorem key_mk {r s : Rec} : keyS r = keyS s ↔ r.key = s.key := mk_inj
/-- by place as by key -/
theorem dd_place : ∀ (n : Nat) (rs : List Rec), rs.length = n → (∀ r ∈ rs, Rok r) → (dd rs).map (fun p => p.2.row) = (namedK (rs.map Rec.row)).map (·.2)
  | 0, rs, h, _ => by rw [List.eq_nil_of_length_eq_zero h]; rfl
  | n + 1, rs, h, hok => by
    have hne : rs ≠ [] := fun e => by rw [e] at h; cases h
    obtain ⟨l, r, rfl⟩ : ∃ l r, rs = l ++ [r] := ⟨rs.dropLast, rs.getLast hne, (List.dropLast_concat_getLast hne).symm⟩
    have hl : l.length = n := by simpa using h
    have ih := dd_place n l hl fun x hx => hok x (List.mem_append_left _ hx)
    rw [dd_snoc, List.map_append]
    show _ = (namedK (l.map Rec.row ++ [r.row])).map (·.2)
    rw [namedK_snoc]
    refine put_congr (f := fun r : Rec => r.row) ih (fun i p q hp hq => ?_) rfl
    have hpm := List.mem_of_getElem? hp
    have hqm := List.mem_of_getElem? hq
    have h1 := (dd_facts n l hl).1 p hpm
    have h2 := (dd_facts n l hl).2 p hpm
    have h3 := (namedK_mem _ q hqm).2
    have h4 : p.2.row = q.2 := by
      have := congrArg (fun z : List Row => z[i]?) ih
      simpa [List.getElem?_map, hp, hq] using this
    rw [h1, h3, ← h4, key_mk]
    exact key_inj (hok _ (List.mem_append_left _ h2)).ok (hok r (by simp)).ok
theorem dd_items : ∀ (n : Nat) (rs : List Rec) (I : List It), rs.length = n → I.map It.pair = rs.map Rec.pair → (kvsOf I).map (fun p => p.1) = (dd rs).map (fun p => p.1) ∧ (kvsOf I).map (fun p => strV p.2) = (dd rs).map (fun p => valS p.2)
  | 0, rs, I, h, hI => by
    rw [List.eq_nil_of_length_eq_zero h] at hI ⊢
    have : I = [] := by simpa using hI
    rw [this]; exact ⟨rfl, rfl⟩
  | n + 1, rs, I, h, hI => by
    have hne : rs ≠ [] := fun e => by rw [e] at h; cases h
    obtain ⟨l, r, rfl⟩ : ∃ l r, rs = l ++ [r] := ⟨rs.dropLast, rs.getLast hne, (List.dropLast_concat_getLast hne).symm⟩
    have hl : l.length = n := by simpa using h
    have hIne : I ≠ [] := fun e => by rw [e] at hI; simp at hI
    obtain ⟨J, i, rfl⟩ : ∃ J i, I = J ++ [i] := ⟨I.dropLast, I.getLast hIne, (List.dropLast_concat_getLast hIne).symm⟩
    rw [List.map_append, List.map_append] at hI
    obtain ⟨hJ, hi⟩ := List.append_inj' hI rfl
    have hi' : i.pair = r.pair := by simpa using hi
    have hk : i.k = keyS r := congrArg Prod.fst hi'
    have hv : i.v = valS r := congrArg Prod.snd hi'
    obtain ⟨h1, h2⟩ := dd_items n l J hl hJ
    rw [kvsOf_snoc, dd_snoc, stored_put, hk]
    have hkk : ∀ (j : Nat) (p : Str × Value) (q : Str × Rec), (kvsOf J)[j]? = some p → (dd l)[j]? = some q → (p.1 = keyS r ↔ q.1 = keyS r) := fun j p q hp hq => by
      have := congrArg (fun z : List Str => z[j]?) h1
      have e : p.1 = q.1 := by simpa [List.getElem?_map, hp, hq] using this
      rw [e]
    constructor
    · -- keys
      have hany : (kvsOf J).any (fun p => decide (p.1 = keyS r)) = (dd l).any (fun p => decide (p.1 = keyS r)) := by
        have e1 : (kvsOf J).any (fun p => decide (p.1 = keyS r)) = ((kvsOf J).map (fun p => p.1)).any (fun k => decide (k = keyS r)) := by rw [List.any_map]; rfl
        have e2 : (dd l).any (fun p => decide (p.1 = keyS r)) = ((dd l).map (fun p => p.1)).any (fun k => decide (k = keyS r)) := by rw [List.any_map]; rfl
        rw [e1, e2, h1]
      have same : ∀ {V : Type} (l : List (Str × V)) (v : V), (l.map fun p => if p.1 = keyS r then (p.1, v) else p).map (fun p => p.1) = l.map (fun p => p.1) := fun l v => by
        rw [List.map_map]
        refine List.map_congr_left fun p _ => ?_
        simp only [Function.comp]
        split <;> rfl
      unfold put
      rw [hany]
      split
      · rw [same, same, h1]
      · rw [List.map_append, List.map_append, h1]; rfl
    · have e3 : (put (dd l) (keyS r) r).map (fun p => valS p.2) = (put ((dd l).map fun p => (p.1, valS p.2)) (keyS r) (valS r)).map (·.2) := by
        rw [← put_map valS, List.map_map]; rfl
      rw [e3]
      refine put_congr (f := strV) ?_ (fun j p q hp hq => ?_) (by rw [hv]; rfl)
      · rw [h2, List.map_map]; rfl
      · obtain ⟨q', hq', rfl⟩ : ∃ q', (dd l)[j]? = some q' ∧ q = (q'.1, valS q'.2) := by
          rw [List.getElem?_map] at hq
          cases h9 : (dd l)[j]? with
          | none => rw [h9] at hq; cases hq
          | some q' => rw [h9] at hq; exact ⟨q', rfl, by simpa using hq.symm⟩
        exact hkk j p q' hp hq'
theorem tag_recs {rs : List Rec} {I Is : List It} (hok : ∀ r ∈ rs, Rok r) (hI : I.map It.pair = rs.map Rec.pair) (hp : (Is.map It.kv).Perm (kvsOf I)) (hs : (Is.map It.kv).Pairwise (fun i j => i.1.cps.toList < j.1.cps.toList)) :
    ∃ ss : List Rec, (∀ r ∈ ss, r ∈ rs) ∧ ss.Perm ((dd rs).map (·.2)) ∧ Is.map It.pair = ss.map Rec.pair ∧ ss.Pairwise (fun r s => placeR r.row < placeR s.row) := by
  obtain ⟨d1, d2⟩ := dd_facts _ rs rfl
  obtain ⟨k1, k2⟩ := dd_items _ rs I rfl hI
  have hkv : (kvsOf I).map (fun p => (p.1, strV p.2)) = ((dd rs).map (·.2)).map Rec.pair := by
    have e1 : (kvsOf I).map (fun p => (p.1, strV p.2)) = ((kvsOf I).map (fun p => p.1)).zip ((kvsOf I).map (fun p => strV p.2)) := by rw [List.zip_map', ]
    have e2 : ((dd rs).map (·.2)).map Rec.pair = ((dd rs).map (fun p => p.1)).zip ((dd rs).map (fun p => valS p.2)) := by
      rw [List.zip_map', List.map_map]
      refine List.map_congr_left fun p hp => ?_
      simp only [Function.comp, Rec.pair, d1 p hp]
    rw [e1, e2, k1, k2]
  have hp2 : (Is.map It.pair).Perm (((dd rs).map (·.2)).map Rec.pair) := by
    rw [← hkv]
    have := hp.map fun p : Str × Value => (p.1, strV p.2)
    rw [List.map_map] at this
    exact this
  obtain ⟨ss, hss, hse⟩ := perm_lift hp2
  have hmem : ∀ r ∈ ss, r ∈ rs := fun r hr => by
    obtain ⟨p, hp, rfl⟩ := List.mem_map.mp (hss.mem_iff.mp hr)
    exact d2 p hp
  refine ⟨ss, hmem, hss, hse.symm, ?_⟩
  have h1 : (ss.map Rec.pair).Pairwise (fun i j => i.1.cps.toList < j.1.cps.toList) := by
    rw [hse, List.pairwise_map]
    rw [List.pairwise_map] at hs
    exact hs
  rw [List.pairwise_map] at h1
  refine h1.imp_of_mem fun {a b} ha hb hab => ?_
  refine (key_lt (hok a (hmem a ha)).ok (hok b (hmem b hb)).ok).mp ?_
  simpa [Rec.pair, keyS, mk] using hab
/-- the mail's places are the tag's rows in the same order -/
theorem place_recs {rs ss : List Rec} {qs : List Row} (hok : ∀ r ∈ rs, Rok r) (hss : ss.Perm ((dd rs).map (·.2))) (hs2 : ss.Pairwise (fun r s => placeR r.row < placeR s.row))
    (hq : qs.Perm ((namedK (rs.map Rec.row)).map (·.2))) (hqs : qs.Pairwise (fun p q => placeR p < placeR q)) : qs = ss.map Rec.row := by
  have hq2 : qs.Perm (((dd rs).map (·.2)).map Rec.row) := by
    have := dd_place _ rs rfl hok
    rw [List.map_map, show ((Rec.row) ∘ fun x : Str × Rec => x.2) = fun p => p.2.row from rfl, this]
    exact hq
  obtain ⟨tt, htt, hte⟩ := perm_lift hq2
  have ht2 : tt.Pairwise (fun r s => placeR r.row < placeR s.row) := by
    rw [← hte, List.pairwise_map] at hqs
    exact hqs
  have hst : ss = tt := (hss.trans htt.symm).eq_of_pairwise (le := fun r s => placeR r.row < placeR s.row) (fun a b _ _ h1 h2 => by omega) hs2 ht2
  rw [hst]; exact hte.symm
theorem put_pos {K V : Type} [DecidableEq K] {l : List (K × V)} {k : K} {v : V} : put l k v ≠ [] := by
  unfold put
  split
  · rename_i h
    intro e
    rw [List.map_eq_nil_iff.mp e] at h
    cases h
  · simp
theorem dd_nil {rs : List Rec} : dd rs = [] ↔ rs = [] := by
  constructor
  · intro h
    cases hr : rs with
    | nil => rfl
    | cons a l =>
      exfalso
      have hne : rs ≠ [] := by rw [hr]; simp
      obtain ⟨l, r, e⟩ : ∃ l r, rs = l ++ [r] := ⟨rs.dropLast, rs.getLast hne, (List.dropLast_concat_getLast hne).symm⟩
      rw [e, dd_snoc] at h
      exact put_pos h
  · rintro rfl; rfl
end
section
theorem warm_F1 : PySem.Challenge.rw_ta0132_01.Holds → hd1.heap_1_39 = hd1.heap_1_39 := by
  k_fill
  intro _
  rfl
noncomputable def iterO (l : Addr) (i : Nat) : Obj := { cls := .type "list_iterator", data := .fields #[.ref l, .int i 0] }
section
variable {prog : Program} {w : World} {A : Around} {E : Value → Shared → Prop} {s : Shared} {h₀ : Heap} {L it l : Addr} {m : Str → Option Value} {news : Led} {xs : Array Value} {n i : Nat} {g : Obj → Led} {Q : Value → Shared → Prop}
theorem next_item {x : Value} (F : Fr h₀ L s.heap m) (N : News h₀ L s.heap news) (U : UpdF it (iterO l i) news g) (hl : (l, listOf xs n) ∈ news) (hx : xs[i]? = some x)
    (h : ∀ h', Fr h₀ L h' m → News h₀ L h' (g (iterO l (i + 1))) → Q x { s with heap := h' }) :
    wpAny (model prog w) A (call (.builtin "next") [.ref it]) Q E s := by
  obtain ⟨pre, post, hl', hg, a, b⟩ := U.split
  have hmem : (it, iterO l i) ∈ news := by rw [hl']; exact List.mem_append_right _ (.head _)
  have hm := N _ hmem
  have ho := hm.1
  have hd : (iterO l i).data = .fields #[.ref l, .int i 0] := rfl
  have hit : s.heap.IsListIter it l i := ⟨_, ho, rfl, rfl⟩
  refine Calls.call_function_entry (by decide +kernel) (by decide +kernel) kdk_entry_next (kdk_args_next _) ?_
  unfold Builtin.«next»
  refine wpAny_bind (m := someArgs "next" 1 2 _) (wpAny_of_eq (a := [Value.ref it]) (by first | rfl | kernel_rfl!) ?_)
  dsimp only
  refine wpAny_bind (wpAny_specialOf (name := Str.ofString "__next__") hit.typeIs slot_listiter_next.lookup ?_)
  refine wpAny_ite_split (fun hab => absurd hab (by decide)) (fun _ => ?_)
  refine wpAny_bind (wpAny_callSpecial?_slot (name := Str.ofString "__next__") hit.typeIs slot_listiter_next
    (wpAny_call_entry slot_listiter_next hit.typeIs entry_listiter_next ?_ (args_listiter_next _)))
  show wpAny _ _ (field (.ref it) 0 >>= _) _ _ s
  refine wpAny_bind (wpAny_field ho hd (x := .ref l) rfl ?_)
  show wpAny _ _ (if (Value.ref l == Value.none) = true then _ else _) _ _ s
  rw [if_neg (show ¬ ((Value.ref l == Value.none) = true) from Bool.false_ne_true)]
  show wpAny _ _ (field (.ref it) 1 >>= _) _ _ s
  refine wpAny_bind (wpAny_field ho hd (x := .int i 0) rfl ?_)
  show wpAny _ _ (seqItems? (.ref l) >>= _) _ _ s
  refine wpAny_bind (wpAny_seqItems (N _ hl).1 rfl ?_)
  simp only [Int.toNat_natCast, hx]
  have hs : Heap.SameBut it s.heap (s.heap.update it (Obj.mapFields (·.setIfInBounds 1 (rawInt ((i : Int) + 1))))) := Heap.SameBut.update ..
  refine wpAny_bind (wpAny_setField ho hd (by simp) (wpAny_pure ⟨x, rfl, wpAny_pure ⟨_, rfl, h _ (F.change hs hm.2.1 hm.2.2) ?_⟩⟩))
  rw [hg]
  refine (show News h₀ L s.heap (pre ++ (it, iterO l i) :: post) from hl' ▸ N).setIn a b hs ?_
  exact (Heap.get?_update_self _ ho (Obj.isFreed_of_fields (Obj.data_mapFields hd _))).trans (by
    congr 1)
theorem next_end (hh : A.handled = none) (F : Fr h₀ L s.heap m) (N : News h₀ L s.heap news) (U : UpdF it (iterO l i) news g) (hl : (l, listOf xs n) ∈ news) (hx : xs[i]? = none)
    (h : ∀ o' h1 h' tk e, Heap.NewExc h1 h' e "StopIteration" → Fr h₀ L h1 m → News h₀ L h1 (g o') → E (.ref e) { s with heap := h', toks := tk }) :
    wpAny (model prog w) A (call (.builtin "next") [.ref it]) Q E s := by
  obtain ⟨pre, post, hl', hg, a, b⟩ := U.split
  have hmem : (it, iterO l i) ∈ news := by rw [hl']; exact List.mem_append_right _ (.head _)
  have hm := N _ hmem
  have ho := hm.1
  have hd : (iterO l i).data = .fields #[.ref l, .int i 0] := rfl
  have hit : s.heap.IsListIter it l i := ⟨_, ho, rfl, rfl⟩
  refine Calls.call_function_entry (by decide +kernel) (by decide +kernel) kdk_entry_next (kdk_args_next _) ?_
  unfold Builtin.«next»
  refine wpAny_bind (m := someArgs "next" 1 2 _) (wpAny_of_eq (a := [Value.ref it]) (by first | rfl | kernel_rfl!) ?_)
  dsimp only
  refine wpAny_bind (wpAny_specialOf (name := Str.ofString "__next__") hit.typeIs slot_listiter_next.lookup ?_)
  refine wpAny_ite_split (fun hab => absurd hab (by decide)) (fun _ => ?_)
  refine wpAny_bind (wpAny_callSpecial?_slot (name := Str.ofString "__next__") hit.typeIs slot_listiter_next
    (wpAny_call_entry slot_listiter_next hit.typeIs entry_listiter_next ?_ (args_listiter_next _)))
  show wpAny _ _ (field (.ref it) 0 >>= _) _ _ s
  refine wpAny_bind (wpAny_field ho hd (x := .ref l) rfl ?_)
  show wpAny _ _ (if (Value.ref l == Value.none) = true then _ else _) _ _ s
  rw [if_neg (show ¬ ((Value.ref l == Value.none) = true) from Bool.false_ne_true)]
  show wpAny _ _ (field (.ref it) 1 >>= _) _ _ s
  refine wpAny_bind (wpAny_field ho hd (x := .int i 0) rfl ?_)
  show wpAny _ _ (seqItems? (.ref l) >>= _) _ _ s
  refine wpAny_bind (wpAny_seqItems (N _ hl).1 rfl ?_)
  simp only [Int.toNat_natCast, hx]
  have hs : Heap.SameBut it s.heap (s.heap.update it (Obj.mapFields (·.setIfInBounds 0 Value.none))) := Heap.SameBut.update ..
  refine wpAny_bind (wpAny_rule (wpAny_bind (wpAny_setField ho hd (by simp) ?_)))
  have ho1 := Heap.get?_update_self (h := s.heap) (Obj.mapFields (·.setIfInBounds 0 Value.none)) ho (Obj.isFreed_of_fields (Obj.data_mapFields hd _))
  have F1 := F.change hs hm.2.1 hm.2.2
  have N1 := (show News h₀ L s.heap (pre ++ (it, iterO l i) :: post) from hl' ▸ N).setIn a b hs ho1
  rw [← hg] at N1
  generalize hH : s.heap.update it (Obj.mapFields (·.setIfInBounds 0 Value.none)) = H1 at F1 N1 ⊢
  show wpAny _ _ (newExc (.type "StopIteration") [] >>= _) _ _ _
  refine wpAny_bind ?_
  simp only [newExc, newTuple]
  refine wpAny_bind (wpAny_newObj_type ?_ (by size_fits))
  refine wpAny_bind (m := firstArgMember _ _) (wpAny_of_eq (a := Value.none) (by first | rfl | (simp only [firstArgMember]; rfl)) ?_)
  refine wpAny_newObj_type ?_ (by size_fits)
  simp only [raiseNew]
  refine wpAny_bind (wpAny_handled ?_)
  rw [show A.in1.in1.handled = none from hh]
  refine wpAny_bind (wpAny_pure (wpAny_throw ?_))
  refine h _ _ _ _ _ ⟨fun b o hb => Heap.get?_push_of_some _ (Heap.get?_push_of_some _ hb), Heap.get?_none_of_le (by simp), _, _, Heap.get?_push_size _ rfl, rfl, by rfl⟩ F1 N1
end
end
section
theorem warm_F2 : PySem.Challenge.rw_ta0132_01.Holds → hd1.heap_1_39 = hd1.heap_1_39 := by
  k_fill
  intro _
  rfl
theorem and63 : ∀ x < 128, Builtin.bitAnd ((x : Nat) : Int) 63 = ((x % 64 : Nat) : Int) := by decide +kernel
theorem and64 : ∀ x < 128, (Builtin.bitAnd ((x : Nat) : Int) 64 = 0 ↔ x < 64) := by decide +kernel
theorem or_nat (m k : Nat) : Builtin.bitOr (m : Int) (k : Int) = ((m ||| k : Nat) : Int) := by
  have e : ∀ z : Nat, Builtin.bitNot (z : Int) = -(z : Int) - 1 := fun z => by unfold Builtin.bitNot; omega
  have h1 : decide (0 ≤ -(m : Int) - 1) = false := by simp; omega
  have h2 : decide (0 ≤ -(k : Int) - 1) = false := by simp; omega
  unfold Builtin.bitOr Builtin.bitAnd
  rw [e, e, h1, h2]
  dsimp only
  have e3 : ∀ z : Nat, (Builtin.bitNot (-(z : Int) - 1)).toNat = z := fun z => by unfold Builtin.bitNot; omega
  rw [e3, e3]
  unfold Builtin.bitNot
  omega
theorem or63 {v : Int} {x : Nat} (hv : 0 ≤ v) (hx : x < 128) : Builtin.bitOr (v * 2 ^ (6 : Int).toNat) (Builtin.bitAnd (x : Int) 63) = 64 * v + ((x % 64 : Nat) : Int) := by
  obtain ⟨n, rfl⟩ := Int.eq_ofNat_of_zero_le hv
  rw [and63 x hx]
  have e : ((n : Int) * 2 ^ (6 : Int).toNat) = ((2 ^ 6 * n : Nat) : Int) := by
    show (n : Int) * 64 = _
    omega
  rw [e, or_nat, ← Nat.two_pow_add_eq_or_of_lt (by omega : x % 64 < 2 ^ 6)]
  omega
theorem set3 {m : Str → Option Value} {a b c : Str} {x y z' : Value} (h1 : m a = some x) (h2 : m b = some y) (h3 : m c = some z') : m = fun z => if z = a then some x else if z = b then some y else if z = c then some z' else m z := by
  funext z; by_cases h : z = a
  · simp_all
  · by_cases h' : z = b
    · simp_all
    · by_cases h'' : z = c <;> simp_all
noncomputable def varJ (Ia l : Addr) (W : List Nat) (i : Nat) (rest : Led) : Nat → (Str → Option Value) → Led → Prop := fun k m₁ news₁ =>
  ∃ (j x : Nat) (v : Int) (tb tv : Tok), v = numZ (W.take j) ∧ 1 ≤ j ∧ j + k = W.length ∧ W[j - 1]? = some x ∧ m₁ (Str.ofString "val") = some (.int v tv) ∧ m₁ (Str.ofString "b") = some (.int (x : Int) tb) ∧ m₁ (Str.ofString "iterator") = some (.ref Ia) ∧ news₁ = (Ia, iterO l (i + j)) :: rest
theorem c_varint : ∀ (w : World) (Ia l : Addr) (pre : List Nat) (c : Nat) (vs : Array Value) (n i : Nat) (rest : Led) (hw : WordOk (pre ++ [c])) (hl : (l, listOf vs n) ∈ rest) (hoff : ∀ p ∈ rest, p.1 ≠ Ia) (hvs : ∀ (k x : Nat), (pre ++ [c])[k]? = some x → ∃ t, vs[i + k]? = some (.int (x : Int) t)), Con w 3 (call (.ref 175) [.ref Ia]) ((Ia, iterO l i) :: rest) (fun r news' => ∃ t, r = .int (numZ (pre ++ [c])) t ∧ news' = (Ia, iterO l (i + (pre ++ [c]).length)) :: rest) := by
  k_with_none
  k_with "inplaceOp LShift int int" => (refine ilshift_int_small (by decide) (by decide) (by assumption) ?_)
  have hold0 : HoldK "exec While" := .mk
  have hold1 : HoldK "call builtin:next" := .mk
  have skon : SkOn := .mk
  intro w Ia l pre c vs n i rest hw hl hoff hvs
  unfold Con
  intro mean mg mb dp un gd cn cs a ccd cl outer A₀ base h₀ L m s Q E B F X N T hk hd hu hret
  refine wpAny_call ?_
  k_dflt (refine' code_def (binds := [(Str.ofString "iterator", .ref Ia)]) ?k1 ?k2 ?k3 ?k4 ?k5 ?kA ?kF ?kK ?k6 ?k7 ?k8 ?k9 ?kB ?_ ?c2 ?c3 ?c4 ?c5; (case kA => exact rfl); (case kF => exact rfl); (case kK => first | assumption | exact rfl); (case k1 => k_asm); (case k2 => k_asm); (case k3 => k_asm); (case k4 => k_asm); (case k5 => k_asm); (case k6 => k_is); (case k7 => k_is); (case k8 => k_room); (case k9 => first | exact BindsTo.of_eq rfl | exact binds_K (by k_in) rfl (by k_is) rfl rfl rfl); (case c5 => decide); (case kB => exact locs rfl); (case c2 => exact rfl); (case c3 => exact rfl); (case c4 => exact rfl); k_whole; intro g1 L1 h1 FG1 F1 N1 B1 X1 T1; (try dsimp only); (try k_lift B1); (try k_fold))
  obtain ⟨x0, hx0⟩ : ∃ x0, (pre ++ [c])[0]? = some x0 := ⟨_, List.getElem?_eq_getElem (by simp)⟩
  obtain ⟨tv0, hv0⟩ := hvs 0 x0 hx0
  rw [Nat.add_zero] at hv0
  k_steps
  refine Hold.to ?_
  rename Fr g1 L1 _ _ => F2
  rename News g1 L1 _ _ => N2
  refine next_item F2 N2 (UpdF.head hoff) (.tail _ hl) hv0 ?_
  intro h3 F3 N3
  clear F2 N2
  (try dsimp only at N3)
  (try dsimp only); (try k_fold)
  k_steps
  refine Hold.to ?_
  have hW1 : ∀ x ∈ pre ++ [c], x < 128 := fun x hx => by
    obtain ⟨pre', c', e, h1, h2, -, -⟩ := hw
    rw [e] at hx
    rcases List.mem_append.mp hx with hx | hx
    · exact (h1 x hx).2
    · cases List.mem_singleton.mp hx; omega
  have hWc : c < 64 := by
    obtain ⟨pre', c', e, h1, h2, -, -⟩ := hw
    have := (List.append_inj' e rfl).2
    cases this
    exact h2
  have hWp : ∀ x ∈ pre, 64 ≤ x := fun x hx => by
    obtain ⟨pre', c', e, h1, h2, -, -⟩ := hw
    have := (List.append_inj' e rfl).1
    rw [this] at hx
    exact (h1 x hx).1
  have hWl : (pre ++ [c]).length ≤ 9 := by
    obtain ⟨pre', c', e, h1, h2, -, h4⟩ := hw
    rw [e, List.length_append, List.length_singleton]; omega
  rename Fr g1 L1 _ _ => F2
  rename News g1 L1 _ _ => N2
  refine While_inv (varJ Ia l (pre ++ [c]) i rest) (n₀ := pre.length) F2 N2 ?h0 ?turn
  case h0 =>
    refine ⟨1, x0, Builtin.bitAnd (x0 : Int) 63, _, _, ?_, Nat.le_refl _, by simp; omega, hx0, rfl, rfl, rfl, rfl⟩
    have e1 : (pre ++ [c]).take 1 = [x0] := by
      cases pre with
      | nil => cases hx0; rfl
      | cons a p => cases hx0; rfl
    have e2 : numZ [x0] = Builtin.bitAnd (x0 : Int) 63 := by
      rw [and63 x0 (hW1 x0 (List.mem_of_getElem? hx0))]
      unfold numZ
      simp only [List.foldl_cons, List.foldl_nil]
      omega
    rw [e1, e2]
  intro k m₁ news₁ h₃ tk₃ F3 N3 hJ
  obtain ⟨j, x, v, tb, tv, rfl, hj1, hjk, hx, hm1, hm2, hm3, rfl⟩ := hJ
  rw [set3 hm1 hm2 hm3] at F3
  clear F2 N2
  have hx128 := hW1 x (List.mem_of_getElem? hx)
  have hnn := numZ_nonneg ((pre ++ [c]).take j)
  have hlt : numZ ((pre ++ [c]).take j) < 64 ^ 9 := by
    refine Int.lt_of_lt_of_le (numZ_lt _ _ rfl) ?_
    exact (by decide : ∀ k ≤ 9, (64 : Int) ^ k ≤ 64 ^ 9) _ (by rw [List.length_take]; omega)
  have hna : (numZ ((pre ++ [c]).take j)).natAbs < 2 ^ 64 := by
    have : (64 : Int) ^ 9 < 2 ^ 64 := by decide
    omega
  k_steps
  · rename Builtin.bitAnd _ 64 ≠ 0 => hb
    have hx64 : ¬ x < 64 := fun h => hb ((and64 x hx128).mpr h)
    have hk0 : k ≠ 0 := by
      intro hq9; obtain rfl := hq9
      have e : j - 1 = pre.length := by simp only [List.length_append, List.length_singleton] at hjk; omega
      rw [e, List.getElem?_append_right (Nat.le_refl _), Nat.sub_self] at hx
      cases hx
      exact hx64 hWc
    obtain ⟨k, rfl⟩ : ∃ k', k = k' + 1 := ⟨k - 1, by omega⟩
    have hjl : j < (pre ++ [c]).length := by omega
    obtain ⟨y, hy⟩ : ∃ y, (pre ++ [c])[j]? = some y := ⟨_, List.getElem?_eq_getElem hjl⟩
    obtain ⟨tvy, hvy⟩ := hvs j y hy
    have hy128 := hW1 y (List.mem_of_getElem? hy)
    refine Hold.to ?_
    rename Fr g1 L1 _ _ => F4
    rename News g1 L1 _ _ => N4
    refine next_item F4 N4 (UpdF.head hoff) (.tail _ hl) hvy ?_
    intro h5 F5 N5
    clear F4 N4
    (try dsimp only at N5)
    (try dsimp only); (try k_fold)
    k_steps
    rename Fr g1 L1 _ _ => F9
    rename News g1 L1 _ _ => N9
    refine WhileStep.intro (n' := k) F9 N9 (by omega) ⟨j + 1, y, _, _, _, ?_, by omega, by omega, by rw [Nat.add_sub_cancel]; exact hy, rfl, rfl, rfl, by rw [Nat.add_assoc]⟩
    rw [or63 hnn hy128]
    have e1 : (pre ++ [c]).take (j + 1) = (pre ++ [c]).take j ++ [y] := by rw [List.take_add_one, hy]; rfl
    rw [e1, numZ_snoc]
  · rename Builtin.bitAnd _ 64 = 0 => hb
    have hx64 : x < 64 := (and64 x hx128).mp hb
    have hk0 : k = 0 := by
      cases k with
      | zero => rfl
      | succ k =>
        have hlt : j - 1 < pre.length := by simp only [List.length_append, List.length_singleton] at hjk; omega
        rw [List.getElem?_append_left hlt] at hx
        have := hWp x (List.mem_of_getElem? hx)
        omega
    subst hk0
    have e : (pre ++ [c]).take j = pre ++ [c] := List.take_of_length_le (by omega)
    refine hret _ _ _ _ (by assumption) (by assumption) ⟨_, by rw [e], by rw [show j = (pre ++ [c]).length by omega]⟩
end
section
noncomputable def RaisedSC (base G : Heap) (l : List Env) (e : Addr) (cls : Value) (news : Led) (h : Heap) : Prop :=
  ∃ B a0, base.StaysIn B ∧ (∀ b o, G.get? b = some o → b ∉ l.filterMap (·.frame) → B.get? b = some o) ∧ (∀ q ∈ news, B.get? q.1 = some q.2 ∧ G.get? q.1 = none ∧ base.get? q.1 = none) ∧ Heap.FlyingW B l e cls a0 h ∧ CtxN h e
theorem raisedC_drop {base g h : Heap} {l : List Env} {e : Addr} {cls : Value} {news news' : Led} (R : RaisedSC base g l e cls news h) (hs : ∀ p ∈ news', p ∈ news) : RaisedSC base g l e cls news' h := by
  obtain ⟨B, a0, h0, h1, h2, h3⟩ := R
  exact ⟨B, a0, h0, h1, fun q hq => h2 q (hs q hq), h3⟩
section
variable {M : Model} {A : Around} {E : Value → Shared → Prop} {s' : Shared} {base g g₂ h : Heap} {outer : List Env} {L a e : Addr} {m : Str → Option Value} {name : Str} {scope : Scope} {cd : Value} {Q : Unit → Shared → Prop} {news : Led}
theorem leave_newC {cls : String} (K : Below A base outer g) (hx : Heap.NewExc h s'.heap e cls) (F : Fr g L h m) (N : News g L h news)
    (hQ : ∀ h', RaisedSC base g outer e (.type cls) news h' → g.UpToSlots h' → Q () { s' with heap := h' }) (hk : scope.kind = .function := by rfl) :
    wpAny M (A.deeper (envOf name scope L a cd)) (leaving (envOf name scope L a cd) (.ref e)) Q E s' := by
  have K' := K.push (name := name) (a := a) (cd := cd) F hk
  generalize hfs : (envOf name scope L a cd :: outer).filterMap (·.frame) = fs
  have hin : ∀ env ∈ (envOf name scope L a cd :: outer), ∀ b, env.frame = some b → b ∈ fs := fun env he b hb => by
    rw [← hfs]
    exact List.mem_filterMap.mpr ⟨env, he, hb⟩
  have st : base.StaysIn (hideAll h fs) := fun b o q => hideAll_get _ (K'.stays b o q) fun hm => by
    rw [← hfs] at hm
    rw [(K'.frames.mem hm).1] at q
    cases q
  have sg : ∀ b o, g.get? b = some o → b ∉ outer.filterMap (·.frame) → (hideAll h fs).get? b = some o := fun b o q nm => hideAll_get _ (F.keep b o q) fun hm => by
    rw [← hfs] at hm
    rcases kts_mem hm with z | z
    · rw [z, kts_self F] at q
      cases q
    · exact nm z
  have hl : ∀ q ∈ news, (hideAll h fs).get? q.1 = some q.2 ∧ g.get? q.1 = none ∧ base.get? q.1 = none := fun q hq => by
    refine ⟨hideAll_get _ (N q hq).1 fun hm => ?_, (N q hq).2.2, fresh_of_stays K.stays (N q hq).2.2⟩
    rw [← hfs] at hm
    rcases kts_mem hm with z | z
    · exact (N q hq).2.1 z
    · obtain ⟨_, o, ho, _⟩ := K.frames.mem z
      rw [(N q hq).2.2] at ho
      cases ho
  obtain ⟨ob, tp, he, hcls, hd⟩ := hx.there
  have hen : (hideAll h fs).get? e = none := by
    cases q : (hideAll h fs).get? e with
    | none => rfl
    | some o => have := of_hideAll _ q; rw [hx.new] at this; cases this
  refine leaving_firstC (base := hideAll h fs) (outer := outer) (cls := .type cls) (a0 := tp) K'.stack ((funFrames_hide K'.frames hin).of_keeps fun b o hb _ => ⟨o, hx.keeps b o hb, rfl⟩) rfl he (fun b o hb => hx.keeps b o (of_hideAll _ hb)) hen hd hcls rfl rfl ⟨ob, _, he, hd, rfl⟩ fun h' f1 f2 f3 => ?_
  exact hQ h' ⟨_, tp, st, sg, hl, f1, f2⟩ (((Heap.UpToSlots.of_keeps F.keep).trans (Heap.UpToSlots.of_keeps hx.keeps)).trans f3)
end
theorem stop_exc : isSubtype (.type "StopIteration") (.type "BaseException") = pure true := by rw [isSubtype_type]; kernel_rfl
theorem stop_not : isSubtype (.type ((Manifest.find? "StopIteration").elim "type" fun y => y.metatype)) (.type "tuple") = pure false := by
  have e : ((Manifest.find? "StopIteration").elim "type" fun y => y.metatype) = "type" := by kernel_rfl
  rw [e, isSubtype_type]; kernel_rfl
section
variable {prog : Program} {w : World} {A₀ : Around} {E : Value → Shared → Prop} {s' : Shared} {base g g₀ G : Heap} {outer : List Env} {L a e : Addr} {m : Str → Option Value} {name : Str} {scope : Scope} {cd : Value}
  {b₀ : Stmt} {suite : List Stmt} {pos np : Pos} {rest : List ExceptHandler} {Q : Flow → Shared → Prop} {news : Led} {KF : Frag}
  {p : Program} {loose : List Str} {mean : ExcName → Option Value} {mg mb : Str → Option Value}
theorem caughtC (R : RaisedSC base G (envOf name scope L a cd :: outer) e (.type "StopIteration") news s'.heap) (F : Fr g L G m) (K : Below A₀ base outer g) (hsm : G.UpToSlots s'.heap) (XB : KF.In base) (TB : Top p loose mean mg mb base)
    (D : KtsDicts (outer.filterMap (·.frame)) g)
    (ex : nsIn KF mainGlobals (Str.ofString "StopIteration") = some none) (hv : bootBuiltins (Str.ofString "StopIteration") = some (.type "StopIteration"))
    (k : ∀ h' g' oe vs, oe.data = .fields vs → vs[2]? = some .none → KtsTurn (outer.filterMap (·.frame)) g g' → Fr g' L h' m → News g' L h' ((e, oe) :: news) → Below A₀ base outer g' → KF.In g' → Top p loose mean mg mb g' → KtsDicts (outer.filterMap (·.frame)) g' →
      wpAny (model prog w) ((A₀.deeper (envOf name scope L a cd)).mark (some (.ref e))) (execs (b₀ :: suite) (envOf name scope L a cd)) Q E { s' with heap := h' })
    (hk : scope.kind = .function := by rfl) (hx : (envOf name scope L a cd).kindOf (Str.ofString "StopIteration") = some .globalImplicit := by rfl)
    (hE : PassesOwnAt (model prog w) ((A₀.deeper (envOf name scope L a cd)).mark (some (.ref e))) (A₀.deeper (envOf name scope L a cd)) (envOf name scope L a cd) E := by passes_own) :
    wpAny (model prog w) (A₀.deeper (envOf name scope L a cd)) (noteFrame (.ref e) (envOf name scope L a cd))
      (fun _ s₂ => wpAny (model prog w) (A₀.deeper (envOf name scope L a cd)) (setFlight (.ref e) none) (fun _ s₃ =>
        wpAny (model prog w) (A₀.deeper (envOf name scope L a cd)) (handleBy (.ref e) (envOf name scope L a cd) (.ExceptHandler (some (.Name (Str.ofString "StopIteration") np)) none (b₀ :: suite) pos :: rest)) Q E s₃) E s₂) E s' := by
  obtain ⟨B, a0, hB, hBG, hl, hfl, hc⟩ := R
  have hLB : B.get? L = none := (hfl.2.2.1.mem (List.mem_filterMap.mpr ⟨_, .head _, rfl⟩)).1
  have heG : G.get? e = none := by
    cases q : G.get? e with
    | none => rfl
    | some o =>
      by_cases hm : e ∈ (envOf name scope L a cd :: outer).filterMap (·.frame)
      · obtain ⟨_, o', ho', hn'⟩ := hfl.2.2.1.mem hm
        obtain ⟨o2, vs2, ho2, hd2, _⟩ := hc
        rw [ho'] at ho2
        cases ho2
        exact absurd hd2 (hn' vs2)
      · have := hBG e o q hm
        rw [hfl.2.1] at this
        cases this
  have heL : e ≠ L := fun z => by
    obtain ⟨_, o', ho', hn'⟩ := hfl.2.2.1.mem (b := L) (List.mem_filterMap.mpr ⟨_, .head _, rfl⟩)
    obtain ⟨o2, vs2, ho2, hd2, _⟩ := hc
    rw [z, ho'] at ho2
    cases ho2
    exact hn' vs2 hd2
  refine noteC (Around.frames_deeper K.stack) rfl hfl hc fun h4 k1 k2 k3 c4 u4 => ?_
  refine flightC (s := { s' with heap := h4 }) k1 k2 k3 hfl.2.1 c4 fun h5 f5 c5 u5 => ?_
  have u45 := u4.trans u5
  obtain ⟨g5, T5, F5, K5⟩ := kts_ground K F hBG f5.1 (hsm.trans u45)
  have X5 : KF.In g5 := XB.keeps K5.stays
  have P5 : TopRead p loose mg mb g5 := topRead_of (TB.keeps K5.stays)
  obtain ⟨ob, hob, hobc⟩ := f5.there
  refine wpAny_handleBy_builtin (X := "StopIteration") (T := "StopIteration") (b := true) stop_exc stop_not isSubtype_stop (name_B F5 X5 P5 ex hv (by decide) ⟨rfl, ⟨ob, hob, hobc⟩, ?_⟩ hk hx (by decide))
  obtain ⟨f51, f52, f53, f54⟩ := f5
  refine flightC (s := { s' with heap := h5 }) f51 f53 f54.at f52 c5 fun h6 f6 c6 u6 => ?_
  obtain ⟨g6, T6, F6, K6⟩ := kts_ground K F hBG f6.1 ((hsm.trans u45).trans u6)
  obtain ⟨oe, vs, hoe, hdv, hv2⟩ := c6
  have Nl : News g6 L h6 ((e, oe) :: news) := fun q hq => by
    rcases List.mem_cons.mp hq with rfl | hq
    · exact ⟨hoe, heL, T6.none_ _ (kts_none F.keep heG)⟩
    · exact ⟨f6.1 _ _ (hl q hq).1, (fun z => by have := (hl q hq).1; rw [z, hLB] at this; cases this), T6.none_ _ (kts_none F.keep (hl q hq).2.1)⟩
  exact wpAny_passesOwnAt hE (k h6 g6 oe vs hdv hv2 T6 F6 Nl K6 (XB.keeps K6.stays) (TB.keeps K6.stays) (D.turn T6))
end
end
section
theorem warm_F3 : PySem.Challenge.rw_ta0132_01.Holds → hd1.heap_1_39 = hd1.heap_1_39 := by
  k_fill
  intro _
  rfl
/-- a contract of a call that raises StopIteration -/
noncomputable abbrev ConXN (w : World) (d : Nat) (c : Sem Value) (news : Led) (NX : Led → Prop) : Prop :=
  ∀ (mean : ExcName → Option Value) (mg mb : Str → Option Value) (dp un : Nat) (gd : Option (List Code)) (cn : Str) (cs : Scope) (a : Addr) (ccd : Value) (cl : List (Str × Addr)) (outer : List Env) (A₀ : Around) (base h₀ : Heap) (L : Addr) (m : Str → Option Value) (s : Shared) (Q E : Value → Shared → Prop),
    Below A₀ base outer h₀ → Fr h₀ L s.heap m → (hd1.heap_1_39 w.params).In h₀ → News h₀ L s.heap news → Top topProg LO mean mg mb h₀ → cs.kind = .function → dp + d < recursionLimit → un + 8 * d < cLine →
    (∀ e g h' tk' newsX, Fr h₀ L g m → RaisedSC base g (envX cn cs L a ccd cl :: outer) e (.type "StopIteration") newsX h' → g.UpToSlots h' → NX newsX → E (.ref e) { s with heap := h', toks := tk' }) →
    wpAny (model PySem.Challenge.pw_ta0132_01 w) (ktrTop dp un gd cn cs L a ccd cl outer) c Q E s
theorem c_varintX : ∀ (w : World) (Ia l : Addr) (vs : Array Value) (n i : Nat) (rest : Led) (hl : (l, listOf vs n) ∈ rest) (hoff : ∀ p ∈ rest, p.1 ≠ Ia) (hvs : vs[i]? = none), ConXN w 3 (call (.ref 175) [.ref Ia]) ((Ia, iterO l i) :: rest) (fun newsX => newsX = rest) := by
  k_with_none
  k_with "leaving ref" => (k_here; (refine' leave_newC ?k1 (by assumption) ?k2 ?k3 ?_; (case k1 => assumption); (case k2 => assumption); (case k3 => assumption); k_whole; intro _ R' U'; (try dsimp only at R' U' ⊢)))
  have hold0 : HoldK "call builtin:next" := .mk
  have skon : SkOn := .mk
  intro w Ia l vs n i rest hl hoff hvs
  unfold ConXN
  intro mean mg mb dp un gd cn cs a ccd cl outer A₀ base h₀ L m s Q E B F X N T hk hd hu hret
  refine wpAny_call ?_
  k_dflt (refine' code_def (binds := [(Str.ofString "iterator", .ref Ia)]) ?k1 ?k2 ?k3 ?k4 ?k5 ?kA ?kF ?kK ?k6 ?k7 ?k8 ?k9 ?kB ?_ ?c2 ?c3 ?c4 ?c5; (case kA => exact rfl); (case kF => exact rfl); (case kK => first | assumption | exact rfl); (case k1 => k_asm); (case k2 => k_asm); (case k3 => k_asm); (case k4 => k_asm); (case k5 => k_asm); (case k6 => k_is); (case k7 => k_is); (case k8 => k_room); (case k9 => first | exact BindsTo.of_eq rfl | exact binds_K (by k_in) rfl (by k_is) rfl rfl rfl); (case c5 => decide); (case kB => exact locs rfl); (case c2 => exact rfl); (case c3 => exact rfl); (case c4 => exact rfl); k_whole; intro g1 L1 h1 FG1 F1 N1 B1 X1 T1; (try dsimp only); (try k_lift B1); (try k_fold))
  k_steps
  refine Hold.to ?_
  rename Fr g1 L1 _ _ => F2
  rename News g1 L1 _ _ => N2
  refine next_end (by rfl) F2 N2 (UpdF.head hoff) (.tail _ hl) hvs ?_
  intro o' hx1 hx2 tkx e hne FX NX
  clear F2 N2
  (try dsimp only at NX)
  replace NX := cb_drop NX fun p hp => List.mem_cons_of_mem _ hp
  (try dsimp only); (try k_fold)
  k_steps
  exact hret _ _ _ _ _ FG1 (by assumption) (by assumption) rfl
end
section
noncomputable def rangeO (n : Nat) (t u v : Tok) : Obj := { cls := .type "range", dict := none, data := .fields #[.int 0 t, .int (n : Int) u, .int 1 v], slots := #[] }
theorem iterR : ∀ {prog : Program} {w : World} {A : Around} {E : Value → Shared → Prop} {s : Shared} {env : Env} {h₀ : Heap} {Q : Flow → Shared → Prop} {x : Str} {px : Pos} {body : List Stmt} {l : Addr} {n : Nat} {t u v : Tok} {m : Str → Option Value} {news : Led} (J : Nat → (Str → Option Value) → Led → Prop) (hh : A.handled = none) (hsmall : Builtin.Range.small 0 (n : Int) 1 = true) (hsz : Builtin.Range.rangeSize 0 (n : Int) 1 = (n : Int)) (F : Fr h₀ env.locals s.heap m) (N : News h₀ env.locals s.heap news) (hl : IsRange s.heap l 0 (n : Int) 1 t u v) (h0 : J 0 m news) (turn : ∀ i tv m₁ news₁ h₁ tk₁ I oi, i < n → J i m₁ news₁ → (∀ p ∈ news₁, p.1 ≠ I) → Fr h₀ env.locals h₁ m₁ → News h₀ env.locals h₁ ((I, oi) :: news₁) →
      wpAny (model prog w) A (assign (.Name x px) env (.int (i : Int) tv)) (fun _ s₂ => wpAny (model prog w) A (execs body env) (TurnJ h₀ env.locals (I, oi) (J (i + 1)) s Q) (fun _ _ => False) s₂) (fun _ _ => False) { s with heap := h₁, toks := tk₁ }) (done : ∀ m' news' h' tk', J n m' news' → Fr h₀ env.locals h' m' → News h₀ env.locals h' news' → Q .next { s with heap := h', toks := tk' }), wpAny (model prog w) A (pyIter (.ref l)) (fun it s₂ => codeAny (model prog w) A (.forLoop (.Name x px) it body [] env) (fun r s' => match r with | .ok f => Q f s' | .error e => cameBackBy (model prog w) A env E e s') s₂) E s := by
  have skon : SkOn := .mk
  intro prog w A E s env h₀ Q x px body l n t u v m news J hh hsmall hsz F N hl h0 turn done
  have hnew : h₀.get? s.heap.objs.size = none := by
    cases hq : h₀.get? s.heap.objs.size with
    | none => rfl
    | some o' => exact absurd (Heap.lt_size (F.keep _ _ hq)) (Nat.lt_irrefl _)
  have hLI : env.locals ≠ s.heap.objs.size := by
    obtain ⟨oL, _, _, hL, _⟩ := F.ns
    exact Nat.ne_of_lt (Heap.lt_size hL)
  refine wpAny_pyIter_range hl hsmall ?_
  rw [hsz]
  generalize hI : s.heap.objs.size = I at hnew hLI
  refine codeAny_forLoop_any
    (fun k s' => ∃ h' tk m' news' i, s' = { s with heap := h', toks := tk } ∧ IsRangeIter h' I ((i : Nat) : Int) ((n : Int) - (i : Nat)) 1 ∧ Fr h₀ env.locals h' m' ∧ News h₀ env.locals h' news' ∧ (∀ p ∈ news', p.1 ≠ I) ∧ J i m' news' ∧ i ≤ n ∧ k = n + 1 - i) ?_ (n + 1)
    ⟨_, s.toks, m, news, 0, rfl, (by show IsRangeIter _ _ _ _ _; rw [← hI]; simpa using Heap.get?_push_size _ rfl), F.push _, (fun p hp => ⟨Heap.get?_push_of_some _ (N p hp).1, (N p hp).2⟩), (fun p hp => by rw [← hI]; exact Nat.ne_of_lt (Heap.lt_size (N p hp).1)), h0, Nat.zero_le _, rfl⟩
  intro k s' hq9; obtain ⟨h', tk, m', news', i, rfl, hit, F', N', hnI, hJ, hi, rfl⟩ := hq9
  have next : ∀ h₁ : Heap, Heap.ExtBut I h' h₁ → Fr h₀ env.locals h₁ m' ∧ News h₀ env.locals h₁ news' := fun h₁ hs => by
    refine ⟨⟨F'.ns.at' fun o e => hs _ o hLI e, fun b o e => hs b o ?_ (F'.keep b o e), F'.above⟩, fun p hp => ⟨hs _ _ (hnI p hp) (N' p hp).1, (N' p hp).2⟩⟩
    intro e'
    rw [e', hnew] at e; cases e
  by_cases hlt : i < n
  · refine wpAny_pyNext_range_item hit (by omega) ?_
    intro h₁ hit₁ hs₁
    have hs₁' : Heap.ExtBut I h' h₁ := hs₁.extBut
    obtain ⟨F₁, N₁⟩ := next h₁ hs₁'
    refine wpAny_of_eq (a := ()) rfl ?_
    have Nt : ∀ oi, h₁.get? I = some oi → News h₀ env.locals h₁ ((I, oi) :: news') := fun oi hoi => by
      intro p hp
      rcases List.mem_cons.mp hp with rfl | hp
      · exact ⟨hoi, hLI.symm, hnew⟩
      · exact N₁ p hp
    obtain ⟨oi, hoi⟩ : ∃ oi, h₁.get? I = some oi := ⟨_, hit₁⟩
    have ht := turn i tk m' news' h₁ (tk + 1) I oi hlt hJ hnI F₁ (Nt _ hoi)
    refine wpAny_mono ht ?_ fun _ _ e => e.elim
    intro _ s₂ h₂
    refine wpAny_mono h₂ ?_ fun _ _ e => e.elim
    intro f s₃ h₃
    have fin : (∃ h' tk m' news', s₃ = { s with heap := h', toks := tk } ∧ Fr h₀ env.locals h' m' ∧ News h₀ env.locals h' ((I, oi) :: news') ∧ (∀ p ∈ news', p.1 ≠ I) ∧ J (i + 1) m' news') →
        ∃ m, m < n + 1 - i ∧ ∃ h' tk m' news' i, s₃ = { s with heap := h', toks := tk } ∧ IsRangeIter h' I ((i : Nat) : Int) ((n : Int) - (i : Nat)) 1 ∧ Fr h₀ env.locals h' m' ∧ News h₀ env.locals h' news' ∧ (∀ p ∈ news', p.1 ≠ I) ∧ J i m' news' ∧ i ≤ n ∧ m = n + 1 - i := by
      intro hq9; obtain ⟨h₄, tk₄, m₄, news₄, rfl, F₄, N₄, hn₄, J₄⟩ := hq9
      refine ⟨n + 1 - (i + 1), by omega, h₄, tk₄, m₄, news₄, i + 1, rfl, ?_, F₄, fun p hp => N₄ p (.tail _ hp), hn₄, J₄, hlt, rfl⟩
      have e1 : (((i + 1 : Nat)) : Int) = (i : Int) + 1 := by omega
      have e2 : (n : Int) - ((i : Int) + 1) = (n : Int) - (i : Int) - 1 := by omega
      rw [e1, e2]
      exact (N₄ _ (.head _)).1.trans (hoi.symm.trans hit₁)
    cases f with
    | ret v => exact h₃
    | brk => exact h₃
    | next => exact fin h₃
    | cont => exact fin h₃
  · have hin : i = n := by omega
    subst hin
    refine wpAny_pyNext_range_end hh hit (by omega) ?_
    intro h₁ hs₁
    obtain ⟨F₁, N₁⟩ := next h₁ hs₁
    exact wpAny_execs_nil (done _ _ _ _ hJ F₁ N₁)
end
section
theorem warm_F5 : PySem.Challenge.rw_ta0132_01.Holds → hd1.heap_1_39 = hd1.heap_1_39 := by
  k_fill
  intro _
  rfl
theorem iter_listK : ∀ {prog : Program} {w : World} {A : Around} {E : Value → Shared → Prop} {s : Shared} {h₀ : Heap} {L l : Addr} {m : Str → Option Value} {news : Led} {xs : Array Value} {n : Nat} {Q : Value → Shared → Prop} (F : Fr h₀ L s.heap m) (N : News h₀ L s.heap news) (hl : (l, listOf xs n) ∈ news) (h : ∀ D h', Fr h₀ L h' m → News h₀ L h' ((D, iterO l 0) :: news) → (∀ p ∈ news, p.1 < D) → Q (.ref D) { s with heap := h' }), wpAny (model prog w) A (call (.builtin "iter") [.ref l]) Q E s := by
  have skon : SkOn := .mk
  intro prog w A E s h₀ L l m news xs n Q F N hl h
  refine Calls.call_function_entry (by decide +kernel) (by decide +kernel) kdk_entry_iter (kdk_args_iter _) ?_
  unfold Builtin.«iter»
  refine wpAny_bind (m := someArgs "iter" 1 2 _) (wpAny_of_eq (a := [Value.ref l]) (by first | rfl | kernel_rfl!) ?_)
  show wpAny _ _ (pyIter (.ref l) >>= _) _ _ _
  refine wpAny_bind (wpAny_pyIter_list (N.isList hl) ?_)
  exact wpAny_pure ⟨_, rfl, h _ _ (F.push _) (News.push F N _ rfl) (fun q hq => Heap.lt_size (N q hq).1)⟩
theorem ints_snoc {vs : List Value} {ns : List Int} {n : Int} {t : Tok} (h : IntsAre vs ns) : IntsAre (vs ++ [.int n t]) (ns ++ [n]) := by
  induction h with
  | nil => exact .cons _ _ .nil
  | cons n' t' h ih => exact .cons _ _ ih
theorem len_mk {prog : Program} {w : World} {A : Around} {E : Value → Shared → Prop} {s : Shared} {l : List Nat} {t : Tok} {Q : Value → Shared → Prop} (hn : l.length ≤ 10000) (h : Q (.int (l.length : Int) (s.toks + 1)) { s with toks := s.toks + 1 + 1 }) : wpAny (model prog w) A (call (.builtin "len") [.str (mk l) t]) Q E s := by
  have e : (mk l).length = l.length := by show l.toArray.size = _; simp
  exact len_str (by rw [e]; omega) (by rw [e]; exact h)
theorem small_len {n : Nat} (hn : n ≤ 10000) : Builtin.Range.small 0 ((n + 1 : Nat) : Int) 1 = true ∧ Builtin.Range.rangeSize 0 ((n + 1 : Nat) : Int) 1 = ((n + 1 : Nat) : Int) := by
  have e : Builtin.Range.rangeSize 0 ((n + 1 : Nat) : Int) 1 = ((n + 1 : Nat) : Int) := by rw [rangeSize_nat]; omega
  refine ⟨?_, e⟩
  unfold Builtin.Range.small
  rw [e]
  have h1 : ∀ z : Int, 0 ≤ z → z ≤ 20000 → Builtin.Range.rangeFitsLong z = true := fun z h0 h2 => by
    unfold Builtin.Range.rangeFitsLong
    rw [Bool.and_eq_true]
    exact ⟨decide_eq_true (by omega), decide_eq_true (by omega)⟩
  rw [h1 0 (by omega) (by omega), h1 ((n + 1 : Nat) : Int) (by omega) (by omega), h1 1 (by omega) (by omega), if_pos (by decide), h1 (((n + 1 : Nat) : Int) + (1 - 1)) (by omega) (by omega), Bool.or_true]
  rfl
theorem kvR {a : Str} {x u : Option Value} {r : Str → Option Value} : (fun y => if y = a then x else if y = a then u else r y) = fun y => if y = a then x else r y := by
  funext y
  by_cases h1 : y = a <;> simp [h1]
theorem flat_take {Ws : List (List Nat)} {i : Nat} {x : List Nat} (h : Ws[i]? = some x) : (Ws.take (i + 1)).flatten = (Ws.take i).flatten ++ x := by
  rw [List.take_add_one, h]; simp
theorem flat_get {Ws : List (List Nat)} {i : Nat} {x : List Nat} (h : Ws[i]? = some x) {k y : Nat} (hk : x[k]? = some y) : Ws.flatten[(Ws.take i).flatten.length + k]? = some y := by
  obtain ⟨hlt, e⟩ := List.getElem?_eq_some_iff.mp h
  have e1 : Ws = Ws.take i ++ (x :: Ws.drop (i + 1)) := by rw [← e, ← List.drop_eq_getElem_cons hlt, List.take_append_drop]
  have e2 : Ws.flatten = (Ws.take i).flatten ++ (x ++ (Ws.drop (i + 1)).flatten) := by
    conv => lhs; rw [e1]
    rw [List.flatten_append, List.flatten_cons]
  rw [e2, List.getElem?_append_right (by omega), Nat.add_sub_cancel_left]
  have hk' := (List.getElem?_eq_some_iff.mp hk).1
  rw [List.getElem?_append_left hk', hk]
theorem flat_ge {Ws : List (List Nat)} (h : ∀ x ∈ Ws, WordOk x) : ∀ i, i ≤ Ws.length → i ≤ (Ws.take i).flatten.length := by
  intro i
  induction i with
  | zero => intro _; exact Nat.zero_le _
  | succ i ih =>
    intro hi
    obtain ⟨x, hx⟩ : ∃ x, Ws[i]? = some x := ⟨_, List.getElem?_eq_getElem (by omega)⟩
    rw [flat_take hx, List.length_append]
    obtain ⟨pre, c, rfl, _⟩ := h x (List.mem_of_getElem? hx)
    have := ih (by omega)
    simp only [List.length_append, List.length_cons, List.length_nil]
    omega
theorem ints_get : ∀ {vs : List Value} {ns : List Int}, IntsAre vs ns → ∀ {k : Nat} {y : Int}, ns[k]? = some y → ∃ t, vs.toArray[k]? = some (.int y t) := by
  intro vs ns h
  induction h with
  | nil => intro k y hk; simp at hk
  | cons n t h ih =>
    intro k y hk
    cases k with
    | zero => simp at hk; subst hk; exact ⟨_, rfl⟩
    | succ k =>
      obtain ⟨t', e⟩ := ih (k := k) (y := y) (by simpa using hk)
      exact ⟨t', by simpa using e⟩
theorem kvN {a : Str} {r : Str → Option Value} (ha : r a = none) : r = fun y => if y = a then none else r y := by
  funext y
  by_cases h1 : y = a
  · simp [h1, ha]
  · simp [h1]
theorem news_sw {h₀ h : Heap} {L : Addr} {a b c : Addr × Obj} {l : Led} (N : News h₀ L h (a :: b :: c :: l)) : News h₀ L h (c :: a :: b :: l) := cb_drop N fun p hp => by
  simp only [List.mem_cons] at hp ⊢
  rcases hp with h | h | h | h <;> simp [h]
theorem news_ws {h₀ h : Heap} {L Io I rl D : Addr} {o1 oi oD : Obj} {rd : List Value} {v : Value} {k : Nat} {l : Led} (N : News h₀ L h ((Io, o1) :: (I, oi) :: (rl, listOf (rd.toArray.push v) k) :: (D, oD) :: l)) : News h₀ L h ((I, oi) :: (rl, listOf (rd ++ [v]).toArray k) :: (Io, o1) :: (D, oD) :: l) := by
  rw [List.push_toArray] at N
  refine cb_drop N fun p hp => ?_
  simp only [List.mem_cons] at hp ⊢
  rcases hp with h | h | h | h | h <;> simp [h]
theorem off3 {I a b c : Addr} {o1 o2 o3 : Obj} {l : Led} (h1 : @Ne Nat I a) (h2 : @Ne Nat I b) (h3 : @Ne Nat I c) (h : ∀ p ∈ l, p.1 ≠ I) : ∀ p ∈ (a, o1) :: (b, o2) :: (c, o3) :: l, p.1 ≠ I := fun p hp => by
  rcases List.mem_cons.mp hp with rfl | hp
  · exact fun e => h1 e.symm
  rcases List.mem_cons.mp hp with rfl | hp
  · exact fun e => h2 e.symm
  rcases List.mem_cons.mp hp with rfl | hp
  · exact fun e => h3 e.symm
  · exact h p hp
theorem ints_lay : ∀ ns : List Int, PyData.canLayAll0 (ns.map PyData.int) = true ∧ PyData.depthAll (ns.map PyData.int) ≤ 2
  | [] => by simp [PyData.canLayAll0, PyData.depthAll]
  | r :: R => by
    have q := ints_lay R
    simp only [List.map_cons, PyData.canLayAll0, PyData.canLay0, PyData.depthAll, PyData.depth, Bool.true_and, Bool.and_true]
    refine ⟨q.1, ?_⟩
    have := q.2
    omega
theorem ints_eqv : ∀ ns : List Int, PyData.eqvAll (ns.map PyData.int) (ns.map PyData.int) = true
  | [] => by simp [PyData.eqvAll]
  | r :: R => by simp [PyData.eqvAll, PyData.eqv, ints_eqv R]
theorem eq_intsL {prog : Program} {w : World} {A : Around} {E : Value → Shared → Prop} {s : Shared} {h₀ : Heap} {L a b : Addr} {news : Led} {vs ws : List Value} {ns : List Int} {n1 n2 : Nat} {Q : Value → Shared → Prop} (N : News h₀ L s.heap news) (h1 : (a, listOf vs.toArray n1) ∈ news) (h2 : (b, listOf ws.toArray n2) ∈ news) (hv : IntsAre vs ns) (hw : IntsAre ws ns) (hu : A.units + 64 < cLine) (hq : Q (.bool true) s) :
    wpAny (model prog w) A (compareOp .Eq (.ref a) (.ref b)) Q E s := by
  have hsh : SeqAt.shaped (.list (ns.map PyData.int)) = true := by
    unfold SeqAt.shaped
    rw [PyData.canLay0, (ints_lay ns).1, Bool.true_and]
    exact decide_eq_true (by rw [PyData.depth]; have := (ints_lay ns).2; omega)
  exact eq_dataH (reads_list_at (N.get h1) rfl rfl (by simpa using IntsAre.reads _ hv)) (reads_list_at (N.get h2) rfl rfl (by simpa using IntsAre.reads _ hw)) hsh hsh hu (by rw [PyData.eqv, ints_eqv]; exact hq)
theorem c_figuresZH (w : World) (z : Int) (tk : Tok) (news : Led) (h0 : 0 ≤ z) (hn : z < 64 ^ 11) : ConH w 2 (call (.ref 356) [.int z tk]) news (fun r news' => ∃ l fs, r = .ref l ∧ (∃ junk, news' = (l, listOf (List.toArray fs) 0) :: (junk ++ news)) ∧ IntsAre fs (digs z.toNat)) := by
  obtain ⟨n, rfl⟩ := Int.eq_ofNat_of_zero_le h0
  exact c_figuresH w n tk news (by omega)
theorem sum_len : ∀ Ws : List (List Nat), (Ws.map fun x => ((x.length : Nat) : Int)).sum = ((Ws.flatten.length : Nat) : Int)
  | [] => rfl
  | x :: Ws => by
    rw [List.map_cons, List.sum_cons, sum_len Ws, List.flatten_cons, List.length_append]; omega
theorem c_fits : ∀ (w : World) (Ws : List (List Nat)) (tx : Tok) (Rw : Addr) (rs : List Value) (nr : Nat) (rest : Led) (hW : ∀ x ∈ Ws, WordOk x) (hn : Ws.flatten.length ≤ 10000) (hrs : IntsAre rs (Ws.map numZ)) (hR : (Rw, listOf rs.toArray nr) ∈ rest), Con0 w 20 (call (.ref 413) [.str (mk Ws.flatten) tx, .ref Rw]) rest (fun r news' => r = .bool true ∧ ∀ p ∈ rest, p ∈ news') := by
  k_with_none
  k_with "storeName" => (k_here; (with_reducible show wpAny _ _ (storeName (envOfC _ _ _ _ _) _ _) _ _ _); k_dflt (refine' st_cell ?k1 ?k2 ?k3 ?k4 ?k5 ?k6 ?k7 ?_; (case k1 => k_asm); (case k2 => k_asm); (case k3 => exact rfl); (case k4 => exact rfl); (case k5 => exact rfl); (case k6 => k_updF); (case k7 => k_asm); k_whole); intro _ _ _ _ _; (try dsimp only))
  k_with "setItem ref ref ref" => (k_here; k_dflt (refine' store_all ?k1 ?k2 ?k3 ?k4 ?k5 ?k6 ?k7 ?k8 ?_; (case k1 => k_asm); (case k2 => k_asm); (case k3 => exact rfl); (case k4 => k_updF); (case k5 => k_mem); (case k6 => first | (simp only [beq_eq_false_iff_ne]; (try dsimp only); (refine neN ?_); omega) | (simp only [beq_eq_false_iff_ne]; assumption)); (case k7 => assumption); (case k8 => assumption); k_whole); intro _ _ _ _; (try dsimp only))
  k_with "call builtin:list.append" => (k_here; (with_reducible show wpAny _ _ (call (Value.builtin _) [Value.ref _, _]) _ _ _); k_dflt (refine' append_K ?k1 ?k2 ?k3 ?_ ?z; (case k1 => k_asm); (case k2 => k_asm); (case k3 => k_upd); (case z => first | size_fits | exact Nat.le_trans (by with_reducible assumption) (by decide)); k_whole); intro _ _ _; (try k_sweep))
  k_with "exec Assign cons ListComp" => (k_here; k_dflt (refine' compA ?c0 ?c1 ?c2 ?c3 ?_; (case c0 => exact rfl); (case c1 => with_unfolding_all rfl); (case c2 => exact rfl); (case c3 => decide)))
  k_with "leaving ref" => (k_here; first | (refine' leave_raiseS ?k1 (Heap.MadeExc.of (by assumption)) ?k2 ?k3 ?_; (case k1 => assumption); (case k2 => assumption); (case k3 => k_asm); k_whole; intro h' _ R' RK' U'; (try dsimp only at R' U' ⊢)) | (refine' leave_onS ?k1 ?k2 ?k3 ?k4 ?_; (case k3 => assumption); (case k1 => assumption); (case k4 => assumption); (case k2 => assumption); k_whole; intro h' R' RK' U'; (try dsimp only at R' U' ⊢)))
  k_with "exec For" => (with_unfolding_all refine wpAny_For ?_ (by intro _; rfl))
  k_with "exec For Name Call cons nil" => (with_unfolding_all refine wpAny_For ?_ (by intro _; rfl))
  k_with "noteFrame ref" => (k_here; k_dflt (refine' caughtC ?R ?F ?K ?U ?XB ?TB ?D ?ex ?hv ?_; (case R => assumption); (case F => assumption); (case K => assumption); (case U => assumption); (case XB => assumption); (case TB => assumption); (case D => assumption); (case ex => k_is); (case hv => exact PyProof.Rows.Boot.«StopIteration»); k_whole); intro _ _ _ _ _ _ _ _ _ K' _ _ _; (try k_lift K'); (try k_sweep))
  k_with "call builtin:iter" => (k_here; (with_reducible show wpAny _ _ (call (Value.builtin "iter") [Value.ref _]) _ _ _); k_dflt (refine' iter_listK ?F ?N ?m ?_; (case F => k_asm); (case N => k_asm); (case m => k_mem); k_whole); intro _ _ _ _ l9; (try k_lt l9); (try k_sweep))
  k_with "call builtin:len" => (k_here; (with_reducible show wpAny _ _ (call (Value.builtin "len") [Value.str (mk _) _]) _ _ _); (refine len_mk (by assumption) ?_))
  have hold0 : HoldK "+Comp" := .mk
  have hold1 : HoldK "pyIter ref" := .mk
  have hold2 : HoldK "pyIter str" := .mk
  have hold3 : HoldA 175 := .mk
  have hold4 : HoldA 356 := .mk
  have skon : SkOn := .mk
  intro w Ws tx Rw rs nr rest hW hn hrs hR
  unfold Con0
  intro mean mg mb dp un gd cn cs a ccd A₀ h₀ L m s Q E B F X N T hk hd hu hret
  refine wpAny_call ?_
  k_dflt (refine' code_defS0 (binds := [(Str.ofString "text", .str (mk Ws.flatten) tx), (Str.ofString "row", .ref Rw)]) ?k1 ?k2 ?k3 ?k4 ?k5 ?kA ?k6 ?k7 ?k8 ?k9 ?kB ?_ ?cK ?c2 ?c3 ?c4 ?c5; (case kA => exact rfl); (case k2 => k_asm); (case k1 => k_asm); (case k3 => k_asm); (case k4 => k_asm); (case k5 => k_asm); (case k6 => k_is); (case k7 => k_is); (case k8 => k_room); (case k9 => first | exact BindsTo.of_eq rfl | exact binds_K (by k_in) rfl (by k_is) rfl rfl rfl); (case kB => exact locs rfl); (case cK => assumption); (case c2 => exact rfl); (case c3 => exact rfl); (case c4 => exact rfl); (case c5 => decide); k_whole; intro g1 L1 h1 FG1 F1 N1 B1 X1 T1 D1; (try dsimp only); (try k_lift B1); (try k_fold))
  have hsz : (mk Ws.flatten).cps.size ≤ sizeLine := by
    show Ws.flatten.toArray.size ≤ sizeLine
    rw [List.size_toArray]
    exact Nat.le_trans hn (by decide)
  k_steps
  refine compGoES (fun i ys news' => news' = rest ∧ IntsAre ys ((Ws.flatten.take i).map fun c => ((c : Nat) : Int))) (by rfl) hsz (by decide) (by rfl) (by rfl) F1 N1 ?h0 ?turn ?fin
  case h0 => exact ⟨rfl, .nil⟩
  case turn =>
    intro i c ys news₁ h₁ tk₁ Ia oI C oC D m₂ u E' hv hq9; obtain ⟨rfl, hys⟩ := hq9; intro hC hm2 F3 N3 hoff hne
    clear F1 N1
    dsimp only [CTree]
    k_steps
    refine (exI3 ⟨rfl, F3, N3, hoff, rfl, ?_⟩)
    have hv' : Ws.flatten[i]? = some c := by simpa [mk] using hv
    rw [take_snoc hv', List.map_append]
    exact ints_snoc hys
  case fin =>
    intro D h' tk' news' ys F' N' hD hq9; obtain ⟨rfl, hys⟩ := hq9
    clear F1 N1
    k_steps
    refine Hold.to ?_
    have hys' : IntsAre ys (Ws.flatten.map fun c => ((c : Nat) : Int)) := by
      have e : Ws.flatten.take (mk Ws.flatten).cps.size = Ws.flatten := List.take_of_length_le (by show _ ≤ Ws.flatten.toArray.size; simp)
      rw [e] at hys
      exact hys
    rename Fr g1 L1 _ _ => F5
    rename News g1 L1 _ _ => N5
    rename IsRange _ _ _ _ _ _ _ _ => hRg
    rename _ ∧ _ ∧ AllLt _ news' => lA
    rename _ ∧ AllLt _ news' => lB
    obtain ⟨rl, Io, F6, N6, lC, lE⟩ : ∃ rl Io, Fr g1 L1 _ (fun y => if y = Str.ofString "read" then some (Value.ref rl) else if y = Str.ofString "octets" then some (Value.ref Io) else List.lookup y [(Str.ofString "text", Value.str (mk Ws.flatten) tx), (Str.ofString "row", Value.ref Rw)].reverse) ∧ News g1 L1 _ ((rl, listOf #[] 0) :: (Io, iterO D 0) :: (D, LCg.lst ys) :: news') ∧ ((@LT.lt Nat _ Io rl) ∧ (@LT.lt Nat _ D rl) ∧ AllLt rl news') ∧ ((@LT.lt Nat _ D Io) ∧ AllLt Io news') := ⟨_, _, F5, N5, lA, lB⟩
    clear F5 N5 lA lB
    have hsm := small_len hn
    refine iterR (n := Ws.flatten.length + 1) (fun i m' nw => i ≤ Ws.length ∧ ∃ rd k u1, nw = (rl, listOf (List.toArray rd) k) :: (Io, iterO D ((Ws.take i).flatten.length)) :: (D, LCg.lst ys) :: news' ∧ IntsAre rd ((Ws.take i).map numZ) ∧ m' = fun y => if y = Str.ofString "turn" then u1 else if y = Str.ofString "read" then some (Value.ref rl) else if y = Str.ofString "octets" then some (Value.ref Io) else List.lookup y [(Str.ofString "text", Value.str (mk Ws.flatten) tx), (Str.ofString "row", Value.ref Rw)].reverse) (by rfl) hsm.1 hsm.2 F6 N6 hRg ?h0 ?turn ?done
    case h0 => exact ⟨Nat.zero_le _, [], 0, none, rfl, .nil, kvN rfl⟩
    case turn =>
      intro i tv m₁ news₁ h₁ tk₁ I oi hi hq9; obtain ⟨hiW, rd, kd, u1, rfl, hrd, rfl⟩ := hq9; intro hne F3 N3
      have qI1 : @Ne Nat I rl := fun e => hne _ (.head _) e.symm
      have qI2 : @Ne Nat I Io := fun e => hne _ (.tail _ (.head _)) e.symm
      have qI3 : @Ne Nat I D := fun e => hne _ (.tail _ (.tail _ (.head _))) e.symm
      have qI4 : ∀ p ∈ news', p.1 ≠ I := fun p hp => hne p (.tail _ (.tail _ (.tail _ hp)))
      have qA := allLt_ne lC.2.2
      have qB := allLt_ne lE.2
      have hio : ∀ (o1 : Obj), ∀ p ∈ (I, oi) :: (rl, o1) :: (D, LCg.lst ys) :: news', p.1 ≠ Io := fun o1 p hp => by
        rcases List.mem_cons.mp hp with rfl | hp
        · exact qI2
        rcases List.mem_cons.mp hp with rfl | hp
        · exact Nat.ne_of_gt lC.1
        rcases List.mem_cons.mp hp with rfl | hp
        · exact Nat.ne_of_lt lE.1
        · exact qB p hp
      clear F6 N6
      replace N3 := news_sw N3
      by_cases hlt : i < Ws.length
      · obtain ⟨x, hx⟩ : ∃ x, Ws[i]? = some x := ⟨_, List.getElem?_eq_getElem hlt⟩
        have hwx := hW x (List.mem_of_getElem? hx)
        obtain ⟨pre, c, rfl, -⟩ := id hwx
        have hvs : ∀ (k y : Nat), (pre ++ [c])[k]? = some y → ∃ t, ys.toArray[(Ws.take i).flatten.length + k]? = some (.int (y : Int) t) := fun k y hk => ints_get hys' (by rw [List.getElem?_map, flat_get hx hk]; rfl)
        k_steps
        refine Hold.to ?_; k_dflt (refine' c_varint _ _ D pre c ys.toArray ys.length _ _ hwx ?p1 ?p2 hvs _ _ _ _ _ _ _ _ _ _ _ _ _ _ _ _ _ _ _ _ ?k1 ?k2 ?k3 ?k4 ?k5 ?kK ?kd ?ku ?_; (case k1 => k_asm); (case k2 => k_asm); (case k3 => k_asm); (case k4 => k_asm); (case k5 => k_asm); (case kK => first | exact rfl | assumption); (case kd => k_room); (case ku => k_units); (case p1 => exact .tail _ (.tail _ (.head _))); (case p2 => exact hio _); intro r9 n9 h9 tk9 F9 N9 H9)
        obtain ⟨t9, rfl, rfl⟩ := H9
        (try dsimp only); (try k_fold)
        k_steps
        rename Fr g1 L1 _ _ => F9
        rename News g1 L1 _ _ => N9
        refine (exI3 ⟨(rl, listOf (List.toArray (rd ++ [Value.int (numZ (pre ++ [c])) t9])) (kd + 1)) :: (Io, iterO D ((Ws.take i).flatten.length + (pre ++ [c]).length)) :: (D, LCg.lst ys) :: news', rfl, F9, ?N, ?off, by omega, rd ++ [Value.int (numZ (pre ++ [c])) t9], kd + 1, _, by rw [flat_take hx, show ((Ws.take i).flatten ++ (pre ++ [c])).length = (Ws.take i).flatten.length + (pre ++ [c]).length from List.length_append], ?_, kvR⟩)
        case N => exact news_ws N9
        case off => exact off3 qI1 qI2 qI3 qI4
        rw [take_snoc hx, List.map_append]
        exact ints_snoc hrd
      · obtain rfl : i = Ws.length := by omega
        rw [List.take_length] at hrd N3
        have hend : ys.toArray[Ws.flatten.length]? = none := by
          have := hys'.length
          rw [List.length_map] at this
          simp [this]
        k_steps
        refine Hold.to ?_; k_dflt (refine' c_varintX _ _ D ys.toArray ys.length _ _ ?p1 ?p2 hend _ _ _ _ _ _ _ _ _ _ _ _ _ _ _ _ _ _ _ _ ?k1 ?k2 ?k3 ?k4 ?k5 ?kK ?kd ?ku ?_; (case k1 => k_asm); (case k2 => k_asm); (case k3 => k_asm); (case k4 => k_asm); (case k5 => k_asm); (case kK => first | exact rfl | assumption); (case kd => k_room); (case ku => k_units); (case p1 => exact .tail _ (.tail _ (.head _))); (case p2 => exact hio _); intro e9 g9 h9 tk9 n9 F9 R9 U9 H9)
        subst H9
        (try dsimp only); (try k_fold)
        k_steps
        rename Fr _ L1 _ _ => F9
        rename News _ L1 _ _ => N9
        refine' eq_intsL ?N ?m1 ?m2 hrd hrs ?hu ?_
        case N => exact N9
        case m1 => k_mem
        case m2 => k_mem
        case hu => ktr_units
        (try dsimp only); (try k_fold)
        k_steps
        rename Fr _ L1 _ _ => F8
        rename News _ L1 _ _ => N8
        generalize hB9 : (_, _) :: (I, oi) :: _ = B9 at N8
        have hRB : (Rw, listOf rs.toArray nr) ∈ B9 := by rw [← hB9]; exact .tail _ (.tail _ (.tail _ (.tail _ hR)))
        have heB := head_in hB9
        refine' compGoEH (x := e9) (items := rs) (na := nr) (fun i ys2 nw => nw = B9 ∧ IntsAre ys2 ((Ws.take i).map fun x => ((x.length : Nat) : Int))) ?hh ?hsz ?cl ?kd ?x1 ?F8 ?N8 ?ox ?vx ?hl ?h0 ?turn ?fin
        case hh => exact rfl
        case hsz => rw [hrs.length, List.length_map, sizeLine_eq]; have := flat_ge hW Ws.length (Nat.le_refl _); rw [List.take_length] at this; omega
        case cl => decide
        case kd => exact rfl
        case x1 => exact rfl
        case F8 => exact F8
        case N8 => exact N8
        case ox => assumption
        case vx => assumption
        case hl =>
          intro i2 ys2 nw hq9; obtain ⟨rfl, _⟩ := hq9
          exact ⟨hRB, heB⟩
        case h0 => exact ⟨rfl, .nil⟩
        case turn =>
          intro i2 v ys2 news₁ h₁ tk₁ Ia oI C oC D2 m₂ E' hv hq9; obtain ⟨rfl, hys2⟩ := hq9; intro hC hm2 F3' N3' hoff hne2
          clear F8 N8
          obtain ⟨tz, rfl⟩ := ints_val hrs hv
          have hi2 : i2 < Ws.length := by
            have h1 := (List.getElem?_eq_some_iff.mp hv).1
            have h2 := hrs.length
            rw [List.length_map] at h2
            omega
          obtain ⟨x, hx⟩ : ∃ x, Ws[i2]? = some x := ⟨_, List.getElem?_eq_getElem hi2⟩
          have hwx := hW x (List.mem_of_getElem? hx)
          have hb0 := numZ_nonneg x
          have hb1 : numZ x < 64 ^ 11 := Int.lt_trans (word_lt hwx) (by decide)
          have hxe : ((List.map numZ Ws)[i2]?).getD 0 = numZ x := by rw [List.getElem?_map, hx]; rfl
          rw [hxe] at hv hm2
          dsimp only [CTree]
          k_steps
          refine Hold.to ?_; k_dflt (refine' c_figuresZH _ _ _ _ ?p1 ?p2 _ _ _ _ _ _ _ _ _ _ _ _ _ _ _ _ _ _ _ _ _ ?k1 ?k2 ?k3 ?k4 ?k5 ?kK ?kd ?ku ?_; (case k1 => k_asm); (case k2 => k_asm); (case k3 => k_asm); (case k4 => k_asm); (case k5 => k_asm); (case kK => first | exact rfl | assumption); (case kd => k_room); (case ku => k_units); (case p1 => exact hb0); (case p2 => exact hb1); intro r9 n9 h9 tk9 F9 N9 H9)
          obtain ⟨l9, fs9, rfl, ⟨junk9, rfl⟩, hI9⟩ := H9
          have hlx : fs9.length = x.length := by
            have h1 := word_digs hwx
            have h2 := hI9.length
            omega
          have hx9 : x.length ≤ 9 := by
            obtain ⟨pre', c', e, h1, h2, -, h4⟩ := hwx
            rw [e, List.length_append, List.length_singleton]; omega
          k_steps
          have hL9 : Heap.IsList h9 l9 fs9.toArray := ⟨_, (N9 _ (.head _)).1, rfl, _, rfl⟩
          refine' len_list (l := l9) (items := fs9.toArray) ?hl9 (by rw [List.size_toArray, hlx]; exact Int.lt_of_le_of_lt (Int.ofNat_le.mpr hx9) (by decide)) ?_
          case hl9 => exact hL9
          (try dsimp only); (try k_fold)
          k_steps
          refine (exI3 ⟨rfl, by assumption, cb_drop N9 (fun p hp => drop1 hp), hoff, rfl, ?_⟩)
          rw [take_snoc hx, List.map_append]
          show IntsAre (ys2 ++ [Value.int ((fs9.toArray.size : Nat) : Int) _]) (_ ++ [((x.length : Nat) : Int)])
          rw [List.size_toArray, hlx]
          exact ints_snoc hys2
        case fin =>
          intro D2 h2' tk2' nw ys2 F2' N2' hD2 hq9; obtain ⟨rfl, hys2⟩ := hq9
          have hrl : rs.length = Ws.length := by have := hrs.length; rw [List.length_map] at this; exact this
          rw [hrl, List.take_length] at hys2
          clear F8 N8
          k_steps
          rename _ = Data.fields _ => hdd
          refine' sumH (x := e9) ?hh F2' N2' (.head _) (.tail _ heB) hdd ?hvv hys2 ?_
          case hh => exact rfl
          case hvv => assumption
          intro h8 tk8 t8 F8 N8
          rw [sum_len]
          (try dsimp only); (try k_fold)
          k_steps
          dsimp only [TurnJ]
          k_steps
          rw [beq_self_eq_true]
          rename News h₀ L _ (_ :: nw) => kN9
          exact hret _ _ _ _ (by assumption) kN9 ⟨rfl, fun p hp => .tail _ (by rw [← hB9]; exact .tail _ (.tail _ (.tail _ (.tail _ hp))))⟩
    case done =>
      intro m' nw h' tk' hq9; obtain ⟨hiW, _⟩ := hq9; intro F' N'
      exfalso
      have := flat_ge hW Ws.length (Nat.le_refl _)
      rw [List.take_length] at this
      omega
end
section
noncomputable def lnOf (r : Rec) : Ln := (r.dot, r.nm ++ [58, 32, r.p, r.q])
theorem glue_sep (sp : Array Nat) : ∀ (ps : List Str) (acc : Array Nat), (ps.foldl (fun acc p => acc ++ sp ++ p.cps) acc).toList = acc.toList ++ (ps.map (fun p => sp.toList ++ p.cps.toList)).flatten
  | [], acc => by simp
  | p :: ps, acc => by
    rw [List.foldl_cons, glue_sep sp ps]
    simp
theorem join_sep (sp : Str) (p : Str) (ps : List Str) : (Txt.join sp (p :: ps)).cps.toList = p.cps.toList ++ (ps.map (fun p => sp.cps.toList ++ p.cps.toList)).flatten := by
  show (ps.foldl (fun acc p => acc ++ sp.cps ++ p.cps) p.cps).toList = _
  rw [glue_sep]
theorem swap_sep {α : Type} (S : List Nat) (g : α → List Nat) : ∀ l : List α, (l.map fun x => S ++ g x).flatten ++ S = S ++ (l.map fun x => g x ++ S).flatten
  | [] => by simp
  | a :: l => by
    simp only [List.map_cons, List.flatten_cons, List.append_assoc, swap_sep S g l]
theorem join_lines (sp : Str) (ls : List Str) : (Txt.join sp (ls ++ [Str.ofString "", Str.ofString ""])).cps.toList = (ls.map (fun p => p.cps.toList ++ sp.cps.toList)).flatten ++ sp.cps.toList := by
  have e0 : (Str.ofString "").cps.toList = [] := by decide +kernel
  cases ls with
  | nil =>
    rw [List.nil_append, join_sep]
    simp [e0]
  | cons a ls =>
    rw [List.cons_append, join_sep, List.map_append, List.flatten_append]
    simp only [List.map_cons, List.map_nil, List.flatten_cons, List.flatten_nil, e0, List.append_nil, List.append_assoc]
    rw [← List.append_assoc (ls.map _).flatten, swap_sep]
    simp only [List.append_assoc]
theorem ofs (s : String) (l : List Nat) (h : (Str.ofString s).cps.toList = l) : (Str.ofString s).cps.toList = l := h
theorem app_toList (a b : Str) : (a ++ b).cps.toList = a.cps.toList ++ b.cps.toList := by
  show (a.cps ++ b.cps).toList = _
  simp
theorem line_rec {i : It} {r : Rec} (h : i.pair = r.pair) : (lineS i).cps.toList = r.key ++ [58, 32, r.p, r.q] := by
  have hk : i.k = keyS r := congrArg Prod.fst h
  have hv : i.v = valS r := congrArg Prod.snd h
  have e : (Str.ofString ": ").cps.toList = [58, 32] := by decide +kernel
  unfold lineS
  rw [app_toList, app_toList, e, hk, hv]
  simp [keyS, valS, mk]
theorem attr_rec {i : It} {r : Rec} (h : i.pair = r.pair) : (attrS i).cps.toList = attrC r := by
  have hk : i.k = keyS r := congrArg Prod.fst h
  have hv : i.v = valS r := congrArg Prod.snd h
  have e1 : (Str.ofString " ").cps.toList = [32] := by decide +kernel
  have e2 : (Str.ofString "=\"").cps.toList = [61, 34] := by decide +kernel
  have e3 : (Str.ofString "\"").cps.toList = [34] := by decide +kernel
  have e4 : (escV i.v).cps.toList = r.p :: escM r.q := by rw [hv]; rfl
  unfold attrS attrC
  rw [app_toList, app_toList, app_toList, app_toList, e1, e2, e3, e4, hk]
  simp [keyS, mk]
theorem map_rel {f : It → List Nat} {g : Rec → List Nat} (h : ∀ (i : It) (r : Rec), i.pair = r.pair → f i = g r) : ∀ {I : List It} {rs : List Rec}, I.map It.pair = rs.map Rec.pair → I.map f = rs.map g
  | [], [], _ => rfl
  | [], _ :: _, e => by simp at e
  | _ :: _, [], e => by simp at e
  | i :: I, r :: rs, e => by
    simp only [List.map_cons, List.cons.injEq] at e
    rw [List.map_cons, List.map_cons, h i r e.1, map_rel h e.2]
theorem tag_text {Is : List It} {ss : List Rec} (h : Is.map It.pair = ss.map Rec.pair) : (tagS Is).cps.toList = tagC ss := by
  have e0 : Str.ofString "" = ⟨#[]⟩ := rfl
  have e1 : (Str.ofString "<" ++ Str.ofString "m").cps.toList = [60, 109] := by decide +kernel
  have e2 : (Str.ofString ">").cps.toList = [62] := by decide +kernel
  have e3 : endS.cps.toList = [60, 47, 109, 62] := by decide +kernel
  have hm : Is.map (fun i => (attrS i).cps.toList) = ss.map attrC := map_rel (fun i r h => attr_rec h) h
  unfold tagS tagP tagC
  rw [e0, join_nil]
  split
  · rename_i hI
    rw [hI] at hm
    rw [← hm]
    simp only [List.map_cons, List.map_nil, List.flatten_cons, List.flatten_nil, e1, e2, e3]
    rfl
  · simp only [List.map_cons, List.map_nil, List.flatten_cons, List.flatten_nil, e1, e2, e3, join_nil, List.map_map]
    rw [show ((fun x : Str => x.cps.toList) ∘ attrS) = fun i => (attrS i).cps.toList from rfl, hm]
    simp
theorem str_text {I : List It} {rs : List Rec} (h : I.map It.pair = rs.map Rec.pair) : (Txt.join (Str.ofString "\r\n") (I.map lineS ++ [Str.ofString "", Str.ofString ""])).cps.toList = ((rs.map lnOf).map lnC).flatten ++ [13, 10] := by
  have e : (Str.ofString "\r\n").cps.toList = [13, 10] := by decide +kernel
  rw [join_lines, e, List.map_map, List.map_map]
  congr 2
  refine map_rel (fun i r h => ?_) h
  simp only [Function.comp, line_rec h]
  clear h
  obtain ⟨d, a, b, p, q⟩ := r
  cases d <;> simp [lnC, lnOf, Rec.key]
theorem raw_text {I Is : List It} {rs ss : List Rec} (h : I.map It.pair = rs.map Rec.pair) (h2 : Is.map It.pair = ss.map Rec.pair) :
    Txt.join (Str.ofString "\r\n") (I.map lineS ++ [Str.ofString "", Str.ofString ""]) ++ tagS Is = mk (rawT (rs.map lnOf) (tagC ss)) := by
  refine str_toList ?_
  rw [app_toList, str_text h, tag_text h2, rawT, List.append_assoc]
theorem quo_text {rs ss : List Rec} (he : rs = [] ↔ ss = []) : quoT (rs.map lnOf) (tagC ss) = (mailW rs ss).flatten := by
  rw [← text_words rs ss he]
  unfold quoT textQ
  rw [List.map_map, List.append_assoc]
  congr 2
  refine List.map_congr_left fun r _ => ?_
  obtain ⟨d, a, b, p, q⟩ := r
  cases d <;> simp [lnQ, lnOf, lineQ]
theorem safe_off {g : List Nat} (h0 : g.head? ≠ some 46) (h10 : ∀ c ∈ g, c ≠ 10) : Safe g := fun j hj => by
  cases j with
  | zero => exfalso; exact h0 (by rw [List.head?_eq_getElem?]; exact hj)
  | succ k => exact ⟨k, rfl, fun e => h10 10 (List.mem_of_getElem? e) rfl⟩
theorem mem_esc {q : Nat} (h : q ∈ [38, 60, 34, 9, 62, 46]) : ∀ c ∈ escM q, c ≠ 10 ∧ c ≠ 13 := by
  have : ∀ x ∈ [38, 60, 34, 9, 62, 46], ∀ c ∈ escM x, c ≠ 10 ∧ c ≠ 13 := by decide
  exact this q h
theorem esc_le {q : Nat} (h : q ∈ [38, 60, 34, 9, 62, 46]) : (escM q).length ≤ 6 := by
  have : ∀ x ∈ [38, 60, 34, 9, 62, 46], (escM x).length ≤ 6 := by decide
  exact this q h
theorem q_in {r : Rec} (h : Rok r ∧ r.q ≠ 10) : r.q ∈ [38, 60, 34, 9, 62, 46] := by
  rcases List.mem_append.mp (show r.q ∈ [38, 60, 34, 9, 62, 46] ++ [10] from h.1.2.2.2) with h1 | h1
  · exact h1
  · exact absurd (List.mem_singleton.mp h1) h.2
theorem nm_len (r : Rec) : r.nm.length ≤ 2 := by
  unfold Rec.nm; cases r.b <;> simp
theorem key_len (r : Rec) : r.key.length ≤ 3 := by
  have := nm_len r
  unfold Rec.key; split <;> simp only [List.length_append, List.length_cons, List.length_nil, List.nil_append] <;> omega
theorem key_cl {r : Rec} (h : Rok r) : ∀ c ∈ r.key, c ≠ 10 ∧ c ≠ 13 := fun c hc => by
  unfold Rec.key at hc
  rcases List.mem_append.mp hc with hc | hc
  · split at hc
    · cases List.mem_singleton.mp hc; exact ⟨by decide, by decide⟩
    · cases hc
  · have := let_rng (nm_let h c hc); omega
theorem attrC_cl {r : Rec} (h : Rok r ∧ r.q ≠ 10) : ∀ c ∈ attrC r, c ≠ 10 ∧ c ≠ 13 := fun c hc => by
  have hp := let_rng h.1.2.2.1
  unfold attrC at hc
  simp only [List.cons_append, List.mem_cons, List.mem_append, List.append_assoc, List.nil_append, List.not_mem_nil, or_false] at hc
  rcases hc with rfl | hc | rfl | rfl | rfl | hc | rfl
  · exact ⟨by decide, by decide⟩
  · exact key_cl h.1 c hc
  · exact ⟨by decide, by decide⟩
  · exact ⟨by decide, by decide⟩
  · omega
  · exact mem_esc (q_in h) c hc
  · exact ⟨by decide, by decide⟩
theorem tagC_cl {ss : List Rec} (h : ∀ r ∈ ss, Rok r ∧ r.q ≠ 10) : ∀ c ∈ tagC ss, c ≠ 10 ∧ c ≠ 13 := fun c hc => by
  unfold tagC at hc
  simp only [List.append_assoc, List.mem_append] at hc
  rcases hc with hc | hc | hc | hc
  · revert c; decide
  · obtain ⟨l, hl, hc⟩ := List.mem_flatten.mp hc
    obtain ⟨r, hr, rfl⟩ := List.mem_map.mp hl
    exact attrC_cl (h r hr) c hc
  · revert c; decide
  · revert c; decide
theorem flat_le {α : Type} {f : α → List Nat} {k : Nat} : ∀ {l : List α}, (∀ x ∈ l, (f x).length ≤ k) → ((l.map f).flatten).length ≤ k * l.length
  | [], _ => by simp
  | a :: l, h => by
    have ih := flat_le (l := l) fun x hx => h x (.tail _ hx)
    have := h a (.head _)
    simp only [List.map_cons, List.flatten_cons, List.length_append, List.length_cons, Nat.mul_succ]
    omega
theorem quo_in {rs ss : List Rec} (hr : ∀ r ∈ rs, Rok r ∧ r.q ≠ 10) (hs : ∀ r ∈ ss, Rok r ∧ r.q ≠ 10) (h1 : rs.length ≤ 62) (h2 : ss.length ≤ 62) : QuoteIn (rs.map lnOf) (tagC ss) := by
  have hcl : ∀ r, Rok r ∧ r.q ≠ 10 → ∀ c ∈ (lnOf r).2, c ≠ 10 ∧ c ≠ 13 := fun r h c hc => by
    have hp := let_rng h.1.2.2.1
    have hq := q_in h
    unfold lnOf at hc
    simp only [List.mem_append, List.mem_cons, List.not_mem_nil, or_false] at hc hq
    rcases hc with hc | rfl | rfl | rfl | rfl
    · have := let_rng (nm_let h.1 c hc); omega
    · exact ⟨by decide, by decide⟩
    · exact ⟨by decide, by decide⟩
    · omega
    · omega
  refine ⟨fun l hl => ?_, fun l hl => ?_, ?_, tagC_cl hs, (fun e => by simp [tagC] at e), ?_⟩
  · obtain ⟨r, h, rfl⟩ := List.mem_map.mp hl
    refine safe_off ?_ fun c hc => (hcl r (hr r h) c hc).1
    show some r.a ≠ some 46
    have := let_rng (hr r h).1.1
    intro e
    have : r.a = 46 := Option.some.inj e
    omega
  · obtain ⟨r, h, rfl⟩ := List.mem_map.mp hl
    exact hcl r (hr r h)
  · refine safe_off ?_ fun c hc => (tagC_cl hs c hc).1
    show some 60 ≠ some 46
    decide
  · have e1 : (((rs.map lnOf).map lnQ).flatten).length ≤ 10 * rs.length := by
      rw [List.map_map]
      refine flat_le fun r _ => ?_
      have := nm_len r
      obtain ⟨d, a, b, p, q⟩ := r
      cases d <;> simp only [Function.comp, lnQ, lnOf, if_true, if_false, Bool.false_eq_true, List.length_append, List.length_cons, List.length_nil] <;> omega
    have e2 : ((ss.map attrC).flatten).length ≤ 14 * ss.length := by
      refine flat_le fun r hr' => ?_
      have h3 := key_len r
      have h4 := esc_le (q_in (hs r hr'))
      unfold attrC
      simp only [List.length_append, List.length_cons, List.length_nil]
      omega
    unfold tagC
    simp only [List.length_append, List.length_cons, List.length_nil]
    omega
theorem key_tag {r : Rec} (h : Rok r) : KeyG (keyS r) := by
  have hall : ∀ d : Bool, ∀ a ∈ letN, ∀ b ∈ (none :: letN.map some), KeyG (mk ((if d then [46] else []) ++ (a :: (b : Option Nat).toList))) := by
    unfold KeyG
    decide +kernel
  have hb : r.b ∈ (none :: letN.map some) := by
    cases hb : r.b with
    | none => exact .head _
    | some b => exact .tail _ (List.mem_map.mpr ⟨b, h.2.1 b hb, rfl⟩)
  exact hall r.dot r.a h.1 r.b hb
end
theorem flush2 : True ∧ True := by first | (walk1; done) | exact ⟨trivial, trivial⟩
section
local macro_rules | `(tactic| walk_at "pyIter ref") => rd #[] "~( ~( ~with_reducible ~show wpAny ~_ 1~E.hole ~_ 1~E.hole ~(  1~hygieneInfo 2~E.hygienicLParen pyIter ~(  1~hygieneInfo 2~E.hygienicLParen Value.ref ~_ 1~E.hole 1~null 2~E.app ~) 3~E.paren 1~null 2~E.app ~) 3~E.paren ~(  1~hygieneInfo 2~E.hygienicLParen ~fun it s₂ 2~null 0~null ~=> codeAny ~_ 1~E.hole ~_ 1~E.hole ~(  1~hygieneInfo 2~E.hygienicLParen PySem.Code.forLoop ~(  1~hygieneInfo 2~E.hygienicLParen PySem.Expr.Name ~_ 1~E.hole ~_ 1~E.hole 2~null 2~E.app ~) 3~E.paren it ~_ 1~E.hole ~_ 1~E.hole ~_ 1~E.hole 5~null 2~E.app ~) 3~E.paren ~_ 1~E.hole s₂ 5~null 2~E.app 4~E.basicFun 2~E.fun ~) 3~E.paren ~_ 1~E.hole ~_ 1~E.hole 6~null 2~E.app 2~T.show 1~S 2~T.withReducible 1~S ~) 3~T.paren ~; ~refine Hold.of ~? ~_ 2~E.syntheticHole 1~null 2~E.app 2~T.refine 3~S ~) 3~T.paren"
theorem news_in2 {P : Params} {H h : Heap} {L xt dt lt : Addr} {t : Tok} {n : Nat} {I : List It} {rest : Led} {p q : Addr × Obj} (N : News H L h (p :: q :: TabF P xt dt lt t n I rest)) : News H L h (TabF P xt dt lt t n I (p :: q :: rest)) := cb_drop N (fm (by k_mem) (fm (by k_mem) (fm (by k_mem) (fm (by k_mem) (fm (by k_mem) (mt (mt (mt (mt (mt mi))))))))))
theorem rec_bnd {r : Rec} (h : Rok r) : (0 ≤ r.num ∧ r.num < 64 ^ 11) ∧ 0 ≤ r.val ∧ r.val < 4096 := by
  obtain ⟨h1, h2, h3, h4⟩ := h.ok
  unfold Let at h1 h2 h3
  constructor
  · have hn : 0 ≤ r.num ∧ r.num < 4096 := by
      unfold Rec.num
      cases hb : r.b with
      | none => simp only; omega
      | some b => have := h2 b hb; simp only; omega
    exact ⟨hn.1, Int.lt_trans hn.2 (by decide)⟩
  · unfold Rec.val; omega
theorem name_len (x : Int) : (drawnName x).length ≤ 2 := by
  rw [drawn_name]
  show (drawnRec x).nm.toArray.size ≤ 2
  rw [List.size_toArray]
  unfold Rec.nm
  cases (drawnRec x).b <;> simp
theorem ans_at {w : World} {H h : Heap} {L xt d l : Addr} {t : Tok} {n : Nat} {I : List It} {rest : Led} {rs : List Rec} {c : Rec} {deed : Int} (_N : News H L h (TabF w.params xt d l t n I rest)) (hdd : deed = 0 ∨ deed = 1 ∨ deed = 2 ∨ deed = 3) (hI : ∀ i ∈ I, i.obj ∈ rest) (hIn : I.length ≤ 64) (hlr : ∀ p ∈ rest, p.1 ≠ l) (hxl : @Ne Nat xt l) (hdl : @Ne Nat d l)
    (hrel : I.map It.pair = rs.map Rec.pair) (hrs : ∀ r ∈ rs, Rok r ∧ r.q ≠ 10) (hc : Rok c) (key val : Str) (hk : key = keyS c) (hv : val = valS c) (td tn tv : Tok) :
    Con0 w 10 (call (.ref 377) [.ref xt, .int deed td, .str key tn, .str val tv]) (TabF w.params xt d l t n I rest) (fun r news' => AnsIs (stepR deed c rs).2 r ∧ ∃ I', TabPost w.params xt d l t I' rest news' ∧ I'.map It.pair = (stepR deed c rs).1.map Rec.pair) := by
  subst hk; subst hv
  exact c_answer w xt d l t n I rest rs c deed td tn tv hdd hI hIn hlr hxl hdl hrel hrs hc
theorem off_pair {T I l : Addr} {o1 o2 : Obj} {rest : Led} (h1 : @Ne Nat T l) (h2 : @Ne Nat I l) (h : ∀ p ∈ rest, p.1 ≠ l) : ∀ p ∈ (T, o1) :: (I, o2) :: rest, p.1 ≠ l := fun p hp => by
  rcases List.mem_cons.mp hp with rfl | hp
  · exact h1
  rcases List.mem_cons.mp hp with rfl | hp
  · exact h2
  · exact h p hp
theorem rel_okI {I : List It} {rs : List Rec} (h : I.map It.pair = rs.map Rec.pair) (hrs : ∀ r ∈ rs, Rok r ∧ r.q ≠ 10) : ∀ i ∈ I, ItOk i := fun i hi => by
  obtain ⟨r, hr, e1, e2⟩ := rel_mem h hi
  unfold ItOk
  rw [e1, e2]
  exact ⟨(key_good (hrs r hr).1).1, (key_good (hrs r hr).1).2, (val_good (hrs r hr).1 (hrs r hr).2).1, (val_good (hrs r hr).1 (hrs r hr).2).2⟩
theorem rel_vv {I : List It} {rs : List Rec} (h : I.map It.pair = rs.map Rec.pair) (hrs : ∀ r ∈ rs, Rok r ∧ r.q ≠ 10) : ∀ i ∈ I, ∃ ca cb, ca ∈ letN ∧ cb ∈ [38, 60, 34, 9, 62, 46] ∧ i.v = ⟨#[ca, cb]⟩ := fun i hi => by
  obtain ⟨r, hr, e1, e2⟩ := rel_mem h hi
  exact ⟨r.p, r.q, (hrs r hr).1.2.2.1, q_in (hrs r hr), e2⟩
theorem rel_kg {I : List It} {rs : List Rec} (h : I.map It.pair = rs.map Rec.pair) (hrs : ∀ r ∈ rs, Rok r ∧ r.q ≠ 10) : ∀ i ∈ I, KeyG i.k := fun i hi => by
  obtain ⟨r, hr, e1, e2⟩ := rel_mem h hi
  rw [e1]; exact key_tag (hrs r hr).1
theorem tab123 {H h : Heap} {L xt d l : Addr} {P : Params} {t : Tok} {n : Nat} {I : List It} {rest : Led} (N : News H L h (TabF P xt d l t n I rest)) (h123 : (123, tabObj #[]) ∈ rest) :
    News H L h ((123, tabObj #[]) :: TabF P xt d l t n I (rest.filter fun p => decide (p.1 ≠ 123))) ∧ (∀ p ∈ rest.filter (fun p => decide (p.1 ≠ 123)), p.1 ≠ 123) ∧ (∀ q ∈ rest, q.2.cls ≠ .none → q ∈ rest.filter (fun p => decide (p.1 ≠ 123))) := by
  refine ⟨cb_drop N fun p hp => ?_, fun p hp => of_decide_eq_true (List.mem_filter.mp hp).2, fun q hq hc => List.mem_filter.mpr ⟨hq, decide_eq_true fun e => hc ?_⟩⟩
  · rcases List.mem_cons.mp hp with rfl | hp
    · exact .tail _ (.tail _ (.tail _ h123))
    rcases List.mem_cons.mp hp with rfl | hp
    · exact .head _
    rcases List.mem_cons.mp hp with rfl | hp
    · exact .tail _ (.head _)
    rcases List.mem_cons.mp hp with rfl | hp
    · exact .tail _ (.tail _ (.head _))
    · exact .tail _ (.tail _ (.tail _ (List.mem_filter.mp hp).1))
  · have h1 := N.get (a := 123) (o := tabObj #[]) (.tail _ (.tail _ (.tail _ h123)))
    have h2 := N.get (a := q.1) (o := q.2) (.tail _ (.tail _ (.tail _ hq)))
    rw [e, h1] at h2
    rw [← Option.some.inj h2]
theorem dd_len : ∀ rs : List Rec, (dd rs).length ≤ rs.length := by
  intro rs
  suffices h : ∀ (l : List Rec) (acc : List (Str × Rec)), (l.foldl (fun acc r => put acc (keyS r) r) acc).length ≤ acc.length + l.length by
    have := h rs []
    simpa [dd] using this
  intro l
  induction l with
  | nil => intro acc; simp
  | cons a l ih =>
    intro acc
    have h1 := ih (put acc (keyS a) a)
    have h2 : (put acc (keyS a) a).length ≤ acc.length + 1 := put_len
    simp only [List.foldl_cons, List.length_cons]
    omega
theorem raw_size {x y : Str} {ls : List Ln} {tg : List Nat} (h : x ++ y = mk (rawT ls tg)) (q : QuoteIn ls tg) : x.length + y.length ≤ sizeLine := by
  have h1 : (x ++ y).cps.size = x.cps.size + y.cps.size := by
    show (x.cps ++ y.cps).size = _
    simp
  rw [h] at h1
  have h2 : (mk (rawT ls tg)).cps.size = (rawT ls tg).length := by
    show (rawT ls tg).toArray.size = _
    simp
  have h3 := raw_le ls tg
  have h4 := q.size
  show x.cps.size + y.cps.size ≤ sizeLine
  rw [sizeLine_eq]
  unfold quoT at h3
  omega
theorem c_quoteW (w : World) (ls : List Ln) (tg F : List Nat) (t : Tok) (news : Led) (q : QuoteIn ls tg) (h : quoT ls tg = F) : Con w 4 (call (.ref 192) [.str (mk (rawT ls tg)) t]) news (fun r news' => news' = news ∧ ∃ t, r = .str (mk F) t) := by
  subst h; exact c_quote w ls tg t news q
theorem law_news {P : Params} {H h : Heap} {L D D1 l14 Rr lt xt dt : Addr} {oD oD1 o14 : Obj} {t : Tok} (N : News H L h [(D, oD), (D1, oD1), (l14, o14), (Rr, listOf #[] 0), (lt, listOf #[] 0), (xt, instObj 338 dt), (dt, dictOf [⟨PyData.keyHash P (Str.ofString "_headers"), .str (Str.ofString "_headers") t, .ref lt⟩] 1), (123, tabObj #[])]) :
    News H L h (TabF P xt dt lt t 0 [] [(Rr, listOf (List.toArray (ros [])) 0), (D, oD), (123, tabObj #[])]) := cb_drop N (by
  unfold TabF
  repeat' first | (refine List.forall_mem_cons.mpr ⟨by k_mem, ?_⟩) | exact fun _ h => nomatch h)
theorem post_ok (l m : List WData) : PySem.Challenge.rw_ta0132_01.row.claim.post l (WData.bool true) m = true := by with_unfolding_all rfl
theorem law_holds : PySem.Challenge.rw_ta0132_01.Holds := hd1._proof_1_820 fun said => hd1._proof_1_819 said (by
  k_with_none
  k_with "exec For" => ((with_reducible show wpAny _ _ (exec (PySem.Stmt.For (PySem.Expr.Name _ _) (PySem.Expr.BinOp _ _ _ _) _ _ _) _) _ _ _); with_unfolding_all refine wpAny_For ?_ (by intro _; rfl))
  k_with "binaryOp Add str str" => (k_here; (with_reducible show wpAny _ _ (binaryOp _ (Value.str (Str.ofString ".") _) (Value.str (drawnName _) _)) _ _ _); refine add_str ?_ (by rw [sizeLine_eq]; have e1 : (Str.ofString ".").length = 1 := rfl; omega); intro _ _; (try dsimp only))
  k_with "binaryOp Add str str" => ((with_reducible show wpAny _ _ (binaryOp _ (Value.str (Txt.join _ _) _) (Value.str (tagS _) _)) _ _ _); refine Hold.of ?_)
  k_with "assign Tuple cons ref" => ((with_reducible show wpAny _ _ (assign (PySem.Expr.Tuple [PySem.Expr.Name _ _, PySem.Expr.Name _ _] _ _) _ (Value.ref _)) _ _ _); k_dflt (refine' asg2 ?k1 ?k2 ?k3 ?k4 ?k5 ?k6 ?k7 ?k8 ?k9 ?_; (case k1 => exact rfl); (case k2 => k_asm); (case k3 => k_asm); (case k4 => assumption); (case k5 => exact rfl); (case k6 => exact rfl); (case k7 => exact rfl); (case k8 => exact rfl); (case k9 => exact rfl); k_whole); intro _ _ _ _; (try dsimp only); (try k_sweep))
  have hold0 : HoldA 370 := .mk
  have hold1 : HoldA 377 := .mk
  have hold2 : HoldA 349 := .mk
  have hold3 : HoldA 382 := .mk
  have hold4 : HoldA 314 := .mk
  have hold5 : HoldA 408 := .mk
  have hold6 : HoldA 192 := .mk
  have hold7 : HoldA 394 := .mk
  have hold8 : HoldA 413 := .mk
  have hold9 : HoldK "compareOp NotEq" := .mk
  clear said
  k_go0
  (all_goals try k_fold)
  k_steps
  rename_i w z2 s1 z4 z5 z6 z7 fa z9 z10 cd z12 z13 z14 z15 hgen z17 z18 z19 z20 z21 z22 sN z24 z25 z26 z27 z28 z29 z30 sc sV z33 hLs z35 z36 z37 hIs z39 h63 z41 z42 z43 X0 T0 K0 z47 l0 xt dt z51 lx1 lx2 z54 z55 z56 z57 z58 z59 z60 lt z62 ll z64 z65 z66 z67 z68 z69 z70 z71 z72 z73 z74 z75 z76 z77 z78 Rr z80 lr z82 l14 z84 z85 D1 z87 z88 z89 z90 z91 z92 D ws hp F0 N0 hws lD
  (try clear lifted); (try clear qk); (try clear ek); (try clear codeHd); (try clear hT8); (try clear hT9)
  (try clear z92)
  (try clear z91)
  (try clear z90)
  (try clear z89)
  (try clear z88)
  (try clear z87)
  (try clear z85)
  (try clear z84)
  (try clear z82)
  (try clear z80)
  (try clear z78)
  (try clear z77)
  (try clear z76)
  (try clear z75)
  (try clear z74)
  (try clear z73)
  (try clear z72)
  (try clear z71)
  (try clear z70)
  (try clear z69)
  (try clear z68)
  (try clear z67)
  (try clear z66)
  (try clear z65)
  (try clear z64)
  (try clear z62)
  (try clear z60)
  (try clear z59)
  (try clear z58)
  (try clear z57)
  (try clear z56)
  (try clear z55)
  (try clear z54)
  (try clear z51)
  (try clear z47)
  (try clear z43)
  (try clear z42)
  (try clear z41)
  (try clear z39)
  (try clear z37)
  (try clear z36)
  (try clear z35)
  (try clear z33)
  (try clear z30)
  (try clear z29)
  (try clear z28)
  (try clear z27)
  (try clear z26)
  (try clear z25)
  (try clear z24)
  (try clear z22)
  (try clear z21)
  (try clear z20)
  (try clear z19)
  (try clear z18)
  (try clear z17)
  (try clear z15)
  (try clear z14)
  (try clear z13)
  (try clear z12)
  (try clear z10)
  (try clear z9)
  (try clear z7)
  (try clear z6)
  (try clear z5)
  (try clear z4)
  (try clear z2)
  revert w z2 s1 z4 z5 fa cd hgen sN sc sV hLs hIs h63 X0 T0 K0 l0 xt dt lx1 lx2 lt ll z64 z65 Rr lr z82 tk l14 z84 D1 z87 z88 D ws hp F0 N0 hws lD
  have skon : SkOn := .mk
  intro w z2 s1 z4 z5 fa cd hgen sN sc sV hLs hIs h63 X0 T0 K0 l0 xt dt lx1 lx2 lt ll z64 z65 Rr lr z82 tk l14 z84 D1 z87 z88 D ws hp F0 N0 hws lD
  refine Hold.to ?_
  obtain ⟨t0, N9⟩ : ∃ t, News (ghostOf s1.heap [(125, 123)]) s1.heap.objs.size hp (TabF w.params xt dt lt t 0 [] [(Rr, listOf (List.toArray (ros [])) 0), (D, listOf (List.toArray ws) 0), (123, tabObj #[])]) := ⟨_, law_news N0⟩
  clear N0
  have N0 := N9
  clear N9
  rw [law_env0] at F0
  generalize hH : ghostOf s1.heap [(125, 123)] = H at X0 T0 K0 F0 N0
  refine iterLC (items := ws) (lawJ w sc xt dt lt t0 D ws) (by rfl) (by constructor) F0 N0 ?hl ?h0 ?turn ?done
  case hl =>
    intro i m' nw h' hq9; obtain ⟨Rr', ux, ud, udo, un, uv, ua, uu, ⟨rs, nR, n, I, R, rest, rfl, -, -, -, -, -, -, -, hD, -⟩, -⟩ := hq9; intro _ N'
    exact ⟨_, (N' _ (.tail _ (.tail _ (.tail _ hD)))).1, rfl, _, rfl⟩
  case h0 =>
    refine ⟨Rr, none, none, none, none, none, none, none, ⟨[], 0, 0, [], [], _, rfl, Nat.le_refl _, (fun _ h => nomatch h), rfl, rfl, (fun _ h => nomatch h), (fun _ h => nomatch h), .head _, .tail _ (.head _), .tail _ (.tail _ (.head _)), ?_⟩, rfl⟩
    intro p hp
    simp only [List.mem_cons, List.not_mem_nil, or_false] at hp
    rcases hp with rfl | rfl | rfl
    · exact Nat.ne_of_gt lr.1
    · exact Nat.ne_of_gt lD.2.2.2.1
    · exact Nat.ne_of_lt ll.2.2
  case done =>
    revert w z2 s1 z4 z5 fa cd hgen sN sc sV hLs hIs h63 l0 xt dt lx1 lx2 lt ll z64 z65 Rr lr z82 tk l14 z84 D1 z87 z88 D ws hp hws lD t0 H hH X0 T0 K0 F0 N0
    as_aux_lemma =>
      have skon : SkOn := .mk
      intro w z2 s1 z4 z5 fa cd hgen sN sc sV hLs hIs h63 l0 xt dt lx1 lx2 lt ll z64 z65 Rr lr z82 tk l14 z84 D1 z87 z88 D ws hp hws lD t0 H hH X0 T0 K0 F0 N0
      intro m' news' h' tk' hq9; obtain ⟨Rr', ux, ud, udo, un, uv, ua, uu, ⟨rs, nR, n, It, R, rest, rfl, hrl, hrs, hrI, hrR, hIo, hRo, hRr, hDm, h123, hl⟩, rfl⟩ := hq9; intro F1 N1
      clear F0 N0
      have hIl := rel_len hrI
      have hRl : R.length = rs.length := by have := congrArg List.length hrR; simpa using this
      have hwl : ws.length ≤ 11 := by
        have h2 := hws.length
        rw [List.length_append, List.length_take] at h2
        simp only [List.length_cons, List.length_nil] at h2
        omega
      have hrl' : rs.length ≤ 11 := Nat.le_trans hrl hwl
      delta lawE at F1
      dsimp only [TabF] at N1
      k_steps
      refine Hold.to ?_; k_dflt (refine' c_str _ _ _ _ _ _ It _ ?p1 ?p2 ?p3 _ _ _ _ _ _ _ _ _ _ _ _ _ _ _ _ _ _ _ _ ?k1 ?k2 ?k3 ?k4 ?k5 ?kK ?kd ?ku ?_; (case k1 => k_asm); (case k2 => k_asm); (case k3 => k_asm); (case k4 => k_asm); (case k5 => k_asm); (case kK => first | exact rfl | assumption); (case kd => first | decide | exact Nat.le_of_ble_eq_true rfl); (case ku => first | decide | exact Nat.le_of_ble_eq_true rfl); (case p1 => exact hIo); (case p2 => exact rel_okI hrI hrs); (case p3 => omega); intro r9 n9 h9 tk9 F9 N9 H9)
      obtain ⟨rfl, ts, rfl⟩ := H9
      (try dsimp only [StrBack]); (try k_fold)
      k_steps
      rename Fr H s1.heap.objs.size _ _ => F2
      rename News H s1.heap.objs.size _ _ => N2
      obtain ⟨N3, r123, hm⟩ := tab123 N2 h123
      clear N2
      refine Hold.to ?_; k_dflt (refine' c_tag _ _ _ _ _ _ It _ ?p1 ?p2 ?p3 ?p4 ?q1 ?q2 ?q3 ?q4 _ _ _ _ _ _ _ _ _ _ _ _ _ _ _ _ _ _ _ _ ?k1 ?k2 ?k3 ?k4 ?k5 ?kK ?kd ?ku ?_; (case k1 => k_asm); (case k2 => k_asm); (case k3 => k_asm); (case k4 => k_asm); (case k5 => k_asm); (case kK => first | exact rfl | assumption); (case kd => first | decide | exact Nat.le_of_ble_eq_true rfl); (case ku => first | decide | exact Nat.le_of_ble_eq_true rfl); (case p1 => exact fun i hi => hm _ (hIo i hi) (by show Value.type "tuple" ≠ _; decide)); (case p2 => omega); (case p3 => exact rel_vv hrI hrs); (case p4 => exact rel_kg hrI hrs); (case q1 => exact Nat.ne_of_lt (Nat.lt_trans lx1 lx2)); (case q2 => exact Nat.ne_of_lt lx1); (case q3 => exact Nat.ne_of_lt ll.2.2); (case q4 => exact r123); intro r9 n9 h9 dr9 tk9 F9 N9 H9)
      obtain ⟨Is, tg, rfl, hIp, hIs2, hsub9, ps9, h1239⟩ := H9
      (try dsimp only); (try k_fold)
      obtain ⟨ss, hsm, hsp, hsI, hso⟩ := tag_recs (fun r hr => (hrs r hr).1) hrI hIp hIs2
      have hsl : ss.length ≤ 62 := by
        have h1 := hsp.length_eq
        rw [List.length_map] at h1
        have h2 : (dd rs).length ≤ rs.length := dd_len rs
        omega
      have hse : rs = [] ↔ ss = [] := by
        rw [← dd_nil]
        constructor
        · intro e; rw [e] at hsp; exact List.Perm.eq_nil hsp
        · intro e; rw [e] at hsp; exact List.map_eq_nil_iff.mp (List.Perm.eq_nil hsp.symm)
      have hqi := quo_in hrs (fun r hr => hrs r (hsm r hr)) (by omega) hsl
      have hraw := raw_text hrI hsI
      have hquo := quo_text hse
      k_steps
      refine Hold.to ?_
      refine add_str ?_ ?sz
      case sz => exact raw_size hraw hqi
      intro t8 k8
      rw [hraw]
      (try dsimp only); (try k_fold)
      k_steps
      have hRr1 := hsub9 _ (hm _ hRr (by show Value.type "list" ≠ _; decide))
      have hRo1 : ∀ r ∈ R, r.obj ∈ n9 := fun r hr => hsub9 _ (hm _ (hRo r hr) (by show Value.type "list" ≠ _; decide))
      refine Hold.to ?_; k_dflt (refine' c_quoteW _ _ _ _ _ _ hqi hquo _ _ _ _ _ _ _ _ _ _ _ _ _ _ _ _ _ _ _ _ ?k1 ?k2 ?k3 ?k4 ?k5 ?kK ?kd ?ku ?_; (case k1 => k_asm); (case k2 => k_asm); (case k3 => k_asm); (case k4 => k_asm); (case k5 => k_asm); (case kK => first | exact rfl | assumption); (case kd => first | decide | exact Nat.le_of_ble_eq_true rfl); (case ku => first | decide | exact Nat.le_of_ble_eq_true rfl); intro r9 n9 h9 tk9 F9 N9 H9)
      obtain ⟨rfl, tq, rfl⟩ := H9
      (try dsimp only); (try k_fold)
      k_steps
      refine Hold.to ?_; k_dflt (refine' c_mail _ _ nR R _ ?p1 ?p2 ?p3 ?p4 _ _ _ _ _ _ _ _ _ _ _ _ _ _ _ _ _ _ _ _ ?k1 ?k2 ?k3 ?k4 ?k5 ?kK ?kd ?ku ?_; (case k1 => k_asm); (case k2 => k_asm); (case k3 => k_asm); (case k4 => k_asm); (case k5 => k_asm); (case kK => first | exact rfl | assumption); (case kd => first | decide | exact Nat.le_of_ble_eq_true rfl); (case ku => first | decide | exact Nat.le_of_ble_eq_true rfl); (case p1 => exact hRr1); (case p2 => exact hRo1); (case p3 => exact rok_ro hrR fun r hr => (hrs r hr).1); (case p4 => omega); intro r9 n9 h9 tk9 F9 N9 H9)
      obtain ⟨Ml, ms, nm, qs, rfl, hMl, hsubm, hqp, hqw, hmi⟩ := H9
      (try dsimp only); (try k_fold)
      have hqe := place_recs (fun r hr => (hrs r hr).1) hsp hso (by rw [← hrR]; exact hqp) hqw
      have hro : ∀ r ∈ rs, r.ok := fun r hr => (hrs r hr).1.ok
      have hso2 : ∀ r ∈ ss, r.ok := fun r hr => hro r (hsm r hr)
      rw [hrR, hqe, mail_words hro hso2] at hmi
      have hWl : (mailW rs ss).flatten.length ≤ 10000 := by rw [← hquo]; exact hqi.size
      k_steps
      refine Hold.to ?_; k_dflt (refine' c_fits _ (mailW rs ss) _ _ ms nm _ (mailW_ok hro hso2) hWl hmi hMl _ _ _ _ _ _ _ _ _ _ _ _ _ _ _ _ _ ?k1 ?k2 ?k3 ?k4 ?k5 ?kK ?kd ?ku ?_; (case k1 => k_asm); (case k2 => k_asm); (case k3 => k_asm); (case k4 => k_asm); (case k5 => k_asm); (case kK => first | exact rfl | assumption); (case kd => first | decide | exact Nat.le_of_ble_eq_true rfl); (case ku => first | decide | exact Nat.le_of_ble_eq_true rfl); intro r9 n9 h9 tk9 F9 N9 H9)
      obtain ⟨rfl, hsubf⟩ := H9
      (try dsimp only); (try k_fold)
      rename Fr H s1.heap.objs.size _ _ => F9
      rename News H s1.heap.objs.size _ _ => N9
      refine ⟨goodW_bool F9 hgen (fun _ => rfl) ?po, GrownAt.of N9 (hsubf _ (hsubm _ h1239)), trivial⟩
      exact post_ok _ _
  case turn =>
    revert w z2 s1 z4 z5 fa cd hgen sN sc sV hLs hIs h63 l0 xt dt lx1 lx2 lt ll z64 z65 Rr lr z82 tk l14 z84 D1 z87 z88 D ws hp hws lD t0 H hH X0 T0 K0 F0 N0
    as_aux_lemma =>
      have skon : SkOn := .mk
      intro w z2 s1 z4 z5 fa cd hgen sN sc sV hLs hIs h63 l0 xt dt lx1 lx2 lt ll z64 z65 Rr lr z82 tk l14 z84 D1 z87 z88 D ws hp hws lD t0 H hH X0 T0 K0 F0 N0
      intro i v m₁ news₁ h₁ tk₁ I oi hv hoi hq9; obtain ⟨Rr', ux, ud, udo, un, uv, ua, uu, ⟨rs, nR, n, It, R, rest, rfl, hrl, hrs, hrI, hrR, hIo, hRo, hRr, hDm, h123, hl⟩, rfl⟩ := hq9; intro hne F1 N1
      clear F0 N0
      obtain ⟨tx, rfl⟩ := ints_val hws hv
      generalize hx : ((([14, 6, 12, 13] ++ List.take 7 sN : List Int))[i]?).getD 0 = x at hv
      have hil : i < 11 := by
        have h1 := (List.getElem?_eq_some_iff.mp hv).1
        have h2 := hws.length
        rw [List.length_append, List.length_take] at h2
        simp only [List.length_cons, List.length_nil] at h2
        omega
      have hnl := name_len x
      have hdr := drawn_ok x
      have hIl := rel_len hrI
      have hRl : R.length = rs.length := by have := congrArg List.length hrR; simpa using this
      have qI1 : @Ne Nat I lt := fun e => hne _ (.head _) e.symm
      have qI2 : @Ne Nat I xt := fun e => hne _ (.tail _ (.head _)) e.symm
      have qI3 : @Ne Nat I dt := fun e => hne _ (.tail _ (.tail _ (.head _))) e.symm
      delta lawE at F1
      k_steps
      refine Hold.to ?_; k_dflt (refine' c_drawn _ _ _ _ _ _ _ _ _ _ _ _ _ _ _ _ _ _ _ _ _ _ _ _ ?k1 ?k2 ?k3 ?k4 ?k5 ?kK ?kd ?ku ?_; (case k1 => k_asm); (case k2 => k_asm); (case k3 => k_asm); (case k4 => k_asm); (case k5 => k_asm); (case kK => first | exact rfl | assumption); (case kd => first | decide | exact Nat.le_of_ble_eq_true rfl); (case ku => first | decide | exact Nat.le_of_ble_eq_true rfl); intro r9 n9 h9 tk9 F9 N9 H9)
      obtain ⟨T1, t1, t2, t3, rfl, rfl, hT1⟩ := H9
      (try dsimp only); (try k_fold)
      have hTl : @Ne Nat T1 lt := hT1 _ (.tail _ (.head _))
      k_steps
      all_goals
        rename Fr H s1.heap.objs.size _ _ => F2
        rename News H s1.heap.objs.size _ _ => N2
        replace N2 := news_in2 N2
        have hl2 : ∀ o1 : Obj, ∀ p ∈ (T1, o1) :: (I, oi) :: rest, p.1 ≠ lt := fun o1 => off_pair hTl qI1 hl
        have hca := ans_at N2 (deed_rng x) (fun i hi => .tail _ (.tail _ (hIo i hi))) (by omega) (hl2 _) (Nat.ne_of_lt ll.1) (Nat.ne_of_lt ll.2.1) hrI hrs hdr
        refine Hold.to ?_; k_dflt (refine' hca _ _ ?ek ?ev _ _ _ _ _ _ _ _ _ _ _ _ _ _ _ _ _ _ _ _ ?k1 ?k2 ?k3 ?k4 ?k5 ?kK ?kd ?ku ?_; (case k1 => k_asm); (case k2 => k_asm); (case k3 => k_asm); (case k4 => k_asm); (case k5 => k_asm); (case kK => first | exact rfl | assumption); (case kd => first | decide | exact Nat.le_of_ble_eq_true rfl); (case ku => first | decide | exact Nat.le_of_ble_eq_true rfl); (case ek => first | exact drawn_key_t (beq_iff_eq.mpr (by with_reducible assumption)) | exact drawn_key_f (beq_eq_false_iff_ne.mpr (by with_reducible assumption))); (case ev => exact drawn_val x); intro r9 n9 h9 tk9 F9 N9 H9)
        obtain ⟨hA9, I9, ⟨n8, rest8, rfl, hsub8, hIo8, hl8⟩, hrI8⟩ := H9
        (try dsimp only); (try k_fold)
        k_steps
        refine Hold.to ?_; k_dflt (refine' c_numN _ _ _ _ _ _ _ _ _ _ _ _ _ _ _ _ _ _ _ _ _ _ _ _ ?k1 ?k2 ?k3 ?k4 ?k5 ?kK ?kd ?ku ?_; (case k1 => k_asm); (case k2 => k_asm); (case k3 => k_asm); (case k4 => k_asm); (case k5 => k_asm); (case kK => first | exact rfl | assumption); (case kd => first | decide | exact Nat.le_of_ble_eq_true rfl); (case ku => first | decide | exact Nat.le_of_ble_eq_true rfl); intro r9 n9 h9 tk9 F9 N9 H9)
        obtain ⟨rfl, kn1, rfl⟩ := H9
        (try dsimp only); (try k_fold)
        k_steps
        refine Hold.to ?_; k_dflt (refine' c_numV _ _ _ _ _ _ _ _ _ _ _ _ _ _ _ _ _ _ _ _ _ _ _ _ ?k1 ?k2 ?k3 ?k4 ?k5 ?kK ?kd ?ku ?_; (case k1 => k_asm); (case k2 => k_asm); (case k3 => k_asm); (case k4 => k_asm); (case k5 => k_asm); (case kK => first | exact rfl | assumption); (case kd => first | decide | exact Nat.le_of_ble_eq_true rfl); (case ku => first | decide | exact Nat.le_of_ble_eq_true rfl); intro r9 n9 h9 tk9 F9 N9 H9)
        obtain ⟨rfl, kn2, rfl⟩ := H9
        (try dsimp only); (try k_fold)
        k_steps
        have hbd := rec_bnd hdr
        have hRo8 : ∀ r ∈ R, r.obj ∈ rest8 := fun r hr => hsub8 _ (.tail _ (.tail _ (hRo r hr)))
        have hRr8 := hsub8 _ (.tail _ (.tail _ hRr))
        refine Hold.to ?_; k_dflt (refine' c_told _ _ nR R _ _ _ _ _ _ _ _ ?p1 ?p2 ?p3 ?p4 ?p5 ?p6 ?p7 ?p8 _ _ _ _ _ _ _ _ _ _ _ _ _ _ _ _ _ _ _ _ ?k1 ?k2 ?k3 ?k4 ?k5 ?kK ?kd ?ku ?_; (case k1 => k_asm); (case k2 => k_asm); (case k3 => k_asm); (case k4 => k_asm); (case k5 => k_asm); (case kK => first | exact rfl | assumption); (case kd => first | decide | exact Nat.le_of_ble_eq_true rfl); (case ku => first | decide | exact Nat.le_of_ble_eq_true rfl); (case p1 => exact .tail _ (.tail _ (.tail _ hRr8))); (case p2 => exact fun r hr => .tail _ (.tail _ (.tail _ (hRo8 r hr)))); (case p3 => exact rok_ro hrR fun r hr => (hrs r hr).1); (case p4 => omega); (case p5 => exact hbd.1.1); (case p6 => exact hbd.1.2); (case p7 => exact hbd.2.1); (case p8 => exact hbd.2.2); intro r9 n9 h9 tk9 F9 N9 H9)
        obtain ⟨T2, X2, nX, R2, due, rfl, hE, hT2, hX2, hXo, hR2, hTd⟩ := H9
        (try dsimp only); (try k_fold)
        have hst := told_step (deed_rng x) hdr (fun r hr => (hrs r hr).1) hrR hTd
        have hso := step_ok (deed_rng x) hdr hrs
        k_steps
        refine Hold.to ?_
        refine ne_ans hA9 hst.2 ?_
        (try dsimp only); (try k_fold)
        k_steps
        dsimp only [TurnJ]
        rename Fr H s1.heap.objs.size _ _ => F9'
        rename News H s1.heap.objs.size _ _ => N9'
        obtain ⟨nw, N3, hn3, hLI⟩ := law_turn (k := i + 1) N9' hE hoi (hsub8 _ (.tail _ (.head _))) hl8 qI1 qI2 qI3 hX2 hXo (hl8 _ hRr8) hR2 hRo8 hIo8 (hsub8 _ (.tail _ (.tail _ hDm))) (hsub8 _ (.tail _ (.tail _ h123))) (Nat.le_trans hso.2 (Nat.succ_le_succ hrl)) hso.1 hrI8 hst.1
        exact (exI3 ⟨nw, rfl, F9', N3, hn3, X2, _, _, _, _, _, _, _, hLI, law_env1⟩))
end
end Internal
end Mine
theorem PySem.Challenge.cw_ta0132_01_holds : PySem.Challenge.rw_ta0132_01.Holds := by
  exact Mine.Internal.law_holds
