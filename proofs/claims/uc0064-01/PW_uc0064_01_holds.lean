import PyProof.Rows.All
import Wide.All
import OpenK.AllK
import Wide.FinOn
import PySem.Challenge.RW_uc0064_01
set_option Elab.async false
set_option maxRecDepth 100000
set_option linter.unusedVariables false
set_option linter.unusedSimpArgs false
set_option linter.unusedSectionVars false
set_option maxHeartbeats 8000000
set_option tactic.hygienic false
namespace PySem.W.Fast
theorem tw8347059164079553409:1=1:=rfl
theorem tw1554661150887613628:1=1:=rfl
theorem tw2914040511891196958:1=1:=rfl
theorem tw11689561709505951643:1=1:=rfl
theorem tw58157239090936061:1=1:=rfl
theorem tw7683075236182736748:1=1:=rfl
theorem tw5011833992309046219:1=1:=rfl
theorem tw4075235734104246549:1=1:=rfl
theorem tw1031044087786168402:1=1:=rfl
theorem tw15588497104382100041:1=1:=rfl
theorem tw13574542036879665473:1=1:=rfl
theorem tw8015022315712759706:1=1:=rfl
theorem tw4000565628904602799:1=1:=rfl
theorem tw1532492858966813174:1=1:=rfl
theorem tw15101474953865207117:1=1:=rfl
theorem tw4757380359205636657:1=1:=rfl
theorem tw7695469904454587728:1=1:=rfl
theorem tw13802795350517868455:1=1:=rfl
theorem tw15055108347165443912:1=1:=rfl
theorem tw6619575851767615138:1=1:=rfl
theorem tw18187196643172528865:1=1:=rfl
theorem tw1664525182060974751:1=1:=rfl
theorem tw13454666256952523266:1=1:=rfl
theorem tw2241378675380682784:1=1:=rfl
theorem tw3832094522231116085:1=1:=rfl
theorem tw17076845009251068349:1=1:=rfl
theorem tw6688520713660004553:1=1:=rfl
theorem tw13536257850545254216:1=1:=rfl
theorem tw2045330749376003669:1=1:=rfl
theorem tw13514543068775156721:1=1:=rfl
theorem tw8139105904870863278:1=1:=rfl
theorem tw12546123012864323739:1=1:=rfl
theorem tw7689633203858399647:1=1:=rfl
theorem tw4745205225307496108:1=1:=rfl
theorem tw8709525991264739288:1=1:=rfl
theorem tw11618260889086222789:1=1:=rfl
theorem tw4106664921097179148:1=1:=rfl
theorem tw18068913978902378484:1=1:=rfl
theorem tw17265668725271682620:1=1:=rfl
theorem tw3474158377602826171:1=1:=rfl
theorem tw18063041204949118212:1=1:=rfl
theorem tw10328013601798995013:1=1:=rfl
theorem tw3274686183395391721:1=1:=rfl
theorem tw3413986565089644268:1=1:=rfl
theorem tw10356996999043664619:1=1:=rfl
theorem tw8754579526692431100:1=1:=rfl
theorem tw7921677826277199153:1=1:=rfl
theorem tw11453396102873401687:1=1:=rfl
theorem tw8162424110392565431:1=1:=rfl
theorem tw3090207622875105442:1=1:=rfl
theorem tw16302967738775826846:1=1:=rfl
theorem tw10566339975336575156:1=1:=rfl
theorem tw4142840202314475714:1=1:=rfl
theorem tw2896878285529534947:1=1:=rfl
theorem tw16106166854664072332:1=1:=rfl
theorem tw16179071711213018804:1=1:=rfl
theorem tw13218787288768353302:1=1:=rfl
theorem tw11253654858782596999:1=1:=rfl
theorem tw1201819310670022578:1=1:=rfl
theorem tw1078092966223000019:1=1:=rfl
theorem tw18084338331575568944:1=1:=rfl
theorem tw11736717846565545518:1=1:=rfl
theorem tw12118536772468498286:1=1:=rfl
theorem tw11280408315915618033:1=1:=rfl
theorem tw4146710182001077880:1=1:=rfl
theorem tw877455648173649185:1=1:=rfl
theorem tw8006520988082339276:1=1:=rfl
theorem tw14576103421197235183:1=1:=rfl
theorem tw18051937808593121655:1=1:=rfl
theorem tw5721145010603415224:1=1:=rfl
theorem tw2901821865157026992:1=1:=rfl
theorem tw9234581789739354416:1=1:=rfl
theorem tw661329470871197348:1=1:=rfl
theorem tw5526563917120738016:1=1:=rfl
theorem tw13297820998888110193:1=1:=rfl
theorem tw7462260671635240455:1=1:=rfl
theorem tw18236108632705220967:1=1:=rfl
theorem tw8055706472976551345:1=1:=rfl
theorem tw2032967040731594917:1=1:=rfl
theorem tw16658361499126462108:1=1:=rfl
theorem tw3176238210213784044:1=1:=rfl
theorem tw1700095789689532173:1=1:=rfl
theorem tw10990031428611441406:1=1:=rfl
theorem tw8396421292167862327:1=1:=rfl
theorem tw12307670281554812868:1=1:=rfl
theorem tw2580451669301727108:1=1:=rfl
theorem tw91460741409293472:1=1:=rfl
theorem tw8226125794411317956:1=1:=rfl
theorem tw17767920767773080545:1=1:=rfl
theorem tw8987409155476300417:1=1:=rfl
theorem tw324682548199873871:1=1:=rfl
theorem tw15326383838318263307:1=1:=rfl
theorem tw7820901552219811094:1=1:=rfl
theorem tw9429250077834051058:1=1:=rfl
theorem tw13614428325576266679:1=1:=rfl
theorem tw3087800695804693275:1=1:=rfl
theorem tw582763417579604813:1=1:=rfl
theorem tw8527859860286989448:1=1:=rfl
theorem tw11609715013432240515:1=1:=rfl
theorem tw6392991025266031036:1=1:=rfl
theorem tw7265934134944952283:1=1:=rfl
theorem tw17182613062444967555:1=1:=rfl
theorem tw1422757324860467358:1=1:=rfl
theorem tw18156863286375133972:1=1:=rfl
theorem tw6798626383726120118:1=1:=rfl
theorem tw3750099100044371164:1=1:=rfl
theorem tw5751221287976085098:1=1:=rfl
theorem tw12226472103480246127:1=1:=rfl
theorem tw10876628668849548835:1=1:=rfl
theorem tw2259379550369786299:1=1:=rfl
theorem tw6197682792799786209:1=1:=rfl
theorem tw11815030491418909328:1=1:=rfl
theorem tw8804939465174606498:1=1:=rfl
theorem tw11047850578591824015:1=1:=rfl
theorem tw1211765029694287142:1=1:=rfl
theorem tw8110442594034371754:1=1:=rfl
theorem tw5680381962165715248:1=1:=rfl
theorem tw13584342036811482828:1=1:=rfl
theorem tw12544608275322320531:1=1:=rfl
theorem tw16088233762813818906:1=1:=rfl
theorem tw12419548342640408541:1=1:=rfl
theorem tw4172432272885016512:1=1:=rfl
theorem tw16560600164239721512:1=1:=rfl
theorem tw13460306829116527964:1=1:=rfl
theorem tw18097005965598761556:1=1:=rfl
theorem tw875403171608055234:1=1:=rfl
theorem tw2297118034728045064:1=1:=rfl
theorem tw13211364681090650440:1=1:=rfl
theorem tw7884304593264598531:1=1:=rfl
theorem tw253331659938224117:1=1:=rfl
theorem tw1286436182739778612:1=1:=rfl
theorem tw6651301832130780668:1=1:=rfl
theorem tw18001806168188281402:1=1:=rfl
theorem tw977453953605847933:1=1:=rfl
theorem tw8587450722706022481:1=1:=rfl
theorem tw7912559865132079138:1=1:=rfl
theorem tw14378002872937429917:1=1:=rfl
theorem tw4188753383416611533:1=1:=rfl
theorem tw17666070317341803648:1=1:=rfl
theorem tw17104069016767931548:1=1:=rfl
theorem tw18264405278369089061:1=1:=rfl
theorem tw15646512584508953551:1=1:=rfl
theorem tw4444376900329554855:1=1:=rfl
theorem tw8580930213057800282:1=1:=rfl
theorem tw15795934493376844700:1=1:=rfl
theorem tw398218539154042402:1=1:=rfl
theorem tw6622376991941675562:1=1:=rfl
theorem tw2847945449404371608:1=1:=rfl
theorem tw17606728395948146274:1=1:=rfl
theorem tw13234416667309219040:1=1:=rfl
theorem tw18144471631733227325:1=1:=rfl
theorem tw18211011244517291417:1=1:=rfl
theorem tw17489880687665381146:1=1:=rfl
theorem tw4787562589006448565:1=1:=rfl
theorem tw9752664278853352299:1=1:=rfl
theorem tw7488977345283108606:1=1:=rfl
theorem tw4908368751025044742:1=1:=rfl
theorem tw10497937713941739602:1=1:=rfl
theorem tw15974413851810220809:1=1:=rfl
theorem tw9697978703768501375:1=1:=rfl
theorem tw8719604969368748972:1=1:=rfl
theorem tw10399369810065609299:1=1:=rfl
theorem tw15906389838148237031:1=1:=rfl
theorem tw3007732794928452352:1=1:=rfl
theorem tw11568868220121604349:1=1:=rfl
theorem tw13917855118417693672:1=1:=rfl
theorem tw3347555926387804596:1=1:=rfl
theorem tw17430923167539302203:1=1:=rfl
theorem tw2775882350652854711:1=1:=rfl
theorem tw4647880884826932031:1=1:=rfl
theorem tw18153533742305383289:1=1:=rfl
theorem tw12505988642356849633:1=1:=rfl
theorem tw5339003735879325248:1=1:=rfl
theorem tw17539946790348055806:1=1:=rfl
theorem tw10211273020537653370:1=1:=rfl
theorem tw3577984189709248438:1=1:=rfl
theorem tw1619534257793929493:1=1:=rfl
theorem tw14322519828737443236:1=1:=rfl
theorem tw544691510436210092:1=1:=rfl
theorem tw6220887863483194993:1=1:=rfl
theorem tw268237319028814152:1=1:=rfl
theorem tw2791899183212552184:1=1:=rfl
theorem tw16448813614690117983:1=1:=rfl
theorem tw4024568452044467395:1=1:=rfl
theorem tw18052251586384923337:1=1:=rfl
theorem tw15544974426089983314:1=1:=rfl
theorem tw12978762212930875417:1=1:=rfl
theorem tw82794140796860313:1=1:=rfl
theorem tw9402497649041678217:1=1:=rfl
theorem tw13415777753562474225:1=1:=rfl
theorem tw17448074356728297938:1=1:=rfl
theorem tw779173166962684025:1=1:=rfl
theorem tw15489856589109520368:1=1:=rfl
theorem tw5942178212199898542:1=1:=rfl
theorem tw10711120837443615697:1=1:=rfl
theorem tw9791172841288925970:1=1:=rfl
theorem tw13137488625138627783:1=1:=rfl
theorem tw10674850006962655848:1=1:=rfl
theorem tw15448994070462036998:1=1:=rfl
theorem tw6653937322591688588:1=1:=rfl
theorem tw15606305078752154642:1=1:=rfl
theorem tw3783815370921859266:1=1:=rfl
theorem tw8470098212020595548:1=1:=rfl
theorem tw2398394478662280567:1=1:=rfl
theorem tw14444618986993315665:1=1:=rfl
theorem tw11604942852700585689:1=1:=rfl
theorem tw18177832724767861109:1=1:=rfl
theorem tw17994215044106837681:1=1:=rfl
theorem tw3809492636100821658:1=1:=rfl
theorem tw15806639708461747316:1=1:=rfl
theorem tw3475249778372912555:1=1:=rfl
theorem tw17255799041585258576:1=1:=rfl
theorem tw12706929650509625884:1=1:=rfl
theorem tw1189842966411611009:1=1:=rfl
theorem tw17888892028113470238:1=1:=rfl
theorem tw888105415448470482:1=1:=rfl
theorem tw6934651854527803664:1=1:=rfl
theorem tw4092791537675957603:1=1:=rfl
theorem tw11212880527346181183:1=1:=rfl
theorem tw6383412446642176960:1=1:=rfl
theorem tw5962161411086437587:1=1:=rfl
theorem tw6233525205836933719:1=1:=rfl
theorem tw6580811466868261931:1=1:=rfl
theorem tw6159647385617546160:1=1:=rfl
theorem tw3621314871126387851:1=1:=rfl
theorem tw3946021400556373732:1=1:=rfl
theorem tw1931876349032974702:1=1:=rfl
theorem tw14266869094377232470:1=1:=rfl
theorem tw1456114184466657520:1=1:=rfl
theorem tw4972565024431420028:1=1:=rfl
theorem tw13300708046337551552:1=1:=rfl
theorem tw7585162749627595054:1=1:=rfl
theorem tw13963494009557953802:1=1:=rfl
theorem tw5622493831694263290:1=1:=rfl
theorem tw14501275493888426429:1=1:=rfl
theorem tw16804485531107434652:1=1:=rfl
theorem tw14680136196107554930:1=1:=rfl
theorem tw7477231190677655838:1=1:=rfl
theorem tw2738187203360303610:1=1:=rfl
theorem tw3278205266486292471:1=1:=rfl
theorem tw15200876302297112823:1=1:=rfl
theorem tw11916170090111584396:1=1:=rfl
theorem tw13696313946745335615:1=1:=rfl
theorem tw11191950118600449026:1=1:=rfl
theorem tw3218466182105680961:1=1:=rfl
theorem tw1791416762549801159:1=1:=rfl
theorem tw11103893103482153001:1=1:=rfl
theorem tw9940971310307681620:1=1:=rfl
theorem tw15918133521647406811:1=1:=rfl
theorem tw6335648418555453846:1=1:=rfl
theorem tw11128193528498746089:1=1:=rfl
theorem tw14526026150565720003:1=1:=rfl
theorem tw14515037872464647658:1=1:=rfl
theorem tw11196428939031868582:1=1:=rfl
theorem tw1777468609638987768:1=1:=rfl
theorem tw11489515532018362193:1=1:=rfl
theorem tw11214478494454701346:1=1:=rfl
theorem tw4289265385839816710:1=1:=rfl
theorem tw2962395935493007301:1=1:=rfl
theorem tw14014625306950880344:1=1:=rfl
theorem tw17771935839113061422:1=1:=rfl
theorem tw642702904259772031:1=1:=rfl
theorem tw10650626610418826584:1=1:=rfl
theorem tw9258647649848427014:1=1:=rfl
theorem tw5981322547296791141:1=1:=rfl
theorem tw13503222563597884919:1=1:=rfl
theorem tw3552368552290982711:1=1:=rfl
theorem tw111880645107947066:1=1:=rfl
theorem tw1904736151887094490:1=1:=rfl
theorem tw15795541335138773200:1=1:=rfl
theorem tw7637988650368173385:1=1:=rfl
theorem tw4026361150047785330:1=1:=rfl
theorem tw14243004406596790988:1=1:=rfl
theorem tw7462498746659014835:1=1:=rfl
theorem tw6111891709796226065:1=1:=rfl
theorem tw10456347429367532000:1=1:=rfl
theorem tw3278290290407906113:1=1:=rfl
theorem tw10304513780430235059:1=1:=rfl
theorem tw1527454065661443593:1=1:=rfl
theorem tw15846949230119213872:1=1:=rfl
theorem tw1934474830872250924:1=1:=rfl
theorem tw1839156423606392946:1=1:=rfl
theorem tw9836233593934212366:1=1:=rfl
theorem tw1963538381651344694:1=1:=rfl
theorem tw7675413221090932898:1=1:=rfl
theorem tw2624715840520686280:1=1:=rfl
theorem tw12000443510711083657:1=1:=rfl
theorem tw300149526793321642:1=1:=rfl
theorem tw13761097758284722132:1=1:=rfl
theorem tw9467569737315315971:1=1:=rfl
theorem tw9918079130023078344:1=1:=rfl
theorem tw15901449079589726247:1=1:=rfl
theorem tw5124455571073796982:1=1:=rfl
theorem tw16711560253084086653:1=1:=rfl
theorem tw15013982903774179961:1=1:=rfl
theorem tw14766853691076079845:1=1:=rfl
theorem tw2931281250992250412:1=1:=rfl
theorem tw14465467664667496282:1=1:=rfl
theorem tw5232562703920487183:1=1:=rfl
theorem tw10184475428576297785:1=1:=rfl
theorem tw2749936884324204903:1=1:=rfl
theorem tw15524943165116384185:1=1:=rfl
theorem tw15149971217416985774:1=1:=rfl
theorem tw17795921736430196527:1=1:=rfl
theorem tw10765932934275471609:1=1:=rfl
theorem tw18086706155664992337:1=1:=rfl
theorem tw13793282708983885203:1=1:=rfl
theorem tw16403118370856953761:1=1:=rfl
theorem tw7503166068209714254:1=1:=rfl
theorem tw9025549806938759996:1=1:=rfl
theorem tw17428569680779755754:1=1:=rfl
theorem tw12414208913416094706:1=1:=rfl
theorem tw13614270740900475237:1=1:=rfl
theorem tw14994818917750739931:1=1:=rfl
theorem tw14717973561887209431:1=1:=rfl
theorem tw14919507176090611876:1=1:=rfl
theorem tw7696528321383399129:1=1:=rfl
theorem tw4360778928988540786:1=1:=rfl
theorem tw2285870616412280208:1=1:=rfl
theorem tw3604505731898362371:1=1:=rfl
theorem tw8231128971885614617:1=1:=rfl
theorem tw16868449673623776185:1=1:=rfl
theorem tw10907731608375943603:1=1:=rfl
theorem tw12401676749983948980:1=1:=rfl
theorem tw14969803078827770713:1=1:=rfl
theorem tw2838864486202759247:1=1:=rfl
theorem tw3382612814621276093:1=1:=rfl
theorem tw990931252279307787:1=1:=rfl
theorem tw1388751503470966096:1=1:=rfl
theorem tw4888722980473425863:1=1:=rfl
theorem tw14522388950212680682:1=1:=rfl
theorem tw10483243556115494686:1=1:=rfl
theorem tw1001965638251973727:1=1:=rfl
theorem tw16454472602511617863:1=1:=rfl
theorem tw17941732045894269390:1=1:=rfl
theorem tw2154862185570955385:1=1:=rfl
theorem tw4212023656366132535:1=1:=rfl
theorem tw1833865198610199178:1=1:=rfl
theorem tw899976061257650066:1=1:=rfl
theorem tw13891524431301157204:1=1:=rfl
theorem tw5620011848287487184:1=1:=rfl
theorem tw1320837809735666699:1=1:=rfl
theorem tw13755103079751923128:1=1:=rfl
theorem tw2238294160714041452:1=1:=rfl
theorem tw14867760062286009988:1=1:=rfl
theorem tw1769894272743102482:1=1:=rfl
theorem tw8401149526418014360:1=1:=rfl
theorem tw3876585131823816760:1=1:=rfl
theorem tw11761692716431900840:1=1:=rfl
theorem tw6689224333639849987:1=1:=rfl
theorem tw11986158549747164155:1=1:=rfl
theorem tw9416984214949368419:1=1:=rfl
theorem tw158934896996256981:1=1:=rfl
theorem tw6850710170036280739:1=1:=rfl
theorem tw4619115173307293696:1=1:=rfl
theorem tw13095645614351540544:1=1:=rfl
theorem tw14436950853312197031:1=1:=rfl
theorem tw4440539135079215949:1=1:=rfl
theorem tw511118332684090996:1=1:=rfl
theorem tw5730834048099734647:1=1:=rfl
theorem tw3464632532258807934:1=1:=rfl
theorem tw6116070709735540605:1=1:=rfl
theorem tw1777954598810769805:1=1:=rfl
theorem tw739066514077395285:1=1:=rfl
theorem tw14983064997232106422:1=1:=rfl
theorem tw7111770174345504417:1=1:=rfl
theorem tw13935933160832460294:1=1:=rfl
theorem tw13046678899391302559:1=1:=rfl
theorem tw5089674986408345449:1=1:=rfl
theorem tw8937447431639356789:1=1:=rfl
theorem tw12744436583321090507:1=1:=rfl
theorem tw813378397905591923:1=1:=rfl
theorem tw7704123655328064082:1=1:=rfl
theorem tw14867959319016725854:1=1:=rfl
theorem tw17056457055707099364:1=1:=rfl
theorem tw1980065951896258115:1=1:=rfl
theorem tw18167620069853891625:1=1:=rfl
theorem tw9938834178697147609:1=1:=rfl
theorem tw10242262236551743671:1=1:=rfl
theorem tw16654510364918703571:1=1:=rfl
theorem tw10201178418830026985:1=1:=rfl
theorem tw8571601627449800856:1=1:=rfl
theorem tw17117291781813485232:1=1:=rfl
theorem tw15898320115033130028:1=1:=rfl
theorem tw16189040206931158671:1=1:=rfl
theorem tw9285689952803490396:1=1:=rfl
theorem tw14871806890313424128:1=1:=rfl
theorem tw18327048493585942830:1=1:=rfl
theorem tw3043016604242672166:1=1:=rfl
theorem tw311586015040783667:1=1:=rfl
theorem tw17979037156647661981:1=1:=rfl
theorem tw18331093595086696233:1=1:=rfl
theorem tw10919388156878282825:1=1:=rfl
theorem tw15304884600075108685:1=1:=rfl
theorem tw9344916770594492334:1=1:=rfl
theorem tw15044740630299119802:1=1:=rfl
theorem tw10949959205426014345:1=1:=rfl
theorem tw7379757272993643881:1=1:=rfl
theorem tw563615760992729602:1=1:=rfl
theorem tw13871293111307107619:1=1:=rfl
theorem tw4296615728074171805:1=1:=rfl
theorem tw855434560546843602:1=1:=rfl
theorem tw9866285567755352235:1=1:=rfl
theorem tw4035640353118379288:1=1:=rfl
theorem tw7677465131592307135:1=1:=rfl
theorem tw14510263104193769299:1=1:=rfl
theorem tw7660085916273813719:1=1:=rfl
theorem tw5678261180762289619:1=1:=rfl
theorem tw11255234604675897277:1=1:=rfl
theorem tw4437262126047585601:1=1:=rfl
theorem tw3897583723091125048:1=1:=rfl
theorem tw17680921271749641934:1=1:=rfl
theorem tw658612902275622400:1=1:=rfl
theorem tw7745347264376203828:1=1:=rfl
theorem tw1681871025257683766:1=1:=rfl
theorem tw8736406239370430201:1=1:=rfl
theorem tw3856376934904737152:1=1:=rfl
theorem tw6532205619174807352:1=1:=rfl
theorem tw12501401135881535497:1=1:=rfl
theorem tw12962690914299428245:1=1:=rfl
theorem tw2494828111431418362:1=1:=rfl
theorem tw2995823921387779488:1=1:=rfl
theorem tw16788058337526325731:1=1:=rfl
theorem tw3664677545082290846:1=1:=rfl
theorem tw9541059021462611446:1=1:=rfl
theorem tw656218330950982011:1=1:=rfl
theorem tw5023044199919904293:1=1:=rfl
theorem tw1796173544536597292:1=1:=rfl
theorem tw16661546809545866551:1=1:=rfl
theorem tw8248656811817563581:1=1:=rfl
theorem tw14657845565013689149:1=1:=rfl
theorem tw3338804026849974828:1=1:=rfl
theorem tw10013439266357530407:1=1:=rfl
theorem tw14090991181246177143:1=1:=rfl
theorem tw4001420159964456138:1=1:=rfl
theorem tw16717189703698371389:1=1:=rfl
theorem tw13028511670584152017:1=1:=rfl
theorem tw7951875009579557839:1=1:=rfl
theorem tw10888272359287795784:1=1:=rfl
theorem tw372385613443182900:1=1:=rfl
theorem tw15595483654363401866:1=1:=rfl
theorem tw2243586947966460970:1=1:=rfl
theorem tw2061645441389136924:1=1:=rfl
theorem tw647127146382244174:1=1:=rfl
theorem tw1104941366043151200:1=1:=rfl
theorem tw15290111761823044219:1=1:=rfl
theorem tw9827017121075221181:1=1:=rfl
theorem tw5740485616304358338:1=1:=rfl
theorem tw5782607437453194434:1=1:=rfl
theorem tw4010209473641690001:1=1:=rfl
theorem tw1581891858971636217:1=1:=rfl
theorem tw9250920297822835951:1=1:=rfl
theorem tw18002454799260890332:1=1:=rfl
theorem tw10594862662836130705:1=1:=rfl
theorem tw5218440773356086744:1=1:=rfl
theorem tw2548167956617589948:1=1:=rfl
theorem tw4820736308352276186:1=1:=rfl
theorem tw10263041997622486449:1=1:=rfl
theorem tw6761523248562527071:1=1:=rfl
theorem tw7266113344499383119:1=1:=rfl
theorem tw14199742658836564867:1=1:=rfl
theorem tw9297346728685962471:1=1:=rfl
theorem tw17152611504239423325:1=1:=rfl
theorem tw13240250659479455829:1=1:=rfl
theorem tw17560824206610750927:1=1:=rfl
theorem tw13062008397336291217:1=1:=rfl
theorem tw12938302347109891096:1=1:=rfl
theorem tw10974355786039306589:1=1:=rfl
theorem tw2998465612958426428:1=1:=rfl
theorem tw18301331633704426468:1=1:=rfl
theorem tw15119416867582372862:1=1:=rfl
theorem tw12023297688784965082:1=1:=rfl
theorem tw8480862110343703005:1=1:=rfl
theorem tw15593160656894463572:1=1:=rfl
theorem tw7082820955908305712:1=1:=rfl
theorem tw17372776767684082753:1=1:=rfl
theorem tw15371976594130074419:1=1:=rfl
theorem tw17503532268026739442:1=1:=rfl
theorem tw12220213966974871122:1=1:=rfl
theorem tw4290480526838150066:1=1:=rfl
theorem tw6902729355081297415:1=1:=rfl
theorem tw11491057415393787343:1=1:=rfl
theorem tw18284724274667121029:1=1:=rfl
theorem tw9574436693961588341:1=1:=rfl
theorem tw4017298170930550832:1=1:=rfl
theorem tw455505504469828232:1=1:=rfl
theorem tw4240382028181187304:1=1:=rfl
theorem tw12786048141524348344:1=1:=rfl
theorem tw14917679961658978883:1=1:=rfl
theorem tw5338543551909291714:1=1:=rfl
theorem tw1285608350821578428:1=1:=rfl
end PySem.W.Fast
namespace Mine.Internal
section
open PySem PySem.W PyProof.Rows
open_top hd for PySem.Challenge.rw_uc0064_01
end
set_option genSizeOf false
set_option genInjectivity false
set_option bootstrap.genMatcherCode false
noncomputable section
open List (getElem?_append_left reverse_cons replicate getElem?_map getElem?_eq_getElem getD_eq_getElem?_getD mem_of_getElem? all_eq_true prefix_refl length_append mem_append prefix_append getElem?_append_right length_set getElem?_set_self getElem?_set_ne mem_map lookup_cons getElem_mem all_cons all_nil replicate_succ foldl_cons size_toArray mem_cons mem_singleton length_pos_iff length_map map_cons map_map map_congr_left isEmpty_iff findIdx?_cons forIn_cons nodup_cons filter_cons mem_filter mem_append_right append_assoc append_nil length_cons length_nil pairwise_cons not_mem_nil filterMap_cons length_reverse mem_reverse filter_congr nodup_nil mem_map_of_mem map_set set_set length_replicate ext_getElem? length_filter_le find?_cons_of_pos find?_cons_of_neg getElem?_append map_append cons_append foldr_cons getElem?_range count_eq_zero getElem?_replicate count_append sum_cons eq_of_mem_replicate filter_cons_of_pos filter_cons_of_neg count_cons_self count_cons_of_ne count_cons mem_range map_nil sum_nil nil_append range' range_eq_range' range'_succ length_singleton mem_range' mem_flatMap length_range length_take flatMap_cons find?)
open Nat (le_add_right le_refl lt_succ_of_le mod_lt lt_of_le_of_lt le_of_eq not_lt le_of_lt_succ le_of_succ_le le_trans div_add_mod two_mul add_assoc add_comm le_of_lt sub_self succ_pos lt_irrefl add_le_add le_add_left mod_mod div_add_mod' sub_add_cancel zero_mul zero_add div_le_self one_mul add_lt_add_left lt_of_lt_of_le mul_comm mul_add add_le_add_left lt_trans succ_le_succ add_mul mul_assoc zero_le mul_le_mul_right le_of_ble_eq_true mul_one mul_le_mul_left sub_le ne_of_gt ne_of_lt not_lt_of_le lt_succ_of_lt max_le not_succ_le_zero log2_lt beq_eq le_antisymm lt_succ_self le_succ succ_eq_add_one div_eq_of_lt pow_succ mul_zero pow_le_pow_right pow_pos mul_le_mul succ_mul pow_add div_lt_iff_lt_mul mod_eq_of_lt)
open Int (ofNat_lt ofNat_sub toNat natCast_nonneg ofNat fdiv_eq_ediv_of_nonneg ofNat_le toNat_natCast add_zero natAbs_natCast fmod_nonneg_of_pos fmod_lt_of_pos natCast_mul)
open Option (map_some getD_some isSome_iff_exists isNone_iff_eq_none isSome)
open Bool (and_eq_true false_eq_true eq_false_iff not_eq_true')
open Array (toList_append length_toList any_toList)
open PySem.F (slot_tuple_mul slot_int_rmul plainAttrs_list)
open PySem.Builtin.Int (intBits intTooBig)
open PySem.Str (ofString empty)
open PySem.Heap (lt_size get?_push_size size_push)
open PySem.Builtin (divisionGoesByPylong)
theorem Ly:false=true->False:=Bool.false_ne_true
theorem Lm {P:Prop}(h:false=true):P:=absurd h Ly
theorem KO {α:Type u}{a b:α}(h:some a=some b):a=b:=Option.some.inj h
section
set_option genCtorIdx false
theorem zF {x:Int}(h:0<=x):((x.toNat:Nat):Int)=x:=Int.toNat_of_nonneg h
theorem CV {x:Int}{n:Nat}(h:0<=x)(k:x<n):x.toNat<n:=(Int.toNat_lt h).mpr k
theorem Gk {x:Int}{n:Nat}(h:0<n)(k:x<n):x.toNat<n:=match x,k with
 |.ofNat _,k=>ofNat_lt.mp k
 |.negSucc _,_=>h
theorem zG {x:Int}(h:0<=x):x/2=((x.toNat/2:Nat):Int):=match x,h with
 |.ofNat _,_=>rfl
 |.negSucc n,h=>((Int.negSucc_not_nonneg n).mp h).elim
theorem Gl {x:Int}{n:Nat}(h:x.natAbs<n):x<n:=Int.lt_of_le_of_lt Int.le_natAbs (ofNat_lt.mpr h)
theorem C7 {x:Int}{n:Nat}(h:x.natAbs<n):-(n:Int)<x:=Int.neg_lt_of_neg_lt (Gl ((Int.natAbs_neg x).symm▸h))
theorem yd {a b n:Nat}(h:a+b=n):(n:Int)-a=b:=h▸(ofNat_sub (le_add_right a b)).symm.trans (congrArg _ (Nat.add_sub_cancel_left ..))
theorem FY {a b:Nat}:((a+b:Nat):Int)-a=b:=yd rfl
theorem Jm {a b:Nat}:(((a:Int)+b)-a).toNat=b:=congrArg toNat FY
theorem Gm {x y:Nat}:x<=x-y+y:=Nat.sub_le_iff_le_add.mp (le_refl _)
theorem ye {a:Nat}(h:a<3:=by assumption):a=0\/a=1\/a=2:=(by decide:∀ a:Fin 3,a.1=0\/a.1=1\/a.1=2) ⟨a,h⟩
theorem uK {a:Nat}(h:1<=a/\a<=6:=by assumption):a=1\/a=2\/a=3\/a=4\/a=5\/a=6:=(by decide:∀ a:Fin 7,1<=a.1->a.1=1\/a.1=2\/a.1=3\/a.1=4\/a.1=5\/a.1=6) ⟨a,lt_succ_of_le h.2⟩ h.1
theorem IH {a:Nat}:a%2=0\/a%2=1:=Nat.mod_two_eq_zero_or_one a
theorem Gn {a:Nat}:a%4=0\/a%4=1\/a%4=2\/a%4=3:=(by decide:∀ a:Fin 4,a.1=0\/a.1=1\/a.1=2\/a.1=3) ⟨a%4,mod_lt _ (by decide)⟩
theorem Jn {a b c d:Nat}(h:a+1+c<b+d):(a+c).succ<b+d:=lt_of_le_of_lt (le_of_eq (Nat.add_right_comm a c 1)) h
theorem Go {j n:Nat}(h:j<n):(n:Int)-1-j=((n-1-j:Nat):Int):=
 ((ofNat_sub (Nat.le_sub_one_of_lt h)).trans (congrArg (·-(j:Int)) (ofNat_sub (Nat.one_le_of_lt h)))).symm
theorem II {i:Int}{n:Nat}(h0:0<=i)(h:i.toNat<n):((0<=if i<0 then i+n else i)/\(if i<0 then i+n else i)<n)/\(if i<0 then i+n else i).toNat=i.toNat:=by
 rw[if_neg (Int.not_lt.mpr h0)];exact⟨⟨h0,(Int.toNat_lt h0).mp h⟩,rfl⟩
theorem Jo {i:Int}(h:0<=i/\i<2^62):-9223372036854775808<=i/\i<9223372036854775808:=⟨Int.le_trans (by decide) h.1,Int.lt_trans h.2 (by decide)⟩
theorem zK {i:Int}(h:-1000<=i)(k:i<=1000):-9223372036854775808<=i/\i<9223372036854775808:=⟨Int.le_trans (by decide) h,Int.lt_of_le_of_lt k (by decide)⟩
theorem Jp {k:Int}(h:k<2^20/\-2^20<k):-9223372036854775808<=k/\k<9223372036854775808:=⟨Int.le_trans (by decide) (Int.le_of_lt h.2),Int.lt_trans h.1 (by decide)⟩
theorem Gp {a:Int}{N:Nat}(h:a.natAbs<N)(k:a<0):0<=a+N/\a+N<N:=
 ⟨Int.le_of_lt (Int.add_left_neg (N:Int)▸Int.add_lt_add_right (C7 h) N),Int.lt_of_lt_of_le (Int.add_lt_add_right k N) (Int.le_of_eq (Int.zero_add _))⟩
theorem te {x:Int}(h:x.natAbs<2^61):-2^62<=x:=Int.le_of_lt (Int.lt_of_le_of_lt (by decide) (C7 h))
theorem tf {x:Int}(h:x.natAbs<2^61):x<2^62:=Int.lt_trans (Gl h) (by decide)
theorem Gq {b n:Nat}(h:¬ b<n):b-n+1=((b:Int)-n+1).toNat:=(rfl:_=(((b-n:Nat):Int)+1).toNat).trans (congrArg (λx:Int=>(x+1).toNat) (ofNat_sub (not_lt.mp h)))
theorem IJ {b n:Nat}:((b:Int)-n+1).toNat<=b+1:=Int.toNat_le.mpr (Int.add_le_add_right (Int.sub_le_self _ (natCast_nonneg _)) 1)
theorem Gr {m z k:Nat}(h:z<m+1):k<=m↔k<=max m z:=(Nat.max_eq_left (le_of_lt_succ h)).symm▸Iff.rfl
theorem Gs {m z k:Nat}(h:¬ z<m+1)(q:k<=max m z):k-(m+1)<z-(m+1)+1:=
 lt_succ_of_le (Nat.sub_le_sub_right (Nat.max_eq_right (le_of_succ_le (not_lt.mp h))▸q) _)
theorem Gu {m z k:Nat}(h:¬ z<m+1)(q:¬ k<=max m z):¬ k-(m+1)<z-(m+1)+1:=λe=>
 q (le_trans ((Nat.sub_le_sub_iff_right (not_lt.mp h)).mp (le_of_lt_succ e)) (Nat.le_max_right ..))
theorem Gv {m z k:Nat}(h:k<=m):k<=max m z:=le_trans h (Nat.le_max_left ..)
theorem Gw {n z:Nat}(h:¬ z<n):n+(z-n+1)=max n (z+1):=(congrArg Nat.succ (Nat.add_sub_cancel' (not_lt.mp h))).trans (Nat.max_eq_right (Nat.le_succ_of_le (not_lt.mp h))).symm
theorem zH {w:Nat}:w-w/2=w/2\/w-w/2=w/2+1:=by
 have e:w=w/2+(w/2+w%2):=((div_add_mod w 2).symm.trans (congrArg (·+_) (two_mul _))).trans (add_assoc ..);have k:w-w/2=w/2+w%2:=Nat.sub_eq_of_eq_add (e.trans (add_comm ..));exact(Nat.mod_two_eq_zero_or_one w).elim (λh=>.inl (k.trans (congrArg _ h))) λh=>.inr (k.trans (congrArg _ h))
theorem Gx {l M N:Nat}(h:N=M\/N=M+1):(l+(l+(M+N)))/2=l+M:=by
 have e:l+(l+(M+N))=2*(l+M)+(N-M):=by
  have:M<=N:=h.elim (λe=>le_of_eq e.symm) λe=>le_of_lt (Nat.lt_of_succ_le (le_of_eq e.symm));have q:N=M+(N-M):=(Nat.add_sub_cancel' this).symm
  calc l+(l+(M+N))=l+(l+(M+(M+(N-M)))):=by rw[← q]
   _=2*(l+M)+(N-M):=by rw[two_mul];simp only[add_assoc,Nat.add_left_comm]
 rw[e,Nat.mul_add_div (by decide)];have z:(N-M)/2=0:=h.elim (λe=>by rw[e,sub_self]) λe=>by rw[e,Nat.add_sub_cancel_left]
 exact congrArg (l+M+·) z
theorem Gy {l M N:Nat}(h:N=M\/N=M+1):((l:Int)+((l+(M+N):Nat):Int))/2=((l+M:Nat):Int):=congrArg ofNat (Gx h)
theorem zI {l M N:Nat}(k:0<M)(h:N=M\/N=M+1)(e:(l:Int)+1=((l+(M+N):Nat):Int)):False:=by
 have e:1=M+N:=Nat.add_left_cancel (ofNat.inj e);have hN:0<N:=h.elim (λq=>q▸k) λq=>q▸succ_pos _;exact lt_irrefl 1 (Nat.lt_of_lt_of_eq (add_le_add k hN) e.symm)
theorem Jq {a n x:Nat}(hn:1<=n)(h:a=x):(x:Int)+n-1=((a+n-1:Nat):Int):=h▸(ofNat_sub (le_trans hn (le_add_left ..))).symm
theorem C8 {a b c d e f g:Nat}(h1:a<=40)(h2:b<=40)(h3:c<=40)(h4:d<=40)(h5:e<=40)(h6:f<=40)(h7:g<=40):a+(b+(c+(d+(e+(f+(g+0))))))<=1000000:=
 le_trans (add_le_add h1 (add_le_add h2 (add_le_add h3 (add_le_add h4 (add_le_add h5 (add_le_add h6 h7)))))) (by decide)
theorem Gz {n:Nat}(h:n%2=1):n+1=2*((n+1)/2):=(Nat.mul_div_cancel' (Nat.dvd_of_mod_eq_zero (by rw[Nat.add_mod,h]))).symm
theorem GA (x:Nat):x/64*64+(64+x%64)%64=x:=by rw[Nat.add_mod_left,mod_mod,div_add_mod']
theorem C9 (x:Nat):x/64*64+x%64%64=x:=by rw[mod_mod,div_add_mod']
theorem GB {j M:Nat}(h:j<M):M=j+(1+(M-j-1)):=by
 rw[add_comm 1,sub_add_cancel (Nat.sub_pos_of_lt h),Nat.add_sub_cancel' (le_of_lt h)]
theorem Kc {x a:Int}(h:0<=x)(e:x.fdiv 2=a):a=((x.toNat/2:Nat):Int):=e.symm.trans ((fdiv_eq_ediv_of_nonneg _ (by decide)).trans (zG h))
theorem Jr {a x y z:Nat}(h:a+x=y+z):(a:Int)+((x:Int)-z)=y:=(Int.add_sub_assoc a x z).symm.trans ((congrArg (λt:Nat=>(t:Int)-z) h).trans (show((y+z:Nat):Int)-z=y from Int.add_sub_cancel (y:Int) z))
theorem GC {x y b:Nat}(h:x<b):(x:Int)-y<b:=Int.lt_of_le_of_lt (Int.sub_le_self _ (natCast_nonneg _)) (ofNat_lt.mpr h)
theorem GD {c y t b:Nat}{r:Int}(e:(c:Int)+r=y)(h:y<t)(k:c+b=t):r<b:=Int.lt_of_add_lt_add_left (a:=c) (Int.lt_of_le_of_lt (Int.le_of_eq e) (Int.lt_of_lt_of_le (ofNat_lt.mpr h) (Int.le_of_eq (congrArg ofNat k.symm))))
theorem Da {x z b:Nat}(h:z<=2*b):0<=((x:Int)-z)+2*(b:Int):=by
 show(0:Int)<=(x:Int)+-(z:Int)+2*b;rw[Int.add_assoc,Int.add_comm (-(z:Int))];exact Int.add_nonneg (natCast_nonneg x) (Int.sub_nonneg_of_le (ofNat_le.mpr h))
theorem GE {f X:Nat}(h:f<2*X):0*X+f/2<2*X:=by rw[zero_mul,zero_add];exact lt_of_le_of_lt (div_le_self ..) h
theorem GF {f X:Nat}(h:f<2*X):1*X+f/2<2*X:=by rw[one_mul,two_mul];exact add_lt_add_left (Nat.div_lt_of_lt_mul h) _
theorem Js {x:Int}{p:Nat}(h:p<=3)(h0:0<=x)(hx:x<4-(p:Int)):x.toNat<4-p:=CV h0 (Int.lt_of_lt_of_le hx (Int.le_of_eq (ofNat_sub (Nat.le_succ_of_le h)).symm))
theorem Jt {k m r:Nat}(hk:k<m)(hm:m<=100)(e:r=1+1*k):1<=r/\r<1000:=by
 subst e;rw[one_mul];exact⟨le_add_right ..,lt_of_lt_of_le (add_lt_add_left (lt_of_lt_of_le hk hm) 1) (by decide)⟩
theorem qf {a b c:Nat}(h:a<=b)(e:b=c):a<=c:=e▸h
theorem Ju {x:Int}(h:x+1=0):x=-1:=(Int.add_sub_cancel x 1).symm.trans (congrArg (·-1) h)
theorem Jv {c:Nat}(h:c<128):0<=(c:Int)+128/\(c:Int)+128<256:=⟨Int.add_nonneg (natCast_nonneg c) (by decide),Int.add_lt_add_right (ofNat_lt.mpr h) 128⟩
theorem GG {l:Int}{n:Nat}(h:l<n)(k:n<1000):l<2^62:=Int.lt_trans h (Int.lt_trans (ofNat_lt.mpr k) (by decide))
theorem GH {a n:Nat}:(a:Int)-n<=4000↔a<=n+4000:=Int.sub_right_le_iff_le_add.trans ((Int.add_comm 4000 (n:Int)).symm▸ofNat_le (n:=n+4000))
theorem GI {p:Nat}(h:p<=3):(0:Int)<4-p:=Int.sub_pos_of_lt (ofNat_lt.mpr (lt_succ_of_le h))
theorem Jw {w K:Nat}(h:w<=K*2):w-w/2<=K:=by
 have e:w-w/2+w/2=w:=sub_add_cancel (div_le_self ..);refine(zH (w:=w)).elim (λq=>?_) λq=>?_
 ·rw[q];exact Nat.div_le_of_le_mul (mul_comm K 2▸h)
 ·rw[q]at e ⊢;exact Nat.lt_of_mul_lt_mul_right (a:=2) (lt_of_lt_of_le (Nat.lt_of_succ_le (le_of_eq ((congrArg Nat.succ (Nat.mul_two _)).trans ((Nat.add_right_comm (w/2) (w/2) 1).trans e)))) h)
theorem Jx {a J S L:Nat}(h:J<=S+2*L):a+2+J<=a+S+2*(L+1):=by
 rw[mul_add,add_assoc,add_assoc a S,add_comm 2 J,← add_assoc S];exact add_le_add_left (Nat.add_le_add_right h 2) a
theorem Db {O V U l k:Int}(h1:0<=l/\l<=O-V)(h2:0<=k/\k<=U+-1*(O-V)+(-1+0)):V<=O/\O<V+U:=by omega
theorem IK {a b:Nat}(h:a<1000000)(k:b<1000000):a<2^61/\b<2^61:=⟨lt_trans h (by decide),lt_trans k (by decide)⟩
theorem GJ {k n a:Nat}(h:¬ a=k)(q:a<=k/\k<a+(n+1)):a+1<=k/\k<a+1+n:=⟨Nat.lt_of_le_of_ne q.1 h,by rw[add_assoc,add_comm 1];exact q.2⟩
theorem GK {k n a:Nat}(q:¬ (a<=k/\k<a+(n+1))):¬ (a+1<=k/\k<a+1+n):=λe=>q ⟨le_of_succ_le e.1,by rw[add_comm n,← add_assoc];exact e.2⟩
theorem zJ {x:Int}(h:x<=100):x.toNat+1<1000000:=lt_of_le_of_lt (succ_le_succ (Int.toNat_le.mpr h)) (by decide)
theorem Jy {r:Nat}(h:r<=6):-1000<=(r:Int)/\(r:Int)<=1000:=⟨Int.le_trans (by decide) (natCast_nonneg _),ofNat_le.mpr (le_trans h (by decide))⟩
theorem Jz {lo hi:Int}(h:¬ lo<hi):0=((hi-lo).toNat:Int)-((0:Nat):Int):=(congrArg (λn:Nat=>(n:Int)-((0:Nat):Int)) (Int.toNat_eq_zero.mpr (Int.sub_nonpos_of_le (Int.not_lt.mp h)))).symm
theorem zy {y:Nat}(h:¬ (y<32\/y=127)):(32<=y\/y=9)/\¬ y=127:=⟨.inl (not_lt.mp λe=>h (.inl e)),λe=>h (.inr e)⟩
inductive LX where
 |v (i:Nat)
 |n (k:Nat)
 |a (x y:LX)
 |m (k:Nat) (x:LX)
 |r (k:Nat) (x:LX)
noncomputable def LX.ev (c:List Nat)(x:LX):Nat:=LX.rec (λi=>c.getD i 0) (λk=>k) (λ_ _ a b=>a+b) (λk _ a=>k*a) (λk _ a=>a*k) x
noncomputable def im:List Nat->List Nat->List Nat
 |[],m=>m
 |l,[]=>l
 |a::l,b::m=>(a+b)::im l m
noncomputable def xY (k:Nat):List Nat->List Nat
 |[]=>[]
 |a::l=>(k*a)::xY k l
noncomputable def FZ:List Nat->List Nat->Bool
 |[],_=>true
 |a::l,[]=>Nat.beq a 0&&FZ l []
 |a::l,b::m=>Nat.ble a b&&FZ l m
noncomputable def GL:Nat->List Nat
 |0=>[1]
 |i+1=>0::GL i
noncomputable def mK:List Nat->List Nat->Nat
 |[],_=>0
 |_,[]=>0
 |a::l,x::c=>a*x+mK l c
noncomputable def LX.co (x:LX):List Nat:=LX.rec (λi=>GL (i+1)) (λk=>[k]) (λ_ _ a b=>im a b) (λk _ a=>xY k a) (λk _ a=>xY k a) x
structure LR where
 e:Nat
 m:Nat
 l:LX
 r:LX
noncomputable def LR.hd (c:List Nat)(x:LR):Prop:=cond (Nat.beq x.e 0) (x.l.ev c<=x.r.ev c) (x.l.ev c=x.r.ev c)
noncomputable def F7 {α:Type}(s:Nat)(k:Nat->Nat->α):α:=k (s/16%16^(s%16)) (s/16/16^(s%16))
noncomputable def Dc {α:Type}(f:Nat):Nat->(LX->Nat->α)->α:=Nat.rec (λs k=>k (.n 0) s) (λ_ d s k=>
 cond (Nat.beq (s%16) 0) (d (s/16) λx s=>d s λy s=>k (.a x y) s) (cond (Nat.beq (s%16) 1) (F7 (s/16) λn s=>k (.n n) s)
  (cond (Nat.beq (s%16) 2) (F7 (s/16) λn s=>d s λx s=>k (.m n x) s) (cond (Nat.beq (s%16) 3) (F7 (s/16) λn s=>d s λx s=>k (.r n x) s) (k (.v (s%16-4)) (s/16)))))) f
noncomputable def yf (n:Nat):Nat->List LR:=Nat.rec (λ_=>[]) (λ_ d s=>F7 (s/16) λm t=>Dc 16 t λl t=>Dc 16 t λr t=>⟨s%16,m,l,r⟩::d t) n
noncomputable def cA (s i:Nat):LR:=(yf (s%16) (s/16)).getD i ⟨0,0,.n 0,.n 0⟩
noncomputable def mL:List LR->List Nat×List Nat
 |[]=>([1],[0])
 |x::r=>cond (Nat.beq x.e 2) (im (xY x.m x.l.co) (mL r).1,im (xY x.m x.r.co) (mL r).2) (im (xY x.m x.r.co) (mL r).1,im (xY x.m x.l.co) (mL r).2)
noncomputable def Dd:List LR->Bool
 |[]=>false
 |g::r=>FZ (im (xY g.m g.l.co) (mL r).1) (im (xY g.m (im g.r.co [1])) (mL r).2)
theorem F8:∀ l:List Nat,mK l []=0
 |[]=>rfl
 |_::_=>rfl
theorem dW:∀ l m c:List Nat,mK (im l m) c=mK l c+mK m c
 |[],m,c=>(zero_add _).symm
 |a::l,[],c=>(Nat.add_zero _).symm
 |a::l,b::m,[]=>rfl
 |a::l,b::m,x::c=>(congrArg ((a+b)*x+·) (dW l m c)).trans ((congrArg (·+_) (add_mul ..)).trans (Nat.add_add_add_comm ..))
theorem fE (k:Nat):∀ l c:List Nat,mK (xY k l) c=k*mK l c
 |[],c=>rfl
 |a::l,[]=>rfl
 |a::l,x::c=>(congrArg (k*a*x+·) (fE k l c)).trans ((congrArg (·+_) (mul_assoc ..)).trans (mul_add ..).symm)
theorem uM:∀ (i:Nat) (c:List Nat),mK (GL i) c=c.getD i 0
 |0,[]=>rfl
 |i+1,[]=>rfl
 |0,x::c=>one_mul x
 |i+1,x::c=>(congrArg (0*x+·) (uM i c)).trans (by rw[zero_mul,zero_add];rfl)
theorem qg:∀ {l m:List Nat} (c:List Nat),FZ l m=true->mK l c<=mK m c
 |[],m,c,_=>zero_le _
 |a::l,m,[],_=>zero_le _
 |a::l,[],x::c,h=>by
  have h:=(and_eq_true ..).mp h;have h1:a=0:=Nat.eq_of_beq_eq_true h.1;have h2:=qg (m:=[]) c h.2;show a*x+mK l c<=0;rw[h1,zero_mul,zero_add];exact h2
 |a::l,b::m,x::c,h=>by
  have h:=(and_eq_true ..).mp h;exact add_le_add (mul_le_mul_right x (le_of_ble_eq_true h.1)) (qg c h.2)
theorem LX.ok (c:List Nat)(x:LX):mK x.co (1::c)=x.ev c:=by
 induction x with
 |v i=>exact uM (i+1) (1::c)
 |n k=>exact mul_one k
 |a x y i j=>exact(dW ..).trans (i▸j▸rfl)
 |m k x i=>exact(fE ..).trans (i▸rfl)
 |r k x i=>exact(fE ..).trans (i▸mul_comm ..)
theorem yg {c:List Nat}:∀ {r:List LR},(∀ i,i<r.length->(r.getD i ⟨0,0,.n 0,.n 0⟩).hd c)->mK (mL r).2 (1::c)+1<=mK (mL r).1 (1::c):=by
 intro r
 induction r with
 |nil=>
  intro _;exact le_refl _
 |cons x r ih=>
  intro h;have ih:=ih λi hi=>h (i+1) (Nat.succ_lt_succ hi);have h0:x.hd c:=h 0 (succ_pos _);unfold mL
  cases e:Nat.beq x.e 2 with
  |true=>
   have q:x.r.ev c<=x.l.ev c:=by
    unfold LR.hd at h0;rw[Nat.eq_of_beq_eq_true e]at h0;exact le_of_eq (Eq.symm h0)
   show mK (im _ _) _+1<=mK (im _ _) _;rw[dW,dW,fE,fE,LX.ok,LX.ok,add_assoc];exact add_le_add (mul_le_mul_left _ q) ih
  |false=>
   have q:x.l.ev c<=x.r.ev c:=by
    unfold LR.hd at h0
    cases e2:Nat.beq x.e 0 with
    |true=>rw[e2]at h0;exact h0
    |false=>rw[e2]at h0;exact le_of_eq h0
   show mK (im _ _) _+1<=mK (im _ _) _;rw[dW,dW,fE,fE,LX.ok,LX.ok,add_assoc];exact add_le_add (mul_le_mul_left _ q) ih
theorem De {c:List Nat}:∀ {R:List LR},Dd R=true->(∀ i,i<R.length-1->(R.getD (i+1) ⟨0,0,.n 0,.n 0⟩).hd c)->(R.getD 0 ⟨0,0,.n 0,.n 0⟩).l.ev c<=(R.getD 0 ⟨0,0,.n 0,.n 0⟩).r.ev c
 |[],h,_=>nomatch h
 |g::r,h,k=>by
  have h1:=qg (1::c) h;have h2:=yg (c:=c) (r:=r) k;rw[dW,dW,fE,fE,dW,LX.ok,LX.ok]at h1
  have h3:g.m*g.l.ev c+1<=g.m*(g.r.ev c+mK [1] (1::c)):=by
   have:=le_trans (add_le_add_left h2 _) h1;rw[← add_assoc,Nat.add_right_comm]at this;exact Nat.le_of_add_le_add_right this
  exact le_of_lt_succ (Nat.lt_of_mul_lt_mul_left (a:=g.m) h3)
noncomputable def nW (s n:Nat):Bool:=Dd (yf (s%16) (s/16))&&Nat.beq (yf (s%16) (s/16)).length (n+1)
theorem qn {s n:Nat}{c:List Nat}(k:nW s n=true)(h:∀ i,i<n->(cA s (i+1)).hd c):(cA s 0).l.ev c<=(cA s 0).r.ev c:=by
 have k:=(and_eq_true ..).mp k;have e:(yf (s%16) (s/16)).length=n+1:=Nat.eq_of_beq_eq_true k.2;exact De k.1 λi hi=>h i (by rw[e]at hi;exact hi)
theorem Q0 (s:Nat)(c:List Nat)(k:nW s 0=true):(cA s 0).l.ev c<=(cA s 0).r.ev c:=qn k (λi hi=>absurd hi (Nat.not_lt_zero i))
theorem Q1 (s:Nat)(c:List Nat)(h1:(cA s 1).hd c)(k:nW s 1=true):(cA s 0).l.ev c<=(cA s 0).r.ev c:=qn k (λi=>match i with
 |0=>λ_=>h1
 |i+1=>λhi=>absurd hi (not_lt.mpr (le_add_left ..)))
theorem Q2 (s:Nat)(c:List Nat)(h1:(cA s 1).hd c)(h2:(cA s 2).hd c)(k:nW s 2=true):(cA s 0).l.ev c<=(cA s 0).r.ev c:=qn k (λi=>match i with
 |0=>λ_=>h1
 |1=>λ_=>h2
 |i+2=>λhi=>absurd hi (not_lt.mpr (le_add_left ..)))
theorem Q3 (s:Nat)(c:List Nat)(h1:(cA s 1).hd c)(h2:(cA s 2).hd c)(h3:(cA s 3).hd c)(k:nW s 3=true):(cA s 0).l.ev c<=(cA s 0).r.ev c:=qn k (λi=>match i with
 |0=>λ_=>h1
 |1=>λ_=>h2
 |2=>λ_=>h3
 |i+3=>λhi=>absurd hi (not_lt.mpr (le_add_left ..)))
theorem Q4 (s:Nat)(c:List Nat)(h1:(cA s 1).hd c)(h2:(cA s 2).hd c)(h3:(cA s 3).hd c)(h4:(cA s 4).hd c)(k:nW s 4=true):(cA s 0).l.ev c<=(cA s 0).r.ev c:=qn k (λi=>match i with
 |0=>λ_=>h1
 |1=>λ_=>h2
 |2=>λ_=>h3
 |3=>λ_=>h4
 |i+4=>λhi=>absurd hi (not_lt.mpr (le_add_left ..)))
theorem Q5 (s:Nat)(c:List Nat)(h1:(cA s 1).hd c)(h2:(cA s 2).hd c)(h3:(cA s 3).hd c)(h4:(cA s 4).hd c)(h5:(cA s 5).hd c)(k:nW s 5=true):(cA s 0).l.ev c<=(cA s 0).r.ev c:=qn k (λi=>match i with
 |0=>λ_=>h1
 |1=>λ_=>h2
 |2=>λ_=>h3
 |3=>λ_=>h4
 |4=>λ_=>h5
 |i+5=>λhi=>absurd hi (not_lt.mpr (le_add_left ..)))
theorem Q6 (s:Nat)(c:List Nat)(h1:(cA s 1).hd c)(h2:(cA s 2).hd c)(h3:(cA s 3).hd c)(h4:(cA s 4).hd c)(h5:(cA s 5).hd c)(h6:(cA s 6).hd c)(k:nW s 6=true):(cA s 0).l.ev c<=(cA s 0).r.ev c:=qn k (λi=>match i with
 |0=>λ_=>h1
 |1=>λ_=>h2
 |2=>λ_=>h3
 |3=>λ_=>h4
 |4=>λ_=>h5
 |5=>λ_=>h6
 |i+6=>λhi=>absurd hi (not_lt.mpr (le_add_left ..)))
@[elab_as_elim] theorem sbr {α:Sort u}{a b:α}{P:α->Prop}(p:P b)(h:a=b):P a:=h▸p
@[elab_as_elim] theorem sb {α:Sort u}{a b:α}{P:α->Prop}(p:P b)(h:b=a):P a:=h▸p
theorem av  {p0 p1:Prop}{q:Prop}(h:p0/\p1)(k:p0->p1->q):q:=k h.1 h.2
theorem aw {t0:Sort u0}{p0:t0->Prop}{q:Prop}(h:∃ x0,p0 x0)(k:∀ x0,p0 x0->q):q:=h.elim λx0 h=>k x0 h
theorem mM  {p0 p1 p2:Prop}{q:Prop}(h:p0/\p1/\p2)(k:p0->p1->p2->q):q:=k h.1 h.2.1 h.2.2
theorem ak {t0:Sort u0}{p0 p1:t0->Prop}{q:Prop}(h:∃ x0,p0 x0/\p1 x0)(k:∀ x0,p0 x0->p1 x0->q):q:=h.elim λx0 h=>k x0 h.1 h.2
theorem nX {t0:Sort u0}{t1:Sort u1}{p0:t0->t1->Prop}{q:Prop}(h:∃ x0,∃ x1,p0 x0 x1)(k:∀ x0 x1,p0 x0 x1->q):q:=h.elim λx0 h=>h.elim λx1 h=>k x0 x1 h
theorem gQ  {p0 p1 p2 p3:Prop}{q:Prop}(h:p0/\p1/\p2/\p3)(k:p0->p1->p2->p3->q):q:=k h.1 h.2.1 h.2.2.1 h.2.2.2
theorem cU {t0:Sort u0}{p0 p1 p2:t0->Prop}{q:Prop}(h:∃ x0,p0 x0/\p1 x0/\p2 x0)(k:∀ x0,p0 x0->p1 x0->p2 x0->q):q:=h.elim λx0 h=>k x0 h.1 h.2.1 h.2.2
theorem dc {t0:Sort u0}{t1:Sort u1}{p0 p1:t0->t1->Prop}{q:Prop}(h:∃ x0,∃ x1,p0 x0 x1/\p1 x0 x1)(k:∀ x0 x1,p0 x0 x1->p1 x0 x1->q):q:=h.elim λx0 h=>h.elim λx1 h=>k x0 x1 h.1 h.2
theorem th {t0:Sort u0}{t1:Sort u1}{t2:Sort u2}{p0:t0->t1->t2->Prop}{q:Prop}(h:∃ x0,∃ x1,∃ x2,p0 x0 x1 x2)(k:∀ x0 x1 x2,p0 x0 x1 x2->q):q:=h.elim λx0 h=>h.elim λx1 h=>h.elim λx2 h=>k x0 x1 x2 h
theorem Df  {p0 p1 p2 p3 p4:Prop}{q:Prop}(h:p0/\p1/\p2/\p3/\p4)(k:p0->p1->p2->p3->p4->q):q:=k h.1 h.2.1 h.2.2.1 h.2.2.2.1 h.2.2.2.2
theorem yh {t0:Sort u0}{p0 p1 p2 p3:t0->Prop}{q:Prop}(h:∃ x0,p0 x0/\p1 x0/\p2 x0/\p3 x0)(k:∀ x0,p0 x0->p1 x0->p2 x0->p3 x0->q):q:=h.elim λx0 h=>k x0 h.1 h.2.1 h.2.2.1 h.2.2.2
theorem cP {t0:Sort u0}{t1:Sort u1}{p0 p1 p2:t0->t1->Prop}{q:Prop}(h:∃ x0,∃ x1,p0 x0 x1/\p1 x0 x1/\p2 x0 x1)(k:∀ x0 x1,p0 x0 x1->p1 x0 x1->p2 x0 x1->q):q:=h.elim λx0 h=>h.elim λx1 h=>k x0 x1 h.1 h.2.1 h.2.2
theorem yi {t0:Sort u0}{t1:Sort u1}{t2:Sort u2}{p0 p1:t0->t1->t2->Prop}{q:Prop}(h:∃ x0,∃ x1,∃ x2,p0 x0 x1 x2/\p1 x0 x1 x2)(k:∀ x0 x1 x2,p0 x0 x1 x2->p1 x0 x1 x2->q):q:=h.elim λx0 h=>h.elim λx1 h=>h.elim λx2 h=>k x0 x1 x2 h.1 h.2
theorem Dg  {p0 p1 p2 p3 p4 p5:Prop}{q:Prop}(h:p0/\p1/\p2/\p3/\p4/\p5)(k:p0->p1->p2->p3->p4->p5->q):q:=k h.1 h.2.1 h.2.2.1 h.2.2.2.1 h.2.2.2.2.1 h.2.2.2.2.2
theorem yj {t0:Sort u0}{t1:Sort u1}{p0 p1 p2 p3:t0->t1->Prop}{q:Prop}(h:∃ x0,∃ x1,p0 x0 x1/\p1 x0 x1/\p2 x0 x1/\p3 x0 x1)(k:∀ x0 x1,p0 x0 x1->p1 x0 x1->p2 x0 x1->p3 x0 x1->q):q:=h.elim λx0 h=>h.elim λx1 h=>k x0 x1 h.1 h.2.1 h.2.2.1 h.2.2.2
theorem j7 {t0:Sort u0}{t1:Sort u1}{t2:Sort u2}{p0 p1 p2:t0->t1->t2->Prop}{q:Prop}(h:∃ x0,∃ x1,∃ x2,p0 x0 x1 x2/\p1 x0 x1 x2/\p2 x0 x1 x2)(k:∀ x0 x1 x2,p0 x0 x1 x2->p1 x0 x1 x2->p2 x0 x1 x2->q):q:=h.elim λx0 h=>h.elim λx1 h=>h.elim λx2 h=>k x0 x1 x2 h.1 h.2.1 h.2.2
theorem Dh {t0:Sort u0}{t1:Sort u1}{t2:Sort u2}{t3:Sort u3}{p0 p1:t0->t1->t2->t3->Prop}{q:Prop}(h:∃ x0,∃ x1,∃ x2,∃ x3,p0 x0 x1 x2 x3/\p1 x0 x1 x2 x3)(k:∀ x0 x1 x2 x3,p0 x0 x1 x2 x3->p1 x0 x1 x2 x3->q):q:=h.elim λx0 h=>h.elim λx1 h=>h.elim λx2 h=>h.elim λx3 h=>k x0 x1 x2 x3 h.1 h.2
theorem GM  {p0 p1 p2 p3 p4 p5 p6:Prop}{q:Prop}(h:p0/\p1/\p2/\p3/\p4/\p5/\p6)(k:p0->p1->p2->p3->p4->p5->p6->q):q:=k h.1 h.2.1 h.2.2.1 h.2.2.2.1 h.2.2.2.2.1 h.2.2.2.2.2.1 h.2.2.2.2.2.2
theorem yk {t0:Sort u0}{t1:Sort u1}{p0 p1 p2 p3 p4:t0->t1->Prop}{q:Prop}(h:∃ x0,∃ x1,p0 x0 x1/\p1 x0 x1/\p2 x0 x1/\p3 x0 x1/\p4 x0 x1)(k:∀ x0 x1,p0 x0 x1->p1 x0 x1->p2 x0 x1->p3 x0 x1->p4 x0 x1->q):q:=h.elim λx0 h=>h.elim λx1 h=>k x0 x1 h.1 h.2.1 h.2.2.1 h.2.2.2.1 h.2.2.2.2
theorem mN {t0:Sort u0}{t1:Sort u1}{t2:Sort u2}{p0 p1 p2 p3:t0->t1->t2->Prop}{q:Prop}(h:∃ x0,∃ x1,∃ x2,p0 x0 x1 x2/\p1 x0 x1 x2/\p2 x0 x1 x2/\p3 x0 x1 x2)(k:∀ x0 x1 x2,p0 x0 x1 x2->p1 x0 x1 x2->p2 x0 x1 x2->p3 x0 x1 x2->q):q:=h.elim λx0 h=>h.elim λx1 h=>h.elim λx2 h=>k x0 x1 x2 h.1 h.2.1 h.2.2.1 h.2.2.2
theorem GN  {p0 p1 p2 p3 p4 p5 p6 p7:Prop}{q:Prop}(h:p0/\p1/\p2/\p3/\p4/\p5/\p6/\p7)(k:p0->p1->p2->p3->p4->p5->p6->p7->q):q:=k h.1 h.2.1 h.2.2.1 h.2.2.2.1 h.2.2.2.2.1 h.2.2.2.2.2.1 h.2.2.2.2.2.2.1 h.2.2.2.2.2.2.2
theorem uN {t0:Sort u0}{t1:Sort u1}{p0 p1 p2 p3 p4 p5:t0->t1->Prop}{q:Prop}(h:∃ x0,∃ x1,p0 x0 x1/\p1 x0 x1/\p2 x0 x1/\p3 x0 x1/\p4 x0 x1/\p5 x0 x1)(k:∀ x0 x1,p0 x0 x1->p1 x0 x1->p2 x0 x1->p3 x0 x1->p4 x0 x1->p5 x0 x1->q):q:=h.elim λx0 h=>h.elim λx1 h=>k x0 x1 h.1 h.2.1 h.2.2.1 h.2.2.2.1 h.2.2.2.2.1 h.2.2.2.2.2
theorem Di {t0:Sort u0}{t1:Sort u1}{t2:Sort u2}{p0 p1 p2 p3 p4:t0->t1->t2->Prop}{q:Prop}(h:∃ x0,∃ x1,∃ x2,p0 x0 x1 x2/\p1 x0 x1 x2/\p2 x0 x1 x2/\p3 x0 x1 x2/\p4 x0 x1 x2)(k:∀ x0 x1 x2,p0 x0 x1 x2->p1 x0 x1 x2->p2 x0 x1 x2->p3 x0 x1 x2->p4 x0 x1 x2->q):q:=h.elim λx0 h=>h.elim λx1 h=>h.elim λx2 h=>k x0 x1 x2 h.1 h.2.1 h.2.2.1 h.2.2.2.1 h.2.2.2.2
theorem GO {t0:Sort u0}{t1:Sort u1}{t2:Sort u2}{t3:Sort u3}{p0 p1 p2 p3:t0->t1->t2->t3->Prop}{q:Prop}(h:∃ x0,∃ x1,∃ x2,∃ x3,p0 x0 x1 x2 x3/\p1 x0 x1 x2 x3/\p2 x0 x1 x2 x3/\p3 x0 x1 x2 x3)(k:∀ x0 x1 x2 x3,p0 x0 x1 x2 x3->p1 x0 x1 x2 x3->p2 x0 x1 x2 x3->p3 x0 x1 x2 x3->q):q:=h.elim λx0 h=>h.elim λx1 h=>h.elim λx2 h=>h.elim λx3 h=>k x0 x1 x2 x3 h.1 h.2.1 h.2.2.1 h.2.2.2
theorem uO {t0:Sort u0}{t1:Sort u1}{t2:Sort u2}{p0 p1 p2 p3 p4 p5:t0->t1->t2->Prop}{q:Prop}(h:∃ x0,∃ x1,∃ x2,p0 x0 x1 x2/\p1 x0 x1 x2/\p2 x0 x1 x2/\p3 x0 x1 x2/\p4 x0 x1 x2/\p5 x0 x1 x2)(k:∀ x0 x1 x2,p0 x0 x1 x2->p1 x0 x1 x2->p2 x0 x1 x2->p3 x0 x1 x2->p4 x0 x1 x2->p5 x0 x1 x2->q):q:=h.elim λx0 h=>h.elim λx1 h=>h.elim λx2 h=>k x0 x1 x2 h.1 h.2.1 h.2.2.1 h.2.2.2.1 h.2.2.2.2.1 h.2.2.2.2.2
theorem GP {t0:Sort u0}{t1:Sort u1}{t2:Sort u2}{t3:Sort u3}{p0 p1 p2 p3 p4:t0->t1->t2->t3->Prop}{q:Prop}(h:∃ x0,∃ x1,∃ x2,∃ x3,p0 x0 x1 x2 x3/\p1 x0 x1 x2 x3/\p2 x0 x1 x2 x3/\p3 x0 x1 x2 x3/\p4 x0 x1 x2 x3)(k:∀ x0 x1 x2 x3,p0 x0 x1 x2 x3->p1 x0 x1 x2 x3->p2 x0 x1 x2 x3->p3 x0 x1 x2 x3->p4 x0 x1 x2 x3->q):q:=h.elim λx0 h=>h.elim λx1 h=>h.elim λx2 h=>h.elim λx3 h=>k x0 x1 x2 x3 h.1 h.2.1 h.2.2.1 h.2.2.2.1 h.2.2.2.2
theorem GQ {t0:Sort u0}{t1:Sort u1}{p0 p1 p2 p3 p4 p5 p6 p7:t0->t1->Prop}{q:Prop}(h:∃ x0,∃ x1,p0 x0 x1/\p1 x0 x1/\p2 x0 x1/\p3 x0 x1/\p4 x0 x1/\p5 x0 x1/\p6 x0 x1/\p7 x0 x1)(k:∀ x0 x1,p0 x0 x1->p1 x0 x1->p2 x0 x1->p3 x0 x1->p4 x0 x1->p5 x0 x1->p6 x0 x1->p7 x0 x1->q):q:=h.elim λx0 h=>h.elim λx1 h=>k x0 x1 h.1 h.2.1 h.2.2.1 h.2.2.2.1 h.2.2.2.2.1 h.2.2.2.2.2.1 h.2.2.2.2.2.2.1 h.2.2.2.2.2.2.2
theorem GR {t0:Sort u0}{t1:Sort u1}{t2:Sort u2}{p0 p1 p2 p3 p4 p5 p6:t0->t1->t2->Prop}{q:Prop}(h:∃ x0,∃ x1,∃ x2,p0 x0 x1 x2/\p1 x0 x1 x2/\p2 x0 x1 x2/\p3 x0 x1 x2/\p4 x0 x1 x2/\p5 x0 x1 x2/\p6 x0 x1 x2)(k:∀ x0 x1 x2,p0 x0 x1 x2->p1 x0 x1 x2->p2 x0 x1 x2->p3 x0 x1 x2->p4 x0 x1 x2->p5 x0 x1 x2->p6 x0 x1 x2->q):q:=h.elim λx0 h=>h.elim λx1 h=>h.elim λx2 h=>k x0 x1 x2 h.1 h.2.1 h.2.2.1 h.2.2.2.1 h.2.2.2.2.1 h.2.2.2.2.2.1 h.2.2.2.2.2.2
variable {a b c d n m:Nat}{i j:Int}{p q:Prop}
theorem bz (h:p:=by assumption):p:=h
theorem jP:0<=(a:Int):=natCast_nonneg a
theorem CW (k:Nat.ble a c=true:=by exact rfl):a<=c:=le_of_ble_eq_true k
theorem bN (h:a<=b:=by assumption)(k:Nat.ble b c=true:=by exact rfl):a<=c:=le_trans h (le_of_ble_eq_true k)
theorem CX (h:a<b:=by assumption)(k:Nat.ble b c=true:=by exact rfl):a<c:=lt_of_lt_of_le h (le_of_ble_eq_true k)
theorem dU (h:a<=b:=by assumption)(k:Nat.ble (b+1) c=true:=by exact rfl):a<c:=lt_of_le_of_lt h (le_of_ble_eq_true k)
theorem F9 (h:a<b:=by assumption)(k:Nat.ble b (c+1)=true:=by exact rfl):a<=c:=le_of_lt_succ (lt_of_lt_of_le h (le_of_ble_eq_true k))
theorem zL (h:b<=a:=by assumption)(k:Nat.ble c b=true:=by exact rfl):c<=a:=le_trans (le_of_ble_eq_true k) h
theorem JA (h:a=b:=by assumption)(k:Nat.ble (b+1) c=true:=by exact rfl):a<c:=h▸le_of_ble_eq_true k
theorem GS (h:a=b:=by assumption)(k:Nat.ble c b=true:=by exact rfl):c<=a:=h▸le_of_ble_eq_true k
theorem JB (h:a<=b:=by assumption)(k:Nat.ble b c=true:=by exact rfl):a-d<=c:=le_trans (sub_le ..) (bN h k)
theorem JC (h:a<=b:=by assumption)(k:Nat.ble (b+n) c=true:=by exact rfl):a+n<=c:=le_trans (Nat.add_le_add_right h _) (le_of_ble_eq_true k)
theorem Dj (h:a<=b:=by assumption)(k:Nat.ble (n+b) c=true:=by exact rfl):n+a<=c:=le_trans (add_le_add_left h _) (le_of_ble_eq_true k)
theorem IL (h:a<=b:=by assumption)(k:Nat.ble (b+n+1) c=true:=by exact rfl):a+n<c:=lt_of_le_of_lt (Nat.add_le_add_right h _) (le_of_ble_eq_true k)
theorem IM (h:a<b:=by assumption)(k:Nat.ble (b+n) c=true:=by exact rfl):a+n<c:=lt_of_lt_of_le (Nat.add_lt_add_right h _) (le_of_ble_eq_true k)
theorem JD (h:a<b:=by assumption)(k:Nat.ble (n+b) c=true:=by exact rfl):n+a<c:=lt_of_lt_of_le (add_lt_add_left h _) (le_of_ble_eq_true k)
theorem Ga (h:a<=b:=by assumption)(k:Nat.ble (n+b+1) c=true:=by exact rfl):n+a<c:=lt_of_le_of_lt (add_le_add_left h _) (le_of_ble_eq_true k)
theorem JE (h:a<b:=by assumption)(k:Nat.ble (n+b) (c+1)=true:=by exact rfl):n+a<=c:=le_of_lt_succ (JD h k)
theorem JF (h:a<b:=by assumption)(k:Nat.ble b c=true:=by exact rfl):a/n<c:=lt_of_le_of_lt (div_le_self ..) (CX h k)
theorem yl (h:a<=b:=by assumption)(k:decide ((b:Int)<=i)=true:=by exact rfl):(a:Int)<=i:=Int.le_trans (ofNat_le.mpr h) (of_decide_eq_true k)
theorem zM (h:a<=b:=by assumption)(k:decide ((b:Int)<i)=true:=by exact rfl):(a:Int)<i:=Int.lt_of_le_of_lt (ofNat_le.mpr h) (of_decide_eq_true k)
theorem JG (h:a<b:=by assumption)(k:decide ((b:Int)<=i)=true:=by exact rfl):(a:Int)<i:=Int.lt_of_lt_of_le (ofNat_lt.mpr h) (of_decide_eq_true k)
theorem uH (h:a<b:=by assumption):(a:Int)<b:=ofNat_lt.mpr h
theorem ym (h:0<a:=by assumption):(a:Int)≠0:=λe=>ne_of_gt h (ofNat.inj e)
theorem GT (h:a≠0:=by assumption):(a:Int)≠0:=λe=>h (ofNat.inj e)
theorem Dk (h:a≠b:=by assumption):(a:Int)≠b:=λe=>h (ofNat.inj e)
theorem IN (h:a<=b:=by assumption)(k:decide ((b:Int)<=i)=true:=by exact rfl)(k2:decide (j<=0)=true:=by exact rfl):j<=(a:Int)/\(a:Int)<=i:=⟨Int.le_trans (of_decide_eq_true k2) jP,yl h k⟩
theorem JH (h:a<b:=by assumption)(k:decide ((b:Int)<=i)=true:=by exact rfl):0<=(a:Int)/\(a:Int)<i:=⟨jP,JG h k⟩
theorem JI (h:a<=b:=by assumption)(k:decide ((b:Int)<i)=true:=by exact rfl)(k2:decide (j<0)=true:=by exact rfl):(a:Int)<i/\j<(a:Int):=⟨zM h k,Int.lt_of_lt_of_le (of_decide_eq_true k2) jP⟩
theorem CY (h:b<=a:=by assumption):(a:Int)-b=((a-b:Nat):Int):=(ofNat_sub h).symm
theorem GU (h:b<=a:=by assumption)(k:Nat.ble 1 b=true:=by exact rfl):(a:Int)-1=((a-1:Nat):Int):=(ofNat_sub (le_trans (le_of_ble_eq_true k) h)).symm
theorem Dl (h:a<=b:=by assumption)(k:decide ((b:Int)+i<=j)=true:=by exact rfl):(a:Int)+i<=j:=Int.le_trans (Int.add_le_add_right (ofNat_le.mpr h) _) (of_decide_eq_true k)
theorem Dm (h:a<b:=by assumption):a≠b:=ne_of_lt h
theorem qe (h:b<a:=by assumption):a≠b:=ne_of_gt h
theorem GV (h:b<a:=by assumption):¬ a<=b:=Nat.not_le_of_lt h
theorem IP (h:b<=a:=by assumption):¬ a<b:=not_lt_of_le h
theorem Gb (h:¬ a<=b:=by assumption):b<a:=Nat.lt_of_not_le h
theorem zN (h:¬ a<b:=by assumption):b<=a:=Nat.le_of_not_lt h
theorem JJ (h:a<b:=by assumption)(k:Nat.ble b c=true:=by exact rfl):a≠c:=ne_of_lt (CX h k)
theorem JK (h:a<=b:=by assumption)(k:Nat.ble b c=true:=by exact rfl):¬ c<a:=not_lt_of_le (bN h k)
theorem IQ (h:b<=a:=by assumption):a-b+b=a:=sub_add_cancel h
theorem IR (h:b<=a:=by assumption):b+(a-b)=a:=Nat.add_sub_of_le h
theorem GW (h:b<a:=by assumption):b+(a-b)=a:=Nat.add_sub_of_le (le_of_lt h)
theorem Gc:a-b<=a:=sub_le ..
theorem AP:a<a+(b+1):=Nat.lt_add_of_pos_right (succ_pos _)
theorem zO:a≠a+(b+1):=ne_of_lt AP
theorem JL:a+(b+1)≠a:=ne_of_gt AP
theorem GX (h:b<=c:=by assumption):b+a<=c+a:=Nat.add_le_add_right h _
theorem JM (h:a<=b:=by assumption)(h2:c<d:=by assumption)(k:Nat.ble (b+d) n=true:=by exact rfl):a+c<n:=lt_of_lt_of_le (Nat.add_lt_add_of_le_of_lt h h2) (le_of_ble_eq_true k)
theorem dS (h:a<b:=by assumption)(h2:c<d:=by assumption)(k:Nat.ble (b+d) (n+1)=true:=by exact rfl):a+c<n:=Nat.lt_of_succ_lt_succ (lt_of_lt_of_le (Jn (Nat.add_lt_add_of_le_of_lt (a:=a+1) h h2)) (le_of_ble_eq_true k))
theorem Dn (h:a<=b:=by assumption)(h2:c<=d:=by assumption)(k:Nat.ble (b+d) n=true:=by exact rfl):a+c<=n:=le_trans (add_le_add h h2) (le_of_ble_eq_true k)
theorem GY (h:a<=b:=by assumption)(h2:c<=d:=by assumption)(k:Nat.ble (b+d+1) n=true:=by exact rfl):a+c<n:=lt_of_le_of_lt (add_le_add h h2) (le_of_ble_eq_true k)
theorem JN (h:0<b:=by assumption):a<a+b:=Nat.lt_add_of_pos_right h
theorem JO (h:b≠c:=by assumption):a+b≠a+c:=λe=>h (Nat.add_left_cancel e)
theorem Gd (h:a<=b:=by assumption):a<b+1:=lt_succ_of_le h
theorem GZ (h:a<b:=by assumption):a<b+1:=lt_succ_of_lt h
theorem IS (h:a<=b:=by assumption):a<=b+n:=le_trans h (le_add_right ..)
theorem uI (h:a+n<=b:=by assumption):a<=b:=le_trans (le_add_right ..) h
theorem JP (h:a+n<b:=by assumption):a<b:=lt_of_le_of_lt (le_add_right ..) h
theorem Do (h:b<a+1:=by assumption):b<=a:=le_of_lt_succ h
theorem Dp (h:a<=b:=by assumption)(h2:c<d:=by assumption)(k:Nat.ble (b+m*d+1) n=true:=by exact rfl):a+m*c<n:=lt_of_le_of_lt (add_le_add h (mul_le_mul_left m (le_of_lt h2))) (le_of_ble_eq_true k)
theorem G0 (k:Nat.ble 1 n=true:=by exact rfl):a%n<n:=mod_lt _ (le_of_ble_eq_true k)
theorem yn (k:Nat.ble 1 n=true:=by exact rfl)(k2:Nat.ble n c=true:=by exact rfl):a%n<c:=lt_of_lt_of_le (mod_lt _ (le_of_ble_eq_true k)) (le_of_ble_eq_true k2)
theorem CZ (h:a=b:=by assumption)(h2:c<=b:=by assumption):c<=a:=h▸h2
theorem IT:a<=a+b:=le_add_right ..
theorem JQ:0+a=a:=zero_add ..
theorem G1:a+b=b+a:=add_comm ..
theorem JR:a+b+c=a+(b+c):=add_assoc ..
theorem G2:a+(b+c)=a+b+c:=(add_assoc ..).symm
theorem IU:2*a=a+a:=two_mul ..
theorem JS:a<=max a b:=Nat.le_max_left ..
theorem JT:b<=max a b:=Nat.le_max_right ..
theorem G3 (h:a<b:=by assumption):a<=b:=le_of_lt h
theorem G4:a<=a:=le_refl _
theorem JU:a-0=a:=Nat.sub_zero _
theorem G5 (h:a<=c:=by assumption)(h2:b<=c:=by assumption):max a b<=c:=max_le.mpr ⟨h,h2⟩
theorem AQ (h:a<b:=by assumption)(h2:b<=c:=by assumption):a<c:=lt_of_lt_of_le h h2
theorem AR (h:a<b:=by assumption)(h2:b<=c:=by assumption)(k:Nat.ble c d=true:=by exact rfl):a<d:=CX (lt_of_lt_of_le h h2) k
theorem G6 (h:a<b:=by assumption)(h2:b<=c:=by assumption):a≠c:=ne_of_lt (lt_of_lt_of_le h h2)
theorem G7 (h:a<=b:=by assumption)(h2:b<c:=by assumption):a<c:=lt_of_le_of_lt h h2
theorem yo (h:a<=b:=by assumption)(h2:b<=c:=by assumption)(k:Nat.ble c d=true:=by exact rfl):a<=d:=bN (le_trans h h2) k
theorem Dq (h:a<=b:=by assumption)(h2:b<=c:=by assumption)(k:Nat.ble (c+1) d=true:=by exact rfl):a<d:=dU (le_trans h h2) k
theorem uP (h:p/\(a<=b):=by assumption)(k:Nat.ble b c=true:=by exact rfl):a<=c:=bN h.2 k
theorem mO (h:p/\(a<=b):=by assumption)(k:Nat.ble (b+1) c=true:=by exact rfl):a<c:=dU h.2 k
theorem G8 (h:p/\(a<b):=by assumption)(k:Nat.ble b (c+1)=true:=by exact rfl):a<=c:=F9 h.2 k
theorem Dr (h:p/\(a<=b):=by assumption)(k:Nat.ble (b+n+1) c=true:=by exact rfl):a+n<c:=IL h.2 k
theorem G9 (h:(a<b)/\p:=by assumption):(a:Int)<b:=uH h.1
theorem Dt (h:(0<a)/\p:=by assumption):(a:Int)≠0:=ym h.1
theorem Ha (h:(b<=a)/\p:=by assumption):(a:Int)-b=((a-b:Nat):Int):=CY h.1
theorem Hb (h:(b<a)/\p:=by assumption):a≠b:=qe h.1
@[elab_as_elim] theorem NQ {α:Type}{P:List α->Prop}{l:List α}(h:l.length=1)(k:∀ a,P [a]):P l:=match l,h with
 |[a],_=>k a
@[elab_as_elim] theorem NR {α:Type}{P:List α->Prop}{l:List α}(h:l.length=2)(k:∀ a b,P [a,b]):P l:=match l,h with
 |[a,b],_=>k a b
@[elab_as_elim] theorem AS {α:Type}{P:List α->Prop}{l:List α}(h:l.length=3)(k:∀ a b c,P [a,b,c]):P l:=match l,h with
 |[a,b,c],_=>k a b c
end
set_option compiler.extract_closed false
open Lean.Parser.Tactic in
local macro_rules | `(tactic| rewrite [$e:term]) => `(tactic| first | with_reducible refine Mine.Internal.sbr ?_ ($e ..) | fail)
open Lean.Parser.Tactic in
local macro_rules | `(tactic| rewrite [← $e:term]) => `(tactic| first | with_reducible refine Mine.Internal.sb ?_ ($e ..) | fail)
open Lean.Parser.Tactic in
local macro_rules | `(tactic| rewrite [$a:rwRule, $b:rwRule]) => `(tactic| (rewrite [$a:rwRule]; rewrite [$b:rwRule]))
open Lean.Parser.Tactic in
local macro_rules | `(tactic| rewrite [$a:rwRule, $b:rwRule, $c:rwRule]) => `(tactic| (rewrite [$a:rwRule]; rewrite [$b:rwRule]; rewrite [$c:rwRule]))
open Lean.Parser.Tactic in
local macro_rules | `(tactic| rewrite [$a:rwRule, $b:rwRule, $c:rwRule, $g:rwRule,*]) => `(tactic| (rewrite [$a:rwRule]; rewrite [$b:rwRule]; rewrite [$c:rwRule]; rewrite [$g,*]))
open PySem PySem.Spec PySem.Calls PyProof.Rows PySem.W
section
abbrev bf:=Addr->Option Obj
abbrev sw (s:Shared)(h:Heap)(tk:Nat):Shared:=⟨h,s.gens,s.drawn,tk,s.os⟩
set_option genCtorIdx false
inductive AV where
 |none
 |bool (b:Bool)
 |int (i:Int)
 |str (s:List Nat)
 |tup (xs:List AV)
 |lst (xs:List AV)
 |rng (lo hi:Int)
 |fn (k:Nat)
 |rx (b:Bool)
 |obj (i:Nat)
inductive AO where
 |list (xs:List AV)
 |inst (k:Nat) (d:Nat)
 |dict (fs:List (Nat×AV))
 |iter (xs:List AV)
 |dead
noncomputable def AV.ctorIdx (x:AV):Nat:=AV.casesOn x 0 (λ_=>1) (λ_=>2) (λ_=>3) (λ_=>4) (λ_=>5) (λ_ _=>6) (λ_=>7) (λ_=>8) λ_=>9
noncomputable def AO.ctorIdx (x:AO):Nat:=AO.casesOn x (λ_=>0) (λ_ _=>1) (λ_=>2) (λ_=>3) 4
@[simp] theorem AV.obj_eq (i j:Nat):(AV.obj i=AV.obj j)=(i=j):=propext ⟨λh=>by cases h;rfl,congrArg _⟩
abbrev St:=List AO
abbrev Loc:=List (Nat×AV)
noncomputable def cr (f:Nat):Addr:=[316,323,328,333,338,343,350,357,362,369,374,379,228,221,193,200,207,214,236,243,182,305,384,316,316,316,316,316,316,316,121,102,129,139,179,83,281].getD f 0
noncomputable def fv (k:Nat):Value:=.ref (cr k)
noncomputable def aM:Program:=PySem.Challenge.rw_uc0064_01.row.toRowW.prog
abbrev aA {α:Type}(w:World)(A:Around)(t:Sem α)(Q:α->Shared->Prop)(E:Value->Shared->Prop)(s:Shared):Prop:=wpAny (model aM w) A t Q E s
noncomputable def fi:Addr:=182
noncomputable def jh:Addr:=305
noncomputable def cQ:Addr:=202
noncomputable def dq:Addr:=209
noncomputable def fj:Addr:=48
noncomputable def fk:Addr:=53
noncomputable def Lf (F:bf)(a:Addr)(arr:Array Value):Prop:=∃ n,F a=some { cls:=.type "list",data:=.seq arr n }
mutual
inductive VR (F:bf)(φ:List Addr):AV->Value->Prop
 |none:VR F φ .none .none
 |bool (b:Bool):VR F φ (.bool b) (.bool b)
 |int (i:Int) (t:Tok):VR F φ (.int i) (.int i t)
 |str (l:List Nat) (t:Tok):VR F φ (.str l) (.str ⟨l.toArray⟩ t)
 |tup {xs:List AV} {a:Addr} {arr:Array Value} {n:Nat}:F a=some { cls:=.type "tuple",data:=.seq arr n }->Km F φ xs arr.toList->VR F φ (.tup xs) (.ref a)
 |lst {xs:List AV} {a:Addr} {arr:Array Value}:Lf F a arr->Km F φ xs arr.toList->VR F φ (.lst xs) (.ref a)
 |rng {lo hi:Int} {a:Addr} {t u v:Tok}:F a=some { cls:=.type "range",data:=.fields #[.int lo t,.int hi u,.int 1 v] }->VR F φ (.rng lo hi) (.ref a)
 |fn (k:Nat):VR F φ (.fn k) (.ref k)
 |rx (b:Bool):VR F φ (.rx b) (.ref (if b then fj else fk))
 |obj {i:Nat} {a:Addr}:φ[i]?=some a->VR F φ (.obj i) (.ref a)
inductive Km (F:bf)(φ:List Addr):List AV->List Value->Prop
 |nil:Km F φ [] []
 |cons {x:AV} {v:Value} {xs:List AV} {vs:List Value}:VR F φ x v->Km F φ xs vs->Km F φ (x::xs) (v::vs)
end
noncomputable def K7 (F F':bf):Prop:=∀ a o,F a=some o->F' a=some o
theorem K7.refl (F:bf):K7 F F:=λ_ _ e=>e
theorem K7.trans {F G H:bf}(a:K7 F G)(b:K7 G H):K7 F H:=λx o e=>b x o (a x o e)
theorem Lf.mono {F F':bf}{a:Addr}{arr:Array Value}(x:Lf F a arr)(y:K7 F F'):Lf F' a arr:=let ⟨n,e⟩:=x;⟨n,y _ _ e⟩
theorem eR {φ Kn:List Addr}(p:φ <+: Kn){i:Nat}{a:Addr}(h:φ[i]?=some a):Kn[i]?=some a:=by
 refine aw p ?_;clear p;rintro t rfl;refine aw (List.getElem?_eq_some_iff.mp h) λhl e=>?_;rw[getElem?_append_left hl];exact h
theorem VR.mono {F F':bf}{φ Kn:List Addr}(hF:K7 F F')(hp:φ <+: Kn){x:AV}{v:Value}(h:VR F φ x v):VR F' Kn x v:=
 VR.rec (motive_1:=λx v _=>VR F' Kn x v) (motive_2:=λx v _=>Km F' Kn x v) .none .bool .int .str (λa _ d=>.tup (hF _ _ a) d) (λa _ d=>.lst (a.mono hF) d) (λa=>.rng (hF _ _ a)) .fn .rx (λh=>.obj (eR hp h)) .nil (λ_ _ a b=>.cons a b) h
theorem Km.mono {F F':bf}{φ Kn:List Addr}(hF:K7 F F')(hp:φ <+: Kn){x:List AV}{v:List Value}(h:Km F φ x v):Km F' Kn x v:=
 Km.rec (motive_1:=λx v _=>VR F' Kn x v) (motive_2:=λx v _=>Km F' Kn x v) .none .bool .int .str (λa _ d=>.tup (hF _ _ a) d) (λa _ d=>.lst (a.mono hF) d) (λa=>.rng (hF _ _ a)) .fn .rx (λh=>.obj (eR hp h)) .nil (λ_ _ a b=>.cons a b) h
noncomputable def IV (F:bf)(φ:List Addr)(x:AV)(v:Value):Prop:=match x with
 |.none=>v=.none
 |.bool b=>v=.bool b
 |.int i=>∃ t,v=.int i t
 |.str l=>∃ t,v=.str ⟨l.toArray⟩ t
 |.tup xs=>∃ a arr n,v=.ref a/\F a=some { cls:=.type "tuple",data:=.seq arr n }/\Km F φ xs arr.toList
 |.lst xs=>∃ a arr,v=.ref a/\Lf F a arr/\Km F φ xs arr.toList
 |.rng lo hi=>∃ a t u w,v=.ref a/\F a=some { cls:=.type "range",data:=.fields #[.int lo t,.int hi u,.int 1 w] }
 |.fn k=>v=.ref k
 |.rx b=>v=.ref (if b then fj else fk)
 |.obj i=>∃ a,v=.ref a/\φ[i]?=some a
noncomputable def Du (F:bf)(φ:List Addr)(xs:List AV)(vs:List Value):Prop:=match xs with
 |[]=>vs=[]
 |x::xs=>∃ v ws,vs=v::ws/\VR F φ x v/\Km F φ xs ws
theorem VR.inv {F:bf}{φ:List Addr}{x:AV}{v:Value}(h:VR F φ x v):IV F φ x v:=
 VR.casesOn (motive_1:=λx v _=>IV F φ x v) h rfl (λ_=>rfl) (λ_ t=>⟨t,rfl⟩) (λ_ t=>⟨t,rfl⟩) (λa b=>⟨_,_,_,rfl,a,b⟩) (λa b=>⟨_,_,rfl,a,b⟩) (λa=>⟨_,_,_,_,rfl,a⟩) (λ_=>rfl) (λ_=>rfl) (λh=>⟨_,rfl,h⟩)
theorem Km.inv {F:bf}{φ:List Addr}{x:List AV}{v:List Value}(h:Km F φ x v):Du F φ x v:=
 Km.casesOn (motive_2:=λx v _=>Du F φ x v) h rfl (λa b=>⟨_,_,rfl,a,b⟩)
section
variable {F:bf}{φ:List Addr}{v:Value}{vs:List Value}{P:Value->Prop}{Q:List Value->Prop}
theorem VR.noneR (k:P .none)(h:VR F φ .none v):P v:=h.inv.symm▸k
theorem VR.boolR {b:Bool}(k:P (.bool b))(h:VR F φ (.bool b) v):P v:=h.inv.symm▸k
theorem VR.intR {i:Int}(k:∀ t,P (.int i t))(h:VR F φ (.int i) v):P v:=h.inv.elim λt e=>e.symm▸k t
theorem VR.strR {l:List Nat}(k:∀ t,P (.str ⟨l.toArray⟩ t))(h:VR F φ (.str l) v):P v:=h.inv.elim λt e=>e.symm▸k t
theorem VR.tupR {xs:List AV}(k:∀ a arr n,F a=some { cls:=.type "tuple",data:=.seq arr n }->Km F φ xs arr.toList->P (.ref a))(h:VR F φ (.tup xs) v):P v:=h.inv.elim λa h=>h.elim λb h=>h.elim λn h=>h.1.symm▸k a b n h.2.1 h.2.2
theorem VR.lstR {xs:List AV}(k:∀ a arr,Lf F a arr->Km F φ xs arr.toList->P (.ref a))(h:VR F φ (.lst xs) v):P v:=h.inv.elim λa h=>h.elim λb h=>h.1.symm▸k a b h.2.1 h.2.2
theorem VR.rngR {lo hi:Int}(k:∀ a t u w,F a=some { cls:=.type "range",data:=.fields #[.int lo t,.int hi u,.int 1 w] }->P (.ref a))(h:VR F φ (.rng lo hi) v):P v:=h.inv.elim λa h=>h.elim λt h=>h.elim λu h=>h.elim λw h=>h.1.symm▸k a t u w h.2
theorem VR.rxR {b:Bool}(k:P (.ref (if b then fj else fk)))(h:VR F φ (.rx b) v):P v:=h.inv.symm▸k
theorem VR.objR {i:Nat}(k:∀ a,φ[i]?=some a->P (.ref a))(h:VR F φ (.obj i) v):P v:=h.inv.elim λa h=>h.1.symm▸k a h.2
theorem Km.nilR (k:Q [])(h:Km F φ [] vs):Q vs:=h.inv.symm▸k
theorem Km.consR {x:AV}{xs:List AV}(k:∀ v ws,VR F φ x v->Km F φ xs ws->Q (v::ws))(h:Km F φ (x::xs) vs):Q vs:=h.inv.elim λv h=>h.elim λw h=>h.1.symm▸k v w h.2.1 h.2.2
theorem Km.oneR {x:AV}(k:∀ v,VR F φ x v->Q [v])(h:Km F φ [x] vs):Q vs:=Km.consR (λv ws p q=>Km.nilR (Q:=λws=>Q (v::ws)) (k v p) q) h
theorem Km.twoR {x y:AV}(k:∀ v u,VR F φ x v->VR F φ y u->Q [v,u])(h:Km F φ [x,y] vs):Q vs:=Km.consR (λv ws p q=>Km.oneR (Q:=λws=>Q (v::ws)) (λu r=>k v u p r) q) h
end
section
variable {F:bf}{φ:List Addr}{xs:List AV}{vs:List Value}
theorem Km.ind {P:List AV->List Value->Prop}(n:P [] [])(c:∀ {x v xs vs},VR F φ x v->Km F φ xs vs->P xs vs->P (x::xs) (v::vs)){xs:List AV}{vs:List Value}(h:Km F φ xs vs):P xs vs:=
 Km.rec (motive_1:=λ_ _ _=>True) (motive_2:=λx v _=>P x v) trivial (λ_=>trivial) (λ_ _=>trivial) (λ_ _=>trivial) (λ_ _ _=>trivial) (λ_ _ _=>trivial) (λ_=>trivial) (λ_=>trivial) (λ_=>trivial) (λ_=>trivial) n (λa b _ i=>c a b i) h
theorem Km.length (h:Km F φ xs vs):xs.length=vs.length:=Km.ind (P:=λxs vs=>xs.length=vs.length) rfl (λ_ _ i=>congrArg Nat.succ i) h
theorem Km.get (h:Km F φ xs vs):∀ {i:Nat} {x:AV},xs[i]?=some x->∃ v,vs[i]?=some v/\VR F φ x v:=
 Km.ind (P:=λxs vs=>∀ {i:Nat} {x:AV},xs[i]?=some x->∃ v,vs[i]?=some v/\VR F φ x v) (λe=>nomatch e) (λa _ k i=>match i with
  |0=>λe=>⟨_,rfl,KO e▸a⟩
  |_+1=>λe=>k e) h
theorem Km.append {ys:List AV}{ws:List Value}(h:Km F φ xs vs)(k:Km F φ ys ws):Km F φ (xs++ys) (vs++ws):=
 Km.ind (P:=λxs vs=>Km F φ (xs++ys) (vs++ws)) k (λa _ i=>.cons a i) h
theorem Km.set (h:Km F φ xs vs):∀ (i:Nat) {x:AV} {v:Value},VR F φ x v->Km F φ (xs.set i x) (vs.set i v):=
 Km.ind (P:=λxs vs=>∀ (i:Nat) {x:AV} {v:Value},VR F φ x v->Km F φ (xs.set i x) (vs.set i v)) (λ_ _ _ _=>.nil) (λa b k i=>match i with
  |0=>λe=>.cons e b
  |i+1=>λe=>.cons a (k i e)) h
theorem Km.drop (h:Km F φ xs vs):∀ (i:Nat),Km F φ (xs.drop i) (vs.drop i):=
 Km.ind (P:=λxs vs=>∀ (i:Nat),Km F φ (xs.drop i) (vs.drop i)) (λi=>match i with |0=>.nil |_+1=>.nil) (λa b k i=>match i with
  |0=>.cons a b
  |i+1=>k i) h
theorem Km.snoc {x:AV}{v:Value}(h:Km F φ xs vs)(hx:VR F φ x v):Km F φ (xs++[x]) (vs++[v]):=Km.append h (.cons hx .nil)
theorem Km.reverse (h:Km F φ xs vs):Km F φ xs.reverse vs.reverse:=
 Km.ind (P:=λxs vs=>Km F φ xs.reverse vs.reverse) .nil (λa _ i=>(reverse_cons ..).symm▸(reverse_cons ..).symm▸Km.snoc i a) h
end
end
section
set_option genCtorIdx false in
inductive Tg where
 |nm (x:Nat)
 |tup (xs:List Nat)
inductive Ty where
 |int |str |list |bool
inductive Bi where
 |len |range1 |range2 |sum |min |max |hex |chr |ord |str |divmod |tuple |next |iter
inductive Sm where
 |lower |upper |join |bitlen |count |index |append |reverse |search
set_option genCtorIdx false
mutual
inductive E where
 |l (x:Nat)
 |int (i:Int)
 |str (s:List Nat)
 |bool (b:Bool)
 |non
 |b (op:Operator) (a b:E)
 |cmp (op:CmpOp) (a b:E)
 |ite (c:C) (a b:E)
 |tup (es:List E)
 |new (m:Bool) (l:L)
 |sub (a i:E)
 |call (k:Nat) (args:List E)
 |lcall (x:Nat) (args:List E)
 |meth (k:Nat) (recv:E) (args:List E)
 |conv (recv a:E) (b:Bool)
 |bi (b:Bi) (args:List E)
 |sm (m:Sm) (recv:E) (args:List E)
 |attr (recv:E) (a:Nat)
 |cattr (b:Bool)
 |frz (e:E)
 |isTy (a:E) (t:Ty) (neg:Bool)
 |isNon (a:E) (neg:Bool)
 |isTru (a:E) (neg:Bool)
 |rxg (b:Bool)
 |dbg
 |flag (x:Nat)
 |dlim
inductive L where
 |list (es:List E)
 |cat (a b:E)
 |rep (a n:E)
 |comp (elt:E) (tg:Tg) (src:E) (ifs:List C) (cap:List Nat)
 |comp2 (elt:E) (tg:Tg) (src:E) (Lz:Tg) (K9:E) (cap:List Nat)
 |rev (a:E)
 |drop (a i:E)
 |sorted (a:E)
 |split (a:E) (sep:E)
inductive C where
 |val (e:E)
 |and (a b:C)
 |or (a b:C)
 |not (a:C)
end
inductive S where
 |asg (tg:Tg) (e:E)
 |asg2 (xs:List Nat) (es:List E)
 |asgs (xs:List Nat) (e:E)
 |aug (x:Nat) (op:Operator) (e:E)
 |setI (o i e:E)
 |augI (o i:E) (op:Operator) (e:E)
 |setSl (o e:E)
 |setA (o:E) (a:Nat) (e:E)
 |expr (e:E)
 |iff (c:C) (a b:List S)
 |whl (c:C) (a:List S)
 |for (tg:Tg) (src:E) (body orelse:List S)
 |forR (x:Nat) (src:E) (body:List S)
 |ret (e:E)
 |retN
 |brk
 |del (o i:E)
 |bad
noncomputable def af:Loc->Nat->Option AV
 |[],_=>none
 |(y,v)::r,x=>if Nat.beq y x then some v else af r x
noncomputable def ai:Loc->Nat->AV->Loc
 |[],x,w=>[(x,w)]
 |(y,v)::r,x,w=>if Nat.beq y x then (y,w)::r else (y,v)::ai r x w
noncomputable def bA:Loc->List Nat->List AV->Option Loc
 |σ,[],[]=>some σ
 |σ,x::xs,v::vs=>bA (ai σ x v) xs vs
 |_,_,_=>none
noncomputable def aQ (σ:Loc):Tg->AV->Option Loc
 |.nm x,v=>some (ai σ x v)
 |.tup xs,.tup vs=>bA σ xs vs
 |.tup xs,.lst vs=>bA σ xs vs
 |_,_=>none
noncomputable def dX:Tg->List Nat
 |.nm x=>[x]
 |.tup xs=>xs
noncomputable def aX (σ:Loc)(cap:List Nat):Loc:=σ.filter λp=>cap.contains p.1
noncomputable def listAt (st:St)(i:Nat):Option (List AV):=match st[i]? with
 |some (.list xs)=>some xs
 |_=>none
noncomputable def lR (lo:Int):Nat->List AV
 |0=>[]
 |n+1=>.int lo::lR (lo+1) n
noncomputable def aF (st:St):AV->Option (List AV)
 |.lst xs=>some xs
 |.tup xs=>some xs
 |.rng lo hi=>if lo.natAbs<2^61/\hi.natAbs<2^61 then some (lR lo (hi-lo).toNat) else none
 |.str s=>some (s.map λc=>.str [c])
 |.obj i=>listAt st i
 |_=>none
noncomputable def an (st:St)(v:AV)(xs:List AV):Bool:=match v with
 |.obj i=>@decide (listAt st i=some xs) (Classical.propDecidable _)
 |_=>true
noncomputable def lS (st:St):AV->Option (List AV)
 |.lst xs=>some xs
 |.tup xs=>some xs
 |.obj i=>listAt st i
 |_=>none
noncomputable def cN (st:St):AV->Option (List AV)
 |.lst xs=>some xs
 |.obj i=>listAt st i
 |_=>none
noncomputable def allInts:List AV->Option (List Int)
 |[]=>some []
 |.int i::r=>(allInts r).map (i::·)
 |_::_=>none
noncomputable def allStrs:List AV->Option (List (List Nat))
 |[]=>some []
 |.str i::r=>(allStrs r).map (i::·)
 |_::_=>none
noncomputable def eB (a b:Int):Bool:=!(decide (intBits a>shortFactorBits)&&decide (intBits b>shortFactorBits)&&intTooBig (intBits a+intBits b))
noncomputable def ar {γ:Type}(x:AV)(f:Int->Option γ):Option γ:=match x with
 |.int a=>f a
 |_=>none
noncomputable def onStr {γ:Type}(x:AV)(f:List Nat->Option γ):Option γ:=match x with
 |.str a=>f a
 |_=>none
noncomputable def AT {γ:Type}(x:AV)(f:List AV->Option γ):Option γ:=match x with
 |.tup a=>f a
 |_=>none
noncomputable def qh {γ:Type}(x:AV)(f:List AV->Option γ):Option γ:=match x with
 |.lst a=>f a
 |_=>none
noncomputable def AU {γ:Type}(x:AV)(f:Bool->Option γ):Option γ:=match x with
 |.bool a=>f a
 |_=>none
noncomputable def gZ {γ:Type}(x:AV)(f:Nat->Option γ):Option γ:=match x with
 |.obj a=>f a
 |_=>none
noncomputable def AW {γ:Type}(x:AV)(f:Bool->Option γ):Option γ:=match x with
 |.rx a=>f a
 |_=>none
noncomputable def isStr {γ:Type}(x:AV)(f:List Nat->Option γ)(z:Option γ):Option γ:=match x with
 |.str a=>f a
 |_=>z
noncomputable def AX {γ:Type}(x:AV)(f:List AV->Option γ)(z:Option γ):Option γ:=match x with
 |.tup a=>f a
 |_=>z
noncomputable def AY {γ:Type}(x:AV)(f:List AV->Option γ)(z:Option γ):Option γ:=match x with
 |.lst a=>f a
 |_=>z
noncomputable def iO {α γ:Type}(l:List α)(f:α->Option γ):Option γ:=match l with
 |[]=>none
 |x::r=>match r with
  |[]=>f x
  |_::_=>none
noncomputable def two {α γ:Type}(l:List α)(f:α->α->Option γ):Option γ:=match l with
 |[]=>none
 |x::r=>iO r (f x)
noncomputable def nil {α γ:Type}(l:List α)(z:Option γ):Option γ:=match l with
 |[]=>z
 |_::_=>none
section
variable {γ:Type}{r:γ}
theorem bg:¬ (none=some r):=nofun
theorem eC {Kh:Loc}{P:Loc->List Nat->List AV->Prop}(n:P Kh [] [])(c:∀ σ x xs v vs,P (ai σ x v) xs vs->P σ (x::xs) (v::vs))(xs:List Nat):∀ (vs:List AV) (σ:Loc),bA σ xs vs=some Kh->P σ xs vs:=by
 induction xs with
 |nil=>exact λvs=>match vs with
  |[]=>λσ e=>KO e▸n
  |_::_=>λσ e=>absurd e bg
 |cons x xs ih=>exact λvs=>match vs with
  |[]=>λσ e=>absurd e bg
  |v::vs=>λσ e=>c σ x xs v vs (ih vs _ e)
theorem cJ {ps:List Nat}{vs:List AV}{σ Kh:Loc}(h:bA σ ps vs=some Kh):vs.length=ps.length:=eC (P:=λσ xs vs=>vs.length=xs.length) rfl (λa b c d e=>congrArg Nat.succ) _ _ _ h
section
variable {x:AV}{P:AV->Prop}
theorem eS {f:Int->Option γ}(k:∀ a,f a=some r->P (.int a)):ar x f=some r->P x:=by cases x<;>first |exact λ(h:none=some r)=>absurd h bg |exact k _
theorem mP {f:List Nat->Option γ}(k:∀ a,f a=some r->P (.str a)):onStr x f=some r->P x:=by cases x<;>first |exact λ(h:none=some r)=>absurd h bg |exact k _
theorem AZ {f:List AV->Option γ}(k:∀ a,f a=some r->P (.tup a)):AT x f=some r->P x:=by cases x<;>first |exact λ(h:none=some r)=>absurd h bg |exact k _
theorem uQ {f:List AV->Option γ}(k:∀ a,f a=some r->P (.lst a)):qh x f=some r->P x:=by cases x<;>first |exact λ(h:none=some r)=>absurd h bg |exact k _
theorem uR {f:Bool->Option γ}(k:∀ a,f a=some r->P (.bool a)):AU x f=some r->P x:=by cases x<;>first |exact λ(h:none=some r)=>absurd h bg |exact k _
theorem j8 {f:Nat->Option γ}(k:∀ a,f a=some r->P (.obj a)):gZ x f=some r->P x:=by cases x<;>first |exact λ(h:none=some r)=>absurd h bg |exact k _
theorem A0 {f:Bool->Option γ}(k:∀ a,f a=some r->P (.rx a)):AW x f=some r->P x:=by cases x<;>first |exact λ(h:none=some r)=>absurd h bg |exact k _
end
section
variable {α:Type}{l:List α}{P:List α->Prop}
theorem j9 {f:α->Option γ}(k:∀ x,f x=some r->P [x]):iO l f=some r->P l:=match l with
 |[]=>λ(h:none=some r)=>absurd h bg
 |[x]=>k x
 |_::_::_=>λ(h:none=some r)=>absurd h bg
theorem two_r {f:α->α->Option γ}(k:∀ x y,f x y=some r->P [x,y]):two l f=some r->P l:=match l with
 |[]=>λ(h:none=some r)=>absurd h bg
 |x::l=>j9 (P:=λl=>P (x::l)) (k x)
theorem Dv {z:Option γ}(k:z=some r->P []):nil l z=some r->P l:=match l with
 |[]=>k
 |_::_=>λ(h:none=some r)=>absurd h bg
end
section
variable {F:bf}{φ:List Addr}{x:AV}{v:Value}{P:Value->Prop}(hx:VR F φ x v)
include hx
theorem cu {f:Int->Option γ}(e:ar x f=some r)(k:∀ a t,f a=some r->P (.int a t)):P v:=eS (P:=λx=>VR F φ x v->P v) (λa h=>VR.intR λt=>k a t h) e hx
theorem hG {f:List Nat->Option γ}(e:onStr x f=some r)(k:∀ a t,f a=some r->P (.str ⟨a.toArray⟩ t)):P v:=mP (P:=λx=>VR F φ x v->P v) (λa h=>VR.strR λt=>k a t h) e hx
theorem A7 {f:Int->Option γ}(e:ar x f=some r):∃ a t,v=.int a t/\f a=some r:=cu (P:=λv=>∃ a t,v=.int a t/\f a=some r) hx e λa t e=>⟨a,t,rfl,e⟩
theorem uS {f:List Nat->Option γ}(e:onStr x f=some r):∃ a t,v=.str ⟨a.toArray⟩ t/\f a=some r:=hG (P:=λv=>∃ a t,v=.str ⟨a.toArray⟩ t/\f a=some r) hx e λa t e=>⟨a,t,rfl,e⟩
theorem Dw {f:List AV->Option γ}(e:AT x f=some r)(k:∀ xs a arr n,f xs=some r->F a=some { cls:=.type "tuple",data:=.seq arr n }->Km F φ xs arr.toList->P (.ref a)):P v:=
 AZ (P:=λx=>VR F φ x v->P v) (λxs h=>VR.tupR λa arr n=>k xs a arr n h) e hx
theorem rN {f:List AV->Option γ}(e:qh x f=some r)(k:∀ xs a arr,f xs=some r->Lf F a arr->Km F φ xs arr.toList->P (.ref a)):P v:=
 uQ (P:=λx=>VR F φ x v->P v) (λxs h=>VR.lstR λa arr=>k xs a arr h) e hx
theorem ji {f:Nat->Option γ}(e:gZ x f=some r)(k:∀ i a,f i=some r->φ[i]?=some a->P (.ref a)):P v:=
 j8 (P:=λx=>VR F φ x v->P v) (λi h=>VR.objR λa=>k i a h) e hx
theorem Dx {f:Bool->Option γ}(e:AW x f=some r)(k:∀ b,f b=some r->P (.ref (if b then fj else fk))):P v:=
 A0 (P:=λx=>VR F φ x v->P v) (λb h=>VR.rxR (k b h)) e hx
theorem ka {f:List Nat->Option γ}{z:Option γ}(e:isStr x f z=some r)(k:∀ a t,f a=some r->P (.str ⟨a.toArray⟩ t))(k2:z=some r->P v):P v:=by
 revert e;cases x<;>first |exact k2 |exact λh=>VR.strR (λt=>k _ t h) hx
theorem zP {f:List AV->Option γ}{z:Option γ}(e:AX x f z=some r)(k:∀ xs a arr n,f xs=some r->F a=some { cls:=.type "tuple",data:=.seq arr n }->Km F φ xs arr.toList->P (.ref a))(k2:z=some r->P v):P v:=by
 revert e;cases x<;>first |exact k2 |exact λh=>VR.tupR (λa arr n=>k _ a arr n h) hx
theorem zQ {f:List AV->Option γ}{z:Option γ}(e:AY x f z=some r)(k:∀ xs a arr,f xs=some r->Lf F a arr->Km F φ xs arr.toList->P (.ref a))(k2:z=some r->P v):P v:=by
 revert e;cases x<;>first |exact k2 |exact λh=>VR.lstR (λa arr=>k _ a arr h) hx
end
end
theorem oE {γ:Type}{o:Option (AV×St)}{k:AV->St->Option γ}{r:γ}{P:Prop}(e:(match o with
 |some (x,y)=>k x y
 |none=>none)=some r) (f:∀ x y,o=some (x,y)->k x y=some r->P):P:=by
 cases o with
 |none=>cases e
 |some z=>exact f _ _ rfl e
theorem oL {γ:Type}{o:Option (List AV×St)}{k:List AV->St->Option γ}{r:γ}{P:Prop}(e:(match o with
 |some (x,y)=>k x y
 |none=>none)=some r) (f:∀ x y,o=some (x,y)->k x y=some r->P):P:=by
 cases o with
 |none=>cases e
 |some z=>exact f _ _ rfl e
theorem oB {γ:Type}{o:Option (Bool×St)}{k:Bool->St->Option γ}{r:γ}{P:Prop}(e:(match o with
 |some (x,y)=>k x y
 |none=>none)=some r) (f:∀ x y,o=some (x,y)->k x y=some r->P):P:=by
 cases o with
 |none=>cases e
 |some z=>exact f _ _ rfl e
theorem oC {γ:Type}{o:Option (Bool×St)}{kt kf:St->Option γ}{r:γ}{P:Prop}(e:(match o with
 |some (true,y)=>kt y
 |some (false,y)=>kf y
 |none=>none)=some r) (f:∀ y,o=some (true,y)->kt y=some r->P) (g:∀ y,o=some (false,y)->kf y=some r->P):P:=by
 cases o with
 |none=>cases e
 |some z=>
  obtain⟨b,y⟩:=z;cases b
  ·exact g _ rfl e
  ·exact f _ rfl e
theorem oV {γ:Type}{o:Option (List AV)}{k:List AV->Option γ}{r:γ}{P:Prop}(e:(match o with
 |some x=>k x
 |none=>none)=some r) (f:∀ x,o=some x->k x=some r->P):P:=by
 cases o with
 |none=>cases e
 |some z=>exact f _ rfl e
theorem oN {γ:Type}{o:Option (List Int)}{k:List Int->Option γ}{r:γ}{P:Prop}(e:(match o with
 |some x=>k x
 |none=>none)=some r) (f:∀ x,o=some x->k x=some r->P):P:=by
 cases o with
 |none=>cases e
 |some z=>exact f _ rfl e
theorem oW {γ:Type}{o:Option (List (List Nat))}{k:List (List Nat)->Option γ}{r:γ}{P:Prop}(e:(match o with
 |some x=>k x
 |none=>none)=some r) (f:∀ x,o=some x->k x=some r->P):P:=by
 cases o with
 |none=>cases e
 |some z=>exact f _ rfl e
theorem oD {γ:Type}{o:Option PyData}{k:PyData->Option γ}{r:γ}{P:Prop}(e:(match o with
 |some x=>k x
 |none=>none)=some r) (f:∀ x,o=some x->k x=some r->P):P:=by
 cases o with
 |none=>cases e
 |some z=>exact f _ rfl e
theorem oI {γ:Type}{c:Prop}[d:Decidable c]{a:Option γ}{r:γ}{P:Prop}(e:(if c then a else none)=some r)(f:c->a=some r->P):P:=by
 cases d with
 |isTrue h=>exact f h e
 |isFalse h=>cases e
theorem oM {α γ:Type}{o:Option α}{g:α->γ}{r:γ}{P:γ->Prop}(e:o.map g=some r)(f:∀ u,o=some u->P (g u)):P r:=by
 cases o with
 |none=>cases e
 |some u=>cases e;exact f u rfl
theorem xZ {α β γ:Type}{o:Option α}{g:α->β}{c d:γ}{v:β}{P:β->γ->Prop}(e:o.map (λu=>(g u,c))=some (v,d))(f:∀ u,o=some u->P (g u) c):P v d:=by
 cases o with
 |none=>cases e
 |some u=>cases e;exact f u rfl
theorem A8 {α β γ δ:Type}{o:Option α}{a:δ}{g:α->β}{c:α->γ}{a':δ}{v:β}{d:γ}{P:δ->β->γ->Prop}(e:o.map (λu=>(a,g u,c u))=some (a',v,d))(f:∀ u,o=some u->P a (g u) (c u)):P a' v d:=by
 cases o with
 |none=>cases e
 |some u=>cases e;exact f u rfl
theorem oP {α β:Type}{a v:α}{b d:β}{P:α->β->Prop}(e:some (a,b)=some (v,d))(f:P a b):P v d:=by cases e;exact f
theorem ti {α β γ:Type}{a v:α}{b d:β}{c u:γ}{P:α->β->γ->Prop}(e:some (a,b,c)=some (v,d,u))(f:P a b c):P v d u:=by cases e;exact f
noncomputable def aK (op:Operator)(x y:AV):Option AV:=match op with
 |.Add=>isStr x (λa=>onStr y λb=>if a.length+b.length<=1000000 then some (.str (a++b)) else none) (AX x (λa=>AT y λb=>if (!a.isEmpty)=true/\(!b.isEmpty)=true/\a.length+b.length<=1000000 then some (.tup (a++b)) else none)
  (ar x λa=>ar y λb=>some (.int (a+b))))
 |.Sub=>ar x λa=>ar y λb=>some (.int (a-b))
 |.Mult=>isStr x (λs=>iO s λc=>ar y λn=>if -1000<=n/\n<=1000 then some (.str (replicate n.toNat c)) else none) (AX x (λs=>iO s λa=>ar y λn=>if 2<=n/\n<=1000 then some (.tup (replicate n.toNat a)) else none)
  (ar x λa=>ar y λb=>if eB a b then some (.int (a*b)) else none))
 |.FloorDiv=>ar x λa=>ar y λb=>if b≠0/\divisionGoesByPylong a b=false then some (.int (a.fdiv b)) else none
 |.Mod=>ar x λa=>ar y λb=>if b≠0 then some (.int (a.fmod b)) else none
 |.LShift=>ar x λa=>ar y λb=>if 0<=b/\(intBits a:Int)+b<=2^27 then some (.int (a*2^b.toNat)) else none
 |.RShift=>ar x λa=>ar y λb=>if 0<=b/\b<2^60 then some (.int (a.fdiv (2^b.toNat))) else none
 |.Pow=>ar x λa=>ar y λb=>if 2<=a/\a<=8/\0<=b/\b<=100 then some (.int (a^b.toNat)) else none
 |.BitAnd=>ar x λa=>ar y λb=>some (.int (Builtin.bitAnd a b))
 |.BitOr=>ar x λa=>ar y λb=>some (.int (Builtin.bitOr a b))
 |.BitXor=>ar x λa=>ar y λb=>some (.int (Builtin.bitXor a b))
 |.Div=>none
 |.MatMult=>none
noncomputable def aY {α:Type}:List (Option α)->Option (List α)
 |[]=>some []
 |some x::r=>(aY r).map (x::·)
 |none::_=>none
noncomputable def ba:Nat->St->AV->Option PyData
 |_,_,.int i=>some (.int i)
 |_,_,.str i=>some (.str ⟨i.toArray⟩)
 |_,_,.bool i=>some (.bool i)
 |_,_,.none=>some .none
 |n+1,st,.lst xs=>(aY (xs.map (ba n st))).map .list
 |n+1,st,.tup xs=>(aY (xs.map (ba n st))).map .tuple
 |n+1,st,.obj i=>match st[i]? with
  |some (.list xs)=>(aY (xs.map (ba n st))).map .list
  |_=>none
 |_,_,_=>none
noncomputable def rO (st:St)(a b:AV):Option Bool:=match ba 6 st a with
 |some x=>match ba 6 st b with
  |some y=>if x.canLay0&&y.canLay0 then some (PyData.eqv x y) else none
  |none=>none
 |none=>none
noncomputable def qi (xs:List Int)(i:Int):Bool:=xs.any (·==i)
noncomputable def bJ (st:St)(op:CmpOp)(x y:AV):Option Bool:=match op with
 |.Eq=>rO st x y
 |.NotEq=>(rO st x y).map (!·)
 |.Lt=>ar x λa=>ar y λb=>some (decide (a<b))
 |.LtE=>ar x λa=>ar y λb=>some (decide (a<=b))
 |.Gt=>ar x λa=>ar y λb=>some (decide (a>b))
 |.GtE=>ar x λa=>ar y λb=>some (decide (a>=b))
 |.NotIn=>ar x λa=>qh y λxs=>(allInts xs).map λl=>!qi l a
 |_=>none
noncomputable def fF (st:St):AV->Option Bool
 |.none=>some false
 |.bool b=>some b
 |.int i=>some (!(i==0))
 |.lst xs=>if xs.length<=1000000 then some (!xs.isEmpty) else none
 |.obj i=>match listAt st i with
  |some xs=>if xs.length<=1000000 then some (!xs.isEmpty) else none
  |none=>none
 |_=>none
noncomputable def cB (st:St)(x y:AV):Option AV:=ar y λi=>isStr x (λs=>if 0<=i/\i<2^62 then (s[i.toNat]?).map λc=>.str [c] else none) (match lS st x with
 |some xs=>if 0<=i/\i<2^62 then xs[i.toNat]? else none
 |none=>none)
noncomputable def qj (c:Nat):Nat:=if 65<=c/\c<=90 then c+32 else c
noncomputable def ya (c:Nat):Nat:=if 97<=c/\c<=122 then c-32 else c
noncomputable def eT (s:List Nat):Bool:=s.all (·<128)
noncomputable def eU (sep:List Nat):List (List Nat)->List Nat
 |[]=>[]
 |[x]=>x
 |x::y::r=>x++sep++eU sep (y::r)
noncomputable def bj (i:Int):List Nat:=(toString i).toList.map Char.toNat
noncomputable def aO (x:Int):List Int->List Int
 |[]=>[x]
 |y::r=>if x<y then x::y::r else y::aO x r
noncomputable def nY:List Int->Option Int
 |[]=>none
 |[x]=>some x
 |x::y::r=>(nY (y::r)).map λm=>if m<x then m else x
noncomputable def lE (n:Int):List Nat:=(baseText "0x" 16 n).cps.toList
noncomputable def nZ:List Int->Option Int
 |[]=>none
 |[x]=>some x
 |x::y::r=>(nZ (y::r)).map λm=>if x<m then m else x
noncomputable def rP (st:St)(v:AV)(f:List Int->Option (AV×St)):Option (AV×St):=match cN st v with
 |some xs=>match allInts xs with
  |some l=>f l
  |none=>none
 |none=>none
noncomputable def gy (st:St)(b:Bi)(xs:List AV):Option (AV×St):=match b with
 |.len=>iO xs λv=>isStr v (λs=>if s.length<1000000 then some (.int s.length,st) else none) (match lS st v with
  |some xs=>if xs.length<=2^24 then some (.int xs.length,st) else none
  |none=>none)
 |.range1=>iO xs λv=>ar v λn=>if n.natAbs<2^62 then some (.rng 0 n,st) else none
 |.range2=>two xs λv u=>ar v λa=>ar u λn=>if a.natAbs<2^61/\n.natAbs<2^61 then some (.rng a n,st) else none
 |.sum=>iO xs λv=>rP st v λl=>some (.int l.sum,st)
 |.min=>iO xs λv=>rP st v λl=>(nY l).map λm=>(.int m,st)
 |.max=>iO xs λv=>rP st v λl=>(nZ l).map λm=>(.int m,st)
 |.hex=>iO xs λv=>ar v λn=>if (lE n).length<=1000 then some (.str (lE n),st) else none
 |.chr=>iO xs λv=>ar v λn=>if 0<=n/\n<256 then some (.str [n.toNat],st) else none
 |.ord=>iO xs λv=>onStr v λs=>iO s λc=>some (.int c,st)
 |.str=>iO xs λv=>ar v λn=>if n.natAbs<10^10 then some (.str (bj n),st) else none
 |.divmod=>two xs λv u=>ar v λa=>ar u λb=>if b≠0/\divisionGoesByPylong a b=false then some (.tup [.int (a.fdiv b),.int (a.fmod b)],st) else none
 |.tuple=>iO xs λv=>match cN st v with
  |some xs=>if xs.length<=2^20 then some (.tup xs,st) else none
  |none=>none
 |.iter=>iO xs λv=>qh v λxs=>some (.obj st.length,st++[.iter xs])
 |.next=>iO xs λv=>gZ v λi=>match st[i]? with
  |some (.iter (x::xs))=>some (x,st.set i (.iter xs))
  |_=>none
noncomputable def dY (b:Bool)(s:List Nat):Bool:=s.all λc=>!(c<32&&(b||c != 9)||c==127)
noncomputable def jC (st:St)(m:Sm)(x:AV)(xs:List AV):Option (AV×St):=match m with
 |.lower=>nil xs (onStr x λs=>if eT s&&decide (s.length<=1000000) then some (.str (s.map qj),st) else none)
 |.upper=>nil xs (onStr x λs=>if eT s&&decide (s.length<=1000000) then some (.str (s.map ya),st) else none)
 |.join=>iO xs λv=>onStr x λs=>match cN st v with
  |some xs=>match allStrs xs with
   |some l=>if (l.map List.length).sum+l.length*s.length<=1000000 then some (.str (eU s l),st) else none
   |none=>none
  |none=>none
 |.bitlen=>nil xs (ar x λi=>some (.int (intBits i),st))
 |.count=>iO xs λv=>AY x (λxs=>ar v λn=>match allInts xs with
  |some l=>some (.int (l.count n),st)
  |none=>none) (gZ x λi=>ar v λn=>match listAt st i with
  |some xs=>match allInts xs with
   |some l=>some (.int (l.count n),st)
   |none=>none
  |none=>none)
 |.index=>iO xs λv=>qh x λxs=>onStr v λs=>match allStrs xs with
  |some l=>match l.findIdx? (·==s) with
   |some j=>if j<1000000 then some (.int j,st) else none
   |none=>none
  |none=>none
 |.append=>iO xs λv=>gZ x λi=>match listAt st i with
  |some xs=>if xs.length<1000000 then some (.none,st.set i (.list (xs++[v]))) else none
  |none=>none
 |.reverse=>nil xs (gZ x λi=>match listAt st i with
  |some xs=>if xs.length<=1000000 then some (.none,st.set i (.list xs.reverse)) else none
  |none=>none)
 |.search=>iO xs λv=>AW x λb=>onStr v λs=>if dY b s&&decide (s.length<=1000000) then some (.none,st) else none
noncomputable def qk {γ:Type}(st:St)(i:Nat)(f:Nat->Nat->Loc->Option γ):Option γ:=match st[i]? with
 |some o=>match o with
  |.inst c d=>match st[d]? with
   |some o=>match o with
    |.dict fs=>f c d fs
    |_=>none
   |none=>none
  |_=>none
 |none=>none
theorem ql {γ:Type}{st:St}{i:Nat}{f:Nat->Nat->Loc->Option γ}{r:γ}{P:Prop}(e:qk st i f=some r)(k:∀ c d fs,st[i]?=some (.inst c d)->st[d]?=some (.dict fs)->f c d fs=some r->P):P:=by
 unfold qk at e;generalize st[i]?=o at e k
 cases o with
 |none=>exact absurd e bg
 |some o=>
  cases o with
  |inst c d=>
   specialize k c d
   dsimp only at e;generalize st[d]?=o at e k
   cases o with
   |none=>exact absurd e bg
   |some o=>cases o<;>first |exact absurd e bg |exact k _ rfl rfl e
  |_=>exact absurd e bg
noncomputable def jj (st:St)(x:AV)(a:Nat):Option AV:=gZ x λi=>qk st i λ_ _ fs=>af fs a
noncomputable def fY (st:St)(x:AV)(a:Nat)(v:AV):Option St:=gZ x λi=>qk st i λ_ d fs=>if fs.length<=100 then some (st.set d (.dict (ai fs a v))) else none
noncomputable def jk (st:St)(x y v:AV):Option St:=gZ x λi=>ar y λk=>match listAt st i with
  |some xs=>if 0<=k/\k<xs.length/\k<2^62 then some (st.set i (.list (xs.set k.toNat v))) else none
  |none=>none
noncomputable def Dy (st:St)(t:Ty)(x:AV):Option Bool:=match t with
 |.int=>ar x λ_=>some true
 |.str=>onStr x λ_=>some true
 |.bool=>AU x λ_=>some true
 |.list=>AY x (λ_=>some true) (gZ x λi=>match listAt st i with
  |some _=>some true
  |none=>none)
noncomputable def jl (st:St):AV->Bool
 |.obj i=>(listAt st i).isSome
 |_=>true
abbrev jD:=Nat->List AV->St->Option (AV×St)
structure Cx where
 C:jD
noncomputable def eg:List (Int×List Nat):=[(1,[79,80,84,73,77,73,90,69,68]),(2,[78,69,87,76,79,67,65,76,83]),(4,[86,65,82,65,82,71,83]),(8,[86,65,82,75,69,89,87,79,82,68,83]),(16,[78,69,83,84,69,68]),(32,[71,69,78,69,82,65,84,79,82]),(64,[78,79,70,82,69,69]),(128,[67,79,82,79,85,84,73,78,69]),(256,[73,84,69,82,65,66,76,69,95,67,79,82,79,85,84,73,78,69]),(512,[65,83,89,78,67,95,71,69,78,69,82,65,84,79,82])]
noncomputable def n5 (i:Int):Option (List Nat):=if (lE i).length<=1000 then some (((eg.find? (·.1==i)).map (·.2)).getD (lE i)) else none
noncomputable def aU (ok:St->Bool)(f:AV->St->Option (List AV×St)):List AV->St->Option (List AV×St)
 |[],st=>if ok st then some ([],st) else none
 |v::r,st=>if ok st then match f v st with
  |some (ys,Ke)=>match aU ok f r Ke with
   |some (zs,Kf)=>some (ys++zs,Kf)
   |none=>none
  |none=>none else none
noncomputable def tj (k:Nat):Nat:=[42,39,43,45,51,36,57].getD (k-30) 999
noncomputable def dr (st:St)(k:Nat)(x:AV):Bool:=(gZ x λi=>qk st i λc _ fs=>if c=(if k=36 then 1 else 0)/\af fs (tj k)=none then some () else none).isSome
noncomputable def mQ (i:Int):Bool:=decide (0<=i/\i<2^62)
noncomputable def mR:AV->Bool
 |.none=>true
 |_=>false
mutual
noncomputable def aa (X:Cx):E->Loc->St->Option (AV×St)
 |.l x,σ,st=>(af σ x).map λv=>(v,st)
 |.int i,_,st=>some (.int i,st)
 |.str s,_,st=>some (.str s,st)
 |.bool b,_,st=>some (.bool b,st)
 |.non,_,st=>some (.none,st)
 |.b op a b,σ,st=>match aa X a σ st with
  |some (x,Ke)=>match aa X b σ Ke with
   |some (y,Kf)=>(aK op x y).map λv=>(v,Kf)
   |none=>none
  |none=>none
 |.cmp op a b,σ,st=>match aa X a σ st with
  |some (x,Ke)=>match aa X b σ Ke with
   |some (y,Kf)=>(bJ Kf op x y).map λv=>(.bool v,Kf)
   |none=>none
  |none=>none
 |.ite c a b,σ,st=>match aJ X c σ st with
  |some (true,Ke)=>aa X a σ Ke
  |some (false,Ke)=>aa X b σ Ke
  |none=>none
 |.tup es,σ,st=>match aN X es σ st with
  |some (vs,Ke)=>some (.tup vs,Ke)
  |none=>none
 |.new true l,σ,st=>match dt X l σ st with
  |some (vs,Ke)=>some (.obj Ke.length,Ke++[.list vs])
  |none=>none
 |.new false l,σ,st=>match dt X l σ st with
  |some (vs,Ke)=>some (.lst vs,Ke)
  |none=>none
 |.sub a i,σ,st=>match aa X a σ st with
  |some (x,Ke)=>match aa X i σ Ke with
   |some (y,Kf)=>(cB Kf x y).map λv=>(v,Kf)
   |none=>none
  |none=>none
 |.call k args,σ,st=>match aN X args σ st with
  |some (vs,Ke)=>X.C k vs Ke
  |none=>none
 |.lcall _ _,_,_=>none
 |.meth k r args,σ,st=>match aa X r σ st with
  |some (x,Ke)=>if dr Ke k x then match aN X args σ Ke with
   |some (vs,Kf)=>X.C k (x::vs) Kf
   |none=>none
   else none
  |none=>none
 |.conv r a b,σ,st=>match aa X r σ st with
  |some (x,Ke)=>if dr Ke 35 x then match aa X a σ Ke with
   |some (y,Kf)=>X.C 35 [x,y,.bool b] Kf
   |none=>none
   else none
  |none=>none
 |.bi b args,σ,st=>match aN X args σ st with
  |some (vs,Ke)=>gy Ke b vs
  |none=>none
 |.sm m r args,σ,st=>match aa X r σ st with
  |some (x,Ke)=>if jl Ke x then match aN X args σ Ke with
   |some (vs,Kf)=>jC Kf m x vs
   |none=>none
   else none
  |none=>none
 |.attr r a,σ,st=>match aa X r σ st with
  |some (x,Ke)=>(jj Ke x a).map λv=>(v,Ke)
  |none=>none
 |.cattr b,_,st=>some (.str [if b then 9 else 32],st)
 |.frz _,_,_=>none
 |.isTy a t neg,σ,st=>match aa X a σ st with
  |some (x,Ke)=>(Dy Ke t x).map λb=>(.bool (b != neg),Ke)
  |none=>none
 |.isNon a neg,σ,st=>match aa X a σ st with
  |some (x,Ke)=>some (.bool (mR x != neg),Ke)
  |none=>none
 |.isTru a neg,σ,st=>match aa X a σ st with
  |some (x,Ke)=>AU x λb=>some (.bool (b != neg),Ke)
  |none=>none
 |.rxg b,_,st=>some (.rx b,st)
 |.dbg,_,st=>some (.bool true,st)
 |.flag x,σ,st=>match af σ x with
  |some v=>ar v λi=>(n5 i).map λs=>(.str s,st)
  |none=>none
 |.dlim,_,st=>some (.int 4000,st)
noncomputable def dt (X:Cx):L->Loc->St->Option (List AV×St)
 |.list es,σ,st=>aN X es σ st
 |.cat a b,σ,st=>match aa X a σ st with
  |some (x,Ke)=>match aa X b σ Ke with
   |some (y,Kf)=>match cN Kf x with
    |some xs=>match cN Kf y with
     |some ys=>if xs.length+ys.length<=1000000 then some (xs++ys,Kf) else none
     |none=>none
    |none=>none
   |none=>none
  |none=>none
 |.rep a n,σ,st=>match aa X a σ st with
  |some (x,Ke)=>match aa X n σ Ke with
   |some (y,Kf)=>ar y λk=>if k<2^20/\-(2^20)<k then some (replicate k.toNat x,Kf) else none
   |none=>none
  |none=>none
 |.comp elt tg src ifs cap,σ,st=>match aa X src σ st with
  |some (v,Ke)=>match aF Ke v with
   |some xs=>if xs.length<=1000000 then aU (λst=>an st v xs) (λx st=>match aQ (aX σ cap) tg x with
     |some Kh=>match dE X ifs Kh st with
      |some (true,Kd)=>match aa X elt Kh Kd with
       |some (y,Mq)=>some ([y],Mq)
       |none=>none
      |some (false,Kd)=>some ([],Kd)
      |none=>none
     |none=>none) xs Ke else none
   |none=>none
  |none=>none
 |.comp2 elt tg src Lz K9 cap,σ,st=>match aa X src σ st with
  |some (v,Ke)=>match aF Ke v with
   |some xs=>match aU (λst=>an st v xs) (λx st=>match aQ (aX σ cap) tg x with
     |some Kh=>match aa X K9 Kh st with
      |some (v2,Kf)=>match aF Kf v2 with
       |some ys=>aU (λst=>an st v2 ys) (λy st=>match aQ Kh Lz y with
        |some LA=>match aa X elt LA st with
         |some (z,KJ)=>some ([z],KJ)
         |none=>none
        |none=>none) ys Kf
       |none=>none
      |none=>none
     |none=>none) xs Ke with
    |some (zs,LM)=>if zs.length<=1000000 then some (zs,LM) else none
    |none=>none
   |none=>none
  |none=>none
 |.rev a,σ,st=>match aa X a σ st with
  |some (x,Ke)=>match cN Ke x with
   |some xs=>if xs.length<=1000000 then some (xs.reverse,Ke) else none
   |none=>none
  |none=>none
 |.drop a i,σ,st=>match aa X a σ st with
  |some (x,Ke)=>match aa X i σ Ke with
   |some (y,Kf)=>ar y λk=>match cN Kf x with
    |some xs=>if mQ k&&decide (xs.length<=1000000) then some (xs.drop k.toNat,Kf) else none
    |none=>none
   |none=>none
  |none=>none
 |.sorted a,σ,st=>match aa X a σ st with
  |some (x,Ke)=>qh x λxs=>match allInts xs with
   |some l=>if l.length<64 then some ((l.foldr aO []).map .int,Ke) else none
   |none=>none
  |none=>none
 |.split a sep,σ,st=>match aa X a σ st with
  |some (x,Ke)=>onStr x λs=>match aa X sep σ Ke with
   |some (y,Kf)=>onStr y λp=>if p.isEmpty||decide (s.length>1000)||decide ((Txt.split ⟨s.toArray⟩ ⟨p.toArray⟩).length>1000) then none else some ((Txt.split ⟨s.toArray⟩ ⟨p.toArray⟩).map λx=>.str x.cps.toList,Kf)
   |none=>none
  |none=>none
noncomputable def aN (X:Cx):List E->Loc->St->Option (List AV×St)
 |[],_,st=>some ([],st)
 |e::r,σ,st=>match aa X e σ st with
  |some (v,Ke)=>match aN X r σ Ke with
   |some (vs,Kf)=>some (v::vs,Kf)
   |none=>none
  |none=>none
noncomputable def aJ (X:Cx):C->Loc->St->Option (Bool×St)
 |.and a b,σ,st=>match aJ X a σ st with
  |some (true,Ke)=>aJ X b σ Ke
  |some (false,Ke)=>some (false,Ke)
  |none=>none
 |.or a b,σ,st=>match aJ X a σ st with
  |some (true,Ke)=>some (true,Ke)
  |some (false,Ke)=>aJ X b σ Ke
  |none=>none
 |.not a,σ,st=>match aJ X a σ st with
  |some (b,Ke)=>some (!b,Ke)
  |none=>none
 |.val e,σ,st=>match aa X e σ st with
  |some (v,Ke)=>(fF Ke v).map λb=>(b,Ke)
  |none=>none
noncomputable def dE (X:Cx):List C->Loc->St->Option (Bool×St)
 |[],_,st=>some (true,st)
 |e::r,σ,st=>match aJ X e σ st with
  |some (true,Ke)=>dE X r σ Ke
  |some (false,Ke)=>some (false,Ke)
  |none=>none
end
inductive Fw where
 |next
 |brk
 |ret (v:AV)
noncomputable def Fw.ctorIdx (x:Fw):Nat:=Fw.casesOn x 0 1 λ_=>2
abbrev Rs:=Option (Fw×Loc×St)
noncomputable def bc (ok:St->Bool)(f:AV->Loc->St->Rs):List AV->Loc->St->Rs
 |[],σ,st=>if ok st then some (.next,σ,st) else none
 |v::r,σ,st=>if ok st then match f v σ st with
  |some (.next,Ki,Ke)=>bc ok f r Ki Ke
  |some (.brk,Ki,Ke)=>some (.brk,Ki,Ke)
  |some (.ret u,Ki,Ke)=>some (.ret u,Ki,Ke)
  |none=>none else none
noncomputable def fZ (c:Loc->St->Option (Bool×St))(b:Loc->St->Rs):Nat->Loc->St->Rs
 |0,_,_=>none
 |n+1,σ,st=>match c σ st with
  |some (true,Ke)=>match b σ Ke with
   |some (.next,KL,Kf)=>fZ c b n KL Kf
   |some (.brk,KL,Kf)=>some (.next,KL,Kf)
   |some (.ret u,KL,Kf)=>some (.ret u,KL,Kf)
   |none=>none
  |some (false,Ke)=>some (.next,σ,Ke)
  |none=>none
noncomputable def jm:Nat:=1000000
noncomputable def augI (op:Operator)(a b:Int):Option Int:=match op with
 |.Add=>some (a+b)
 |.Sub=>some (a-b)
 |.Mult=>if eB a b then some (a*b) else none
 |.FloorDiv=>if b≠0/\divisionGoesByPylong a b=false then some (a.fdiv b) else none
 |.LShift=>if 0<=b/\(intBits a:Int)+b<=2^27 then some (a*2^b.toNat) else none
 |.RShift=>if 0<=b/\b<2^60 then some (a.fdiv (2^b.toNat)) else none
 |.BitOr=>some (Builtin.bitOr a b)
 |.BitXor=>some (Builtin.bitXor a b)
 |_=>none
noncomputable def lG (op:Operator)(x y:AV):Option AV:=ar x λa=>ar y λb=>(augI op a b).map .int
noncomputable def qm:AV->Bool
 |.none=>true
 |.bool _=>true
 |.int _=>true
 |.str _=>true
 |_=>false
noncomputable def qo (st:St)(x v:AV):Option St:=gZ x λi=>match listAt st i with
  |some ys=>qh v λxs=>if xs.length+ys.length<=1000000 then some (st.set i (.list xs)) else none
  |none=>none
mutual
noncomputable def xS (X:Cx):S->Loc->St->Rs
 |.asg tg e,σ,st=>match aa X e σ st with
  |some (v,Ke)=>(aQ σ tg v).map λKh=>(.next,Kh,Ke)
  |none=>none
 |.asg2 xs es,σ,st=>match aN X es σ st with
  |some (vs,Ke)=>(bA σ xs.reverse vs.reverse).map λKh=>(.next,Kh,Ke)
  |none=>none
 |.asgs xs e,σ,st=>match aa X e σ st with
  |some (v,Ke)=>some (.next,xs.foldl (λσ x=>ai σ x v) σ,Ke)
  |none=>none
 |.aug x op e,σ,st=>match af σ x with
  |some u=>match aa X e σ st with
   |some (v,Ke)=>(lG op u v).map λr=>(.next,ai σ x r,Ke)
   |none=>none
  |none=>none
 |.setI o i e,σ,st=>match aa X e σ st with
  |some (v,Ke)=>match aa X o σ Ke with
   |some (ov,Kf)=>match aa X i σ Kf with
    |some (iv,KJ)=>(jk KJ ov iv v).map λLM=>(.next,σ,LM)
    |none=>none
   |none=>none
  |none=>none
 |.augI o i op e,σ,st=>match aa X o σ st with
  |some (ov,Ke)=>match aa X i σ Ke with
   |some (iv,Kf)=>match cB Kf ov iv with
    |some old=>match aa X e σ Kf with
     |some (v,KJ)=>match lG op old v with
      |some r=>(jk KJ ov iv r).map λLM=>(.next,σ,LM)
      |none=>none
     |none=>none
    |none=>none
   |none=>none
  |none=>none
 |.setSl o e,σ,st=>match aa X e σ st with
  |some (v,Ke)=>match aa X o σ Ke with
   |some (ov,Kf)=>(qo Kf ov v).map λKJ=>(.next,σ,KJ)
   |none=>none
  |none=>none
 |.setA o a e,σ,st=>match aa X e σ st with
  |some (v,Ke)=>match aa X o σ Ke with
   |some (ov,Kf)=>(fY Kf ov a v).map λKJ=>(.next,σ,KJ)
   |none=>none
  |none=>none
 |.expr e,σ,st=>match aa X e σ st with
  |some (v,Ke)=>if qm v then some (.next,σ,Ke) else none
  |none=>none
 |.iff c a b,σ,st=>match aJ X c σ st with
  |some (true,Ke)=>cw X a σ Ke
  |some (false,Ke)=>cw X b σ Ke
  |none=>none
 |.whl c a,σ,st=>fZ (aJ X c) (cw X a) jm σ st
 |.for tg src body orelse,σ,st=>match aa X src σ st with
  |some (v,Ke)=>match aF Ke v with
   |some xs=>match bc (λst=>an st v xs) (λx σ st=>match aQ σ tg x with
     |some Kh=>cw X body Kh st
     |none=>none) xs σ Ke with
    |some (.next,KL,Kf)=>cw X orelse KL Kf
    |some (.brk,KL,Kf)=>some (.next,KL,Kf)
    |some (.ret u,KL,Kf)=>some (.ret u,KL,Kf)
    |none=>none
   |none=>none
  |none=>none
 |.forR x src body,σ,st=>match aa X src σ st with
  |some (v,Ke)=>gZ v λi=>match listAt Ke i with
   |some xs=>match bc (λst=>an st (.obj i) xs) (λv σ st=>cw X body (ai σ x v) st) xs.reverse σ Ke with
    |some (.next,KL,Kf)=>some (.next,KL,Kf)
    |some (.brk,KL,Kf)=>some (.next,KL,Kf)
    |some (.ret u,KL,Kf)=>some (.ret u,KL,Kf)
    |none=>none
   |none=>none
  |none=>none
 |.ret e,σ,st=>match aa X e σ st with
  |some (v,Ke)=>some (.ret v,σ,Ke)
  |none=>none
 |.retN,σ,st=>some (.ret .none,σ,st)
 |.brk,σ,st=>some (.brk,σ,st)
 |.del o i,σ,st=>match aa X o σ st with
  |some (ov,Ke)=>match aa X i σ Ke with
   |some (iv,Kf)=>if dr Kf 31 ov then match X.C 31 [ov,iv] Kf with
    |some (_,KJ)=>some (.next,σ,KJ)
    |none=>none else none
   |none=>none
  |none=>none
 |.bad,_,_=>none
noncomputable def cw (X:Cx):List S->Loc->St->Rs
 |[],σ,st=>some (.next,σ,st)
 |s::r,σ,st=>match xS X s σ st with
  |some (.next,Ki,Ke)=>cw X r Ki Ke
  |some (.brk,Ki,Ke)=>some (.brk,Ki,Ke)
  |some (.ret u,Ki,Ke)=>some (.ret u,Ki,Ke)
  |none=>none
end
end
noncomputable def NM:List String:=["n","nt","norm","raw","is_simple","_headers","_wall","_formatparam","Headers","_div2n1n","_div3n2n","_int2digits","_digits2int","_divmod_pos","int_divmod","pretty_flags","_parse_varint","Whitespace","_law_cells","_law_word","_law_rules","_law_most","_law_start","_law_twin","_law_sign","_law_octets","_law_trade","_law_lead","_law_played","_law_ways","law","__name__","tspecials","_name_disallowed_re","_value_disallowed_re","__init__","_convert_string_type","__len__","__setitem__","__delitem__","__getitem__","__contains__","get_all","get","keys","values","items","__repr__","__str__","__bytes__","setdefault","add_header","_DIV_LIMIT","inner","COMPILER_FLAG_NAMES","longest_run_of_spaces","indent_level","equal","not_equal_witness","less","not_less_witness","k","compile","param","value","quote","a","b","pad","half_n","mask","a12","a3","b1","b2","r","a_digits","digits","q_digits","a_digit","q","flags","names","i","iterator","val","script","cells","place","words","rules","p","size","number","free","sizes","counts","uses","turn","octet","signs","bag","text","shift","reader","stay","lead","low","choice","book","name","log","turns","ways","there","back","start","first","rising","typed","last","told","width","over","under","parts","figures","half","_sre","self","headers","__debug__","default","_name","_value","_params","q1","q2","x","L","R","mid","upper","lower","bit_length","reversed","reverse","ZeroDivisionError","range","flag","join","next","S","T","ws","count","ch","tabsize","other","split","gone","min","rule","s","ready","iter","word","runs","list","str","regex","AssertionError","len","append","kv","v","encode","divmod","q_digit","chr","tuple","sorted","search","replace","type","TypeError","format","hex","ord","sign","sum","total","ValueError","repr","__class__","one","bool","int","part","index","max"]
noncomputable def Dz:List (List Nat):=[[110],[110,116],[110,111,114,109],[114,97,119],[105,115,95,115,105,109,112,108,101],[95,104,101,97,100,101,114,115],[95,119,97,108,108],[95,102,111,114,109,97,116,112,97,114,97,109],[72,101,97,100,101,114,115],[95,100,105,118,50,110,49,110],[95,100,105,118,51,110,50,110],[95,105,110,116,50,100,105,103,105,116,115],[95,100,105,103,105,116,115,50,105,110,116],[95,100,105,118,109,111,100,95,112,111,115],[105,110,116,95,100,105,118,109,111,100],[112,114,101,116,116,121,95,102,108,97,103,115],[95,112,97,114,115,101,95,118,97,114,105,110,116],[87,104,105,116,101,115,112,97,99,101],[95,108,97,119,95,99,101,108,108,115],[95,108,97,119,95,119,111,114,100],[95,108,97,119,95,114,117,108,101,115],[95,108,97,119,95,109,111,115,116],[95,108,97,119,95,115,116,97,114,116],[95,108,97,119,95,116,119,105,110],[95,108,97,119,95,115,105,103,110],[95,108,97,119,95,111,99,116,101,116,115],[95,108,97,119,95,116,114,97,100,101],[95,108,97,119,95,108,101,97,100],[95,108,97,119,95,112,108,97,121,101,100],[95,108,97,119,95,119,97,121,115],[108,97,119],[95,95,110,97,109,101,95,95],[116,115,112,101,99,105,97,108,115],[95,110,97,109,101,95,100,105,115,97,108,108,111,119,101,100,95,114,101],[95,118,97,108,117,101,95,100,105,115,97,108,108,111,119,101,100,95,114,101],[95,95,105,110,105,116,95,95],[95,99,111,110,118,101,114,116,95,115,116,114,105,110,103,95,116,121,112,101],[95,95,108,101,110,95,95],[95,95,115,101,116,105,116,101,109,95,95],[95,95,100,101,108,105,116,101,109,95,95],[95,95,103,101,116,105,116,101,109,95,95],[95,95,99,111,110,116,97,105,110,115,95,95],[103,101,116,95,97,108,108],[103,101,116],[107,101,121,115],[118,97,108,117,101,115],[105,116,101,109,115],[95,95,114,101,112,114,95,95],[95,95,115,116,114,95,95],[95,95,98,121,116,101,115,95,95],[115,101,116,100,101,102,97,117,108,116],[97,100,100,95,104,101,97,100,101,114],[95,68,73,86,95,76,73,77,73,84],[105,110,110,101,114],[67,79,77,80,73,76,69,82,95,70,76,65,71,95,78,65,77,69,83],[108,111,110,103,101,115,116,95,114,117,110,95,111,102,95,115,112,97,99,101,115],[105,110,100,101,110,116,95,108,101,118,101,108],[101,113,117,97,108],[110,111,116,95,101,113,117,97,108,95,119,105,116,110,101,115,115],[108,101,115,115],[110,111,116,95,108,101,115,115,95,119,105,116,110,101,115,115],[107],[99,111,109,112,105,108,101],[112,97,114,97,109],[118,97,108,117,101],[113,117,111,116,101],[97],[98],[112,97,100],[104,97,108,102,95,110],[109,97,115,107],[97,49,50],[97,51],[98,49],[98,50],[114],[97,95,100,105,103,105,116,115],[100,105,103,105,116,115],[113,95,100,105,103,105,116,115],[97,95,100,105,103,105,116],[113],[102,108,97,103,115],[110,97,109,101,115],[105],[105,116,101,114,97,116,111,114],[118,97,108],[115,99,114,105,112,116],[99,101,108,108,115],[112,108,97,99,101],[119,111,114,100,115],[114,117,108,101,115],[112],[115,105,122,101],[110,117,109,98,101,114],[102,114,101,101],[115,105,122,101,115],[99,111,117,110,116,115],[117,115,101,115],[116,117,114,110],[111,99,116,101,116],[115,105,103,110,115],[98,97,103],[116,101,120,116],[115,104,105,102,116],[114,101,97,100,101,114],[115,116,97,121],[108,101,97,100],[108,111,119],[99,104,111,105,99,101],[98,111,111,107],[110,97,109,101],[108,111,103],[116,117,114,110,115],[119,97,121,115],[116,104,101,114,101],[98,97,99,107],[115,116,97,114,116],[102,105,114,115,116],[114,105,115,105,110,103],[116,121,112,101,100],[108,97,115,116],[116,111,108,100],[119,105,100,116,104],[111,118,101,114],[117,110,100,101,114],[112,97,114,116,115],[102,105,103,117,114,101,115],[104,97,108,102],[95,115,114,101],[115,101,108,102],[104,101,97,100,101,114,115],[95,95,100,101,98,117,103,95,95],[100,101,102,97,117,108,116],[95,110,97,109,101],[95,118,97,108,117,101],[95,112,97,114,97,109,115],[113,49],[113,50],[120],[76],[82],[109,105,100],[117,112,112,101,114],[108,111,119,101,114],[98,105,116,95,108,101,110,103,116,104],[114,101,118,101,114,115,101,100],[114,101,118,101,114,115,101],[90,101,114,111,68,105,118,105,115,105,111,110,69,114,114,111,114],[114,97,110,103,101],[102,108,97,103],[106,111,105,110],[110,101,120,116],[83],[84],[119,115],[99,111,117,110,116],[99,104],[116,97,98,115,105,122,101],[111,116,104,101,114],[115,112,108,105,116],[103,111,110,101],[109,105,110],[114,117,108,101],[115],[114,101,97,100,121],[105,116,101,114],[119,111,114,100],[114,117,110,115],[108,105,115,116],[115,116,114],[114,101,103,101,120],[65,115,115,101,114,116,105,111,110,69,114,114,111,114],[108,101,110],[97,112,112,101,110,100],[107,118],[118],[101,110,99,111,100,101],[100,105,118,109,111,100],[113,95,100,105,103,105,116],[99,104,114],[116,117,112,108,101],[115,111,114,116,101,100],[115,101,97,114,99,104],[114,101,112,108,97,99,101],[116,121,112,101],[84,121,112,101,69,114,114,111,114],[102,111,114,109,97,116],[104,101,120],[111,114,100],[115,105,103,110],[115,117,109],[116,111,116,97,108],[86,97,108,117,101,69,114,114,111,114],[114,101,112,114],[95,95,99,108,97,115,115,95,95],[111,110,101],[98,111,111,108],[105,110,116],[112,97,114,116],[105,110,100,101,120],[109,97,120]]
noncomputable def nm (i:Nat):Str:=if i<201 then ofString (NM.getD i "") else ⟨#[2000000+i]⟩
theorem uT:NM.map ofString=Dz.map λl=>⟨l.toArray⟩:=by decide +kernel
theorem tm:Dz.Nodup:=by decide +kernel
theorem lU:Dz.all (λl=>l.all (·<1000))=true:=by decide +kernel
theorem nm_lt {i:Nat}(h:i<201):∃ l,Dz[i]?=some l/\nm i=⟨l.toArray⟩:=by
 have hl:NM.length=201:=by decide +kernel
 have hi:i<NM.length:=by exact bz
 have e:=congrArg (λl=>l[i]?) uT;simp only[getElem?_map]at e;rw[getElem?_eq_getElem hi,map_some]at e
 cases q:Dz[i]? with
 |none=>rw[q]at e;cases e
 |some l=>
  rw[q,map_some]at e;refine⟨l,rfl,?_⟩;unfold nm;rw[if_pos h,getD_eq_getElem?_getD,getElem?_eq_getElem hi,getD_some];exact KO e
theorem nm_inj {i j:Nat}(h:nm i=nm j):i=j:=by
 by_cases hi:i<201
 ·refine ak (nm_lt hi) λl q e=>?_;by_cases hj:j<201
  ·refine ak (nm_lt hj) λl' q' e'=>?_;rw[e,e']at h
   have hl:l=l':=by
    have:=congrArg (λx=>x.cps.toList) h;simpa using this
   subst hl;refine aw (List.getElem?_eq_some_iff.mp q) λh1 e1=>?_;refine aw (List.getElem?_eq_some_iff.mp q') λh2 e2=>?_;exact(List.getElem_inj tm).mp (e1.trans e2.symm)
  ·exfalso;rw[e]at h;unfold nm at h;rw[if_neg hj]at h;have hm:=mem_of_getElem? q;have:=all_eq_true.mp (all_eq_true.mp lU l hm)
   have e3:l=[2000000+j]:=by
    have:=congrArg (λx=>x.cps.toList) h;simpa using this
   have:=this (2000000+j) (by rw[e3];simp);simp at this;exact not_succ_le_zero 0 (Q1 0x3e83111141e84806100110011111102 [_] this rfl)
 ·by_cases hj:j<201
  ·exfalso;refine ak (nm_lt hj) λl q e=>?_;rw[e]at h;unfold nm at h;rw[if_neg hi]at h;have hm:=mem_of_getElem? q;have:=all_eq_true.mp (all_eq_true.mp lU l hm)
   have e3:l=[2000000+i]:=by
    have:=congrArg (λx=>x.cps.toList) h;simpa using this.symm
   have:=this (2000000+i) (by rw[e3];simp);simp at this;exact not_succ_le_zero 0 (Q1 0x3e83111141e84806100110011111102 [_] this rfl)
  ·unfold nm at h;rw[if_neg hi,if_neg hj]at h;have:=congrArg (λx=>x.cps.toList) h;simp at this;exact bz
noncomputable def ca:Nat->Addr
 |0=>fi
 |_=>jh
noncomputable def OR (F:bf)(φ:List Addr)(h:Heap)(a:Addr):AO->Prop
 |.list xs=>∃ arr,h.PlainList a arr/\Km F φ xs arr.toList
 |.inst k d=>∃ dx sl,h.get? a=some ⟨.ref (ca k),some dx,.plain,sl⟩/\φ[d]?=some dx
 |.dict fs=>∃ es n,h.get? a=some (dictOf es n)/\es.length<=fs.length/\(∀ x v,af fs x=some v->∃ v',getL (nm x) es=some (some v')/\VR F φ v v') /\
   (∀ x,af fs x=none->getL (nm x) es=some none)/\(∀ e∈es,∃ x t,e.key=.str x t)
 |.iter xs=>∃ (l:Addr) (i:Nat) (arr:Array Value),h.IsListIter a l i /\
   Lf F l arr/\Km F φ xs (arr.toList.drop i)
 |.dead=>True
noncomputable def Nn (F:bf)(a:Addr)(m:Str->Option Value):Prop:=∃ o es ep,F a=some o/\o.data=.dict es ep/\StrKeys es/\∀ name,nsFind es name=m name
noncomputable def zR (F:bf)(h:Heap):Prop:=∀ a o,F a=some o->h.get? a=some o
theorem Nn.ns {F:bf}{a:Addr}{m:Str->Option Value}{h:Heap}(x:Nn F a m)(y:zR F h):h.Ns a m:=
 let ⟨o,es,ep,e,r⟩:=x;⟨o,es,ep,y _ _ e,r⟩
theorem Nn.mono {F F':bf}{a:Addr}{m:Str->Option Value}(x:Nn F a m)(y:K7 F F'):Nn F' a m:=
 let ⟨o,es,ep,e,r⟩:=x;⟨o,es,ep,y _ _ e,r⟩
noncomputable def Md (F:bf)(h:Heap)(P:Addr)(pos:Pos)(q:Str):Prop:=
 ∃ ps,h.get? P=some (tabObj ps)/\TriplesOk ps.toList /\
  ((codeAmong pos ps.toList=none)\/∃ c' o vs t,codeAmong pos ps.toList=some (.ref c')/\F c'=some o/\o.data=.fields vs/\vs[1]?=some (.str q t))
structure Kz where
 K:Frag
 mg:Str->Option Value
 mb:Str->Option Value
 mc:Str->Option Value
 pos1:Pos
 pos2:Pos
 q1:Str
 q2:Str
noncomputable def uU:Array Nat:=#[14,10,4,1,1,22,0,31,16,127,0,13,7,22,0,31,16,127,0,1]
noncomputable def lV:Array Nat:=#[14,14,4,1,1,9,4294966783,0,0,2147483648,0,0,0,0,0,13,11,9,4294966783,0,0,2147483648,0,0,0,0,0,1]
noncomputable def codeOf (b:Bool):Array Nat:=if b then uU else lV
inductive MH (F:bf)(a:Addr)(code:Array Nat):Prop
 |mk (fs:Array Value) (c:Addr) (oc:Obj) (vs:Array Value) (n:Nat):F a=some { cls:=.type "re.Pattern",data:=.fields fs }->fs.getD 5 .none=.ref c->Builtin.Re.reRawNat (fs.getD 6 .none)=0->Builtin.Re.reRawNat (fs.getD 2 .none)=0 ->
  F c=some oc->oc.data=.seq vs n->(vs.map Builtin.Re.reRawOf).map (·.toNat)=code->MH F a code
theorem MH.mono {F F':bf}{a:Addr}{code:Array Nat}(x:MH F a code)(y:K7 F F'):MH F' a code:=
 x.casesOn λfs c oc vs n e1 e2 e3 e4 e5 e6=>.mk fs c oc vs n (y _ _ e1) e2 e3 e4 (y _ _ e5) e6
structure Mb (Z:Kz)(F:bf):Prop where
 X:∀ a o,Z.K.lookup a=some o->F a=some o
 g:Nn F mainGlobals Z.mg
 b:Nn F builtinsNs Z.mb
 c:Nn F cStatics Z.mc
 lim:Z.mc "sys.recursionlimit"=none
 rx:∀ b,MH F (if b then fj else fk) (codeOf b)
theorem Mb.mono {Z:Kz}{F F':bf}(x:Mb Z F)(y:K7 F F'):Mb Z F':=⟨λa o e=>y _ _ (x.X a o e),x.g.mono y,x.b.mono y,x.c.mono y,x.lim,λb=>(x.rx b).mono y⟩
theorem Mb.inK {Z:Kz}{F:bf}{h:Heap}(x:Mb Z F)(y:zR F h):Z.K.In h:=λa o e=>y _ _ (x.X a o e)
theorem Mb.noLimit {Z:Kz}{F:bf}{h:Heap}(x:Mb Z F)(y:zR F h):h.NoLimit:=⟨_,x.c.ns y,x.lim⟩
structure Kj (Z:Kz)(F:bf)(φ:List Addr)(st:St)(h:Heap):Prop where
 base:Mb Z F
 frz:zR F h
 len:φ.length=st.length
 nod:φ.Nodup
 new:∀ a∈φ,F a=none
 dom:∀ a∈φ,∃ o,h.get? a=some o
 obj:∀ (i:Nat) (a:Addr) (o:AO),φ[i]?=some a->st[i]?=some o->OR F φ h a o
 t1:Md F h cQ Z.pos1 Z.q1
 t2:Md F h dq Z.pos2 Z.q2
 n1:F cQ=none/\cQ∉φ
 n2:F dq=none/\dq∉φ
structure Step (F:bf)(φ:List Addr)(own:List Addr)(h:Heap)(F':bf)(Kn:List Addr)(h':Heap):Prop where
 le:K7 F F'
 fnew:∀ a o,F' a=some o->F a=some o\/h.get? a=none\/a∈φ
 pre:φ <+: Kn
 pnew:∀ a∈Kn,a∈φ\/h.get? a=none
 dom:∀ a o,h.get? a=some o->∃ o',h'.get? a=some o'
 kept:∀ b o,h.get? b=some o->b∉φ->b≠cQ->b≠dq->b∉own->h'.get? b=some o
theorem Step.refl (F:bf)(φ own:List Addr)(h:Heap):Step F φ own h F φ h:=
 ⟨K7.refl F,λ_ _ e=>.inl e,prefix_refl φ,λ_ m=>.inl m,λ_ o e=>⟨o,e⟩,λ_ _ e _ _ _ _=>e⟩
theorem Step.trans {F F' Ol:bf}{φ Kn MY own:List Addr}{h h' Nd:Heap}(a:Step F φ own h F' Kn h')(b:Step F' Kn own h' Ol MY Nd):Step F φ own h Ol MY Nd:=by
 have nd:∀ x,h'.get? x=none->h.get? x=none:=λx e=>by
  cases q:h.get? x with
  |none=>rfl
  |some o=>refine aw (a.dom x o q) λo' e'=>?_;rw[e']at e;cases e
 refine⟨a.le.trans b.le,λx o e=>?_,a.pre.trans b.pre,λx m=>?_,λx o e=>?_,λx o e n1 n2 n3 n4=>?_⟩
 ·rcases b.fnew x o e with e |e |e
  ·exact a.fnew x o e
  ·exact .inr (.inl (nd x e))
  ·rcases a.pnew x e with e |e
   ·exact .inr (.inr e)
   ·exact .inr (.inl e)
 ·rcases b.pnew x m with m |e
  ·exact a.pnew x m
  ·exact .inr (nd x e)
 ·refine aw (a.dom x o e) λo' e'=>?_;exact b.dom x o' e'
 ·have m':x∉Kn:=λm=>by
   rcases a.pnew x m with m |e'
   ·exact n1 m
   ·rw[e]at e';cases e'
  exact b.kept x o (a.kept x o e n1 n2 n3 n4) m' n2 n3 n4
theorem Step.own {F F':bf}{φ Kn own own':List Addr}{h h':Heap}(a:Step F φ own h F' Kn h')(b:∀ x∈own,x∈own'):Step F φ own' h F' Kn h':=
 ⟨a.le,a.fnew,a.pre,a.pnew,a.dom,λx o e n1 n2 n3 n4=>a.kept x o e n1 n2 n3 λm=>n4 (b x m)⟩
noncomputable def Kv (env:Env)(h:Heap)(x:Str)(v:Value):Prop:=
 (env.kindOf x=some .local/\∃ m,h.Ns env.locals m/\m x=some v) \/
 ((env.kindOf x=some .cell\/env.kindOf x=some .free)/\∃ c,env.cells.lookup x=some c/\h.IsCell c (some v))
structure Kl (F:bf)(φ:List Addr)(σ:Loc)(sc:Scope)(env:Env)(O:List Addr)(h:Heap):Prop where
 kind:env.scope.kind=.function
 glob:env.globals=mainGlobals
 blt:env.builtins=builtinsNs
 gl:∀ x,sc.names.lookup x=some .globalImplicit->env.kindOf x=some .globalImplicit
 lc:∀ x,sc.names.lookup x=some .local->env.kindOf x=some .local
 cl:∀ x,sc.names.lookup x=some .cell->env.kindOf x=some .cell/\∃ c,env.cells.lookup x=some c/\c∈O
 fr:∀ x,sc.names.lookup x=some .free->(env.kindOf x=some .cell\/env.kindOf x=some .free)/\∃ c,env.cells.lookup x=some c
 ns:∃ m,h.Ns env.locals m
 val:∀ x v,af σ x=some v->∃ v',VR F φ v v'/\Kv env h (nm x) v'
 apart:∀ x y c,env.cells.lookup x=some c->env.cells.lookup y=some c->x=y
 off:env.locals∉env.cells.map (·.2)
 own:∀ a∈env.locals::env.cells.map (·.2),F a=none/\a∉φ/\a≠cQ/\a≠dq
 cel:∀ c∈env.cells.map (·.2),∃ v,h.IsCell c v
 loO:env.locals∈O
 subO:∀ a∈O,a∈env.locals::env.cells.map (·.2)
section
variable {Z:Kz}{w:World}{A:Around}{F F' F0:bf}{φ Kn φ0 own:List Addr}{st LG Ke Kf Kd:St}{s:Shared}{h h' hb:Heap}{env:Env}{pos:Pos}{σ Kh K4:Loc}{sc scope sI:Scope}{cap ps caps:List Nat}{O:List Addr}{I:Addr}
section
variable {a:Addr}{o:Obj}
theorem OR.mono {ao:AO}(x:OR F φ h a ao)(hF:K7 F F')(hp:φ <+: Kn)(e:∀ o,h.get? a=some o->h'.get? a=some o):OR F' Kn h' a ao:=by
 cases ao with
 |list xs=>refine ak x ?_;clear x;rintro arr ⟨n,e1⟩ r;exact⟨arr,⟨n,e _ e1⟩,r.mono hF hp⟩
 |inst k d=>refine dc x ?_;clear x;intro dx sl e1 r;exact⟨dx,sl,e _ e1,eR hp r⟩
 |dict fs=>
  refine yk x ?_;clear x;intro es n e1 l r r2 r3;exact⟨es,n,e _ e1,l,λx v hx=>let ⟨v',a,b⟩:=r x v hx;⟨v',a,b.mono hF hp⟩,r2,r3⟩
 |iter xs=>refine j7 x ?_;clear x;rintro l i arr ⟨o,e1,z⟩ e2 r;exact⟨l,i,arr,⟨o,e _ e1,z⟩,e2.mono hF,r.mono hF hp⟩
 |dead=>trivial
theorem Md.mono {P:Addr}{pos:Pos}{q:Str}(x:Md F h P pos q)(hF:K7 F F')(e:∀ o,h.get? P=some o->h'.get? P=some o):Md F' h' P pos q:=by
 refine cU x ?_;clear x;intro ps e1 t r;refine⟨ps,e _ e1,t,r.imp id ?_⟩;rintro⟨c',o,vs,t',a,b,c⟩;exact⟨c',o,vs,t',a,hF _ _ b,c⟩
theorem Kj.heap (R:Kj Z F φ st h)(k:∀ b o,h.get? b=some o->(b∈φ\/(∃ o,F b=some o)\/b=cQ\/b=dq)->h'.get? b=some o):Kj Z F φ st h' where
 base:=R.base
 frz:=λb o e=>k b o (R.frz b o e) (.inr (.inl ⟨o,e⟩))
 len:=R.len
 nod:=R.nod
 new:=R.new
 dom:=λb m=>let ⟨o,e⟩:=R.dom b m;⟨o,k b o e (.inl m)⟩
 obj:=λi b o e1 e2=>(R.obj i b o e1 e2).mono (K7.refl F) (prefix_refl φ) λo' e'=>k b o' e' (.inl (mem_of_getElem? e1))
 t1:=R.t1.mono (K7.refl F) λo e=>k _ o e (.inr (.inr (.inl rfl)))
 t2:=R.t2.mono (K7.refl F) λo e=>k _ o e (.inr (.inr (.inr rfl)))
 n1:=R.n1
 n2:=R.n2
theorem Kj.ext (R:Kj Z F φ st h)(k:∀ b o,h.get? b=some o->h'.get? b=some o):Kj Z F φ st h':=R.heap λb o e _=>k b o e
theorem Step.ext {own:List Addr}(k:∀ b o,h.get? b=some o->h'.get? b=some o):Step F φ own h F φ h':=
 ⟨K7.refl F,λ_ _ e=>.inl e,prefix_refl φ,λ_ m=>.inl m,λb o e=>⟨o,k b o e⟩,λb o e _ _ _ _=>k b o e⟩
theorem Kj.size_new (R:Kj Z F φ st h):F h.objs.size=none/\h.objs.size∉φ/\h.objs.size≠cQ/\h.objs.size≠dq:=by
 refine⟨?_,λm=>?_,λe=>?_,λe=>?_⟩
 ·cases q:F h.objs.size with
  |none=>rfl
  |some o=>exact absurd (lt_size (R.frz _ _ q)) (lt_irrefl _)
 ·refine aw (R.dom _ m) λo q=>?_;exact absurd (lt_size q) (lt_irrefl _)
 ·refine ak R.t1 λps q _=>?_;rw[← e]at q;exact absurd (lt_size q) (lt_irrefl _)
 ·refine ak R.t2 λps q _=>?_;rw[← e]at q;exact absurd (lt_size q) (lt_irrefl _)
noncomputable def hJ (F:bf)(a:Addr)(o:Obj):bf:=λx=>if x=a then some o else F x
theorem bP:hJ F a o a=some o:=if_pos rfl
theorem cV (hn:F a=none):K7 F (hJ F a o):=λx o' e=>by
 unfold hJ;by_cases q:x=a
 ·subst q;rw[hn]at e;cases e
 ·rw[if_neg q];exact e
theorem Kj.freeze (R:Kj Z F φ st h)(hn:F a=none)(ha:a∉φ)(h1:a≠cQ)(h2:a≠dq)(e:h.get? a=some o):Kj Z (hJ F a o) φ st h where
 base:=R.base.mono (cV hn)
 frz:=λb o' q=>by
  unfold hJ at q;by_cases z:b=a
  ·rw[if_pos z]at q;cases q;rw[z];exact e
  ·rw[if_neg z]at q;exact R.frz b o' q
 len:=R.len
 nod:=R.nod
 new:=λb m=>by
  have hb:b≠a:=λz=>ha (by rw[← z];exact m);unfold hJ;rw[if_neg hb];exact R.new b m
 dom:=R.dom
 obj:=λi b o' e1 e2=>(R.obj i b o' e1 e2).mono (cV hn) (prefix_refl φ) λ_ q=>q
 t1:=R.t1.mono (cV hn) λ_ q=>q
 t2:=R.t2.mono (cV hn) λ_ q=>q
 n1:=⟨by unfold hJ;rw[if_neg h1.symm];exact R.n1.1,R.n1.2⟩
 n2:=⟨by unfold hJ;rw[if_neg h2.symm];exact R.n2.1,R.n2.2⟩
theorem Kj.grow {ao:AO}(R:Kj Z F φ st h)(hn:F a=none)(ha:a∉φ)(h1:a≠cQ)(h2:a≠dq)(e:h.get? a=some o)(x:OR F (φ++[a]) h a ao):Kj Z F (φ++[a]) (st++[ao]) h where
 base:=R.base
 frz:=R.frz
 len:=by rw[length_append,length_append,R.len];rfl
 nod:=List.nodup_append.mpr ⟨R.nod,by simp,λb m c m'=>by rintro rfl;simp at m';subst m';exact ha m⟩
 new:=λb m=>by
  rcases mem_append.mp m with m |m
  ·exact R.new b m
  ·simp at m;subst m;exact hn
 dom:=λb m=>by
  rcases mem_append.mp m with m |m
  ·exact R.dom b m
  ·simp at m;subst m;exact⟨o,e⟩
 obj:=λi b o' e1 e2=>by
  by_cases hi:i<φ.length
  ·rw[getElem?_append_left hi]at e1;rw[getElem?_append_left (R.len▸hi)]at e2;exact(R.obj i b o' e1 e2).mono (K7.refl F) (prefix_append φ [a]) λ_ q=>q
  ·have MI:φ.length<=i:=Nat.le_of_not_lt hi;rw[getElem?_append_right MI]at e1;rw[getElem?_append_right (R.len▸MI)]at e2
   have hz:i-φ.length=0:=by
    cases q:i-φ.length with
    |zero=>rfl
    |succ n=>rw[q]at e1;simp at e1
   have Nf:i-st.length=0:=R.len▸hz;rw[hz]at e1;rw[Nf]at e2;simp at e1 e2;subst e1;subst e2;exact x
 t1:=R.t1
 t2:=R.t2
 n1:=⟨R.n1.1,λm=>by rcases mem_append.mp m with m |m;exact R.n1.2 m;simp at m;exact h1 m.symm⟩
 n2:=⟨R.n2.1,λm=>by rcases mem_append.mp m with m |m;exact R.n2.2 m;simp at m;exact h2 m.symm⟩
theorem tn {l:List Addr}(hn:l.Nodup){i j:Nat}{a:Addr}(h1:l[i]?=some a)(h2:l[j]?=some a):i=j:=by
 refine aw (List.getElem?_eq_some_iff.mp h1) λl1 e1=>?_;refine aw (List.getElem?_eq_some_iff.mp h2) λl2 e2=>?_;exact(List.getElem_inj hn).mp (e1.trans e2.symm)
theorem Kj.upd {ao:AO}{i:Nat}(R:Kj Z F φ st h)(hi:φ[i]?=some a)(hs:Heap.SameBut a h h')(x:OR F φ h' a ao)(e:∃ o,h'.get? a=some o):Kj Z F φ (st.set i ao) h' where
 base:=R.base
 frz:=λb o' q=>(hs.2 b λz=>by subst z;rw[R.new b (mem_of_getElem? hi)]at q;cases q).trans (R.frz b o' q)
 len:=by rw[length_set];exact R.len
 nod:=R.nod
 new:=R.new
 dom:=λb m=>by
  by_cases z:b=a
  ·subst z;exact e
  ·refine aw (R.dom b m) λo' q=>?_;exact⟨o',(hs.2 b z).trans q⟩
 obj:=λj b o' e1 e2=>by
  by_cases z:j=i
  ·subst z;have:b=a:=KO (e1.symm.trans hi);subst this;have hl:j<st.length:=R.len▸(List.getElem?_eq_some_iff.mp hi).1;rw[getElem?_set_self hl]at e2;cases e2;exact x
  ·rw[getElem?_set_ne (Ne.symm z)]at e2;have hb:b≠a:=λq=>z (tn R.nod e1 (q▸hi));exact(R.obj j b o' e1 e2).mono (K7.refl F) (prefix_refl φ) λo'' q=>(hs.2 b hb).trans q
 t1:=R.t1.mono (K7.refl F) λ_ q=>(hs.2 _ λz=>R.n1.2 (by rw[z];exact mem_of_getElem? hi)).trans q
 t2:=R.t2.mono (K7.refl F) λ_ q=>(hs.2 _ λz=>R.n2.2 (by rw[z];exact mem_of_getElem? hi)).trans q
 n1:=R.n1
 n2:=R.n2
theorem Step.upd {own:List Addr}(ha:a∈φ)(hs:Heap.SameBut a h h')(e:∃ o,h'.get? a=some o):Step F φ own h F φ h':=
 ⟨K7.refl F,λ_ _ q=>.inl q,prefix_refl φ,λ_ m=>.inl m,λb o q=>by
  by_cases z:b=a
  ·subst z;exact e
  ·exact⟨o,(hs.2 b z).trans q⟩,λb o q n1 _ _ _=>(hs.2 b λz=>n1 (z▸ha)).trans q⟩
theorem Step.freeze {own:List Addr}(hn:F a=none)(hx:h.get? a=none)(k:∀ b o,h.get? b=some o->h'.get? b=some o):Step F φ own h (hJ F a o) φ h':=
 ⟨cV hn,λx o' q=>by
  unfold hJ at q;by_cases z:x=a
  ·subst z;exact .inr (.inl hx)
  ·rw[if_neg z]at q;exact .inl q,prefix_refl φ,λ_ m=>.inl m,λb o q=>⟨o,k b o q⟩,λb o q _ _ _ _=>k b o q⟩
theorem Step.grow {own:List Addr}(hx:h.get? a=none)(k:∀ b o,h.get? b=some o->h'.get? b=some o):Step F φ own h F (φ++[a]) h':=
 ⟨K7.refl F,λ_ _ q=>.inl q,prefix_append φ [a],λx m=>by
  rcases mem_append.mp m with m |m
  ·exact .inl m
  ·simp at m;subst m;exact .inr hx,λb o q=>⟨o,k b o q⟩,λb o q _ _ _ _=>k b o q⟩
theorem aC {o':Obj}:∀ b x,h.get? b=some x->(h.push o').get? b=some x:=λ_ _ e=>Heap.get?_push_of_some _ e
theorem cD (h:Heap):h.get? h.objs.size=none:=by
 cases q:h.get? h.objs.size with
 |none=>rfl
 |some o=>exact absurd (lt_size q) (lt_irrefl _)
theorem Kj.newF (R:Kj Z F φ st h)(hf:o.isFreed=false):Kj Z (hJ F h.objs.size o) φ st (h.push o)/\∀ own,Step F φ own h (hJ F h.objs.size o) φ (h.push o):=by
 refine gQ R.size_new λn1 n2 n3 n4=>?_;exact⟨(R.ext aC).freeze n1 n2 n3 n4 (get?_push_size _ hf),λown=>Step.freeze n1 (cD h) aC⟩
theorem Kj.newM {ao:AO}(R:Kj Z F φ st h)(hf:o.isFreed=false)(x:OR F (φ++[h.objs.size]) (h.push o) h.objs.size ao) :
  Kj Z F (φ++[h.objs.size]) (st++[ao]) (h.push o)/\∀ own,Step F φ own h F (φ++[h.objs.size]) (h.push o):=by
 refine gQ R.size_new λn1 n2 n3 n4=>?_;exact⟨(R.ext aC).grow n1 n2 n3 n4 (get?_push_size _ hf) x,λown=>Step.grow (cD h) aC⟩
theorem Kv.kept {env:Env}{x:Str}{v:Value}(n:Kv env h x v)(k:∀ b∈env.locals::env.cells.map (·.2),∀ o,h.get? b=some o->h'.get? b=some o):Kv env h' x v:=by
 rcases n with ⟨a,m,b,c⟩ |⟨a,c,d,e⟩
 ·exact .inl ⟨a,m,Heap.Ns.at' b λo e=>k _ (.head _) o e,c⟩
 ·refine .inr ⟨a,c,d,?_⟩;refine ak e ?_;clear e;intro o ho hd;refine⟨o,k c (.tail _ ?_) o ho,hd⟩;exact mem_map.mpr ⟨(x,c),lookup_mem d,rfl⟩
where
 lookup_mem {α β:Type} [BEq α] [LawfulBEq α]:∀ {l:List (α×β)} {x:α} {y:β},l.lookup x=some y->(x,y)∈l
  |[],_,_,h=>by simp at h
  |(a,b)::r,x,y,h=>by
   rw[lookup_cons]at h
   cases q:x==a with
   |true=>rw[q]at h;cases h;rw[eq_of_beq q];exact .head _
   |false=>rw[q]at h;exact .tail _ (lookup_mem h)
theorem Kl.ex {σ:Loc}{sc:Scope}{env:Env}{O:List Addr}(L:Kl F φ σ sc env O h):∀ b∈env.locals::env.cells.map (·.2),∃ o,h.get? b=some o:=λb m=>by
 cases m with
 |head=>refine Dh L.ns λm o _ _ e _=>?_;exact⟨o,e⟩
 |tail _ m=>refine dc (L.cel b m) λv o e _=>?_;exact⟨o,e⟩
theorem Kl.step {σ:Loc}{sc:Scope}{env:Env}{O:List Addr}(L:Kl F φ σ sc env O h)(s:Step F φ [] h F' Kn h'):Kl F' Kn σ sc env O h':=by
 have k:∀ b∈env.locals::env.cells.map (·.2),∀ o,h.get? b=some o->h'.get? b=some o:=λb m o e=>
  let ⟨_,n2,n3,n4⟩:=L.own b m
  s.kept b o e n2 n3 n4 (by simp)
 refine⟨L.kind,L.glob,L.blt,L.gl,L.lc,L.cl,L.fr,?_,λx v e=>?_,L.apart,L.off,λb m=>?_,λc m=>?_,L.loO,L.subO⟩
 ·refine aw L.ns λm n=>?_;exact⟨m,Heap.Ns.at' n λo e=>k _ (.head _) o e⟩
 ·refine ak (L.val x v e) λv' a b=>?_;exact⟨v',a.mono s.le s.pre,b.kept k⟩
 ·refine gQ (L.own b m) λn1 n2 n3 n4=>?_;refine aw (L.ex b m) λo e=>?_;refine⟨?_,λq=>?_,n3,n4⟩
  ·cases q:F' b with
   |none=>rfl
   |some o'=>
    rcases s.fnew b o' q with z |z |z
    ·rw[n1]at z;cases z
    ·rw[e]at z;cases z
    ·exact(n2 z).elim
  ·rcases s.pnew b q with z |z
   ·exact n2 z
   ·rw[e]at z;cases z
 ·refine dc (L.cel c m) λv o e d=>?_;exact⟨v,o,k c (.tail _ m) o e,d⟩
end
structure Ks (k:Nat)(A:Around):Prop where
 hd:A.handled=none
 dp:A.depth+2*k<=900
 un:A.units+20*k<=9000
theorem Ks.less {k j:Nat}{A:Around}(r:Ks k A)(h:j<=k):Ks j A:=⟨r.hd,by have:=r.dp;exact Q2 0x3843162124011065210384315212401103 [_,_,_] h this rfl,by have:=r.un;exact Q2 0x232841614224011065142023284151422401103 [_,_,_] h this rfl⟩
theorem Ks.deeper {k:Nat}{A:Around}(r:Ks (k+1) A)(env:Env):Ks k (A.deeper env):=⟨r.hd,by have:=r.dp;simp only[Around.deeper];exact Q1 0x3843111150212401103843152121114001102 [_,_] this rfl,by have:=r.un;simp only[Around.deeper_units];exact Q1 0x23284111150142240110232841514223114001102 [_,_] this rfl⟩
theorem Ks.depth {k:Nat}{A:Around}(r:Ks k A):A.depth<recursionLimit:=by have:=r.dp;unfold recursionLimit;exact Q1 0x384315212401103e831111401102 [_,_] this rfl
noncomputable def aq:Value->Shared->Prop:=λ_ _=>False
section
variable (Z:Kz)(w:World)
noncomputable def Good (A:Around)(t:Sem Value)(F:bf)(φ:List Addr)(s:Shared)(v:AV)(Kd:St):Prop:=
 ∀ Q:Value->Shared->Prop,(∀ F' Kn v' h' tk,Step F φ [] s.heap F' Kn h'->Kj Z F' Kn Kd h'->VR F' Kn v v'->Q v' ⟨h',s.gens,s.drawn,tk,s.os⟩) ->
  aA w A t Q aq s
noncomputable def cx (k:Nat)(C:jD):Prop:=
 ∀ f args st v Kd,C f args st=some (v,Kd)->∀ A F φ (s:Shared) vs,Ks k A->Kj Z F φ st s.heap->Km F φ args vs ->
  Good Z w A (if f=35 then call (fv f) (vs.take 2) [((ofString "name"),vs.getD 2 .none)] else call (fv f) vs) F φ s v Kd
end
open PySem.SeqAt
section
open PySem.Builtin.Re
theorem JV {a b:Bool}(h:(a&&b)=true):b=true:=by
 cases a with
 |true=>exact h
 |false=>exact absurd h Ly
theorem yp {c:Nat}(h:dY true [c]=true)(seen:Sre.Seen):∃ Lr,Sre.inSet uU c uU.size 5 true seen=.ok (false,Lr):=by
 have h1:¬ c<=31:=by intro z;simp[dY]at h;exact not_succ_le_zero 0 (Q2 0x420211101f214110011111103 [_] z h.1 rfl)
 have h2:c≠127:=by intro z;subst z;simp[dY]at h
 exact⟨_,Eq.trans (if_neg (c:=(decide (0<=c)&&decide (c<=31))=true) (λz=>h1 (of_decide_eq_true (JV z)))) (Eq.trans (if_neg (c:=(c==127)=true) (λz=>h2 (eq_of_beq z))) rfl)⟩
theorem A9:∀ c,c<256->dY false [c]=true->((lV.getD (5+(1+c/32)) 0).testBit (c%32))=false:=by decide +kernel
theorem yq {c:Nat}(h:dY false [c]=true)(seen:Sre.Seen):∃ Lr,Sre.inSet lV c lV.size 5 true seen=.ok (false,Lr):=by
 have h1:(decide (c<256)&&(lV.getD (5+(1+c/32)) 0).testBit (c%32))=false:=by
  by_cases z:c<256
  ·rw[A9 c z h];simp
  ·simp[z]
 exact⟨_,Eq.trans (if_neg (c:=(decide (c<256)&&(lV.getD (5+(1+c/32)) 0).testBit (c%32))=true) (λz=>Ly (h1.symm.trans z))) rfl⟩
theorem uV (b:Bool){c:Nat}(h:dY b [c]=true)(seen:Sre.Seen):∃ Lr,Sre.inSet (codeOf b) c (codeOf b).size 5 true seen=.ok (false,Lr):=by
 cases b
 ·exact yq h seen
 ·exact yp h seen
theorem jX {γ:Type}{o:Except String (Bool×Sre.Seen)}{k:String->Except String γ}{f g:Sre.Seen->Except String γ}{x:Sre.Seen}{r:Except String γ}(h:o=.ok (false,x))(e:g x=r):(match (generalizing:=false) o with
 |.ok (true,x)=>f x
 |.ok (false,x)=>g x
 |.error z=>k z)=r:=by subst h;exact e
theorem lJ (b:Bool)(m:Sre.M)(hc:m.code=codeOf b):∀ (fuel s:Nat) (seen:Sre.Seen),(∀ i,s<=i->i<m.lim->dY b [m.text.getD i 0]=true)->∃ Lr,Sre.M.admitted m fuel s seen=.ok (none,Lr):=by
 intro fuel
 induction fuel with
 |zero=>
  intro s seen _;exact⟨seen,rfl⟩
 |succ fuel ih=>
  intro s seen h;by_cases z:s>=m.lim
  ·exact⟨_,if_pos z⟩
  ·refine aw (uV b (h s (le_refl _) (by exact Gb)) seen) λLr e=>?_;refine aw (ih (s+1) Lr λi h1 h2=>h i (by exact uI) h2) λr k=>?_;exact⟨r,Eq.trans (if_neg z) (jX (hc.symm▸e) k)⟩
noncomputable def mS (m:Sre.M):Prop:=m.answer=some false/\m.frames=[]/\m.outcome=none
theorem to (b:Bool)(text:Array Nat)(h:∀ i,i<text.size->dY b [text.getD i 0]=true):mS (Sre.forSearch (codeOf b) text 0 0 text.size false):=by
 unfold Sre.forSearch;simp only;split
 ·exact⟨rfl,rfl,rfl⟩
 ·have f:∀ m:Sre.M,m.code=codeOf b->m.text=text->m.lim=text.size->m.frames=[]->m.outcome=none->mS (m.attemptFrom 0 true):=by
   intro m h1 h2 h3 h4 h5;unfold Sre.M.attemptFrom
   have hf:m.hasFirstSet=true:=by
    unfold Sre.M.hasFirstSet;rw[h1];cases b<;>rfl
   rw[hf];refine aw (lJ b m h1 (m.lim+1-0) 0 m.seen λi _ hi=>by rw[h2];exact h i (by rw[← h3];exact hi)) λLr e=>?_;simp only[e,Bool.not_true,false_eq_true,if_false];exact⟨rfl,h4,h5⟩
  refine f _ ?_ ?_ ?_ ?_ ?_<;>first |rfl |(cases b<;>rfl)
section
variable {aM:Program}{E:Value->Shared->Prop}
theorem uW {m:Sre.M}(h:mS m)(n:Nat):∃ m',reDrive (n+1) m=pure m'/\m'.outcome=some .failed:=by
 refine mM h ?_;clear h;intro h1 h2 h3;refine⟨{ m with outcome:=some .failed },?_,rfl⟩
 have e:m.runFor 4={ m with outcome:=some .failed }:=by
  have s1:m.step={ m with outcome:=some .failed }:=by
   unfold Sre.M.step;simp[h1,h2,h3]
  show(if m.outcome.isSome then m else Sre.M.runFor 3 m.step)=_;rw[h3,s1];rfl
 show(let m:=m.runFor reTurnSteps;if m.outcome.isSome then pure m else do rule "sre.turn";reDrive n m)=_;unfold reTurnSteps;rw[e];rfl
theorem n6 {m:Sre.M}(h:mS m){Q:Option Sre.M->Shared->Prop}(hQ:Q none s):wpAny (model aM w) A (reRunToEnd m) Q E s:=by
 refine ak (uW h (2^64-1)) λm' e ho=>?_;unfold reRunToEnd;refine wpAny_bind (wpAny_of_eq e ?_);refine wpAny_bind (wpAny_forIn_list _ (λ_ _ s'=>s'=s) _ (λx rest b s' hs=>?_) (λb s' hs=>?_) _ _ rfl)
 ·subst hs;split
  ·exact wpAny_bind (wpAny_rule (wpAny_pure rfl))
  ·exact wpAny_pure rfl
 ·subst hs;rw[ho];exact wpAny_pure hQ
theorem mT {F:bf}{a:Addr}{b:Bool}(x:List Nat)(t:Tok)(hx:dY b x=true)(hl:x.length<=1000000)(hr:MH F a (codeOf b)) :
  Meets (Builtin.«re.Pattern.search» ⟨[.ref a,.str ⟨x.toArray⟩ t],[]⟩) (λ_ R s=>zR F s.heap/\R (.ok (.ret .none)) s):=
 .of_wp λaM w A R s h=>by
  obtain⟨hp,g,d,tk,os⟩:=s;refine av h ?_;clear h;intro hF h;obtain⟨fs,c,oc,vs,n,e1,e2,e3,e4,e5,e6,e7⟩:=hr;have g1:=hF _ _ e1;have g2:=hF _ _ e5;unfold Builtin.«re.Pattern.search» reTarget reNamed;wp_walk;refine wpAny_ite_false (by rw[e3];decide) ?_;refine wpAny_bind (show wpAny _ _ (reNoCollectionInside _ 0) _ _ _ from wpAny_of_eq (a:=()) (by unfold reNoCollectionInside;rfl) ?_);rw[e2];unfold reRawItems;refine wpAny_bind (wpAny_bind (wpAny_seqItems g2 e6 (wpAny_pure (wpAny_pure ?_))));unfold reAnswer;refine wpAny_bind ?_
  have e8:min ((2:Int)^63-1).toNat x.toArray.size=x.toArray.size:=by
   apply Nat.min_eq_right;simp;exact bN
  have e9:min (0:Int).toNat x.toArray.size=0:=by simp
  simp only[e4,getD_some,e7,e8,e9];refine n6 (to b x.toArray λi hi=>?_) ?_
  ·unfold dY at hx ⊢;have MI:i<x.length:=by simpa using hi
   have:=all_eq_true.mp hx x[i] (getElem_mem MI);simp only[all_cons,all_nil,Bool.and_true];rw[show x.toArray.getD i 0=x[i] by simp[Array.getD,MI]];exact this
  ·exact wpAny_pure ⟨_,rfl,h⟩
end
theorem lK:PlainAttrs "re.Pattern":=
 ⟨⟨"object.__getattribute__",by rw[typeLookup_type,builtinLookup_eq_fast];kernel_rfl,by decide +kernel⟩,by rw[typeLookup_type,builtinLookup_eq_fast];kernel_rfl⟩
theorem f4:Slot "re.Pattern" "search" "re.Pattern.search":=
 .of (owner:="re.Pattern") (n:="search") (by rw[typeLookup_type,builtinLookup_eq_fast];kernel_rfl) (by decide +kernel) (by decide +kernel) (by decide +kernel)
  (by first |exact .inl (by decide +kernel) |exact .inr (by decide +kernel)) (by rw[isSubtype_type];kernel_rfl)
theorem ke:typeOf (.builtin "re.Pattern.search")=Pure.pure (.type "method_descriptor"):=by show builtinType _=_;rw[builtinType_eq_fast];kernel_rfl
theorem jH:entryFor table "re.Pattern.search"=some Builtin.«re.Pattern.search»:=entryFor_of_tree (by kernel_rfl)
theorem kg (a b:Value):argsOk "re.Pattern.search" ⟨[a,b],[]⟩:=by unfold argsOk;kernel_rfl
end
theorem Good.val {t:Sem Value}{v:AV}(R:Kj Z F φ st s.heap)
  (x:∀ Q:Value->Shared->Prop,(∀ v' tk,VR F φ v v'->Q v' ⟨s.heap,s.gens,s.drawn,tk,s.os⟩)->aA w A t Q aq s):Good Z w A t F φ s v st:=
 λQ h=>x Q λv' tk hv=>h F φ v' s.heap tk (Step.refl ..) R hv
theorem Good.fresh {t:Sem Value}{v:AV}{o:Obj}(R:Kj Z F φ st s.heap)(hf:o.isFreed=false)(hv:VR (hJ F s.heap.objs.size o) φ v (.ref s.heap.objs.size))
  (x:∀ Q:Value->Shared->Prop,(∀ tk,Q (.ref s.heap.objs.size) ⟨s.heap.push o,s.gens,s.drawn,tk,s.os⟩)->aA w A t Q aq s):Good Z w A t F φ s v st:=
 λQ h=>x Q λtk=>h _ φ _ _ tk ((R.newF hf).2 _) (R.newF hf).1 hv
theorem qp {a:Int}{b:Nat}(h:((intBits a:Nat):Int)<=(b:Int)):a.fdiv (2^b)=if a<0 then -1 else 0:=by
 have hb:a.natAbs<2^b:=by
  by_cases z:a=0
  ·subst z;exact Nat.two_pow_pos b
  ·have hn:a.natAbs≠0:=λe=>z (Int.natAbs_eq_zero.mp e)
   have:intBits a=a.natAbs.log2+1:=by
    unfold intBits;simp[z]
   have h2:a.natAbs.log2<b:=by rw[this]at h;exact ofNat_le.mp h
   exact(log2_lt hn).mp h2
 have hp:(0:Int)<2^b:=Int.pow_pos (by decide);have hc:((2:Int)^b)=((2^b:Nat):Int):=by norm_cast
 rw[fdiv_eq_ediv_of_nonneg _ (Int.le_of_lt hp)];by_cases q:a<0
 ·rw[if_pos q];have:a+2^b>=0/\a+2^b<2^b:=by rw[hc];exact Gp hb q
  have e:=Int.ediv_eq_zero_of_lt this.1 this.2
  have:(a+2^b)/(2^b:Int)=a/2^b+1:=by
   have:=Int.add_mul_ediv_right a 1 (Int.ne_of_gt hp)
   rwa [Int.one_mul]at this
  exact Ju (this.symm.trans e)
 ·rw[if_neg q];exact Int.ediv_eq_zero_of_lt (Int.not_lt.mp q) (by rw[hc];exact Gl hb)
theorem rshift_int {a b:Int}{t u:Tok}{E:Value->Shared->Prop}{Q:Value->Shared->Prop}(hb:0<=b)(h:∀ tk LS,Q (.int (a.fdiv (2^b.toNat)) tk) { s with toks:=LS }) :
  aA w A (binaryOp .RShift (.int a t) (.int b u)) Q E s:=by
 by_cases q:b>=((intBits a:Nat):Int)
 ·refine AutoIntOps.rshift_1 (by lia) q ?_;have e:=qp (a:=a) (b:=b.toNat) (Int.le_trans q (Int.le_of_eq (zF hb).symm));rw[← e];exact h _ _
 ·exact AutoIntOps.rshift_2 (by lia) q (h _ _)
theorem pow_int {a b:Int}{t u:Tok}{E:Value->Shared->Prop}{Q:Value->Shared->Prop}(h1:2<=a)(h2:a<=8)(h3:0<=b)(h4:b<=100)
  (h:∀ tk LS,Q (.int (a^b.toNat) tk) { s with toks:=LS }):aA w A (binaryOp .Pow (.int a t) (.int b u)) Q E s:=by
 by_cases z:b=0
 ·subst z;exact AutoIntOps.pow_0 (by exact bz) (by decide) (by have:=h s.toks (s.toks+1);rwa [show a^toNat 0=1 from by simp]at this)
 ·refine AutoIntOps.pow_4 (by exact bz) (by simpa using z) (by simp;lia) (by simp;lia) ?_ (h _ _);have hb:intBits a<=64:=intBits_le_64 (by first |exact Int.lt_of_lt_of_le (by decide) h1 |lia) (by first |exact Int.lt_of_le_of_lt h2 (by decide) |lia);have hm:((intBits a:Nat):Int)*b<=64*100:=Int.mul_le_mul (by exact yl) h4 h3 (by decide);unfold intTooBig;simp[bitsLine];lia
theorem foldl_rep {α:Type}(v:α):∀ (n:Nat) (acc:Array α),((replicate n #[v]).foldl (·++·) acc).toList=acc.toList++replicate n v:=by
 intro n
 induction n with
 |zero=>
  intro acc;simp
 |succ n ih=>
  intro acc;rw[replicate_succ,foldl_cons,ih,toList_append,replicate_succ];simp
theorem iP:fillsNumberSlot (.type "tuple") "mul"=pure false:=
 PySem.fillsNumberSlot_seq (id:="tuple.__mul__") (r:=some (.builtin "tuple.__rmul__")) slot_tuple_mul.lookup (by decide +kernel) PySem.F.slot_tuple_rmul.lookup (by decide +kernel)
theorem mU:seqRepeat? (.type "tuple")=pure (some (.builtin "tuple.__mul__")):=by
 unfold seqRepeat?;rw[PySem.seqSlot_of (T:="tuple") (name:="__mul__") (id:="tuple.__mul__") slot_tuple_mul.lookup (by decide +kernel),PySem.seqSlot_of (T:="tuple") (name:="__rmul__") (id:="tuple.__rmul__") PySem.F.slot_tuple_rmul.lookup (by decide +kernel)];rfl
theorem kh (a:Int)(t:Tok)(l:Addr)(items:Array Value)(n:Nat) :
  Meets (Builtin.«int.__rmul__» ⟨[.int a t,.ref l],[]⟩) (λ_ R s=>s.heap.get? l=some { cls:=.type "tuple",dict:=none,data:=.seq items n,slots:=#[] }/\R (.ok (.ret Value.notImplemented)) s):=
 .of_wp λaM w A R s h=>by obtain⟨hp,g,d,tk,os⟩:=s;refine av h ?_;clear h;intro hl h;wp_walk;exact⟨_,rfl,h⟩
theorem lL (l:Addr)(v:Value)(n:Nat)(x:Int)(u:Tok)(h1:2<=x)(h2:x<=1000) :
  Meets (Builtin.«tuple.__mul__» ⟨[.ref l,.int x u],[]⟩) (λ_ R s=>s.heap.get? l=some { cls:=.type "tuple",dict:=none,data:=.seq #[v] n,slots:=#[] }/\R (.ok (.ret (Value.ref s.heap.objs.size))) { s with heap:=s.heap.push { cls:=Value.type "tuple",data:=Data.seq ((replicate x.toNat #[v]).foldl (·++·) #[]) } }):=
 .of_wp λaM w A R s h=>by
  obtain⟨hp,g,d,tk,os⟩:=s;refine av h ?_;clear h;intro hl h;have c1:¬ (x < -(2^63)\/x>=2^63):=λe=>e.elim (Int.not_lt.mpr (Int.le_trans (by decide) h1)) λe=>Int.not_lt.mpr e (Int.lt_of_le_of_lt h2 (by decide));wp_walk;refine wpAny_ite_false (by simp;lia) ?_;wp_walk;refine wpAny_ite_false (by simp;lia) ?_;wp_walk;refine wpAny_ite_false (by simp;lia) ?_;wp_walk;refine wpAny_ite_false (decide_eq_false (by simp;lia)) ?_;wp_walk;refine wpAny_ite_false (by simp[Builtin.Tuple.tupleTooMany,sizeLine];lia) ?_;wp_walk;refine wpAny_ite_false (decide_eq_false (by rw[← length_toList,foldl_rep,sizeLine_eq];simp;lia)) ?_;wp_walk;exact⟨_,rfl,h⟩
theorem Km.replicate {x:AV}{v:Value}(h:VR F φ x v):∀ n,Km F φ (replicate n x) (replicate n v):=by
 intro n
 induction n with
 |zero=>
  exact .nil
 |succ n ih=>
  exact .cons h (ih)
theorem yr (c:Nat)(n:Int):Txt.mul ⟨[c].toArray⟩ n=⟨(replicate n.toNat c).toArray⟩:=by
 unfold Txt.mul;by_cases h1:n<1
 ·rw[if_pos h1];have:n.toNat=0:=by lia
  rw[this];rfl
 ·rw[if_neg h1];by_cases h2:n=1
  ·subst h2;rfl
  ·have:(n==1||(⟨[c].toArray⟩:Str).length==0)=false:=by
    simp only[Bool.or_eq_false_iff];exact⟨by simpa using h2,rfl⟩
   rw[if_neg (by rw[this];decide)];congr 1;apply Array.ext';exact foldl_rep c n.toNat #[]
theorem Ge {n:Nat}(h:n<=1000000):n<=sizeLine:=le_trans h (by decide)
theorem ki {a b:Int}(hm:eB a b=true):IntMulOk a b:=by
 intro q;unfold eB at hm;rw[q]at hm;cases hm
theorem n7 {op:Operator}{x y v:AV}{vx vy:Value}{g:Int->Int->Int}(R:Kj Z F φ st s.heap)(hx:VR F φ x vx)(hy:VR F φ y vy)
  (k:∀ a b t u Q,(∀ tk LS,Q (.int (g a b) tk) { s with toks:=LS })->aA w A (binaryOp op (.int a t) (.int b u)) Q aq s) (e:(ar x λa=>ar y λb=>some (.int (g a b)))=some v) :
  Good Z w A (binaryOp op vx vy) F φ s v st:=
 cu (P:=λvx=>Good Z w A (binaryOp op vx vy) F φ s v st) hx e λa t e=>cu (P:=λvy=>Good Z w A (binaryOp op (.int a t) vy) F φ s v st) hy e λb u e=>
  KO e▸Good.val R λQ h=>k a b t u Q λtk LS=>h _ _ (.int _ tk)
theorem lW {op:Operator}{x y v:AV}{vx vy:Value}{g:Int->Int->Int}{c:Int->Int->Prop}[d:∀ a b,Decidable (c a b)](R:Kj Z F φ st s.heap)(hx:VR F φ x vx)(hy:VR F φ y vy)
  (k:∀ a b t u Q,c a b->(∀ tk LS,Q (.int (g a b) tk) { s with toks:=LS })->aA w A (binaryOp op (.int a t) (.int b u)) Q aq s) (e:(ar x λa=>ar y λb=>if c a b then some (.int (g a b)) else none)=some v) :
  Good Z w A (binaryOp op vx vy) F φ s v st:=
 cu (P:=λvx=>Good Z w A (binaryOp op vx vy) F φ s v st) hx e λa t e=>cu (P:=λvy=>Good Z w A (binaryOp op (.int a t) vy) F φ s v st) hy e λb u e=>
  oI e λhc e=>KO e▸Good.val R λQ h=>k a b t u Q hc λtk LS=>h _ _ (.int _ tk)
theorem yt (a b:List Nat):(⟨a.toArray⟩:Str)++⟨b.toArray⟩=⟨(a++b).toArray⟩:=by
 show Str.mk (a.toArray++b.toArray)=_;simp
theorem uX {arr:Array Value}{xs:List AV}(d:Km F φ xs arr.toList)(h:(!xs.isEmpty)=true):arr≠#[]:=λz=>by
 have:=d.length;rw[z]at this
 cases xs with
 |nil=>cases h
 |cons=>cases this
theorem yu {xs ys:List AV}{v:AV}{a1 a2:Addr}{LB Lg:Array Value}{n1 n2:Nat}(R:Kj Z F φ st s.heap)(e1:F a1=some { cls:=.type "tuple",data:=.seq LB n1 })(d1:Km F φ xs LB.toList)
  (e2:F a2=some { cls:=.type "tuple",data:=.seq Lg n2 }) (d2:Km F φ ys Lg.toList) (e:(if (!xs.isEmpty)=true/\(!ys.isEmpty)=true/\xs.length+ys.length<=1000000 then some (AV.tup (xs++ys)) else none)=some v) :
  Good Z w A (binaryOp .Add (.ref a1) (.ref a2)) F φ s v st:=by
 refine oI e λhm e=>KO e▸?_;have g1:=R.frz _ _ e1;have g2:=R.frz _ _ e2
 refine Good.fresh (o:={ cls:=.type "tuple",data:=.seq (LB++Lg) }) R rfl (VR.tup (arr:=LB++Lg) bP (by rw[toList_append];exact(d1.append d2).mono (cV R.size_new.1) (prefix_refl _))) λQ h=>
  concat_meets ⟨_,g1,rfl⟩ ⟨_,g2,rfl⟩ noFill_tuple_add seq_tuple_add PySem.F.slot_tuple_add PySem.F.entry_tuple_add (PySem.F.args_tuple_add_2 _ _)
   (tuple_addW2 _ _ LB Lg n1 n2 none none #[] #[] (by simpa using uX d1 hm.1) (by simpa using uX d2 hm.2.1) ?_) ⟨g1,g2,h _⟩
 have z1:xs.length=LB.size:=d1.length.trans length_toList;have z2:ys.length=Lg.size:=d2.length.trans length_toList;rw[← z1,← z2];exact Ge hm.2.2
theorem yv {xs:List AV}{v:AV}{a1:Addr}{LB:Array Value}{n1:Nat}{n:Int}{u:Tok}(R:Kj Z F φ st s.heap)(e1:F a1=some { cls:=.type "tuple",data:=.seq LB n1 })(d1:Km F φ xs LB.toList)
  (e:(iO xs λa=>if 2<=n/\n<=1000 then some (AV.tup (replicate n.toNat a)) else none)=some v) :
  Good Z w A (binaryOp .Mult (.ref a1) (.int n u)) F φ s v st:=by
 revert d1;refine j9 (P:=λxs=>Km F φ xs LB.toList->_) (λx e d1=>?_) e;refine oI e λhm e=>KO e▸?_;have g1:=R.frz _ _ e1;refine cP d1.inv λv ws e3 hv hr=>?_;have hr:ws=[]:=hr.inv;subst hr;have:LB=#[v]:=by apply Array.ext';exact e3
 subst this
 refine Good.fresh (o:={ cls:=.type "tuple",data:=.seq ((replicate n.toNat #[v]).foldl (·++·) #[]) }) R rfl ?_ λQ h=>
  wpAny_binaryOp_repeat_ref (T:="tuple") (U:="int") (by decide) ⟨_,g1,rfl⟩ (λs'=>typeIs_int s' n u) iP PySem.F.fills_int_mul slot_int_rmul mU PySem.F.slot_int_index.lookup
   (call_meets slot_int_rmul (typeIs_int s n u) PySem.F.entry_int_rmul (PySem.F.args_int_rmul_2 _ _) (kh n u a1 #[v] n1)
    ⟨g1,rfl,⟨_,g1,rfl⟩,call_meets slot_tuple_mul ⟨_,g1,rfl⟩ PySem.F.entry_tuple_mul (PySem.F.args_tuple_mul_2 _ _)
     (lL a1 v n1 n u hm.1 hm.2) ⟨g1,h _⟩⟩)
 refine VR.tup (arr:=(replicate n.toNat #[v]).foldl (·++·) #[]) bP ?_;rw[foldl_rep];exact(Km.replicate hv n.toNat).mono (cV R.size_new.1) (prefix_refl _)
theorem yw {l:List Nat}{v:AV}{n:Int}{t u:Tok}(R:Kj Z F φ st s.heap)(e:(iO l λc=>if -1000<=n/\n<=1000 then some (AV.str (replicate n.toNat c)) else none)=some v) :
  Good Z w A (binaryOp .Mult (.str ⟨l.toArray⟩ t) (.int n u)) F φ s v st:=by
 refine j9 (P:=λl=>Good Z w A (binaryOp .Mult (.str ⟨l.toArray⟩ t) (.int n u)) F φ s v st) (λc e=>?_) e;refine oI e λhm e=>KO e▸?_;refine Good.val R λQ h=>SB.mul ?_ (λt' k=>h _ _ ?_)
 ·refine⟨by simp;exact zK hm.1 hm.2,λh1 h2=>?_,λh1 h2=>?_⟩
  ·show ¬ ((1:Int)>_)
   have:(1:Int)<=(2^63-1)/n:=by
    rw[Int.le_ediv_iff_mul_le (Int.lt_of_lt_of_le (by decide) (Int.not_lt.mp h1))];lia
   lia
  ·show Builtin.Str.tooLong (1*n.toNat)=false;unfold Builtin.Str.tooLong;rw[sizeLine_eq];simp;lia
 ·rw[yr];exact VR.str _ _
theorem tq {op:Operator}{x y v:AV}{vx vy:Value}(e:aK op x y=some v)(R:Kj Z F φ st s.heap)(rm:Ks 1 A)(hx:VR F φ x vx)(hy:VR F φ y vy) :
  Good Z w A (binaryOp op vx vy) F φ s v st:=
 match op,e with
 |.Add,e=>ka (P:=λvx=>Good Z w A (binaryOp .Add vx vy) F φ s v st) hx e (λa t e=>hG (P:=λvy=>Good Z w A (binaryOp .Add (.str ⟨a.toArray⟩ t) vy) F φ s v st) hy e λb u e=>oI e λhm e=>KO e ▸
    Good.val R λQ h=>add_str (λt' tk=>h _ _ (yt a b▸.str _ _)) (by simp only[Str.length,size_toArray];exact Ge hm))
   λe=>zP (P:=λvx=>Good Z w A (binaryOp .Add vx vy) F φ s v st) hx e (λxs a arr n e e1 d1=>Dw (P:=λvy=>Good Z w A (binaryOp .Add (.ref a) vy) F φ s v st) hy e λys b Lg n2 e e2 d2=>yu R e1 d1 e2 d2 e)
    (n7 R hx hy λ_ _ _ _ _ h=>add_int (h _ _))
 |.Sub,e=>n7 R hx hy (λ_ _ _ _ _ h=>sub_int (h _ _)) e
 |.Mult,e=>ka (P:=λvx=>Good Z w A (binaryOp .Mult vx vy) F φ s v st) hx e (λl t e=>j9 (P:=λl=>Good Z w A (binaryOp .Mult (.str ⟨l.toArray⟩ t) vy) F φ s v st)
    (λc e=>cu (P:=λvy=>Good Z w A (binaryOp .Mult (.str ⟨[c].toArray⟩ t) vy) F φ s v st) hy e λn u e=>yw (l:=[c]) R e) e)
   λe=>zP (P:=λvx=>Good Z w A (binaryOp .Mult vx vy) F φ s v st) hx e (λxs a arr n e e1 d1=>j9 (P:=λxs=>Km F φ xs arr.toList->Good Z w A (binaryOp .Mult (.ref a) vy) F φ s v st)
     (λc e d1=>cu (P:=λvy=>Good Z w A (binaryOp .Mult (.ref a) vy) F φ s v st) hy e λn u e=>yv (xs:=[c]) R e1 d1 e) e d1)
    (lW R hx hy λa b _ _ _ hm h=>mul_int (h _ _) (ki hm))
 |.FloorDiv,e=>lW R hx hy (λ_ _ _ _ _ hm h=>floordiv_int hm.1 (h _ _) (.inl hm.2)) e
 |.Mod,e=>lW R hx hy (λ_ _ _ _ _ hm h=>mod_int' hm (h _ _)) e
 |.LShift,e=>lW R hx hy (λ_ _ _ _ _ hm h=>lshift_int hm.1 hm.2 (h _ _)) e
 |.RShift,e=>lW R hx hy (λ_ _ _ _ _ hm h=>rshift_int hm.1 h) e
 |.Pow,e=>lW R hx hy (λ_ _ _ _ _ hm h=>pow_int hm.1 hm.2.1 hm.2.2.1 hm.2.2.2 h) e
 |.BitAnd,e=>n7 R hx hy (λ_ _ _ _ _ h=>and_int (h _ _)) e
 |.BitOr,e=>n7 R hx hy (λ_ _ _ _ _ h=>or_int (h _ _)) e
 |.BitXor,e=>n7 R hx hy (λ_ _ _ _ _ h=>xor_int (h _ _)) e
 |.Div,e=>absurd e bg
 |.MatMult,e=>absurd e bg
theorem Lf.plain {F:bf}{h:Heap}{a:Addr}{arr:Array Value}(x:Lf F a arr)(y:zR F h):h.PlainList a arr:=let ⟨n,e⟩:=x;⟨n,y _ _ e⟩
theorem Lf.isList {F:bf}{h:Heap}{a:Addr}{arr:Array Value}(x:Lf F a arr)(y:zR F h):h.IsList a arr:=let ⟨n,e⟩:=x;⟨_,y _ _ e,rfl,n,rfl⟩
theorem aP {h:Heap}{a:Addr}{arr:Array Value}(x:h.PlainList a arr):h.IsList a arr:=let ⟨n,e⟩:=x;⟨_,e,rfl,n,rfl⟩
theorem Kj.list (R:Kj Z F φ st h){i:Nat}{xs:List AV}{a:Addr}(e:listAt st i=some xs)(hi:φ[i]?=some a):∃ arr,h.PlainList a arr/\Km F φ xs arr.toList:=by
 unfold listAt at e
 cases q:st[i]? with
 |none=>rw[q]at e;exact absurd e bg
 |some o=>
  rw[q]at e
  cases o with
  |list ys=>cases e;exact R.obj i a _ hi q
  |_=>exact absurd e bg
theorem jQ {v:AV}{xs:List AV}{P:AV->Prop}(k1:P (.lst xs))(k2:∀ i,listAt st i=some xs->P (.obj i)):Mine.Internal.cN st v=some xs->P v:=by
 cases v<;>first |exact λ(h:none=some xs)=>absurd h bg |exact λe=>KO e▸k1 |exact k2 _
theorem Kj.lstOf (R:Kj Z F φ st h){v:AV}{xs:List AV}{v':Value}(e:cN st v=some xs)(hv:VR F φ v v'):∃ a arr,v'=.ref a/\h.PlainList a arr/\Km F φ xs arr.toList:=
 jQ (P:=λv=>VR F φ v v'->∃ a arr,v'=.ref a/\h.PlainList a arr/\Km F φ xs arr.toList) (λhv=>let ⟨a,arr,q,e1,d⟩:=hv.inv;⟨a,arr,q,e1.plain R.frz,d⟩)
  (λi e hv=>let ⟨a,q,hi⟩:=hv.inv;let ⟨arr,r⟩:=R.list e hi;⟨a,arr,q,r⟩) e hv
theorem mV {α:Type}{x:Option α}{r:List (Option α)}{l:List α}(e:aY (x::r)=some l):∃ y ys,x=some y/\aY r=some ys/\l=y::ys:=by
 cases x with
 |none=>exact absurd e bg
 |some y=>exact oM (P:=λl=>∃ y' ys,some y=some y'/\aY r=some ys/\l=y'::ys) (o:=aY r) (g:=(y::·)) e λys q=>⟨y,ys,rfl,q,rfl⟩
noncomputable def yx (h:Heap)(n:Nat)(v:Value)(d:PyData):Prop:=(∃ as,Reads h v d as)/\d.depth<=n
theorem gz {n:Nat}(ih:∀ {x:AV} {v:Value} {d:PyData},ba n st x=some d->VR F φ x v->yx h n v d):∀ (xs:List AV) (vs:List Value) (ds:List PyData),aY (xs.map (ba n st))=some ds->Km F φ xs vs->(∃ as,ReadsAll h vs ds as)/\PyData.depthAll ds<=n
 |[],_,_,e,hv=>Km.nilR (Q:=λvs=>(∃ as,ReadsAll h vs _ as)/\PyData.depthAll _<=n) (KO e▸⟨⟨_,.nil⟩,zero_le n⟩) hv
 |x::xs,vs,ds,e,hv=>by
  refine cP (mV (x:=ba n st x) (r:=xs.map (ba n st)) e) ?_;rintro y ys e1 e2 rfl;refine cP hv.inv ?_;rintro v ws rfl hx Np;refine av (ih e1 hx) ?_;rintro⟨as,r1⟩ k1;refine av (gz ih xs ws ys e2 Np) ?_;rintro⟨bs,r2⟩ k2;exact⟨⟨_,.cons r1 r2⟩,max_le.mpr ⟨k1,k2⟩⟩
set_option tactic.hygienic true in
theorem eD:∀ (n:Nat) {x:AV} {v:Value} {d:PyData},ba n st x=some d->Kj Z F φ st h->VR F φ x v->yx h n v d
 |n,.none,v,d,e,R,hv=>by
  have e:some PyData.none=some d:=by cases n<;>exact e
  exact KO e▸VR.noneR (P:=λv=>yx h n v .none) ⟨⟨_,.none⟩,zero_le n⟩ hv
 |n,.bool b,v,d,e,R,hv=>by
  have e:some (PyData.bool b)=some d:=by cases n<;>exact e
  exact KO e▸VR.boolR (P:=λv=>yx h n v (.bool b)) ⟨⟨_,.bool b⟩,zero_le n⟩ hv
 |n,.int i,v,d,e,R,hv=>by
  have e:some (PyData.int i)=some d:=by cases n<;>exact e
  exact KO e▸VR.intR (P:=λv=>yx h n v (.int i)) (λt=>⟨⟨_,.int i t⟩,zero_le n⟩) hv
 |n,.str i,v,d,e,R,hv=>by
  have e:some (PyData.str ⟨i.toArray⟩)=some d:=by cases n<;>exact e
  exact KO e▸VR.strR (P:=λv=>yx h n v (.str ⟨i.toArray⟩)) (λt=>⟨⟨_,.str _ t⟩,zero_le n⟩) hv
 |n+1,.tup xs,v,d,e,R,hv=>by
  refine oM (o:=aY (xs.map (ba n st))) (g:=PyData.tuple) e λds e=>?_;refine VR.tupR (P:=λv=>yx h (n+1) v (.tuple ds)) (λa arr m e1 dd=>?_) hv;refine av (gz (λe=>eD n e R) _ _ _ e dd) ?_;rintro⟨as,r⟩ k;exact⟨⟨_,.tuple (R.frz _ _ e1) rfl rfl r⟩,succ_le_succ k⟩
 |n+1,.lst xs,v,d,e,R,hv=>by
  refine oM (o:=aY (xs.map (ba n st))) (g:=PyData.list) e λds e=>?_;refine VR.lstR (P:=λv=>yx h (n+1) v (.list ds)) (λa arr e1 dd=>?_) hv;refine av (gz (λe=>eD n e R) _ _ _ e dd) ?_;rintro⟨as,r⟩ k;refine aw e1 ?_;clear e1;intro m q1;exact⟨⟨_,.list (R.frz _ _ q1) rfl rfl r⟩,succ_le_succ k⟩
 |n+1,.obj i,v,d,e,R,hv=>by
  have e:(match listAt st i with
   |some xs=>(aY (xs.map (ba n st))).map PyData.list
   |none=>none)=some d:=by
   rw[← e]
   show _=(match st[i]? with
    |some (.list xs)=>(aY (xs.map (ba n st))).map PyData.list
    |_=>none)
   unfold listAt
   cases st[i]? with
   |none=>rfl
   |some o=>cases o<;>rfl
  refine oV e λxs q e=>?_;refine oM e λds e=>?_;refine VR.objR (P:=λv=>yx h (n+1) v (.list ds)) (λa hi=>?_) hv;refine ak (R.list q hi) ?_;rintro arr ⟨m,q1⟩ dd;refine av (gz (λe=>eD n e R) _ _ _ e dd) ?_;rintro⟨as,r⟩ k;exact⟨⟨_,.list q1 rfl rfl r⟩,succ_le_succ k⟩
 |0,.tup _,_,_,e,_,_=>absurd e bg
 |0,.lst _,_,_,e,_,_=>absurd e bg
 |0,.obj _,_,_,e,_,_=>absurd e bg
 |0,.rng ..,_,_,e,_,_=>absurd e bg
 |_+1,.rng ..,_,_,e,_,_=>absurd e bg
 |0,.fn _,_,_,e,_,_=>absurd e bg
 |_+1,.fn _,_,_,e,_,_=>absurd e bg
 |0,.rx _,_,_,e,_,_=>absurd e bg
 |_+1,.rx _,_,_,e,_,_=>absurd e bg
theorem n8 {x y:AV}{vx vy:Value}{b:Bool}(e:rO st x y=some b)(R:Kj Z F φ st s.heap)(rm:Ks 1 A)(hx:VR F φ x vx)(hy:VR F φ y vy) :
  RcAt A s vx vy b/\EqAt A s vx vy b/\RcNeAt A s vx vy (!b):=by
 refine oD e λdx q1 e=>?_;refine oD e λdy q2 e=>?_;refine oI e λc e=>KO e▸?_;refine av (eD 6 q1 R hx) ?_;rintro⟨as,r1⟩ k1;refine av (eD 6 q2 R hy) ?_;rintro⟨bs,r2⟩ k2;have c:=(and_eq_true _ _).mp c;have hu:A.units+min dx.depth dy.depth<cLine:=lt_of_le_of_lt (add_le_add_left (le_trans (Nat.min_le_left ..) k1) _) (lt_of_le_of_lt (le_trans (add_le_add_left (by decide:6<=20*1) _) rm.un) (by decide));exact⟨rcAt_reads r1 r2 c.1 c.2 hu,eqAt_reads _ _ _ _ _ _ _ _ r1 r2 c.1 c.2 hu,rcNeAt_reads r1 r2 c.1 c.2 hu⟩
theorem Km.intsAre:∀ {xs:List AV} {l:List Int} {vs:List Value},allInts xs=some l->Km F φ xs vs->IntsAre vs l
 |[],l,vs,e,h=>Km.nilR (Q:=λvs=>IntsAre vs l) (KO e▸.nil) h
 |.int i::xs,l,vs,e,h=>Km.consR (Q:=λvs=>IntsAre vs l) (λv ws a b=>oM (o:=allInts xs) (g:=(i::·)) (P:=λl=>IntsAre (v::ws) l) e λl' e=>VR.intR (P:=λv=>IntsAre (v::ws) (i::l')) (λt=>.cons _ _ (Km.intsAre e b)) a) h
 |.none::_,_,_,e,_=>absurd e bg
 |.bool _::_,_,_,e,_=>absurd e bg
 |.str _::_,_,_,e,_=>absurd e bg
 |.tup _::_,_,_,e,_=>absurd e bg
 |.lst _::_,_,_,e,_=>absurd e bg
 |.rng ..::_,_,_,e,_=>absurd e bg
 |.fn _::_,_,_,e,_=>absurd e bg
 |.rx _::_,_,_,e,_=>absurd e bg
 |.obj _::_,_,_,e,_=>absurd e bg
theorem tr {i:Int}{t:Tok}{A:Around}{vs:List Value}{ns:List Int}(a:IntsAre vs ns):∀ y∈vs,EqAt A s y (.int i t) (isInt i y):=by
 induction a with
 |nil=>exact λy m=>nomatch m
 |cons n u _ ih=>exact λy m=>(mem_cons.mp m).elim (λq=>q▸EqAt.int_int n u i t) (ih y)
theorem yy {op:CmpOp}{x y:AV}{vx vy:Value}{b:Bool}{g:Int->Int->Bool}(R:Kj Z F φ st s.heap)(hx:VR F φ x vx)(hy:VR F φ y vy)
  (k:∀ a b t u Q,Q (.bool (g a b)) s->aA w A (compareOp op (.int a t) (.int b u)) Q aq s) (e:(ar x λa=>ar y λb=>some (g a b))=some b) :
  Good Z w A (compareOp op vx vy) F φ s (.bool b) st:=
 cu (P:=λvx=>Good Z w A (compareOp op vx vy) F φ s (.bool b) st) hx e λa t e=>cu (P:=λvy=>Good Z w A (compareOp op (.int a t) vy) F φ s (.bool b) st) hy e λb u e=>
  KO e▸Good.val R λQ h=>k a b t u Q (h _ s.toks (.bool _))
theorem tt {op:CmpOp}{x y:AV}{b:Bool}{vx vy:Value}(e:bJ st op x y=some b)(R:Kj Z F φ st s.heap)(rm:Ks 1 A)(hx:VR F φ x vx)(hy:VR F φ y vy) :
  Good Z w A (compareOp op vx vy) F φ s (.bool b) st:=
 match op,e with
 |.Eq,e=>Good.val R λQ h=>(n8 e R rm hx hy).1 aM w aq Q (h _ _ (.bool _))
 |.NotEq,e=>oM (P:=λb=>Good Z w A (compareOp .NotEq vx vy) F φ s (.bool b) st) e λb' e=>Good.val R λQ h=>(n8 e R rm hx hy).2.2 aM w aq Q (h _ _ (.bool _))
 |.Lt,e=>yy R hx hy (λ_ _ _ _ _ h=>lt_int h) e
 |.LtE,e=>yy R hx hy (λ_ _ _ _ _ h=>le_int h) e
 |.Gt,e=>yy R hx hy (λ_ _ _ _ _ h=>gt_int h) e
 |.GtE,e=>yy R hx hy (λ_ _ _ _ _ h=>ge_int h) e
 |.NotIn,e=>cu (P:=λvx=>Good Z w A (compareOp .NotIn vx vy) F φ s (.bool b) st) hx e λi t e=>rN (P:=λvy=>Good Z w A (compareOp .NotIn (.int i t) vy) F φ s (.bool b) st) hy e λxs a arr e e1 d=>
   oM (P:=λb=>Good Z w A (compareOp .NotIn (.int i t) (.ref a)) F φ s (.bool b) st) e λl e=>Good.val R λQ h=>notIn_listAt (isInt i) (e1.isList R.frz) (λy m=>tr (Km.intsAre e d) y (by simpa using m)) (h _ _ (by
    rw[← any_toList,any_isInt i (Km.intsAre e d)]
    exact .bool _))
 |.Is,e=>absurd e bg
 |.IsNot,e=>absurd e bg
 |.In,e=>absurd e bg
theorem kj {a:Addr}{arr:Array Value}{xs:List AV}{b:Bool}{Q:Bool->Shared->Prop}(hl:s.heap.IsList a arr)(d:Km F φ xs arr.toList)(e:(if xs.length<=1000000 then some (!xs.isEmpty) else none)=some b)
  (h:∀ tk,Q b ⟨s.heap,s.gens,s.drawn,tk,s.os⟩):aA w A (truthy (.ref a)) Q aq s:=by
 refine oI e λhs e=>?_;have Ko:xs.length=arr.size:=d.length.trans length_toList;refine wpAny_truthy_list hl (by rw[← Ko];exact zM) ?_
 have:(!arr.isEmpty)=!xs.isEmpty:=by
  unfold Array.isEmpty;rw[← Ko];cases xs<;>rfl
 rw[this,KO e];exact h _
theorem n9 {x:AV}{b:Bool}{v:Value}{Q:Bool->Shared->Prop}(e:fF st x=some b)(R:Kj Z F φ st s.heap)(hx:VR F φ x v)
  (h:∀ tk,Q b ⟨s.heap,s.gens,s.drawn,tk,s.os⟩):aA w A (truthy v) Q aq s:=
 match x,e,hx with
 |.none,e,hx=>VR.noneR (P:=λv=>aA w A (truthy v) Q aq s) (PyProof.Rows.truthy_none (KO e▸h _)) hx
 |.bool _,e,hx=>VR.boolR (P:=λv=>aA w A (truthy v) Q aq s) (wpAny_truthy_bool (KO e▸h _)) hx
 |.int i,e,hx=>VR.intR (P:=λv=>aA w A (truthy v) Q aq s) (λt=>PyProof.Rows.truthy_int (show Q (!(i==0)) _ from (KO e).symm▸h _)) hx
 |.lst _,e,hx=>VR.lstR (P:=λv=>aA w A (truthy v) Q aq s) (λa arr e1 d=>kj (e1.isList R.frz) d e h) hx
 |.obj _,e,hx=>oV e λxs q e=>VR.objR (P:=λv=>aA w A (truthy v) Q aq s) (λa hi=>let ⟨_,hl,d⟩:=R.list q hi;kj (aP hl) d e h) hx
 |.str _,e,_=>absurd e bg
 |.tup _,e,_=>absurd e bg
 |.rng ..,e,_=>absurd e bg
 |.fn _,e,_=>absurd e bg
 |.rx _,e,_=>absurd e bg
theorem oa {v:AV}{a:Addr}{arr:Array Value}{xs:List AV}{i:Int}{t:Tok}(R:Kj Z F φ st s.heap)(hl:s.heap.IsList a arr)(d:Km F φ xs arr.toList)(e:(if 0<=i/\i<2^62 then xs[i.toNat]? else none)=some v) :
  Good Z w A (getItem (.ref a) (.int i t)) F φ s v st:=
 oI e λhi e=>let ⟨_,e',hv⟩:=d.get e;Good.val R λQ h=>wpAny_getItem_list hl hi.1 (by have:=hi.2;lia) (by simpa using e') (h _ _ hv)
theorem rQ {v:AV}{xs:List AV}{P:AV->Prop}(k1:P (.lst xs))(k2:P (.tup xs))(k3:∀ i,listAt st i=some xs->P (.obj i)):lS st v=some xs->P v:=by
 cases v<;>first |exact λ(h:none=some xs)=>absurd h bg |exact λe=>KO e▸k1 |exact λe=>KO e▸k2 |exact k3 _
theorem lX {x y v:AV}{vx vy:Value}(e:cB st x y=some v)(R:Kj Z F φ st s.heap)(hx:VR F φ x vx)(hy:VR F φ y vy) :
  Good Z w A (getItem vx vy) F φ s v st:=by
 refine cu (P:=λvy=>Good Z w A (getItem vx vy) F φ s v st) hy e λi u e=>?_;refine ka (P:=λvx=>Good Z w A (getItem vx (.int i u)) F φ s v st) hx e (λs' t e=>?_) λe=>?_
 ·refine oI e λhi e=>?_;refine oM (P:=λv=>Good Z w A (getItem (.str ⟨s'.toArray⟩ t) (.int i u)) F φ s v st) e λc e=>?_;have hl:i.toNat<s'.length:=(List.getElem?_eq_some_iff.mp e).1;refine Good.val R λQ h=>PyProof.Rows.getItem_str (c:=c) (by simp;exact Jo hi) ?_ (h _ _ (VR.str [c] _))
  have:seqIndex? i (Str.length ⟨s'.toArray⟩)=some i.toNat:=by
   unfold seqIndex? Str.length;simp;exact II hi.1 hl
  rw[this];simpa using e
 ·refine oV e λxs q e=>?_
  refine rQ (P:=λx=>VR F φ x vx->Good Z w A (getItem vx (.int i u)) F φ s v st) (VR.lstR (P:=λvx=>Good Z w A (getItem vx (.int i u)) F φ s v st) λa arr e1 d=>oa R (e1.isList R.frz) d e)
   (VR.tupR (P:=λvx=>Good Z w A (getItem vx (.int i u)) F φ s v st) λa arr n e1 d=>?_) (λj q=>VR.objR (P:=λvx=>Good Z w A (getItem vx (.int i u)) F φ s v st) λa hi=>let ⟨_,hl,d⟩:=R.list q hi;oa R (aP hl) d e) q hx
  refine oI e λhi e=>?_;refine ak (d.get e) λv' e' hv=>?_;refine Good.val R λQ h=>PyProof.Rows.getItem_tuple (j:=i.toNat) ⟨_,R.frz _ _ e1,rfl,_,rfl⟩ (by lia) (by lia) ?_ (by simpa using e') (h _ _ hv);have:=(List.getElem?_eq_some_iff.mp e').1;rw[length_toList]at this;unfold seqIndex?;simp;exact II hi.1 this
theorem Km.size {xs:List AV}{arr:Array Value}(d:Km F φ xs arr.toList):xs.length=arr.size:=by
 have:=d.length;rw[this];exact length_toList
theorem Kj.absent (R:Kj Z F φ st h){a:Addr}(e:h.get? a=none):F a=none/\a∉φ/\a≠cQ/\a≠dq:=by
 refine⟨?_,λm=>?_,λz=>?_,λz=>?_⟩
 ·cases q:F a with
  |none=>rfl
  |some o=>rw[R.frz _ _ q]at e;cases e
 ·refine aw (R.dom _ m) λo q=>?_;rw[q]at e;cases e
 ·refine ak R.t1 λps q _=>?_;rw[z,q]at e;cases e
 ·refine ak R.t2 λps q _=>?_;rw[z,q]at e;cases e
theorem Good.kept {t:Sem Value}{v:AV}(R:Kj Z F φ st s.heap)
  (x:∀ Q:Value->Shared->Prop,(∀ h' v' tk,(∀ b o,s.heap.get? b=some o->h'.get? b=some o)->VR F φ v v'->Q v' ⟨h',s.gens,s.drawn,tk,s.os⟩)->aA w A t Q aq s) :
  Good Z w A t F φ s v st:=
 λQ h=>x Q λh' v' tk k hv=>h F φ v' h' tk (Step.ext k) (R.ext k) hv
theorem Good.made {t:Sem Value}{v:AV}(R:Kj Z F φ st s.heap)
  (x:∀ Q:Value->Shared->Prop,(∀ h' a o tk,(∀ b o,s.heap.get? b=some o->h'.get? b=some o)->s.heap.get? a=none->h'.get? a=some o->VR (hJ F a o) φ v (.ref a)->Q (.ref a) ⟨h',s.gens,s.drawn,tk,s.os⟩) ->
   aA w A t Q aq s) :
  Good Z w A t F φ s v st:=
 λQ h=>x Q λh' a o tk k e e' hv=>by
  refine gQ (R.absent e) λn1 n2 n3 n4=>?_;exact h _ φ _ h' tk (Step.freeze n1 e k) ((R.ext k).freeze n1 n2 n3 n4 e') hv
theorem Good.madeM {t:Sem Value}{ao:AO}(R:Kj Z F φ st s.heap)
  (x:∀ Q:Value->Shared->Prop,(∀ h' a o tk,(∀ b o,s.heap.get? b=some o->h'.get? b=some o)->s.heap.get? a=none->h'.get? a=some o->OR F (φ++[a]) h' a ao->Q (.ref a) ⟨h',s.gens,s.drawn,tk,s.os⟩) ->
   aA w A t Q aq s) :
  Good Z w A t F φ s (.obj st.length) (st++[ao]):=
 λQ h=>x Q λh' a o tk k e e' hv=>by
  refine gQ (R.absent e) λn1 n2 n3 n4=>?_;refine h F (φ++[a]) _ h' tk (Step.grow e k) ((R.ext k).grow n1 n2 n3 n4 e' hv) (.obj ?_);rw[← R.len];simp
theorem Good.updM {t:Sem Value}{v:AV}{ao:AO}{i:Nat}{a:Addr}(R:Kj Z F φ st s.heap)(hi:φ[i]?=some a)
  (x:∀ Q:Value->Shared->Prop,(∀ h' v' tk,Heap.SameBut a s.heap h'->(∃ o,h'.get? a=some o)->OR F φ h' a ao->VR F φ v v'->Q v' ⟨h',s.gens,s.drawn,tk,s.os⟩) ->
   aA w A t Q aq s) :
  Good Z w A t F φ s v (st.set i ao):=
 λQ h=>x Q λh' v' tk k e e' hv=>h F φ _ h' tk (Step.upd (mem_of_getElem? hi) k e) (R.upd hi k e' e) hv
theorem Kj.seqOf (R:Kj Z F φ st h){v:AV}{xs:List AV}{v':Value}(e:lS st v=some xs)(hv:VR F φ v v') :
  ∃ a arr,v'=.ref a/\(h.IsList a arr\/IsTup h a arr)/\Km F φ xs arr.toList:=
 rQ (P:=λv=>VR F φ v v'->∃ a arr,v'=.ref a/\(h.IsList a arr\/IsTup h a arr)/\Km F φ xs arr.toList) (λhv=>let ⟨a,arr,q,e1,d⟩:=hv.inv;⟨a,arr,q,.inl (e1.isList R.frz),d⟩)
  (λhv=>let ⟨a,arr,_,q,e1,d⟩:=hv.inv;⟨a,arr,q,.inr ⟨_,R.frz _ _ e1,rfl,_,rfl⟩,d⟩) (λ_ e hv=>let ⟨a,q,hi⟩:=hv.inv;let ⟨arr,r,d⟩:=R.list e hi;⟨a,arr,q,.inl (aP r),d⟩) e hv
theorem lY:∀ {l:List Int} {m:Int},nY l=some m->m∈l/\∀ a∈l,m<=a
 |[x],m,e=>KO e▸⟨.head _,λa h=>mem_singleton.mp h▸Int.le_refl _⟩
 |x::y::r,m,e=>by
  refine oM (P:=λm=>m∈x::y::r/\∀ a∈x::y::r,m<=a) e λk e=>?_;refine av (lY e) λh1 h2=>?_;split
  ·rename_i hk;refine⟨.tail _ h1,λa m=>?_⟩
   cases m with
   |head=>first |exact Int.le_of_lt hk |exact Int.le_refl _
   |tail _ m=>exact h2 a m
  ·rename_i hk;refine⟨.head _,λa m=>?_⟩
   cases m with
   |head=>first |exact Int.le_of_lt hk |exact Int.le_refl _
   |tail _ m=>first |exact Int.le_trans (Int.not_lt.mp hk) (h2 a m) |exact Int.le_trans (h2 a m) (Int.not_lt.mp hk)
theorem lZ:∀ {l:List Int} {m:Int},nZ l=some m->m∈l/\∀ a∈l,a<=m
 |[x],m,e=>KO e▸⟨.head _,λa h=>mem_singleton.mp h▸Int.le_refl _⟩
 |x::y::r,m,e=>by
  refine oM (P:=λm=>m∈x::y::r/\∀ a∈x::y::r,a<=m) e λk e=>?_;refine av (lZ e) λh1 h2=>?_;split
  ·rename_i hk;refine⟨.tail _ h1,λa m=>?_⟩
   cases m with
   |head=>first |exact Int.le_of_lt hk |exact Int.le_refl _
   |tail _ m=>exact h2 a m
  ·rename_i hk;refine⟨.head _,λa m=>?_⟩
   cases m with
   |head=>first |exact Int.le_of_lt hk |exact Int.le_refl _
   |tail _ m=>first |exact Int.le_trans (Int.not_lt.mp hk) (h2 a m) |exact Int.le_trans (h2 a m) (Int.not_lt.mp hk)
theorem f7 {arr:Array Value}{l:List Int}(i:IntsAre arr.toList l):∃ xs:Array (Int×Tok),arr=intItems xs/\xs.toList.map (·.1)=l:=by
 have:AllInts arr:=by have:=i.allInts;simpa using this
 refine aw this.items ?_;rintro xs rfl;refine⟨xs,rfl,?_⟩;rw[← nums_intItems,i.numsOf]
theorem uY {vx:Value}{a:Addr}{arr:Array Value}{l:List Int}(R:Kj Z F φ st s.heap)(rm:Ks 1 A)(hl:s.heap.IsList a arr)(i:IntsAre arr.toList l) :
  Good Z w A (call (.builtin "sum") [.ref a]) F φ s (.int l.sum) st:=by
 refine ak (f7 i) ?_;rintro xs rfl e;refine Good.kept R λQ h=>sum_intListG rm.hd hl λh' tk t' k=>h _ _ _ k ?_;rw[preSum_eq,List.take_of_length_le (by simp),e];exact .int _ _
theorem uZ {a:Addr}{arr:Array Value}{l:List Int}{m:Int}(R:Kj Z F φ st s.heap)(rm:Ks 1 A)(hl:s.heap.IsList a arr)(i:IntsAre arr.toList l)(e:nY l=some m) :
  Good Z w A (call (.builtin "min") [.ref a]) F φ s (.int m) st:=by
 refine ak (f7 i) ?_;rintro xs rfl e'
 have LU:0<xs.size:=by
  have:l≠[]:=λz=>absurd (z▸e) bg;have:xs.toList≠[]:=by intro z;rw[z]at e';exact this e'.symm
  rw[← length_toList];exact length_pos_iff.mpr this
 refine Good.kept R λQ h=>min_intList rm.hd hl LU λv h' tk hv k=>h _ _ _ k ?_;refine aw (intItems_at hv) ?_;rintro t rfl;refine av (argBest_lt (numAt xs) (xs.size-1)) λh1 h2=>?_;refine av (lY e) λm1 m2=>?_
 have:numAt xs (argBest (λi j=>decide (numAt xs i<numAt xs j)) (xs.size-1))=m:=by
  have lo:numAt xs (argBest (λi j=>decide (numAt xs i<numAt xs j)) (xs.size-1))∈l:=by
   rw[numAt_eq,e'];refine getD_mem ?_;rw[← e',length_map,length_toList];exact Q2 0x511160111641105111401103 [_,_,_] h1 (sub_add_cancel (Q1 0x411101011041111102 [_] LU rfl)) rfl
  have:=m2 _ lo;refine ak (mem_getD m1) λj hj q=>?_
  have Om:j<xs.size:=by
   rw[← e',length_map,length_toList]at hj;exact hj
  have:=h2 j (by exact Q2 0x611150112611140110541103 [_,_,_] Om (sub_add_cancel (Q1 0x41115011041111102 [_,_] Om rfl)) rfl);rw[numAt_eq xs j,e',q]at this;exact Int.le_antisymm (by assumption) (by assumption)
 rw[this];exact .int _ _
theorem u4 {a:Addr}{arr:Array Value}{l:List Int}{m:Int}(R:Kj Z F φ st s.heap)(rm:Ks 1 A)(hl:s.heap.IsList a arr)(i:IntsAre arr.toList l)(e:nZ l=some m) :
  Good Z w A (call (.builtin "max") [.ref a]) F φ s (.int m) st:=by
 refine ak (f7 i) ?_;rintro xs rfl e'
 have LU:0<xs.size:=by
  have:l≠[]:=λz=>absurd (z▸e) bg;have:xs.toList≠[]:=by intro z;rw[z]at e';exact this e'.symm
  rw[← length_toList];exact length_pos_iff.mpr this
 refine Good.kept R λQ h=>max_intList rm.hd hl LU λv h' tk hv k=>h _ _ _ k ?_;refine aw (intItems_at hv) ?_;rintro t rfl;refine av (argBest_gt (numAt xs) (xs.size-1)) λh1 h2=>?_;refine av (lZ e) λm1 m2=>?_
 have:numAt xs (argBest (λi j=>decide (numAt xs i>numAt xs j)) (xs.size-1))=m:=by
  have lo:numAt xs (argBest (λi j=>decide (numAt xs i>numAt xs j)) (xs.size-1))∈l:=by
   rw[numAt_eq,e'];refine getD_mem ?_;rw[← e',length_map,length_toList];exact Q2 0x511160111641105111401103 [_,_,_] h1 (sub_add_cancel (Q1 0x411101011041111102 [_] LU rfl)) rfl
  have:=m2 _ lo;refine ak (mem_getD m1) λj hj q=>?_
  have Om:j<xs.size:=by
   rw[← e',length_map,length_toList]at hj;exact hj
  have:=h2 j (by exact Q2 0x611150112611140110541103 [_,_,_] Om (sub_add_cancel (Q1 0x41115011041111102 [_,_] Om rfl)) rfl);rw[numAt_eq xs j,e',q]at this;exact Int.le_antisymm (by assumption) (by assumption)
 rw[this];exact .int _ _
theorem mW (i:Int):ofString (toString i)=⟨(bj i).toArray⟩:=by
 rw[Str.ofString_eq_toList];rfl
theorem mX:∀ {xs:List AV} {l:List (List Nat)} {vs:List Value},allStrs xs=some l->Km F φ xs vs->∃ l':List (Str×Tok),vs=strValues l'/\l'.map (·.1)=l.map λx=>⟨x.toArray⟩
 |[],l,vs,e,h=>⟨[],h.inv,KO e▸rfl⟩
 |.str i::xs,l,vs,e,h=>oM (o:=allStrs xs) (g:=(i::·)) (P:=λl=>∃ l':List (Str×Tok),vs=strValues l'/\l'.map (·.1)=l.map λx=>⟨x.toArray⟩) e λl2 e=>by
   refine cP h.inv ?_;rintro v ws rfl a b;refine ak (mX e b) λr e1 e2=>?_;refine aw a.inv ?_;rintro t rfl;exact⟨(_,t)::r,by rw[e1];rfl,by rw[map_cons,e2];rfl⟩
 |.none::_,_,_,e,_=>absurd e bg
 |.bool _::_,_,_,e,_=>absurd e bg
 |.int _::_,_,_,e,_=>absurd e bg
 |.tup _::_,_,_,e,_=>absurd e bg
 |.lst _::_,_,_,e,_=>absurd e bg
 |.rng ..::_,_,_,e,_=>absurd e bg
 |.fn _::_,_,_,e,_=>absurd e bg
 |.rx _::_,_,_,e,_=>absurd e bg
 |.obj _::_,_,_,e,_=>absurd e bg
theorem tv {l:Addr}{items:Array Value}{Q E:Value->Shared->Prop}(hl:s.heap.IsList l items)
  (h:Q (.ref s.heap.objs.size) { s with heap:=s.heap.push { cls:=.type "list_iterator",data:=.fields #[.ref l,.int 0 0] } }) :
  aA w A (call (.builtin "iter") [.ref l]) Q E s:=by
 refine call_function_entry (by decide +kernel) (by decide +kernel) kdk_entry_iter (kdk_args_iter _) ?_;unfold Builtin.«iter»;refine wpAny_bind (m:=someArgs "iter" 1 2 _) (wpAny_of_eq (a:=[Value.ref l]) (by first |rfl |kernel_rfl!) ?_);show wpAny _ _ (pyIter (.ref l)>>=_) _ _ _;refine wpAny_bind (wpAny_pyIter_list hl ?_);exact wpAny_pure ⟨_,rfl,h⟩
theorem ty {it l:Addr}{i:Nat}{items:Array Value}{x:Value}{Q E:Value->Shared->Prop}(gW:s.heap.IsListIter it l i)(hl:s.heap.IsList l items)(hx:items[i]?=some x)
  (hQ:∀ h',h'.IsListIter it l (i+1)->Heap.SameBut it s.heap h'->Q x { s with heap:=h' }) :
  aA w A (call (.builtin "next") [.ref it]) Q E s:=by
 refine cU (id gW) λo ho hc hd=>?_;obtain⟨ol,hol,_,nl,hdl⟩:=hl;refine call_function_entry (by decide +kernel) (by decide +kernel) kdk_entry_next (kdk_args_next _) ?_;unfold Builtin.«next»;refine wpAny_bind (m:=someArgs "next" 1 2 _) (wpAny_of_eq (a:=[Value.ref it]) (by first |rfl |kernel_rfl!) ?_);dsimp only;refine wpAny_bind (wpAny_specialOf (name:=ofString "__next__") gW.typeIs slot_listiter_next.lookup ?_);refine wpAny_ite_split (λhab=>absurd hab (by decide)) (λ_=>?_)
 refine wpAny_bind (wpAny_callSpecial?_slot (name:=ofString "__next__") gW.typeIs slot_listiter_next
  (wpAny_call_entry slot_listiter_next gW.typeIs entry_listiter_next ?_ (args_listiter_next _)))
 show wpAny _ _ (field (.ref it) 0>>=_) _ _ s;refine wpAny_bind (wpAny_field ho hd (x:=.ref l) rfl ?_);show wpAny _ _ (if (Value.ref l==Value.none)=true then _ else _) _ _ s;rw[if_neg (show ¬ ((Value.ref l==Value.none)=true) from Ly)];show wpAny _ _ (field (.ref it) 1>>=_) _ _ s;refine wpAny_bind (wpAny_field ho hd (x:=.int i 0) rfl ?_);show wpAny _ _ (seqItems? (.ref l)>>=_) _ _ s;refine wpAny_bind (wpAny_seqItems hol hdl ?_);simp only[toNat_natCast,hx];refine wpAny_bind (wpAny_setField ho hd (by simp) (wpAny_pure ⟨x,rfl,wpAny_pure ⟨_,rfl,hQ _ ?_ (Heap.SameBut.update ..)⟩⟩))
 exact⟨_,Heap.get?_update_self _ ho (Obj.isFreed_of_fields (Obj.data_mapFields hd _)),(Obj.cls_mapFields ..).trans hc,by
  rw[Obj.data_mapFields hd];simp[rawInt]⟩
noncomputable def Hc:Bi->Value
 |.len=>.builtin "len"
 |.range1=>.type "range"
 |.range2=>.type "range"
 |.sum=>.builtin "sum"
 |.min=>.builtin "min"
 |.max=>.builtin "max"
 |.hex=>.builtin "hex"
 |.chr=>.builtin "chr"
 |.ord=>.builtin "ord"
 |.str=>.type "str"
 |.divmod=>.builtin "divmod"
 |.tuple=>.type "tuple"
 |.next=>.builtin "next"
 |.iter=>.builtin "iter"
theorem u5 {vx:Value}{xs:List AV}{x:AV}{v:AV}{Kd:St}(R:Kj Z F φ st s.heap)(hv:VR F φ x vx)(q:lS st x=some xs)(e:(if xs.length<=2^24 then some (AV.int xs.length,st) else none)=some (v,Kd)) :
  Good Z w A (call (.builtin "len") [vx]) F φ s v Kd:=by
 refine oI e λhs e=>oP e ?_;refine cP (R.seqOf q hv) ?_;rintro a arr rfl hl d;rw[d.size];have hs:arr.size<=2^24:=d.size▸hs;rcases hl with hl |hl
 ·exact Good.val R λQ h=>call_len_list hl (by exact zM) (h _ _ (.int _ _))
 ·exact Good.val R λQ h=>PyProof.Rows.len_tuple hl (by exact zM) (h _ _ (.int _ _))
theorem qr {vx:Value}{xs:List AV}{x:AV}{v:AV}{Kd:St}(R:Kj Z F φ st s.heap)(hv:VR F φ x vx)(q:cN st x=some xs)(e:(if xs.length<=2^20 then some (AV.tup xs,st) else none)=some (v,Kd)) :
  Good Z w A (call (.type "tuple") [vx]) F φ s v Kd:=by
 refine oI e λhs e=>oP e ?_;refine cP (R.lstOf q hv) ?_;rintro a arr rfl hl d;refine Good.made R λQ h=>call_tuple_list (aP hl) (λh' k=>?_) (by rw[sizeLine_eq,← d.size];exact bN)
 have hn:s.heap.get? h'.objs.size=none:=by
  cases z:s.heap.get? h'.objs.size with
  |none=>rfl
  |some o=>exact absurd (lt_size (k _ _ z)) (lt_irrefl _)
 exact h _ _ _ _ (λb o e=>aC _ _ (k b o e)) hn (get?_push_size _ rfl) (.tup bP (d.mono (cV (R.absent hn).1) (prefix_refl _)))
theorem tz {a:Addr}{x:AV}{i:Nat}{xs:List AV}(R:Kj Z F φ st s.heap)(hi:φ[i]?=some a)(q:st[i]?=some (.iter (x::xs))) :
  Good Z w A (call (.builtin "next") [.ref a]) F φ s x (st.set i (.iter xs)):=by
 refine j7 (R.obj _ _ _ hi q) λl i arr gW hl d=>?_;refine cP d.inv λy r z hy hr=>?_
 have hy':arr[i]?=some y:=by
  have:=congrArg List.head? z;rw[List.head?_drop]at this;simpa using this
 refine Good.updM R hi λQ h=>ty gW (hl.isList R.frz) hy' λh' k1 k2=>h _ _ _ k2 (let ⟨o,e,_⟩:=k1;⟨o,e⟩) ⟨l,i+1,arr,k1,hl,?_⟩ hy
 have:arr.toList.drop (i+1)=r:=by
  rw[← List.drop_drop,z];rfl
 rw[this];exact hr
theorem Ba {o:Option AO}{f:AV->List AV->Option (AV×St)}{r:AV×St}{P:Prop}(e:(match o with
 |some (.iter (x::xs))=>f x xs
 |_=>none)=some r) (k:∀ x xs,o=some (.iter (x::xs))->f x xs=some r->P):P:=by
 cases o with
 |none=>exact absurd e bg
 |some a=>cases a with
  |iter xs=>cases xs with
   |nil=>exact absurd e bg
   |cons x xs=>exact k x xs rfl e
  |_=>exact absurd e bg
theorem iQ {x:AV}{vx:Value}{t:Value->Sem Value}{v:AV}{Kd:St}{f:List Int->Option (AV×St)}(R:Kj Z F φ st s.heap)(hv:VR F φ x vx)(e:rP st x f=some (v,Kd))
  (k:∀ a arr l,s.heap.IsList a arr->IntsAre arr.toList l->f l=some (v,Kd)->Good Z w A (t (.ref a)) F φ s v Kd):Good Z w A (t vx) F φ s v Kd:=
 oV e λxs q e=>oN e λl q2 e=>by
  refine cP (R.lstOf q hv) ?_;rintro a arr rfl hl d;exact k a arr l (aP hl) (Km.intsAre q2 d) e
theorem du {b:Value}{xs:List AV}{vs:List Value}{v:AV}{Kd:St}{f:AV->Option (AV×St)}(hx:Km F φ xs vs)(k:∀ x vx,VR F φ x vx->f x=some (v,Kd)->Good Z w A (call b [vx]) F φ s v Kd)(e:iO xs f=some (v,Kd)) :
  Good Z w A (call b vs) F φ s v Kd:=j9 (P:=λxs=>Km F φ xs vs->Good Z w A (call b vs) F φ s v Kd) (λx e=>Km.oneR (Q:=λvs=>Good Z w A (call b vs) F φ s v Kd) λvx hv=>k x vx hv e) e hx
theorem gA {b:Value}{xs:List AV}{vs:List Value}{v:AV}{Kd:St}{c:Int->Prop}[d:∀ i,Decidable (c i)]{g:Int->AV}(hx:Km F φ xs vs)(k:∀ i t,c i->Good Z w A (call b [.int i t]) F φ s (g i) st)
  (e:(iO xs λx=>ar x λi=>if c i then some (g i,st) else none)=some (v,Kd)):Good Z w A (call b vs) F φ s v Kd:=
 du hx (λx vx hv e=>cu (P:=λvx=>Good Z w A (call b [vx]) F φ s v Kd) hv e λi t e=>oI e λhc e=>oP e (k i t hc)) e
theorem twoI_good {b:Value}{xs:List AV}{vs:List Value}{v:AV}{Kd:St}{c:Int->Int->Prop}[d:∀ i j,Decidable (c i j)]{g:Int->Int->AV}(hx:Km F φ xs vs)(k:∀ i j t u,c i j->Good Z w A (call b [.int i t,.int j u]) F φ s (g i j) st)
  (e:(two xs λx y=>ar x λi=>ar y λj=>if c i j then some (g i j,st) else none)=some (v,Kd)):Good Z w A (call b vs) F φ s v Kd:=
 two_r (P:=λxs=>Km F φ xs vs->Good Z w A (call b vs) F φ s v Kd) (λx y e=>Km.twoR (Q:=λvs=>Good Z w A (call b vs) F φ s v Kd) λvx vy hv hy=>
  cu (P:=λvx=>Good Z w A (call b [vx,vy]) F φ s v Kd) hv e λi t e=>cu (P:=λvy=>Good Z w A (call b [.int i t,vy]) F φ s v Kd) hy e λj u e=>oI e λhc e=>oP e (k i j t u hc)) e hx
theorem u6 (n:Int):(lE n).length=(baseText "0x" 16 n).length:=by unfold lE Str.length;simp
theorem log2_small {n:Int}(hn:n.natAbs<10^10):n.natAbs.log2<40:=by
 by_cases z:n.natAbs=0
 ·rw[z];decide
 ·rw[log2_lt z];exact lt_trans hn (by decide +kernel)
theorem u7 {b:Bi}{xs:List AV}{v:AV}{Kd:St}{vs:List Value}(e:gy st b xs=some (v,Kd))(R:Kj Z F φ st s.heap)(rm:Ks 1 A)(hx:Km F φ xs vs) :
  Good Z w A (call (Hc b) vs) F φ s v Kd:=
 match b,e with
 |.len,e=>du hx (λx vx hv e=>ka (P:=λvx=>Good Z w A (call (.builtin "len") [vx]) F φ s v Kd) hv e
   (λl t e=>oI e λhc e=>oP e (Good.val R λQ h=>P.len_str (by simp[Str.length];exact yl) (h _ _ (by simp[Str.length];exact .int _ _)))) λe=>oV e λxs q e=>u5 R hv q e) e
 |.range1,e=>gA hx (λi t hc=>Good.made R λQ h=>call_range_1 (h _ _ _ _ aC (cD _) (get?_push_size _ rfl) (.rng bP))) e
 |.range2,e=>twoI_good hx (λi j t u hc=>Good.made R λQ h=>call_range_2 (h _ _ _ _ aC (cD _) (get?_push_size _ rfl) (.rng bP))) e
 |.sum,e=>du hx (λx vx hv e=>iQ (t:=λvx=>call (.builtin "sum") [vx]) R hv e λa arr l hl i e=>oP e (uY (vx:=.none) R rm hl i)) e
 |.min,e=>du hx (λx vx hv e=>iQ (t:=λvx=>call (.builtin "min") [vx]) R hv e λa arr l hl i e=>xZ e λm e=>uZ R rm hl i e) e
 |.max,e=>du hx (λx vx hv e=>iQ (t:=λvx=>call (.builtin "max") [vx]) R hv e λa arr l hl i e=>xZ e λm e=>u4 R rm hl i e) e
 |.hex,e=>gA hx (λi t hc=>Good.val R λQ h=>P.hex_of_int (h _ _ (.str _ _)) (by rw[sizeLine_eq,← u6];exact bN)) e
 |.chr,e=>gA hx (λi t hc=>Good.val R λQ h=>chr_of_range hc.1 (by lia) (h _ _ (.str [_] _))) e
 |.ord,e=>du hx (λx vx hv e=>hG (P:=λvx=>Good Z w A (call (.builtin "ord") [vx]) F φ s v Kd) hv e λl t e=>j9 (P:=λl=>Good Z w A (call (.builtin "ord") [.str ⟨l.toArray⟩ t]) F φ s v Kd)
   (λc e=>oP e (Good.val R λQ h=>P.ord_of_char (h _ _ (.int _ _)))) e) e
 |.str,e=>gA hx (λi t hc=>Good.val R λQ h=>P.str_of_int (lt_trans (log2_small hc) (by decide)) (by rw[mW];exact h _ _ (.str _ _))) e
 |.divmod,e=>twoI_good hx (λi j t u hc=>Good.made R λQ h=>divmod_int hc.1 (h _ _ _ _ aC (cD _) (get?_push_size _ rfl) (.tup bP (.cons (.int _ _) (.cons (.int _ _) .nil)))) (.inl hc.2)) e
 |.tuple,e=>du hx (λx vx hv e=>oV e λxs q e=>qr R hv q e) e
 |.iter,e=>du hx (λx vx hv e=>rN (P:=λvx=>Good Z w A (call (.builtin "iter") [vx]) F φ s v Kd) hv e λxs a arr e e1 d=>oP e (Good.madeM (ao:=.iter xs) R λQ h=>tv (e1.isList R.frz)
   (h _ _ _ _ aC (cD _) (get?_push_size _ rfl) ⟨_,0,_,⟨_,get?_push_size _ rfl,rfl,rfl⟩,e1,d.mono (K7.refl F) (prefix_append _ _)⟩))) e
 |.next,e=>du hx (λx vx hv e=>ji (P:=λvx=>Good Z w A (call (.builtin "next") [vx]) F φ s v Kd) hv e λi a e hi=>Ba e λy ys q e=>oP e (tz R hi q)) e
theorem tA:∀ c,c<128->Unicode.lowerOf c=[qj c]:=by decide +kernel
theorem u8:∀ c,c<128->Unicode.upperOf c=[ya c]:=by decide +kernel
theorem placed_map {l:List Nat}{f:Nat->Nat->List Nat}{g:Nat->Nat}(h:∀ i c,l[i]?=some c->f i c=[g c]):placed ⟨l.toArray⟩ f=(l.map g).toArray:=by
 unfold placed
 have:(l.toArray.mapIdx λi c=>(f i c).toArray)=(l.map λc=>#[g c]).toArray:=by
  apply Array.ext
  ·simp
  ·intro i h1 h2;simp only[Array.getElem_mapIdx,List.getElem_toArray,List.getElem_map];rw[h i _ (by simp)]
 rw[this];apply Array.ext';simp only[Array.toList_flatten]
 have:∀ l:List Nat,(List.map Array.toList (List.map (λc=>#[g c]) l)).flatten=l.map g:=by
  intro l
  induction l with
  |nil=>rfl
  |cons c r ih=>simp only[map_cons,List.flatten_cons,ih];rfl
 exact this l
theorem tB {l:List Nat}(h:eT l=true):Txt.lower ⟨l.toArray⟩=⟨(l.map qj).toArray⟩:=by
 unfold Txt.lower;rw[placed_map (g:=qj)];intro i c e
 have hc:c<128:=by
  have:=all_eq_true.mp h c (mem_of_getElem? e);simpa using this
 unfold Unicode.lowerAt;simp only[List.getElem?_toArray,e];rw[if_neg,tA c hc];simp;lia
theorem tC {l:List Nat}(h:eT l=true):Txt.upper ⟨l.toArray⟩=⟨(l.map ya).toArray⟩:=by
 unfold Txt.upper;rw[placed_map (g:=ya)];intro i c e
 have hc:c<128:=by
  have:=all_eq_true.mp h c (mem_of_getElem? e);simpa using this
 exact u8 c hc
theorem og (sep:List Nat):∀ l:List (List Nat),Str.join ⟨sep.toArray⟩ (l.map λx=>⟨x.toArray⟩)=⟨(eU sep l).toArray⟩
 |[]=>rfl
 |[x]=>rfl
 |x::y::r=>by
  show Str.mk _++_++Str.join _ (List.map _ (y::r))=_;rw[og sep (y::r)];show Str.mk (x.toArray++sep.toArray++(eU sep (y::r)).toArray)=Str.mk (x++sep++eU sep (y::r)).toArray;congr 1;simp
theorem joinOk_of {sep:List Nat}{l:List (List Nat)}(h:(l.map List.length).sum+l.length*sep.length<=1000000):JoinOk ⟨sep.toArray⟩ (l.map λx=>⟨x.toArray⟩)=true:=by
 unfold JoinOk Builtin.Str.tooLong;rw[StrLaws.joinTotal]
 have e1:(List.map (λx:Str=>x.length) (l.map λx=>(⟨x.toArray⟩:Str)))=l.map List.length:=by
  rw[map_map];apply map_congr_left;intro x _;simp[Str.length]
 have e2:(⟨sep.toArray⟩:Str).length=sep.length:=by simp[Str.length]
 rw[sizeLine_eq];simp only[e2,length_map];rw[show(l.map λx=>(⟨x.toArray⟩:Str)).map (·.length)=l.map List.length from e1];simp;exact bN
noncomputable def km:Sm->Str
 |.lower=>ofString "lower"
 |.upper=>ofString "upper"
 |.join=>ofString "join"
 |.bitlen=>ofString "bit_length"
 |.count=>ofString "count"
 |.index=>ofString "index"
 |.append=>ofString "append"
 |.reverse=>ofString "reverse"
 |.search=>ofString "search"
noncomputable def Ky (Z:Kz)(F:bf)(φ:List Addr)(s:Shared)(v:AV)(Kd:St)(Q:Value->Shared->Prop):Prop:=
 ∀ F' Kn v' h' tk,Step F φ [] s.heap F' Kn h'->Kj Z F' Kn Kd h'->VR F' Kn v v'->Q v' ⟨h',s.gens,s.drawn,tk,s.os⟩
theorem oh {l r:List Nat}{v:AV}{Kd:St}{vx:Value}{Q:Value->Shared->Prop}{m:Str}{g:Str->Str}(R:Kj Z F φ st s.heap)(hQ:Ky Z F φ s v Kd Q)(e:(if eT l&&decide (l.length<=1000000) then some (AV.str r,st) else none)=some (v,Kd))
  (hr:r.length=l.length) (ht:eT l=true->g ⟨l.toArray⟩=⟨r.toArray⟩) (k:Builtin.Str.tooLong (g ⟨l.toArray⟩).length=false->(∀ t tk,Q (.str (g ⟨l.toArray⟩) t) { s with toks:=tk })->MethodOnS aM w A aq m vx pos [] Q s):MethodOnS aM w A aq m vx pos [] Q s:=by
 refine oI e λc e=>?_;refine av ((and_eq_true _ _).mp c) λc1 c2=>?_;refine k ?_ λt tk=>?_
 ·rw[ht c1];unfold Builtin.Str.tooLong Str.length;rw[size_toArray,hr];exact decide_eq_false (not_lt_of_le (Ge (of_decide_eq_true c2)))
 ·rw[ht c1];exact oP (P:=λv Kd=>Ky Z F φ s v Kd Q->Q _ _) e (λhQ=>hQ F φ _ _ _ (Step.refl ..) R (.str _ _)) hQ
theorem tD {m:Sm}{x:AV}{v:AV}{Kd:St}{vx:Value}{Q:Value->Shared->Prop}(e:jC st m x []=some (v,Kd))(R:Kj Z F φ st s.heap)(hx:VR F φ x vx)
  (hQ:Ky Z F φ s v Kd Q):MethodOnS aM w A aq (km m) vx pos [] Q s:=
 match m,e with
 |.lower,e=>hG (P:=λvx=>MethodOnS aM w A aq (km .lower) vx pos [] Q s) hx e λl t e=>oh (g:=Txt.lower) R hQ e (length_map ..) tB λh1 h2=>SB.lower h1 (h2 _ _)
 |.upper,e=>hG (P:=λvx=>MethodOnS aM w A aq (km .upper) vx pos [] Q s) hx e λl t e=>oh (g:=Txt.upper) R hQ e (length_map ..) tC λh1 h2=>SB.upper h1 (h2 _ _)
 |.bitlen,e=>cu (P:=λvx=>MethodOnS aM w A aq (km .bitlen) vx pos [] Q s) hx e λi t e=>⟨"int",_,PySem.F.plainAttrs_int,PyProof.Rows.slot_int_bit_length,PyProof.Rows.type_int_bit_length,typeIs_int _ _ _,(λ_ e=>nomatch e),
   method0_meets PyProof.Rows.slot_int_bit_length PyProof.Rows.entry_int_bit_length (typeIs_int _ _ _) (PyProof.Rows.args_int_bit_length _) (AutoIntG2.int_bit_length_int_0 _ _).meets
    (oP (P:=λv Kd=>Ky Z F φ s v Kd Q->Q _ _) e (λhQ=>hQ F φ _ _ _ (Step.refl ..) R (.int _ _)) hQ)⟩
 |.reverse,e=>ji (P:=λvx=>MethodOnS aM w A aq (km .reverse) vx pos [] Q s) hx e λi a e hi=>oV e λxs q e=>oI e λc e=>by
   refine ak (R.list q hi) ?_;rintro arr ⟨n,g⟩ d
   refine⟨"list",_,plainAttrs_list,PySem.F.slot_list_reverse,PySem.F.type_list_reverse,⟨_,g,rfl⟩,(λ_ e=>by cases e;exact⟨_,g,rfl⟩),
    method0_meets PySem.F.slot_list_reverse PySem.F.entry_list_reverse ⟨_,g,rfl⟩ (PySem.F.args_list_reverse_1 _) (AutoListH.list_reverse_list_0 _ arr n (d.size▸Ge c)) ⟨g,?_⟩⟩
   have k:=Heap.SameBut.update (h:=s.heap) a (Obj.mapSeq λx=>x.reverse)
   have g':∃ n',(s.heap.update a (Obj.mapSeq λx=>x.reverse)).get? a=some { cls:=.type "list",data:=.seq arr.reverse n' }:=
    ⟨_,Heap.get?_update_self _ g (by simp[Obj.mapSeq];rfl)⟩
   refine aw g' ?_;clear g';intro n' g';refine oP (P:=λv Kd=>Ky Z F φ s v Kd Q->Q _ _) e (λhQ=>hQ F φ _ _ _ (Step.upd (mem_of_getElem? hi) k ⟨_,g'⟩) (R.upd hi k ⟨_,⟨n',g'⟩,?_⟩ ⟨_,g'⟩) .none) hQ;rw[Array.toList_reverse];exact d.reverse
 |.join,e=>absurd e bg
 |.count,e=>absurd e bg
 |.index,e=>absurd e bg
 |.append,e=>absurd e bg
 |.search,e=>absurd e bg
theorem Good.post {t:Sem Value}{v:AV}{Kd:St}{Q:Value->Shared->Prop}(g:Good Z w A t F φ s v Kd)(h:Ky Z F φ s v Kd Q):aA w A t Q aq s:=g Q h
theorem Step.list {F F':bf}{φ Kn own:List Addr}{h h':Heap}(x:Step F φ own h F' Kn h'){i:Nat}{a:Addr}(e:φ[i]?=some a):Kn[i]?=some a:=eR x.pre e
theorem mY {l:List (List Nat)}{x:List Nat}{j:Nat}(h:l.findIdx? (·==x)=some j):l[j]?=some x/\∀ m,m<j->∀ y,l[m]?=some y->y≠x:=by
 rw[List.findIdx?_eq_some_iff_getElem]at h;refine ak h ?_;clear h;intro hj e hn;refine⟨?_,λm hm y e'=>?_⟩
 ·rw[getElem?_eq_getElem hj];congr;exact eq_of_beq e
 ·have hm':m<l.length:=lt_trans hm hj;rw[getElem?_eq_getElem hm']at e';cases e';intro z;exact hn m hm (by simp[z])
noncomputable def He (x:Str):Value->Bool
 |.str y _=>y==x
 |_=>false
theorem ko {a:Addr}{MJ:Array Value}{n0:Nat}{y v:AV}{Ke Kd:St}{f:Int->Option (AV×St)}{t:Sem Value}{Q:Value->Shared->Prop}(g1:s.heap.get? a=some { cls:=.type "list",data:=.seq MJ n0 })(g:Good Z w A t F φ s y Ke)
  (e:ar y f=some (v,Kd)) (hQ:Ky Z F φ s v Kd Q)
  (k:∀ F1 Kg h1 (tk:Nat) i,Step F φ [] s.heap F1 Kg h1->Kj Z F1 Kg Ke h1->f i=some (v,Kd)->∃ arr n l,h1.get? a=some { cls:=.type "list",data:=.seq arr n }/\IntsAre arr.toList l/\v=.int (l.count i)/\Kd=Ke):MethodOnS aM w A aq (km .count) (.ref a) pos [(false,t)] Q s:=by
 refine⟨"list",_,plainAttrs_list,PySem.F.slot_list_count,PySem.F.type_list_count,⟨_,g1,rfl⟩,(λ_ e=>by cases e;exact⟨_,g1,rfl⟩),
  method1_meets PySem.F.slot_list_count PySem.F.entry_list_count (g.post λF1 Kg y' h1 tk S1 R1 hy=>?_)⟩
 refine dc (A7 hy e) ?_;rintro i t rfl e;refine mN (k F1 Kg h1 tk i S1 R1 e) ?_;rintro arr n l g2 iA rfl rfl;refine⟨⟨_,g2,rfl⟩,PySem.F.args_list_count_2 _ _,_,list_countAt a arr n none #[] _ (isInt i),g2,λy hy=>(eq_isInt i t iA y (by simpa using hy)).at _ _,?_⟩;rw[countP_isInt i iA];exact hQ F1 Kg _ _ _ S1 R1 (.int _ _)
theorem yz {arr:Array Value}{l':List (Str×Tok)}(r1:arr.toList=strValues l')(k:Nat):arr[k]?=(l'[k]?).map λ(p:Str×Tok)=>Value.str p.1 p.2:=by
 have z:=congrArg (λl=>l[k]?) r1;simp only[Array.getElem?_toList]at z;rw[z];unfold strValues;rw[getElem?_map]
theorem Bb {l:List (List Nat)}{l':List (Str×Tok)}(r2:l'.map (·.1)=l.map λx=>(⟨x.toArray⟩:Str)){k:Nat}{p:Str×Tok}(z:l'[k]?=some p):∃ y,l[k]?=some y/\p.1=⟨y.toArray⟩:=by
 have:(l'.map (·.1))[k]?=(l.map λx=>(⟨x.toArray⟩:Str))[k]?:=congrArg (λl=>l[k]?) r2;rw[getElem?_map,getElem?_map,z]at this
 cases z2:l[k]? with
 |none=>rw[z2]at this;cases this
 |some y=>rw[z2]at this;exact⟨y,rfl,KO this⟩
theorem qt {arr:Array Value}{l:List (List Nat)}{l':List (Str×Tok)}(r1:arr.toList=strValues l')(r2:l'.map (·.1)=l.map λx=>(⟨x.toArray⟩:Str)){k:Nat}(hk:k<arr.size):∃ y t,l[k]?=some y/\arr[k]=.str ⟨y.toArray⟩ t:=by
 have:=yz r1 k;rw[Array.getElem?_eq_getElem hk]at this
 cases z:l'[k]? with
 |none=>rw[z]at this;cases this
 |some p=>
  rw[z]at this;refine ak (Bb r2 z) λy y1 y2=>?_;exact⟨y,p.2,y1,(KO this).trans (congrArg (λz=>Value.str z p.2) y2)⟩
theorem qu {arr:Array Value}{l:List (List Nat)}{l':List (Str×Tok)}{x:List Nat}{j:Nat}(r1:arr.toList=strValues l')(r2:l'.map (·.1)=l.map λx=>(⟨x.toArray⟩:Str))(q3:l.findIdx? (·==x)=some j) :
  ∃ O5:j<arr.size,He ⟨x.toArray⟩ arr[j]=true/\∀ m (hm:m<arr.size),m<j->He ⟨x.toArray⟩ arr[m]=false:=by
 refine av (mY q3) λf1 f2=>?_
 have LU:arr.size=l.length:=by
  have:=congrArg List.length r1;rw[length_toList]at this;have:=congrArg List.length r2;simp[strValues]at *;lia
 have O5:j<arr.size:=by rw[LU];exact(List.getElem?_eq_some_iff.mp f1).1
 refine⟨O5,?_,λm hm hmj=>?_⟩
 ·refine dc (qt r1 r2 O5) λy t y1 y2=>?_;rw[f1]at y1;rw[y2,← KO y1];exact beq_self_eq_true (⟨x.toArray⟩:Str)
 ·refine dc (qt r1 r2 hm) λy t y1 y2=>?_;rw[y2];have ne:=f2 m hmj y y1;show((⟨y.toArray⟩:Str)==⟨x.toArray⟩)=false;simpa using ne
theorem qv {xs:List AV}{y v:AV}{Ke Kd:St}{a:Addr}{arr:Array Value}{t:Sem Value}{Q:Value->Shared->Prop}(R:Kj Z F φ st s.heap)(e1:Lf F a arr)(d:Km F φ xs arr.toList)
  (e:(onStr y λx=>match allStrs xs with
   |some l=>match l.findIdx? (·==x) with
    |some j=>if j<1000000 then some (AV.int j,Ke) else none
    |none=>none
   |none=>none)=some (v,Kd))
  (g:Good Z w A t F φ s y Ke) (hQ:Ky Z F φ s v Kd Q):MethodOnS aM w A aq (km .index) (.ref a) pos [(false,t)] Q s:=by
 refine aw (e1.plain R.frz) λn g1=>?_
 refine⟨"list",_,plainAttrs_list,PySem.F.slot_list_index,PySem.F.type_list_index,⟨_,g1,rfl⟩,(λ_ e=>by cases e;exact⟨_,g1,rfl⟩),
  method1_meets PySem.F.slot_list_index PySem.F.entry_list_index (g.post λF1 Kg y' h1 tk S1 R1 hy=>?_)⟩
 refine dc (uS hy e) ?_;rintro x t rfl e;refine oW e λl q2 e=>?_
 cases q3:l.findIdx? (·==x) with
 |none=>rw[q3]at e;exact absurd e bg
 |some j=>
 rw[q3]at e;refine oI e λhj e=>?_;refine aw ((e1.mono S1.le).plain R1.frz) λn g2=>?_;refine ak (mX q2 (d.mono S1.le S1.pre)) λl' r1 r2=>?_;refine ak (qu r1 r2 q3) λO5 i1 i2=>?_;refine⟨⟨_,g2,rfl⟩,PySem.F.args_list_index_2 _ _,_,list_indexAt a arr n none #[] _ (He ⟨x.toArray⟩) j O5 (by lia) i1 i2,g2,λy hy=>?_,?_⟩
 ·obtain⟨k,hk,rfl⟩:=Array.mem_iff_getElem.mp hy;refine dc (qt r1 r2 hk) λy t _ y2=>?_;rw[y2];exact EqAt.str_str _ _ _ _
 ·exact oP (P:=λv Kd=>Ky Z F φ s v Kd Q->Q _ _) e (λhQ=>hQ F1 Kg _ _ _ S1 R1 (.int _ _)) hQ
theorem oi {i:Nat}{y v:AV}{Ke Kd:St}{a:Addr}{t:Sem Value}{Q:Value->Shared->Prop}(p:jl st (.obj i)=true)(R:Kj Z F φ st s.heap)(hi:φ[i]?=some a)
  (e:(match listAt Ke i with
   |some xs=>if xs.length<1000000 then some (AV.none,Ke.set i (.list (xs++[y]))) else none
   |none=>none)=some (v,Kd))
  (g:Good Z w A t F φ s y Ke) (hQ:Ky Z F φ s v Kd Q):MethodOnS aM w A aq (km .append) (.ref a) pos [(false,t)] Q s:=by
 refine aw (isSome_iff_exists.mp p) λys p'=>?_;refine ak (R.list p' hi) ?_;rintro MJ ⟨n,g1⟩ d0;refine⟨"list",_,plainAttrs_list,PySem.F.slot_list_append,PySem.F.type_list_append,⟨_,g1,rfl⟩,(λ_ e=>by cases e;exact⟨_,g1,rfl⟩),?_⟩;refine Calls.callWith_builtin rfl (Calls.evalArgs_plain (Calls.spliced_cons (g.post λF1 Kg y' h1 tk S1 R1 hy=>Calls.spliced_nil ?_)));refine oV e λxs q1 e=>oI e λhs e=>?_;refine ak (R1.list q1 (S1.list hi)) λarr hl d=>?_;have LU:=d.size;refine wpAny_list_append_plain hl (λh2 MB k2=>?_) (by rw[sizeLine_eq];exact Q2 0x45112f4240511115011010000007141103 [_,_] hs LU rfl);have ex:∃ o,h2.get? a=some o:=let ⟨n,z⟩:=MB;⟨_,z⟩;refine oP (P:=λv Kd=>Ky Z F φ s v Kd Q->Q _ _) e (λhQ=>hQ F1 Kg _ _ _ (S1.trans (Step.upd (mem_of_getElem? (S1.list hi)) k2 ex)) (R1.upd (S1.list hi) k2 ⟨_,MB,?_⟩ ex) .none) hQ;rw[Array.toList_push];exact d.snoc hy
theorem tE {l:List Nat}{y v:AV}{Ke Kd:St}{tx:Tok}{t:Sem Value}{Q:Value->Shared->Prop}
  (e:(match cN Ke y with
   |some xs=>match allStrs xs with
    |some r=>if (r.map List.length).sum+r.length*l.length<=1000000 then some (AV.str (eU l r),Ke) else none
    |none=>none
   |none=>none)=some (v,Kd))
  (g:Good Z w A t F φ s y Ke) (hQ:Ky Z F φ s v Kd Q):MethodOnS aM w A aq (km .join) (.str ⟨l.toArray⟩ tx) pos [(false,t)] Q s:=by
 refine SB.join (g.post λF1 Kg y' h1 tk S1 R1 hy=>?_);refine oV e λxs q1 e=>oW e λr q2 e=>oI e λhc e=>?_;refine cP (R1.lstOf q1 hy) ?_;rintro a arr rfl hl d;refine ak (mX q2 d) λl' e1 e2=>?_;have ea:arr=(strValues l').toArray:=by apply Array.ext';simpa using e1
 subst ea;refine⟨a,l',rfl,aP hl,_,e2,joinOk_of hc,λt' k=>?_⟩;show Q (.str (Builtin.Str.glued _ _) t') _;rw[StrLaws.glued_eq_join,og];exact oP (P:=λv Kd=>Ky Z F φ s v Kd Q->Q _ _) e (λhQ=>hQ F1 Kg _ _ _ S1 R1 (.str _ _)) hQ
theorem oj {b:Bool}{y v:AV}{Ke Kd:St}{t:Sem Value}{Q:Value->Shared->Prop}(R:Kj Z F φ st s.heap)
  (e:(onStr y λx=>if dY b x&&decide (x.length<=1000000) then some (AV.none,Ke) else none)=some (v,Kd))
  (g:Good Z w A t F φ s y Ke) (hQ:Ky Z F φ s v Kd Q):MethodOnS aM w A aq (km .search) (.ref (if b then fj else fk)) pos [(false,t)] Q s:=by
 refine(R.base.rx b).casesOn λfs _ _ _ _ e1 _ _ _ _ _ _=>?_;have g1:=R.frz _ _ e1
 refine⟨"re.Pattern",_,lK,f4,ke,⟨_,g1,rfl⟩,(λ_ e=>by cases e;exact⟨_,g1,rfl⟩),
  method1_meets f4 jH (g.post λF1 Kg y' h1 tk S1 R1 hy=>?_)⟩
 refine dc (uS hy e) ?_;rintro x t rfl e;refine oI e λc e=>?_;refine av ((and_eq_true _ _).mp c) λc1 c2=>?_;refine⟨⟨_,R1.frz _ _ (S1.le _ _ e1),rfl⟩,kg _ _,_,mT x _ c1 (of_decide_eq_true c2) (R1.base.rx b),R1.frz,?_⟩;exact oP (P:=λv Kd=>Ky Z F φ s v Kd Q->Q _ _) e (λhQ=>hQ F1 Kg _ _ tk S1 R1 .none) hQ
theorem yA {o:Option (List AV)}{i:Int}{Ke Kd:St}{v:AV}{P:Prop}(e:(match o with
 |some xs=>match allInts xs with
  |some l=>some (AV.int (l.count i),Ke)
  |none=>none
 |none=>none)=some (v,Kd)) (k:∀ xs l,o=some xs->allInts xs=some l->v=.int (l.count i)->Kd=Ke->P):P:=
 oV e λxs q e=>oN e λl q2 e=>k xs l q q2 (Prod.mk.inj (KO e)).1.symm (Prod.mk.inj (KO e)).2.symm
theorem tG {m:Sm}{x y v:AV}{Ke Kd:St}{vx:Value}{t:Sem Value}{Q:Value->Shared->Prop}(p:jl st x=true)(e:jC Ke m x [y]=some (v,Kd))(R:Kj Z F φ st s.heap)(rm:Ks 1 A)(hx:VR F φ x vx)
  (g:Good Z w A t F φ s y Ke) (hQ:Ky Z F φ s v Kd Q):MethodOnS aM w A aq (km m) vx pos [(false,t)] Q s:=
 match m,e with
 |.join,e=>hG (P:=λvx=>MethodOnS aM w A aq (km .join) vx pos [(false,t)] Q s) hx e λl tx e=>tE e g hQ
 |.count,e=>zQ (P:=λvx=>MethodOnS aM w A aq (km .count) vx pos [(false,t)] Q s) hx e
   (λxs a arr e e1 d=>let ⟨n0,g1⟩:=e1.plain R.frz;ko g1 g e hQ λF1 Kg h1 tk i S1 R1 e=>oN e λl q2 e=>
    let ⟨n,g2⟩:=(e1.mono S1.le).plain R1.frz;⟨arr,n,l,g2,Km.intsAre q2 (d.mono S1.le S1.pre),(Prod.mk.inj (KO e)).1.symm,(Prod.mk.inj (KO e)).2.symm⟩)
   λe=>by
    revert p;refine j8 (P:=λx=>VR F φ x vx->jl st x=true->MethodOnS aM w A aq (km .count) vx pos [(false,t)] Q s) (λi e hx p=>VR.objR (P:=λvx=>MethodOnS aM w A aq (km .count) vx pos [(false,t)] Q s) (λa hi=>?_) hx) e hx;refine aw (isSome_iff_exists.mp p) λys p'=>?_;refine ak (R.list p' hi) ?_;rintro MJ ⟨n0,g1⟩ d0
    exact ko g1 g e hQ λF1 Kg h1 tk j S1 R1 e=>yA e λxs l q1 q2 q3 q4=>
     let ⟨arr,⟨n,g2⟩,d⟩:=R1.list q1 (S1.list hi);⟨arr,n,l,g2,Km.intsAre q2 d,q3,q4⟩
 |.index,e=>rN (P:=λvx=>MethodOnS aM w A aq (km .index) vx pos [(false,t)] Q s) hx e λxs a arr e e1 d=>qv R e1 d e g hQ
 |.append,e=>j8 (P:=λx=>VR F φ x vx->jl st x=true->MethodOnS aM w A aq (km .append) vx pos [(false,t)] Q s) (λi e hx p=>VR.objR (P:=λvx=>MethodOnS aM w A aq (km .append) vx pos [(false,t)] Q s) (λa hi=>oi p R hi e g hQ) hx) e hx p
 |.search,e=>Dx (P:=λvx=>MethodOnS aM w A aq (km .search) vx pos [(false,t)] Q s) hx e λb e=>oj R e g hQ
 |.lower,e=>absurd e bg
 |.upper,e=>absurd e bg
 |.bitlen,e=>absurd e bg
 |.reverse,e=>absurd e bg
section
variable {a:Addr}{o:Obj}
theorem Step.putNew (S:Step F φ own h F' Kn h')(e:h.get? a=none)(n:F' a=none):Step F φ own h (hJ F' a o) Kn h':=
 ⟨S.le.trans (cV n),λx o' q=>by
  unfold hJ at q;by_cases z:x=a
  ·subst z;exact .inr (.inl e)
  ·rw[if_neg z]at q;exact S.fnew x o' q,S.pre,S.pnew,S.dom,S.kept⟩
theorem Step.growNew (S:Step F φ own h F' Kn h')(e:h.get? a=none):Step F φ own h F' (Kn++[a]) h':=
 ⟨S.le,S.fnew,S.pre.trans (prefix_append _ _),λx m=>by
  rcases mem_append.mp m with m |m
  ·exact S.pnew x m
  ·simp at m;subst m;exact .inr e,S.dom,S.kept⟩
end
section
variable (Z:Kz)(w:World)
noncomputable def fU (A:Around)(t:Sem (List Value))(F:bf)(φ:List Addr)(s:Shared)(vs:List AV)(Kd:St):Prop:=
 ∀ Q:List Value->Shared->Prop,(∀ F' Kn Kr h' tk,Step F φ [] s.heap F' Kn h'->Kj Z F' Kn Kd h'->Km F' Kn vs Kr->Q Kr ⟨h',s.gens,s.drawn,tk,s.os⟩) ->
  aA w A t Q aq s
noncomputable def KN (F:bf)(φ:List Addr)(s:Shared)(vs:List AV)(Kd:St)(Q:Value->Shared->Prop):Prop:=
 ∀ F' Kn h' a arr n tk,Step F φ [] s.heap F' Kn h'->Kj Z F' Kn Kd h'->h'.get? a=some { cls:=.type "list",data:=.seq arr n }->s.heap.get? a=none->F' a=none->a∉Kn ->
  Km F' Kn vs arr.toList->Q (.ref a) ⟨h',s.gens,s.drawn,tk,s.os⟩
noncomputable def Kq (A:Around)(t:Sem Value)(F:bf)(φ:List Addr)(s:Shared)(vs:List AV)(Kd:St):Prop:=
 ∀ Q:Value->Shared->Prop,KN Z F φ s vs Kd Q->aA w A t Q aq s
noncomputable def dK (A:Around)(t:Sem Bool)(F:bf)(φ:List Addr)(s:Shared)(b:Bool)(Kd:St):Prop:=
 ∀ Q:Bool->Shared->Prop,(∀ F' Kn h' tk,Step F φ [] s.heap F' Kn h'->Kj Z F' Kn Kd h'->Q b ⟨h',s.gens,s.drawn,tk,s.os⟩) ->
  aA w A t Q aq s
end
theorem Ky.step {v:AV}{Q:Value->Shared->Prop}{F1:bf}{Kg:List Addr}{h1:Heap}{tk:Nat}(hQ:Ky Z F φ s v Kd Q)(S:Step F φ [] s.heap F1 Kg h1) :
  Ky Z F1 Kg ⟨h1,s.gens,s.drawn,tk,s.os⟩ v Kd Q:=λF' Kn v' h' LS S' R' hv=>hQ F' Kn v' h' LS (S.trans S') R' hv
theorem KN.step {v:List AV}{Q:Value->Shared->Prop}{F1:bf}{Kg:List Addr}{h1:Heap}{tk:Nat}(hQ:KN Z F φ s v Kd Q)(S:Step F φ [] s.heap F1 Kg h1) :
  KN Z F1 Kg ⟨h1,s.gens,s.drawn,tk,s.os⟩ v Kd Q:=λF' Kn h' a arr n LS S' R' e e' n1 n2 hv=>hQ F' Kn h' a arr n LS (S.trans S') R' e (by
   cases q:s.heap.get? a with
   |none=>rfl
   |some o=>refine aw (S.dom a o q) λo' z=>?_;rw[show h1.get? a=none from e']at z;cases z) n1 n2 hv
theorem Kq.frozen {t:Sem Value}{vs:List AV}(R0:Kj Z F φ st s.heap)(g:Kq Z w A t F φ s vs Kd):Good Z w A t F φ s (.lst vs) Kd:=
 λQ hQ=>g Q λF' Kn h' a arr n tk S R e e0 n1 n2 hv=>by
  refine gQ (R0.absent e0) λ_ _ n3 n4=>?_;exact hQ _ Kn _ h' tk (S.putNew e0 n1) (R.freeze n1 n2 n3 n4 e) (.lst ⟨n,bP⟩ (hv.mono (cV n1) (prefix_refl _)))
theorem Kq.stored {t:Sem Value}{vs:List AV}(R0:Kj Z F φ st s.heap)(g:Kq Z w A t F φ s vs Kd):Good Z w A t F φ s (.obj Kd.length) (Kd++[.list vs]):=
 λQ hQ=>g Q λF' Kn h' a arr n tk S R e e0 n1 n2 hv=>by
  refine gQ (R0.absent e0) λ_ _ n3 n4=>?_;refine hQ _ (Kn++[a]) _ h' tk (S.growNew e0) (R.grow n1 n2 n3 n4 e ⟨arr,⟨n,e⟩,hv.mono (K7.refl _) (prefix_append _ _)⟩) (.obj ?_);rw[← R.len];simp
theorem KN.push {vs:List AV}{arr:Array Value}{n:Nat}{tk:Nat}{Q:Value->Shared->Prop}(hQ:KN Z F φ s vs st Q)(R:Kj Z F φ st s.heap)(hv:Km F φ vs arr.toList) :
  Q (.ref s.heap.objs.size) ⟨s.heap.push { cls:=.type "list",data:=.seq arr n },s.gens,s.drawn,tk,s.os⟩:=by
 refine gQ R.size_new λn1 n2 n3 n4=>?_;exact hQ F φ _ _ arr n tk (Step.ext aC) (R.ext aC) (get?_push_size _ rfl) (cD _) n1 n2 hv
noncomputable def aB (e:Expr):Bool:=!Nat.beq e.ctorIdx 22
theorem dI {e:Expr}{r:List Expr}(h:aB e=true):starEach (e::r) env=(false,eval e env)::starEach r env:=by
 cases e<;>first |rfl |cases h
theorem bk {e:Expr}{r:List Expr}(h:aB e=true):backTo pos (starEach (e::r) env)=(false,eval e env)::backTo pos (starEach r env):=by
 rw[dI h];rfl
theorem cM:∀ {es:List Expr},es.all aB=true->(backTo pos (starEach es env)).any (·.1)=false:=by
 intro es
 induction es with
 |nil=>
  intro _;exact rfl
 |cons e r ih=>
  intro h;simp only[all_cons,and_eq_true]at h;rw[bk h.1,List.any_cons,ih h.2];rfl
theorem fc {f:Value}{es:List Expr}{vs:List AV}{Q:Args->Shared->Prop}(hs:es.all aB=true)(R:Kj Z F φ st s.heap)
  (h0:es=[]->vs=[]/\Kd=st)
  (g:fU Z w A (spliced (backTo pos (starEach es env))) F φ s vs Kd)
  (hQ:∀ F' Kn Kr h' tk,Step F φ [] s.heap F' Kn h'->Kj Z F' Kn Kd h'->Km F' Kn vs Kr->Q ⟨Kr,[]⟩ ⟨h',s.gens,s.drawn,tk,s.os⟩) :
  aA w A (evalArgs f true (backTo pos (starEach es env)) []) Q aq s:=by
 cases es with
 |nil=>
  refine av (h0 rfl) ?_;rintro rfl rfl;exact evalArgs_nil3 (hQ F φ [] _ _ (Step.refl ..) R .nil)
 |cons e r=>
  simp only[all_cons,and_eq_true]at hs;rw[bk hs.1]at g ⊢;exact Calls.evalArgs_plain (g _ hQ)
theorem jn {f:Value}{first:List Value}{es:List Expr}{vs:List AV}{v:AV}{Ke Kd:St}(hs:es.all aB=true)(R:Kj Z F φ st s.heap)(hk:keepIn Z.K f=true)
  (h0:es=[]->vs=[]/\Ke=st)
  (g:fU Z w A (spliced (backTo pos (starEach es env))) F φ s vs Ke)
  (hc:∀ F1 Kg Kr h1 tk,Step F φ [] s.heap F1 Kg h1->Kj Z F1 Kg Ke h1->Km F1 Kg vs Kr->Good Z w A (call f (first++Kr)) F1 Kg ⟨h1,s.gens,s.drawn,tk,s.os⟩ v Kd) :
  Good Z w A (callWith pos f first (backTo pos (starEach es env)) []) F φ s v Kd:=λQ hQ=>by
 refine PySem.W.callWith_of (P:=λh=>Z.K.In h) (by rw[cM hs];rfl) (keeps_K hk) (fc hs R h0 g λF1 Kg Kr h1 tk S1 R1 V1=>⟨R1.base.inK R1.frz,?_⟩);exact hc F1 Kg Kr h1 tk S1 R1 V1 Q (Ky.step hQ S1)
theorem oo {f:Value}{es:List Expr}{vs:List AV}{v:AV}{Ke Kd:St}(hs:es.all aB=true)(R:Kj Z F φ st s.heap)(hf:(∃ id,f=.builtin id)\/∃ T,f=.type T)
  (h0:es=[]->vs=[]/\Ke=st)
  (g:fU Z w A (spliced (backTo pos (starEach es env))) F φ s vs Ke)
  (hc:∀ F1 Kg Kr h1 tk,Step F φ [] s.heap F1 Kg h1->Kj Z F1 Kg Ke h1->Km F1 Kg vs Kr->Good Z w A (call f Kr) F1 Kg ⟨h1,s.gens,s.drawn,tk,s.os⟩ v Kd) :
  Good Z w A (callWith pos f [] (backTo pos (starEach es env)) []) F φ s v Kd:=λQ hQ=>by
 have fin:∀ f,(∀ F1 Kg Kr h1 tk,Step F φ [] s.heap F1 Kg h1->Kj Z F1 Kg Ke h1->Km F1 Kg vs Kr->Good Z w A (call f Kr) F1 Kg ⟨h1,s.gens,s.drawn,tk,s.os⟩ v Kd) ->
   aA w A (evalArgs f true (backTo pos (starEach es env)) []) (λa Kt=>aA w A (call f ([]++a.pos) a.kw) Q aq Kt) aq s:=λf hc=>
  fc hs R h0 g λF1 Kg Kr h1 tk S1 R1 V1=>hc F1 Kg Kr h1 tk S1 R1 V1 Q (Ky.step hQ S1)
 rcases hf with ⟨id,rfl⟩ |⟨T,rfl⟩
 ·exact Calls.callWith_builtin (cM hs) (fin _ hc)
 ·exact PyProof.Rows.callWith_type (cM hs) (fin _ hc)
noncomputable def f8 (e:Expr):Bool:=!Nat.beq e.ctorIdx 26
theorem mZ {value slice:Expr}{Q E:Value->Shared->Prop}(hn:f8 slice=true)
  (h:aA w A (eval value env) (λo Kt=>aA w A (eval slice env) (λi Kx=>(∃ T id,typeLookup (.type T) (ofString "__getitem__")=Pure.pure (some (.builtin id))/\Kx.TypeIs o T)/\aA w A (getItem o i) Q E Kx) E Kt) E s) :
  aA w A (eval (.Subscript value slice pos) env) Q E s:=by
 rw[arm_eval_Subscript];refine wpAny_bind (wpAny_mono h (λo Kt K1=>wpAny_bind (wpAny_holding (wpAny_mono K1 (λi Kx K8=>wpAny_bind (wpAny_standAt ?_)) λ_ _ x=>x))) λ_ _ x=>x);refine av K8 ?_;clear K8;rintro⟨T,id,hl,hT⟩ hg;refine wpAny_bind ?_;rw[getitemInPython_of_ne hT.not_modules];refine wpAny_bind (wpAny_specialOf hT hl ?_)
 have fin:aA w A (operate [o,i] (getItem o i)) (λr KY=>aA w A (letTemporaryGo value o r>>=λ_=>Pure.pure r) Q E KY) E Kx:=
  wpAny_operating (wpAny_mono hg (λr KY Lo=>wpAny_bind (wpAny_letTemporaryGo (wpAny_pure Lo))) λ_ _ x=>x)
 have e:subscripted slice false o i=operate [o,i] (getItem o i):=by
  cases slice<;>first |rfl |cases hn
 refine wpAny_pure (wpAny_bind ?_);rw[e];exact fin
theorem VR.sub {x y v:AV}{vx:Value}(e:cB st x y=some v)(R:Kj Z F φ st s.heap)(hx:VR F φ x vx) :
  ∃ T id,typeLookup (.type T) (ofString "__getitem__")=Pure.pure (some (.builtin id))/\s.TypeIs vx T:=by
 refine eS (P:=λ_=>_) (λi e=>?_) e;refine ka (P:=λvx=>∃ T id,typeLookup (.type T) (ofString "__getitem__")=Pure.pure (some (.builtin id))/\s.TypeIs vx T) hx e (λa t _=>⟨"str",_,PySem.F.slot_str_getitem.lookup,typeIs_str _ _ _⟩) λe=>?_;refine oV e λxs q e=>?_;refine cP (R.seqOf q hx) ?_;rintro a arr rfl h1 d;exact h1.elim (λh=>⟨"list",_,PySem.F.slot_list_getitem.lookup,h.typeIs⟩) λh=>⟨"tuple",_,PySem.F.slot_tuple_getitem.lookup,h.typeIs⟩
noncomputable def eV:Expr->Bool
 |.Call (.Name _ _) [] [] _=>false
 |_=>true
theorem cW {o:Expr}{n:Str}{env:Env}{t:Sem Value}:eV o=true->attributeBase o n env t=t:=by
 cases o with
 |Call f a k p=>
  cases f with
  |Name _ _=>match a,k with
   |[],[]=>exact λh=>absurd h Ly
   |_::_,_=>exact λ_=>rfl
   |[],_::_=>exact λ_=>rfl
  |_=>exact λ_=>rfl
 |_=>exact λ_=>rfl
section
variable {M:Model}{E:Value->Shared->Prop}
theorem l6 {o:Expr}{name:Str}{apos pos:Pos}{args:List Expr}{O6:List Keyword}{Q:Value->Shared->Prop}
  (hb:eV o=true)
  (MZ:methodCallForm (args.length+O6.length) (backTo pos (starEach args env)) (backToKw pos (keywordEach O6 env))=true)
  (KA:(apos.endLine==pos.line)=true)
  (h:wpAny M A (eval o env) (λov Kt=>∀ pl,wpAny M A (getMethod ov name pl) (λfx Kx=>wpAny M A (callWith pos fx.1 fx.2 (backTo pos (starEach args env)) (backToKw pos (keywordEach O6 env))) Q E Kx) E Kt) E s) :
  wpAny M A (eval (.Call (.Attribute o name apos) args O6 pos) env) Q E s:=by
 rw[arm_eval_Call,cW hb];refine wpAny_bind (wpAny_mono h (λov Kt K1=>?_) λ_ _ e=>e);refine wpAny_bind (wpAny_standAt ?_);have Nq:methodCallPos true o env apos pos=pure pos:=by unfold methodCallPos;simp[KA]
 unfold methodCall;rw[MZ];refine wpAny_bind (wpAny_holding (wpAny_mono (K1 _) (λfx Kx K8=>?_) λ_ _ e=>e));exact wpAny_bind (wpAny_of_eq Nq K8)
theorem qw {es:List Expr}(h:es.all aB=true)(hl:es.length<10):methodCallForm (es.length+([]:List Keyword).length) (backTo pos (starEach es env)) (backToKw pos (keywordEach [] env))=true:=by
 unfold methodCallForm
 have h1:(backTo pos (starEach es env)).all (!·.1)=true:=by
  have:=cM (env:=env) (pos:=pos) h;rw[all_eq_true];intro x hx;rw[List.any_eq_false]at this;simpa using this x hx
 rw[h1];show(true&&true&&decide (_<30))=true;simp;show es.length+0+0<30;exact bN
theorem io {o:Expr}{name:Str}{Q E:Value->Shared->Prop}{w:World}(hb:eV o=true)
  (h:aA w A (eval o env) (λov Kt=>aA w A (getAttr ov name true) Q E Kt) E s) :
  aA w A (eval (.Attribute o name pos) env) Q E s:=by
 rw[arm_eval_Attribute,cW hb];refine wpAny_bind (wpAny_mono h (λov Kt K1=>?_) λ_ _ e=>e);exact wpAny_bind (wpAny_standAt (wpAny_bind (wpAny_holding (wpAny_mono K1 (λr Kx K8=>wpAny_bind (wpAny_letTemporaryGo (wpAny_pure K8))) λ_ _ e=>e))))
end
noncomputable def zS (k:Nat):Nat:=[18,19,20,21,22,23,24,25,26,27,28,29,14,13,9,10,11,12,15,16,8,17,30].getD k 999
noncomputable def yB:Bi->Nat
 |.len=>172
 |.range1=>148
 |.range2=>148
 |.sum=>190
 |.min=>161
 |.max=>200
 |.hex=>187
 |.chr=>179
 |.ord=>188
 |.str=>169
 |.divmod=>177
 |.tuple=>180
 |.next=>151
 |.iter=>165
noncomputable def yC:Ty->Nat
 |.int=>197
 |.str=>169
 |.list=>168
 |.bool=>196
noncomputable def Hf:Ty->String
 |.int=>"int"
 |.str=>"str"
 |.list=>"list"
 |.bool=>"bool"
noncomputable def gl (sc:Scope)(x:Str):Bool:=sc.names.lookup x==some .globalImplicit
noncomputable def iR (neg:Bool):CmpOp:=if neg then .IsNot else .Is
structure Sel where
 nm:Str->Bool:=λ_=>false
 cn:Const->Bool:=λ_=>false
 bi:Expr->Operator->Expr->Bool:=λ_ _ _=>false
 cm:Expr->List CmpOp->List Expr->Bool:=λ_ _ _=>false
 it:Expr->Expr->Expr->Bool:=λ_ _ _=>false
 tu:List Expr->Bool:=λ_=>false
 li:List Expr->Bool:=λ_=>false
 su:Expr->Expr->Bool:=λ_ _=>false
 sl:Option Expr->Option Expr->Option Expr->Bool:=λ_ _ _=>false
 ca:Expr->List Expr->List Keyword->Pos->Bool:=λ_ _ _ _=>false
 at_:Expr->Str->Pos->Bool:=λ_ _ _=>false
 co:Expr->List Comprehension->Scope->Bool:=λ_ _ _=>false
 un:UnaryOp->Expr->Bool:=λ_ _=>false
 bo:BoolOp->List Expr->Bool:=λ_ _=>false
noncomputable def m5 (ex:Expr)(f:Sel):Bool:=match ex with
 |.Name id _=>f.nm id
 |.Constant c _ _=>f.cn c
 |.BinOp l o r _=>f.bi l o r
 |.Compare l o r _=>f.cm l o r
 |.IfExp t x y _=>f.it t x y
 |.Tuple xs _ _=>f.tu xs
 |.List xs _=>f.li xs
 |.Subscript a i _=>f.su a i
 |.Slice l u t _=>f.sl l u t
 |.Call g as ks p=>f.ca g as ks p
 |.Attribute o n p=>f.at_ o n p
 |.ListComp e gs sc _=>f.co e gs sc
 |.UnaryOp o x _=>f.un o x
 |.BoolOp o xs _=>f.bo o xs
 |_=>false
noncomputable def fe (e:Expr):Bool:=!Nat.beq e.ctorIdx 7
noncomputable def kq (ex:Expr):Bool:=m5 ex { nm:=λ_=>true,cn:=λ_=>true,ca:=λ_ _ _ _=>true,bi:=λ_ _ _=>true,su:=λ_ _=>true,at_:=λ_ _ _=>true }
noncomputable def m6 (ex:Expr):Bool:=!m5 ex { cm:=λ_ _ _=>true }
noncomputable def eP (ex:Expr)(n:Str)(b:Bool):Bool:=m5 ex { nm:=λid=>id==n&&b }
noncomputable def yD (ex:Expr)(c:Const)(b:Bool):Bool:=m5 ex { cn:=λd=>d==c&&b }
noncomputable def l8 (ex:Expr)(op:Operator)(k:Expr->Expr->Bool):Bool:=m5 ex { bi:=λl o r=>o==op&&k l r }
noncomputable def m7 {α:Type}(l:List α)(k:α->Bool):Bool:=match l with
 |[]=>false
 |x::r=>r.isEmpty&&k x
noncomputable def eE {α:Type}(l:List α)(k:α->List α->Bool):Bool:=match l with
 |[]=>false
 |x::r=>k x r
noncomputable def ip {α:Type}(l:List α)(b:Bool):Bool:=l.isEmpty&&b
noncomputable def Bc {α:Type}(l:List α)(k:α->α->Bool):Bool:=eE l λx r=>m7 r (k x)
noncomputable def oq (ex:Expr)(op:CmpOp)(k:Expr->Expr->Bool):Bool:=m5 ex { cm:=λl os rs=>os==[op]&&m7 rs (k l) }
noncomputable def Bd (ex:Expr)(k:Expr->Expr->Expr->Bool):Bool:=m5 ex { it:=k }
noncomputable def ot (ex:Expr)(k:List Expr->Bool):Bool:=m5 ex { tu:=k }
noncomputable def qx (ex:Expr)(k:List Expr->Bool):Bool:=m5 ex { li:=k }
noncomputable def jo (ex:Expr)(k:Expr->Expr->Bool):Bool:=m5 ex { su:=k }
noncomputable def jR (ex:Expr)(k:Option Expr->Option Expr->Option Expr->Bool):Bool:=m5 ex { sl:=k }
noncomputable def m8 (ex:Expr)(k:Expr->List Expr->List Keyword->Pos->Bool):Bool:=m5 ex { ca:=k }
noncomputable def dv (ex:Expr)(k:Expr->List Expr->Pos->Bool):Bool:=m8 ex λf as ks p=>ip ks (k f as p)
noncomputable def ff (ex:Expr)(n:Str)(k:Expr->Pos->Bool):Bool:=m5 ex { at_:=λo m p=>m==n&&k o p }
noncomputable def qy (ex:Expr)(k:Expr->List Comprehension->Scope->Bool):Bool:=m5 ex { co:=k }
noncomputable def rR (g:Comprehension)(k:Expr->Expr->List Expr->Bool):Bool:=g.is_async==0&&k g.target g.iter g.ifs
noncomputable def DA (ks:List Keyword)(n:Str)(k:Expr->Bool):Bool:=m7 ks λkw=>kw.arg==some n&&k kw.value
noncomputable def Be (ex:Expr)(op:UnaryOp)(k:Expr->Bool):Bool:=m5 ex { un:=λo x=>o==op&&k x }
noncomputable def qz (ex:Expr)(op:BoolOp)(k:List Expr->Bool):Bool:=m5 ex { bo:=λo xs=>o==op&&k xs }
noncomputable def fG {α:Type}(o:Option α)(b:Bool):Bool:=o.isNone&&b
noncomputable def iS {α:Type}(o:Option α)(k:α->Bool):Bool:=match o with
 |none=>false
 |some x=>k x
noncomputable def u9 (ex:Expr):Bool:=m5 ex { tu:=λ_=>true }
noncomputable def m9 (ex:Expr):Bool:=m5 ex { nm:=λ_=>true }
noncomputable def qA (ex:Expr):Bool:=m5 ex { co:=λ_ _ _=>true }
noncomputable def va (ex:Expr):Bool:=m5 ex { ca:=λ_ _ _ _=>true }
theorem bC {b c:Bool}(h:(b&&c)=true):b=true/\c=true:=by cases b<;>cases c<;>first |exact⟨rfl,rfl⟩ |cases h
theorem ou {α:Type}{o:Option α}{p:α->Bool}(h:o.any p=true):∃ y,o=some y/\p y=true:=by
 cases o with
 |none=>cases h
 |some y=>exact⟨y,rfl,h⟩
theorem dh {α:Type}[BEq α][LawfulBEq α]{a b:α}(h:(a==b)=true):a=b:=eq_of_beq h
theorem bU {a b:Bool}{P:Prop}(h:(a&&b)=true)(k:a=true->b=true->P):P:=k (bC h).1 (bC h).2
theorem fX {a b c:Bool}{P:Prop}(h:(a&&(b&&c))=true)(k:a=true->b=true->c=true->P):P:=bU h λx h=>bU h (k x)
theorem ow {a b c d:Bool}{P:Prop}(h:(a&&(b&&(c&&d)))=true)(k:a=true->b=true->c=true->d=true->P):P:=bU h λx h=>fX h (k x)
theorem qB {a b c d e:Bool}{P:Prop}(h:(a&&(b&&(c&&(d&&e))))=true)(k:a=true->b=true->c=true->d=true->e=true->P):P:=bU h λx h=>ow h (k x)
theorem yE {a b c d e f:Bool}{P:Prop}(h:(a&&(b&&(c&&(d&&(e&&f)))))=true)(k:a=true->b=true->c=true->d=true->e=true->f=true->P):P:=bU h λx h=>qB h (k x)
theorem Bf {a b c d e f g i j:Bool}{P:Prop}(h:(a&&(b&&(c&&(d&&(e&&(f&&(g&&(i&&j))))))))=true)(k:a=true->b=true->c=true->d=true->e=true->f=true->g=true->i=true->j=true->P):P:=
 ow h λx y z h=>yE h (k x y z)
theorem yb {α:Type}[BEq α][LawfulBEq α]{a b:α}{c:Bool}{P:α->Prop}(k:c=true->P b):(a==b&&c)=true->P a:=λh=>bU h λe hc=>eq_of_beq e▸k hc
theorem ku {α:Type}{l:List α}{c:Bool}{P:List α->Prop}(k:c=true->P []):ip l c=true->P l:=λh=>bU h λe hc=>(isEmpty_iff.mp e)▸k hc
theorem bn {ex:Expr}{n:Str}{b:Bool}{P:Expr->Prop}(k:∀ p,b=true->P (.Name n p)):eP ex n b=true->P ex:=by
 cases ex<;>first |exact Lm |exact yb (P:=λz=>P (.Name z _)) (k _)
theorem jp {ex:Expr}{c:Const}{b:Bool}{P:Expr->Prop}(k:∀ q p,b=true->P (.Constant c q p)):yD ex c b=true->P ex:=by
 cases ex<;>first |exact Lm |exact yb (P:=λz=>P (.Constant z _ _)) (k _ _)
theorem iq {ex:Expr}{op:Operator}{f:Expr->Expr->Bool}{P:Expr->Prop}(k:∀ l r p,f l r=true->P (.BinOp l op r p)):l8 ex op f=true->P ex:=by
 cases ex<;>first |exact Lm |exact yb (P:=λz=>P (.BinOp _ z _ _)) (k _ _ _)
theorem dw {α:Type}{l:List α}{f:α->Bool}{P:List α->Prop}(k:∀ x,f x=true->P [x]):m7 l f=true->P l:=by
 cases l with
 |nil=>exact Lm
 |cons x r=>exact ku (P:=λr=>P (x::r)) (k x)
theorem bD {α:Type}{l:List α}{f:α->List α->Bool}{P:List α->Prop}(k:∀ x r,f x r=true->P (x::r)):eE l f=true->P l:=by
 cases l with
 |nil=>exact Lm
 |cons x r=>exact k x r
theorem kx {α:Type}{l:List α}{f:α->α->Bool}{P:List α->Prop}(k:∀ x y,f x y=true->P [x,y]):Bc l f=true->P l:=bD λx r=>dw (P:=λr=>P (x::r)) (k x)
theorem jS {ex:Expr}{op:CmpOp}{f:Expr->Expr->Bool}{P:Expr->Prop}(k:∀ l r p,f l r=true->P (.Compare l [op] [r] p)):oq ex op f=true->P ex:=by
 cases ex<;>first |exact Lm |exact yb (P:=λz=>P (.Compare _ z _ _)) (dw (P:=λz=>P (.Compare _ [op] z _)) λr=>k _ r _)
theorem vb {ex:Expr}{f:Expr->Expr->Expr->Bool}{P:Expr->Prop}(k:∀ t x y p,f t x y=true->P (.IfExp t x y p)):Bd ex f=true->P ex:=by
 cases ex<;>first |exact Lm |exact k _ _ _ _
theorem gB {ex:Expr}{f:List Expr->Bool}{P:Expr->Prop}(k:∀ xs q p,f xs=true->P (.Tuple xs q p)):ot ex f=true->P ex:=by
 cases ex<;>first |exact Lm |exact k _ _ _
theorem ox {ex:Expr}{f:List Expr->Bool}{P:Expr->Prop}(k:∀ xs p,f xs=true->P (.List xs p)):qx ex f=true->P ex:=by
 cases ex<;>first |exact Lm |exact k _ _
theorem fH {ex:Expr}{f:Expr->Expr->Bool}{P:Expr->Prop}(k:∀ a i p,f a i=true->P (.Subscript a i p)):jo ex f=true->P ex:=by
 cases ex<;>first |exact Lm |exact k _ _ _
theorem iT {ex:Expr}{f:Option Expr->Option Expr->Option Expr->Bool}{P:Expr->Prop}(k:∀ l u t p,f l u t=true->P (.Slice l u t p)):jR ex f=true->P ex:=by
 cases ex<;>first |exact Lm |exact k _ _ _ _
theorem l9 {ex:Expr}{f:Expr->List Expr->List Keyword->Pos->Bool}{P:Expr->Prop}(k:∀ g as ks p,f g as ks p=true->P (.Call g as ks p)):m8 ex f=true->P ex:=by
 cases ex<;>first |exact Lm |exact k _ _ _ _
theorem bY {ex:Expr}{f:Expr->List Expr->Pos->Bool}{P:Expr->Prop}(k:∀ g as p,f g as p=true->P (.Call g as [] p)):dv ex f=true->P ex:=
 l9 λg as ks p=>ku (P:=λks=>P (.Call g as ks p)) (k g as p)
theorem dz {ex:Expr}{n:Str}{f:Expr->Pos->Bool}{P:Expr->Prop}(k:∀ o p,f o p=true->P (.Attribute o n p)):ff ex n f=true->P ex:=by
 cases ex<;>first |exact Lm |exact yb (P:=λz=>P (.Attribute _ z _)) (k _ _)
theorem oy {ex:Expr}{f:Expr->List Comprehension->Scope->Bool}{P:Expr->Prop}(k:∀ e gs sc p,f e gs sc=true->P (.ListComp e gs sc p)):qy ex f=true->P ex:=by
 cases ex<;>first |exact Lm |exact k _ _ _ _
theorem gC {g:Comprehension}{f:Expr->Expr->List Expr->Bool}{P:Comprehension->Prop}(k:∀ t i cs,f t i cs=true->P ⟨t,i,cs,0⟩):rR g f=true->P g:=
 match g with
 |⟨t,i,cs,a⟩=>yb (P:=λa=>P ⟨t,i,cs,a⟩) (k t i cs)
theorem Bg {ks:List Keyword}{n:Str}{f:Expr->Bool}{P:List Keyword->Prop}(k:∀ v p,f v=true->P [⟨some n,v,p⟩]):DA ks n f=true->P ks:=
 dw λkw=>match kw with
 |⟨a,v,p⟩=>yb (P:=λa=>P [⟨a,v,p⟩]) (k v p)
theorem vc {ex:Expr}{op:UnaryOp}{f:Expr->Bool}{P:Expr->Prop}(k:∀ x p,f x=true->P (.UnaryOp op x p)):Be ex op f=true->P ex:=by
 cases ex<;>first |exact Lm |exact yb (P:=λz=>P (.UnaryOp z _ _)) (k _ _)
theorem oz {ex:Expr}{op:BoolOp}{f:List Expr->Bool}{P:Expr->Prop}(k:∀ xs p,f xs=true->P (.BoolOp op xs p)):qz ex op f=true->P ex:=by
 cases ex<;>first |exact Lm |exact yb (P:=λz=>P (.BoolOp z _ _)) (k _ _)
theorem dL {α:Type}{o:Option α}{b:Bool}{P:Option α->Prop}(k:b=true->P none):fG o b=true->P o:=λh=>bU h λe hb=>(isNone_iff_eq_none.mp e)▸k hb
theorem f9 {α:Type}{o:Option α}{f:α->Bool}{P:Option α->Prop}(k:∀ x,f x=true->P (some x)):iS o f=true->P o:=by
 cases o with
 |none=>exact Lm
 |some x=>exact k x
theorem vd {ex:Expr}{P:Expr->Prop}(k:∀ e gs sc p,P (.ListComp e gs sc p)):qA ex=true->P ex:=by
 cases ex<;>first |exact Lm |exact λ_=>k _ _ _ _
theorem ve {ex:Expr}{P:Expr->Prop}(k:∀ g as ks p,P (.Call g as ks p)):va ex=true->P ex:=by
 cases ex<;>first |exact Lm |exact λ_=>k _ _ _ _
noncomputable def vf (sc:Scope)(n:Str):Bool:=sc.names.lookup n==some .local||sc.names.lookup n==some .cell
theorem dZ {sc:Scope}{n:Str}(h:vf sc n=true):sc.names.lookup n=some .local\/sc.names.lookup n=some .cell:=((Bool.or_eq_true _ _).mp h).imp dh dh
noncomputable def nb (sc:Scope):List Nat->List Expr->Bool
 |[],es=>es.isEmpty
 |x::xs,es=>eE es λe es=>eP e (nm x) (vf sc (nm x)&&nb sc xs es)
noncomputable def gR (sc:Scope)(tg:Tg)(ex:Expr):Bool:=match tg with
 |.nm x=>eP ex (nm x) (vf sc (nm x))
 |.tup xs=>ot ex λes=>nb sc xs es
noncomputable def yF (sc scope:Scope)(cap:List Nat):Bool:=
 scope.kind==.function&&decide ((scope.names.map (·.1)).Nodup) &&
 scope.names.all (λy=>y.2 != .free||(sc.names.lookup y.1==some .cell||sc.names.lookup y.1==some .free)) &&
 cap.all (λx=>scope.names.lookup (nm x)==some .free)
mutual
noncomputable def aW (sc:Scope):E->Expr->Bool
 |.l x,ex=>eP ex (nm x) (x != 131)
 |.int i,ex=>yD ex (.int i) true
 |.str s,ex=>yD ex (.str ⟨s.toArray⟩) true
 |.bool b,ex=>yD ex (.bool b) true
 |.non,ex=>yD ex .none true
 |.b op a b,ex=>l8 ex op λl r=>aW sc a l&&aW sc b r
 |.cmp op a b,ex=>oq ex op λl y=>behindInMarks op y==false&&(aW sc a l&&aW sc b y)
 |.ite c a b,ex=>Bd ex λt x y=>Lh sc c t&&(aW sc a x&&aW sc b y)
 |.tup es,ex=>ot ex λxs=>decide (xs.length<=100)&&(xs.all aB&&eW sc es xs)
 |.new _ l,ex=>m6 ex&&Bh sc l ex
 |.sub a i,ex=>jo ex λl r=>f8 r&&(aW sc a l&&aW sc i r)
 |.call k args,ex=>dv ex λf as _=>eP f (nm (zS k)) (decide (k<23)&&(gl sc (nm (zS k))&&(as.all aB&&eW sc args as)))
 |.lcall _ _,_=>false
 |.meth k r args,ex=>dv ex λf as p=>ff f (nm (tj k)) λo ap=>decide (30<=k)&&(decide (k<37)&&(k != 35&&(eV o&&(ap.endLine==p.line&&(aW sc r o&&(as.all aB&&(decide (as.length<10)&&eW sc args as)))))))
 |.conv r a b,ex=>m8 ex λf as ks p=>ff f (nm 36) λo ap=>m7 as λx=>DA ks (nm 110) λv=>yD v (.bool b) (eV o&&(ap.endLine==p.line&&(aW sc r o&&(aB x&&aW sc a x))))
 |.bi b args,ex=>dv ex λf as _=>eP f (nm (yB b)) (gl sc (nm (yB b))&&(as.all aB&&eW sc args as))
 |.sm m r args,ex=>dv ex λf as p=>ff f (km m) λo ap=>eV o&&(ap.endLine==p.line&&(aW sc r o&&(as.all aB&&(decide (as.length<2)&&eW sc args as))))
 |.attr r a,ex=>ff ex (nm a) λo _=>decide (a<6)&&(eV o&&aW sc r o)
 |.cattr b,ex=>ff ex (nm (if b then 153 else 152)) λo _=>eP o (nm 17) (gl sc (nm 17))
 |.frz _,_=>false
 |.isTy a t neg,ex=>oq ex (iR neg) λl y=>dv l λf as _=>eP f (nm 184) (m7 as λx=>eP y (nm (yC t)) (gl sc (nm 184)&&(gl sc (nm (yC t))&&(aB x&&aW sc a x))))
 |.isNon a neg,ex=>oq ex (iR neg) λl y=>yD y .none (aW sc a l)
 |.isTru a neg,ex=>oq ex (iR neg) λl y=>yD y (.bool true) (aW sc a l)
 |.rxg b,ex=>eP ex (nm (if b then 33 else 34)) (gl sc (nm (if b then 33 else 34)))
 |.dbg,ex=>eP ex (nm 131) true
 |.flag x,ex=>dv ex λf as p=>ff f (nm 43) λo ap=>eP o (nm 54) (Bc as λa1 a2=>eP a1 (nm x) (dv a2 λf2 O7 _=>eP f2 (nm 187) (m7 O7 λa3=>eP a3 (nm x) (gl sc (nm 54)&&(ap.endLine==p.line&&(gl sc (nm 187)&&x != 131))))))
 |.dlim,ex=>eP ex (nm 52) (gl sc (nm 52))
noncomputable def Bh (sc:Scope):L->Expr->Bool
 |.list es,ex=>qx ex λxs=>decide (xs.length<=100)&&(xs.all aB&&eW sc es xs)
 |.cat a b,ex=>l8 ex .Add λl r=>aW sc a l&&aW sc b r
 |.rep a n,ex=>l8 ex .Mult λl r=>qx l λxs=>m7 xs λx=>aB x&&(aW sc a x&&aW sc n r)
 |.comp elt tg src ifs cap,ex=>qy ex λx gs scope=>m7 gs λg=>rR g λt it cs=>yF sc scope cap&&(fe it&&(gR scope tg t&&(aW sc src it&&(aW scope elt x&&vg scope ifs cs))))
 |.comp2 elt tg src Lz K9 cap,ex=>qy ex λx gs scope=>Bc gs λg g2=>rR g λt it cs=>ip cs (rR g2 λt2 KZ NS=>ip NS (yF sc scope cap&&(fe it&&(fe KZ&&(gR scope tg t &&
   (gR scope Lz t2&&((dX Lz).all (λy=>!(dX tg).contains y)&&(aW sc src it&&(aW scope K9 KZ&&aW scope elt x)))))))))
 |.rev a,ex=>jo ex λv sl=>jR sl λl u t=>fG l (fG u (iS t λy=>Be y .USub λz=>yD z (.int 1) (aW sc a v)))
 |.drop a i,ex=>jo ex λv sl=>jR sl λl u t=>iS l λy=>fG u (fG t (aW sc a v&&aW sc i y))
 |.sorted a,ex=>dv ex λf as _=>eP f (nm 181) (m7 as λx=>gl sc (nm 181)&&(aB x&&aW sc a x))
 |.split a sep,ex=>dv ex λf as p=>ff f (nm 159) λo ap=>m7 as λx=>eV o&&(ap.endLine==p.line&&(aB x&&(aW sc a o&&aW sc sep x)))
noncomputable def Lh (sc:Scope):C->Expr->Bool
 |.val e,ex=>(kq ex||!m6 ex)&&aW sc e ex
 |.and a b,ex=>qz ex .And λxs=>Bc xs λx y=>Lh sc a x&&Lh sc b y
 |.or a b,ex=>qz ex .Or λxs=>Bc xs λx y=>Lh sc a x&&Lh sc b y
 |.not a,ex=>Be ex .Not λx=>Lh sc a x
noncomputable def eW (sc:Scope):List E->List Expr->Bool
 |[],xs=>xs.isEmpty
 |e::es,xs=>eE xs λx xs=>aW sc e x&&eW sc es xs
noncomputable def vg (sc:Scope):List C->List Expr->Bool
 |[],xs=>xs.isEmpty
 |e::es,xs=>eE xs λx xs=>Lh sc e x&&vg sc es xs
end
theorem vh:nm 131=ofString "__debug__":=by decide +kernel
theorem zT:∀ i,(nm i==ofString "__classdict__")=false:=by
 intro i;by_cases h:i<201
 ·have:∀ i,i<201->(nm i==ofString "__classdict__")=false:=by decide +kernel
  exact this i h
 ·unfold nm;rw[if_neg h,beq_eq_false_iff_ne];intro z;have:=congrArg (λx=>x.cps.toList) z;simp only at this;rw[show(ofString "__classdict__").cps.toList=[95,95,99,108,97,115,115,100,105,99,116,95,95] by decide +kernel]at this;exact absurd (congrArg List.length this) (by simp)
theorem vj {i:Nat}(h:i≠131):(nm i==ofString "__debug__")=false:=by
 rw[beq_eq_false_iff_ne,← vh];exact λz=>h (nm_inj z)
structure Glob (Z:Kz):Prop where
 refs:∀ k,∃ a,fv k=.ref a
 fn:∀ k,k<23->Z.mg (nm (zS k))=some (fv k)
 keep:∀ k,k<37->keepIn Z.K (fv k)=true
 bi:∀ b,Z.mg (nm (yB b))=none/\Z.mb (nm (yB b))=some (Hc b)
 srt:Z.mg (nm 181)=none/\Z.mb (nm 181)=some (.builtin "sorted")
 typ:Z.mg (nm 184)=none/\Z.mb (nm 184)=some (.type "type")
 tys:∀ t,Z.mg (nm (yC t))=none/\Z.mb (nm (yC t))=some (.type (Hf t))
 rx:∀ b:Bool,Z.mg (nm (if b then 33 else 34))=some (.ref (if b then fj else fk))
 lim:∃ t,Z.mg (nm 52)=some (.int 4000 t)
 wsc:Z.mg (nm 17)=some (.ref jh)
 cls:∀ C,C=fi\/C=jh->plainGet Z.K C empty=true/\hasDictIn Z.K C=true/\∀ a,a<6->∃ attr,findIn Z.K (.ref C) (nm a)=some attr/\noGet Z.K attr=true
 met:∀ k,30<=k->k<37->findIn Z.K (.ref (if k=36 then jh else fi)) (nm (tj k))=some (some (fv k))/\isFn Z.K (fv k)=true
 sets:∀ C,C=fi\/C=jh->findIn Z.K (.ref C) "__setattr__"=some (some (.builtin "object.__setattr__"))/\plainOver Z.K C=true/\∀ a,a<6->takerIn Z.K C (nm a)=some none
 rev:Z.mg (nm 145)=none/\Z.mb (nm 145)=some (.type "reversed")
 noq:noSeq Z.K fi=true
 wst:∃ mc,readsIn Z.K jh mc=true/\∀ b:Bool,∃ t,findCls Z.K (.ref jh) mc (nm (if b then 153 else 152))=some (.val (.str ⟨[if b then 9 else 32].toArray⟩ t))
 flg:∃ (d:Addr) (o:Obj) (es:Array DictEntry) (ep:Nat),Z.mg (nm 54)=some (.ref d)/\(d==sysModules)=false/\Z.K.lookup d=some o/\o.ExactDict/\o.data=.dict es ep /\
  (∀ e∈es,∃ k,Value.isInt k e.key=true/\e.hash=hashInt k) /\
  ∀ k,(∃ p t,eg.find? (·.1==k)=some p/\findBy Value.isInt es k=some (.str ⟨p.2.toArray⟩ t))\/(eg.find? (·.1==k)=none/\findBy Value.isInt es k=none)
theorem ga {x:Nat}{v:AV}{Q:Value->Shared->Prop}(L:Kl F φ σ sc env O s.heap)(e:af σ x=some v)(hx:x≠131)(hQ:∀ v',VR F φ v v'->Q v' s) :
  aA w A (eval (.Name (nm x) pos) env) Q aq s:=by
 refine ak (L.val x v e) λv' hv n=>?_;refine wpAny_Name ?_ (vj hx);rcases n with ⟨k,m,a,b⟩ |⟨k,c,a,b⟩
 ·exact wpAny_loadName_local L.kind k a b (hQ v' hv)
 ·rcases k with k |k
  ·exact wpAny_loadName_cell L.kind k a b (hQ v' hv)
  ·exact wpAny_loadName_free L.kind k a b (hQ v' hv) (zT x)
theorem vk {x:Nat}{v:AV}(R:Kj Z F φ st s.heap)(L:Kl F φ σ sc env O s.heap)(e:af σ x=some v)(hx:x≠131):Good Z w A (eval (.Name (nm x) pos) env) F φ s v st:=
 Good.val R λQ h=>ga L e hx λv' hv=>h v' _ hv
theorem ir {x:Nat}{v:Value}{Q:Value->Shared->Prop}(R:Kj Z F φ st s.heap)(L:Kl F φ σ sc env O s.heap)(g:gl sc (nm x)=true)(hx:x≠131)(e:Z.mg (nm x)=some v)(hQ:Q v s) :
  aA w A (eval (.Name (nm x) pos) env) Q aq s:=
 Calls.Name_function_global L.kind (L.gl _ (eq_of_beq g)) (Calls.loadGlobal_global (by rw[L.glob];exact R.base.g.ns R.frz) e hQ) (vj hx)
theorem iu {x:Nat}{v:Value}{Q:Value->Shared->Prop}(R:Kj Z F φ st s.heap)(L:Kl F φ σ sc env O s.heap)(g:gl sc (nm x)=true)(hx:x≠131)(e:Z.mg (nm x)=none/\Z.mb (nm x)=some v)(hQ:Q v s) :
  aA w A (eval (.Name (nm x) pos) env) Q aq s:=
 Calls.Name_function_global L.kind (L.gl _ (eq_of_beq g)) (Calls.loadGlobal_builtin (by rw[L.glob];exact R.base.g.ns R.frz) e.1 (by rw[L.blt];exact R.base.b.ns R.frz) e.2 hQ) (vj hx)
theorem VR.handed {v:AV}{v':Value}(G:Glob Z)(x:VR F φ v v'):handedIn v'=true:=by
 cases x<;>rfl
theorem rS (c:Nat):ca c=fi\/ca c=jh:=by
 unfold ca;split
 ·exact .inl rfl
 ·exact .inr rfl
theorem tH {x v:AV}{a:Nat}{vx:Value}(G:Glob Z)(ha:a<6)(e:jj st x a=some v)(R:Kj Z F φ st s.heap)(hx:VR F φ x vx) :
  Good Z w A (getAttr vx (nm a) true) F φ s v st:=by
 refine ji (P:=λvx=>Good Z w A (getAttr vx (nm a) true) F φ s v st) hx e λi b e hi=>ql e λc d fs q q2 e=>?_;refine dc (R.obj _ _ _ hi q) λdx sl e1 e2=>?_;refine yj (R.obj _ _ _ e2 q2) λes n e3 _ e4 _=>?_;refine ak (e4 _ _ e) λv' e5 hv=>?_;refine mM (G.cls _ (rS c)) λg1 g2 g3=>?_;refine ak (g3 a ha) λattr g4 g5=>?_;exact Good.val R λQ h=>get_value (R.base.inK R.frz) (od:=some (dictOf es n)) ⟨e1,rfl,rfl,e3⟩ (plainGet_of g1).1 (findObj_own g2 g4 g5 e5) (VR.handed G hv) (h _ _ hv)
theorem oJ {k:Nat}{x:AV}{vx:Value}{P:Value->Prop}(e:dr st k x=true)(hx:VR F φ x vx)(f:∀ (i:Nat) (a:Addr) (c d:Nat) (fs:Loc),φ[i]?=some a->st[i]?=some (.inst c d)->st[d]?=some (.dict fs)->c=(if k=36 then 1 else 0)->af fs (tj k)=none->P (.ref a)):P vx:=
 (isSome_iff_exists.mp e).elim λ_ e=>ji hx e λi b e hi=>ql e λc d fs q q2 e=>oI e λh _=>f i b c d fs hi q q2 h.1 h.2
theorem oO {x:AV}{k:Nat}{vx:Value}{Q:Value×List Value->Shared->Prop}{pl:Sem Bool}(G:Glob Z)(h1:30<=k)(h2:k<37)(e:dr st k x=true)(R:Kj Z F φ st s.heap)(hx:VR F φ x vx)
  (hQ:Q (fv k,[vx]) s):aA w A (getMethod vx (nm (tj k)) pl) Q aq s:=by
 revert hQ;refine oJ (P:=λvx=>Q (fv k,[vx]) s->aA w A (getMethod vx (nm (tj k)) pl) Q aq s) e hx λi b c d fs hi q q2 hc hn hQ=>?_;refine aw (G.refs k) λf hf=>?_;refine av (G.met k h1 h2) λg1 g2=>?_;refine dc (R.obj _ _ _ hi q) λdx sl e1 e2=>?_;refine yk (R.obj _ _ _ e2 q2) λes n e3 _ _ e4 _=>?_
 have hca:ca c=if k=36 then jh else fi:=by
  rw[hc];by_cases hk:k=36
  ·rw[if_pos hk,if_pos hk];rfl
  ·rw[if_neg hk,if_neg hk];rfl
 rw[hf]at g1 g2 hQ;rw[← hca]at g1;have g4:=plainGet_of (G.cls _ (rS c)).1;refine PySem.W.method_fn (R.base.inK R.frz) (od:=some (dictOf es n)) ⟨e1,rfl,rfl,e3⟩ g4.1 g4.2 g1 (beq_iff_eq.mp g2) ?_ hQ;show(lookIn _ (dictOf es n)).map _=_;rw[lookIn_dict,e4 _ hn];rfl
noncomputable def ky (s:List Nat):String:=if (⟨s.toArray⟩:Str).cps.all (·<128) then "str_ascii_iterator" else "str_iterator"
noncomputable def Mn (F:bf)(φ:List Addr)(h:Heap)(I:Addr)(i:Nat):AV->Prop
 |.lst xs=>∃ a arr,Lf F a arr/\Km F φ xs arr.toList/\h.IsListIter I a i
 |.tup xs=>∃ a arr n,F a=some { cls:=.type "tuple",data:=.seq arr n }/\Km F φ xs arr.toList/\h.IsTupleIter I a i
 |.rng lo hi=>IsRangeIter h I (lo+i) (((hi-lo).toNat:Int)-i) 1
 |.str s=>∃ t,h.IsStrIter I (ky s) ⟨s.toArray⟩ t i
 |.obj k=>∃ a,φ[k]?=some a/\h.IsListIter I a i
 |_=>False
section
variable {i:Nat}{v:AV}
theorem Mn.mono (x:Mn F φ h I i v)(hF:K7 F F')(hp:φ <+: Kn)(k:∀ o,h.get? I=some o->h'.get? I=some o):Mn F' Kn h' I i v:=by
 cases v<;>try exact x.elim
 ·refine dc x ?_;clear x;intro t o e2 r;exact⟨t,o,k _ e2,r⟩
 ·obtain⟨a,arr,n,e1,d,o,e2,r⟩:=x;exact⟨a,arr,n,hF _ _ e1,d.mono hF hp,o,k _ e2,r⟩
 ·obtain⟨a,arr,e1,d,o,e2,r⟩:=x;exact⟨a,arr,e1.mono hF,d.mono hF hp,o,k _ e2,r⟩
 ·exact k _ x
 ·obtain⟨a,e1,o,e2,r⟩:=x;exact⟨a,eR hp e1,o,k _ e2,r⟩
theorem Mn.at_ (x:Mn F φ h I i v):∃ o T,h.get? I=some o/\o.cls=.type T/\["enumerate","zip","dict_itemiterator","dict_reverseitemiterator","odict_iterator","itertools.zip_longest","itertools.pairwise"].contains T=false:=by
 cases v<;>try exact x.elim
 ·refine cP x ?_;clear x;intro t o e2 r _;refine⟨o,_,e2,r,?_⟩;unfold ky;split<;>decide +kernel
 ·obtain⟨a,arr,n,e1,d,o,e2,r,_⟩:=x;exact⟨o,_,e2,r,by decide +kernel⟩
 ·obtain⟨a,arr,e1,d,o,e2,r,_⟩:=x;exact⟨o,_,e2,r,by decide +kernel⟩
 ·exact⟨_,"range_iterator",x,rfl,by decide +kernel⟩
 ·obtain⟨a,e1,o,e2,r,_⟩:=x;exact⟨o,_,e2,r,by decide +kernel⟩
theorem gT {target:Expr}{v:Value}{Q:Unit->Shared->Prop}{o:Obj}{T:String}(e:s.heap.get? I=some o)(c:o.cls=.type T)
  (n:["enumerate","zip","dict_itemiterator","dict_reverseitemiterator","odict_iterator","itertools.zip_longest","itertools.pairwise"].contains T=false) (hQ:Q () s) :
  aA w A (letOwnedTupleGo target (.ref I) v) Q aq s:=by
 have main:aA w A (do
   let (.ref r,.ref a):=((Value.ref I,v):Value×Value) |return
   let o ← load r
   match o.cls,o.data with
   |.type n,.fields vs=>
    if ["enumerate","zip","dict_itemiterator","dict_reverseitemiterator","odict_iterator","itertools.zip_longest","itertools.pairwise"].contains n&&vs[0]?==some (rawInt a) then
     rule "for.unpacks-the-owned-tuple"
     updateField r 0 .none
   |_,_=>Pure.pure ()) Q aq s:=by
  cases v with
  |ref b=>
   refine wpAny_bind (wpAny_load e ?_);rw[c];generalize o.data=dd
   cases dd with
   |fields vs=>
    show wpAny _ _ (if (List.contains _ T&&_)=true then _ else _) Q aq s;rw[n];exact wpAny_pure hQ
   |_=>exact wpAny_pure hQ
  |_=>exact wpAny_pure hQ
 cases target<;>first |exact main |exact wpAny_pure hQ
theorem ma:∀ (n:Nat) (lo:Int) (i:Nat),i<n->(lR lo n)[i]?=some (.int (lo+i))
 |n+1,lo,0,_=>congrArg (λi=>some (AV.int i)) (add_zero lo).symm
 |n+1,lo,i+1,h=>(ma n (lo+1) i (by exact Do)).trans (congrArg (λi=>some (AV.int i)) ((Int.add_assoc ..).trans (congrArg (lo+·) (Int.add_comm ..))))
theorem iw:∀ (n:Nat) (lo:Int),(lR lo n).length=n:=by
 intro n
 induction n with
 |zero=>
  intro _;exact rfl
 |succ n ih=>
  intro lo;exact congrArg Nat.succ (ih (lo+1))
theorem DB (lo hi:Int):Builtin.Range.rangeSize lo hi 1=((hi-lo).toNat:Int)-((0:Nat):Int):=(rangeSize_one ..).trans (by split<;>first |exact((Int.sub_zero _).trans (zF (Int.sub_nonneg_of_le (Int.le_of_lt (by assumption))))).symm |exact Jz (by assumption))
theorem hV {xs:List AV}{v':Value}{Q:Value->Shared->Prop}(e:aF st v=some xs)(R:Kj Z F φ st s.heap)(hv:VR F φ v v')
  (hQ:∀ h1 I tk,(∀ b o,s.heap.get? b=some o->h1.get? b=some o)->s.heap.get? I=none->Mn F φ h1 I 0 v->Q (.ref I) ⟨h1,s.gens,s.drawn,tk,s.os⟩) :
  aA w A (pyIter v') Q aq s:=by
 have pu:∀ o tk,Mn F φ (s.heap.push o) s.heap.objs.size 0 v->Q (.ref s.heap.objs.size) ⟨s.heap.push o,s.gens,s.drawn,tk,s.os⟩:=λo tk=>hQ _ _ _ aC (cD _);clear hQ;generalize hP:(λv'=>aA w A (pyIter v') Q aq s)=P;rw[show aA w A (pyIter v') Q aq s=P v' by rw[← hP]];cases v<;>try exact absurd e bg
 ·exact VR.strR (λt=>hP▸wpAny_pyIter_strU (pu _ _ ⟨t,_,get?_push_size _ rfl,rfl,rfl⟩)) hv
 ·exact VR.tupR (λa arr n e1 d=>hP▸wpAny_pyIter_tuple ⟨_,R.frz _ _ e1,rfl,n,rfl⟩ (pu _ _ ⟨a,arr,n,e1,d,_,get?_push_size _ rfl,rfl,rfl⟩)) hv
 ·exact VR.lstR (λa arr e1 d=>hP▸wpAny_pyIter_list (e1.isList R.frz) (pu _ _ ⟨a,arr,e1,d,_,get?_push_size _ rfl,rfl,rfl⟩)) hv
 ·refine oI e λhb _=>VR.rngR (λa t u v e1=>hP▸wpAny_pyIter_range (R.frz _ _ e1) (small_one (by first |exact te hb.1 |exact tf hb.1) (by first |exact te hb.1 |exact tf hb.1 |exact te hb.2 |exact tf hb.2) (by first |exact te hb.1 |exact tf hb.1 |exact te hb.2 |exact tf hb.2) (by first |exact te hb.2 |exact tf hb.2)) (pu _ _ ?_)) hv;show IsRangeIter _ _ (_+((0:Nat):Int)) _ _;rw[← DB,show ∀ x:Int,x+((0:Nat):Int)=x from add_zero];exact get?_push_size _ rfl
 ·exact VR.objR (λa hi=>hP▸let ⟨arr,hl,d⟩:=R.list e hi;wpAny_pyIter_list (aP hl) (pu _ _ ⟨a,hi,_,get?_push_size _ rfl,rfl,rfl⟩)) hv
set_option tactic.hygienic true in
theorem md {Q:Value->Shared->Prop}(x:Mn F φ s.heap I i v)(hQ:Q (.ref I) s):aA w A (pyIter (.ref I)) Q aq s:=by
 cases v<;>try exact x.elim
 ·rename_i l;refine aw x ?_;clear x;intro t x;unfold ky at x;split at x
  ·exact wpAny_pyIter_striter_ascii x hQ
  ·exact wpAny_pyIter_striter_wide x hQ
 ·refine j7 x ?_;clear x;intro a arr n e1 d x;exact wpAny_pyIter_tupleiter x hQ
 ·refine cP x ?_;clear x;intro a arr e1 d x;exact wpAny_pyIter_listiter x hQ
 ·exact wpAny_pyIter_rangeiter x hQ
 ·refine ak x ?_;clear x;intro a e1 x;exact wpAny_pyIter_listiter x hQ
theorem stands_obj {k:Nat}{xs:List AV}(h:an st (.obj k) xs=true):listAt st k=some xs:=@of_decide_eq_true _ (_) h
set_option tactic.hygienic true in
theorem me {xs:List AV}{x:AV}{Q:Option Value->Shared->Prop}(e:aF Ke v=some xs)(hs:an st v xs=true)(hx:xs[i]?=some x)(R:Kj Z F φ st s.heap)(t:Mn F φ s.heap I i v)
  (hQ:∀ v' h1 tk,Heap.SameBut I s.heap h1->VR F φ x v'->Mn F φ h1 I (i+1) v->Q (some v') ⟨h1,s.gens,s.drawn,tk,s.os⟩) :
  aA w A (pyNext (.ref I)) Q aq s:=by
 have hi:=(List.getElem?_eq_some_iff.mp hx).1;cases v<;>try exact t.elim
 ·rename_i l;refine aw t ?_;clear t;intro t y
  replace e:=KO e
  subst e;rw[length_map]at hi;rw[getElem?_map,getElem?_eq_getElem hi,map_some,Option.some.injEq]at hx;subst hx;unfold ky at y;split at y
  ·rename_i ha;refine wpAny_pyNext_ascii_item y (c:=l[i]) (by simp[hi]) λh' y' k=>hQ _ _ _ k (.str [_] _) ⟨t,?_⟩;unfold ky;rw[if_pos ha];exact y'
  ·rename_i ha;refine wpAny_pyNext_wide_item y (c:=l[i]) (by simp[hi]) λh' y' k=>hQ _ _ _ k (.str [_] _) ⟨t,?_⟩;unfold ky;rw[if_neg ha];exact y'
 ·refine j7 t ?_;clear t;intro a arr n e1 d y
  replace e:=KO e
  subst e;refine ak (d.get hx) λv' e2 hv=>?_;exact wpAny_pyNext_tuple_item y ⟨_,R.frz _ _ e1,rfl,n,rfl⟩ (by simpa using e2) λh' y' k=>hQ _ _ _ k hv ⟨a,arr,n,e1,d,y'⟩
 ·refine cP t ?_;clear t;intro a arr e1 d y
  replace e:=KO e
  subst e;refine ak (d.get hx) λv' e2 hv=>?_;exact wpAny_pyNext_list_item y (e1.isList R.frz) (by simpa using e2) λh' y' k=>hQ _ _ _ k hv ⟨a,arr,e1,d,y'⟩
 ·rename_i lo MI;refine oI e λq e=>?_;cases e;rw[iw]at hi;rw[ma _ _ _ hi]at hx;cases hx;refine wpAny_pyNext_range_item t (by lia) λh' y' k=>hQ _ _ _ k (.int _ _) ?_;show IsRangeIter _ _ _ _ _;have e1:lo+((i+1:Nat):Int)=lo+i+1:=by push_cast;lia
  have e2:((MI-lo).toNat:Int)-((i+1:Nat):Int)=((MI-lo).toNat:Int)-i-1:=by push_cast;lia
  rw[e1,e2];exact y'
 ·rename_i k;refine ak t ?_;clear t;intro a e1 y;refine ak (R.list (stands_obj hs) e1) λarr hl d=>?_;refine ak (d.get hx) λv' e2 hv=>?_;exact wpAny_pyNext_list_item y (aP hl) (by simpa using e2) λh' y' k=>hQ _ _ _ k hv ⟨a,e1,y'⟩
set_option tactic.hygienic true in
theorem mf {xs:List AV}{Q:Option Value->Shared->Prop}(hh:A.handled=none)(e:aF Ke v=some xs)(hs:an st v xs=true)(hi:i=xs.length)(R:Kj Z F φ st s.heap)(t:Mn F φ s.heap I i v)
  (hQ:∀ h1 tk,(∀ b o,b≠I->s.heap.get? b=some o->h1.get? b=some o)->Q none ⟨h1,s.gens,s.drawn,tk,s.os⟩) :
  aA w A (pyNext (.ref I)) Q aq s:=by
 cases v<;>try exact t.elim
 ·rename_i l;refine aw t ?_;clear t;intro t y
  replace e:=KO e
  subst e;rw[length_map]at hi;subst hi;unfold ky at y;split at y
  ·exact wpAny_pyNext_ascii_end hh y (by simp) λh' k=>hQ _ _ k
  ·exact wpAny_pyNext_wide_end hh y (by simp) λh' k=>hQ _ _ k
 ·refine j7 t ?_;clear t;intro a arr n e1 d y
  replace e:=KO e
  subst e;have:=d.size;exact wpAny_pyNext_tuple_end hh y ⟨_,R.frz _ _ e1,rfl,n,rfl⟩ (by simp;exact Q2 0x4611265112541103 [_,_,_] hi this rfl) λh' k=>hQ _ _ k
 ·refine cP t ?_;clear t;intro a arr e1 d y
  replace e:=KO e
  subst e;have:=d.size;exact wpAny_pyNext_list_end hh y (e1.isList R.frz) (by simp;exact Q2 0x4611265112541103 [_,_,_] hi this rfl) λh' k=>hQ _ _ k
 ·rename_i lo MI;refine oI e λq e=>?_;cases e;rw[iw]at hi;exact wpAny_pyNext_range_end hh t (by lia) λh' k=>hQ _ _ k
 ·rename_i k;refine ak t ?_;clear t;intro a e1 y;refine ak (R.list (stands_obj hs) e1) λarr hl d=>?_;have:=d.size;exact wpAny_pyNext_list_end hh y (aP hl) (by simp;exact Q2 0x4611265112541103 [_,_,_] hi this rfl) λh' k=>hQ _ _ k
end
theorem Hg {x y:Nat}(h:x≠y):Nat.beq x y=false:=by
 cases e:Nat.beq x y
 ·rfl
 ·exact absurd (Nat.eq_of_beq_eq_true e) h
theorem mh (z x:Nat)(v w:AV)(r:Loc):ai ((z,v)::r) x w=if Nat.beq z x=true then (z,w)::r else (z,v)::ai r x w:=rfl
theorem gF (z x:Nat)(v:AV)(r:Loc):af ((z,v)::r) x=if Nat.beq z x=true then some v else af r x:=rfl
theorem eh:∀ (σ:Loc) (x:Nat) (w:AV) (y:Nat),af (ai σ x w) y=if y=x then some w else af σ y:=by
 intro σ
 induction σ with
 |nil=>
  intro x w y;by_cases h:y=x
  ·exact(if_pos (beq_eq.mpr h.symm)).trans (if_pos h).symm
  ·exact(if_neg λz=>h (beq_eq.mp z).symm).trans (if_neg h).symm
 |cons Lp r ih=>
  obtain⟨z,v⟩:=Lp;intro x w y;by_cases hz:z=x
  ·rw[mh,if_pos (beq_eq.mpr hz),gF,gF];by_cases h:y=x
   ·rw[if_pos h];exact if_pos (beq_eq.mpr (hz.trans h.symm))
   ·have q:¬ Nat.beq z y=true:=λe=>h ((beq_eq.mp e).symm.trans hz);rw[if_neg h,if_neg q,if_neg q]
  ·rw[mh,if_neg λz=>hz (beq_eq.mp z),gF,gF,ih x w y];by_cases h:z=y
   ·rw[if_pos (beq_eq.mpr h),if_pos (beq_eq.mpr h)];exact(if_neg λq=>hz (h.trans q)).symm
   ·rw[if_neg λq=>h (beq_eq.mp q),if_neg λq=>h (beq_eq.mp q)]
theorem Step.own1 {a:Addr}{own:List Addr}(ha:a∈own)(hs:Heap.SameBut a h h')(e:∃ o,h'.get? a=some o):Step F φ own h F φ h':=
 ⟨K7.refl F,λ_ _ q=>.inl q,prefix_refl φ,λ_ m=>.inl m,λb o q=>by
  by_cases z:b=a
  ·subst z;exact e
  ·exact⟨o,(hs.2 b z).trans q⟩,λb o q _ _ _ n4=>(hs.2 b λz=>n4 (z▸ha)).trans q⟩
theorem Kj.own1 {a:Addr}(R:Kj Z F φ st h)(n1:F a=none)(n2:a∉φ)(n3:a≠cQ)(n4:a≠dq)(hs:Heap.SameBut a h h'):Kj Z F φ st h':=
 R.heap λb o e m=>by
  have:b≠a:=by
   rintro rfl;rcases m with m |⟨o',m⟩ |m |m
   ·exact n2 m
   ·rw[n1]at m;cases m
   ·exact n3 m
   ·exact n4 m
  exact(hs.2 b this).trans e
theorem iU {x:Str}{c:Addr}(e:env.cells.lookup x=some c):c∈env.locals::env.cells.map (·.2):=
 .tail _ (mem_map.mpr ⟨(x,c),Kv.kept.lookup_mem e,rfl⟩)
theorem bQ {x:Nat}{v:AV}{v':Value}{Q:Unit->Shared->Prop}(L:Kl F φ σ sc env O s.heap)(R:Kj Z F φ st s.heap)
  (hx:sc.names.lookup (nm x)=some .local\/sc.names.lookup (nm x)=some .cell) (hv:VR F φ v v')
  (hQ:∀ h1 tk,Step F φ O s.heap F φ h1->Kj Z F φ st h1->Kl F φ (ai σ x v) sc env O h1->Q () ⟨h1,s.gens,s.drawn,tk,s.os⟩) :
  aA w A (storeName env (nm x) v') Q aq s:=by
 have kf:(env.scope.kind==.class||(env.scope.kind==.module&&env.locals != env.globals))=false:=by rw[L.kind];rfl
 rcases hx with hx |hx
 ·have hk:=L.lc _ hx;refine aw L.ns λm hn=>?_;refine gQ (L.own env.locals (.head _)) λp1 p2 p3 p4=>?_;refine wpAny_storeName_local hk hn (λh1 MC hs=>hQ h1 _ (Step.own1 L.loO hs (let ⟨o,_,_,e,_⟩:=MC;⟨o,e⟩)) (R.own1 p1 p2 p3 p4 hs) ?_) kf;have ne:∀ c∈env.cells.map (·.2),c≠env.locals:=λc m z=>L.off (z▸m);refine⟨L.kind,L.glob,L.blt,L.gl,L.lc,L.cl,L.fr,⟨_,MC⟩,λy u e=>?_,L.apart,L.off,L.own,λc m=>?_,L.loO,L.subO⟩
  ·rw[eh]at e;by_cases z:y=x
   ·subst z;rw[if_pos rfl]at e;cases e;exact⟨v',hv,.inl ⟨hk,_,MC,by simp⟩⟩
   ·rw[if_neg z]at e;refine ak (L.val y u e) λu' hu n=>?_;refine⟨u',hu,?_⟩;rcases n with ⟨k,m',a,b⟩ |⟨k,c,a,b⟩
    ·refine .inl ⟨k,_,MC,?_⟩
     have:m'=m:=by
      refine mN a ?_;clear a;intro o1 es1 ep1 q1 q2 q3 q4;refine mN hn ?_;clear hn;intro o2 PD ep2 r1 r2 r3 r4;rw[q1]at r1;cases r1;rw[q2]at r2;cases r2;funext n;rw[← q4,← r4]
     subst this;have nz:nm y≠nm x:=λz'=>z (nm_inj z');simp only[if_neg nz];exact b
    ·exact .inr ⟨k,c,a,b.sameBut hs (ne _ (mem_map.mpr ⟨(_,_),Kv.kept.lookup_mem a,rfl⟩))⟩
  ·refine aw (L.cel c m) λu hu=>?_;exact⟨u,hu.sameBut hs (ne c m)⟩
 ·obtain⟨hk,c,hc,hO⟩:=L.cl _ hx;refine aw (L.cel c (mem_map.mpr ⟨(_,c),Kv.kept.lookup_mem hc,rfl⟩)) λu hu=>?_;refine gQ (L.own c (iU hc)) λp1 p2 p3 p4=>?_;refine wpAny_storeName_cell L.kind hk hc hu λh1 Oo hs=>hQ h1 _ (Step.own1 hO hs (let ⟨o,e,_⟩:=Oo;⟨o,e⟩)) (R.own1 p1 p2 p3 p4 hs) ?_;have nl:env.locals≠c:=λz=>L.off (z▸mem_map.mpr ⟨(_,_),Kv.kept.lookup_mem hc,rfl⟩);refine⟨L.kind,L.glob,L.blt,L.gl,L.lc,L.cl,L.fr,?_,λy t e=>?_,L.apart,L.off,L.own,λd m=>?_,L.loO,L.subO⟩
  ·refine aw L.ns λm hn=>?_;exact⟨m,hn.sameBut hs nl⟩
  ·rw[eh]at e;by_cases z:y=x
   ·subst z;rw[if_pos rfl]at e;cases e;exact⟨v',hv,.inr ⟨.inl hk,c,hc,Oo⟩⟩
   ·rw[if_neg z]at e;refine ak (L.val y t e) λt' ht n=>?_;refine⟨t',ht,?_⟩;rcases n with ⟨k,m',a,b⟩ |⟨k,d,a,b⟩
    ·exact .inl ⟨k,m',a.sameBut hs nl,b⟩
    ·refine .inr ⟨k,d,a,b.sameBut hs λq=>z ?_⟩;subst q;exact nm_inj (L.apart _ _ _ a hc)
  ·by_cases q:d=c
   ·subst q;exact⟨_,Oo⟩
   ·refine aw (L.cel d m) λt ht=>?_;exact⟨t,ht.sameBut hs q⟩
theorem Step.any {own:List Addr}(S:Step F φ [] h F' Kn h'):Step F φ own h F' Kn h':=S.own λ_ m=>by cases m
theorem qC:∀ (xs:List Nat) (es:List Expr),nb sc xs es=true->(assignEach es env).length=xs.length/\(assignEach es env).findIdx? (·.1)=none:=by
 intro xs
 induction xs with
 |nil=>
  intro es c;exact isEmpty_iff.mp c▸⟨rfl,rfl⟩
 |cons x xs ih=>
  intro es c
  exact bD (P:=λes=>(assignEach es env).length=xs.length+1/\(assignEach es env).findIdx? (·.1)=none) (λe es c=>bn (P:=λe=>(assignEach (e::es) env).length=xs.length+1/\(assignEach (e::es) env).findIdx? (·.1)=none)
   (λp c=>bU c λ_ c=>⟨congrArg (·+1) (ih es c).1,by
    show List.findIdx? (·.1) ((false,assign _ env)::assignEach es env)=none
    rw[findIdx?_cons,(ih es c).2];rfl⟩) c) c
theorem qD (xs:List Nat)(vs:List AV)(Kr:List Value)(σ Kh:Loc)(e:bA σ xs vs=some Kh)(V:Km F φ vs Kr):Kr.length=xs.length:=V.length.symm.trans (cJ e)
theorem qE (xs:List Nat)(es:List Expr)(vs:List AV)(Kr:List Value){σ Kh:Loc}{s:Shared}{Q:Unit->Shared->Prop}(c:nb sc xs es=true)(e:bA σ xs vs=some Kh):Km F φ vs Kr ->
  Kl F φ σ sc env O s.heap->Kj Z F φ st s.heap ->
  (∀ h1 tk,Step F φ O s.heap F φ h1->Kj Z F φ st h1->Kl F φ Kh sc env O h1->Q () ⟨h1,s.gens,s.drawn,tk,s.os⟩) ->
  aA w A (assignInOrder ((assignEach es env).map (·.2)) Kr) Q aq s:=by
 refine eC (P:=λσ xs vs=>∀ es Kr s,nb sc xs es=true->Km F φ vs Kr->Kl F φ σ sc env O s.heap->Kj Z F φ st s.heap ->
  (∀ h1 tk,Step F φ O s.heap F φ h1->Kj Z F φ st h1->Kl F φ Kh sc env O h1->Q () ⟨h1,s.gens,s.drawn,tk,s.os⟩) ->
  aA w A (assignInOrder ((assignEach es env).map (·.2)) Kr) Q aq s) ?_ ?_ xs vs σ e es Kr s c
 ·intro es ws s c hv L R hQ;refine Km.nilR (Q:=λws=>aA w A (assignInOrder ((assignEach es env).map (·.2)) ws) Q aq s) ?_ hv;exact isEmpty_iff.mp c▸wpAny_pure (hQ s.heap s.toks (Step.refl ..) R L)
 ·intro σ x xs v vs ih es ws s c hv L R hQ;refine Km.consR (Q:=λws=>aA w A (assignInOrder ((assignEach es env).map (·.2)) ws) Q aq s) (λv' Kr hv Oq=>?_) hv;refine bD (P:=λes=>aA w A (assignInOrder ((assignEach es env).map (·.2)) (v'::Kr)) Q aq s) (λe0 es c=>?_) c;refine bn (P:=λe0=>aA w A (assignInOrder ((assignEach (e0::es) env).map (·.2)) (v'::Kr)) Q aq s) (λp c=>?_) c;refine bU c λc1 c2=>?_;refine wpAny_bind (wpAny_holding (wpAny_assign_Name (bQ L R (dZ c1) hv λh1 tk S1 R1 L1=>?_)));exact ih es Kr ⟨h1,s.gens,s.drawn,tk,s.os⟩ c2 Oq L1 R1 λh2 Ku S2 R2 L2=>hQ h2 Ku (S1.trans S2) R2 L2
theorem nf {E:Value->Shared->Prop}{it t:Addr}{items:Array Value}(Lu:t≠it):∀ (n i:Nat) (s:Shared) (Q:List Value->Shared->Prop),s.heap.IsListIter it t i->s.heap.IsList t items->i+n<=items.size ->
  (∀ h',h'.IsListIter it t (i+n)->Heap.SameBut it s.heap h'->Q ((items.toList.drop i).take n) { s with heap:=h' })->aA w A (draw (.ref it) n) Q E s:=by
 intro n
 induction n with
 |zero=>
  intro i s Q gW _ _ hQ;show wpAny _ _ (pure []) Q E s;exact wpAny_pure (by simpa using hQ s.heap gW (Heap.SameBut.refl ..))
 |succ n ih=>
  intro i s Q gW ht hle hQ;have Lj:i<items.size:=by exact JP
  show wpAny _ _ (pyNext (.ref it)>>=_) Q E s;refine wpAny_bind (wpAny_pyNext_list_item gW ht (x:=items[i]) (by simp[Lj]) λK1 Mr Me=>?_)
  have ht1:K1.IsList t items:=by
   refine ak ht ?_;clear ht;intro o ho r;exact⟨o,(Me.2 t Lu).trans ho,r⟩
  refine wpAny_bind (wpAny_holding (ih (i+1) _ _ Mr ht1 (by exact Q1 0x61115040110651114001102 [_,_,_] hle rfl) λK8 hit₂ hs₂=>wpAny_pure ?_));have hd:items.toList.drop i=items[i]::items.toList.drop (i+1):=by simp[List.drop_eq_getElem_cons,Lj]
  have:=hQ K8 (by rw[show i+(n+1)=i+1+n by exact le_antisymm (Q0 0x511140011150401101 [_,_] rfl) (Q0 0x111504051114001101 [_,_] rfl)];exact hit₂) (Me.trans hs₂);rw[hd,List.take_succ_cons]at this;exact this
theorem kA {E:Value->Shared->Prop}{t:Addr}{items:Array Value}{targets:List (Bool×(Value->Sem Unit))}{Q:Unit->Shared->Prop}(hh:A.handled=none)(ht:s.heap.IsList t items)
  (hn:targets.length=items.size) (Mf:targets.findIdx? (·.1)=none)
  (h:∀ h',Heap.ExtBut s.heap.objs.size s.heap h'->aA w A (assignInOrder (targets.map (·.2)) items.toList) Q E { s with heap:=h' }) :
  aA w A (unpack (.ref t) targets) Q E s:=by
 unfold unpack;rw[hn,Mf];refine wpAny_bind (wpAny_holding ?_);have Lj:t≠s.heap.objs.size:=by refine ak ht ?_;clear ht;intro o ho _;exact ne_of_lt (lt_size ho)
 unfold unpackItems;refine wpAny_bind ?_
 ·unfold notIterableAtAll;refine wpAny_bind (wpAny_specialOf ht.typeIs PySem.F.slot_list_iter.lookup ?_);refine wpAny_pure ?_;simp only[false_eq_true,if_false];refine wpAny_bind (wpAny_holding (wpAny_pyIter_list ht ?_))
  have ht0:∀ o',(s.heap.push o').IsList t items:=λo'=>by
   refine ak ht ?_;clear ht;intro o ho r;exact⟨o,aC _ _ ho,r⟩
  refine wpAny_bind (wpAny_holding (nf Lj items.size 0 _ _ ⟨_,get?_push_size _ rfl,rfl,rfl⟩ (ht0 _) (by exact Q0 0x440101101 [_] rfl) λK1 Mr Me=>?_))
  have hall:List.take items.size (List.drop 0 items.toList)=items.toList:=by
   rw[List.drop_zero];exact List.take_of_length_le (by simp)
  rw[hall];rw[if_neg (by simp)]
  have ht₁:K1.IsList t items:=by
   refine ak ht ?_;clear ht;intro o ho r;exact⟨o,(Me.2 t Lj).trans (aC _ _ ho),r⟩
  refine wpAny_bind (wpAny_holding (wpAny_pyNext_list_end hh Mr ht₁ (by simp) λK8 he₂=>?_));simp only[Option.isSome_none,false_eq_true,if_false];exact wpAny_pure (h K8 λb o hb e=>he₂ b o hb (Me.extBut b o hb (Heap.get?_push_of_some _ e)))
theorem eX {tg:Tg}{t:Expr}{v:AV}{v':Value}{Kh:Loc}{Q:Unit->Shared->Prop}(hh:A.handled=none)(c:gR sc tg t=true)(e:aQ σ tg v=some Kh)(L:Kl F φ σ sc env O s.heap)(R:Kj Z F φ st s.heap)
  (hv:VR F φ v v')
  (hQ:∀ h1 tk,Step F φ O s.heap F φ h1->Kj Z F φ st h1->Kl F φ Kh sc env O h1->Q () ⟨h1,s.gens,s.drawn,tk,s.os⟩) :
  aA w A (assign t env v') Q aq s:=by
 cases tg with
 |nm x=>exact bn (P:=λt=>aA w A (assign t env v') Q aq s) (λp c=>wpAny_assign_Name (bQ L R (dZ c) hv (KO e▸hQ))) c
 |tup xs=>
  refine gB (P:=λt=>aA w A (assign t env v') Q aq s) (λes k p c=>?_) c;refine av (qC (env:=env) xs es c) λf1 f2=>?_
  have main:∀ {vs:List AV} {ws:List Value} {h1:Heap},(∀ b o,s.heap.get? b=some o->h1.get? b=some o)->bA σ xs vs=some Kh->Km F φ vs ws->aA w A (assignInOrder ((assignEach es env).map (·.2)) ws) Q aq ⟨h1,s.gens,s.drawn,s.toks,s.os⟩:=
   λkk e d=>qE xs es _ _ (s:=⟨_,s.gens,s.drawn,s.toks,s.os⟩) c e d (L.step (Step.ext kk)) (R.ext kk) λh2 Ku S2 R2 L2=>hQ h2 Ku ((Step.ext kk).any.trans S2) R2 L2
  have kk:∀ {h1:Heap},Heap.ExtBut s.heap.objs.size s.heap h1->∀ b o,s.heap.get? b=some o->h1.get? b=some o:=λk1 b o q=>k1 b o (ne_of_lt (lt_size q)) q;have len:∀ {vs:List AV} {arr:Array Value},bA σ xs vs=some Kh->Km F φ vs arr.toList->(assignEach es env).length=arr.size:=λe d=>f1.trans (qD xs _ _ _ _ e d).symm;cases v<;>try exact absurd e bg
  ·exact VR.tupR (P:=λv'=>aA w A (assign (.Tuple es k p) env v') Q aq s) (λa arr n e1 d=>wpAny_assign_Tuple hh ⟨_,R.frz _ _ e1,rfl,n,rfl⟩ (len e d) f2 λh1 k1=>main (kk k1) e d) hv
  ·exact VR.lstR (P:=λv'=>aA w A (assign (.Tuple es k p) env v') Q aq s) (λa arr e1 d=>by
    rw[arm_assign_Tuple]
    exact wpAny_bind (wpAny_standAt (kA hh (e1.isList R.frz) (len e d) f2 λh1 k1=>main (kk k1) e d))) hv
noncomputable def cF (cells:List (Str×Addr)):List (Str×NameKind)->List (Str×Addr)->List (Str×Addr)
 |[],acc=>acc
 |(n,k)::r,acc=>if k==.free then cF cells r ((n,(cells.lookup n).getD 0)::acc) else cF cells r acc
theorem iy (cells:List (Str×Addr))(n:Str)(k:NameKind)(r:List (Str×NameKind))(acc:List (Str×Addr)):cF cells ((n,k)::r) acc=if k==.free then cF cells r ((n,(cells.lookup n).getD 0)::acc) else cF cells r acc:=rfl
theorem kD {env:Env}(f:Str×NameKind->List (Str×Addr)->Sem (ForInStep (List (Str×Addr))))
  (hf:∀ name kind cells,f (name,kind) cells=if kind==.free then (do let a ← cellOf env name;Pure.pure (.yield ((name,a)::cells))) else Pure.pure (.yield cells)) :
  ∀ (names:List (Str×NameKind)) (acc:List (Str×Addr)),(∀ n,(n,NameKind.free)∈names->∃ c,env.cells.lookup n=some c)->forIn names acc f=Pure.pure (cF env.cells names acc)
 |[],acc,_=>by rw[List.forIn_nil];rfl
 |(n,k)::r,acc,h=>by
  rw[forIn_cons,hf];rw[iy];by_cases q:(k==NameKind.free)=true
  ·rw[if_pos q,if_pos q];have hk:k=.free:=eq_of_beq q;subst hk;refine aw (h n (.head _)) λc e=>?_;have:cellOf env n=Pure.pure c:=by unfold cellOf;rw[e]
   rw[this,e];simp only[pure_bind,getD_some];exact kD f hf r _ λn m=>h n (.tail _ m)
  ·rw[if_neg q,if_neg q];simp only[pure_bind];exact kD f hf r _ λn m=>h n (.tail _ m)
theorem gf {env:Env}{scope:Scope}(h:∀ n,(n,NameKind.free)∈scope.names->∃ c,env.cells.lookup n=some c):closureFor scope env=Pure.pure (cF env.cells scope.names []):=by
 have:=kD (env:=env) (λx __s=>match x with
   |(name,kind)=>if (kind==NameKind.free)=true then (do let a ← cellOf env name;Pure.pure (ForInStep.yield ((name,a)::__s))) else Pure.pure (ForInStep.yield __s)) (λname kind cells=>rfl) scope.names [] h
 show(forIn scope.names [] _>>=λx=>Pure.pure x)=_;refine(congrArg (·>>=λx=>Pure.pure x) this).trans ?_;rfl
theorem rT {cells:List (Str×Addr)}:∀ (names:List (Str×NameKind)) (acc:List (Str×Addr)),(∀ n,(n,NameKind.free)∈names->∃ c,cells.lookup n=some c)->∀ x c,(x,c)∈cF cells names acc->(x,c)∈acc\/(cells.lookup x=some c):=by
 intro names
 induction names with
 |nil=>
  intro acc _ x c m;exact .inl m
 |cons Lp r ih=>
  obtain⟨n,k⟩:=Lp;intro acc h x c m;rw[iy]at m;split at m
  ·rename_i q;have hk:k=.free:=eq_of_beq q;subst hk;refine aw (h n (.head _)) λc' e=>?_;rcases ih _ (λn m=>h n (.tail _ m)) x c m with m |m
   ·cases m with
    |head=>right;rw[e];rfl
    |tail _ m=>exact .inl m
   ·exact .inr m
  ·exact ih acc (λn m=>h n (.tail _ m)) x c m
theorem oQ {cells:List (Str×Addr)}:∀ (names:List (Str×NameKind)) (acc:List (Str×Addr)) x c,(x,c)∈cF cells names acc->(x,c)∈acc\/(x,NameKind.free)∈names:=by
 intro names
 induction names with
 |nil=>
  intro acc x c m;exact .inl m
 |cons Lp r ih=>
  obtain⟨n,k⟩:=Lp;intro acc x c m;rw[iy]at m;split at m
  ·rename_i q;have hk:k=.free:=eq_of_beq q;subst hk;rcases ih _ x c m with m |m
   ·cases m with
    |head=>exact .inr (.head _)
    |tail _ m=>exact .inl m
   ·exact .inr (.tail _ m)
  ·rcases ih acc x c m with m |m
   ·exact .inl m
   ·exact .inr (.tail _ m)
theorem kE {cells:List (Str×Addr)}:∀ (names:List (Str×NameKind)) (acc:List (Str×Addr)) (x:Str) (c:Addr),cells.lookup x=some c->(acc.lookup x=some c\/(acc.lookup x=none/\(x,NameKind.free)∈names))->(cF cells names acc).lookup x=some c:=by
 intro names
 induction names with
 |nil=>
  intro acc x c _ h;rcases h with h |⟨_,m⟩
  ·exact h
  ·cases m
 |cons Lp r ih=>
  obtain⟨n,k⟩:=Lp;intro acc x c e h;rw[iy];split
  ·rename_i q;refine ih _ x c e ?_;rw[lookup_cons];by_cases z:x=n
   ·subst z;simp[e]
   ·have:(x==n)=false:=by simpa using z
    rw[this];rcases h with h |⟨h,m⟩
    ·exact .inl h
    ·refine .inr ⟨h,?_⟩
     cases m with
     |head=>exact absurd rfl z
     |tail _ m=>exact m
  ·rename_i q;refine ih acc x c e ?_;rcases h with h |⟨h,m⟩
   ·exact .inl h
   ·refine .inr ⟨h,?_⟩
    cases m with
    |head=>exact absurd rfl q
    |tail _ m=>exact m
theorem rU:∀ (names:List (Str×NameKind)) (n:Nat) (acc:List (Str×Addr)) (x:Str),(x,NameKind.cell)∉names->(cellsFrom n names acc).lookup x=acc.lookup x:=by
 intro names
 induction names with
 |nil=>
  intro n acc x _;exact rfl
 |cons Lp r ih=>
  obtain⟨y,k⟩:=Lp;intro n acc x h;unfold cellsFrom;split
  ·rename_i q;have hk:k=.cell:=eq_of_beq q;subst hk;rw[ih _ _ x λm=>h (.tail _ m),lookup_cons]
   have:(x==y)=false:=by
    rw[beq_eq_false_iff_ne];rintro rfl;exact h (.head _)
   rw[this]
  ·exact ih _ _ x λm=>h (.tail _ m)
theorem rV:∀ (names:List (Str×NameKind)) (n:Nat) (acc:List (Str×Addr)) (x:Str),((x,NameKind.cell)∈names\/∃ c,acc.lookup x=some c)->∃ c,(cellsFrom n names acc).lookup x=some c:=by
 intro names
 induction names with
 |nil=>
  intro n acc x h;rcases h with h |h
  ·cases h
  ·exact h
 |cons Lp r ih=>
  obtain⟨y,k⟩:=Lp;intro n acc x h;unfold cellsFrom;split
  ·rename_i q;refine ih _ _ x ?_;by_cases z:x=y
   ·subst z;exact .inr ⟨n,by simp⟩
   ·rcases h with h |⟨c,h⟩
    ·cases h with
     |head=>exact absurd rfl z
     |tail _ m=>exact .inl m
    ·refine .inr ⟨c,?_⟩;rw[lookup_cons];have:(x==y)=false:=by simpa using z
     rw[this];exact h
  ·rename_i q;refine ih _ _ x ?_;rcases h with h |h
   ·cases h with
    |head=>exact absurd rfl q
    |tail _ m=>exact .inl m
   ·exact .inr h
theorem vm:∀ (names:List (Str×NameKind)) (h:Heap) (acc:List (Str×Addr)),(∀ x c,(x,c)∈acc->c<h.objs.size)->(∀ x y c,(x,c)∈acc->(y,c)∈acc->x=y) ->
  (∀ x c,(x,c)∈cellsFrom h.objs.size names acc->(x,c)∈acc\/(h.objs.size<=c/\(x,NameKind.cell)∈names/\(pushCells h names).IsCell c none)) /\
  (∀ x y c,(x,c)∈cellsFrom h.objs.size names acc->(y,c)∈cellsFrom h.objs.size names acc->x=y):=by
 intro names
 induction names with
 |nil=>
  intro h acc _ i;exact⟨λx c m=>.inl m,i⟩
 |cons Lp r ih=>
  obtain⟨y,k⟩:=Lp;intro h acc l i;unfold cellsFrom pushCells;split
  ·rename_i q;have hk:k=.cell:=eq_of_beq q;subst hk
   have:=ih (h.push { cls:=.type "cell",data:=.cell none }) ((y,h.objs.size)::acc) (λx c m=>by
     rw[size_push]
     cases m with
     |head=>exact lt_succ_self _
     |tail _ m=>exact lt_succ_of_lt (l x c m)) (λx z c m1 m2=>by
     cases m1 with
     |head=>
      cases m2 with
      |head=>rfl
      |tail _ m2=>exact absurd (l _ _ m2) (lt_irrefl _)
     |tail _ m1=>
      cases m2 with
      |head=>exact absurd (l _ _ m1) (lt_irrefl _)
      |tail _ m2=>exact i x z c m1 m2)
   rw[size_push]at this;refine⟨λx c m=>?_,this.2⟩;rcases this.1 x c m with m |⟨h1,h2,h3⟩
   ·cases m with
    |head=>exact .inr ⟨le_refl _,.head _,⟨_,pushCells_keeps _ _ _ _ (get?_push_size _ rfl),rfl⟩⟩
    |tail _ m=>exact .inl m
   ·exact .inr ⟨le_of_succ_le h1,.tail _ h2,h3⟩
  ·refine av (ih h acc l i) λh1 h2=>?_;refine⟨λx c m=>?_,h2⟩;rcases h1 x c m with m |⟨a,b,c⟩
   ·exact .inl m
   ·exact .inr ⟨a,.tail _ b,c⟩
theorem kG {scope:Scope}{env:Env}(x:Str):(relabel scope env).names.lookup x=(scope.names.lookup x).map λk=>if (k==.free&&env.scope.kind==.function&&env.kindOf x==some .cell)=true then .cell else k:=by
 unfold relabel;show List.lookup x (List.map _ scope.names)=_
 induction scope.names with
 |nil=>rfl
 |cons p r ih=>
  obtain⟨n,k⟩:=p;show List.lookup x ((if (k==NameKind.free&&env.scope.kind==.function&&env.kindOf n==some .cell)=true then (n,NameKind.cell) else (n,k))::List.map _ r)=_;by_cases hb:(k==NameKind.free&&env.scope.kind==.function&&env.kindOf n==some .cell)=true
  ·rw[if_pos hb,lookup_cons,lookup_cons];by_cases z:x=n
   ·subst z;simp only[beq_self_eq_true,map_some];rw[if_pos hb]
   ·have:(x==n)=false:=by simpa using z
    simp only[this];exact ih
  ·rw[if_neg hb,lookup_cons,lookup_cons];by_cases z:x=n
   ·subst z;simp only[beq_self_eq_true,map_some];rw[if_neg hb]
   ·have:(x==n)=false:=by simpa using z
    simp only[this];exact ih
theorem dM {names:List (Str×NameKind)}(nd:(names.map (·.1)).Nodup){x:Str}{k:NameKind}(m:(x,k)∈names):names.lookup x=some k:=by
 induction names with
 |nil=>cases m
 |cons p r ih=>
  obtain⟨n,j⟩:=p;rw[map_cons,nodup_cons]at nd;rw[lookup_cons]
  cases m with
  |head=>simp
  |tail _ m=>
   have:(x==n)=false:=by
    rw[beq_eq_false_iff_ne];rintro rfl;exact nd.1 (mem_map.mpr ⟨(_,_),m,rfl⟩)
   rw[this];exact ih nd.2 m
theorem hY {σ:Loc}{cap:List Nat}{x:Nat}{v:AV}(e:af (aX σ cap) x=some v):af σ x=some v/\x∈cap:=by
 unfold aX at e
 induction σ with
 |nil=>simp[af]at e
 |cons p r ih=>
  obtain⟨y,u⟩:=p;rw[filter_cons]at e;by_cases z:y=x
  ·subst z;have hb:Nat.beq y y=true:=by simp
   split at e
   ·rename_i m;simp only[af,hb,if_true]at e ⊢;exact⟨e,by simpa using m⟩
   ·rename_i m;have:=ih e;exact absurd (by simpa using this.2) m
  ·have hb:Nat.beq y x=false:=Hg z;split at e
   ·simp only[af,hb,false_eq_true,if_false]at e ⊢;exact ih e
   ·simp only[af,hb,false_eq_true,if_false];exact ih e
structure LZ (sc scope:Scope)(cap:List Nat):Prop where
 kind:scope.kind=.function
 nd:(scope.names.map (·.1)).Nodup
 free:∀ n,(n,NameKind.free)∈scope.names->sc.names.lookup n=some .cell\/sc.names.lookup n=some .free
 cap:∀ x∈cap,scope.names.lookup (nm x)=some .free
theorem iz {sc scope:Scope}{cap:List Nat}(h:yF sc scope cap=true):LZ sc scope cap:=by
 unfold yF at h;simp only[and_eq_true]at h;refine av h ?_;clear h;rintro⟨⟨h1,h2⟩,h3⟩ h4;refine⟨eq_of_beq h1,of_decide_eq_true h2,λn m=>?_,λx m=>?_⟩
 ·have:=all_eq_true.mp h3 _ m;simpa using this
 ·have:=all_eq_true.mp h4 x m;exact eq_of_beq this
theorem cR {names:List (Str×NameKind)}{x:Str}{k:NameKind}(h:names.lookup x=some k):(x,k)∈names:=Kv.kept.lookup_mem h
theorem Kl.free_cell (L:Kl F φ σ sc env O h)(ok:LZ sc scope cap){n:Str}(m:(n,NameKind.free)∈scope.names):(env.kindOf n=some .cell\/env.kindOf n=some .free)/\∃ c,env.cells.lookup n=some c:=by
 rcases ok.free n m with e |e
 ·obtain⟨a,c,b,_⟩:=L.cl _ e;exact⟨.inl a,c,b⟩
 ·exact L.fr _ e
theorem oR {Q:Env->Shared->Prop}{E:Value->Shared->Prop}{M:Model}(ok:LZ sc scope cap)(L:Kl F φ σ sc env O s.heap)(R:Kj Z F φ st s.heap)
  (hQ:∀ h1 Kk O',(∀ b o,s.heap.get? b=some o->h1.get? b=some o)->(∀ a∈O',s.heap.get? a=none)->(∀ a∈Kk.locals::Kk.cells.map (·.2),a∈O'\/a∈env.cells.map (·.2))->Kl F φ (aX σ cap) scope { Kk with scope:=relabel scope env } O' h1 ->
   Q Kk ⟨h1,s.gens,s.drawn,s.toks,s.os⟩) :
  wpAny M A (newFunctionEnv scope env.globals (cF env.cells scope.names []) [] env.qual none .none (some env)) Q E s:=by
 have M0:∀ n,(n,NameKind.free)∈scope.names->∃ c,env.cells.lookup n=some c:=λn m=>(L.free_cell ok m).2;unfold newFunctionEnv;refine wpAny_bind (wpAny_alloc ?_);refine wpAny_bind (wpAny_layCells _ (λname kind cells=>by cases PE:kind==NameKind.cell<;>simp[PE]) _ _ _ _ ?_);refine wpAny_bind ?_;rw[List.forIn_nil];refine wpAny_pure (wpAny_pure ?_);generalize hB:s.heap.push { cls:=Value.type (if (some env).isSome=true then "dict" else "frame"),data:=Data.dict #[] }=B;have sB:B.objs.size=s.heap.objs.size+1:=by rw[← hB,size_push]
 have kB:∀ b o,s.heap.get? b=some o->B.get? b=some o:=λb o e=>hB▸aC b o e;have kC:∀ b o,B.get? b=some o->(pushCells B scope.names).get? b=some o:=pushCells_keeps _ _
 have lt:∀ x c,(x,c)∈cF env.cells scope.names []->env.cells.lookup x=some c:=λx c m=>by
  rcases rT scope.names [] M0 x c m with m |m
  ·cases m
  ·exact m
 have ex:∀ {x:Str} {c:Addr},env.cells.lookup x=some c->∃ o,s.heap.get? c=some o:=λe=>L.ex _ (iU e)
 refine av (vm scope.names B (cF env.cells scope.names []) (λx c m=>by
  refine aw (ex (lt x c m)) λo e=>?_
  rw[sB];exact lt_succ_of_lt (lt_size e)) (λx y c m1 m2=>L.apart x y c (lt x c m1) (lt y c m2))) λa1 a2=>?_
 have PF:B.Ns s.heap.objs.size (λ_=>none):=by
  rw[← hB];exact Heap.Ns.new s.heap _
 have absent:∀ c,s.heap.objs.size<=c->s.heap.get? c=none:=λc hc=>by
  cases q:s.heap.get? c with
  |none=>rfl
  |some o=>exact absurd (lt_size q) (not_lt.mpr hc)
 refine hQ (pushCells B scope.names) _ (s.heap.objs.size::((cellsFrom B.objs.size scope.names (cF env.cells scope.names [])).map (·.2)).filter λc=>decide (s.heap.objs.size<=c)) (λb o e=>kC b o (kB b o e)) (λa m=>?_) (λa m=>?_) ?_
 ·cases m with
  |head=>exact absent _ (le_refl _)
  |tail _ m=>
   refine av (mem_filter.mp m) λ_ m2=>?_;exact absent a (of_decide_eq_true m2)
 ·cases m with
  |head=>exact .inl (.head _)
  |tail _ m=>
   refine ak (mem_map.mp m) ?_;rintro⟨x,c⟩ m1 m2;simp only at m2;subst m2;rcases a1 x c m1 with q |⟨q,_⟩
   ·exact .inr (mem_map.mpr ⟨(x,c),Kv.kept.lookup_mem (lt x c q),rfl⟩)
   ·refine .inl (.tail _ (mem_filter.mpr ⟨mem_map.mpr ⟨(x,c),m1,rfl⟩,?_⟩));rw[sB]at q;exact decide_eq_true (le_of_succ_le q)
 ·have kd:∀ x,Env.kindOf { scope:=relabel scope env,locals:=s.heap.objs.size,globals:=env.globals,cells:=cellsFrom B.objs.size scope.names (cF env.cells scope.names []),qual:=env.qual,func:=none,code:=env.code,frame:=env.frame,builtins:=env.builtins } x
    = (scope.names.lookup x).map λk=>if (k==.free&&env.scope.kind==.function&&env.kindOf x==some .cell)=true then .cell else k:=λx=>kG x
  have L7:∀ x,scope.names.lookup x=some .free->(x,NameKind.cell)∉scope.names:=λx e m=>by
   rw[dM ok.nd m]at e;cases e
  have MK:∀ x c,scope.names.lookup x=some .free->env.cells.lookup x=some c->(cellsFrom B.objs.size scope.names (cF env.cells scope.names [])).lookup x=some c:=λx c e e2=>by
   rw[rU _ _ _ _ (L7 x e)];exact kE _ _ _ _ e2 (.inr ⟨rfl,cR e⟩)
  have split:∀ x c,(x,c)∈cellsFrom B.objs.size scope.names (cF env.cells scope.names [])->(env.cells.lookup x=some c)\/(s.heap.objs.size<c/\(pushCells B scope.names).IsCell c none):=λx c m=>by
   rcases a1 x c m with m |⟨m1,_,m3⟩
   ·exact .inl (lt x c m)
   ·exact .inr ⟨by rw[sB]at m1;exact m1,m3⟩
  refine⟨ok.kind,L.glob,L.blt,λx e=>?_,λx e=>?_,λx e=>?_,λx e=>?_,⟨_,PF.keeps kC⟩,λx v e=>?_,λx y c e1 e2=>?_,λm=>?_,λa m=>?_,λc m=>?_,.head _,λa m=>?_⟩
  ·rw[kd,e];rfl
  ·rw[kd,e];rfl
  ·refine⟨by rw[kd,e];rfl,?_⟩;refine aw (rV scope.names B.objs.size (cF env.cells scope.names []) x (.inl (cR e))) λc hc=>?_;refine⟨c,hc,.tail _ (mem_filter.mpr ⟨mem_map.mpr ⟨(x,c),Kv.kept.lookup_mem hc,rfl⟩,?_⟩)⟩;rcases a1 x c (Kv.kept.lookup_mem hc) with m |⟨m,_⟩
   ·exfalso;rcases oQ _ _ _ _ m with m |m
    ·cases m
    ·have:=dM ok.nd m;rw[e]at this;cases this
   ·rw[sB]at m;exact decide_eq_true (le_of_succ_le m)
  ·obtain⟨h1,c,h2⟩:=L.free_cell ok (cR e);refine⟨?_,c,MK x c e h2⟩;rw[kd,e,map_some];split
   ·exact .inl rfl
   ·exact .inr rfl
  ·refine av (hY e) λe1 e2=>?_;have ef:=ok.cap x e2;refine ak (L.val x v e1) λv' hv n=>?_;obtain⟨h1,c,h2⟩:=L.free_cell ok (cR ef);refine⟨v',hv,.inr ⟨?_,c,MK _ c ef h2,?_⟩⟩
   ·rw[kd,ef,map_some];split
    ·exact .inl rfl
    ·exact .inr rfl
   ·rcases n with ⟨k,_⟩ |⟨k,d,n1,n2⟩
    ·rcases h1 with h1 |h1<;>rw[h1]at k<;>cases k
    ·rw[h2]at n1;cases n1;exact n2.keeps λb o e=>kC b o (kB b o e)
  ·exact a2 x y c (Kv.kept.lookup_mem e1) (Kv.kept.lookup_mem e2)
  ·refine ak (mem_map.mp m) ?_;rintro⟨x,c⟩ m1 m2;simp only at m2;subst m2;rcases split x _ m1 with q |⟨q,_⟩
   ·refine aw (ex q) λo e=>?_;exact absurd (lt_size e) (lt_irrefl _)
   ·exact absurd q (lt_irrefl _)
  ·cases m with
   |head=>exact R.absent (absent _ (le_refl _))
   |tail _ m=>
    refine ak (mem_map.mp m) ?_;rintro⟨x,c⟩ m1 m2;simp only at m2;subst m2;rcases split x _ m1 with q |⟨q,_⟩
    ·exact L.own _ (iU q)
    ·exact R.absent (absent _ (le_of_lt q))
  ·refine ak (mem_map.mp m) ?_;rintro⟨x,c'⟩ m1 m2;simp only at m2;subst m2;rcases split x _ m1 with q |⟨_,q⟩
   ·refine aw (L.cel _ (mem_map.mpr ⟨(x,c'),Kv.kept.lookup_mem q,rfl⟩)) λv hv=>?_;exact⟨v,hv.keeps λb o e=>kC b o (kB b o e)⟩
   ·exact⟨_,q⟩
  ·cases m with
   |head=>exact .head _
   |tail _ m=>exact .tail _ (mem_filter.mp m).1
section
variable {R:Result->Shared->Prop}{α:Type}
theorem oS {M:Model}{t:Sem α}{Q:α->Shared->Prop}{E:Value->Shared->Prop}(h:wpAny M A t Q aq s):wpAny M A t Q E s:=wpAny_mono h (λ_ _ q=>q) λ_ _ f=>f.elim
noncomputable def fI (ifs:List Expr)(env:Env):Sem Bool:=forIn ifs true λc r=>if r=true then do let ok ← isTrue c env (eval c env);Pure.pure (ForInStep.yield ok) else Pure.pure (ForInStep.yield r)
theorem oU {elt target iter:Expr}{ifs:List Expr}{scope:Scope}{pos:Pos}{it acc:Value}{env:Env}(I:Nat->Shared->Prop)
  (bV:∀ n s,I n s->aA w A (pyNext it) (λr Kt=>match r with
   |none=>R (.ok .next) Kt
   |some v=>aA w A (letOwnedTupleGo target it v) (λ_ Lk=>aA w A (assign target env v) (λ_ Kx=>
     aA w A (fI ifs env) (λok KY=>
      if ok=true then aA w A (eval elt env) (λx LN=>
       aA w A (call (.builtin "list.append") [acc,x]) (λ_ Lq=>∃ m,m<n/\I m Lq) aq LN) aq KY
      else ∃ m,m<n/\I m KY) aq Kx) aq Lk) aq Kt) aq s)
  (n:Nat) (h:I n s) :
  codeAny (model aM w) A (.compLoop (.ListComp elt [⟨target,iter,ifs,0⟩] scope pos) 0 it acc env) R s:=by
 refine codeAny_loop rfl I (λn s hI=>?_) n h;show wpAny _ A ((compTurn (.ListComp elt [⟨target,iter,ifs,0⟩] scope pos) 0 it acc env).onRaise (λx=>do noteFrame x env;theTreesLotGoes x)) _ _ s;refine wpAny_noted ?_;rw[compTurn_list];refine wpAny_bind (wpAny_standAt (wpAny_bind (wpAny_mono (bV n s hI) (λr Kt K1=>?_) λ_ _ f=>f.elim)))
 cases r with
 |none=>exact wpAny_pure K1
 |some v=>
  refine wpAny_bind (wpAny_mono K1 (λ_ Lk LC=>?_) λ_ _ f=>f.elim);refine wpAny_bind (wpAny_mono LC (λ_ Kx K8=>wpAny_bind (wpAny_mono K8 (λok KY Lo=>?_) λ_ _ f=>f.elim)) λ_ _ f=>f.elim)
  cases ok with
  |false=>exact wpAny_pure ⟨rfl,Lo⟩
  |true=>
   exact wpAny_bind (wpAny_bind (wpAny_mono Lo (λx LN M1=>wpAny_bind (wpAny_mono M1 (λ_ Lq ML=>wpAny_pure (wpAny_pure ⟨rfl,ML⟩)) λ_ _ f=>f.elim)) λ_ _ f=>f.elim))
end
theorem qF {xs:List Nat}{vs:List AV}{σ Kh:Loc}(h:bA σ xs vs=some Kh):∀ y,y∉xs->af Kh y=af σ y:=
 eC (P:=λσ xs vs=>∀ y,y∉xs->af Kh y=af σ y) (λy h=>rfl) (λσ x xs v vs ih y h=>(ih y λm=>h (.tail _ m)).trans ((eh ..).trans (if_neg (by rintro rfl;exact h (.head _))))) _ _ _ h
theorem iV {tg:Tg}{v:AV}{σ Kh:Loc}(e:aQ σ tg v=some Kh)(y:Nat)(h:y∉dX tg):af Kh y=af σ y:=by
 cases tg with
 |nm x=>
  exact KO e▸(eh ..).trans (if_neg (by rintro rfl;exact h (.head _)))
 |tup xs=>
  cases v<;>first |exact absurd e bg |exact qF e y h
theorem qG {sc:Scope}:∀ (xs:List Nat) (es:List Expr),nb sc xs es=true->∀ y∈xs,sc.names.lookup (nm y)=some .local\/sc.names.lookup (nm y)=some .cell:=by
 intro xs
 induction xs with
 |nil=>
  intro _ _ _ m;exact nomatch m
 |cons x xs ih=>
  intro es c y m
  exact bD (P:=λ_=>sc.names.lookup (nm y)=some .local\/sc.names.lookup (nm y)=some .cell) (λe es c=>bn (P:=λ_=>sc.names.lookup (nm y)=some .local\/sc.names.lookup (nm y)=some .cell)
   (λ_ c=>bU c λc1 c2=>(mem_cons.mp m).elim (λq=>q▸dZ c1) (ih es c2 y)) c) c
theorem kH {sc:Scope}{tg:Tg}{t:Expr}(c:gR sc tg t=true):∀ y∈dX tg,sc.names.lookup (nm y)=some .local\/sc.names.lookup (nm y)=some .cell:=by
 cases tg with
 |nm x=>exact λy m=>bn (P:=λ_=>sc.names.lookup (nm y)=some .local\/sc.names.lookup (nm y)=some .cell) (λ_ c=>mem_singleton.mp m▸dZ c) c
 |tup xs=>exact λy m=>gB (P:=λ_=>sc.names.lookup (nm y)=some .local\/sc.names.lookup (nm y)=some .cell) (λes _ _ c=>qG xs es c y m) c
theorem Kl.weaken (L:Kl F φ Kh sc env O h)(k:∀ y v,af σ y=some v->af Kh y=some v):Kl F φ σ sc env O h:=
 ⟨L.kind,L.glob,L.blt,L.gl,L.lc,L.cl,L.fr,L.ns,λx v e=>L.val x v (k x v e),L.apart,L.off,L.own,L.cel,L.loO,L.subO⟩
theorem keep_bind {tg:Tg}{t:Expr}{v:AV}(ok:LZ sc scope cap)(c:gR scope tg t=true)(e:aQ (aX σ cap) tg v=some Kh):∀ y u,af (aX σ cap) y=some u->af Kh y=some u:=by
 intro y u e1;refine av (hY e1) λ_ m=>?_;refine Eq.trans (iV e y λm'=>?_) ?_;rotate_left
 ·exact e1
 ·have:=ok.cap y m;rcases kH c y m' with z |z<;>rw[z]at this<;>cases this
structure KD (F:bf)(φ:List Addr)(h:Heap)(a:Addr):Prop where
 ex:∃ o,h.get? a=some o
 f:F a=none
 p:a∉φ
 t1:a≠cQ
 t2:a≠dq
section
variable {a:Addr}
theorem KD.step (P:KD F φ h a)(S:Step F φ own h F' Kn h'):KD F' Kn h' a:=by
 refine aw P.ex λo e=>?_;refine⟨S.dom a o e,?_,λm=>?_,P.t1,P.t2⟩
 ·cases q:F' a with
  |none=>rfl
  |some o'=>
   rcases S.fnew a o' q with z |z |z
   ·rw[P.f]at z;cases z
   ·rw[e]at z;cases z
   ·exact(P.p z).elim
 ·rcases S.pnew a m with z |z
  ·exact P.p z
  ·rw[e]at z;cases z
theorem KD.kept (P:KD F φ h a)(S:Step F φ own h F' Kn h')(n:a∉own){o:Obj}(e:h.get? a=some o):h'.get? a=some o:=S.kept a o e P.p P.t1 P.t2 n
theorem KD.new (R:Kj Z F φ st h)(e:h.get? a=none)(k:∀ b o,h.get? b=some o->h'.get? b=some o)(x:∃ o,h'.get? a=some o):KD F φ h' a:=
 let ⟨n1,n2,n3,n4⟩:=R.absent e;⟨x,n1,n2,n3,n4⟩
theorem Kl.keep (L:Kl F φ σ sc env O h)(k:∀ b∈env.locals::env.cells.map (·.2),∀ o,h.get? b=some o->h'.get? b=some o):Kl F φ σ sc env O h':=by
 refine⟨L.kind,L.glob,L.blt,L.gl,L.lc,L.cl,L.fr,?_,λx v e=>?_,L.apart,L.off,L.own,λc m=>?_,L.loO,L.subO⟩
 ·refine aw L.ns λm n=>?_;exact⟨m,Heap.Ns.at' n λo e=>k _ (.head _) o e⟩
 ·refine ak (L.val x v e) λv' a b=>?_;exact⟨v',a,b.kept k⟩
 ·refine dc (L.cel c m) λv o e d=>?_;exact⟨v,o,k c (.tail _ m) o e,d⟩
theorem Kl.privA (L:Kl F φ σ sc env O h){b:Addr}(m:b∈env.locals::env.cells.map (·.2)):KD F φ h b:=
 let ⟨n1,n2,n3,n4⟩:=L.own b m;⟨L.ex b m,n1,n2,n3,n4⟩
theorem jq {ok:St->Bool}{f:AV->St->Option (List AV×St)}{v:AV}{r:List AV}{out:List AV}(e:aU ok f (v::r) st=some (out,Kd)) :
  ok st=true/\∃ ys zs Ke,f v st=some (ys,Ke)/\aU ok f r Ke=some (zs,Kd)/\out=ys++zs:=
 oI e λh e=>oL e λys Ke q e=>oL e λzs Kf q2 e=>oP (P:=λout Kd=>ok st=true/\∃ ys zs Ke,f v st=some (ys,Ke)/\aU ok f r Ke=some (zs,Kd)/\out=ys++zs) e ⟨h,ys,zs,Ke,q,q2,rfl⟩
theorem kI {ok:St->Bool}{f:AV->St->Option (List AV×St)}{out:List AV}(e:aU ok f [] st=some (out,Kd)):ok st=true/\out=[]/\st=Kd:=
 oI e λh e=>oP (P:=λout Kd=>ok st=true/\out=[]/\st=Kd) e ⟨h,rfl,rfl⟩
theorem Step.hide {Nr:List Addr}{Ol:bf}{MY:List Addr}{Nd:Heap}(S:Step F φ own h F' Kn h')(S2:Step F' Kn Nr h' Ol MY Nd)(n:∀ b∈Nr,h.get? b=none):Step F φ own h Ol MY Nd:=by
 have T:=(S.own (own':=own++Nr) λx m=>List.mem_append_left _ m).trans (S2.own (own':=own++Nr) λx m=>mem_append_right _ m);refine⟨T.le,T.fnew,T.pre,T.pnew,T.dom,λb o e n1 n2 n3 n4=>T.kept b o e n1 n2 n3 λm=>?_⟩;rcases mem_append.mp m with m |m
 ·exact n4 m
 ·rw[n b m]at e;cases e
theorem Step.hide' {I:Addr}{Nd:Heap}(S:Step F φ own h F' Kn h')(k:∀ b o,b≠I->h'.get? b=some o->Nd.get? b=some o)(n:h.get? I=none):Step F φ own h F' Kn Nd:=by
 have ne:∀ b o,h.get? b=some o->b≠I:=λb o e z=>by rw[z,n]at e;cases e
 exact⟨S.le,S.fnew,S.pre,S.pnew,λb o e=>let ⟨o',e'⟩:=S.dom b o e;⟨o',k b o' (ne b o e) e'⟩,λb o e n1 n2 n3 n4=>k b o (ne b o e) (S.kept b o e n1 n2 n3 n4)⟩
theorem Kj.but {I:Addr}(R:Kj Z F φ st h)(P:KD F φ h I)(k:∀ b o,b≠I->h.get? b=some o->h'.get? b=some o):Kj Z F φ st h':=
 R.heap λb o e m=>k b o (by
  rintro rfl;rcases m with m |⟨o',m⟩ |m |m
  ·exact P.p m
  ·rw[P.f]at m;cases m
  ·exact P.t1 m
  ·exact P.t2 m) e
noncomputable def fm (w:World)(A:Around)(c:Code)(t:Expr)(it:Value)(env:Env)(rest:(Shared->Prop)->Shared->Prop):Prop:=
 ∀ (R:Result->Shared->Prop) (I:Nat->Shared->Prop),(∀ n s,I n s->aA w A (pyNext it) (λr Kt=>match r with
   |none=>R (.ok .next) Kt
   |some v=>aA w A (letOwnedTupleGo t it v) (λ_ Lk=>aA w A (assign t env v) (λ_ Kx=>
     rest (λLq=>∃ m,m<n/\I m Lq) Kx) aq Lk) aq Kt) aq s)->∀ n s,I n s->codeAny (model aM w) A c R s
structure K3 (Z:Kz)(g:Loc->St->Option (List AV×St))(scope:Scope)(env:Env)(O:List Addr)(D:Addr)(bd:Loc->bf->List Addr->Heap->Prop)(rest:(Shared->Prop)->Shared->Prop):Prop where
 run:∀ {Kh:Loc} {Ke Kf:St} {ys ac:List AV} {F1:bf} {Kg:List Addr} {s1:Shared} {arr:Array Value} {k:Nat} {K:Shared->Prop},g Kh Ke=some (ys,Kf)->Kj Z F1 Kg Ke s1.heap->Kl F1 Kg Kh scope env O s1.heap->bd Kh F1 Kg s1.heap ->
  KD F1 Kg s1.heap D->D∉env.locals::env.cells.map (·.2)->s1.heap.get? D=some { cls:=.type "list",data:=.seq arr k }->Km F1 Kg ac arr.toList->ac.length+ys.length<=1000000 ->
  (∀ F2 KI h2 Lg k2 tk,Step F1 Kg (D::O) s1.heap F2 KI h2->Kj Z F2 KI Kf h2->Kl F2 KI Kh scope env O h2->h2.get? D=some { cls:=.type "list",data:=.seq Lg k2 }->Km F2 KI (ac++ys) Lg.toList->K ⟨h2,s1.gens,s1.drawn,tk,s1.os⟩)->rest K s1
noncomputable def fV (K4:Loc)(tg:Tg)(g:Loc->St->Option (List AV×St))(x:AV)(st:St):Option (List AV×St):=match aQ K4 tg x with
 |some Kh=>g Kh st
 |none=>none
theorem Step.addr {own:List Addr}(S:Step F φ [] h F' Kn h'):Step F φ own h F' Kn h':=S.own λ_ m=>by cases m
inductive ND (Z:Kz)(scope:Scope)(env:Env)(O own:List Addr)(I D:Addr)(hb:Heap)(F0:bf)(φ0:List Addr)(s0:Shared)(Kd:St)(K4:Loc)(v:AV)(xs all:List AV)(go:List AV->St->Option (List AV×St)):Nat->Shared->Prop
 |mk {i:Nat} {F1:bf} {Kg:List Addr} {Ke:St} {ac zs:List AV} {arr:Array Value} {k:Nat} {h1:Heap} {tk:Nat}:i<=xs.length->Step F0 φ0 (own++(D::O)) hb F1 Kg h1->KD F1 Kg h1 I->KD F1 Kg h1 D->Kj Z F1 Kg Ke h1->Kl F1 Kg K4 scope env O h1->Mn F1 Kg h1 I i v ->
   h1.get? D=some { cls:=.type "list",data:=.seq arr k }->Km F1 Kg ac arr.toList->go (xs.drop i) Ke=some (zs,Kd)->ac++zs=all->ND Z scope env O own I D hb F0 φ0 s0 Kd K4 v xs all go (xs.length-i) ⟨h1,s0.gens,s0.drawn,tk,s0.os⟩
theorem oX {tg:Tg}{t:Expr}{K4:Loc}{g:Loc->St->Option (List AV×St)}{v:AV}{xs:List AV}{out O8:List AV}{c:Code}{rest:(Shared->Prop)->Shared->Prop}{R:Result->Shared->Prop}{I D:Addr}{MJ:Array Value}{k0:Nat}{F0:bf}{φ0:List Addr}{hb:Heap}{bd:Loc->bf->List Addr->Heap->Prop}{own:List Addr}
  (hh:A.handled=none) (ct:gR scope tg t=true) (hkeep:∀ v Kh,aQ K4 tg v=some Kh->∀ y u,af K4 y=some u->af Kh y=some u) (e1:aF LG v=some xs)
  (rule:fm w A c t (.ref I) env rest) (body:K3 Z g scope env O D bd rest) (hbd:∀ {x Kh F1 Kg h1},aQ K4 tg x=some Kh->Step F0 φ0 (own++(D::O)) hb F1 Kg h1->bd Kh F1 Kg h1)
  (R0:Kj Z F φ st s.heap) (L0:Kl F φ K4 scope env O s.heap) (T0:Mn F φ s.heap I 0 v) (pI:KD F φ s.heap I) (pD:KD F φ s.heap D) (NT:I≠D)
  (nI:I∉env.locals::env.cells.map (·.2)) (nD:D∉env.locals::env.cells.map (·.2)) (hD:s.heap.get? D=some { cls:=.type "list",data:=.seq MJ k0 }) (V0:Km F φ O8 MJ.toList)
  (e:aU (λst=>an st v xs) (fV K4 tg g) xs st=some (out,Kd)) (Ko:O8.length+out.length<=1000000)
  (S0:Step F0 φ0 (own++(D::O)) hb F φ s.heap) (bI:hb.get? I=none)
  (hR:∀ F' Kn h' La n' tk,Step F0 φ0 (own++(D::O)) hb F' Kn h'->Kj Z F' Kn Kd h'->Kl F' Kn K4 scope env O h'->h'.get? D=some { cls:=.type "list",data:=.seq La n' }->Km F' Kn (O8++out) La.toList->KD F' Kn h' D ->
   R (.ok .next) ⟨h',s.gens,s.drawn,tk,s.os⟩) :
  codeAny (model aM w) A c R s:=by
 refine rule R (ND Z scope env O own I D hb F0 φ0 s Kd K4 v xs (O8++out) (aU (λst=>an st v xs) (fV K4 tg g))) ?_ xs.length s (.mk (i:=0) (zero_le _) S0 pI pD R0 L0 T0 hD V0 e rfl);intro n s' inv
 cases inv with
 |@mk i F1 Kg Ke ac zs arr k h1 tk hi S1 MM Ot R1 L1 T1 Qs V1 ec eo=>
 have Qt:I∉D::O:=λm=>by
  cases m with
  |head=>exact NT rfl
  |tail _ m=>exact nI (L1.subO I m)
 by_cases Lj:i<xs.length
 ·have hx:xs[i]?=some xs[i]:=getElem?_eq_getElem Lj;rw[List.drop_eq_getElem_cons Lj]at ec;obtain⟨hs,ys,zs',Kf,ef,Ou,rfl⟩:=jq ec;refine me (st:=Ke) e1 hs hx R1 T1 λv' h2 Ku k2 hv T2=>?_;have S2:Step F1 Kg [I] h1 F1 Kg h2:=Step.own1 (.head _) k2 (let ⟨o,T,q,_⟩:=T2.at_;⟨o,q⟩);have R2:Kj Z F1 Kg Ke h2:=R1.own1 MM.f MM.p MM.t1 MM.t2 k2;have L2:Kl F1 Kg K4 scope env O h2:=L1.keep λb m o e=>(k2.2 b λz=>nI (z▸m)).trans e;have O9:h2.get? D=some { cls:=.type "list",data:=.seq arr k }:=(k2.2 D (Ne.symm NT)).trans Qs;have Ov:=MM.step S2;have Qu:=Ot.step S2;have LH:Step F0 φ0 (own++(D::O)) hb F1 Kg h2:=S1.hide S2 λb m=>by cases m with |head=>exact bI |tail _ m=>cases m
  refine cP T2.at_ λo T q1 q2 q3=>?_;refine gT (s:=sw s h2 Ku) q1 q2 q3 ?_;unfold fV at ef
  cases eb:aQ K4 tg xs[i] with
  |none=>rw[eb]at ef;cases ef
  |some Kh=>
   rw[eb]at ef;dsimp only at ef;refine eX (s:=sw s h2 Ku) hh ct eb L2 R2 hv λh3 KU S3 R3 L3=>?_;have nDO:D∉O:=λm=>nD (L1.subO D m);have T3:Mn F1 Kg h3 I (i+1) v:=T2.mono (K7.refl _) (prefix_refl _) λo e=>Ov.kept S3 (λm=>Qt (.tail _ m)) e;have PG:=Qu.kept S3 nDO O9;have N5:=Ov.step S3;have N6:=Qu.step S3;have Ng:Step F0 φ0 (own++(D::O)) hb F1 Kg h3:=LH.trans (S3.own λx m=>mem_append_right _ (.tail _ m))
   have hacy:ac.length+ys.length<=1000000:=by
    have:=congrArg List.length eo;simp only[length_append]at this;exact Q2 0x76085040111f424051760110f4240515401103 [_,_,_,_,_] Ko this rfl
   refine body.run (s1:=⟨h3,s.gens,s.drawn,KU,s.os⟩) ef R3 L3 (hbd eb Ng) N6 nD PG (V1.mono S3.le S3.pre) hacy λF4 Nt h4 arr4 k4 Lx S4 R4 L4 N7 V4=>?_;exact⟨_,Nat.sub_lt_sub_left Lj (lt_succ_self i),.mk Lj (Ng.trans (S4.own λx m=>mem_append_right _ m)) (N5.step S4) (N6.step S4) R4 (L4.weaken (hkeep _ _ eb)) (T3.mono S4.le S4.pre λo e=>N5.kept S4 Qt e) N7 V4 Ou ((append_assoc ..).trans eo)⟩
 ·have MI:i=xs.length:=by exact le_antisymm (Q1 0x54110541102 [_,_] hi rfl) (Q1 0x54110541102 [_,_] (not_lt.mp Lj) rfl)
  rw[List.drop_eq_nil_of_le (by exact zN)]at ec;refine mM (kI ec) ?_;rintro hs rfl rfl;refine mf (st:=Ke) hh e1 hs MI R1 T1 λh2 Ku k2=>?_;have O9:=k2 D _ (Ne.symm NT) Qs;have R2:=R1.but MM k2;rw[append_nil]at eo;subst eo;exact hR F1 Kg h2 arr k Ku (S1.hide' k2 bI) R2 (L1.keep λb m o e=>k2 b o (λz=>nI (z▸m)) e) O9 V1 ⟨⟨_,O9⟩,Ot.f,Ot.p,Ot.t1,Ot.t2⟩
noncomputable def vn (w:World)(A:Around)(cs:List Expr)(elt:Expr)(acc:Value)(env:Env)(K:Shared->Prop):Shared->Prop:=λKx=>
 aA w A (fI cs env) (λok KY=>
  if ok=true then aA w A (eval elt env) (λx LN=>
   aA w A (call (.builtin "list.append") [acc,x]) (λ_ Lq=>K Lq) aq LN) aq KY
  else K KY) aq Kx
theorem zU {elt target iter:Expr}{ifs:List Expr}{p:Pos}{it acc:Value}{env:Env} :
  fm w A (.compLoop (.ListComp elt [⟨target,iter,ifs,0⟩] scope p) 0 it acc env) target it env (vn w A ifs elt acc env):=
 λR I bV n s h=>oU I bV n h
noncomputable def g1 (X:Cx)(ifs:List C)(ee:E)(Kh:Loc)(st:St):Option (List AV×St):=match dE X ifs Kh st with
 |some (true,Kd)=>match aa X ee Kh Kd with
  |some (y,Mq)=>some ([y],Mq)
  |none=>none
 |some (false,Kd)=>some ([],Kd)
 |none=>none
theorem vq {X:Cx}{ifs:List C}{ee:E}{ys:List AV}(e:g1 X ifs ee Kh st=some (ys,Kd)):ys.length<=1:=
 oC e (λ_ _ e=>oE e λy st _ e=>oP (P:=λys _=>ys.length<=1) e (le_refl _)) λ_ _ e=>oP (P:=λys _=>ys.length<=1) e (zero_le _)
theorem kJ {ok:St->Bool}{f:AV->St->Option (List AV×St)}(hf:∀ x st ys Kd,f x st=some (ys,Kd)->ys.length<=1):∀ {xs:List AV} {out:List AV} {st Kd:St},aU ok f xs st=some (out,Kd)->out.length<=xs.length:=by
 intro xs
 induction xs with
 |nil=>
  intro out st Kd e;refine mM (kI e) ?_;rintro _ rfl _;exact zero_le _
 |cons x xs ih=>
  intro out st Kd e;obtain⟨_,ys,zs,Ke,h1,h2,rfl⟩:=jq e;have:=hf _ _ _ _ h1;have:=ih h2;simp only[length_append,length_cons];exact le_trans (add_le_add (by assumption) (by assumption)) (le_of_eq (add_comm 1 _))
noncomputable def gE (X:Cx)(ee:E)(Kh:Loc)(st:St):Option (List AV×St):=match aa X ee Kh st with
 |some (y,Mq)=>some ([y],Mq)
 |none=>none
noncomputable def vt (w:World)(A:Around)(elt:Expr)(acc:Value)(env:Env)(K:Shared->Prop):Shared->Prop:=λKY=>
 aA w A (eval elt env) (λx LN=>aA w A (call (.builtin "list.append") [acc,x]) (λ_ Lq=>K Lq) aq LN) aq KY
theorem zV {X:Cx}{elt:Expr}{ee:E}{D:Addr}{bd:Loc->bf->List Addr->Heap->Prop}
  (Nu:∀ {Kh:Loc} {st Kd:St} {y:AV} {s1:Shared} {F1:bf} {Kg:List Addr},aa X ee Kh st=some (y,Kd)->Kj Z F1 Kg st s1.heap->Kl F1 Kg Kh scope env O s1.heap->Good Z w A (eval elt env) F1 Kg s1 y Kd) :
  K3 Z (gE X ee) scope env O D bd (vt w A elt (.ref D) env):=.mk <|by
 intro Kh Ke Kf ys ac F1 Kg s1 arr k K e R1 L1 _ pD nD hD V hl hK;unfold gE at e;unfold vt
 cases PH:aa X ee Kh Ke with
 |none=>rw[PH]at e;cases e
 |some p=>
  obtain⟨y,LM⟩:=p;rw[PH]at e;cases e;refine Nu PH R1 L1 _ λF5 LD y' h5 LO S5 R5 V5=>?_;have PI:=pD.kept S5 (λm=>by cases m) hD;have Qv:Km F5 LD ac arr.toList:=V.mono S5.le S5.pre;have LU:=Qv.size;refine wpAny_list_append_plain (s:=⟨h5,s1.gens,s1.drawn,LO,s1.os⟩) ⟨k,PI⟩ (λh6 Qw k6=>?_) (by rw[sizeLine_eq];simp only[length_cons,length_nil]at hl;lia);refine aw Qw ?_;clear Qw;intro k' Qx;have Pa:=pD.step S5;have S6:Step F5 LD [D] h5 F5 LD h6:=Step.own1 (.head _) k6 ⟨_,Qx⟩;have R6:Kj Z F5 LD Kf h6:=R5.own1 Pa.f Pa.p Pa.t1 Pa.t2 k6;have L6:Kl F5 LD Kh scope env O h6:=(L1.step S5).keep λb m o e=>(k6.2 b λz=>nD (z▸m)).trans e;refine hK F5 LD h6 (arr.push y') k' LO (S5.addr.trans (S6.own λx m=>by cases m with |head=>exact .head _ |tail _ m=>cases m)) R6 L6 Qx ?_;rw[Array.toList_push];exact Qv.snoc V5
theorem zW {X:Cx}{elt:Expr}{ifs:List C}{cs:List Expr}{ee:E}{D:Addr}{bd:Loc->bf->List Addr->Heap->Prop}
  (PJ:∀ {Kh:Loc} {st Kd:St} {b:Bool} {s1:Shared} {F1:bf} {Kg:List Addr},dE X ifs Kh st=some (b,Kd)->Kj Z F1 Kg st s1.heap->Kl F1 Kg Kh scope env O s1.heap->dK Z w A (fI cs env) F1 Kg s1 b Kd)
  (Nu:∀ {Kh:Loc} {st Kd:St} {y:AV} {s1:Shared} {F1:bf} {Kg:List Addr},aa X ee Kh st=some (y,Kd)->Kj Z F1 Kg st s1.heap->Kl F1 Kg Kh scope env O s1.heap->Good Z w A (eval elt env) F1 Kg s1 y Kd) :
  K3 Z (g1 X ifs ee) scope env O D bd (vn w A cs elt (.ref D) env):=.mk <|by
 intro Kh Ke Kf ys ac F1 Kg s1 arr k K e R1 L1 hb pD nD hD V hl hK;unfold g1 at e;unfold vn
 cases PK:dE X ifs Kh Ke with
 |none=>rw[PK]at e;cases e
 |some p=>
  obtain⟨b,KJ⟩:=p;rw[PK]at e;refine PJ PK R1 L1 _ λF4 Nt h4 Lx S4 R4=>?_;have L4:=L1.step S4;have PL:=pD.step S4;have N7:=pD.kept S4 (λm=>by cases m) hD
  cases b with
  |false=>
   cases e;rw[if_neg Ly];exact hK F4 Nt h4 arr k Lx S4.addr R4 L4 N7 (by rw[append_nil];exact V.mono S4.le S4.pre)
  |true=>
   rw[if_pos rfl]
   exact(zV (bd:=λ_ _ _ _=>True) Nu).run (s1:=⟨h4,s1.gens,s1.drawn,Lx,s1.os⟩) e R4 L4 trivial PL nD N7 (V.mono S4.le S4.pre) hl λF5 LD h5 Lg k2 LO S5 R5 L5 PI V5=>
    hK F5 LD h5 Lg k2 LO (S4.addr.trans S5) R5 L5 PI V5
theorem Step.back (S:Step F φ own h F' Kn h')(e:h'.get? a=none):h.get? a=none:=by
 cases q:h.get? a with
 |none=>rfl
 |some o=>refine aw (S.dom a o q) λo' z=>?_;rw[z]at e;cases e
theorem Step.shed (S:Step F φ own h F' Kn h')(n:∀ b∈own,h.get? b=none):Step F φ [] h F' Kn h':=
 ⟨S.le,S.fnew,S.pre,S.pnew,S.dom,λb o e n1 n2 n3 _=>S.kept b o e n1 n2 n3 λm=>by rw[n b m]at e;cases e⟩
theorem iW {tg:Tg}{t it elt:Expr}{cs:List Expr}{rest:List Comprehension}{g:Loc->St->Option (List AV×St)}{v:AV}{xs:List AV}{out:List AV}{use:Option (Value->Sem Unit)}{Q:Value->Shared->Prop}{p p2:Pos}
  {Ow:Value->Env->(Shared->Prop)->Shared->Prop}
  (hh:A.handled=none) (ok:LZ sc scope cap) (ct:gR scope tg t=true) (ns:fe it=true) (e1:aF Ke v=some xs)
  (Nv:Good Z w A (eval it env) F φ s v Ke)
  (rule:∀ {N8 acc:Value} {env:Env},fm w A (.compLoop (.ListComp elt (⟨t,it,cs,0⟩::rest) scope p) 0 N8 acc env) t N8 env (Ow acc env))
  (body:∀ {D:Addr} {Kk:Env} {O':List Addr},K3 Z g scope Kk O' D (λKh _ _ _=>∃ x,aQ (aX σ cap) tg x=some Kh) (Ow (.ref D) Kk))
  (R0:Kj Z F φ st s.heap) (L0:Kl F φ σ sc env O s.heap)
  (e:aU (λst=>an st v xs) (fV (aX σ cap) tg g) xs Ke=some (out,Kd)) (Ko:out.length<=1000000)
  (hK:∀ F' Kn h' D C La n' tk,Step F φ [] s.heap F' Kn h'->Kj Z F' Kn Kd h'->h'.get? D=some { cls:=.type "list",data:=.seq La n' }->Km F' Kn out La.toList->KD F' Kn h' D->KD F' Kn h' C->D≠C ->
   s.heap.get? D=none->s.heap.get? C=none->(∃ m,h'.Ns C m)->compPost (model aM w) A aq use Q (.ref D) C (.ok .next) ⟨h',s.gens,s.drawn,tk,s.os⟩) :
  aA w A (comprehension (.ListComp elt (⟨t,it,cs,0⟩::rest) scope p) scope env p2 (newList []) false (eval it env) use) Q aq s:=by
 have M0:∀ n,(n,NameKind.free)∈scope.names->∃ c,env.cells.lookup n=some c:=λn m=>(L0.free_cell ok m).2
 have hs:∀ x,foldedSetIterable it env x=Pure.pure x:=by
  intro x;unfold foldedSetIterable;cases it<;>first |rfl |cases ns
 refine wpAny_comprehension_free (g:=⟨t,it,cs,0⟩) (gs:=rest) rfl hs (gf M0) ok.kind (λx m e=>by rw[dM ok.nd (k:=x.2) m,e]) (Nv _ λF1 Kg v' h1 K5 S1 R1 V1=>?_);have L1:=L0.step S1;refine hV (s:=sw s h1 K5) e1 R1 V1 λh2 I Ku k2 nI T2=>?_;have S2:Step F1 Kg [] h1 F1 Kg h2:=Step.ext k2;have R2:=R1.ext k2;have L2:=L1.step S2;refine wpAny_newList (s:=sw s h2 Ku) ?_ (by simp);have S3:Step F1 Kg [] h2 F1 Kg (h2.push { cls:=.type "list",data:=.seq ([]:List Value).toArray }):=Step.ext aC;have R3:=R2.ext (h':=h2.push { cls:=.type "list",data:=.seq ([]:List Value).toArray }) aC;have L3:=L2.step S3;have gD:=get?_push_size h2 (o:={ cls:=.type "list",data:=.seq ([]:List Value).toArray }) rfl;have nD:=cD h2;generalize hD:h2.objs.size=D at gD nD;generalize hH:h2.push { cls:=.type "list",data:=.seq ([]:List Value).toArray }=h3 at S3 R3 L3 gD;show aA w A (newFunctionEnv scope env.globals (cF env.cells scope.names []) [] env.qual none .none (some env)) _ aq ⟨h3,s.gens,s.drawn,Ku,s.os⟩;have sI:s.heap.get? I=none:=S1.back nI;have sD:s.heap.get? D=none:=S1.back (S2.back nD);refine dc T2.at_ λoI _ gI _=>?_;have Qy:=S3.kept I oI gI (KD.new R1 nI k2 ⟨_,gI⟩).p (KD.new R1 nI k2 ⟨_,gI⟩).t1 (KD.new R1 nI k2 ⟨_,gI⟩).t2 (by simp);have N5:KD F1 Kg h3 I:=(KD.new R1 nI k2 ⟨_,gI⟩).step S3
 have N6:KD F1 Kg h3 D:=by
  refine gQ (R2.absent nD) λn1 n2 n3 n4=>?_;exact⟨⟨_,gD⟩,n1,n2,n3,n4⟩
 have NT:I≠D:=λz=>by rw[z]at gI;rw[gI]at nD;cases nD
 refine oR (s:=sw s h3 Ku) ok L3 R3 λh4 Kk O' k4 nO cells L4=>?_;have S4:Step F1 Kg [] h3 F1 Kg h4:=Step.ext k4;have S04:Step F φ [] s.heap F1 Kg h4:=((S1.trans S2).trans S3).trans S4;have R4:=R3.ext k4;have pI4:=N5.step S4;have PL:=N6.step S4;have M3:∀ b∈env.cells.map (·.2),∃ o,s.heap.get? b=some o:=λb m=>L0.ex b (.tail _ m)
 have nIc:I∉Kk.locals::Kk.cells.map (·.2):=λm=>by
  rcases cells I m with m |m
  ·have:=nO I m;rw[show h3.get? I=none from this]at Qy;cases Qy
  ·refine aw (M3 I m) λo z=>?_;rw[z]at sI;cases sI
 have Qz:D∉Kk.locals::Kk.cells.map (·.2):=λm=>by
  rcases cells D m with m |m
  ·have:=nO D m;rw[show h3.get? D=none from this]at gD;cases gD
  ·refine aw (M3 D m) λo z=>?_;rw[z]at sD;cases sD
 have bO:∀ b∈O',s.heap.get? b=none:=λb m=>S1.back (S2.back (S3.back (nO b m)));have T4:Mn F1 Kg h4 I 0 v:=(T2.mono (K7.refl _) (prefix_refl _) λo z=>(KD.new R1 nI k2 ⟨_,gI⟩).kept S3 (by simp) z).mono (K7.refl _) (prefix_refl _) λo z=>k4 I o z;have N7:=k4 D _ gD;have sC:s.heap.get? Kk.locals=none:=bO _ L4.loO
 have absent:∀ b∈([]:List Addr)++(D::O'),s.heap.get? b=none:=λb m=>by
  cases m with
  |head=>exact sD
  |tail _ m=>exact bO b m
 have loop:codeAny (model aM w) A (.compLoop (.ListComp elt (⟨t,it,cs,0⟩::rest) scope p) 0 (.ref I) (.ref D) { Kk with scope:=relabel scope env })
   (compPost (model aM w) A aq use Q (.ref D) Kk.locals) ⟨h4,s.gens,s.drawn,Ku,s.os⟩:=
  oX (own:=[]) (s:=sw s h4 Ku) hh ct (λv Kh eb=>keep_bind ok ct eb) e1 rule body (λeb _=>⟨_,eb⟩) R4 L4 T4 pI4 PL NT nIc Qz N7 .nil e (by simpa using Ko) S04.addr sI λF' Kn h' La n' tk S R L g V P1=>
   hK F' Kn h' D Kk.locals La n' tk (S.shed absent) R g V P1 (L.privA (.head _)) (λz=>Qz (z▸.head _)) sD sC L.ns
 refine codeAny_compStart_list loop ?_;exact oS (md (s:=sw s h4 Ku) T4 loop)
theorem oY {tg:Tg}{t it elt:Expr}{cs:List Expr}{rest:List Comprehension}{g:Loc->St->Option (List AV×St)}{v:AV}{xs:List AV}{out:List AV}{p:Pos}{Ow:Value->Env->(Shared->Prop)->Shared->Prop}
  (hh:A.handled=none) (ok:LZ sc scope cap) (ct:gR scope tg t=true) (ns:fe it=true) (e1:aF Ke v=some xs)
  (Nv:Good Z w A (eval it env) F φ s v Ke)
  (rule:∀ {N8 acc:Value} {env:Env},fm w A (.compLoop (.ListComp elt (⟨t,it,cs,0⟩::rest) scope p) 0 N8 acc env) t N8 env (Ow acc env))
  (body:∀ {D:Addr} {Kk:Env} {O':List Addr},K3 Z g scope Kk O' D (λKh _ _ _=>∃ x,aQ (aX σ cap) tg x=some Kh) (Ow (.ref D) Kk))
  (R0:Kj Z F φ st s.heap) (L0:Kl F φ σ sc env O s.heap)
  (e:aU (λst=>an st v xs) (fV (aX σ cap) tg g) xs Ke=some (out,Kd)) (Ko:out.length<=1000000) :
  Kq Z w A (eval (.ListComp elt (⟨t,it,cs,0⟩::rest) scope p) env) F φ s out Kd:=λQ hQ=>by
 rw[eval_ListComp];refine iW (use:=none) hh ok ct ns e1 Nv rule body R0 L0 e Ko λF' Kn h' D C La n' tk S R g V P1 P2 ne sD sC N=>?_;refine aw N ?_;clear N;intro m N;refine⟨m,N,λNd k=>?_⟩;have kb:∀ b o,b≠C->h'.get? b=some o->Nd.get? b=some o:=λb o z e=>(k.2 b z).trans e;exact hQ F' Kn Nd D La n' tk (S.hide' kb sC) (R.but P2 kb) (kb D _ ne g) sD P1.f P1.p V
theorem tI {X:Cx}{tg:Tg}{t it elt:Expr}{ifs:List C}{cs:List Expr}{ee:E}{v:AV}{xs:List AV}{out:List AV}{p:Pos}
  (hh:A.handled=none) (ok:LZ sc scope cap) (ct:gR scope tg t=true) (ns:fe it=true) (e1:aF Ke v=some xs) (Ko:xs.length<=1000000)
  (Nv:Good Z w A (eval it env) F φ s v Ke)
  (PJ:∀ {Kh:Loc} {st Kd:St} {b:Bool} {s1:Shared} {F1:bf} {Kg:List Addr} {Kk:Env} {O1:List Addr},dE X ifs Kh st=some (b,Kd)->Kj Z F1 Kg st s1.heap->Kl F1 Kg Kh scope Kk O1 s1.heap ->
   dK Z w A (fI cs Kk) F1 Kg s1 b Kd)
  (Nu:∀ {Kh:Loc} {st Kd:St} {y:AV} {s1:Shared} {F1:bf} {Kg:List Addr} {Kk:Env} {O1:List Addr},aa X ee Kh st=some (y,Kd)->Kj Z F1 Kg st s1.heap->Kl F1 Kg Kh scope Kk O1 s1.heap ->
   Good Z w A (eval elt Kk) F1 Kg s1 y Kd)
  (R0:Kj Z F φ st s.heap) (L0:Kl F φ σ sc env O s.heap)
  (e:aU (λst=>an st v xs) (fV (aX σ cap) tg (g1 X ifs ee)) xs Ke=some (out,Kd)) :
  Kq Z w A (eval (.ListComp elt [⟨t,it,cs,0⟩] scope p) env) F φ s out Kd:=
 oY hh ok ct ns e1 Nv zU (λ{_ _ _}=>zW PJ Nu) R0 L0 e (le_trans (kJ (λx st ys Kd e=>by
  unfold fV at e;split at e
  ·exact vq e
  ·cases e) e) Ko)
noncomputable def vw (w:World)(A:Around)(e:Expr)(KZ:Expr)(acc:Value)(env:Env)(K:Shared->Prop):Shared->Prop:=λKx=>
 aA w A (eval KZ env) (λx KY=>aA w A (pyIter x) (λi2 LN=>
  codeAny (model aM w) A (.compStart e 1 i2 acc env) (λr Lq=>match r with |.ok _=>K Lq |.error _=>False) LN) aq KY) aq Kx
theorem ng (elt target iter t2 KZ:Expr)(scope:Scope)(pos:Pos)(it acc:Value)(env:Env) :
  compTurn (.ListComp elt [⟨target,iter,[],0⟩,⟨t2,KZ,[],0⟩] scope pos) 0 it acc env=(do
   standAt iter.pos
   match ← pyNext it with
   |none=>pure (.done .next)
   |some v=>
    letOwnedTupleGo target it v
    assign target env v
    let x ← eval KZ env
    standAt KZ.pos
    let x ← foldedSetIterable KZ env x;let i2 ← holding [x] (pyIter x);let _ ← runOwn (.compStart (.ListComp elt [⟨target,iter,[],0⟩,⟨t2,KZ,[],0⟩] scope pos) 1 i2 acc env) env
    again (.compLoop (.ListComp elt [⟨target,iter,[],0⟩,⟨t2,KZ,[],0⟩] scope pos) 0 it acc env)):=by rfl
theorem o0 (elt target iter t2 KZ:Expr)(scope:Scope)(pos:Pos)(it acc:Value)(env:Env) :
  compTurn (.ListComp elt [⟨target,iter,[],0⟩,⟨t2,KZ,[],0⟩] scope pos) 1 it acc env=(do
   standAt KZ.pos
   match ← pyNext it with
   |none=>pure (.done .next)
   |some v=>
    letOwnedTupleGo t2 it v
    assign t2 env v
    (do let _ ← call (.builtin "list.append") [acc,← eval elt env])
    again (.compLoop (.ListComp elt [⟨target,iter,[],0⟩,⟨t2,KZ,[],0⟩] scope pos) 1 it acc env)):=by rfl
theorem yG {elt target iter t2 KZ:Expr}{p:Pos}{it acc:Value}{env:Env} :
  fm w A (.compLoop (.ListComp elt [⟨target,iter,[],0⟩,⟨t2,KZ,[],0⟩] scope p) 1 it acc env) t2 it env (vt w A elt acc env):=
 λR I bV n s h=>by
  refine codeAny_loop rfl I (λn s hI=>?_) n h;show wpAny _ A ((compTurn (.ListComp elt [⟨target,iter,[],0⟩,⟨t2,KZ,[],0⟩] scope p) 1 it acc env).onRaise (λx=>do noteFrame x env;theTreesLotGoes x)) _ _ s;refine wpAny_noted ?_;rw[o0];refine wpAny_bind (wpAny_standAt (wpAny_bind (wpAny_mono (bV n s hI) (λr Kt K1=>?_) λ_ _ f=>f.elim)))
  cases r with
  |none=>exact wpAny_pure K1
  |some v=>
   refine wpAny_bind (wpAny_mono K1 (λ_ Lk LC=>?_) λ_ _ f=>f.elim);refine wpAny_bind (wpAny_mono LC (λ_ Kx K8=>?_) λ_ _ f=>f.elim);exact wpAny_bind (wpAny_bind (wpAny_mono K8 (λx LN M1=>wpAny_bind (wpAny_mono M1 (λ_ Lq ML=>wpAny_pure (wpAny_pure ⟨rfl,ML⟩)) λ_ _ f=>f.elim)) λ_ _ f=>f.elim))
theorem zX {elt target iter t2 KZ:Expr}{p:Pos}{it acc:Value}{env:Env}(ns:fe KZ=true) :
  fm w A (.compLoop (.ListComp elt [⟨target,iter,[],0⟩,⟨t2,KZ,[],0⟩] scope p) 0 it acc env) target it env (vw w A (.ListComp elt [⟨target,iter,[],0⟩,⟨t2,KZ,[],0⟩] scope p) KZ acc env):=
 λR I bV n s h=>by
  refine codeAny_loop rfl I (λn s hI=>?_) n h;show wpAny _ A ((compTurn (.ListComp elt [⟨target,iter,[],0⟩,⟨t2,KZ,[],0⟩] scope p) 0 it acc env).onRaise (λx=>do noteFrame x env;theTreesLotGoes x)) _ _ s;refine wpAny_noted ?_;rw[ng];refine wpAny_bind (wpAny_standAt (wpAny_bind (wpAny_mono (bV n s hI) (λr Kt K1=>?_) λ_ _ f=>f.elim)))
  cases r with
  |none=>exact wpAny_pure K1
  |some v=>
   refine wpAny_bind (wpAny_mono K1 (λ_ Lk LC=>?_) λ_ _ f=>f.elim);refine wpAny_bind (wpAny_mono LC (λ_ Kx K8=>?_) λ_ _ f=>f.elim)
   have hs:∀ x,foldedSetIterable KZ env x=Pure.pure x:=by
    intro x;unfold foldedSetIterable;cases KZ<;>first |rfl |cases ns
   refine wpAny_bind (wpAny_mono K8 (λx KY Lo=>wpAny_bind (wpAny_standAt (wpAny_bind (wpAny_of_eq (hs x) (wpAny_bind (wpAny_holding (wpAny_mono Lo (λi2 LN M1=>?_) λ_ _ f=>f.elim))))))) λ_ _ f=>f.elim);refine wpAny_bind (wpAny_runOwn (h:=none) ?_);have ha:A.mark none=A:=by cases A;rfl
   rw[ha];refine codeAny_mono M1 λr Lq ML=>?_
   cases r with
   |ok f=>exact wpAny_pure ⟨rfl,ML⟩
   |error x=>exact ML.elim
theorem gi {R:Result->Shared->Prop}{elt target iter t2 KZ:Expr}{p:Pos}{it acc:Value}{env:Env}
  (h0:codeAny (model aM w) A (.compLoop (.ListComp elt [⟨target,iter,[],0⟩,⟨t2,KZ,[],0⟩] scope p) 1 it acc env) R s)
  (h:aA w A (pyIter it) (λN8 s'=>codeAny (model aM w) A (.compLoop (.ListComp elt [⟨target,iter,[],0⟩,⟨t2,KZ,[],0⟩] scope p) 1 N8 acc env) R s') aq s) :
  codeAny (model aM w) A (.compStart (.ListComp elt [⟨target,iter,[],0⟩,⟨t2,KZ,[],0⟩] scope p) 1 it acc env) R s:=by
 refine codeAny_of_tree ?_;show wpAny _ _ ((compStart (.ListComp elt [⟨target,iter,[],0⟩,⟨t2,KZ,[],0⟩] scope p) 1 it acc env).onRaise (λx=>do noteFrame x env;standAt theWindowsPlace)) _ _ s;refine wpAny_notedAt ?_;unfold compStart;show wpAny _ _ (ask>>=_) _ _ s;refine wpAny_bind (wpAny_askSetting (wpAny_ite ?_));split
 ·first
   |exact wpAny_bind (wpAny_pure (wpAny_pure (And.intro rfl h0)))
   |exact wpAny_pure (And.intro rfl h0)
 ·refine wpAny_bind (wpAny_rule ?_);show wpAny _ _ (standAt KZ.pos>>=_) _ _ s;exact wpAny_bind (wpAny_standAt (wpAny_bind (wpAny_mono h (λN8 s' h'=>wpAny_pure (And.intro rfl h')) λ_ _ x=>x.elim)))
noncomputable def g2 (X:Cx)(Lz:Tg)(K9 ee:E)(Kh:Loc)(st:St):Option (List AV×St):=match aa X K9 Kh st with
 |some (v2,Kf)=>match aF Kf v2 with
  |some ys=>aU (λst=>an st v2 ys) (fV Kh Lz (gE X ee)) ys Kf
  |none=>none
 |none=>none
theorem zY {X:Cx}{elt target iter t2 KZ:Expr}{tg Lz:Tg}{K9 ee:E}{p:Pos}{D:Addr}
  (hh:A.handled=none) (ok:LZ sc scope cap) (NF:gR scope Lz t2=true) (dj:(dX Lz).all (λy=>!(dX tg).contains y)=true)
  (Nv:∀ {Kh:Loc} {st Kd:St} {y:AV} {s1:Shared} {F1:bf} {Kg:List Addr},aa X K9 Kh st=some (y,Kd)->Kj Z F1 Kg st s1.heap->Kl F1 Kg Kh scope env O s1.heap->Good Z w A (eval KZ env) F1 Kg s1 y Kd)
  (Nu:∀ {Kh:Loc} {st Kd:St} {y:AV} {s1:Shared} {F1:bf} {Kg:List Addr},aa X ee Kh st=some (y,Kd)->Kj Z F1 Kg st s1.heap->Kl F1 Kg Kh scope env O s1.heap->Good Z w A (eval elt env) F1 Kg s1 y Kd) :
  K3 Z (g2 X Lz K9 ee) scope env O D (λKh _ _ _=>∃ x,aQ (aX σ cap) tg x=some Kh) (vw w A (.ListComp elt [⟨target,iter,[],0⟩,⟨t2,KZ,[],0⟩] scope p) KZ (.ref D) env):=.mk <|by
 intro Kh Ke Kf ys ac F1 Kg s1 arr k K e R1 L1 hb pD nD hD V hl hK;refine aw hb ?_;clear hb;intro x hb;unfold g2 at e;unfold vw
 cases ev:aa X K9 Kh Ke with
 |none=>rw[ev]at e;cases e
 |some q=>
  obtain⟨v2,KJ⟩:=q;rw[ev]at e;dsimp only at e
  cases ei:aF KJ v2 with
  |none=>rw[ei]at e;cases e
  |some xs=>
   rw[ei]at e;dsimp only at e;refine Nv ev R1 L1 _ λF2 KI v' h2 Ku S2 R2 V2=>?_;have L2:=L1.step S2;refine hV (s:=⟨h2,s1.gens,s1.drawn,Ku,s1.os⟩) ei R2 V2 λh3 I KU k3 nI T3=>?_;have S3:Step F2 KI [] h2 F2 KI h3:=Step.ext k3;have R3:=R2.ext k3;have L3:=L2.step S3;refine dc T3.at_ λoI _ gI _=>?_;have N5:KD F2 KI h3 I:=KD.new R2 nI k3 ⟨_,gI⟩;have N6:=(pD.step S2).step S3;have PG:=(pD.step S2).kept S3 (λm=>by cases m) (pD.kept S2 (λm=>by cases m) hD);have sI:s1.heap.get? I=none:=S2.back nI;have NT:I≠D:=λz=>by rw[z]at sI;rw[sI]at hD;cases hD
   have nIe:I∉env.locals::env.cells.map (·.2):=λm=>by
    refine aw (L1.ex I m) λo z=>?_;rw[z]at sI;cases sI
   have keep2:∀ v LA,aQ Kh Lz v=some LA->∀ y u,af Kh y=some u->af LA y=some u:=by
    intro v LA eb y u hu;refine Eq.trans (iV eb y λm=>?_) ?_;rotate_left
    ·exact hu
    ·have h1:=all_eq_true.mp dj y m;have h2:y∉dX tg:=by simpa using h1
     rw[iV hb y h2]at hu;refine av (hY hu) λ_ m2=>?_;have:=ok.cap y m2;rcases kH NF y m with z |z<;>rw[z]at this<;>cases this
   have loop:codeAny (model aM w) A (.compLoop (.ListComp elt [⟨target,iter,[],0⟩,⟨t2,KZ,[],0⟩] scope p) 1 (.ref I) (.ref D) env)
     (λr Lq=>match r with |.ok _=>K Lq |.error _=>False) ⟨h3,s1.gens,s1.drawn,KU,s1.os⟩:=
    oX (own:=[]) (F0:=F1) (φ0:=Kg) (hb:=s1.heap) (s:=⟨h3,s1.gens,s1.drawn,KU,s1.os⟩) hh NF keep2 ei yG (zV (bd:=λ_ _ _ _=>True) Nu) (λ_ _=>trivial) R3 L3 T3 N5 N6 NT nIe nD PG (V.mono S2.le S2.pre) e hl
     (S2.trans S3).addr sI λF' Kn h' La n' tk S R L g V _=>hK F' Kn h' La n' tk S R L g V
   refine gi loop ?_;exact md (s:=⟨h3,s1.gens,s1.drawn,KU,s1.os⟩) T3 loop
theorem qH {X:Cx}{tg Lz:Tg}{t it t2 KZ elt:Expr}{K9 ee:E}{v:AV}{xs:List AV}{out:List AV}{p:Pos}
  (hh:A.handled=none) (ok:LZ sc scope cap) (ct:gR scope tg t=true) (NF:gR scope Lz t2=true) (ns:fe it=true) (ns2:fe KZ=true) (dj:(dX Lz).all (λy=>!(dX tg).contains y)=true) (e1:aF Ke v=some xs)
  (ih0:Good Z w A (eval it env) F φ s v Ke)
  (Nv:∀ {Kh:Loc} {st Kd:St} {y:AV} {s1:Shared} {F1:bf} {Kg:List Addr} {Kk:Env} {O1:List Addr},aa X K9 Kh st=some (y,Kd)->Kj Z F1 Kg st s1.heap->Kl F1 Kg Kh scope Kk O1 s1.heap->Good Z w A (eval KZ Kk) F1 Kg s1 y Kd)
  (Nu:∀ {Kh:Loc} {st Kd:St} {y:AV} {s1:Shared} {F1:bf} {Kg:List Addr} {Kk:Env} {O1:List Addr},aa X ee Kh st=some (y,Kd)->Kj Z F1 Kg st s1.heap->Kl F1 Kg Kh scope Kk O1 s1.heap->Good Z w A (eval elt Kk) F1 Kg s1 y Kd)
  (R0:Kj Z F φ st s.heap) (L0:Kl F φ σ sc env O s.heap)
  (e:aU (λst=>an st v xs) (fV (aX σ cap) tg (g2 X Lz K9 ee)) xs Ke=some (out,Kd)) (Ko:out.length<=1000000) :
  Kq Z w A (eval (.ListComp elt [⟨t,it,[],0⟩,⟨t2,KZ,[],0⟩] scope p) env) F φ s out Kd:=
 oY hh ok ct ns e1 ih0 (zX ns2) (λ{_ _ _}=>zY hh ok NF dj Nv Nu) R0 L0 e Ko
end
theorem Bj:∀ f,f<23->zS f≠131:=by decide
section
variable {p:Pos}{a:Addr}
noncomputable def iX (Z:Kz)(w:World)(A:Around)(t:Sem Value)(F:bf)(φ:List Addr)(s:Shared)(env:Env)(st:St)(v:AV)(Kd:St):Prop:=
 ∀ F1 Kg h1 tk,Step F φ [] s.heap F1 Kg h1->Kj Z F1 Kg st h1->Good Z w A t F1 Kg ⟨h1,s.gens,s.drawn,tk,s.os⟩ v Kd
theorem Good.two {t u:Sem Value}{x y v:AV}{op:Value->Value->Sem Value}{Q:Value->Shared->Prop}(g1:Good Z w A t F φ s x Ke)(g2:iX Z w A u F φ s env Ke y Kf)
  (g3:∀ F2 KI h2 tk vx vy,Step F φ [] s.heap F2 KI h2->Kj Z F2 KI Kf h2->VR F2 KI x vx->VR F2 KI y vy->Good Z w A (op vx vy) F2 KI ⟨h2,s.gens,s.drawn,tk,s.os⟩ v Kd)
  (hQ:Ky Z F φ s v Kd Q):aA w A t (λa Kt=>aA w A u (λb Kx=>aA w A (op a b) Q aq Kx) aq Kt) aq s:=
 g1 _ λF1 Kg vx h1 K5 S1 R1 V1=>g2 F1 Kg h1 K5 S1 R1 _ λF2 KI vy h2 Ku S2 R2 V2=>
  g3 F2 KI h2 Ku vx vy (S1.trans S2) R2 (V1.mono S2.le S2.pre) V2 Q (Ky.step hQ (S1.trans S2))
theorem iY {l r:Expr}{op:Operator}{x y v:AV}(g1:Good Z w A (eval l env) F φ s x Ke)(g2:iX Z w A (eval r env) F φ s env Ke y Kf)(rm:Ks 1 A)(e:aK op x y=some v) :
  Good Z w A (eval (.BinOp l op r p) env) F φ s v Kf:=λQ hQ=>
 wpAny_BinOp (Good.two (op:=binaryOp op) g1 g2 (λF2 KI h2 tk vx vy S R V1 V2=>tq e R rm V1 V2) hQ)
theorem tJ {l r:Expr}{op:CmpOp}{x y:AV}{b:Bool}{Q:Value->Shared->Prop}(g1:Good Z w A (eval l env) F φ s x Ke)(g2:iX Z w A (eval r env) F φ s env Ke y Kf)(rm:Ks 1 A)(e:bJ Kf op x y=some b)
  (hQ:Ky Z F φ s (.bool b) Kf Q) :
  aA w A (eval l env) (λa Kt=>aA w A (eval r env) (λb Kx=>aA w A (compareOp op a b) Q aq Kx) aq Kt) aq s:=
 Good.two (op:=compareOp op) g1 g2 (λF2 KI h2 tk vx vy S R V1 V2=>tt e R rm V1 V2) hQ
theorem tK {l r:Expr}{x y v:AV}(g1:Good Z w A (eval l env) F φ s x Ke)(g2:iX Z w A (eval r env) F φ s env Ke y Kf)(ns:f8 r=true)(e:cB Kf x y=some v) :
  Good Z w A (eval (.Subscript l r p) env) F φ s v Kf:=λQ hQ=>
 mZ ns (g1 _ λF1 Kg vx h1 K5 S1 R1 V1=>g2 F1 Kg h1 K5 S1 R1 _ λF2 KI vy h2 Ku S2 R2 V2=>
  ⟨VR.sub (s:=sw s h2 Ku) e R2 (V1.mono S2.le S2.pre),lX (s:=sw s h2 Ku) e R2 (V1.mono S2.le S2.pre) V2 Q (Ky.step hQ (S1.trans S2))⟩)
theorem mi {es:List Expr}{k:Nat}{vs:List AV}(g:fU Z w A (spliced (backTo p (starEach es env))) F φ s vs Kd)(hl:es.length<=100)(hv:vs.length=es.length) :
  Good Z w A (eval (.Tuple es k p) env) F φ s (.tup vs) Kd:=λQ hQ=>
 wpAny_Tuple (g _ λF1 Kg Kr h1 tk S R V=>by
  have:=V.length;refine gQ R.size_new λn1 n2 n3 n4=>?_;refine⟨by rw[sizeLine_eq];exact Q3 0x46112561116421511010000007141104 [_,_,_] hl hv this rfl,?_⟩;have:=(R.newF (o:={ cls:=.type "tuple",data:=.seq Kr.toArray }) rfl)
  exact hQ _ Kg _ _ tk (S.trans (this.2 _)) this.1 (.tup bP (by simpa using V.mono (cV n1) (prefix_refl _))))
theorem qI {es:List Expr}{vs:List AV}(g:fU Z w A (spliced (backTo p (starEach es env))) F φ s vs Kd)(hl:es.length<=100)(hv:vs.length=es.length) :
  Kq Z w A (eval (.List es p) env) F φ s vs Kd:=λQ hQ=>
 wpAny_List (g _ λF1 Kg Kr h1 tk S R V=>by
  have:=V.length;refine⟨by rw[sizeLine_eq];exact Q3 0x46112561116421511010000007141104 [_,_,_] hl hv this rfl,?_⟩
  exact KN.push (s:=sw s h1 tk) (KN.step hQ S) R (by simpa using V))
theorem o3 {id:Nat}{args:List Expr}{vs:List AV}{b:Bi}{v:AV}(G:Glob Z)(g:fU Z w A (spliced (backTo p (starEach args env))) F φ s vs Ke)(h0:args=[]->vs=[]/\Ke=st)
  (R:Kj Z F φ st s.heap) (L:Kl F φ σ sc env O s.heap) (rm:Ks 1 A) (hg:gl sc (nm (yB b))=true) (hs:args.all aB=true) (e:gy Ke b vs=some (v,Kd)) :
  Good Z w A (eval (.Call (.Name (nm (yB b)) pos) args [] p) env) F φ s v Kd:=λQ hQ=>
 PySem.wpAny_Call_NameR (iu R L hg (by cases b<;>decide) (G.bi b) (oo hs R (by cases b<;>first |exact .inl ⟨_,rfl⟩ |exact .inr ⟨_,rfl⟩) h0 g (λF1 Kg Kr h1 tk S1 R1 V1=>u7 e R1 rm V1) Q hQ))
theorem vz {X:Cx}{k:Nat}{args:List Expr}{vs:List AV}{f:Nat}{v:AV}(hC:cx Z w k X.C)(G:Glob Z)(g:fU Z w A (spliced (backTo p (starEach args env))) F φ s vs Ke)(h0:args=[]->vs=[]/\Ke=st)
  (R:Kj Z F φ st s.heap) (L:Kl F φ σ sc env O s.heap) (rm:Ks k A) (hf:f<23) (hg:gl sc (nm (zS f))=true) (hs:args.all aB=true) (e:X.C f vs Ke=some (v,Kd)) :
  Good Z w A (eval (.Call (.Name (nm (zS f)) pos) args [] p) env) F φ s v Kd:=λQ hQ=>by
 refine PySem.wpAny_Call_NameR (ir R L hg (Bj f hf) (G.fn f hf) (jn hs R (G.keep f (by exact bN)) h0 g (λF1 Kg Kr h1 tk S1 R1 V1=>?_) Q hQ));have:=hC f vs Ke v Kd e A F1 Kg ⟨h1,s.gens,s.drawn,tk,s.os⟩ Kr rm R1 V1;rw[if_neg (by exact JJ)]at this;exact this
theorem qJ {X:Cx}{k:Nat}{o:Expr}{args:List Expr}{vs:List AV}{f:Nat}{x v:AV}{apos:Pos}(hC:cx Z w k X.C)(G:Glob Z)(go:Good Z w A (eval o env) F φ s x Ke)(hr:dr Ke f x=true)
  (g:∀ F1 Kg h1 tk,Step F φ [] s.heap F1 Kg h1->Kj Z F1 Kg Ke h1->fU Z w A (spliced (backTo p (starEach args env))) F1 Kg ⟨h1,s.gens,s.drawn,tk,s.os⟩ vs Kf) (h0:args=[]->vs=[]/\Kf=Ke)
  (rm:Ks k A) (h1:30<=f) (h2:f<37) (h3:f≠35) (cb:eV o=true) (KA:(apos.endLine==p.line)=true) (hs:args.all aB=true) (hl:args.length<10) (e:X.C f (x::vs) Kf=some (v,Kd)) :
  Good Z w A (eval (.Call (.Attribute o (nm (tj f)) apos) args [] p) env) F φ s v Kd:=λQ hQ=>by
 refine l6 cb (qw hs hl) KA (go _ λF1 Kg vx Mg K5 S1 R1 V1=>λpl=>?_);refine oO (s:=sw s Mg K5) G h1 h2 hr R1 V1 ?_;refine jn (s:=sw s Mg K5) (first:=[vx]) hs R1 (G.keep f h2) h0 (g F1 Kg Mg K5 S1 R1) (λF2 KI Kr MD Ku S2 R2 V2=>?_) Q (Ky.step hQ S1);have:=hC f (x::vs) Kf v Kd e A F2 KI ⟨MD,s.gens,s.drawn,Ku,s.os⟩ (vx::Kr) rm R2 (.cons (V1.mono S2.le S2.pre) V2);rw[if_neg h3]at this;exact this
theorem qK {o:Expr}{x v:AV}{i:Nat}(G:Glob Z)(go:Good Z w A (eval o env) F φ s x Ke)(hi:i<6)(cb:eV o=true)(e:jj Ke x i=some v) :
  Good Z w A (eval (.Attribute o (nm i) p) env) F φ s v Ke:=λQ hQ=>
 io cb (go _ λF1 Kg vx h1 K5 S1 R1 V1=>tH (s:=sw s h1 K5) G hi e R1 V1 Q (Ky.step hQ S1))
theorem tL {o:Expr}{m:Sm}{x v:AV}{apos:Pos}(go:Good Z w A (eval o env) F φ s x Ke)(cb:eV o=true)(KA:(apos.endLine==p.line)=true)(e:jC Ke m x []=some (v,Kd)) :
  Good Z w A (eval (.Call (.Attribute o (km m) apos) [] [] p) env) F φ s v Kd:=λQ hQ=>
 PySem.Call_method0 (cW cb) KA (go _ λF1 Kg vx h1 K5 S1 R1 V1=>tD (s:=sw s h1 K5) e R1 V1 (Ky.step hQ S1))
theorem tM {o a:Expr}{m:Sm}{x y v:AV}{apos:Pos}(go:Good Z w A (eval o env) F φ s x Ke)(pr:jl Ke x=true)(g:iX Z w A (eval a env) F φ s env Ke y Kf)(ns:aB a=true)(rm:Ks 1 A)
  (cb:eV o=true) (KA:(apos.endLine==p.line)=true) (e:jC Kf m x [y]=some (v,Kd)) :
  Good Z w A (eval (.Call (.Attribute o (km m) apos) [a] [] p) env) F φ s v Kd:=λQ hQ=>
 PySem.Call_method1 (cW cb) (by rw[dI ns];rfl) KA (go _ λF1 Kg vx h1 K5 S1 R1 V1=>tG (s:=sw s h1 K5) pr e R1 rm V1 (g F1 Kg h1 K5 S1 R1) (Ky.step hQ S1))
theorem nh {u v:Value}{neg:Bool}{Q:Value->Shared->Prop}(hp:plainIs u v=true)(hQ:Q (.bool ((u==v) != neg)) s):aA w A (compareOp (iR neg) u v) Q aq s:=by
 cases neg
 ·exact wpAny_is_plain hp (by simpa using hQ)
 ·exact wpAny_isNot_plain hp (by simpa using hQ)
theorem o4 {l r:Expr}{neg:Bool}{x:AV}{k:Nat}{p2:Pos}{Q:Value->Shared->Prop}(G:Glob Z)(g:Good Z w A (eval l env) F φ s x Ke)
  (hQ:Ky Z F φ s (.bool (mR x != neg)) Ke Q) :
  aA w A (eval l env) (λa Kt=>aA w A (eval (.Constant .none k p2) env) (λb Kx=>aA w A (compareOp (iR neg) a b) Q aq Kx) aq Kt) aq s:=
 g _ λF1 Kg vx h1 tk S1 R1 V1=>wpAny_Constant_none (by
  refine nh (s:=sw s h1 tk) ?_ ?_
  ·cases V1<;>rfl
  ·have:(vx==Value.none)=mR x:=by
    cases V1<;>rfl
   rw[this]
   exact hQ F1 Kg _ h1 tk S1 R1 (.bool _))
theorem o5 {l:Expr}{neg b:Bool}{k:Nat}{p2:Pos}{Q:Value->Shared->Prop}(g:Good Z w A (eval l env) F φ s (.bool b) Ke)(hQ:Ky Z F φ s (.bool (b != neg)) Ke Q) :
  aA w A (eval l env) (λa Kt=>aA w A (eval (.Constant (.bool true) k p2) env) (λb Kx=>aA w A (compareOp (iR neg) a b) Q aq Kx) aq Kt) aq s:=
 g _ λF1 Kg vx h1 tk S1 R1 V1=>wpAny_Constant_bool (by
  cases V1;refine nh (s:=sw s h1 tk) rfl ?_;have:(Value.bool b==Value.bool true)=b:=by cases b<;>rfl
  rw[this]
  exact hQ F1 Kg _ h1 tk S1 R1 (.bool _))
theorem qL (G:Glob Z)(R:Kj Z F φ st s.heap)(L:Kl F φ σ sc env O s.heap)(hg:gl sc (nm 52)=true):Good Z w A (eval (.Name (nm 52) p) env) F φ s (.int 4000) st:=by
 refine aw G.lim λt e=>?_;exact Good.val R λQ hQ=>ir R L hg (by decide) e (hQ _ s.toks (.int _ _))
theorem tN {b:Bool}(G:Glob Z)(R:Kj Z F φ st s.heap)(L:Kl F φ σ sc env O s.heap)(hg:gl sc (nm (if b then 33 else 34))=true):Good Z w A (eval (.Name (nm (if b then 33 else 34)) p) env) F φ s (.rx b) st:=
 Good.val R λQ hQ=>ir R L hg (by cases b<;>decide) (G.rx b) (hQ _ s.toks (.rx _))
theorem tO {i:Int}{k:Nat}(R:Kj Z F φ st s.heap):Good Z w A (eval (.Constant (.int i) k p) env) F φ s (.int i) st:=Good.val R λQ hQ=>wpAny_Constant_int (hQ _ _ (.int _ _))
theorem tP {l:List Nat}{k:Nat}(R:Kj Z F φ st s.heap):Good Z w A (eval (.Constant (.str ⟨l.toArray⟩) k p) env) F φ s (.str l) st:=Good.val R λQ hQ=>wpAny_Constant_str (hQ _ _ (.str _ _))
theorem qM {b:Bool}{k:Nat}(R:Kj Z F φ st s.heap):Good Z w A (eval (.Constant (.bool b) k p) env) F φ s (.bool b) st:=Good.val R λQ hQ=>wpAny_Constant_bool (hQ _ s.toks (.bool _))
theorem tR {k:Nat}(R:Kj Z F φ st s.heap):Good Z w A (eval (.Constant .none k p) env) F φ s .none st:=Good.val R λQ hQ=>wpAny_Constant_none (hQ _ s.toks .none)
theorem Bk {t:Ty}{x:AV}{b:Bool}{v:Value}(e:Dy st t x=some b)(R:Kj Z F φ st s.heap)(hx:VR F φ x v):b=true/\s.TypeIs v (Hf t):=by
 have y {b:Bool} (e:some true=some b):b=true:=(KO e).symm
 cases t with
 |int=>exact cu (P:=λv=>b=true/\s.TypeIs v "int") hx e λa t e=>⟨y e,typeIs_int _ _ _⟩
 |str=>exact hG (P:=λv=>b=true/\s.TypeIs v "str") hx e λa t e=>⟨y e,typeIs_str _ _ _⟩
 |bool=>exact uR (P:=λx=>VR F φ x v->b=true/\s.TypeIs v "bool") (λa e=>VR.boolR (P:=λv=>b=true/\s.TypeIs v "bool") ⟨y e,rfl⟩) e hx
 |list=>
  refine zQ (P:=λv=>b=true/\s.TypeIs v "list") hx e (λxs a arr e f _=>⟨y e,(f.isList R.frz).typeIs⟩) λe=>?_;exact ji (P:=λv=>b=true/\s.TypeIs v "list") hx e λi a e hi=>oV e λxs q e=>let ⟨arr,hl,_⟩:=R.list q hi;⟨y e,(aP hl).typeIs⟩
theorem qN {a:Expr}{t:Ty}{neg b:Bool}{x:AV}{p1 p2 p3:Pos}{Q:Value->Shared->Prop}(G:Glob Z)(R:Kj Z F φ st s.heap)(L:Kl F φ σ sc env O s.heap)(h1:gl sc (nm 184)=true)(h2:gl sc (nm (yC t))=true)(ns:aB a=true)
  (g:Good Z w A (eval a env) F φ s x Ke) (e:Dy Ke t x=some b) (hQ:Ky Z F φ s (.bool (b != neg)) Ke Q) :
  aA w A (eval (.Call (.Name (nm 184) p1) [a] [] p2) env) (λa Kt=>aA w A (eval (.Name (nm (yC t)) p3) env) (λb Kx=>aA w A (compareOp (iR neg) a b) Q aq Kx) aq Kt) aq s:=by
 refine PySem.wpAny_Call_NameR (iu R L h1 (by decide) G.typ ?_);rw[bk ns];refine PySem.callWith_type1 (t:=eval a env) (g _ λF1 Kg vx Mg tk S1 R1 V1=>?_);refine av (Bk (s:=sw s Mg tk) e R1 V1) ?_;rintro rfl ht;refine call_type_of ht (by cases t<;>decide) ?_;refine iu (s:=sw s Mg tk) R1 (L.step S1) h2 (by cases t<;>decide) (G.tys t) ?_;refine nh (by cases t<;>rfl) ?_;rw[beq_self_eq_true];exact hQ F1 Kg _ Mg tk S1 R1 (.bool _)
theorem tS {l r:Expr}{x y:AV}{xs ys:List AV}(g1:Good Z w A (eval l env) F φ s x Ke)(g2:iX Z w A (eval r env) F φ s env Ke y Kf)(e1:cN Kf x=some xs)(e2:cN Kf y=some ys)
  (hl:xs.length+ys.length<=1000000):Kq Z w A (eval (.BinOp l .Add r p) env) F φ s (xs++ys) Kf:=λQ hQ=>
 wpAny_BinOp (g1 _ λF1 Kg vx h1 K5 S1 R1 V1=>g2 F1 Kg h1 K5 S1 R1 _ λF2 KI vy h2 Ku S2 R2 V2=>by
  refine cP (R2.lstOf e1 (V1.mono S2.le S2.pre)) ?_;rintro a arr rfl ⟨n,ha⟩ d1;refine cP (R2.lstOf e2 V2) ?_;rintro b Lg rfl ⟨m,hb⟩ d2;have l1:=d1.size;have l2:=d2.size
  refine concat_meets (s:=sw s h2 Ku) ⟨_,ha,rfl⟩ ⟨_,hb,rfl⟩ noFill_list_add seq_list_add PySem.F.slot_list_add PySem.F.entry_list_add (PySem.F.args_list_add_2 _ _)
   (list_addW a b arr Lg n m none none #[] #[] (by rw[sizeLine_eq];exact Q3 0x5711246112f4240517601101000000715401104 [_,_,_,_] hl l1 l2 rfl)) ⟨ha,hb,?_⟩
  exact KN.push (s:=sw s h2 Ku) (KN.step hQ (S1.trans S2)) R2 (by rw[toList_append];exact d1.append d2))
theorem tT {a r:Expr}{x:AV}{k:Int}{p2:Pos}(R0:Kj Z F φ st s.heap)(ns:aB a=true)(g1:Good Z w A (eval a env) F φ s x Ke)(g2:iX Z w A (eval r env) F φ s env Ke (.int k) Kf)
  (hk:k<2^20/\-(2^20)<k):Kq Z w A (eval (.BinOp (.List [a] p2) .Mult r p) env) F φ s (replicate k.toNat x) Kf:=λQ hQ=>by
 refine wpAny_BinOp (wpAny_List ?_);rw[bk ns];refine Calls.spliced_cons (g1 _ λF1 Kg vx h1 K5 S1 R1 V1=>Calls.spliced_nil ⟨by simp[sizeLine_eq],?_⟩);refine gQ R1.size_new λn1 n2 n3 n4=>?_;have RN:=R1.newF (o:={ cls:=.type "list",data:=.seq ([vx]:List Value).toArray }) rfl;have gD:hJ F1 h1.objs.size { cls:=.type "list",data:=.seq ([vx]:List Value).toArray } h1.objs.size=some { cls:=.type "list",data:=.seq ([vx]:List Value).toArray }:=bP;have Pb:=S1.trans (RN.2 []);refine g2 _ Kg _ K5 Pb RN.1 _ λF2 KI vy h2 Ku S2 R2 V2=>?_
 cases V2 with
 |int _ u=>
  have g3:=R2.frz _ _ (S2.le _ _ gD);have vx2:VR F2 KI x vx:=(V1.mono (cV n1) (prefix_refl _)).mono S2.le S2.pre
  refine wpAny_binaryOp_repeat_ref (s:=sw s h2 Ku) (T:="list") (U:="int") (by decide) ⟨_,g3,rfl⟩ (λs'=>typeIs_int s' k u) noFill_list_mul PySem.F.fills_int_mul slot_int_rmul repeat_list PySem.F.slot_int_index.lookup
   (call_meets slot_int_rmul (typeIs_int _ k u) PySem.F.entry_int_rmul (PySem.F.args_int_rmul_2 _ _) (int___rmul___int_list k u _ _ _)
    ⟨g3,rfl,⟨_,g3,rfl⟩,call_meets PySem.F.slot_list_mul ⟨_,g3,rfl⟩ PySem.F.entry_list_mul (PySem.F.args_list_mul_2 _ _)
     (AutoListH.list___mul___list_int_3 _ _ _ k u (by simp[Builtin.List.listFitsIndex];exact Jp (by assumption)) (by simp;lia) (by simp[Builtin.List.listTooLong,sizeLine];lia))
     ⟨g3,?_⟩⟩)
  refine KN.push (s:=sw s h2 Ku) (KN.step hQ (Pb.trans S2)) R2 ?_;have:(if ([vx]:List Value).toArray.isEmpty=true then 0 else k.toNat)=k.toNat:=by simp
  rw[this];rw[foldl_rep vx k.toNat #[]];exact Km.replicate vx2 _
end
theorem jJ (sl:Expr)(o i:Value):∃ l,subscripted sl false o i=operate l (getItem o i):=by
 cases sl with
 |Slice a b c p=>cases c<;>exact⟨_,rfl⟩
 |_=>exact⟨_,rfl⟩
section
variable {p:Pos}{a:Addr}
theorem gU {value slice:Expr}{Q:Value->Shared->Prop}
  (h:aA w A (eval value env) (λo Kt=>aA w A (eval slice env) (λi Kx=>Kx.TypeIs o "list"/\aA w A (getItem o i) Q aq Kx) aq Kt) aq s) :
  aA w A (eval (.Subscript value slice pos) env) Q aq s:=by
 rw[arm_eval_Subscript];refine wpAny_bind (wpAny_mono h (λo Kt K1=>wpAny_bind (wpAny_holding (wpAny_mono K1 (λi Kx K8=>wpAny_bind (wpAny_standAt ?_)) λ_ _ x=>x))) λ_ _ x=>x);refine av K8 ?_;clear K8;intro hT hg;refine wpAny_bind ?_;rw[getitemInPython_of_ne hT.not_modules];refine wpAny_bind (wpAny_specialOf hT PySem.F.slot_list_getitem.lookup ?_);refine aw (jJ slice o i) λl e=>?_;refine wpAny_pure (wpAny_bind ?_);rw[e];exact wpAny_operating (wpAny_mono hg (λr KY Lo=>wpAny_bind (wpAny_letTemporaryGo (wpAny_pure Lo))) λ_ _ x=>x)
theorem o6 {x:AV}{xs ys:List AV}{vx vl vu vs:Value}{lo hi sp:Option Int}{Q:Value->Shared->Prop}(e:cN st x=some xs)(Ko:xs.length<=1000000)(R:Kj Z F φ st s.heap)(V:VR F φ x vx)
  (pl:IsPart vl lo) (pu:IsPart vu hi) (ps:IsPart vs sp) (h0:sp≠some 0)
  (hp:∀ arr:Array Value,Km F φ xs arr.toList->Km F φ ys (slicePick arr lo hi sp).toList) (hQ:KN Z F φ s ys st Q) :
  (⟨s.heap.push { cls:=.type "slice",data:=.fields #[vl,vu,vs] },s.gens,s.drawn,s.toks,s.os⟩:Shared).TypeIs vx "list" /\
   aA w A (getItem vx (.ref s.heap.objs.size)) Q aq ⟨s.heap.push { cls:=.type "slice",data:=.fields #[vl,vu,vs] },s.gens,s.drawn,s.toks,s.os⟩:=by
 have S1:Step F φ [] s.heap F φ (s.heap.push { cls:=.type "slice",data:=.fields #[vl,vu,vs] }):=Step.ext aC;have R1:=R.ext (h':=s.heap.push { cls:=.type "slice",data:=.fields #[vl,vu,vs] }) aC;refine cP (R1.lstOf e V) ?_;rintro b arr rfl ⟨n,hb⟩ d;have hL:(s.heap.push { cls:=.type "slice",data:=.fields #[vl,vu,vs] }).IsList b arr:=⟨_,hb,rfl,_,rfl⟩;refine⟨⟨_,hb,rfl⟩,?_⟩;have l1:=d.size;refine wpAny_getItem_list_slice (s:=⟨s.heap.push { cls:=.type "slice",data:=.fields #[vl,vu,vs] },s.gens,s.drawn,s.toks,s.os⟩) hL (Heap.IsSliceOf.new s.heap vl vu vs) pl pu ps h0 ?_ (by rw[sizeLine_eq];exact Q2 0x45112f424051511010000007141103 [_,_] Ko l1 rfl);exact KN.push (s:=⟨s.heap.push { cls:=.type "slice",data:=.fields #[vl,vu,vs] },s.gens,s.drawn,s.toks,s.os⟩) (KN.step hQ S1) R1 (hp arr d)
theorem qO {v l:Expr}{x:AV}{k:Int}{xs:List AV}{p2:Pos}(g1:Good Z w A (eval v env) F φ s x Ke)(g2:iX Z w A (eval l env) F φ s env Ke (.int k) Kf)(e:cN Kf x=some xs)(hk:0<=k)(Ko:xs.length<=1000000) :
  Kq Z w A (eval (.Subscript v (.Slice (some l) none none p2) p) env) F φ s (xs.drop k.toNat) Kf:=λQ hQ=>by
 refine gU (g1 _ λF1 Kg vx h1 K5 S1 R1 V1=>wpAny_Slice ?_);rw[evalPart_some];refine g2 F1 Kg h1 K5 S1 R1 _ λF2 KI vy h2 Ku S2 R2 V2=>?_;rw[evalPart_none];refine wpAny_pure (wpAny_pure ?_)
 cases V2 with
 |int _ t=>
  refine o6 (s:=sw s h2 Ku) (lo:=some k) (hi:=none) (sp:=none) e Ko R2 (V1.mono S2.le S2.pre) (.int k t) .none .none (by decide) (λarr d=>?_) (KN.step hQ (S1.trans S2));have:=slicePick_from' arr k.toNat;rw[Int.toNat_of_nonneg hk]at this;rw[this];exact d.drop _
theorem tU {v:Expr}{x:AV}{xs:List AV}{k:Nat}{p2 p3 p4:Pos}(g1:Good Z w A (eval v env) F φ s x Ke)(e:cN Ke x=some xs)(Ko:xs.length<=1000000) :
  Kq Z w A (eval (.Subscript v (.Slice none none (some (.UnaryOp .USub (.Constant (.int 1) k p4) p3)) p2) p) env) F φ s xs.reverse Ke:=λQ hQ=>by
 refine gU (g1 _ λF1 Kg vx h1 K5 S1 R1 V1=>wpAny_Slice ?_);rw[evalPart_none,evalPart_some];refine wpAny_pure (wpAny_pure (wpAny_UnaryOp (wpAny_Constant_int (P.neg_int ?_))));refine o6 (s:=sw s h1 _) (lo:=none) (hi:=none) (sp:=some (-1)) e Ko R1 V1 .none .none (.int (-1) _) (by decide) (λarr d=>?_) (KN.step hQ S1);rw[krv_pick];exact d.reverse
end
theorem o7 (x y:Int)(r:List Int):aO x (y::r)=if x<y then x::y::r else y::aO x r:=rfl
theorem o8 (x:Int):∀ l:List Int,(aO x l).Perm (x::l):=by
 intro l
 induction l with
 |nil=>
  exact .refl _
 |cons y r ih=>
  rw[o7];split
  ·exact .refl _
  ·exact((ih).cons y).trans (.swap ..)
theorem tV:∀ l:List Int,(l.foldr aO []).Perm l:=by
 intro l
 induction l with
 |nil=>
  exact .refl _
 |cons x r ih=>
  exact(o8 x _).trans ((ih).cons x)
theorem qP (x:Int):∀ l:List Int,l.Pairwise (·<=·)->(aO x l).Pairwise (·<=·):=by
 intro l
 induction l with
 |nil=>
  intro _;exact List.pairwise_singleton ..
 |cons y r ih=>
  intro h;rw[o7];rw[pairwise_cons]at h;split
  ·rename_i q;rw[pairwise_cons,pairwise_cons];refine⟨λz m=>?_,h⟩
   cases m with
   |head=>lia
   |tail _ m=>have:=h.1 z m;lia
  ·rename_i q;rw[pairwise_cons];refine⟨λz m=>?_,ih h.2⟩;have:=(o8 x r).mem_iff.mp m
   cases this with
   |head=>lia
   |tail _ m=>exact h.1 z m
theorem o9:∀ l:List Int,(l.foldr aO []).Pairwise (·<=·):=by
 intro l
 induction l with
 |nil=>
  exact .nil
 |cons x r ih=>
  exact qP x _ (ih)
theorem pb {l m:List Int}(h:m.Perm l)(s:m.Pairwise (·<=·)):m=l.foldr aO []:=
 List.Perm.eq_of_pairwise (le:=(·<=·)) (λa b _ _ h1 h2=>Int.le_antisymm h1 h2) s (o9 l) (h.trans (tV l).symm)
section
variable {p:Pos}{a:Addr}
theorem Km.ofInts {vs:List Value}{ns:List Int}(h:IntsAre vs ns):Km F φ (ns.map .int) vs:=by
 induction h with
 |nil=>exact .nil
 |cons a b c d=>exact .cons (.int _ _) d
theorem pc {vs:List Value}{ns:List Int}(h:IntsAre vs ns):vs.length=ns.length:=by
 induction h with
 |nil=>rfl
 |cons a b c d=>exact congrArg Nat.succ d
set_option tactic.hygienic true in
theorem ni {x:Expr}{xs:List AV}{l:List Int}{p1:Pos}(G:Glob Z)(R:Kj Z F φ st s.heap)(L:Kl F φ σ sc env O s.heap)(hg:gl sc (nm 181)=true)(ns:aB x=true)
  (g:Good Z w A (eval x env) F φ s (.lst xs) Ke) (e:allInts xs=some l) (hl:l.length<64) :
  Kq Z w A (eval (.Call (.Name (nm 181) p1) [x] [] p) env) F φ s ((l.foldr aO []).map .int) Ke:=λQ hQ=>by
 refine PySem.wpAny_Call_NameR (iu R L hg (by decide) G.srt ?_);refine Calls.callWith_builtin (cM (by simp[ns])) ?_;rw[bk ns];refine Calls.evalArgs_plain (Calls.spliced_cons (g _ λF1 Kg vx h1 K5 S1 R1 V1=>Calls.spliced_nil ?_))
 cases V1 with
 |lst e1 d=>
  rename_i b arr;have hI:IntsAre arr.toList l:=Km.intsAre e d;have Ko:arr.toList.length<64:=by rw[pc hI];exact hl
  refine sorted_ints (s:=sw s h1 K5) (vs:=arr.toList) (by simpa using e1.isList R1.frz) hI Ko λout ns' a1 a2 a3=>?_;refine aw (sortedAll_at h1 arr.toList out) λk he=>?_;have old:∀ b o,h1.get? b=some o->(sortedAll h1 arr.toList out).get? b=some o:=λ_ _ z=>sortedAll_old z
  have nz:h1.get? (h1.objs.size+1)=none:=by
   cases q:h1.get? (h1.objs.size+1) with
   |none=>rfl
   |some o=>exact absurd (lt_size q) (not_lt.mpr (le_succ _))
  refine gQ (R1.absent nz) λn1 n2 n3 n4=>?_;have:=pb a2 a3;subst this
  exact hQ F1 Kg _ _ out k K5 (S1.trans (Step.ext old)) (R1.ext old) he (by
   cases q:s.heap.get? (h1.objs.size+1) with
   |none=>rfl
   |some o=>refine aw (S1.dom _ o q) λo' z=>?_;rw[z]at nz;cases nz) n1 n2 (Km.ofInts a1)
theorem Km.ofStrs:∀ (l:List (Str×Tok)),Km F φ (l.map λq=>.str q.1.cps.toList) (strValues l):=by
 intro l
 induction l with
 |nil=>
  exact .nil
 |cons Lp l ih=>
  obtain⟨x,t⟩:=Lp;exact .cons (.str _ t) (ih)
theorem pe {o x:Expr}{q z:List Nat}{apos:Pos}(go:Good Z w A (eval o env) F φ s (.str q) Ke)(g:iX Z w A (eval x env) F φ s env Ke (.str z) Kf)(ns:aB x=true)
  (cb:eV o=true) (KA:(apos.endLine==p.line)=true) (h1:z.isEmpty=false) (h2:q.length<=1000) (h3:(Txt.split ⟨q.toArray⟩ ⟨z.toArray⟩).length<=1000) :
  Kq Z w A (eval (.Call (.Attribute o (nm 159) apos) [x] [] p) env) F φ s ((Txt.split ⟨q.toArray⟩ ⟨z.toArray⟩).map λx=>.str x.cps.toList) Kf:=λQ hQ=>by
 have hn:nm 159=ofString "split":=by decide +kernel
 rw[hn];refine PySem.Call_method1 (cW cb) (by rw[dI ns];rfl) KA (go _ λF1 Kg vx Mg K5 S1 R1 V1=>?_)
 cases V1 with
 |str _ t=>
 refine⟨"str",_,PySem.F.plainAttrs_str,PySem.F.slot_str_split,PySem.F.type_str_split,typeIs_str _ _ _,(λ_ e=>nomatch e),
  method1_meets PySem.F.slot_str_split PySem.F.entry_str_split (g F1 Kg Mg K5 S1 R1 _ λF2 KI vy MD Ku S2 R2 V2=>?_)⟩
 cases V2 with
 |str _ u=>
 refine⟨typeIs_str _ _ _,PySem.F.args_str_split_2 _ _,?_⟩
 have hy:((⟨z.toArray⟩:Str).length==0)=false:=by
  cases z with
  |nil=>cases h1
  |cons a b=>rfl
 have hx:(⟨q.toArray⟩:Str).length<=sizeLine:=by
  have:(⟨q.toArray⟩:Str).length=q.length:=by simp[Str.length]
  rw[this,sizeLine_eq];exact bN
 have fin:∀ (l:List (Str×Tok)) (k:Nat),l.map (·.1)=Txt.split ⟨q.toArray⟩ ⟨z.toArray⟩->Q (.ref MD.objs.size) ⟨MD.push { cls:=.type "list",data:=.seq (strValues l).toArray },s.gens,s.drawn,k,s.os⟩:=λl k hl=>by
  refine KN.push (s:=sw s MD k) (KN.step hQ (S1.trans S2)) R2 ?_;have:=Km.ofStrs (F:=F2) (φ:=KI) l;rw[← hl,map_map];simpa [Function.comp_def] using this
 have hs:∀ a:Bool,a=true->¬ a=false:=by decide
 cases c1:(decide ((⟨q.toArray⟩:Str).length<(⟨z.toArray⟩:Str).length)||decide (Builtin.Str.strKind ⟨q.toArray⟩<Builtin.Str.strKind ⟨z.toArray⟩))
 ·cases hf:(Builtin.Str.occurrences ⟨q.toArray⟩ ⟨z.toArray⟩ 0 (⟨q.toArray⟩:Str).length ((⟨q.toArray⟩:Str).length+1)).isEmpty
  ·have e3:Txt.split ⟨q.toArray⟩ ⟨z.toArray⟩=_:=(if_neg (ne_true_of_eq_false c1)).trans (if_neg (ne_true_of_eq_false hf));refine⟨_,meets_str_split_sep _ _ t u c1 hy hf hx (by rw[← e3,sizeLine_eq];exact bN),?_⟩;show Q _ { (⟨MD,s.gens,s.drawn,Ku,s.os⟩:Shared) with toks:=_,heap:=MD.push { cls:=.type "list",data:=.seq (strsFrom Ku (Builtin.Str.partsBetween ⟨q.toArray⟩ (Builtin.Str.occurrences ⟨q.toArray⟩ ⟨z.toArray⟩ 0 (⟨q.toArray⟩:Str).length ((⟨q.toArray⟩:Str).length+1)) (⟨z.toArray⟩:Str).length)).toArray } };rw[strsFrom_eq];exact fin (numbered Ku _) _ ((numbered_texts _ _).trans e3.symm)
  ·exact⟨_,meets_str_split_not_found _ _ t u c1 hy hf,fin [(⟨q.toArray⟩,t)] Ku ((if_neg (ne_true_of_eq_false c1)).trans (if_pos hf)).symm⟩
 ·exact⟨_,meets_str_split_cannot_occur _ _ t u c1,fin [(⟨q.toArray⟩,t)] Ku (if_pos c1).symm⟩
theorem tW (R:Kj Z F φ st s.heap):Good Z w A (eval (.Name (nm 131) p) env) F φ s (.bool true) st:=Good.val R λQ hQ=>by
 rw[arm_eval_Name,vh];refine wpAny_bind (wpAny_standAt ?_);rw[if_pos (by rfl)];exact wpAny_bind (wpAny_rule (wpAny_pure (hQ _ s.toks (.bool _))))
theorem pg {b:Bool}{p1:Pos}(G:Glob Z)(R:Kj Z F φ st s.heap)(L:Kl F φ σ sc env O s.heap)(hg:gl sc (nm 17)=true) :
  Good Z w A (eval (.Attribute (.Name (nm 17) p1) (nm (if b then 153 else 152)) p) env) F φ s (.str [if b then 9 else 32]) st:=Good.val R λQ hQ=>by
 refine ak G.wst λmc h1 h2=>?_;refine aw (h2 b) λt h3=>?_;refine io rfl (ir R L hg (by decide) G.wsc ?_);exact cls_value (R.base.inK R.frz) h1 h3 rfl (hQ _ (s.toks+1) (.str _ t))
theorem qQ {x:Nat}{i:Int}{l:List Nat}{p1 p2 p3 p4 p5 apos:Pos}(G:Glob Z)(R:Kj Z F φ st s.heap)(L:Kl F φ σ sc env O s.heap)(rm:Ks 1 A)(h1:gl sc (nm 54)=true)(h2:gl sc (nm 187)=true)(hx:x≠131)
  (KA:(apos.endLine==p.line)=true) (ex:af σ x=some (.int i)) (e:n5 i=some l) :
  Good Z w A (eval (.Call (.Attribute (.Name (nm 54) p1) (nm 43) apos) [.Name (nm x) p2,.Call (.Name (nm 187) p3) [.Name (nm x) p4] [] p5] [] p) env) F φ s (.str l) st:=λQ hQ=>by
 refine oI (P:=aA w A _ Q aq s) e λKo e=>?_
 ·cases e;obtain⟨d,o,es,ep,g1,g2,g3,g4,g5,g6,g7⟩:=G.flg;have hn:nm 43=ofString "get":=by decide +kernel
  rw[hn];have od:=R.base.inK R.frz _ _ g3;refine PySem.Call_method2 (cW rfl) rfl KA (ir R L h1 (by decide) g1 ?_)
  refine⟨"dict","dict.get",PySem.F.plainAttrs_dict,PySem.F.slot_dict_get,PySem.F.type_dict_get,⟨o,od,g4.1⟩,(λa z=>?_),
   wpAny_dict_get2 (knd:=intKind aM w) g2 (ga L ex hx λv' hv=>?_)⟩
  ·cases z;exact⟨o,od,g4.2.1⟩
  cases hv with
  |int _ t1=>
  have gh:fU Z w A (spliced (backTo p5 (starEach [.Name (nm x) p4] env))) F φ s [.int i] st:=λQ hQ=>by
   rw[bk rfl];refine Calls.spliced_cons (ga L ex hx λv' hv=>Calls.spliced_nil ?_);exact hQ F φ _ s.heap s.toks (Step.refl ..) R (.cons hv .nil)
  refine o3 (id:=0) (b:=.hex) (vs:=[.int i]) (st:=st) G gh (λz=>by cases z) R L rm h2 rfl (v:=.str (lE i)) (Kd:=st) (if_pos Ko) _ λF1 Kg v2 Mg K5 S1 R1 V1=>?_;refine⟨i,findBy Value.isInt es,by simp[intKind,Value.isInt],⟨o,es,ep,R1.base.inK R1.frz _ _ g3,g4,g5,λe he=>g6 e he,λk=>rfl⟩,?_⟩;rcases g7 i with ⟨q,t,e1,e2⟩ |⟨e1,e2⟩
  ·rw[e2];have:=hQ F1 Kg (.str ⟨q.2.toArray⟩ t) Mg (K5+1) S1 R1 (by rw[e1];exact .str _ t);exact this
  ·rw[e2];exact hQ F1 Kg v2 Mg (K5+1) S1 R1 (by rw[e1];exact V1)
theorem qR {X:Cx}{k:Nat}{o x:Expr}{rx ax v:AV}{b:Bool}{ck:Nat}{apos p1 p2:Pos}(hC:cx Z w k X.C)(G:Glob Z)(go:Good Z w A (eval o env) F φ s rx Ke)(hr:dr Ke 35 rx=true)
  (g:iX Z w A (eval x env) F φ s env Ke ax Kf) (rm:Ks k A) (cb:eV o=true) (KA:(apos.endLine==p.line)=true) (ns:aB x=true) (e:X.C 35 [rx,ax,.bool b] Kf=some (v,Kd)) :
  Good Z w A (eval (.Call (.Attribute o (nm 36) apos) [x] [⟨some (nm 110),.Constant (.bool b) ck p2,p1⟩] p) env) F φ s v Kd:=λQ hQ=>by
 have hn:nm 110=ofString "name":=by decide +kernel
 have MZ:methodCallForm (([x]:List Expr).length+([⟨some (nm 110),.Constant (.bool b) ck p2,p1⟩]:List Keyword).length) (backTo p (starEach [x] env)) (backToKw p (keywordEach [⟨some (nm 110),.Constant (.bool b) ck p2,p1⟩] env))=true:=by
  rw[bk ns];rfl
 refine l6 cb MZ KA (go _ λF1 Kg vx Mg K5 S1 R1 V1=>λpl=>?_);have hm:tj 35=36:=rfl;refine hm▸oO (s:=sw s Mg K5) G (by decide) (by decide) hr R1 V1 ?_;have Mf:starEach [x] env=(false,eval x env)::starEach [] env:=dI ns;refine PySem.W.callWith_of (P:=λh=>Z.K.In h) (by rw[bk ns];rfl) (keeps_K (G.keep 35 (by decide))) ?_;refine evalArgs_kw2 rfl ?_ Mf;rw[bk ns];refine Calls.spliced_cons (g F1 Kg Mg K5 S1 R1 _ λF2 KI vy MD Ku S2 R2 V2=>Calls.spliced_nil ?_);refine kwAll_cons (wpAny_Constant_bool (kwAll_nil ?_));refine⟨R2.base.inK R2.frz,?_⟩;have:=hC 35 [rx,ax,.bool b] Kf v Kd e A F2 KI ⟨MD,s.gens,s.drawn,Ku,s.os⟩ [vx,vy,.bool b] rm R2 (.cons (V1.mono S2.le S2.pre) (.cons V2 (.cons (.bool b) .nil)));rw[if_pos rfl,← hn]at this;exact this Q (Ky.step hQ (S1.trans S2))
structure KG (Z:Kz)(w:World)(A:Around)(ex:Expr)(env:Env)(F:bf)(φ:List Addr)(s:Shared)(v:AV)(Kd:St):Prop where
 good:Good Z w A (eval ex env) F φ s v Kd
 cmp:m6 ex=false->∀ whole,∃ b,v=.bool b/\dK Z w A (isTrue ex env whole) F φ s b Kd
theorem KG.of {ex:Expr}{v:AV}(n:m6 ex=true)(g:Good Z w A (eval ex env) F φ s v Kd):KG Z w A ex env F φ s v Kd:=⟨g,λq=>by rw[n]at q;cases q⟩
theorem KG.cmpOf {l r:Expr}{op:CmpOp}{b:Bool}(hm:behindInMarks op r=false)
  (g:∀ Q,Ky Z F φ s (.bool b) Kd Q->aA w A (eval l env) (λa Kt=>aA w A (eval r env) (λb Kx=>aA w A (compareOp op a b) Q aq Kx) aq Kt) aq s) :
  KG Z w A (.Compare l [op] [r] p) env F φ s (.bool b) Kd:=
 ⟨λQ hQ=>wpAny_Compare1 (g Q hQ) hm,λ_ whole=>⟨b,rfl,λQ hQ=>wpAny_isTrue_Compare1 (g _ λF1 Kg v' h1 tk S R V=>by
  cases V
  exact wpAny_truthy_bool (hQ F1 Kg h1 tk S R)) hm⟩⟩
variable (Z w)
structure SE (k:Nat)(X:Cx)(e:E):Prop where
 run:∀ {ex:Expr} {sc:Scope} {σ:Loc} {st Kd:St} {v:AV} {A:Around} {F:bf} {φ:List Addr} {s:Shared} {env:Env} {O:List Addr},
 aW sc e ex=true->aa X e σ st=some (v,Kd)->Ks (k+1) A->Kj Z F φ st s.heap->Kl F φ σ sc env O s.heap->KG Z w A ex env F φ s v Kd
structure SL (k:Nat)(X:Cx)(l:L):Prop where
 run:∀ {ex:Expr} {sc:Scope} {σ:Loc} {st Kd:St} {vs:List AV} {A:Around} {F:bf} {φ:List Addr} {s:Shared} {env:Env} {O:List Addr},
 Bh sc l ex=true->dt X l σ st=some (vs,Kd)->Ks (k+1) A->Kj Z F φ st s.heap->Kl F φ σ sc env O s.heap->Kq Z w A (eval ex env) F φ s vs Kd
structure SC (k:Nat)(X:Cx)(c:C):Prop where
 run:∀ {ex:Expr} {sc:Scope} {σ:Loc} {st Kd:St} {b:Bool} {A:Around} {F:bf} {φ:List Addr} {s:Shared} {env:Env} {O:List Addr},
 Lh sc c ex=true->aJ X c σ st=some (b,Kd)->Ks (k+1) A->Kj Z F φ st s.heap->Kl F φ σ sc env O s.heap->dK Z w A (isTrue ex env (eval ex env)) F φ s b Kd
structure MW (k:Nat)(X:Cx)(es:List E):Prop where
 run:∀ {LF:List Expr} {sc:Scope} {σ:Loc} {st Kd:St} {vs:List AV} {A:Around} {F:bf} {φ:List Addr} {s:Shared} {env:Env} {O:List Addr} {pos:Pos},
 eW sc es LF=true->LF.all aB=true->aN X es σ st=some (vs,Kd)->Ks (k+1) A->Kj Z F φ st s.heap->Kl F φ σ sc env O s.heap ->
  fU Z w A (spliced (backTo pos (starEach LF env))) F φ s vs Kd
structure NO (k:Nat)(X:Cx)(cs:List C):Prop where
 run:∀ {LF:List Expr} {sc:Scope} {σ:Loc} {st Kd:St} {b:Bool} {A:Around} {F:bf} {φ:List Addr} {s:Shared} {env:Env} {O:List Addr},
 vg sc cs LF=true->dE X cs σ st=some (b,Kd)->Ks (k+1) A->Kj Z F φ st s.heap->Kl F φ σ sc env O s.heap->dK Z w A (fI LF env) F φ s b Kd
variable {Z w}
theorem fJ {X:Cx}{es:List E}{LF:List Expr}{vs:List AV}(c:eW sc es LF=true)(e:aN X es σ st=some (vs,Kd)):LF=[]->vs=[]/\Kd=st:=by
 rintro rfl
 cases es with
 |nil=>exact oP (P:=λvs Kd=>vs=[]/\Kd=st) e ⟨rfl,rfl⟩
 |cons _ _=>cases(show false=true from c)
theorem fK {X:Cx}:∀ {es:List E} {LF:List Expr} {vs:List AV} {st Kd:St},eW sc es LF=true->aN X es σ st=some (vs,Kd)->vs.length=LF.length:=by
 intro es
 induction es with
 |nil=>
  intro LF _ _ _ c e;exact oP (P:=λvs _=>vs.length=LF.length) e (isEmpty_iff.mp c▸rfl)
 |cons e0 es ih=>
  intro LF vs st Kd c e;exact bD (P:=λLF=>vs.length=LF.length) (λx xs c=>bU c λ_ c=>oE e λv Ke _ e=>oL e λws Kf q e=>oP (P:=λvs _=>vs.length=xs.length+1) e (congrArg (·+1) (ih c q))) c
theorem oA {γ:Type}{o:Option AV}{k:AV->Option γ}{r:γ}{P:Prop}(e:(match o with
 |some x=>k x
 |none=>none)=some r) (f:∀ x,o=some x->k x=some r->P):P:=by
 cases o with
 |none=>exact absurd e bg
 |some z=>exact f _ rfl e
theorem Ks.one {k:Nat}(rm:Ks (k+1) A):Ks 1 A:=rm.less (succ_le_succ (zero_le k))
theorem Ks.pre {k:Nat}(rm:Ks (k+1) A):Ks k A:=rm.less (le_succ k)
theorem SE.then {k:Nat}{X:Cx}{e:E}{ex:Expr}{v:AV}(g:SE Z w k X e)(c:aW sc e ex=true)(ev:aa X e σ Ke=some (v,Kf))(rm:Ks (k+1) A)(L:Kl F φ σ sc env O s.heap) :
  iX Z w A (eval ex env) F φ s env Ke v Kf:=λF1 Kg h1 tk S R=>(g.run (s:=sw s h1 tk) c ev rm R (L.step S)).good
theorem vA {ex:Expr}{env:Env}(c:kq ex=true):isTrue ex env (eval ex env)=(do let v ← eval ex env;standAt ex.pos;holding [v] (truthy v)):=by
 cases ex<;>first |rfl |cases c
theorem vB:∀ (xs:List Expr) (s:Shared) (Q:Bool->Shared->Prop),Q false s->aA w A (forIn xs false λc r=>if r=true then do let ok ← isTrue c env (eval c env);Pure.pure (ForInStep.yield ok) else Pure.pure (ForInStep.yield r)) Q aq s:=by
 intro xs
 induction xs with
 |nil=>
  intro s Q h;exact wpAny_pure h
 |cons y ys ih=>
  intro s Q h;rw[forIn_cons];refine wpAny_bind ?_;rw[if_neg Ly];exact wpAny_pure (ih s Q h)
section
variable {X:Cx}{k:Nat}
variable (hk:1<=k)(hC:cx Z w k X.C)(G:Glob Z)
include hC G
theorem DC {x:Nat}:SE Z w k X (.l x):=.mk <|by
 intro ex sc σ st Kd v A F φ s env O c e rm R L;exact bn (P:=λex=>KG Z w A ex env F φ s v Kd) (λp c=>xZ (P:=λv t=>KG Z w A _ env F φ s v t) e λu e=>.of rfl (vk R L e (bne_iff_ne.mp c))) c
theorem DD {i:Int}:SE Z w k X (.int i):=.mk <|by
 intro ex sc σ st Kd v A F φ s env O c e rm R L;exact jp (P:=λex=>KG Z w A ex env F φ s v Kd) (λq p _=>oP (P:=λv t=>KG Z w A _ env F φ s v t) e (.of rfl (tO R))) c
theorem DE {l:List Nat}:SE Z w k X (.str l):=.mk <|by
 intro ex sc σ st Kd v A F φ s env O c e rm R L;exact jp (P:=λex=>KG Z w A ex env F φ s v Kd) (λq p _=>oP (P:=λv t=>KG Z w A _ env F φ s v t) e (.of rfl (tP R))) c
theorem zZ {b:Bool}:SE Z w k X (.bool b):=.mk <|by
 intro ex sc σ st Kd v A F φ s env O c e rm R L;exact jp (P:=λex=>KG Z w A ex env F φ s v Kd) (λq p _=>oP (P:=λv t=>KG Z w A _ env F φ s v t) e (.of rfl (qM R))) c
theorem DF:SE Z w k X .non:=.mk <|by
 intro ex sc σ st Kd v A F φ s env O c e rm R L;exact jp (P:=λex=>KG Z w A ex env F φ s v Kd) (λq p _=>oP (P:=λv t=>KG Z w A _ env F φ s v t) e (.of rfl (tR R))) c
theorem DG {op:Operator}{a b:E}(ha:SE Z w k X a)(hb:SE Z w k X b):SE Z w k X (.b op a b):=.mk <|by
 intro ex sc σ st Kd v A F φ s env O c e rm R L;refine iq (P:=λex=>KG Z w A ex env F φ s v Kd) (λl r p c=>bU c λc1 c2=>?_) c;exact oE e λx Ke e1 e=>oE e λy Kf e2 e=>xZ (P:=λv t=>KG Z w A _ env F φ s v t) e λu e3=>.of rfl (iY (ha.run c1 e1 rm R L).good (hb.then c2 e2 rm L) rm.one e3)
theorem DH {op:CmpOp}{a b:E}(ha:SE Z w k X a)(hb:SE Z w k X b):SE Z w k X (.cmp op a b):=.mk <|by
 intro ex sc σ st Kd v A F φ s env O c e rm R L;refine jS (P:=λex=>KG Z w A ex env F φ s v Kd) (λl r p c=>fX c λhm c1 c2=>?_) c;exact oE e λx Ke e1 e=>oE e λy Kf e2 e=>xZ (P:=λv t=>KG Z w A _ env F φ s v t) e λu e3=>KG.cmpOf (dh hm) λQ hQ=>tJ (ha.run c1 e1 rm R L).good (hb.then c2 e2 rm L) rm.one e3 hQ
theorem DI {t:C}{a b:E}(ht:SC Z w k X t)(ha:SE Z w k X a)(hb:SE Z w k X b):SE Z w k X (.ite t a b):=.mk <|by
 intro ex sc σ st Kd v A F φ s env O c e rm R L;refine vb (P:=λex=>KG Z w A ex env F φ s v Kd) (λt' x y p c=>fX c λc0 c1 c2=>.of rfl λQ hQ=>wpAny_IfExp ?_) c
 exact oC e (λKe e0 e=>ht.run c0 e0 rm R L _ λF1 Kg h1 tk S1 R1=>(ha.run (s:=sw s h1 tk) c1 e rm R1 (L.step S1)).good Q (Ky.step hQ S1))
  λKe e0 e=>ht.run c0 e0 rm R L _ λF1 Kg h1 tk S1 R1=>(hb.run (s:=sw s h1 tk) c2 e rm R1 (L.step S1)).good Q (Ky.step hQ S1)
theorem DJ {es:List E}(he:MW Z w k X es):SE Z w k X (.tup es):=.mk <|by
 intro ex sc σ st Kd v A F φ s env O c e rm R L;refine gB (P:=λex=>KG Z w A ex env F φ s v Kd) (λxs q p c=>fX c λc0 c1 c2=>?_) c;exact oL e λvs Ke e1 e=>oP (P:=λv t=>KG Z w A _ env F φ s v t) e (.of rfl (mi (he.run c2 c1 e1 rm R L) (of_decide_eq_true c0) (fK c2 e1)))
theorem DK {m:Bool}{l:L}(hl:SL Z w k X l):SE Z w k X (.new m l):=.mk <|by
 intro ex sc σ st Kd v A F φ s env O c e rm R L;refine bU c λc0 c1=>.of c0 ?_;cases m
 ·exact oL e λvs Ke e1 e=>oP (P:=λv t=>Good Z w A _ F φ s v t) e ((hl.run c1 e1 rm R L).frozen R)
 ·exact oL e λvs Ke e1 e=>oP (P:=λv t=>Good Z w A _ F φ s v t) e ((hl.run c1 e1 rm R L).stored R)
theorem DL {a i:E}(ha:SE Z w k X a)(hb:SE Z w k X i):SE Z w k X (.sub a i):=.mk <|by
 intro ex sc σ st Kd v A F φ s env O c e rm R L;refine fH (P:=λex=>KG Z w A ex env F φ s v Kd) (λl r p c=>fX c λc0 c1 c2=>?_) c;exact oE e λx Ke e1 e=>oE e λy Kf e2 e=>xZ (P:=λv t=>KG Z w A _ env F φ s v t) e λu e3=>.of rfl (tK (ha.run c1 e1 rm R L).good (hb.then c2 e2 rm L) c0 e3)
theorem z4 {f:Nat}{args:List E}(he:MW Z w k X args):SE Z w k X (.call f args):=.mk <|by
 intro ex sc σ st Kd v A F φ s env O c e rm R L;refine bY (P:=λex=>KG Z w A ex env F φ s v Kd) (λg as p c=>bn (P:=λg=>KG Z w A (.Call g as [] p) env F φ s v Kd) (λp1 c=>ow c λc0 c1 c2 c3=>?_) c) c;exact oL e λvs Ke e1 e=>.of rfl (vz hC G (he.run c3 c2 e1 rm R L) (fJ c3 e1) R L rm.pre (of_decide_eq_true c0) c1 c2 e)
theorem vC {x:Nat}{args:List E}:SE Z w k X (.lcall x args):=.mk <|by
 intro ex sc σ st Kd v A F φ s env O c e rm R L;exact absurd c Ly
theorem DM {e:E}:SE Z w k X (.frz e):=.mk <|by
 intro ex sc σ st Kd v A F φ s env O c e rm R L;exact absurd c Ly
theorem z5 {f:Nat}{a:E}{args:List E}(ha:SE Z w k X a)(he:MW Z w k X args):SE Z w k X (.meth f a args):=.mk <|by
 intro ex sc σ st Kd v A F φ s env O c e rm R L;refine bY (P:=λex=>KG Z w A ex env F φ s v Kd) (λg as p c=>dz (P:=λg=>KG Z w A (.Call g as [] p) env F φ s v Kd) (λo ap c=>Bf c λh1 h2 h3 cb KA c1 c2 hl c3=>?_) c) c
 exact oE e λx Ke e1 e=>oI e λhr e=>oL e λvs Kf e2 e=>.of rfl (qJ hC G (ha.run c1 e1 rm R L).good hr (λF1 Kg h1 tk S1 R1=>he.run (s:=sw s h1 tk) c3 c2 e2 rm R1 (L.step S1)) (fJ c3 e2) rm.pre
  (of_decide_eq_true h1) (of_decide_eq_true h2) (bne_iff_ne.mp h3) cb KA c2 (of_decide_eq_true hl) e)
theorem z6 {a b:E}{m:Bool}(ha:SE Z w k X a)(hb:SE Z w k X b):SE Z w k X (.conv a b m):=.mk <|by
 intro ex sc σ st Kd v A F φ s env O c e rm R L
 refine l9 (P:=λex=>KG Z w A ex env F φ s v Kd) (λg as ks p c=>dz (P:=λg=>KG Z w A (.Call g as ks p) env F φ s v Kd) (λo ap c=>dw (P:=λas=>KG Z w A (.Call (.Attribute o (nm 36) ap) as ks p) env F φ s v Kd) (λx c=>
  Bg (P:=λks=>KG Z w A (.Call (.Attribute o (nm 36) ap) [x] ks p) env F φ s v Kd) (λy kp c=>jp (P:=λy=>KG Z w A (.Call (.Attribute o (nm 36) ap) [x] [⟨some (nm 110),y,kp⟩] p) env F φ s v Kd) (λq p2 c=>qB c λcb KA c1 ns c2=>?_) c) c) c) c) c
 exact oE e λx' Ke e1 e=>oI e λhr e=>oE e λy Kf e2 e=>.of rfl (qR hC G (ha.run c1 e1 rm R L).good hr (hb.then c2 e2 rm L) rm.pre cb KA ns e)
theorem IW {b:Bi}{args:List E}(he:MW Z w k X args):SE Z w k X (.bi b args):=.mk <|by
 intro ex sc σ st Kd v A F φ s env O c e rm R L;refine bY (P:=λex=>KG Z w A ex env F φ s v Kd) (λg as p c=>bn (P:=λg=>KG Z w A (.Call g as [] p) env F φ s v Kd) (λp1 c=>fX c λc1 c2 c3=>?_) c) c;exact oL e λvs Ke e1 e=>.of rfl (o3 (id:=0) G (he.run c3 c2 e1 rm R L) (fJ c3 e1) R L rm.one c1 c2 e)
theorem IX {m:Sm}{a:E}{args:List E}(ha:SE Z w k X a)(he:∀ b,b∈args->SE Z w k X b):SE Z w k X (.sm m a args):=.mk <|by
 intro ex sc σ st Kd v A F φ s env O c e rm R L;refine bY (P:=λex=>KG Z w A ex env F φ s v Kd) (λg as p c=>dz (P:=λg=>KG Z w A (.Call g as [] p) env F φ s v Kd) (λo ap c=>yE c λcb KA c1 c2 hl c3=>?_) c) c;refine oE e λx Ke e1 e=>oI e λhr e=>oL e λvs Kf e2 e4=>?_
 cases args with
 |nil=>
  cases isEmpty_iff.mp c3;exact oP (P:=λvs Kf=>jC Kf m x vs=some (v,Kd)->_) e2 (λe=>.of rfl (tL (ha.run c1 e1 rm R L).good cb KA e)) e4
 |cons b bs=>
  revert hl c2;refine bD (P:=λas=>as.all aB=true->decide (as.length<2)=true->KG Z w A (.Call (.Attribute o (km m) ap) as [] p) env F φ s v Kd) (λy ys c3 c2 hl=>bU c3 λd3 d4=>?_) c3
  cases ys with
  |cons _ _=>exact absurd (of_decide_eq_true hl) (λh=>Nat.not_lt_zero _ (Nat.lt_of_succ_lt_succ (Nat.lt_of_succ_lt_succ h)))
  |nil=>
   cases bs with
   |cons _ _=>exact absurd d4 Ly
   |nil=>
    refine oE e2 λz KJ e3 e2=>?_;exact oP (P:=λvs Kf=>jC Kf m x vs=some (v,Kd)->_) e2 (λe=>.of rfl (tM (ha.run c1 e1 rm R L).good hr ((he b List.mem_cons_self).then d3 e3 rm L) (bC c2).1 rm.one cb KA e)) e4
theorem z7 {a:E}{i:Nat}(ha:SE Z w k X a):SE Z w k X (.attr a i):=.mk <|by
 intro ex sc σ st Kd v A F φ s env O c e rm R L;refine dz (P:=λex=>KG Z w A ex env F φ s v Kd) (λo p c=>fX c λhi cb c1=>?_) c;exact oE e λx Ke e1 e=>xZ (P:=λv t=>KG Z w A _ env F φ s v t) e λu e3=>.of rfl (qK G (ha.run c1 e1 rm R L).good (of_decide_eq_true hi) cb e3)
theorem vD {b:Bool}:SE Z w k X (.cattr b):=.mk <|by
 intro ex sc σ st Kd v A F φ s env O c e rm R L;exact dz (P:=λex=>KG Z w A ex env F φ s v Kd) (λo p c=>bn (P:=λo=>KG Z w A (.Attribute o _ p) env F φ s v Kd) (λp1 c=>oP (P:=λv t=>KG Z w A _ env F φ s v t) e (.of rfl (pg G R L c))) c) c
theorem z8 {a:E}{t:Ty}{neg:Bool}(ha:SE Z w k X a):SE Z w k X (.isTy a t neg):=.mk <|by
 intro ex sc σ st Kd v A F φ s env O c e rm R L
 refine jS (P:=λex=>KG Z w A ex env F φ s v Kd) (λl y p c=>bY (P:=λl=>KG Z w A (.Compare l [iR neg] [y] p) env F φ s v Kd) (λg as p2 c=>bn (P:=λg=>KG Z w A (.Compare (.Call g as [] p2) [iR neg] [y] p) env F φ s v Kd) (λp1 c=>
  dw (P:=λas=>KG Z w A (.Compare (.Call (.Name (nm 184) p1) as [] p2) [iR neg] [y] p) env F φ s v Kd) (λx c=>bn (P:=λy=>KG Z w A (.Compare (.Call (.Name (nm 184) p1) [x] [] p2) [iR neg] [y] p) env F φ s v Kd) (λp3 c=>ow c λc1 c2 ns c3=>?_) c) c) c) c) c
 exact oE e λy Ke e1 e=>xZ (P:=λv t=>KG Z w A _ env F φ s v t) e λu e3=>KG.cmpOf (by cases neg<;>rfl) λQ hQ=>qN G R L c1 c2 ns (ha.run c3 e1 rm R L).good e3 hQ
theorem vE {a:E}{neg:Bool}(ha:SE Z w k X a):SE Z w k X (.isNon a neg):=.mk <|by
 intro ex sc σ st Kd v A F φ s env O c e rm R L;refine jS (P:=λex=>KG Z w A ex env F φ s v Kd) (λl y p c=>jp (P:=λy=>KG Z w A (.Compare l [iR neg] [y] p) env F φ s v Kd) (λq p3 c=>?_) c) c;exact oE e λy Ke e1 e=>oP (P:=λv t=>KG Z w A _ env F φ s v t) e (KG.cmpOf (by cases neg<;>rfl) λQ hQ=>o4 (r:=l) G (ha.run c e1 rm R L).good hQ)
theorem vF {a:E}{neg:Bool}(ha:SE Z w k X a):SE Z w k X (.isTru a neg):=.mk <|by
 intro ex sc σ st Kd v A F φ s env O c e rm R L;refine jS (P:=λex=>KG Z w A ex env F φ s v Kd) (λl y p c=>jp (P:=λy=>KG Z w A (.Compare l [iR neg] [y] p) env F φ s v Kd) (λq p3 c=>?_) c) c;exact oE e λy Ke e1 e=>uR (P:=λy=>aa X a σ st=some (y,Ke)->_) (λb e e1=>oP (P:=λv t=>KG Z w A _ env F φ s v t) e (KG.cmpOf (by cases neg<;>rfl) λQ hQ=>o5 (ha.run c e1 rm R L).good hQ)) e e1
theorem DN {b:Bool}:SE Z w k X (.rxg b):=.mk <|by
 intro ex sc σ st Kd v A F φ s env O c e rm R L;exact bn (P:=λex=>KG Z w A ex env F φ s v Kd) (λp c=>oP (P:=λv t=>KG Z w A _ env F φ s v t) e (.of rfl (tN G R L c))) c
theorem DO:SE Z w k X .dbg:=.mk <|by
 intro ex sc σ st Kd v A F φ s env O c e rm R L;exact bn (P:=λex=>KG Z w A ex env F φ s v Kd) (λp c=>oP (P:=λv t=>KG Z w A _ env F φ s v t) e (.of rfl (tW R))) c
theorem z9 {x:Nat}:SE Z w k X (.flag x):=.mk <|by
 intro ex sc σ st Kd v A F φ s env O c e rm R L
 refine bY (P:=λex=>KG Z w A ex env F φ s v Kd) (λg as p c=>dz (P:=λg=>KG Z w A (.Call g as [] p) env F φ s v Kd) (λo ap c=>bn (P:=λo=>KG Z w A (.Call (.Attribute o (nm 43) ap) as [] p) env F φ s v Kd) (λp1 c=>
  kx (P:=λas=>KG Z w A (.Call (.Attribute (.Name (nm 54) p1) (nm 43) ap) as [] p) env F φ s v Kd) (λy z c=>bn (P:=λy=>KG Z w A (.Call (.Attribute (.Name (nm 54) p1) (nm 43) ap) [y,z] [] p) env F φ s v Kd) (λp2 c=>
  bY (P:=λz=>KG Z w A (.Call (.Attribute (.Name (nm 54) p1) (nm 43) ap) [.Name (nm x) p2,z] [] p) env F φ s v Kd) (λg2 O7 p5 c=>bn (P:=λg2=>KG Z w A (.Call (.Attribute (.Name (nm 54) p1) (nm 43) ap) [.Name (nm x) p2,.Call g2 O7 [] p5] [] p) env F φ s v Kd) (λp3 c=>
  dw (P:=λO7=>KG Z w A (.Call (.Attribute (.Name (nm 54) p1) (nm 43) ap) [.Name (nm x) p2,.Call (.Name (nm 187) p3) O7 [] p5] [] p) env F φ s v Kd) (λu c=>bn (P:=λu=>KG Z w A (.Call (.Attribute (.Name (nm 54) p1) (nm 43) ap) [.Name (nm x) p2,.Call (.Name (nm 187) p3) [u] [] p5] [] p) env F φ s v Kd) (λp4 c=>
  ow c λc1 KA c2 hx=>?_) c) c) c) c) c) c) c) c) c
 exact oA e λy e1 e=>eS (P:=λy=>af σ x=some y->_) (λi e e1=>xZ (P:=λv t=>KG Z w A _ env F φ s v t) e λu e3=>.of rfl (qQ G R L rm.one c1 c2 (bne_iff_ne.mp hx) KA e1 e3)) e e1
theorem Aa:SE Z w k X .dlim:=.mk <|by
 intro ex sc σ st Kd v A F φ s env O c e rm R L;exact bn (P:=λex=>KG Z w A ex env F φ s v Kd) (λp c=>oP (P:=λv t=>KG Z w A _ env F φ s v t) e (.of rfl (qL G R L c))) c
theorem Ab {es:List E}(he:MW Z w k X es):SL Z w k X (.list es):=.mk <|by
 intro ex sc σ st Kd vs A F φ s env O c e rm R L;exact ox (P:=λex=>Kq Z w A (eval ex env) F φ s vs Kd) (λxs p c=>fX c λc0 c1 c2=>qI (he.run c2 c1 e rm R L) (of_decide_eq_true c0) (fK c2 e)) c
theorem DP {a b:E}(ha:SE Z w k X a)(hb:SE Z w k X b):SL Z w k X (.cat a b):=.mk <|by
 intro ex sc σ st Kd vs A F φ s env O c e rm R L;refine iq (P:=λex=>Kq Z w A (eval ex env) F φ s vs Kd) (λl r p c=>bU c λc1 c2=>?_) c;exact oE e λx Ke e1 e=>oE e λy Kf e2 e=>oV e λxs q1 e=>oV e λys q2 e=>oI e λhl e=>oP (P:=λv t=>Kq Z w A _ F φ s v t) e (tS (ha.run c1 e1 rm R L).good (hb.then c2 e2 rm L) q1 q2 hl)
theorem DQ {a n:E}(ha:SE Z w k X a)(hb:SE Z w k X n):SL Z w k X (.rep a n):=.mk <|by
 intro ex sc σ st Kd vs A F φ s env O c e rm R L;refine iq (P:=λex=>Kq Z w A (eval ex env) F φ s vs Kd) (λl r p c=>ox (P:=λl=>Kq Z w A (eval (.BinOp l .Mult r p) env) F φ s vs Kd) (λxs p2 c=>dw (P:=λxs=>Kq Z w A (eval (.BinOp (.List xs p2) .Mult r p) env) F φ s vs Kd) (λx c=>fX c λns c1 c2=>?_) c) c) c;exact oE e λy Ke e1 e=>oE e λz Kf e2 e=>eS (P:=λz=>aa X n σ Ke=some (z,Kf)->_) (λi e e2=>oI e λhl e=>oP (P:=λv t=>Kq Z w A _ F φ s v t) e (tT R ns (ha.run c1 e1 rm R L).good (hb.then c2 e2 rm L) hl)) e e2
theorem Ac {a b:E}{tg:Tg}{ifs:List C}{cap:List Nat}(ha:SE Z w k X a)(hb:SE Z w k X b)(hi:NO Z w k X ifs):SL Z w k X (.comp a tg b ifs cap):=.mk <|by
 intro ex sc σ st Kd vs A F φ s env O c e rm R L;refine oy (P:=λex=>Kq Z w A (eval ex env) F φ s vs Kd) (λx gs scope p c=>dw (P:=λgs=>Kq Z w A (eval (.ListComp x gs scope p) env) F φ s vs Kd) (λg c=>gC (P:=λg=>Kq Z w A (eval (.ListComp x [g] scope p) env) F φ s vs Kd) (λt it cs c=>yE c λc0 c1 c2 c3 c4 c5=>?_) c) c) c
 exact oE e λv Ke e1 e=>oV e λxs q1 e=>oI e λhl e=>tI rm.hd (iz c0) c2 c1 q1 hl (hb.run c3 e1 rm R L).good
  (λ{Kh} {st} {Kd} {b} {s1} {F1} {Kg} {Kk} {O1} e R1 L1=>hi.run c5 e rm R1 L1) (λ{Kh} {st} {Kd} {y} {s1} {F1} {Kg} {Kk} {O1} e R1 L1=>(ha.run c4 e rm R1 L1).good) R L e
theorem vG {a b d:E}{tg Lz:Tg}{cap:List Nat}(ha:SE Z w k X a)(hb:SE Z w k X b)(hd:SE Z w k X d):SL Z w k X (.comp2 a tg b Lz d cap):=.mk <|by
 intro ex sc σ st Kd vs A F φ s env O c e rm R L
 refine oy (P:=λex=>Kq Z w A (eval ex env) F φ s vs Kd) (λx gs scope p c=>kx (P:=λgs=>Kq Z w A (eval (.ListComp x gs scope p) env) F φ s vs Kd) (λg g2 c=>gC (P:=λg=>Kq Z w A (eval (.ListComp x [g,g2] scope p) env) F φ s vs Kd) (λt it cs c=>
  ku (P:=λcs=>Kq Z w A (eval (.ListComp x [⟨t,it,cs,0⟩,g2] scope p) env) F φ s vs Kd) (λc=>gC (P:=λg2=>Kq Z w A (eval (.ListComp x [⟨t,it,[],0⟩,g2] scope p) env) F φ s vs Kd) (λt2 KZ NS c=>
  ku (P:=λNS=>Kq Z w A (eval (.ListComp x [⟨t,it,[],0⟩,⟨t2,KZ,NS,0⟩] scope p) env) F φ s vs Kd) (λc=>Bf c λc0 n1 n2 PM NF dj c3 c4 c5=>?_) c) c) c) c) c) c
 exact oE e λv Ke e1 e=>oV e λxs q1 e=>oL e λzs LM q2 e=>oI e λhl e=>oP (P:=λv t=>Kq Z w A _ F φ s v t) e (qH rm.hd (iz c0) PM NF n1 n2 dj q1 (hb.run c3 e1 rm R L).good
  (λ{Kh} {st} {Kd} {y} {s1} {F1} {Kg} {Kk} {O1} e R1 L1=>(hd.run c4 e rm R1 L1).good) (λ{Kh} {st} {Kd} {y} {s1} {F1} {Kg} {Kk} {O1} e R1 L1=>(ha.run c5 e rm R1 L1).good) R L q2 hl)
theorem DR {a:E}(ha:SE Z w k X a):SL Z w k X (.rev a):=.mk <|by
 intro ex sc σ st Kd vs A F φ s env O c e rm R L
 refine fH (P:=λex=>Kq Z w A (eval ex env) F φ s vs Kd) (λv sl p c=>iT (P:=λsl=>Kq Z w A (eval (.Subscript v sl p) env) F φ s vs Kd) (λl u t p2 c=>dL (P:=λl=>Kq Z w A (eval (.Subscript v (.Slice l u t p2) p) env) F φ s vs Kd) (λc=>
  dL (P:=λu=>Kq Z w A (eval (.Subscript v (.Slice none u t p2) p) env) F φ s vs Kd) (λc=>f9 (P:=λt=>Kq Z w A (eval (.Subscript v (.Slice none none t p2) p) env) F φ s vs Kd) (λy c=>
  vc (P:=λy=>Kq Z w A (eval (.Subscript v (.Slice none none (some y) p2) p) env) F φ s vs Kd) (λz p3 c=>jp (P:=λz=>Kq Z w A (eval (.Subscript v (.Slice none none (some (.UnaryOp .USub z p3)) p2) p) env) F φ s vs Kd) (λq p4 c=>?_) c) c) c) c) c) c) c
 exact oE e λx Ke e1 e=>oV e λxs q1 e=>oI e λhl e=>oP (P:=λv t=>Kq Z w A _ F φ s v t) e (tU (ha.run c e1 rm R L).good q1 hl)
theorem Ad {a b:E}(ha:SE Z w k X a)(hb:SE Z w k X b):SL Z w k X (.drop a b):=.mk <|by
 intro ex sc σ st Kd vs A F φ s env O c e rm R L
 refine fH (P:=λex=>Kq Z w A (eval ex env) F φ s vs Kd) (λv sl p c=>iT (P:=λsl=>Kq Z w A (eval (.Subscript v sl p) env) F φ s vs Kd) (λl u t p2 c=>f9 (P:=λl=>Kq Z w A (eval (.Subscript v (.Slice l u t p2) p) env) F φ s vs Kd) (λy c=>
  dL (P:=λu=>Kq Z w A (eval (.Subscript v (.Slice (some y) u t p2) p) env) F φ s vs Kd) (λc=>dL (P:=λt=>Kq Z w A (eval (.Subscript v (.Slice (some y) none t p2) p) env) F φ s vs Kd) (λc=>bU c λc1 c2=>?_) c) c) c) c) c
 exact oE e λx Ke e1 e=>oE e λz Kf e2 e=>eS (P:=λz=>aa X b σ Ke=some (z,Kf)->_) (λi e e2=>oV e λxs q1 e=>oI e λhl e=>oP (P:=λv t=>Kq Z w A _ F φ s v t) e (bU hl λh1 h2=>qO (ha.run c1 e1 rm R L).good (hb.then c2 e2 rm L) q1 (of_decide_eq_true h1).1 (of_decide_eq_true h2))) e e2
theorem rW {a:E}(ha:SE Z w k X a):SL Z w k X (.sorted a):=.mk <|by
 intro ex sc σ st Kd vs A F φ s env O c e rm R L;refine bY (P:=λex=>Kq Z w A (eval ex env) F φ s vs Kd) (λg as p c=>bn (P:=λg=>Kq Z w A (eval (.Call g as [] p) env) F φ s vs Kd) (λp1 c=>dw (P:=λas=>Kq Z w A (eval (.Call (.Name (nm 181) p1) as [] p) env) F φ s vs Kd) (λx c=>fX c λc1 ns c2=>?_) c) c) c;exact oE e λy Ke e1 e=>uQ (P:=λy=>aa X a σ st=some (y,Ke)->_) (λxs e e1=>oN e λl q1 e=>oI e λhl e=>oP (P:=λv t=>Kq Z w A _ F φ s v t) e (ni G R L c1 ns (ha.run c2 e1 rm R L).good q1 hl)) e e1
theorem vH {a b:E}(ha:SE Z w k X a)(hb:SE Z w k X b):SL Z w k X (.split a b):=.mk <|by
 intro ex sc σ st Kd vs A F φ s env O c e rm R L;refine bY (P:=λex=>Kq Z w A (eval ex env) F φ s vs Kd) (λg as p c=>dz (P:=λg=>Kq Z w A (eval (.Call g as [] p) env) F φ s vs Kd) (λo ap c=>dw (P:=λas=>Kq Z w A (eval (.Call (.Attribute o (nm 159) ap) as [] p) env) F φ s vs Kd) (λx c=>qB c λcb KA ns c1 c2=>?_) c) c) c;refine oE e λy Ke e1 e=>mP (P:=λy=>aa X a σ st=some (y,Ke)->_) (λq e e1=>oE e λy Kf e2 e=>mP (P:=λy=>aa X b σ Ke=some (y,Kf)->_) (λz e e2=>?_) e e2) e e1;split at e
 ·exact absurd e bg
 ·rename_i hl;simp only[Bool.or_eq_true,decide_eq_true_eq,not_or,not_lt,Bool.not_eq_true]at hl;exact oP (P:=λv t=>Kq Z w A _ F φ s v t) e (pe (ha.run c1 e1 rm R L).good (hb.then c2 e2 rm L) ns cb KA hl.1.1 hl.1.2 hl.2)
theorem DS {t:E}(ha:SE Z w k X t):SC Z w k X (.val t):=.mk <|by
 intro ex sc σ st Kd b A F φ s env O c e rm R L;refine bU c λc0 c1=>oE e λv Ke e1 e=>xZ (P:=λv t=>dK Z w A _ F φ s v t) e λu e3=>?_;have g:=ha.run c1 e1 rm R L
 cases hn:m6 ex with
 |true=>
  rw[hn,Bool.not_true,Bool.or_false]at c0;exact λQ hQ=>wpAny_isTrue_value (g.good _ λF1 Kg v' h1 tk S1 R1 V1=>n9 (s:=sw s h1 tk) e3 R1 V1 λKu=>hQ F1 Kg h1 Ku S1 R1) (vA c0)
 |false=>
  refine ak (g.cmp hn (eval ex env)) λb hb gb=>?_;subst hb;exact KO e3▸gb
theorem DT {a b:C}(ha:SC Z w k X a)(hb:SC Z w k X b):SC Z w k X (.and a b):=.mk <|by
 intro ex sc σ st Kd b A F φ s env O c e rm R L;refine oz (P:=λex=>dK Z w A (isTrue ex env (eval ex env)) F φ s b Kd) (λxs p c=>kx (P:=λxs=>dK Z w A (isTrue (.BoolOp .And xs p) env (eval (.BoolOp .And xs p) env)) F φ s b Kd) (λx y c=>bU c λc1 c2=>?_) c) c;refine oC e (λKe e1 e=>λQ hQ=>wpAny_isTrue_BoolOp (wpAny_allTrue_And_cons (ha.run c1 e1 rm R L _ λF1 Kg h1 tk S1 R1=>wpAny_allTrue_And_cons (hb.run (s:=sw s h1 tk) c2 e rm R1 (L.step S1) _ λF2 KI h2 Ku S2 R2=>?_)))) (λKe e1 e=>oP (P:=λb Kd=>dK Z w A (isTrue (.BoolOp .And [x,y] p) env (eval (.BoolOp .And [x,y] p) env)) F φ s b Kd) e λQ hQ=>wpAny_isTrue_BoolOp (wpAny_allTrue_And_cons (ha.run c1 e1 rm R L _ λF1 Kg h1 tk S1 R1=>hQ F1 Kg h1 tk S1 R1)));cases b
 ·exact hQ F2 KI h2 Ku (S1.trans S2) R2
 ·exact wpAny_allTrue_And_nil (hQ F2 KI h2 Ku (S1.trans S2) R2)
theorem IY {a b:C}(ha:SC Z w k X a)(hb:SC Z w k X b):SC Z w k X (.or a b):=.mk <|by
 intro ex sc σ st Kd b A F φ s env O c e rm R L;refine oz (P:=λex=>dK Z w A (isTrue ex env (eval ex env)) F φ s b Kd) (λxs p c=>kx (P:=λxs=>dK Z w A (isTrue (.BoolOp .Or xs p) env (eval (.BoolOp .Or xs p) env)) F φ s b Kd) (λx y c=>bU c λc1 c2=>?_) c) c;refine oC e (λKe e1 e=>oP (P:=λb Kd=>dK Z w A (isTrue (.BoolOp .Or [x,y] p) env (eval (.BoolOp .Or [x,y] p) env)) F φ s b Kd) e λQ hQ=>wpAny_isTrue_BoolOp (wpAny_allTrue_Or_cons (ha.run c1 e1 rm R L _ λF1 Kg h1 tk S1 R1=>hQ F1 Kg h1 tk S1 R1))) (λKe e1 e=>λQ hQ=>wpAny_isTrue_BoolOp (wpAny_allTrue_Or_cons (ha.run c1 e1 rm R L _ λF1 Kg h1 tk S1 R1=>wpAny_allTrue_Or_cons (hb.run (s:=sw s h1 tk) c2 e rm R1 (L.step S1) _ λF2 KI h2 Ku S2 R2=>?_))));cases b
 ·exact wpAny_allTrue_Or_nil (hQ F2 KI h2 Ku (S1.trans S2) R2)
 ·exact hQ F2 KI h2 Ku (S1.trans S2) R2
theorem DU {a:C}(ha:SC Z w k X a):SC Z w k X (.not a):=.mk <|by
 intro ex sc σ st Kd b A F φ s env O c e rm R L;refine vc (P:=λex=>dK Z w A (isTrue ex env (eval ex env)) F φ s b Kd) (λx p c=>?_) c;exact oB e λb Ke e1 e=>oP (P:=λv t=>dK Z w A _ F φ s v t) e λQ hQ=>wpAny_isTrue_Not (ha.run c e1 rm R L _ λF1 Kg h1 tk S1 R1=>hQ F1 Kg h1 tk S1 R1)
theorem Bl:MW Z w k X []:=.mk <|by
 intro LF sc σ st Kd vs A F φ s env O pos c hs e rm R L;exact isEmpty_iff.mp c▸oP (P:=λv t=>fU Z w A _ F φ s v t) e λQ hQ=>Calls.spliced_nil (hQ F φ [] s.heap s.toks (Step.refl ..) R .nil)
theorem qS {a:E}{es:List E}(ha:SE Z w k X a)(he:MW Z w k X es):MW Z w k X (a::es):=.mk <|by
 intro LF sc σ st Kd vs A F φ s env O pos c hs e rm R L;revert hs;refine bD (P:=λLF=>LF.all aB=true->fU Z w A (spliced (backTo pos (starEach LF env))) F φ s vs Kd) (λx xs c hs=>bU c λc1 c2=>bU hs λhs1 Pc=>?_) c;refine oE e λv Ke e1 e=>oL e λws Kf e2 e=>oP e λQ hQ=>?_;rw[bk hs1];exact Calls.spliced_cons ((ha.run c1 e1 rm R L).good _ λF1 Kg v' h1 tk S1 R1 V1=>he.run (s:=sw s h1 tk) c2 Pc e2 rm R1 (L.step S1) _ λF2 KI Kr h2 Ku S2 R2 V2=>hQ F2 KI _ h2 Ku (S1.trans S2) R2 (.cons (V1.mono S2.le S2.pre) V2))
theorem vI:NO Z w k X []:=.mk <|by
 intro LF sc σ st Kd b A F φ s env O c e rm R L;exact isEmpty_iff.mp c▸oP (P:=λv t=>dK Z w A _ F φ s v t) e λQ hQ=>wpAny_pure (hQ F φ s.heap s.toks (Step.refl ..) R)
theorem qT {a:C}{cs:List C}(ha:SC Z w k X a)(he:NO Z w k X cs):NO Z w k X (a::cs):=.mk <|by
 intro LF sc σ st Kd b A F φ s env O c e rm R L;refine bD (P:=λLF=>dK Z w A (fI LF env) F φ s b Kd) (λx xs c=>bU c λc1 c2=>λQ hQ=>?_) c;unfold fI;rw[forIn_cons];refine wpAny_bind ?_;rw[if_pos rfl];refine wpAny_bind (oC e (λKe e1 e=>ha.run c1 e1 rm R L _ λF1 Kg h1 tk S1 R1=>wpAny_pure ?_) λKe e1 e=>ha.run c1 e1 rm R L _ λF1 Kg h1 tk S1 R1=>wpAny_pure ?_)
 ·exact he.run (s:=sw s h1 tk) c2 e rm R1 (L.step S1) Q λF2 KI h2 Ku S2 R2=>hQ F2 KI h2 Ku (S1.trans S2) R2
 ·exact vB xs _ Q (oP (P:=λb Kd=>(∀ F' Kn h' tk,Step F φ [] s.heap F' Kn h'->Kj Z F' Kn Kd h'->Q b ⟨h',s.gens,s.drawn,tk,s.os⟩)->Q false ⟨h1,s.gens,s.drawn,tk,s.os⟩) e (λhQ=>hQ F1 Kg h1 tk S1 R1) hQ)
theorem Ae:∀ b,b∈([]:List E)->SE Z w k X b:=λ_ m=>absurd m not_mem_nil
theorem vJ {a:E}{es:List E}(ha:SE Z w k X a)(he:∀ b,b∈es->SE Z w k X b):∀ b,b∈a::es->SE Z w k X b:=λb m=>(mem_cons.mp m).elim (λq=>q▸ha) (he b)
include hk hC G
theorem dF (e:E):SE Z w k X e:=e.rec (motive_1:=SE Z w k X) (motive_2:=SL Z w k X) (motive_3:=SC Z w k X) (motive_4:=λes=>MW Z w k X es/\∀ b,b∈es->SE Z w k X b) (motive_5:=NO Z w k X)
 (λ_ =>DC hC G )
 (λ_ =>DD hC G )
 (λ_ =>DE hC G )
 (λ_ =>zZ hC G )
 (DF hC G)
 (λ_ _ _ a b=>DG hC G a b)
 (λ_ _ _ a b=>DH hC G a b)
 (λ_ _ _ c a b=>DI hC G c a b)
 (λ_ e=>DJ hC G e.1)
 (λ_ _ a=>DK hC G a)
 (λ_ _ a b=>DL hC G a b)
 (λ_ _ e=>z4 hC G e.1)
 (λ_ _ _=>vC hC G)
 (λ_ _ _ a e=>z5 hC G a e.1)
 (λ_ _ _ a b=>z6 hC G a b)
 (λ_ _ e=>IW hC G e.1)
 (λ_ _ _ a e=>IX hC G a e.2)
 (λ_ _ a=>z7 hC G a)
 (λ_ =>vD hC G )
 (λ_ _=>DM hC G)
 (λ_ _ _ a=>z8 hC G a)
 (λ_ _ a=>vE hC G a)
 (λ_ _ a=>vF hC G a)
 (λ_ =>DN hC G )
 (DO hC G)
 (λ_ =>z9 hC G )
 (Aa hC G)
 (λ_ e=>Ab hC G e.1)
 (λ_ _ a b=>DP hC G a b)
 (λ_ _ a b=>DQ hC G a b)
 (λ_ _ _ _ _ a b i=>Ac hC G a b i)
 (λ_ _ _ _ _ _ a b d=>vG hC G a b d)
 (λ_ a=>DR hC G a)
 (λ_ _ a b=>Ad hC G a b)
 (λ_ a=>rW hC G a)
 (λ_ _ a b=>vH hC G a b)
 (λ_ a=>DS hC G a)
 (λ_ _ a b=>DT hC G a b)
 (λ_ _ a b=>IY hC G a b)
 (λ_ a=>DU hC G a)
 ⟨Bl hC G,Ae hC G⟩
 (λ_ _ a e=>⟨qS hC G a e.1,vJ hC G a e.2⟩)
 (vI hC G)
 (λ_ _ a e=>qT hC G a e)
theorem tX (e:C):SC Z w k X e:=e.rec (motive_1:=SE Z w k X) (motive_2:=SL Z w k X) (motive_3:=SC Z w k X) (motive_4:=λes=>MW Z w k X es/\∀ b,b∈es->SE Z w k X b) (motive_5:=NO Z w k X)
 (λ_ =>DC hC G )
 (λ_ =>DD hC G )
 (λ_ =>DE hC G )
 (λ_ =>zZ hC G )
 (DF hC G)
 (λ_ _ _ a b=>DG hC G a b)
 (λ_ _ _ a b=>DH hC G a b)
 (λ_ _ _ c a b=>DI hC G c a b)
 (λ_ e=>DJ hC G e.1)
 (λ_ _ a=>DK hC G a)
 (λ_ _ a b=>DL hC G a b)
 (λ_ _ e=>z4 hC G e.1)
 (λ_ _ _=>vC hC G)
 (λ_ _ _ a e=>z5 hC G a e.1)
 (λ_ _ _ a b=>z6 hC G a b)
 (λ_ _ e=>IW hC G e.1)
 (λ_ _ _ a e=>IX hC G a e.2)
 (λ_ _ a=>z7 hC G a)
 (λ_ =>vD hC G )
 (λ_ _=>DM hC G)
 (λ_ _ _ a=>z8 hC G a)
 (λ_ _ a=>vE hC G a)
 (λ_ _ a=>vF hC G a)
 (λ_ =>DN hC G )
 (DO hC G)
 (λ_ =>z9 hC G )
 (Aa hC G)
 (λ_ e=>Ab hC G e.1)
 (λ_ _ a b=>DP hC G a b)
 (λ_ _ a b=>DQ hC G a b)
 (λ_ _ _ _ _ a b i=>Ac hC G a b i)
 (λ_ _ _ _ _ _ a b d=>vG hC G a b d)
 (λ_ a=>DR hC G a)
 (λ_ _ a b=>Ad hC G a b)
 (λ_ a=>rW hC G a)
 (λ_ _ a b=>vH hC G a b)
 (λ_ a=>DS hC G a)
 (λ_ _ a b=>DT hC G a b)
 (λ_ _ a b=>IY hC G a b)
 (λ_ a=>DU hC G a)
 ⟨Bl hC G,Ae hC G⟩
 (λ_ _ a e=>⟨qS hC G a e.1,vJ hC G a e.2⟩)
 (vI hC G)
 (λ_ _ a e=>qT hC G a e)
theorem DV:∀ cs:List C,NO Z w k X cs:=by
 intro cs
 induction cs with
 |nil=>
  exact vI hC G
 |cons c cs ih=>
  exact qT hC G (tX hk hC G c) (ih)
theorem Af:∀ es:List E,MW Z w k X es:=by
 intro es
 induction es with
 |nil=>
  exact Bl hC G
 |cons e es ih=>
  exact qS hC G (dF hk hC G e) (ih)
end
end
section
variable {p:Pos}{a:Addr}
theorem DW {op:Operator}{i a b:Int}{t u:Tok}(R:Kj Z F φ st s.heap)(f:∀ Q E,(∀ tk LS,Q (.int i tk) { s with toks:=LS })->aA w A (inplaceOp op (.int a t) (.int b u)) Q E s) :
  Good Z w A (inplaceOp op (.int a t) (.int b u)) F φ s (.int i) st:=Good.val R λQ h=>f Q aq λtk LS=>h _ _ (.int _ _)
theorem tY {op:Operator}{a b r:Int}{t u:Tok}(e:augI op a b=some r)(R:Kj Z F φ st s.heap):Good Z w A (inplaceOp op (.int a t) (.int b u)) F φ s (.int r) st:=by
 refine DW R ?_;intro Q E h;have k {x:Int} {W:Prop} (e:some x=some r) (f:(∀ tk LS,Q (.int x tk) { s with toks:=LS })->W):W:=f (KO e▸h)
 cases op with
 |Add=>exact k e λh=>P.iadd_int (h _ _)
 |Sub=>exact k e λh=>P.isub_int (h _ _)
 |Mult=>exact oI e λhm e=>k e λh=>P.imul_int (h _ _) (ki hm)
 |FloorDiv=>exact oI e λhm e=>k e λh=>PyProof.Rows.ifloordiv_int hm.1 (h _ _) (.inl hm.2)
 |LShift=>exact oI e λhm e=>k e λh=>PyProof.Rows.ilshift_int hm.1 hm.2 (h _ _)
 |RShift=>exact oI e λhm e=>k e λh=>PyProof.Rows.irshift_int hm.1 (h _ _)
 |BitOr=>exact k e λh=>PyProof.Rows.ior_int (h _ _)
 |BitXor=>exact k e λh=>PyProof.Rows.ixor_int (h _ _)
 |_=>exact absurd e bg
theorem mj {op:Operator}{x y v:AV}{vx vy:Value}(e:lG op x y=some v)(R:Kj Z F φ st s.heap)(hx:VR F φ x vx)(hy:VR F φ y vy) :
  Good Z w A (inplaceOp op vx vy) F φ s v st:=
 cu (P:=λvx=>Good Z w A (inplaceOp op vx vy) F φ s v st) hx e λa t e=>cu (P:=λvy=>Good Z w A (inplaceOp op (.int a t) vy) F φ s v st) hy e λb u e=>
  oM (P:=λv=>Good Z w A (inplaceOp op (.int a t) (.int b u)) F φ s v st) e λr e=>tY e R
theorem qU {E:Value->Shared->Prop}{l:Addr}{items:Array Value}{n:Nat}{k:Int}{t:Tok}{v:Value}{Q:Unit->Shared->Prop}(ho:s.heap.get? l=some { cls:=.type "list",data:=.seq items n })
  (h0:0<=k) (Ox:k<2^63) (hn:k<items.size)
  (hQ:∀ h' n',h'.get? l=some { cls:=.type "list",data:=.seq (items.setIfInBounds k.toNat v) n' }->Heap.SameBut l s.heap h'->Q () { s with heap:=h' }) :
  aA w A (setItem (.ref l) (.int k t) v) Q E s:=by
 have hT:s.TypeIs (.ref l) "list":=⟨_,ho,rfl⟩;unfold setItem;try with_reducible refine wpAny_holding ?_
 first |refine wpAny_bind (wpAny_pure ?_) |skip
 refine wpAny_bind (wpAny_sequenceKey hT (by decide) ?_)
 refine wpAny_bind (wpAny_callSpecial?_slot (name:=ofString "__setitem__") hT slot_list_setitem
  (wpAny_call_entry slot_list_setitem hT entry_list_setitem ?_ (args_list_setitem _ _ _)))
 show wpAny _ _ (Builtin.List.listSubscript? (.int k t)>>=_) _ _ s;refine wpAny_bind (wpAny_listSubscript_int (fitsIndex_of h0 Ox) ?_);clear Ox;refine aw (Int.eq_ofNat_of_zero_le h0) ?_;rintro j rfl;have hj:j<items.size:=by lia
 have hx':items[j]?=some items[j]:=Array.getElem?_eq_getElem hj;show wpAny _ _ ((seqItemAt l j>>=λr=>pure (r.map (j,·)))>>=_) _ _ s;refine wpAny_bind (wpAny_bind (wpAny_seqItemAt ho rfl (wpAny_pure ?_)));rw[hx'];show wpAny _ _ (setSeqItemAt l j v>>=_) _ _ s;have M4:=get?_update_seq (h:=s.heap) (a:=l) (c:="list") (xs:=items) (n:=n) ho (·.setIfInBounds j v);refine wpAny_bind (wpAny_setSeqItemAt ho rfl ?_)
 first
  |exact wpAny_bind (wpAny_pure (wpAny_pure ⟨.none,rfl,wpAny_pure (hQ _ _ M4 (Heap.SameBut.update ..))⟩))
  |exact wpAny_pure ⟨.none,rfl,wpAny_pure (hQ _ _ M4 (Heap.SameBut.update ..))⟩
theorem ph {E:Value->Shared->Prop}{l sl lv:Addr}{arr items:Array Value}{n:Nat}{Q:Unit->Shared->Prop}(ho:s.heap.get? l=some { cls:=.type "list",data:=.seq arr n })(hv:s.heap.IsList lv items)(Lu:l≠lv)
  (hs:s.heap.IsSliceOf sl .none .none .none) (LU:items.size+arr.size<=1000000)
  (hQ:∀ h' n',h'.get? l=some { cls:=.type "list",data:=.seq items n' }->Heap.SameBut l s.heap h'->Q () { s with heap:=h' }) :
  aA w A (setItem (.ref l) (.ref sl) (.ref lv)) Q E s:=by
 have hT:s.TypeIs (.ref l) "list":=⟨_,ho,rfl⟩;refine cU (id hs) λos Pd Lv Mh=>?_;obtain⟨ov,QA,Oy,nv,hdv⟩:=id hv;have QB:s.TypeIs (.ref sl) "slice":=⟨os,Pd,Lv⟩;unfold setItem;try with_reducible refine wpAny_holding ?_
 first |refine wpAny_bind (wpAny_pure ?_) |skip
 refine wpAny_bind (wpAny_sequenceKey hT (by decide) ?_)
 refine wpAny_bind (wpAny_callSpecial?_slot (name:=ofString "__setitem__") hT slot_list_setitem
  (wpAny_call_entry slot_list_setitem hT entry_list_setitem ?_ (args_list_setitem _ _ _)))
 show wpAny _ _ (Builtin.List.listSubscript? (.ref sl)>>=_) _ _ s;refine wpAny_bind ?_;unfold Builtin.List.listSubscript?;refine wpAny_bind (wpAny_specialOf QB slice_no_index ?_);simp only[Option.isNone_none,if_true];refine wpAny_pure ?_;show wpAny _ _ (typeOf (.ref sl)>>=_) _ _ s;refine wpAny_bind (wpAny_typeOf QB ?_);rw[if_neg (by decide)];rw[listSliceParts_eq];refine wpAny_bind (wpAny_bind (wpAny_field Pd Mh (x:=.none) rfl (wpAny_bind (wpAny_listPart .none ?_))));rw[if_neg (show ¬ ((rawPart none==rawInt 0)=true) from Ly)];refine wpAny_bind (wpAny_field Pd Mh (x:=.none) rfl (wpAny_bind (wpAny_listPart .none ?_)));refine wpAny_bind (wpAny_field Pd Mh (x:=.none) rfl (wpAny_bind (wpAny_listPart .none (wpAny_pure ?_))))
 have hsame:Builtin.List.listSameRef (.ref l) (.ref lv)=false:=by
  show(l==lv)=false;exact beq_eq_false_iff_ne.mpr Lu
 dsimp only;rw[hsame,if_neg Ly];refine wpAny_bind (m:=Builtin.List.listAllItems (.ref lv) _) ?_
 ·unfold Builtin.List.listAllItems;refine wpAny_bind (wpAny_typeOf ⟨ov,QA,Oy⟩ ?_);rw[if_pos (by decide)];refine listItems_at QA hdv ?_;refine wpAny_bind (m:=Builtin.List.listItems (.ref l)) (listItems_at ho rfl ?_);refine wpAny_bind (wpAny_of_eq (sliceIndices_raw none none none arr.size (by decide)) ?_);have hb:sliceBounds none none none arr.size=(0,(arr.size:Int),1):=rfl;rw[hb];dsimp only;rw[if_pos (by decide)];refine wpAny_bind (wpAny_rule ?_)
  have QC:Builtin.List.listTooLong (arr.size+items.size)=false:=by
   unfold Builtin.List.listTooLong;rw[sizeLine_eq];simp only[decide_eq_false_iff_not];exact not_lt.mpr (Q1 0xf4240514501101000000715401102 [_,_] LU rfl)
  rw[QC,if_neg Ly]
  have hf:arr.extract 0 (0:Int).toNat++items++arr.extract (max (0:Int) (arr.size:Int)).toNat arr.size=items:=by
   have:(max (0:Int) (arr.size:Int)).toNat=arr.size:=by exact JU
   rw[this];simp
  have M4:=get?_update_seq (h:=s.heap) (a:=l) (c:="list") (xs:=arr) (n:=n) ho (λxs=>xs.extract 0 (0:Int).toNat++items++xs.extract (max (0:Int) (arr.size:Int)).toNat xs.size);rw[hf]at M4;refine wpAny_bind (listUpdate_at ho rfl ?_ (by rw[sizeLine_eq];exact Q1 0xf42405145011010000007141102 [_,_] LU rfl) (by rw[hf,sizeLine_eq];exact Q1 0xf42405154011010000017141102 [_,_] LU rfl));refine wpAny_bind (wpAny_letGo ?_);exact wpAny_bind (wpAny_pure (wpAny_pure ⟨.none,rfl,wpAny_pure (hQ _ _ M4 (Heap.SameBut.update ..))⟩))
theorem ej (y x:Str)(t:Tok)(h:Int)(v:Value)(r:List DictEntry):getL y (⟨h,.str x t,v⟩::r)=if y=x then some (some v) else getL y r:=by
 have k:∀ b:Bool,(x==y)=b->getL y (⟨h,.str x t,v⟩::r)=cond b (some (some v)) (getL y r):=λb e=>by
  show(match (match (x==y) with |true=>some (⟨h,.str x t,v⟩:DictEntry) |false=>r.find? (·.key.isStr y)) with |some e=>some (some e.val) |none=>if (false||r.any (·.refKey))=true then none else some none)=_;rw[e];cases b<;>rfl
 by_cases q:y=x
 ·exact(k true (beq_iff_eq.mpr q.symm)).trans (if_pos q).symm
 ·exact(k false (beq_eq_false_iff_ne.mpr λz=>q z.symm)).trans (if_neg q).symm
theorem pi (name:Str)(KP:Int)(tok:Tok)(v:Value):∀ (es:List DictEntry),(∀ e∈es,∃ x t,e.key=.str x t)->∀ y,getL y (putL name KP (.str name tok) v es)=if y=name then some (some v) else getL y es:=by
 intro es
 induction es with
 |nil=>
  intro _ y;exact ej ..
 |cons Lp r ih=>
  obtain⟨h,k,w⟩:=Lp;intro hk y;refine nX (hk _ (.head _)) λx t ek=>?_;cases ek;by_cases q:x=name
  ·cases q;refine(congrArg (getL y) (if_pos (beq_self_eq_true _))).trans ((ej ..).trans ?_);rw[ej];by_cases z:y=name
   ·rw[if_pos z,if_pos z]
   ·rw[if_neg z,if_neg z,if_neg z]
  ·refine(congrArg (getL y) (if_neg λz=>q (beq_iff_eq.mp z))).trans ((ej ..).trans ?_);rw[ih (λe m=>hk e (.tail _ m)) y,ej];by_cases z:y=x
   ·rw[if_pos z,if_pos z,if_neg λz'=>q (z.symm.trans z')]
   ·rw[if_neg z,if_neg z]
theorem pj (name:Str)(KP:Int)(key v:Value):∀ es:List DictEntry,(putL name KP key v es).length<=es.length+1:=by
 intro es
 induction es with
 |nil=>
  exact le_refl _
 |cons e r ih=>
  unfold putL;split
  ·simp
  ·have:=ih;simp only[length_cons];exact GX
theorem tZ (name:Str)(KP:Int)(tok:Tok)(v:Value):∀ (es:List DictEntry),(∀ e∈es,∃ x t,e.key=.str x t)->∀ e∈putL name KP (.str name tok) v es,∃ x t,e.key=.str x t:=by
 intro es
 induction es with
 |nil=>
  intro _;exact λe m=>mem_singleton.mp m▸⟨_,_,rfl⟩
 |cons e0 r ih=>
  intro hk;have h:=List.forall_mem_cons.mp hk;unfold putL;by_cases q:e0.key.isStr name=true
  ·rw[if_pos q];exact List.forall_mem_cons.mpr h
  ·rw[if_neg q];exact List.forall_mem_cons.mpr ⟨h.1,ih h.2⟩
set_option tactic.hygienic true in
theorem Bm {x C dx:Addr}{sl:Array (Option Value)}{es:List DictEntry}{n:Nat}{name:Str}{tk:Tok}{v:Value}{R:Result->Shared->Prop}(X:Z.K.In s.heap)(I:InstAt s.heap x ⟨.ref C,some dx,.plain,sl⟩ C (some (dictOf es n)))(D:s.heap.get? dx=some (dictOf es n))
  (hp:plainOver Z.K C=true) (ht:takerIn Z.K C name=some none) (hh:hasDictIn Z.K C=true) (hl:(getL name es).isSome=true) (hz:es.length<=900)
  (h:∀ h' n' KP tok,h'.get? dx=some (dictOf (putL name KP (.str name tok) v es) n')->Heap.SameBut dx s.heap h'->∀ tk,R (.ok (.ret .none)) ⟨h',s.gens,s.drawn,tk,s.os⟩) :
  codeAny (model aM w) A (.call (.builtin "object.__setattr__") ⟨[.ref x,.str name tk,v],[]⟩) R s:=by
 refine osa_open X I hp ht λb=>?_;refine ak (any_some (show(clsIn Z.K C).any (·.hasDict)=true from hh)) λcd hc hd'=>?_;obtain⟨hx,NG,hn,-⟩:=I;refine wpAny_bind (wpAny_pure (wpAny_bind (wpAny_bind (wpAny_loadPart hx (wpAny_bind ((looks_clsIn X hc).here ?_))))));rw[hd'];refine wpAny_pure (a:=some dx) (wpAny_bind (wpAny_pure (wpAny_bind ?_)));unfold nsSet;refine wpAny_bind (wpAny_bind (wpAny_askSetting (wpAny_pure (wpAny_bind (wpAny_mkText (wpAny_bind (wpAny_loadPart D ?_)))))))
 have c:(!es.toArray.any (·.key.isStr name)&&es.toArray.any (·.refKey))=false:=by
  rw[← any_toList,← any_toList];unfold getL at hl;split at hl
  ·rename_i en he;rw[List.any_eq_true.mpr ⟨en,List.mem_of_find?_eq_some he,List.find?_some he⟩];rfl
  ·split at hl
   ·cases hl
   ·rename_i z;rw[Bool.not_eq_true]at z;rw[z,Bool.and_false]
 dsimp only[dictOf];rw[aRefKeyMayBeTheName_at,c];refine wpAny_updatePart D ?_
 have D':(s.heap.update dx (Obj.putName name (PyData.keyHash w.params name) (.str name s.toks) v)).get? dx=some (dictOf (putL name (PyData.keyHash w.params name) (.str name s.toks) v es) (putN name es n)):=by
  have h1:=((Heap.get?_eq_some s.heap dx _).mp D).1;exact(Heap.get?_eq_some _ _ _).mpr ⟨by rw[Heap.objs_update_self,h1,← putName_dict];rfl,rfl⟩
 refine wpAny_bind (wpAny_lookBehind D' (pastItsLine_dict (by
  have:=pj name (PyData.keyHash w.params name) (.str name s.toks) v es
  rw[size_toArray,sizeLine_eq];exact Q2 0x11150411038431511010000017141103 [_,_] hz this rfl)) ?_)
 exact wpAny_pure (h _ _ _ _ D' (Heap.SameBut.update ..) _)
theorem qV {x C dx:Addr}{sl:Array (Option Value)}{es:List DictEntry}{n:Nat}{name:Str}{v:Value}{Q:Unit->Shared->Prop}(X:Z.K.In s.heap)(I:InstAt s.heap x ⟨.ref C,some dx,.plain,sl⟩ C (some (dictOf es n)))(D:s.heap.get? dx=some (dictOf es n))
  (hs:findIn Z.K (.ref C) "__setattr__"=some (some (.builtin "object.__setattr__"))) (hp:plainOver Z.K C=true) (ht:takerIn Z.K C name=some none) (hh:hasDictIn Z.K C=true) (hl:(getL name es).isSome=true) (hz:es.length<=900)
  (h:∀ h' n' KP tok,h'.get? dx=some (dictOf (putL name KP (.str name tok) v es) n')->Heap.SameBut dx s.heap h'->∀ tk,Q () ⟨h',s.gens,s.drawn,tk,s.os⟩) :
  aA w A (setAttr (.ref x) name v) Q aq s:=
 set_plain X I hs (Bm (s:={ s with toks:=s.toks+1 }) X I D hp ht hh hl hz h)
end
inductive FR (F:bf)(φ:List Addr):Fw->Flow->Prop
 |next:FR F φ .next .next
 |brk:FR F φ .brk .brk
 |ret {v:AV} {u:Value}:VR F φ v u->FR F φ (.ret v) (.ret u)
section
variable (Z:Kz)(w:World)
noncomputable def KW (sc:Scope)(env:Env)(O:List Addr)(F:bf)(φ:List Addr)(s:Shared)(fl:Fw)(Kh:Loc)(Kd:St)(Q:Flow->Shared->Prop):Prop:=
 ∀ F' Kn Lc h' tk,Step F φ O s.heap F' Kn h'->Kj Z F' Kn Kd h'->Kl F' Kn Kh sc env O h'->FR F' Kn fl Lc->Q Lc ⟨h',s.gens,s.drawn,tk,s.os⟩
noncomputable def az (A:Around)(t:Sem Flow)(sc:Scope)(env:Env)(O:List Addr)(F:bf)(φ:List Addr)(s:Shared)(fl:Fw)(Kh:Loc)(Kd:St):Prop:=
 ∀ Q:Flow->Shared->Prop,KW Z sc env O F φ s fl Kh Kd Q->aA w A t Q aq s
structure MX (A:Around)(I:Addr)(ys:List AV)(ok:St->Bool)(P:bf->List Addr->Heap->Nat->Prop):Prop where
 item:∀ {i:Nat} {x:AV} {F:bf} {φ:List Addr} {st:St} {s:Shared} {Q:Option Value->Shared->Prop},P F φ s.heap i->ys[i]?=some x->ok st=true->Kj Z F φ st s.heap ->
  (∀ v' h1 tk,Heap.SameBut I s.heap h1->VR F φ x v'->P F φ h1 (i+1)->Q (some v') ⟨h1,s.gens,s.drawn,tk,s.os⟩)->aA w A (pyNext (.ref I)) Q aq s
 done:∀ {F:bf} {φ:List Addr} {st:St} {s:Shared} {Q:Option Value->Shared->Prop},P F φ s.heap ys.length->ok st=true->Kj Z F φ st s.heap ->
  (∀ h1 tk,(∀ b o,b≠I->s.heap.get? b=some o->h1.get? b=some o)->Q none ⟨h1,s.gens,s.drawn,tk,s.os⟩)->aA w A (pyNext (.ref I)) Q aq s
 mono:∀ {i:Nat} {F F':bf} {φ Kn:List Addr} {h h':Heap},P F φ h i->K7 F F'->φ <+: Kn->(∀ o,h.get? I=some o->h'.get? I=some o)->P F' Kn h' i
 at_:∀ {i:Nat} {F:bf} {φ:List Addr} {h:Heap},P F φ h i->∃ o T,h.get? I=some o/\o.cls=.type T/\["enumerate","zip","dict_itemiterator","dict_reverseitemiterator","odict_iterator","itertools.zip_longest","itertools.pairwise"].contains T=false
end
section
variable {p:Pos}{a:Addr}
theorem KW.step {fl:Fw}{Q:Flow->Shared->Prop}{F1:bf}{Kg:List Addr}{h1:Heap}{tk:Nat}(hQ:KW Z sc env O F φ s fl Kh Kd Q)(S:Step F φ O s.heap F1 Kg h1) :
  KW Z sc env O F1 Kg ⟨h1,s.gens,s.drawn,tk,s.os⟩ fl Kh Kd Q:=λF' Kn Lc h' LS S' R' L' f=>hQ F' Kn Lc h' LS (S.trans S') R' L' f
theorem qW {v:AV}{xs:List AV}(hh:A.handled=none)(e1:aF LG v=some xs):MX Z w A I xs (λst=>an st v xs) (λF φ h i=>Mn F φ h I i v) where
 item:=λT hx hs R hQ=>me (st:=_) e1 hs hx R T hQ
 done:=λT hs R hQ=>mf (st:=_) hh e1 hs rfl R T hQ
 mono:=λT hF hp k=>T.mono hF hp k
 at_:=λT=>T.at_
theorem kK {R:Result->Shared->Prop}{target:Expr}{it:Value}{body orelse:List Stmt}(Iv:Nat->Shared->Prop)
  (bV:∀ n s,Iv n s->aA w A (pyNext it) (λr Kt=>match r with
   |none=>aA w A (execs orelse env) (λf KY=>R (.ok f) KY) aq Kt
   |some v=>aA w A (letOwnedTupleGo target it v) (λ_ Lk=>aA w A (assign target env v) (λ_ Kx=>aA w A (execs body env) (λf KY=>match f with
     |.next |.cont=>∃ m,m<n/\Iv m KY
     |.brk=>R (.ok .next) KY
     |.ret v=>R (.ok (.ret v)) KY) aq Kx) aq Lk) aq Kt) aq s)
  (n:Nat) (h:Iv n s):codeAny (model aM w) A (.forLoop target it body orelse env) R s:=by
 refine codeAny_loop' rfl Iv (λn s hI=>?_) n h;show wpAny _ _ ((forTurn target it body orelse env).onRaise (λx=>do noteFrame x env;theTreesLotGoes x)) _ _ s;refine wpAny_noted ?_;simp only[forTurn];refine wpAny_bind (wpAny_standAt (wpAny_bind (wpAny_onRaise (wpAny_mono (bV n s hI) (λr Kt K1=>?_) λ_ _ h'=>h'.elim))))
 cases r with
 |none=>exact wpAny_pure (.inr ⟨rfl,codeAny_block (oS K1)⟩)
 |some v=>
  refine wpAny_bind (wpAny_mono K1 (λ_ Lk LC=>?_) λ_ _ f=>f.elim);refine wpAny_bind (wpAny_mono LC (λ_ Kx K8=>wpAny_bind (wpAny_mono K8 (λf KY Lo=>?_) λ_ _ h'=>h'.elim)) λ_ _ h'=>h'.elim)
  cases f with
  |next=>exact wpAny_pure (.inl ⟨rfl,Lo⟩)
  |cont=>exact wpAny_pure (.inl ⟨rfl,Lo⟩)
  |brk=>exact wpAny_pure Lo
  |ret v=>exact wpAny_pure Lo
theorem oF {o:Rs}{kn kb:Loc->St->Rs}{kr:AV->Loc->St->Rs}{r:Fw×Loc×St}{P:Prop}(e:(match o with
 |some (.next,a,b)=>kn a b
 |some (.brk,a,b)=>kb a b
 |some (.ret u,a,b)=>kr u a b
 |none=>none)=some r) (f:∀ a b,o=some (.next,a,b)->kn a b=some r->P) (g:∀ a b,o=some (.brk,a,b)->kb a b=some r->P) (h:∀ u a b,o=some (.ret u,a,b)->kr u a b=some r->P):P:=
 match o,e,f,g,h with
 |some (.next,_,_),e,f,_,_=>f _ _ rfl e
 |some (.brk,_,_),e,_,g,_=>g _ _ rfl e
 |some (.ret _,_,_),e,_,_,h=>h _ _ _ rfl e
 |none,e,_,_,_=>absurd e bg
noncomputable def FK (ok:St->Bool)(f:AV->Loc->St->Rs)(r:List AV)(e:Rs)(Oz:Fw)(Ki:Loc)(Ke:St):Prop:=match Oz with
 |.next=>bc ok f r Ki Ke=e
 |.brk=>some (.brk,Ki,Ke)=e
 |.ret u=>some (.ret u,Ki,Ke)=e
theorem qX {ok:St->Bool}{f:AV->Loc->St->Rs}{v:AV}{r:List AV}{fl:Fw}{P:Prop}(e:bc ok f (v::r) σ st=some (fl,Kh,Kd))(k:ok st=true->∀ Oz Ki Ke,f v σ st=some (Oz,Ki,Ke)->FK ok f r (some (fl,Kh,Kd)) Oz Ki Ke->P):P:=
 oI e λh e=>oF e (λa b q e=>k h _ a b q e) (λa b q e=>k h _ a b q e) (λu a b q e=>k h _ a b q e)
inductive OA (Z:Kz)(sc:Scope)(env:Env)(O:List Addr)(I:Addr)(hb:Heap)(F0:bf)(φ0:List Addr)(s0:Shared)(ys:List AV)(P:bf->List Addr->Heap->Nat->Prop)(go:List AV->Loc->St->Prop):Nat->Shared->Prop
 |mk {i:Nat} {F1:bf} {Kg:List Addr} {Ki:Loc} {Ke:St} {h1:Heap} {tk:Nat}:i<=ys.length->Step F0 φ0 O hb F1 Kg h1->KD F1 Kg h1 I->Kj Z F1 Kg Ke h1->Kl F1 Kg Ki sc env O h1->P F1 Kg h1 i->go (ys.drop i) Ki Ke->OA Z sc env O I hb F0 φ0 s0 ys P go (ys.length-i) ⟨h1,s0.gens,s0.drawn,tk,s0.os⟩
inductive OB (Z:Kz)(sc:Scope)(env:Env)(O:List Addr)(hb:Heap)(F0:bf)(φ0:List Addr)(s0:Shared)(go:Nat->Loc->St->Prop):Nat->Shared->Prop
 |mk {n:Nat} {F1:bf} {Kg:List Addr} {Ki:Loc} {Ke:St} {h1:Heap} {tk:Nat}:Step F0 φ0 O hb F1 Kg h1->Kj Z F1 Kg Ke h1->Kl F1 Kg Ki sc env O h1->go n Ki Ke->OB Z sc env O hb F0 φ0 s0 go n ⟨h1,s0.gens,s0.drawn,tk,s0.os⟩
theorem rX {t:Expr}{body orelse:List Stmt}{ys:List AV}{ok:St->Bool}{P:bf->List Addr->Heap->Nat->Prop}{f:AV->Loc->St->Rs}{fl:Fw}{R:Result->Shared->Prop}
  (it:MX Z w A I ys ok P)
  (KH:∀ {x:AV} {Ki:Loc} {Ke:St} {fl:Fw} {KL:Loc} {Kf:St} {F1:bf} {Kg:List Addr} {s1:Shared} {Q:Flow->Shared->Prop} {v':Value},f x Ki Ke=some (fl,KL,Kf)->Kj Z F1 Kg Ke s1.heap->Kl F1 Kg Ki sc env O s1.heap->VR F1 Kg x v' ->
   KW Z sc env O F1 Kg s1 fl KL Kf Q->aA w A (assign t env v') (λ_ Kx=>aA w A (execs body env) Q aq Kx) aq s1)
  (R0:Kj Z F φ st s.heap) (L0:Kl F φ σ sc env O s.heap) (T0:P F φ s.heap 0) (pI:KD F φ s.heap I) (nI:I∉env.locals::env.cells.map (·.2))
  (e:bc ok f ys σ st=some (fl,Kh,Kd)) (S0:Step F0 φ0 O hb F φ s.heap) (bI:hb.get? I=none)
  (hR:∀ F' Kn Lc h' tk,Step F0 φ0 O hb F' Kn h'->Kj Z F' Kn Kd h'->Kl F' Kn Kh sc env O h'->FR F' Kn fl Lc ->
   match fl with
   |.next=>aA w A (execs orelse env) (λf KY=>R (.ok f) KY) aq ⟨h',s.gens,s.drawn,tk,s.os⟩
   |.brk=>R (.ok .next) ⟨h',s.gens,s.drawn,tk,s.os⟩
   |.ret _=>R (.ok Lc) ⟨h',s.gens,s.drawn,tk,s.os⟩) :
  codeAny (model aM w) A (.forLoop t (.ref I) body orelse env) R s:=by
 refine kK (OA Z sc env O I hb F0 φ0 s ys P (λr Ki Ke=>bc ok f r Ki Ke=some (fl,Kh,Kd))) ?_ ys.length (.mk (i:=0) (zero_le _) S0 pI R0 L0 T0 e);intro n s' inv
 cases inv with
 |@mk i F1 Kg Ki Ke h1 tk hi S1 MM R1 L1 T1 ec=>
 by_cases Lj:i<ys.length
 ·rw[List.drop_eq_getElem_cons Lj]at ec;refine qX ec λhok Oz KL Kf ef Ou=>?_;refine it.item (s:=sw s h1 tk) T1 (getElem?_eq_getElem Lj) hok R1 λv' h2 Ku k2 hv T2=>?_;refine cP (it.at_ T2) λo T q1 q2 q3=>?_;have S2:Step F1 Kg [I] h1 F1 Kg h2:=Step.own1 (.head _) k2 ⟨o,q1⟩;have Ov:=MM.step S2;have LH:Step F0 φ0 O hb F1 Kg h2:=S1.hide S2 λb m=>by cases m with |head=>exact bI |tail _ m=>cases m
  refine gT (s:=sw s h2 Ku) q1 q2 q3 ?_;refine KH (s1:=⟨h2,s.gens,s.drawn,Ku,s.os⟩) ef (R1.own1 MM.f MM.p MM.t1 MM.t2 k2) (L1.keep λb m o e=>(k2.2 b λz=>nI (z▸m)).trans e) hv λF3 Ma fl3 h3 KU S3 R3 L3 f3=>?_;have Ng:=LH.trans S3
  cases f3 with
  |next=>exact⟨_,Nat.sub_lt_sub_left Lj (lt_succ_self i),.mk Lj Ng (Ov.step S3) R3 L3 (it.mono T2 S3.le S3.pre λo e=>Ov.kept S3 (λm=>nI (L3.subO I m)) e) Ou⟩
  |brk=>
   cases Ou;exact hR F3 Ma .brk h3 KU Ng R3 L3 .brk
  |ret PN=>
   cases Ou;exact hR F3 Ma _ h3 KU Ng R3 L3 (.ret PN)
 ·cases le_antisymm hi (Nat.le_of_not_lt Lj);rw[List.drop_eq_nil_of_le (le_refl _)]at ec;refine oI ec λhok ec=>?_;cases ec
  exact it.done (s:=sw s h1 tk) T1 hok R1 λh2 Ku k2=>
   hR F1 Kg .next h2 Ku (S1.hide' k2 bI) (R1.but MM k2) (L1.keep λb m o e=>k2 b o (λz=>nI (z▸m)) e) .next
theorem yH {test:Expr}{body:List Stmt}{c:Loc->St->Option (Bool×St)}{b:Loc->St->Rs}{n:Nat}{fl:Fw}{R:Result->Shared->Prop}
  (hc:∀ {Ki:Loc} {Ke Kf:St} {r:Bool} {F1:bf} {Kg:List Addr} {s1:Shared},c Ki Ke=some (r,Kf)->Kj Z F1 Kg Ke s1.heap->Kl F1 Kg Ki sc env O s1.heap->dK Z w A (isTrue test env (eval test env)) F1 Kg s1 r Kf)
  (KH:∀ {Ki:Loc} {Ke:St} {fl:Fw} {KL:Loc} {Kf:St} {F1:bf} {Kg:List Addr} {s1:Shared},b Ki Ke=some (fl,KL,Kf)->Kj Z F1 Kg Ke s1.heap->Kl F1 Kg Ki sc env O s1.heap->az Z w A (execs body env) sc env O F1 Kg s1 fl KL Kf)
  (R0:Kj Z F φ st s.heap) (L0:Kl F φ σ sc env O s.heap) (e:fZ c b n σ st=some (fl,Kh,Kd)) (S0:Step F0 φ0 O hb F φ s.heap)
  (hR:∀ F' Kn Lc h' tk,Step F0 φ0 O hb F' Kn h'->Kj Z F' Kn Kd h'->Kl F' Kn Kh sc env O h'->FR F' Kn fl Lc->R (.ok Lc) ⟨h',s.gens,s.drawn,tk,s.os⟩) :
  codeAny (model aM w) A (.whileLoop test body [] env) R s:=by
 refine codeAny_whileLoop (OB Z sc env O hb F0 φ0 s (λn Ki Ke=>fZ c b n Ki Ke=some (fl,Kh,Kd))) ?_ n (.mk S0 R0 L0 e);intro n s' inv
 cases inv with
 |@mk F1 Kg Ki Ke h1 tk S1 R1 L1 ec=>
 refine oS ?_
 cases n with
 |zero=>exact absurd ec bg
 |succ n=>
  refine oC ec (λKf PO ec=>hc (s1:=⟨h1,s.gens,s.drawn,tk,s.os⟩) PO R1 L1 _ λF2 KI h2 Ku S2 R2=>?_) λKf PO ec=>hc (s1:=⟨h1,s.gens,s.drawn,tk,s.os⟩) PO R1 L1 _ λF2 KI h2 Ku S2 R2=>?_
  ·have LH:=S1.trans (S2.own (own':=O) λx m=>absurd m not_mem_nil);rw[if_pos rfl];refine oF ec (λPB KJ eb ec=>?_) (λPB KJ eb ec=>?_) (λu PB KJ eb ec=>?_)
   ·refine oS (KH (s1:=⟨h2,s.gens,s.drawn,Ku,s.os⟩) eb R2 (L1.step S2) _ λF3 Ma Lc h3 KU S3 R3 L3 f3=>?_);cases f3;exact⟨n,lt_succ_self n,.mk (LH.trans S3) R3 L3 ec⟩
   ·refine oS (KH (s1:=⟨h2,s.gens,s.drawn,Ku,s.os⟩) eb R2 (L1.step S2) _ λF3 Ma Lc h3 KU S3 R3 L3 f3=>?_);cases f3;cases ec;exact hR F3 Ma .next h3 KU (LH.trans S3) R3 L3 .next
   ·refine oS (KH (s1:=⟨h2,s.gens,s.drawn,Ku,s.os⟩) eb R2 (L1.step S2) _ λF3 Ma Lc h3 KU S3 R3 L3 f3=>?_);cases ec
    cases f3 with
    |ret hv=>exact hR F3 Ma _ h3 KU (LH.trans S3) R3 L3 (.ret hv)
  ·have LH:=S1.trans (S2.own (own':=O) λx m=>absurd m not_mem_nil);cases ec;rw[if_neg Ly];exact oS (wpAny_execs_nil (hR F2 KI .next h2 Ku LH R2 (L1.step S2) .next))
theorem qY (xs:List Nat)(vs:List AV)(Kr:List Value){σ Kh:Loc}{s:Shared}{Q:Unit->Shared->Prop}(c:∀ x∈xs,sc.names.lookup (nm x)=some .local\/sc.names.lookup (nm x)=some .cell)(e:bA σ xs vs=some Kh):Km F φ vs Kr ->
  Kl F φ σ sc env O s.heap->Kj Z F φ st s.heap ->
  (∀ h1 tk,Step F φ O s.heap F φ h1->Kj Z F φ st h1->Kl F φ Kh sc env O h1->Q () ⟨h1,s.gens,s.drawn,tk,s.os⟩) ->
  aA w A (assignInOrder (xs.map λx=>bindName env (nm x)) Kr) Q aq s:=by
 refine eC (P:=λσ xs vs=>∀ Kr s,(∀ x∈xs,sc.names.lookup (nm x)=some .local\/sc.names.lookup (nm x)=some .cell)->Km F φ vs Kr->Kl F φ σ sc env O s.heap->Kj Z F φ st s.heap ->
  (∀ h1 tk,Step F φ O s.heap F φ h1->Kj Z F φ st h1->Kl F φ Kh sc env O h1->Q () ⟨h1,s.gens,s.drawn,tk,s.os⟩) ->
  aA w A (assignInOrder (xs.map λx=>bindName env (nm x)) Kr) Q aq s) (λKr s c hv L R hQ=>Km.nilR (Q:=λKr=>aA w A (assignInOrder [] Kr) Q aq s) (wpAny_pure (hQ s.heap s.toks (Step.refl ..) R L)) hv) ?_ xs vs σ e Kr s c
 intro σ x xs v vs ih Kr s c hv L R hQ;refine Km.consR (Q:=λKr=>aA w A (assignInOrder ((x::xs).map λx=>bindName env (nm x)) Kr) Q aq s) (λv' Kr hv Oq=>?_) hv
 exact wpAny_bind (wpAny_holding (wpAny_bindName (bQ L R (c x (.head _)) hv λh1 tk S1 R1 L1=>
  ih Kr ⟨h1,s.gens,s.drawn,tk,s.os⟩ (λy m=>c y (.tail _ m)) Oq L1 R1 λh2 Ku S2 R2 L2=>hQ h2 Ku (S1.trans S2) R2 L2)))
theorem t8 {x:Nat}{v:AV}{Q:Value->Shared->Prop}(L:Kl F φ σ sc env O s.heap)(e:af σ x=some v)(hQ:∀ v',VR F φ v v'->Q v' s):aA w A (loadName env (nm x)) Q aq s:=by
 refine ak (L.val x v e) λv' hv n=>?_;rcases n with ⟨k,m,a,b⟩ |⟨k,c,a,b⟩
 ·exact wpAny_loadName_local L.kind k a b (hQ v' hv)
 ·rcases k with k |k
  ·exact wpAny_loadName_cell L.kind k a b (hQ v' hv)
  ·exact wpAny_loadName_free L.kind k a b (hQ v' hv) (zT x)
theorem Kj.setList {i:Nat}{a:Addr}{arr:Array Value}{n:Nat}{xs:List AV}(R:Kj Z F φ st h)(hi:φ[i]?=some a)(e:h'.get? a=some { cls:=.type "list",data:=.seq arr n })(k:Heap.SameBut a h h')(V:Km F φ xs arr.toList) :
  Kj Z F φ (st.set i (.list xs)) h'/\∀ own,Step F φ own h F φ h':=
 ⟨R.upd hi k ⟨arr,⟨n,e⟩,V⟩ ⟨_,e⟩,λown=>Step.upd (mem_of_getElem? hi) k ⟨_,e⟩⟩
theorem kL {ov iv v:AV}{vo vi u:Value}{Q:Unit->Shared->Prop}(e:jk st ov iv v=some Kd)(R:Kj Z F φ st s.heap)(h1:VR F φ ov vo)(h2:VR F φ iv vi)(h3:VR F φ v u)
  (hQ:∀ h1 tk,Step F φ [] s.heap F φ h1->Kj Z F φ Kd h1->Q () ⟨h1,s.gens,s.drawn,tk,s.os⟩):aA w A (setItem vo vi u) Q aq s:=by
 refine ji (P:=λvo=>aA w A (setItem vo vi u) Q aq s) h1 e λi a e hi=>cu (P:=λvi=>aA w A (setItem (.ref a) vi u) Q aq s) h2 e λk t e=>oV e λxs q e=>oI e λhb e=>?_;refine ak (R.list q hi) ?_;rintro arr ⟨n,ha⟩ d;have LU:=d.size;refine qU ha hb.1 (Int.lt_trans hb.2.2 (by decide)) (LU▸hb.2.1) λh1 n1 e1 k1=>?_;refine hQ h1 s.toks (Step.upd (mem_of_getElem? hi) k1 ⟨_,e1⟩) (KO e▸(R.setList hi e1 k1 ?_).1);rw[Array.toList_setIfInBounds];exact d.set _ h3
theorem pk {ov v:AV}{vo u:Value}{sl:Addr}{Q:Unit->Shared->Prop}(e:qo st ov v=some Kd)(R:Kj Z F φ st s.heap)(h1:VR F φ ov vo)(h3:VR F φ v u)(hs:s.heap.IsSliceOf sl .none .none .none)
  (hQ:∀ h1 tk,Step F φ [] s.heap F φ h1->Kj Z F φ Kd h1->Q () ⟨h1,s.gens,s.drawn,tk,s.os⟩):aA w A (setItem vo (.ref sl) u) Q aq s:=by
 refine ji (P:=λvo=>aA w A (setItem vo (.ref sl) u) Q aq s) h1 e λi a e hi=>oV e λys q e=>rN (P:=λu=>aA w A (setItem (.ref a) (.ref sl) u) Q aq s) h3 e λxs b Lg e e1 d1=>oI e λhb e=>?_;refine ak (R.list q hi) ?_;rintro arr ⟨n,ha⟩ d;have LU:=d.size;have hsz2:=d1.size;refine ph ha (e1.isList R.frz) (λz=>?_) hs (by exact Q3 0x4611257112f424051760110f4240515401104 [_,_,_,_] hb LU hsz2 rfl) λh1 n1 e2 k1=>?_
 ·refine aw e1 ?_;clear e1;intro n z';exact bg ((R.new _ (mem_of_getElem? hi)).symm.trans (z▸z'))
 ·refine av (R.setList hi e2 k1 d1) λR1 S1=>?_;exact hQ h1 s.toks (S1 []) (KO e▸R1)
theorem vK:∀ (fs:List (Nat×AV)) (x:Nat) (v:AV),(ai fs x v).length=if (af fs x).isSome then fs.length else fs.length+1:=by
 intro fs
 induction fs with
 |nil=>
  intro x v;exact rfl
 |cons Lp r ih=>
  obtain⟨y,u⟩:=Lp;intro x v;unfold ai af;split
  ·rfl
  ·have:=ih x v;rw[length_cons,this];split<;>rfl
theorem t9 (name:Str)(KP:Int)(key v:Value):∀ (es:List DictEntry),(∀ e∈es,∃ x t,e.key=.str x t)->∀ (u:Value),getL name es=some (some u)->(putL name KP key v es).length=es.length:=by
 intro es
 induction es with
 |nil=>
  intro _ u h;cases h
 |cons Lp r ih=>
  obtain⟨hs,k,w⟩:=Lp;intro hk u h;refine nX (hk _ (.head _)) λx t ek=>?_;cases ek;by_cases q:x=name
  ·exact(congrArg List.length (if_pos (beq_iff_eq.mpr q))).trans rfl
  ·rw[ej,if_neg λz=>q z.symm]at h;exact(congrArg List.length (if_neg λz=>q (beq_iff_eq.mp z))).trans (congrArg Nat.succ (ih (λe m=>hk e (.tail _ m)) u h))
theorem lM {ov v:AV}{i:Nat}{vo u:Value}{Q:Unit->Shared->Prop}(G:Glob Z)(hi6:i<6)(e:fY st ov i v=some Kd)(R:Kj Z F φ st s.heap)(h1:VR F φ ov vo)(h3:VR F φ v u)
  (hQ:∀ h1 tk,Step F φ [] s.heap F φ h1->Kj Z F φ Kd h1->Q () ⟨h1,s.gens,s.drawn,tk,s.os⟩):aA w A (setAttr vo (nm i) u) Q aq s:=by
 refine ji (P:=λvo=>aA w A (setAttr vo (nm i) u) Q aq s) h1 e λj a e hi=>ql e λc d fs q q2 e=>oI e λhl e=>?_;refine dc (R.obj _ _ _ hi q) λdx sl e1 e2=>?_;refine yk (R.obj _ _ _ e2 q2) λes n e3 l3 g1 g2 g3=>?_;refine mM (G.sets _ (rS c)) λs1 s2 s3=>?_;refine mM (G.cls _ (rS c)) λc1 c2 _=>?_
 have hg:(getL (nm i) es).isSome=true:=by
  cases z:af fs i with
  |none=>rw[g2 i z];rfl
  |some w=>refine ak (g1 i w z) λw' z' _=>?_;rw[z'];rfl
 refine qV (R.base.inK R.frz) ⟨e1,rfl,rfl,e3⟩ e3 s1 s2 (s3 i hi6) c2 hg (le_trans l3 (le_trans hl (by decide))) λh1 n1 KP tok e4 k1 tk=>?_
 have len:(putL (nm i) KP (.str (nm i) tok) u es).length<=(ai fs i v).length:=by
  rw[vK]
  cases z:af fs i with
  |none=>exact le_trans (pj ..) (succ_le_succ l3)
  |some w=>refine ak (g1 i w z) λw' z' _=>?_;rw[t9 _ _ _ _ _ g3 _ z'];exact l3
 have off:∀ x,x≠i->af (ai fs i v) x=af fs x/\getL (nm x) (putL (nm i) KP (.str (nm i) tok) u es)=getL (nm x) es:=λx n=>⟨(eh ..).trans (if_neg n),(pi _ _ _ _ _ g3 _).trans (if_neg λz=>n (nm_inj z))⟩;have on:af (ai fs i v) i=some v/\getL (nm i) (putL (nm i) KP (.str (nm i) tok) u es)=some (some u):=⟨(eh ..).trans (if_pos rfl),(pi _ _ _ _ _ g3 _).trans (if_pos rfl)⟩;refine hQ h1 tk (Step.upd (mem_of_getElem? e2) k1 ⟨_,e4⟩) (KO e▸R.upd e2 k1 ⟨_,n1,e4,len,λx w hx=>?_,λx hx=>?_,tZ _ _ _ _ _ g3⟩ ⟨_,e4⟩)
 ·by_cases n:x=i
  ·exact⟨u,(congrArg (λx=>getL (nm x) _) n).trans on.2,KO (on.1.symm.trans ((congrArg (af (ai fs i v)) n).symm.trans hx))▸h3⟩
  ·refine ak (g1 x w ((off x n).1.symm.trans hx)) λw' z r=>?_;exact⟨w',(off x n).2.trans z,r⟩
 ·by_cases n:x=i
  ·exact absurd (hx.symm.trans ((congrArg (af (ai fs i v)) n).trans on.1)) bg
  ·exact(off x n).2.trans (g2 x ((off x n).1.symm.trans hx))
theorem qZ {X:Cx}{k:Nat}{ov iv r:AV}{vo vi:Value}{Q:Unit->Shared->Prop}(hC:cx Z w k X.C)(G:Glob Z)(rm:Ks k A)(hr:dr st 31 ov=true)(e:X.C 31 [ov,iv] st=some (r,Kd))(R:Kj Z F φ st s.heap)(h1:VR F φ ov vo)(h2:VR F φ iv vi)
  (hQ:∀ F' Kn h1 tk,Step F φ [] s.heap F' Kn h1->Kj Z F' Kn Kd h1->Q () ⟨h1,s.gens,s.drawn,tk,s.os⟩):aA w A (delItem vo vi) Q aq s:=by
 refine oJ (P:=λvo=>VR F φ ov vo->aA w A (delItem vo vi) Q aq s) hr h1 (λi b c d fs hi q q2 hc hn h1=>?_) h1;refine dc (R.obj _ _ _ hi q) λdx sl e1 e2=>?_;refine dc (R.obj _ _ _ e2 q2) λes n e3 _=>?_;refine aw (G.refs 31) λf hf=>?_;refine av (G.met 31 (by decide) (by decide)) λg1 g2=>?_;have this:=hC 31 [ov,iv] st r Kd e A F φ s [.ref b,vi] rm R (.cons h1 (.cons h2 .nil));rw[if_neg (by decide),hf]at g1 this;rw[hf]at g2;rw[hc]at e1;have I:InstAt s.heap _ ⟨.ref fi,some dx,.plain,sl⟩ fi (some (dictOf es n)):=⟨e1,rfl,rfl,e3⟩;have X':=R.base.inK R.frz;unfold delItem sequenceKey;refine wpAny_holding (wpAny_bind (wpAny_bind (I.type.here ?_)));refine wpAny_bind ((anyM_none X' G.noq).here ?_);rw[if_pos (show(!false)=true from rfl)];rw[show nm (tj 31)=ofString "__delitem__" by decide +kernel]at g1;exact wpAny_pure (wpAny_bind (special_fn X' I g1 (beq_iff_eq.mp g2) (this _ λF' Kn v' h1 tk S R V=>wpAny_pure (hQ F' Kn h1 tk S R))))
end
structure SelS where
 as:List Expr->Expr->Pos->Bool:=λ_ _ _=>false
 au:Expr->Operator->Expr->Bool:=λ_ _ _=>false
 iff:Expr->List Stmt->List Stmt->Bool:=λ_ _ _=>false
 wh:Expr->List Stmt->List Stmt->Bool:=λ_ _ _=>false
 fo:Expr->Expr->List Stmt->List Stmt->Bool:=λ_ _ _ _=>false
 re:Option Expr->Bool:=λ_=>false
 ex:Expr->Bool:=λ_=>false
 de:List Expr->Bool:=λ_=>false
 br:Bool:=false
noncomputable def nj (s:Stmt)(f:SelS):Bool:=match s with
 |.Assign ts v p=>f.as ts v p
 |.AugAssign t o v _=>f.au t o v
 |.If t a b _=>f.iff t a b
 |.While t a b _=>f.wh t a b
 |.For t i a b _=>f.fo t i a b
 |.Return v _=>f.re v
 |.Expr e _=>f.ex e
 |.Delete ts _=>f.de ts
 |.Break _=>f.br
 |_=>false
noncomputable def q0 (s:Stmt)(k:List Expr->Expr->Pos->Bool):Bool:=nj s { as:=k }
noncomputable def vL (s:Stmt)(op:Operator)(k:Expr->Expr->Bool):Bool:=nj s { au:=λt o v=>o==op&&k t v }
noncomputable def vM (s:Stmt)(k:Expr->List Stmt->List Stmt->Bool):Bool:=nj s { iff:=k }
noncomputable def DX (s:Stmt)(k:Expr->List Stmt->Bool):Bool:=nj s { wh:=λt a b=>ip b (k t a) }
noncomputable def rY (s:Stmt)(k:Expr->Expr->List Stmt->List Stmt->Bool):Bool:=nj s { fo:=k }
noncomputable def pn (s:Stmt)(k:Option Expr->Bool):Bool:=nj s { re:=k }
noncomputable def Bn (s:Stmt)(k:Expr->Bool):Bool:=nj s { ex:=k }
noncomputable def Ag (s:Stmt)(k:List Expr->Bool):Bool:=nj s { de:=k }
noncomputable def Ah (s:Stmt):Bool:=nj s { br:=true }
section
variable {s:Stmt}{P:Stmt->Prop}
theorem iZ {f:List Expr->Expr->Pos->Bool}(k:∀ ts v p,f ts v p=true->P (.Assign ts v p)):q0 s f=true->P s:=by
 cases s<;>first |exact Lm |exact k _ _ _
theorem rZ {op:Operator}{f:Expr->Expr->Bool}(k:∀ t v p,f t v=true->P (.AugAssign t op v p)):vL s op f=true->P s:=by
 cases s<;>first |exact Lm |exact yb (P:=λz=>P (.AugAssign _ z _ _)) (k _ _ _)
theorem r5 {f:Expr->List Stmt->List Stmt->Bool}(k:∀ t a b p,f t a b=true->P (.If t a b p)):vM s f=true->P s:=by
 cases s<;>first |exact Lm |exact k _ _ _ _
theorem Bo {f:Expr->List Stmt->Bool}(k:∀ t a p,f t a=true->P (.While t a [] p)):DX s f=true->P s:=by
 cases s<;>first |exact Lm |exact ku (P:=λz=>P (.While _ _ z _)) (k _ _ _)
theorem nk {f:Expr->Expr->List Stmt->List Stmt->Bool}(k:∀ t i a b p,f t i a b=true->P (.For t i a b p)):rY s f=true->P s:=by
 cases s<;>first |exact Lm |exact k _ _ _ _ _
theorem jU {f:Option Expr->Bool}(k:∀ o p,f o=true->P (.Return o p)):pn s f=true->P s:=by
 cases s<;>first |exact Lm |exact k _ _
theorem vN {f:Expr->Bool}(k:∀ e p,f e=true->P (.Expr e p)):Bn s f=true->P s:=by
 cases s<;>first |exact Lm |exact k _ _
theorem yI {f:List Expr->Bool}(k:∀ ts p,f ts=true->P (.Delete ts p)):Ag s f=true->P s:=by
 cases s<;>first |exact Lm |exact k _ _
theorem yJ (k:∀ p,P (.Break p)):Ah s=true->P s:=by
 cases s<;>first |exact Lm |exact λ_=>k _
end
noncomputable def jY (e:Expr):Bool:=!(Nat.ble 8 e.ctorIdx&&Nat.ble e.ctorIdx 10)
noncomputable def r6:E->Bool
 |.new _ (.comp ..)=>true
 |.new _ (.comp2 ..)=>true
 |_=>false
noncomputable def no (sc:Scope)(line:Nat):Expr->Option Str
 |.Name id pos=>if sc.names.lookup id==some .local&&pos.line==line then some id else none
 |_=>none
noncomputable def iB (sc:Scope)(line:Nat)(ts:List Expr):List Str:=ts.filterMap (no sc line)
noncomputable def vO:List Str->Bool
 |[]=>true
 |x::r=>!r.contains x&&vO r
mutual
noncomputable def DY (sc:Scope):S->Stmt->Bool
 |.asg tg e,s=>q0 s λts v _=>m7 ts λt=>gR sc tg t&&((m9 t||!u9 v)&&(((jY v||u9 t)||(m9 t&&(r6 e&&qA v)))&&aW sc e v))
 |.asg2 xs es,s=>q0 s λts v _=>m7 ts λt=>ot t λts=>ot v λvs=>
   (iB sc ((ts.head?.map (·.pos.line)).getD 0) ts==xs.map nm&&(ts.length==xs.length&&((ts.length==2||ts.length==3)&&(vs.length==ts.length&&vO (xs.map nm))))) &&
    (vs.all aB&&(!vs.all (foldedForSure 8)&&(!vs.all (constantsAlone 8)&&(decide (vs.length<=100)&&eW sc es vs))))
 |.asgs xs e,s=>q0 s λts v _=>(xs.length==3)&&(nb sc xs ts&&aW sc e v)
 |.aug x op e,s=>vL s op λt v=>eP t (nm x) (vf sc (nm x)&&aW sc e v)
 |.setI o i e,s=>q0 s λts v _=>m7 ts λt=>jo t λa j=>aW sc e v&&(aW sc o a&&aW sc i j)
 |.augI o i op e,s=>vL s op λt v=>jo t λa j=>f8 j&&(aW sc e v&&(aW sc o a&&aW sc i j))
 |.setSl o e,s=>q0 s λts v _=>m7 ts λt=>jo t λa sl=>jR sl λl u t=>fG l (fG u (fG t (aW sc e v&&aW sc o a)))
 |.setA o a e,s=>q0 s λts v _=>m7 ts λt=>ff t (nm a) λq _=>decide (a<6)&&(aW sc e v&&aW sc o q)
 |.expr e,s=>Bn s λx=>va x&&aW sc e x
 |.iff c a b,s=>vM s λt x y=>Lh sc c t&&(cX sc a x&&cX sc b y)
 |.whl c a,s=>DX s λt x=>Lh sc c t&&cX sc a x
 |.for tg src body orelse,s=>rY s λt i a b=>gR sc tg t&&(fe i&&(aW sc src i&&(cX sc body a&&cX sc orelse b)))
 |.forR x src body,s=>rY s λt i a b=>ip b (dv i λf as _=>eP f (nm 145) (m7 as λy=>gl sc (nm 145)&&(aB y&&(gR sc (.nm x) t&&(aW sc src y&&cX sc body a)))))
 |.ret e,s=>pn s λr=>iS r λx=>aW sc e x
 |.retN,s=>pn s λr=>fG r true
 |.brk,s=>Ah s
 |.del o i,s=>Ag s λts=>m7 ts λt=>jo t λa j=>aW sc o a&&aW sc i j
 |.bad,_=>true
noncomputable def cX (sc:Scope):List S->List Stmt->Bool
 |[],xs=>xs.isEmpty
 |s::r,xs=>eE xs λx xs=>DY sc s x&&cX sc r xs
end
section
variable {p:Pos}{a:Addr}
theorem vP {value:Expr}{t:Option Expr}{line:Nat}(c:jY value=true):swapsWith value t line env=pure false:=by
 cases value<;>first |rfl |cases c
theorem ua {value:Expr}{ts:List Expr}{k line:Nat}:swapsWith value (some (.Tuple ts k p)) line env=pure false:=by cases value<;>rfl
theorem ml {value a b:Expr}{line:Nat}:swapsWithSole [.Subscript a b p] value line env=pure false:=by cases value<;>rfl
theorem q6 {value a:Expr}{n:Str}{line:Nat}:swapsWithSole [.Attribute a n p] value line env=pure false:=by cases value<;>rfl
theorem kM {value a b:Expr}:swappedStores [.Subscript a b p] value env=pure none:=by cases value<;>rfl
theorem po {value a:Expr}{n:Str}:swappedStores [.Attribute a n p] value env=pure none:=by cases value<;>rfl
theorem jr {value:Expr}{n:Str}:swappedStores [.Name n p] value env=pure none:=by cases value<;>rfl
theorem q7 {value:Expr}{ts:List Expr}{k:Nat}(c:u9 value=false):swappedStores [.Tuple ts k p] value env=pure none:=by cases value<;>first |rfl |cases c
theorem d8 {targets:List Expr}{value:Expr}{v:AV}{Q:Flow->Shared->Prop}(g:Good Z w A (eval value env) F φ s v Ke)(hs:swapsWithSole targets value p.line env=pure false)(hw:swappedStores targets value env=pure none)
  (hQ:∀ F1 Kg v' h1 tk,Step F φ [] s.heap F1 Kg h1->Kj Z F1 Kg Ke h1->VR F1 Kg v v'->aA w A (assignAll v' ((assignEach targets env).map (·.2))) (λ_=>Q .next) aq ⟨h1,s.gens,s.drawn,tk,s.os⟩) :
  aA w A (exec (.Assign targets value p) env) Q aq s:=
 wpAny_Assign_stores (g _ λF1 Kg v' h1 tk S R V=>hQ F1 Kg v' h1 tk S R V) hs hw
theorem yK {α β:Type}{f g:α->Option β}:∀ {l:List α},(l.filterMap f).length=l.length->(∀ x y,f x=some y->g x=some y)->l.filterMap g=l.filterMap f:=by
 intro l
 induction l with
 |nil=>
  intro _ _;exact rfl
 |cons x l ih=>
  intro h k;rw[filterMap_cons]at h
  cases q:f x with
  |none=>
   rw[q]at h;have:=List.length_filterMap_le f l;simp only[length_cons]at h;lia
  |some y=>
   rw[q]at h;simp only[length_cons,succ_eq_add_one,Nat.add_right_cancel_iff]at h;rw[filterMap_cons,filterMap_cons,q,k x y q];simp only[ih h k]
theorem q8:∀ {l:List Str},vO l=true->l.eraseDups=l:=by
 intro l
 induction l with
 |nil=>
  intro _;simp
 |cons x r ih=>
  intro h;refine av (bC (show(!r.contains x&&vO r)=true from h)) λh1 h2=>?_;rw[List.eraseDups_cons]
  have:r.filter (λb=>!b==x)=r:=by
   rw[List.filter_eq_self];intro a m;have h1:r.contains x=false:=by simpa using h1
   have:a≠x:=λz=>by subst z;rw[List.contains_eq_mem]at h1;simp[m]at h1
   simp[this]
  rw[this,ih h2]
theorem q9 {xs:List Nat}{ts vs:List Expr}{k1 k2:Nat}{p1 p2:Pos}(L:Kl F φ σ sc env O h)(c1:iB sc ((ts.head?.map (·.pos.line)).getD 0) ts=xs.map nm)(c2:ts.length=xs.length)(c3:(ts.length==2||ts.length==3)=true)(c4:vs.length=ts.length)
  (c5:vs.all aB=true) (c6:vO (xs.map nm)=true) (c7:vs.all (foldedForSure 8)=false) (c8:vs.all (constantsAlone 8)=false) :
  swappedStores [.Tuple ts k1 p1] (.Tuple vs k2 p2) env=pure (some (xs.map nm)):=by
 delta swappedStores;have hb:env.blockKind=.function:=by unfold Env.blockKind;rw[L.kind];rfl
 have Mf:(vs.any fun |.Starred ..=>true |_=>false)=false:=by
  rw[List.any_eq_false];intro x m;have:=all_eq_true.mp c5 x m;cases x<;>first |exact Ly |cases this
 have hn:(ts.filterMap fun |.Name id pos=>if env.kindOf id==some .local&&pos.line==(ts.head?.map (·.pos.line)).getD 0 then some id else none |_=>none)=xs.map nm:=by
  rw[← c1];unfold iB
  refine yK (f:=no sc _) (by
   have:=congrArg List.length c1;rw[length_map]at this
   exact this.trans c2.symm) λx y e=>?_
  cases x<;>first |exact absurd e bg |skip
  refine oI e λq e=>(if_pos ?_).trans e;exact bU q λq1 q2=>by rw[L.lc _ (dh q1),q2];rfl
 have Ko:(xs.map nm).length=ts.length:=by rw[length_map,c2]
 have he:(xs.map nm).eraseDups=xs.map nm:=q8 c6;simp only[c3,c4,hb,c7,c8,bne_self_eq_false,Bool.not_true,Bool.or_self,false_eq_true,if_false];refine(if_neg λz=>Ly (Mf.symm.trans z)).trans ?_;refine Eq.trans (b:=if ((xs.map nm).length != ts.length||(xs.map nm).eraseDups.length != (xs.map nm).length)=true then pure none else pure (some (xs.map nm))) ?_ ?_
 ·rw[← hn];rfl
 ·simp only[he,Ko,bne_self_eq_false,Bool.or_self,false_eq_true,if_false]
theorem r7 {x:Nat}{py:Pos}{v:AV}{D C:Addr}{tk:Nat}{Q:Flow->Shared->Prop}{F2:bf}{KI:List Addr}(L:Kl F φ σ sc env O s.heap)(hx:sc.names.lookup (nm x)=some .local\/sc.names.lookup (nm x)=some .cell)
  (S:Step F φ [] s.heap F2 KI h') (R:Kj Z F2 KI Kd h') (V:VR F2 KI v (.ref D)) (PC:KD F2 KI h' C) (sC:s.heap.get? C=none) (N:∃ m,h'.Ns C m)
  (hQ:KW Z sc env O F φ s .next (ai σ x v) Kd Q) :
  compPost (model aM w) A aq (some (assign (.Name (nm x) py) env)) (λ_ s'=>Q .next s') (.ref D) C (.ok .next) ⟨h',s.gens,s.drawn,tk,s.os⟩:=by
 have L':=L.step S;have nC:C∉env.locals::env.cells.map (·.2):=λm=>by refine aw (L.ex C m) λo z=>?_;rw[sC]at z;cases z
 refine wpAny_assign_Name (bQ (s:=sw s h' tk) L' R hx V λh1 K5 S1 R1 L1=>?_);refine Dh N ?_;clear N;intro m o es ep hn Nh;have hC1:h1.get? C=some o:=PC.kept S1 (λz=>nC (L1.subO C z)) hn;refine⟨m,⟨o,es,ep,hC1,Nh⟩,λh2 k=>?_⟩;have kb:∀ b o,b≠C->h1.get? b=some o->h2.get? b=some o:=λb o z e=>(k.2 b z).trans e;exact hQ F2 KI .next h2 K5 ((S.any.trans S1).hide' kb sC) (R1.but (PC.step S1) kb) (L1.keep λb m o e=>kb b o (λz=>nC (z▸m)) e) .next
theorem mn {X:Cx}{k:Nat}(hk:1<=k)(hC:cx Z w k X.C)(G:Glob Z){l:L}{elt:Expr}{gens:List Comprehension}{vs:List AV}{use:Option (Value->Sem Unit)}{Q:Value->Shared->Prop}{p2:Pos}{m:Bool}
  (hl:r6 (.new m l)=true) (c:Bh sc l (.ListComp elt gens scope p)=true) (e:dt X l σ st=some (vs,Kd)) (rm:Ks (k+1) A) (R:Kj Z F φ st s.heap) (L:Kl F φ σ sc env O s.heap)
  (hK:∀ F' Kn h' D C La n' tk,Step F φ [] s.heap F' Kn h'->Kj Z F' Kn Kd h'->h'.get? D=some { cls:=.type "list",data:=.seq La n' }->Km F' Kn vs La.toList->KD F' Kn h' D->KD F' Kn h' C->D≠C ->
   s.heap.get? D=none->s.heap.get? C=none->(∃ m,h'.Ns C m)->compPost (model aM w) A aq use Q (.ref D) C (.ok .next) ⟨h',s.gens,s.drawn,tk,s.os⟩) :
  aA w A (comprehension (.ListComp elt gens scope p) scope env p2 (newList []) (firstAsync gens) (firstIter gens env) use) Q aq s:=by
 cases l with
 |comp ee tg src ifs cap=>
  refine dw (P:=λgens=>aA w A (comprehension (.ListComp elt gens scope p) scope env p2 (newList []) (firstAsync gens) (firstIter gens env) use) Q aq s) (λg c=>gC (P:=λg=>aA w A (comprehension (.ListComp elt [g] scope p) scope env p2 (newList []) (firstAsync [g]) (firstIter [g] env) use) Q aq s) (λt it cs c=>yE c λc0 c1 c2 c3 c4 c5=>?_) c) c;refine oE e λv Ke e1 e=>oV e λxs q1 e=>oI e λhl e=>?_;have e:aU (λst=>an st v xs) (fV (aX σ cap) tg (g1 X ifs ee)) xs Ke=some (vs,Kd):=e
  exact iW rm.hd (iz c0) c2 c1 q1 ((dF hk hC G src).run c3 e1 rm R L).good zU
   (λ{_ _ _}=>zW (λ{Kh} {st} {Kd} {b} {s1} {F1} {Kg} e R1 L1=>(DV hk hC G ifs).run c5 e rm R1 L1) (λ{Kh} {st} {Kd} {y} {s1} {F1} {Kg} e R1 L1=>((dF hk hC G ee).run c4 e rm R1 L1).good))
   R L e (le_trans (kJ (λx st ys Kd e=>by
    unfold fV at e;split at e
    ·exact vq e
    ·cases e) e) hl) hK
 |comp2 ee tg src Lz K9 cap=>
  refine kx (P:=λgens=>aA w A (comprehension (.ListComp elt gens scope p) scope env p2 (newList []) (firstAsync gens) (firstIter gens env) use) Q aq s) (λg d c=>gC (P:=λg=>aA w A (comprehension (.ListComp elt [g,d] scope p) scope env p2 (newList []) (firstAsync [g,d]) (firstIter [g,d] env) use) Q aq s) (λt it cs c=>ku (P:=λcs=>aA w A (comprehension (.ListComp elt [⟨t,it,cs,0⟩,d] scope p) scope env p2 (newList []) (firstAsync [⟨t,it,cs,0⟩,d]) (firstIter [⟨t,it,cs,0⟩,d] env) use) Q aq s) (λc=>
   gC (P:=λd=>aA w A (comprehension (.ListComp elt [⟨t,it,[],0⟩,d] scope p) scope env p2 (newList []) (firstAsync [⟨t,it,[],0⟩,d]) (firstIter [⟨t,it,[],0⟩,d] env) use) Q aq s) (λt2 KZ NS c=>ku (P:=λNS=>aA w A (comprehension (.ListComp elt [⟨t,it,[],0⟩,⟨t2,KZ,NS,0⟩] scope p) scope env p2 (newList []) (firstAsync [⟨t,it,[],0⟩,⟨t2,KZ,NS,0⟩]) (firstIter [⟨t,it,[],0⟩,⟨t2,KZ,NS,0⟩] env) use) Q aq s) (λc=>Bf c λc0 n1 n2 PM NF dj c3 c4 c5=>?_) c) c) c) c) c
  refine oE e λv Ke e1 e=>oV e λxs q1 e=>oL e λzs LM q2 e=>oI e λhl e=>?_;cases e;have q2:aU (λst=>an st v xs) (fV (aX σ cap) tg (g2 X Lz K9 ee)) xs Ke=some (vs,Kd):=q2
  exact iW rm.hd (iz c0) PM n1 q1 ((dF hk hC G src).run c3 e1 rm R L).good (zX n2)
   (λ{_ _ _}=>zY rm.hd (iz c0) NF dj (λ{Kh} {st} {Kd} {y} {s1} {F1} {Kg} e R1 L1=>((dF hk hC G K9).run c4 e rm R1 L1).good) (λ{Kh} {st} {Kd} {y} {s1} {F1} {Kg} e R1 L1=>((dF hk hC G ee).run c5 e rm R1 L1).good))
   R L q2 hl hK
 |_=>cases hl
theorem vQ {X:Cx}{k:Nat}(hk:1<=k)(hC:cx Z w k X.C)(G:Glob Z){e:E}{elt:Expr}{gens:List Comprehension}{v:AV}{Q:Flow->Shared->Prop}{x:Nat}{py OC:Pos}
  (hl:r6 e=true) (hx:sc.names.lookup (nm x)=some .local\/sc.names.lookup (nm x)=some .cell) (PQ:swapsWith (.ListComp elt gens scope p) (some (.Name (nm x) py)) OC.line env=pure true)
  (c:aW sc e (.ListComp elt gens scope p)=true) (ev:aa X e σ st=some (v,Kd)) (rm:Ks (k+1) A) (R:Kj Z F φ st s.heap) (L:Kl F φ σ sc env O s.heap)
  (hQ:KW Z sc env O F φ s .next (ai σ x v) Kd Q) :
  aA w A (exec (.Assign [.Name (nm x) py] (.ListComp elt gens scope p) OC) env) Q aq s:=by
 rw[exec_Assign_Name_used _ _ _ _ PQ];refine wpAny_bind (wpAny_standAt (wpAny_bind ?_));show wpAny _ A (do let _ ← comprehension (.ListComp elt gens scope p) scope env _ (newList []) (firstAsync gens) (firstIter gens env) (some (assign (.Name (nm x) py) env))) _ _ s
 cases e with
 |new m l=>
  refine av (bC c) λ_ c=>?_
  cases m with
  |false=>
   refine oL ev λvs Ke e1 ev=>?_
   ·cases ev;refine wpAny_bind (wpAny_mono (mn (Q:=λ_ s'=>Q .next s') hk hC G hl c e1 rm R L ?_) (λ_ s' hq=>wpAny_pure (wpAny_pure hq)) λ_ _ e=>e);intro F' Kn h' D C La n' tk S R' g V P1 P2 ne sD sC N;have R2:=R'.freeze P1.f P1.p P1.t1 P1.t2 g;have S2:=S.putNew (o:={ cls:=.type "list",data:=.seq La n' }) sD P1.f;have PC:KD (hJ F' D { cls:=.type "list",data:=.seq La n' }) Kn h' C:=⟨P2.ex,by unfold hJ;rw[if_neg (Ne.symm ne)];exact P2.f,P2.p,P2.t1,P2.t2⟩;exact r7 L hx S2 R2 (.lst ⟨n',bP⟩ (V.mono (cV P1.f) (prefix_refl _))) PC sC N hQ
  |true=>
   refine oL ev λvs Ke e1 ev=>?_
   ·cases ev;refine wpAny_bind (wpAny_mono (mn (Q:=λ_ s'=>Q .next s') hk hC G hl c e1 rm R L ?_) (λ_ s' hq=>wpAny_pure (wpAny_pure hq)) λ_ _ e=>e);intro F' Kn h' D C La n' tk S R' g V P1 P2 ne sD sC N;have R2:=R'.grow (ao:=.list vs) P1.f P1.p P1.t1 P1.t2 g ⟨La,⟨n',g⟩,V.mono (K7.refl _) (prefix_append _ _)⟩;have S2:=S.growNew sD
    have PC:KD F' (Kn++[D]) h' C:=⟨P2.ex,P2.f,λm=>by
     rcases mem_append.mp m with m |m
     ·exact P2.p m
     ·simp at m;exact ne m.symm,P2.t1,P2.t2⟩
    exact r7 L hx S2 R2 (.obj (by rw[← R'.len];simp)) PC sC N hQ
 |_=>cases hl
variable (Z w)
structure XG (k:Nat)(X:Cx)(t:S):Prop where
 run:∀ {KV:Stmt} {sc:Scope} {σ Kh:Loc} {st Kd:St} {fl:Fw} {A:Around} {F:bf} {φ:List Addr} {s:Shared} {env:Env} {O:List Addr},
 DY sc t KV=true->xS X t σ st=some (fl,Kh,Kd)->Ks (k+1) A->Kj Z F φ st s.heap->Kl F φ σ sc env O s.heap->az Z w A (exec KV env) sc env O F φ s fl Kh Kd
structure MV (k:Nat)(X:Cx)(t:List S):Prop where
 run:∀ {M5:List Stmt} {sc:Scope} {σ Kh:Loc} {st Kd:St} {fl:Fw} {A:Around} {F:bf} {φ:List Addr} {s:Shared} {env:Env} {O:List Addr},
 cX sc t M5=true->cw X t σ st=some (fl,Kh,Kd)->Ks (k+1) A->Kj Z F φ st s.heap->Kl F φ σ sc env O s.heap->az Z w A (execs M5 env) sc env O F φ s fl Kh Kd
variable {Z w}
theorem KW.fin {Q:Flow->Shared->Prop}{F1:bf}{Kg:List Addr}{h1:Heap}{tk:Nat}(hQ:KW Z sc env O F φ s .next σ Kd Q)(L:Kl F φ σ sc env O s.heap)(S:Step F φ [] s.heap F1 Kg h1)(R:Kj Z F1 Kg Kd h1):Q .next ⟨h1,s.gens,s.drawn,tk,s.os⟩:=
 hQ F1 Kg .next h1 tk S.any R (L.step S) .next
theorem oG {γ:Type}{o:Option Loc}{k:Loc->Option γ}{r:γ}{P:Prop}(e:(match o with
 |some x=>k x
 |none=>none)=some r) (f:∀ x,o=some x->k x=some r->P):P:=by
 cases o with
 |none=>exact absurd e bg
 |some z=>exact f _ rfl e
theorem ra {b:Bool}(h:(!b)=true):b=false:=by cases b<;>first |rfl |cases h
theorem rb {line:Nat}{y:Expr}{n:Str}(h:no sc line y=some n):sc.names.lookup n=some .local:=by
 cases y<;>first |exact absurd h bg |exact oI h λq e=>KO e▸dh (bC q).1
theorem i8 {x:Nat}{xs:List Nat}{ts:List Expr}{P:List Expr->Prop}(k:∀ p es,vf sc (nm x)=true->nb sc xs es=true->P (.Name (nm x) p::es))(c:nb sc (x::xs) ts=true):P ts:=
 bD (λe es c=>bn (P:=λe=>P (e::es)) (λp c=>bU c (k p es)) c) c
theorem ub {i:Expr}(c:f8 i=true)(ov iv new:Value):augStore i ov iv new=(do holding [new,ov,iv] (setItem ov iv new);release [new,ov,iv] [];pure .next):=by
 cases i<;>first |rfl |cases c
noncomputable def DZ (φ:List Addr)(h:Heap)(I:Addr)(k n i:Nat):Prop:=∃ a,φ[k]?=some a/\h.IsRevIter I a ((n:Int)-1-i)
theorem vR {i:Nat}{xs:List AV}(hh:A.handled=none):MX Z w A I xs.reverse (λst=>an st (.obj i) xs) (λF φ h j=>DZ φ h I i xs.length j) where
 item:=λ{j x F φ st s Q} T hx hs R hQ=>by
  refine ak T ?_;clear T;intro a e1 y;refine ak (R.list (stands_obj hs) e1) λarr hl d=>?_
  have hj:j<xs.length:=by
   have:=(List.getElem?_eq_some_iff.mp hx).1
   rwa [length_reverse]at this
  rw[List.getElem?_reverse hj]at hx;refine ak (d.get hx) λv' e2 hv=>?_;have e3:(xs.length:Int)-1-j=((xs.length-1-j:Nat):Int):=Go hj;rw[e3]at y;refine wpAny_pyNext_rev_item y (aP hl) (by simpa using e2) λh' y' k=>hQ _ _ _ k hv ⟨a,e1,?_⟩;have e4:((xs.length-1-j:Nat):Int)-1=(xs.length:Int)-1-((j+1:Nat):Int):=(congrArg (·-1) e3.symm).trans (Int.sub_sub ..);rw[← e4];exact y'
 done:=λ{F φ st s Q} T hs R hQ=>by
  refine ak T ?_;clear T;intro a e1 y;rw[length_reverse]at y;have e3:(xs.length:Int)-1-(xs.length:Nat)=-1:=by lia
  rw[e3]at y;exact wpAny_pyNext_rev_end hh y λh' k=>hQ _ _ k
 mono:=λT hF hp k=>by obtain⟨a,e1,o,e2,r⟩:=T;exact⟨a,eR hp e1,o,k _ e2,r⟩
 at_:=λT=>by obtain⟨a,e1,o,e2,r,_⟩:=T;exact⟨o,_,e2,r,by decide +kernel⟩
section
variable {X:Cx}{k:Nat}(hk:1<=k)(hC:cx Z w k X.C)(G:Glob Z)
include hk hC G
theorem Hh {tg:Tg}{e:E}:XG Z w k X (.asg tg e):=.mk <|by
 intro KV sc σ Kh st Kd fl A F φ s env O c ev rm R L;refine iZ (P:=λKV=>az Z w A (exec KV env) sc env O F φ s fl Kh Kd) (λts value pos c=>dw (P:=λts=>az Z w A (exec (.Assign ts value pos) env) sc env O F φ s fl Kh Kd) (λt c=>ow c λct c1 c2 c3=>?_) c) c;refine oE ev λv Ke e1 ev=>A8 (P:=λa b c=>az Z w A _ sc env O F φ s a b c) ev λKi eb=>λQ hQ=>?_
 have plain:(assignEach [t] env).map (·.2)=[assign t env]->swapsWith value (some t) pos.line env=pure false->swappedStores [t] value env=pure none->aA w A (exec (.Assign [t] value pos) env) Q aq s:=λha hs hw=>
  d8 ((dF hk hC G e).run c3 e1 rm R L).good hs hw λF1 Kg v' h1 tk S1 R1 V1=>by
   rw[ha];exact eX (s:=sw s h1 tk) rm.hd ct eb (L.step S1) R1 V1 λh2 Ku S2 R2 L2=>hQ F1 Kg .next h2 Ku (S1.any.trans S2) R2 L2 .next
 cases tg with
 |tup xs=>
  revert plain c1
  exact gB (P:=λt=>(m9 t||!u9 value)=true->((assignEach [t] env).map (·.2)=[assign t env]->swapsWith value (some t) pos.line env=pure false->swappedStores [t] value env=pure none->aA w A (exec (.Assign [t] value pos) env) Q aq s)->aA w A (exec (.Assign [t] value pos) env) Q aq s)
   (λts k p _ c1 plain=>plain rfl ua (q7 (ra c1))) ct
 |nm x=>
  revert plain c2
  refine bn (P:=λt=>((jY value||u9 t)||(m9 t&&(r6 e&&qA value)))=true->((assignEach [t] env).map (·.2)=[assign t env]->swapsWith value (some t) pos.line env=pure false->swappedStores [t] value env=pure none->aA w A (exec (.Assign [t] value pos) env) Q aq s)->aA w A (exec (.Assign [t] value pos) env) Q aq s)
   (λp hx c2 plain=>?_) ct
  cases hn:jY value with
  |true=>exact plain rfl (vP hn) jr
  |false=>
   rw[hn]at c2;revert c3 plain;refine bU c2 λz2 z3=>vd (P:=λvalue=>aW sc e value=true->((assignEach [.Name (nm x) p] env).map (·.2)=[assign (.Name (nm x) p) env]->swapsWith value (some (.Name (nm x) p)) pos.line env=pure false->swappedStores [.Name (nm x) p] value env=pure none->aA w A (exec (.Assign [.Name (nm x) p] value pos) env) Q aq s)->aA w A (exec (.Assign [.Name (nm x) p] value pos) env) Q aq s) (λelt gens scope p2 c3 plain=>?_) z3;have hb:∃ b,swapsWith (.ListComp elt gens scope p2) (some (.Name (nm x) p)) pos.line env=pure b:=⟨_,rfl⟩;refine aw hb ?_;clear hb;intro b hb
   cases b with
   |false=>exact plain rfl hb jr
   |true=>exact vQ hk hC G z2 (dZ hx) hb c3 e1 rm R L (KO eb▸hQ)
theorem D0 {xs:List Nat}{es:List E}:XG Z w k X (.asg2 xs es):=.mk <|by
 intro KV sc σ Kh st Kd fl A F φ s env O c ev rm R L;refine iZ (P:=λKV=>az Z w A (exec KV env) sc env O F φ s fl Kh Kd) (λts value pos c=>dw (P:=λts=>az Z w A (exec (.Assign ts value pos) env) sc env O F φ s fl Kh Kd) (λt c=>gB (P:=λt=>az Z w A (exec (.Assign [t] value pos) env) sc env O F φ s fl Kh Kd) (λts k1 p1 c=>gB (P:=λvalue=>az Z w A (exec (.Assign [.Tuple ts k1 p1] value pos) env) sc env O F φ s fl Kh Kd) (λvs k2 p2 c=>?_) c) c) c) c;refine bU c λc c'=>qB c λc1 c2 c3 c4 c6=>qB c' λc5 c7 c8 c9 PR=>oL ev λus Ke e1 ev=>A8 (P:=λa b c=>az Z w A _ sc env O F φ s a b c) ev λKi eb=>λQ hQ=>?_;have PQ:=q9 (k1:=k1) (k2:=k2) (p1:=p1) (p2:=p2) L (dh c1) (dh c2) c3 (dh c4) c5 c6 (ra c7) (ra c8);rw[exec_Assign_arm];refine wpAny_bind (wpAny_standAt (wpAny_bind (wpAny_pure ?_)));rw[if_neg Ly];refine wpAny_bind (mi (p:=p2) (k:=k2) ((Af hk hC G es).run (pos:=p2) PR c5 e1 rm R L) (of_decide_eq_true c9) (fK PR e1) _ λF1 Kg v' h1 tk S1 R1 V1=>wpAny_bind (wpAny_of_eq PQ ?_));unfold assignStores;refine j7 V1.inv ?_;rintro a arr n rfl e2 d;have Ko:(xs.map nm).length=arr.size:=(length_map ..).trans ((dh c2).symm.trans ((dh c4).symm.trans ((fK PR e1).symm.trans (d.length.trans length_toList))));refine wpAny_bind (wpAny_rule ?_);rw[Ko];refine wpAny_bind (wpAny_unpackItems_tuple (s:=sw s h1 tk) rm.hd ⟨_,R1.frz _ _ e2,rfl,n,rfl⟩ λh2 k2=>?_);have kk:∀ b o,h1.get? b=some o->h2.get? b=some o:=λb o q=>k2 b o (ne_of_lt (lt_size q)) q;have S2:Step F1 Kg [] h1 F1 Kg h2:=Step.ext kk
 have hloc:∀ x∈xs,sc.names.lookup (nm x)=some .local\/sc.names.lookup (nm x)=some .cell:=λx m=>
  (List.mem_filterMap.mp (show nm x∈iB sc ((ts.head?.map (·.pos.line)).getD 0) ts from dh c1▸mem_map.mpr ⟨x,m,rfl⟩)).elim λy h=>.inl (rb h.2)
 have hmap:(xs.map nm).reverse.map (λn=>bindName env n)=xs.reverse.map λx=>bindName env (nm x):=by
  rw[← List.map_reverse,map_map];rfl
 rw[hmap]
 exact wpAny_bind (qY (s:=sw s h2 tk) xs.reverse us.reverse arr.toList.reverse (λx m=>hloc x (mem_reverse.mp m)) eb d.reverse ((L.step S1).step S2) (R1.ext kk) λh3 KU S3 R3 L3=>
  wpAny_pure (hQ F1 Kg .next h3 KU ((S1.trans S2).any.trans S3) R3 L3 .next))
theorem D1 {xs:List Nat}{e:E}:XG Z w k X (.asgs xs e):=.mk <|by
 intro KV sc σ Kh st Kd fl A F φ s env O c ev rm R L;refine iZ (P:=λKV=>az Z w A (exec KV env) sc env O F φ s fl Kh Kd) (λts value pos c=>fX c λc1 c3 c4=>?_) c;revert c3 ev;refine AS (dh c1) λx y z ev c3=>?_;refine i8 (P:=λts=>az Z w A (exec (.Assign ts value pos) env) sc env O F φ s fl Kh Kd) (λp1 r1 d2 c3=>i8 (P:=λr=>az Z w A (exec (.Assign (.Name (nm x) p1::r) value pos) env) sc env O F φ s fl Kh Kd) (λp2 r2 d4 c3=>i8 (P:=λr=>az Z w A (exec (.Assign (.Name (nm x) p1::.Name (nm y) p2::r) value pos) env) sc env O F φ s fl Kh Kd) (λp3 r3 d6 c3=>?_) c3) c3) c3;refine isEmpty_iff.mp c3▸oE ev λv Ke e1 ev=>ti (P:=λa b c=>az Z w A _ sc env O F φ s a b c) ev λQ hQ=>wpAny_Assign_three (((dF hk hC G e).run c4 e1 rm R L).good _ λF1 Kg v' h1 tk S1 R1 V1=>?_);refine wpAny_assign_Name (bQ (s:=sw s h1 tk) (L.step S1) R1 (dZ d2) V1 λh2 Ku S2 R2 L2=>?_);refine wpAny_assign_Name (bQ (s:=sw s h2 Ku) L2 R2 (dZ d4) V1 λh3 KU S3 R3 L3=>?_);refine wpAny_assign_Name (bQ (s:=sw s h3 KU) L3 R3 (dZ d6) V1 λh4 Lx S4 R4 L4=>?_);exact hQ F1 Kg .next h4 Lx (((S1.any.trans S2).trans S3).trans S4) R4 L4 .next
theorem Hi {x:Nat}{op:Operator}{e:E}:XG Z w k X (.aug x op e):=.mk <|by
 intro KV sc σ Kh st Kd fl A F φ s env O c ev rm R L;refine rZ (P:=λKV=>az Z w A (exec KV env) sc env O F φ s fl Kh Kd) (λt value p c=>bn (P:=λt=>az Z w A (exec (.AugAssign t op value p) env) sc env O F φ s fl Kh Kd) (λp1 c=>bU c λhx c3=>?_) c) c;refine oA ev λu eu ev=>oE ev λv Ke e1 ev=>A8 (P:=λa b c=>az Z w A _ sc env O F φ s a b c) ev λr er=>λQ hQ=>?_;refine wpAny_AugAssign_Name (t8 L eu λu' hu=>?_);refine((dF hk hC G e).run c3 e1 rm R L).good _ λF1 Kg v' h1 tk S1 R1 V1=>?_;refine mj (s:=sw s h1 tk) er R1 (hu.mono S1.le S1.pre) V1 _ λF2 KI r' h2 Ku S2 R2 V2=>?_;exact bQ (s:=sw s h2 Ku) ((L.step S1).step S2) R2 (dZ hx) V2 λh3 KU S3 R3 L3=>hQ F2 KI .next h3 KU ((S1.trans S2).any.trans S3) R3 L3 .next
theorem D2 {o i e:E}:XG Z w k X (.setI o i e):=.mk <|by
 intro KV sc σ Kh st Kd fl A F φ s env O c ev rm R L;refine iZ (P:=λKV=>az Z w A (exec KV env) sc env O F φ s fl Kh Kd) (λts value pos c=>dw (P:=λts=>az Z w A (exec (.Assign ts value pos) env) sc env O F φ s fl Kh Kd) (λt c=>fH (P:=λt=>az Z w A (exec (.Assign [t] value pos) env) sc env O F φ s fl Kh Kd) (λoe ie ps c=>fX c λc3 c4 c5=>?_) c) c) c;refine oE ev λv Ke e1 ev=>oE ev λov Kf e2 ev=>oE ev λiv KJ e3 ev=>A8 (P:=λa b c=>az Z w A _ sc env O F φ s a b c) ev λLM e4=>λQ hQ=>?_;refine d8 ((dF hk hC G e).run c3 e1 rm R L).good ml kM λF1 Kg v' h1 tk S1 R1 V1=>?_;show wpAny _ _ (assign (.Subscript oe ie ps) env v') _ _ _;rw[arm_assign_Subscript];have L1:=L.step S1;refine wpAny_bind (wpAny_holding (((dF hk hC G o).run (s:=sw s h1 tk) c4 e2 rm R1 L1).good _ λF2 KI vo h2 Ku S2 R2 V2=>?_));refine wpAny_bind (wpAny_holding (((dF hk hC G i).run (s:=sw s h2 Ku) c5 e3 rm R2 (L1.step S2)).good _ λF3 Ma vi h3 KU S3 R3 V3=>?_));exact wpAny_bind (wpAny_standAt (wpAny_bind (wpAny_holding (kL (s:=sw s h3 KU) e4 R3 (V2.mono S3.le S3.pre) V3 ((V1.mono S2.le S2.pre).mono S3.le S3.pre) λh4 Lx S4 R4=>wpAny_release (hQ.fin L (((S1.trans S2).trans S3).trans S4) R4)))))
theorem D3 {o i e:E}{op:Operator}:XG Z w k X (.augI o i op e):=.mk <|by
 intro KV sc σ Kh st Kd fl A F φ s env O c ev rm R L;refine rZ (P:=λKV=>az Z w A (exec KV env) sc env O F φ s fl Kh Kd) (λt value p c=>fH (P:=λt=>az Z w A (exec (.AugAssign t op value p) env) sc env O F φ s fl Kh Kd) (λoe ie ps c=>ow c λc1 c3 c4 c5=>?_) c) c;refine oE ev λov Ke e1 ev=>oE ev λiv Kf e2 ev=>oA ev λold e3 ev=>oE ev λv KJ e4 ev=>oA ev λr e5 ev=>A8 (P:=λa b c=>az Z w A _ sc env O F φ s a b c) ev λLM e6=>λQ hQ=>?_;refine wpAny_AugAssign_SubscriptAny (((dF hk hC G o).run c4 e1 rm R L).good _ λF1 Kg vo h1 tk S1 R1 V1=>?_) (λov iv new=>ub c1 ov iv new);have L1:=L.step S1;refine((dF hk hC G i).run (s:=sw s h1 tk) c5 e2 rm R1 L1).good _ λF2 KI vi h2 Ku S2 R2 V2=>?_;have V1:=V1.mono S2.le S2.pre;refine lX (s:=sw s h2 Ku) e3 R2 V1 V2 _ λF3 Ma vold h3 KU S3 R3 V3=>?_;refine((dF hk hC G e).run (s:=sw s h3 KU) c3 e4 rm R3 ((L1.step S2).step S3)).good _ λF4 Nt vv h4 Lx S4 R4 V4=>?_;refine mj (s:=sw s h4 Lx) e5 R4 (V3.mono S4.le S4.pre) V4 _ λF5 LD vr h5 LO S5 R5 V5=>?_;have OD:=(S3.trans S4).trans S5;exact kL (s:=sw s h5 LO) e6 R5 (V1.mono OD.le OD.pre) (V2.mono OD.le OD.pre) V5 λh6 QD S6 R6=>hQ.fin L (((S1.trans S2).trans OD).trans S6) R6
theorem Bp {o e:E}:XG Z w k X (.setSl o e):=.mk <|by
 intro KV sc σ Kh st Kd fl A F φ s env O c ev rm R L
 refine iZ (P:=λKV=>az Z w A (exec KV env) sc env O F φ s fl Kh Kd) (λts value pos c=>dw (P:=λts=>az Z w A (exec (.Assign ts value pos) env) sc env O F φ s fl Kh Kd) (λt c=>fH (P:=λt=>az Z w A (exec (.Assign [t] value pos) env) sc env O F φ s fl Kh Kd) (λoe sl ps c=>iT (P:=λsl=>az Z w A (exec (.Assign [.Subscript oe sl ps] value pos) env) sc env O F φ s fl Kh Kd) (λl u t Pe c=>
  dL (P:=λl=>az Z w A (exec (.Assign [.Subscript oe (.Slice l u t Pe) ps] value pos) env) sc env O F φ s fl Kh Kd) (λc=>dL (P:=λu=>az Z w A (exec (.Assign [.Subscript oe (.Slice none u t Pe) ps] value pos) env) sc env O F φ s fl Kh Kd) (λc=>dL (P:=λt=>az Z w A (exec (.Assign [.Subscript oe (.Slice none none t Pe) ps] value pos) env) sc env O F φ s fl Kh Kd) (λc=>bU c λc3 c4=>?_) c) c) c) c) c) c) c
 refine oE ev λv Ke e1 ev=>oE ev λov Kf e2 ev=>A8 (P:=λa b c=>az Z w A _ sc env O F φ s a b c) ev λKJ e4=>λQ hQ=>?_;refine d8 ((dF hk hC G e).run c3 e1 rm R L).good ml kM λF1 Kg v' h1 tk S1 R1 V1=>?_;show wpAny _ _ (assign (.Subscript oe (.Slice none none none Pe) ps) env v') _ _ _;rw[arm_assign_Subscript];refine wpAny_bind (wpAny_holding (((dF hk hC G o).run (s:=sw s h1 tk) c4 e2 rm R1 (L.step S1)).good _ λF2 KI vo h2 Ku S2 R2 V2=>?_));refine wpAny_bind (wpAny_holding (wpAny_Slice ?_));rw[evalPart_none];have S3:Step F2 KI [] h2 F2 KI (h2.push { cls:=.type "slice",data:=.fields #[.none,.none,.none] }):=Step.ext aC;exact wpAny_pure (wpAny_pure (wpAny_pure (wpAny_bind (wpAny_standAt (wpAny_bind (wpAny_holding (pk (s:=⟨h2.push _,s.gens,s.drawn,Ku,s.os⟩) e4 (R2.ext aC) V2 (V1.mono S2.le S2.pre) (Heap.IsSliceOf.new h2 _ _ _) λh4 Lx S4 R4=>wpAny_release (hQ.fin L (((S1.trans S2).trans S3).trans S4) R4))))))))
theorem D4 {o e:E}{i:Nat}:XG Z w k X (.setA o i e):=.mk <|by
 intro KV sc σ Kh st Kd fl A F φ s env O c ev rm R L;refine iZ (P:=λKV=>az Z w A (exec KV env) sc env O F φ s fl Kh Kd) (λts value pos c=>dw (P:=λts=>az Z w A (exec (.Assign ts value pos) env) sc env O F φ s fl Kh Kd) (λt c=>dz (P:=λt=>az Z w A (exec (.Assign [t] value pos) env) sc env O F φ s fl Kh Kd) (λoe pa c=>fX c λc1 c3 c4=>?_) c) c) c;refine oE ev λv Ke e1 ev=>oE ev λov Kf e2 ev=>A8 (P:=λa b c=>az Z w A _ sc env O F φ s a b c) ev λKJ e4=>λQ hQ=>?_;refine d8 ((dF hk hC G e).run c3 e1 rm R L).good q6 po λF1 Kg v' h1 tk S1 R1 V1=>?_;show wpAny _ _ (assign (.Attribute oe (nm i) pa) env v') _ _ _;rw[arm_assign_Attribute];refine wpAny_bind (wpAny_holding (((dF hk hC G o).run (s:=sw s h1 tk) c4 e2 rm R1 (L.step S1)).good _ λF2 KI vo h2 Ku S2 R2 V2=>?_));exact wpAny_bind (wpAny_standAt (wpAny_bind (wpAny_holding (lM (s:=sw s h2 Ku) G (of_decide_eq_true c1) e4 R2 V2 (V1.mono S2.le S2.pre) λh4 Lx S4 R4=>wpAny_release (hQ.fin L ((S1.trans S2).trans S4) R4)))))
theorem D5 {e:E}:XG Z w k X (.expr e):=.mk <|by
 intro KV sc σ Kh st Kd fl A F φ s env O c ev rm R L;refine vN (P:=λKV=>az Z w A (exec KV env) sc env O F φ s fl Kh Kd) (λx p c=>bU c λc1 c2=>oE ev λv Ke e1 ev=>oI ev λhp ev=>ti (P:=λa b c=>az Z w A _ sc env O F φ s a b c) ev λQ hQ=>?_) c;revert c2;refine ve (P:=λx=>aW sc e x=true->aA w A (exec (.Expr x p) env) Q aq s) (λg as ks p c2=>?_) c1;refine wpAny_Expr (((dF hk hC G e).run c2 e1 rm R L).good _ λF1 Kg v' h1 tk S1 R1 V1=>?_) (by unfold interactive;rw[L.kind];rfl) rfl;have fin:Q .next ⟨h1,s.gens,s.drawn,tk,s.os⟩:=hQ.fin L S1 R1;cases V1<;>first |exact fin |cases hp
theorem Hj {t:C}{a b:List S}(ha:MV Z w k X a)(hb:MV Z w k X b):XG Z w k X (.iff t a b):=.mk <|by
 intro KV sc σ Kh st Kd fl A F φ s env O c ev rm R L;refine r5 (P:=λKV=>az Z w A (exec KV env) sc env O F φ s fl Kh Kd) (λtest body orelse p c=>fX c λc1 c2 c3=>λQ hQ=>wpAny_If ?_) c
 exact oC ev (λKe e1 ev=>(tX hk hC G t).run c1 e1 rm R L _ λF1 Kg h1 tk S1 R1=>ha.run (s:=sw s h1 tk) c2 ev rm R1 (L.step S1) Q (hQ.step S1.any))
  λKe e1 ev=>(tX hk hC G t).run c1 e1 rm R L _ λF1 Kg h1 tk S1 R1=>hb.run (s:=sw s h1 tk) c3 ev rm R1 (L.step S1) Q (hQ.step S1.any)
theorem Hk {t:C}{a:List S}(ha:MV Z w k X a):XG Z w k X (.whl t a):=.mk <|by
 intro KV sc σ Kh st Kd fl A F φ s env O c ev rm R L;exact Bo (P:=λKV=>az Z w A (exec KV env) sc env O F φ s fl Kh Kd) (λtest body p c=>bU c λc1 c2=>λQ hQ=>wpAny_While (yH (F0:=F) (φ0:=φ) (hb:=s.heap) (λe R1 L1=>(tX hk hC G t).run c1 e rm R1 L1) (λe R1 L1=>ha.run c2 e rm R1 L1) R L ev (Step.refl ..) λF' Kn Lc h' tk S R L f=>hQ F' Kn Lc h' tk S R L f)) c
theorem Hl {tg:Tg}{src:E}{body orelse:List S}(ha:MV Z w k X body)(hb:MV Z w k X orelse):XG Z w k X (.for tg src body orelse):=.mk <|by
 intro KV sc σ Kh st Kd fl A F φ s env O c ev rm R L;refine nk (P:=λKV=>az Z w A (exec KV env) sc env O F φ s fl Kh Kd) (λt it bd oe p c=>qB c λct ns c1 c2 c3=>oE ev λv Ke e1 ev=>oV ev λxs q1 ev=>λQ hQ=>?_) c
 have hs:∀ x,foldedSetIterable it env x=Pure.pure x:=by
  intro x;unfold foldedSetIterable;cases it<;>first |rfl |exact absurd ns Ly
 refine wpAny_For (((dF hk hC G src).run c1 e1 rm R L).good _ λF1 Kg v' h1 K5 S1 R1 V1=>?_) hs;have L1:=L.step S1;refine hV (s:=sw s h1 K5) q1 R1 V1 λh2 I Ku k2 nI T2=>?_;have S2:Step F1 Kg [] h1 F1 Kg h2:=Step.ext k2;refine dc T2.at_ λoI _ gI _=>?_;have sI:s.heap.get? I=none:=S1.back nI
 have KH:∀ {x1:AV} {Ki:Loc} {Ke:St} {fl:Fw} {KL:Loc} {Kf:St} {F1:bf} {Kg:List Addr} {s1:Shared} {Q:Flow->Shared->Prop} {v':Value},(match aQ Ki tg x1 with |some Kh=>cw X body Kh Ke |none=>none)=some (fl,KL,Kf)->Kj Z F1 Kg Ke s1.heap ->
   Kl F1 Kg Ki sc env O s1.heap->VR F1 Kg x1 v'->KW Z sc env O F1 Kg s1 fl KL Kf Q->aA w A (assign t env v') (λ_ Kx=>aA w A (execs bd env) Q aq Kx) aq s1:=
  λef R1 L1 hv hQ=>oG ef λPB eb ef=>eX rm.hd ct eb L1 R1 hv λh2 Ku S2 R2 L2=>ha.run (s:=⟨h2,_,_,Ku,_⟩) c2 ef rm R2 L2 _ (hQ.step S2)
 have go {fl:Fw} {KL:Loc} {Kf:St} (q2:bc (λst=>an st v xs) (λx σ st=>match aQ σ tg x with |some Kh=>cw X body Kh st |none=>none) xs σ Ke=some (fl,KL,Kf)) {Rr:Result->Shared->Prop} hR:=
  rX (R:=Rr) (orelse:=oe) (s:=sw s h2 Ku) (qW rm.hd q1) KH (R1.ext k2) (L1.step S2) T2 (KD.new R1 nI k2 ⟨_,gI⟩) (λm=>by refine aw (L.ex I m) λo z=>?_;exact bg (sI.symm.trans z)) q2 (S1.trans S2).any sI hR
 exact oF ev (λKL Kf q2 ev=>go q2 λF' Kn Lc h' tk S R L f=>hb.run (s:=sw s h' tk) c3 ev rm R L _ (hQ.step S))
  (λKL Kf q2 ev=>go q2 λF' Kn Lc h' tk S R L f=>ti (P:=λa b c=>KW Z sc env O F φ s a b c Q->Q .next ⟨h',s.gens,s.drawn,tk,s.os⟩) ev (λhQ=>hQ F' Kn .next h' tk S R L .next) hQ)
  (λu KL Kf q2 ev=>go q2 λF' Kn Lc h' tk S R L f=>ti (P:=λa b c=>KW Z sc env O F φ s a b c Q->Q Lc ⟨h',s.gens,s.drawn,tk,s.os⟩) ev (λhQ=>hQ F' Kn Lc h' tk S R L f) hQ)
theorem D6 {x:Nat}{src:E}{body:List S}(ha:MV Z w k X body):XG Z w k X (.forR x src body):=.mk <|by
 intro KV sc σ Kh st Kd fl A F φ s env O c ev rm R L
 refine nk (P:=λKV=>az Z w A (exec KV env) sc env O F φ s fl Kh Kd) (λt it bd oe p c=>ku (P:=λoe=>az Z w A (exec (.For t it bd oe p) env) sc env O F φ s fl Kh Kd) (λc=>bY (P:=λit=>az Z w A (exec (.For t it bd [] p) env) sc env O F φ s fl Kh Kd) (λfn as p2 c=>bn (P:=λfn=>az Z w A (exec (.For t (.Call fn as [] p2) bd [] p) env) sc env O F φ s fl Kh Kd) (λp1 c=>
  dw (P:=λas=>az Z w A (exec (.For t (.Call (.Name (nm 145) p1) as [] p2) bd [] p) env) sc env O F φ s fl Kh Kd) (λy c=>qB c λcg ns ct c1 c2=>?_) c) c) c) c) c
 refine oE ev λv0 Ke e1 ev=>j8 (P:=λv0=>aa X src σ st=some (v0,Ke)->_) (λi ev e1=>oV ev λxs q1 ev=>λQ hQ=>?_) ev e1;refine wpAny_For (PySem.wpAny_Call_NameR (iu R L cg (by decide) G.rev ?_)) (λ_=>rfl);rw[bk ns];refine PyProof.Rows.callWith_type rfl (Calls.evalArgs_plain (Calls.spliced_cons (((dF hk hC G src).run c1 e1 rm R L).good _ λF1 Kg v' h1 K5 S1 R1 V1=>Calls.spliced_nil ?_)));have L1:=L.step S1;refine ak V1.inv ?_;rintro b rfl hi;refine ak (R1.list q1 hi) λarr hl d=>?_;refine call_reversed_list (s:=sw s h1 K5) (aP hl) ?_;have nI:=cD h1;generalize hI:h1.objs.size=I at nI;generalize hO:revObj b ((arr.size:Int)-1)=o;have gI:(h1.push o).get? I=some o:=hI▸get?_push_size _ (hO▸rfl);have S2:Step F1 Kg [] h1 F1 Kg (h1.push o):=Step.ext aC;have sI:s.heap.get? I=none:=S1.back nI
 have T2:DZ Kg (h1.push o) I i xs.length 0:=⟨b,hi,_,gI,hO▸rfl,by
  rw[← hO];show Data.fields #[.ref b,rawInt ((arr.size:Int)-1)]=Data.fields #[.ref b,rawInt ((xs.length:Int)-1-(0:Nat))]
  rw[d.size];simp⟩
 refine wpAny_pyIter_revIter (i:=(arr.size:Int)-1) (by subst hO;exact⟨_,gI,rfl,rfl⟩) ?_
 have KH:∀ {x1:AV} {Ki:Loc} {Ke:St} {fl:Fw} {KL:Loc} {Kf:St} {F1:bf} {Kg:List Addr} {s1:Shared} {Q:Flow->Shared->Prop} {v':Value},cw X body (ai Ki x x1) Ke=some (fl,KL,Kf)->Kj Z F1 Kg Ke s1.heap ->
   Kl F1 Kg Ki sc env O s1.heap->VR F1 Kg x1 v'->KW Z sc env O F1 Kg s1 fl KL Kf Q->aA w A (assign t env v') (λ_ Kx=>aA w A (execs bd env) Q aq Kx) aq s1:=
  λef R1 L1 hv hQ=>eX (tg:=.nm x) rm.hd ct rfl L1 R1 hv λh2 Ku S2 R2 L2=>ha.run (s:=⟨h2,_,_,Ku,_⟩) c2 ef rm R2 L2 _ (hQ.step S2)
 have go {fl:Fw} {KL:Loc} {Kf:St} (q2:bc (λst=>an st (.obj i) xs) (λv σ st=>cw X body (ai σ x v) st) xs.reverse σ Ke=some (fl,KL,Kf)) {Rr:Result->Shared->Prop} hR:=
  rX (f:=λv σ st=>cw X body (ai σ x v) st) (R:=Rr) (orelse:=[]) (s:=sw s _ K5) (vR rm.hd) KH (R1.ext aC) (L1.step S2) T2 (KD.new R1 nI aC ⟨_,gI⟩) (λm=>by refine aw (L.ex I m) λo z=>?_;exact bg (sI.symm.trans z)) q2 (S1.trans S2).any sI hR
 exact oF ev (λKL Kf q2 ev=>go q2 λF' Kn Lc h' tk S R L f=>wpAny_execs_nil (ti (P:=λa b c=>KW Z sc env O F φ s a b c Q->Q .next ⟨h',s.gens,s.drawn,tk,s.os⟩) ev (λhQ=>hQ F' Kn .next h' tk S R L .next) hQ))
  (λKL Kf q2 ev=>go q2 λF' Kn Lc h' tk S R L f=>ti (P:=λa b c=>KW Z sc env O F φ s a b c Q->Q .next ⟨h',s.gens,s.drawn,tk,s.os⟩) ev (λhQ=>hQ F' Kn .next h' tk S R L .next) hQ)
  (λu KL Kf q2 ev=>go q2 λF' Kn Lc h' tk S R L f=>ti (P:=λa b c=>KW Z sc env O F φ s a b c Q->Q Lc ⟨h',s.gens,s.drawn,tk,s.os⟩) ev (λhQ=>hQ F' Kn Lc h' tk S R L f) hQ)
theorem Hm {e:E}:XG Z w k X (.ret e):=.mk <|by
 intro KV sc σ Kh st Kd fl A F φ s env O c ev rm R L;refine jU (P:=λKV=>az Z w A (exec KV env) sc env O F φ s fl Kh Kd) (λo p c=>f9 (P:=λo=>az Z w A (exec (.Return o p) env) sc env O F φ s fl Kh Kd) (λx c=>?_) c) c;exact oE ev λv Ke e1 ev=>ti (P:=λa b c=>az Z w A _ sc env O F φ s a b c) ev λQ hQ=>wpAny_Return_some (((dF hk hC G e).run c e1 rm R L).good _ λF1 Kg v' h1 tk S1 R1 V1=>hQ F1 Kg _ h1 tk S1.any R1 (L.step S1) (.ret V1))
theorem D7:XG Z w k X .retN:=.mk <|by
 intro KV sc σ Kh st Kd fl A F φ s env O c ev rm R L;exact jU (P:=λKV=>az Z w A (exec KV env) sc env O F φ s fl Kh Kd) (λo p c=>dL (P:=λo=>az Z w A (exec (.Return o p) env) sc env O F φ s fl Kh Kd) (λ_=>ti (P:=λa b c=>az Z w A _ sc env O F φ s a b c) ev λQ hQ=>wpAny_Return_none (hQ F φ _ s.heap s.toks (Step.refl ..) R L (.ret .none))) c) c
theorem Hn:XG Z w k X .brk:=.mk <|by
 intro KV sc σ Kh st Kd fl A F φ s env O c ev rm R L;exact yJ (P:=λKV=>az Z w A (exec KV env) sc env O F φ s fl Kh Kd) (λp=>ti (P:=λa b c=>az Z w A _ sc env O F φ s a b c) ev λQ hQ=>wpAny_Break (hQ F φ _ s.heap s.toks (Step.refl ..) R L .brk)) c
theorem Hq {o i:E}:XG Z w k X (.del o i):=.mk <|by
 intro KV sc σ Kh st Kd fl A F φ s env O c ev rm R L;refine yI (P:=λKV=>az Z w A (exec KV env) sc env O F φ s fl Kh Kd) (λts p c=>dw (P:=λts=>az Z w A (exec (.Delete ts p) env) sc env O F φ s fl Kh Kd) (λt c=>fH (P:=λt=>az Z w A (exec (.Delete [t] p) env) sc env O F φ s fl Kh Kd) (λoe ie ps c=>bU c λc1 c2=>?_) c) c) c;refine oE ev λov Ke e1 ev=>oE ev λiv Kf e2 ev=>oI ev λhr ev=>oE ev λr KJ e3 ev=>ti (P:=λa b c=>az Z w A _ sc env O F φ s a b c) ev λQ hQ=>wpAny_Delete (wpAny_deleteEach_cons (wpAny_delete_Subscript ?_));refine((dF hk hC G o).run c1 e1 rm R L).good _ λF1 Kg vo h1 tk S1 R1 V1=>?_;refine((dF hk hC G i).run (s:=sw s h1 tk) c2 e2 rm R1 (L.step S1)).good _ λF2 KI vi h2 Ku S2 R2 V2=>?_;exact qZ (s:=sw s h2 Ku) hC G rm.pre hr e3 R2 (V1.mono S2.le S2.pre) V2 λF3 Ma h3 KU S3 R3=>wpAny_deleteEach_nil (hQ.fin L ((S1.trans S2).trans S3) R3)
theorem Hr:XG Z w k X .bad:=.mk <|by
 intro KV sc σ Kh st Kd fl A F φ s env O c ev rm R L;exact absurd ev bg
theorem D8:MV Z w k X []:=.mk <|by
 intro M5 sc σ Kh st Kd fl A F φ s env O c ev rm R L;exact isEmpty_iff.mp c▸ti (P:=λa b c=>az Z w A _ sc env O F φ s a b c) ev λQ hQ=>wpAny_execs_nil (hQ F φ .next s.heap s.toks (Step.refl ..) R L .next)
theorem Ai {t:S}{r:List S}(ht:XG Z w k X t)(hr:MV Z w k X r):MV Z w k X (t::r):=.mk <|by
 intro M5 sc σ Kh st Kd fl A F φ s env O c ev rm R L;refine bD (P:=λM5=>az Z w A (execs M5 env) sc env O F φ s fl Kh Kd) (λx xs c=>bU c λc1 c2=>λQ hQ=>wpAny_execs_cons ?_) c;refine oF ev (λKi Ke e1 ev=>ht.run c1 e1 rm R L _ λF1 Kg Lc h1 tk S1 R1 L1 f1=>?_) (λKi Ke e1 ev=>ht.run c1 e1 rm R L _ λF1 Kg Lc h1 tk S1 R1 L1 f1=>?_) (λu Ki Ke e1 ev=>ht.run c1 e1 rm R L _ λF1 Kg Lc h1 tk S1 R1 L1 f1=>?_)
 ·cases f1;exact hr.run (s:=sw s h1 tk) c2 ev rm R1 L1 Q (hQ.step S1)
 ·cases ev;cases f1;exact hQ F1 Kg .brk h1 tk S1 R1 L1 .brk
 ·cases ev
  cases f1 with
  |ret hv=>exact hQ F1 Kg _ h1 tk S1 R1 L1 (.ret hv)
theorem uc (t:S):XG Z w k X t:=t.rec (motive_1:=XG Z w k X) (motive_2:=MV Z w k X)
 (λ_ _=>Hh hk hC G)
 (λ_ _=>D0 hk hC G)
 (λ_ _=>D1 hk hC G)
 (λ_ _ _=>Hi hk hC G)
 (λ_ _ _=>D2 hk hC G)
 (λ_ _ _ _=>D3 hk hC G)
 (λ_ _=>Bp hk hC G)
 (λ_ _ _=>D4 hk hC G)
 (λ_=>D5 hk hC G)
 (λ_ _ _ a b=>Hj hk hC G a b)
 (λ_ _ a=>Hk hk hC G a)
 (λ_ _ _ _ a b=>Hl hk hC G a b)
 (λ_ _ _ a=>D6 hk hC G a)
 (λ_=>Hm hk hC G)
 (D7 hk hC G)
 (Hn hk hC G)
 (λ_ _=>Hq hk hC G)
 (Hr hk hC G)
 (D8 hk hC G)
 (λ_ _ a b=>Ai hk hC G a b)
theorem vS:∀ t:List S,MV Z w k X t:=by
 intro t
 induction t with
 |nil=>
  exact D8 hk hC G
 |cons t r ih=>
  exact Ai hk hC G (uc hk hC G t) (ih)
end
end
section
variable {p:Pos}{a:Addr}
theorem pq (f:Str×Value->PUnit->Sem (ForInStep PUnit))(hf:∀ n v u,f (n,v) u=(do storeName env n v;pure (.yield ⟨⟩)))(ps:List Nat)(vs:List AV)(Kr:List Value){σ Kh:Loc}{s:Shared}{Q:PUnit->Shared->Prop}
  (c:∀ x∈ps,sc.names.lookup (nm x)=some .local\/sc.names.lookup (nm x)=some .cell) (e:bA σ ps vs=some Kh):Km F φ vs Kr->Kl F φ σ sc env O s.heap->Kj Z F φ st s.heap ->
  (∀ h1 tk,Step F φ O s.heap F φ h1->Kj Z F φ st h1->Kl F φ Kh sc env O h1->Q ⟨⟩ ⟨h1,s.gens,s.drawn,tk,s.os⟩) ->
  aA w A (forIn ((ps.map nm).zip Kr) ⟨⟩ f) Q aq s:=by
 refine eC (P:=λσ ps vs=>∀ Kr s,(∀ x∈ps,sc.names.lookup (nm x)=some .local\/sc.names.lookup (nm x)=some .cell)->Km F φ vs Kr->Kl F φ σ sc env O s.heap->Kj Z F φ st s.heap ->
  (∀ h1 tk,Step F φ O s.heap F φ h1->Kj Z F φ st h1->Kl F φ Kh sc env O h1->Q ⟨⟩ ⟨h1,s.gens,s.drawn,tk,s.os⟩) ->
  aA w A (forIn ((ps.map nm).zip Kr) ⟨⟩ f) Q aq s) (λKr s c hv L R hQ=>wpAny_pure (hQ s.heap s.toks (Step.refl ..) R L)) ?_ ps vs σ e Kr s c
 intro σ x xs v vs ih Kr s c hv L R hQ;refine Km.consR (Q:=λKr=>aA w A (forIn (((x::xs).map nm).zip Kr) ⟨⟩ f) Q aq s) (λv' Kr hv Oq=>?_) hv;rw[map_cons,List.zip_cons_cons,forIn_cons,hf];refine wpAny_bind (wpAny_bind (bQ L R (c x (.head _)) hv λh1 tk S1 R1 L1=>wpAny_pure ?_));exact ih Kr ⟨h1,s.gens,s.drawn,tk,s.os⟩ (λy m=>c y (.tail _ m)) Oq L1 R1 λh2 Ku S2 R2 L2=>hQ h2 Ku (S1.trans S2) R2 L2
structure Lb (F:bf)(φ:List Addr)(K4:Loc)(scope:Scope)(cl:List (Str×Addr))(h:Heap):Prop where
 ex:∀ x c,(x,c)∈cl->(∃ v,h.IsCell c v)/\F c=none/\c∉φ/\c≠cQ/\c≠dq
 apart:∀ x y c,(x,c)∈cl->(y,c)∈cl->x=y
 free:∀ x,scope.names.lookup x=some .free->∃ c,cl.lookup x=some c
 only:∀ x c,(x,c)∈cl->scope.names.lookup x=some .free
 val:∀ x v,af K4 x=some v->∃ v' c,VR F φ v v'/\cl.lookup (nm x)=some c/\h.IsCell c (some v')
theorem iC {cl:List (Str×Addr)}{ps:List Nat}{vs:List AV}{Kr:List Value}{qual:Str}{func:Option Addr}{code:Value}{Q:Env->Shared->Prop}(R:Kj Z F φ st s.heap)(hk:scope.kind=.function)(nd:(scope.names.map (·.1)).Nodup)
  (C:Lb F φ K4 scope cl s.heap) (OE:∀ x∈ps,scope.names.lookup (nm x)=some .local\/scope.names.lookup (nm x)=some .cell) (hs:bA K4 ps vs=some σ) (V:Km F φ vs Kr)
  (hQ:∀ h1 Kk O' tk,Step F φ [] s.heap F φ h1->Kj Z F φ st h1->(∀ a∈O',s.heap.get? a=none)->Kl F φ σ scope Kk O' h1->Kk.scope=scope->Kk.code=code->Kk.qual=qual->(∀ x c,scope.names.lookup x=some .free->cl.lookup x=some c->Kk.cells.lookup x=some c)->Q Kk ⟨h1,s.gens,s.drawn,tk,s.os⟩) :
  aA w A (newFunctionEnv scope mainGlobals cl ((ps.map nm).zip Kr) qual func code none builtinsNs) Q aq s:=by
 unfold newFunctionEnv;refine wpAny_bind (wpAny_alloc ?_);refine wpAny_bind (wpAny_layCells _ (λname kind cells=>by cases PE:kind==NameKind.cell<;>simp[PE]) _ _ _ _ ?_);generalize hB:s.heap.push { cls:=Value.type (if (none:Option Env).isSome=true then "dict" else "frame"),data:=Data.dict #[] }=B;have sB:B.objs.size=s.heap.objs.size+1:=by rw[← hB,size_push]
 have kB:∀ b o,s.heap.get? b=some o->B.get? b=some o:=λb o e=>hB▸aC b o e;have kC:∀ b o,B.get? b=some o->(pushCells B scope.names).get? b=some o:=pushCells_keeps _ _;have kk:∀ b o,s.heap.get? b=some o->(pushCells B scope.names).get? b=some o:=λb o e=>kC b o (kB b o e);have ex:∀ {x:Str} {c:Addr},(x,c)∈cl->∃ o,s.heap.get? c=some o:=λm=>let ⟨⟨v,o,e,_⟩,_⟩:=C.ex _ _ m;⟨o,e⟩
 refine av (vm scope.names B cl (λx c m=>by
  refine aw (ex m) λo e=>?_
  rw[sB];exact lt_succ_of_lt (lt_size e)) C.apart) λa1 a2=>?_
 have PF:B.Ns s.heap.objs.size (λ_=>none):=by rw[← hB];exact Heap.Ns.new s.heap _
 have absent:∀ c,s.heap.objs.size<=c->s.heap.get? c=none:=λc hc=>by
  cases q:s.heap.get? c with
  |none=>rfl
  |some o=>exact absurd (lt_size q) (not_lt.mpr hc)
 have L7:∀ x,scope.names.lookup x=some .free->(x,NameKind.cell)∉scope.names:=λx e m=>by rw[dM nd m]at e;cases e
 have split:∀ x c,(x,c)∈cellsFrom B.objs.size scope.names cl->(x,c)∈cl\/(s.heap.objs.size<c/\(pushCells B scope.names).IsCell c none):=λx c m=>by
  rcases a1 x c m with m |⟨m1,_,m3⟩
  ·exact .inl m
  ·exact .inr ⟨by rw[sB]at m1;exact m1,m3⟩
 have MK:∀ x c,scope.names.lookup x=some .free->cl.lookup x=some c->(cellsFrom B.objs.size scope.names cl).lookup x=some c:=λx c e e2=>by rw[rU _ _ _ _ (L7 x e)];exact e2
 have L0:Kl F φ K4 scope { scope:=scope,locals:=s.heap.objs.size,globals:=mainGlobals,cells:=cellsFrom B.objs.size scope.names cl,qual:=qual,func:=func,code:=code,frame:=some s.heap.objs.size,builtins:=builtinsNs }
   (s.heap.objs.size::((cellsFrom B.objs.size scope.names cl).map (·.2)).filter λc=>decide (s.heap.objs.size<=c)) (pushCells B scope.names):=by
  refine⟨hk,rfl,rfl,λx e=>e,λx e=>e,λx e=>⟨e,?_⟩,λx e=>⟨.inr e,?_⟩,⟨_,PF.keeps kC⟩,λx v e=>?_,λx y c e1 e2=>?_,λm=>?_,λa m=>?_,λc m=>?_,.head _,λa m=>?_⟩
  ·refine aw (rV scope.names B.objs.size cl x (.inl (cR e))) λc hc=>?_;refine⟨c,hc,.tail _ (mem_filter.mpr ⟨mem_map.mpr ⟨(x,c),Kv.kept.lookup_mem hc,rfl⟩,?_⟩)⟩;rcases a1 x c (Kv.kept.lookup_mem hc) with m |⟨m,_⟩
   ·have:=C.only x c m;rw[e]at this;cases this
   ·rw[sB]at m;exact decide_eq_true (le_of_succ_le m)
  ·refine aw (C.free x e) λc hc=>?_;exact⟨c,MK x c e hc⟩
  ·refine cP (C.val x v e) λv' c hv h1 h2=>?_;have ef:=C.only _ _ (Kv.kept.lookup_mem h1);exact⟨v',hv,.inr ⟨.inr ef,c,MK _ c ef h1,h2.keeps kk⟩⟩
  ·exact a2 x y c (Kv.kept.lookup_mem e1) (Kv.kept.lookup_mem e2)
  ·refine ak (mem_map.mp m) ?_;rintro⟨x,c⟩ m1 m2;simp only at m2;subst m2;rcases split x _ m1 with q |⟨q,_⟩
   ·refine aw (ex q) λo e=>?_;exact absurd (lt_size e) (lt_irrefl _)
   ·exact absurd q (lt_irrefl _)
  ·cases m with
   |head=>exact R.absent (absent _ (le_refl _))
   |tail _ m=>
    refine ak (mem_map.mp m) ?_;rintro⟨x,c⟩ m1 m2;simp only at m2;subst m2;rcases split x _ m1 with q |⟨q,_⟩
    ·exact(C.ex _ _ q).2
    ·exact R.absent (absent _ (le_of_lt q))
  ·refine ak (mem_map.mp m) ?_;rintro⟨x,c'⟩ m1 m2;simp only at m2;subst m2;rcases split x _ m1 with q |⟨_,q⟩
   ·refine av (C.ex _ _ q) ?_;rintro⟨v,hv⟩ _;exact⟨v,hv.keeps kk⟩
   ·exact⟨_,q⟩
  ·cases m with
   |head=>exact .head _
   |tail _ m=>exact .tail _ (mem_filter.mp m).1
 refine wpAny_bind (pq (s:=⟨pushCells B scope.names,s.gens,s.drawn,s.toks,s.os⟩) _ (λ_ _ _=>rfl) ps vs Kr OE hs V L0 (R.ext kk) λh1 tk S1 R1 L1=>?_)
 have hO:∀ a∈(s.heap.objs.size::((cellsFrom B.objs.size scope.names cl).map (·.2)).filter λc=>decide (s.heap.objs.size<=c)),s.heap.get? a=none:=λa m=>by
  cases m with
  |head=>exact absent _ (le_refl _)
  |tail _ m=>exact absent a (of_decide_eq_true (mem_filter.mp m).2)
 exact wpAny_pure (hQ h1 _ _ tk ((Step.ext (own:=[]) kk).hide S1 hO) R1 hO L1 rfl rfl rfl MK)
noncomputable def recOk (K:Frag)(cd:Value)(q:Str):Bool:=match cd with
 |.ref c=>(K.lookup c).any λo=>match o.data with
  |.fields vs=>(vs[1]?).any λv=>match v with
   |.str y _=>y==q
   |_=>false
  |_=>false
 |_=>false
noncomputable def fg (K:Frag)(a:Addr)(ps:List Nat)(b:List S):Bool:=(K.lookup a).any λo=>match o.data with
 |.func fd=>(match fd.body with |.stmts l=>cX fd.scope b l |_=>false)&&(fd.scope.kind==.function&&(!fd.scope.isCoroutine&&(!fd.scope.isGenerator&&(decide ((fd.scope.names.map (·.1)).Nodup)&&(fd.scope.names.all (λy=>y.2 != .free)&&(fd.globals==mainGlobals&&(fd.builtins==builtinsNs &&
   (fd.closure.isEmpty&&(recOk K fd.code fd.qualname&&ps.all λx=>fd.scope.names.lookup (nm x)==some .local||fd.scope.names.lookup (nm x)==some .cell)))))))))
 |_=>false
structure FnAt (K:Frag)(a:Addr)(ps:List Nat)(b:List S)(o:Obj)(fd:FuncData)(l:List Stmt):Prop where
 at_:K.lookup a=some o
 data:o.data=.func fd
 body:fd.body=.stmts l
 chk:cX fd.scope b l=true
 kind:fd.scope.kind=.function
 co:fd.scope.isCoroutine=false
 gen:fd.scope.isGenerator=false
 nd:(fd.scope.names.map (·.1)).Nodup
 nofree:∀ x,fd.scope.names.lookup x≠some .free
 glob:fd.globals=mainGlobals
 blt:fd.builtins=builtinsNs
 clo:fd.closure=[]
 code:recOk K fd.code fd.qualname=true
 ps:∀ x∈ps,fd.scope.names.lookup (nm x)=some .local\/fd.scope.names.lookup (nm x)=some .cell
theorem iD {K:Frag}{a:Addr}{ps:List Nat}{b:List S}(h:fg K a ps b=true):∃ o fd l,FnAt K a ps b o fd l:=by
 refine ak (ou h) λo h0 h=>?_;split at h
 ·rename_i fd hd;refine av (bC h) λh1 h=>?_;refine av (bC h) λh2 h=>?_;refine av (bC h) λh3 h=>?_;refine av (bC h) λh4 h=>?_;refine av (bC h) λh5 h=>?_;refine av (bC h) λh6 h=>?_;refine av (bC h) λh7 h=>?_;refine av (bC h) λh8 h=>?_;refine av (bC h) λh9 h=>?_;refine av (bC h) λN9 PT=>?_;split at h1
  ·rename_i l hl;refine⟨o,fd,l,h0,hd,hl,h1,dh h2,by simpa using h3,by simpa using h4,of_decide_eq_true h5,λx hx=>?_,dh h7,dh h8,isEmpty_iff.mp h9,N9,λx m=>?_⟩
   ·have:=all_eq_true.mp h6 _ (Kv.kept.lookup_mem hx);simp at this
   ·have:=all_eq_true.mp PT x m
    cases q:fd.scope.names.lookup (nm x)==some .local with
    |true=>exact .inl (dh q)
    |false=>rw[q]at this;exact .inr (dh this)
  ·cases h1
 ·cases h
set_option tactic.hygienic true in
theorem codeRec_of {K:Frag}{cd:Value}{q:Str}(X:K.In h)(r:recOk K cd q=true):h.CodeRec cd q:=by
 unfold recOk at r;split at r
 ·rename_i c;refine ak (ou r) λo h0 r=>?_;split at r
  ·rename_i vs hd;refine ak (ou r) λv hv r=>?_;split at r
   ·rename_i y t;exact⟨c,o,vs,t,rfl,X _ _ h0,hd,by rw[hv,dh r]⟩
   ·cases r
  ·cases r
 ·cases r
noncomputable def vT:Fw->AV
 |.ret v=>v
 |_=>.none
theorem ud {X:Cx}{k:Nat}(hk:1<=k)(hC:cx Z w k X.C)(G:Glob Z){b:List S}{l:List Stmt}{fl:Fw}{Kk:Env}{O':List Addr}{R:Result->Shared->Prop}{s0:Shared}
  (c:cX sc b l=true) (e:cw X b σ st=some (fl,Kh,Kd)) (hb:fl≠.brk) (rm:Ks (k+2) A) (Rl:Kj Z F φ st s.heap) (L:Kl F φ σ sc Kk O' s.heap)
  (hR:∀ F' Kn v' h' tk,Step F φ O' s.heap F' Kn h'->Kj Z F' Kn Kd h'->VR F' Kn (vT fl) v'->R (.ok (.ret v')) ⟨h',s.gens,s.drawn,tk,s.os⟩) :
  codeAny (model aM w) A (.func l Kk) R s:=by
 refine codeAny_func (oS ((vS hk hC G b).run c e (rm.deeper Kk) Rl L _ λF1 Kg Lc h1 tk S R1 L1 f=>?_))
 cases f with
 |next=>exact hR F1 Kg _ h1 tk S R1 .none
 |brk=>exact(hb rfl).elim
 |ret hv=>exact hR F1 Kg _ h1 tk S R1 hv
theorem pv {X:Cx}{k:Nat}(hk:1<=k)(hC:cx Z w k X.C)(G:Glob Z){a:Addr}{ps:List Nat}{b:List S}{o:Obj}{fd:FuncData}{l:List Stmt}{vs:List AV}{Kr:List Value}{args:Args}{fl:Fw}{R:Result->Shared->Prop}
  (fa:FnAt Z.K a ps b o fd l) (hb:BindsTo s fd args ((ps.map nm).zip Kr)) (hs:bA [] ps vs=some σ) (e:cw X b σ st=some (fl,Kh,Kd)) (hbrk:fl≠.brk) (rm:Ks (k+2) A) (Rl:Kj Z F φ st s.heap) (V:Km F φ vs Kr)
  (hR:∀ F' Kn v' h' tk,Step F φ [] s.heap F' Kn h'->Kj Z F' Kn Kd h'->VR F' Kn (vT fl) v'->R (.ok (.ret v')) ⟨h',s.gens,s.drawn,tk,s.os⟩) :
  codeAny (model aM w) A (.call (.ref a) args) R s:=by
 have X':=Rl.base.inK Rl.frz;refine codeAny_call_function rm.depth (X' _ _ fa.at_) fa.data fa.co fa.gen fa.body (codeRec_of X' fa.code) (hb _ _ _ _ ?_);rw[fa.glob,fa.blt,fa.clo];have C:Lb F φ [] fd.scope [] s.heap:=⟨λx c m=>(by cases m),λx y c m=>(by cases m),λx e=>(fa.nofree x e).elim,λx c m=>(by cases m),λx v e=>(by cases e)⟩;refine oS (iC Rl fa.kind fa.nd C fa.ps hs V λh1 Kk O' tk S1 R1 hO L1 _ _ _ _=>⟨R1.base.noLimit R1.frz,?_⟩);refine ud (s:=sw s h1 tk) (s0:=s) hk hC G fa.chk e hbrk rm R1 L1 λF2 KI v' h2 Ku S2 R2 V2=>?_;exact hR F2 KI v' h2 Ku (S1.hide S2 hO) R2 V2
end
theorem vU {α β:Type}{f g:α->Option β}:∀ {l:List α},(∀ x∈l,f x=g x)->l.filterMap f=l.filterMap g:=by
 intro l
 induction l with
 |nil=>
  intro _;exact rfl
 |cons x l ih=>
  intro h;rw[filterMap_cons,filterMap_cons,h x (.head _),ih λy m=>h y (.tail _ m)]
theorem kN:∀ {ns:List Str} {vs:List Value},ns.Nodup->vs.length=ns.length->ns.filterMap (λn=>((ns.zip vs).lookup n).map (n,·))=ns.zip vs/\ns.filter (λn=>((ns.zip vs).lookup n).isNone)=[]
 |[],vs,_,h=>by cases vs<;>first |exact⟨rfl,rfl⟩ |cases h
 |n::ns,[],_,h=>by cases h
 |n::ns,v::vs,nd,h=>by
  refine av (nodup_cons.mp nd) λh1 h2=>?_;refine av (kN (ns:=ns) (vs:=vs) h2 (by simpa using h)) λe1 e2=>?_;have ne:∀ m∈ns,(m==n)=false:=λm hm=>beq_eq_false_iff_ne.mpr λz=>h1 (z▸hm)
  have f1:ns.filterMap (λm=>(((n::ns).zip (v::vs)).lookup m).map (m,·))=ns.filterMap (λm=>((ns.zip vs).lookup m).map (m,·)):=by
   refine vU λm hm=>?_;rw[List.zip_cons_cons,lookup_cons,ne m hm]
  have f2:ns.filter (λm=>(((n::ns).zip (v::vs)).lookup m).isNone)=ns.filter (λm=>((ns.zip vs).lookup m).isNone):=by
   apply filter_congr;intro m hm;rw[List.zip_cons_cons,lookup_cons,ne m hm]
  refine⟨?_,?_⟩
  ·rw[filterMap_cons,f1,e1];simp
  ·rw[filter_cons,f2,e2];simp
@[elab_as_elim] theorem Hs {A1 A2 A3 A4 A5 A6:Type}{a1 b1:A1}{a2 b2:A2}{a3 b3:A3}{a4 b4:A4}{a5 b5:A5}{a6 b6:A6}{P:A1->A2->A3->A4->A5->A6->Prop}(h:P b1 b2 b3 b4 b5 b6)(h1:a1=b1)(h2:a2=b2)(h3:a3=b3)(h4:a4=b4)(h5:a5=b5)(h6:a6=b6):P a1 a2 a3 a4 a5 a6:=h1▸h2▸h3▸h4▸h5▸h6▸h
@[elab_as_elim] theorem Ht {A1:Type}{a1 b1:A1}{P:A1->Prop}(h:P b1)(h1:a1=b1):P a1:=h1▸h
@[elab_as_elim] theorem Hu {A1 A2:Type}{a1 b1:A1}{a2 b2:A2}{P:A1->A2->Prop}(h:P b1 b2)(h1:a1=b1)(h2:a2=b2):P a1 a2:=h1▸h2▸h
theorem kO {fd:FuncData}{ns:List Str}{vs:List Value}(h1:fd.params.posonlyargs=[])(h2:fd.params.kwonlyargs=[])(h3:fd.params.vararg=none)(h4:fd.params.kwarg=none)(h5:fd.defaults=.none)(h6:fd.params.args.map (·.arg)=ns)(nd:ns.Nodup)
  (hl:vs.length=ns.length):bindArgs fd ⟨vs,[]⟩=pure (ns.zip vs):=by
 refine av (kN nd hl) λe1 e2=>?_;unfold bindArgs;dsimp only;refine Hs ?_ h1 h2 h3 h4 h5 h6;have h0:¬ ((decide (vs.length>ns.length)&&true)=true):=λh=>absurd ((and_eq_true ..).mp h).1 (decide_eq_false (not_lt_of_le (le_of_eq hl))▸Ly);refine Eq.trans (if_neg h0) ?_;refine Ht ?_ (List.drop_nil (i:=0-ns.length));refine Hu ?_ ((congrArg _ (List.take_length ..)).trans e2:(ns.take ns.length).filter (λn=>((ns.zip vs).lookup n).isNone)=[]) (List.zip_nil_right (l:=ns.drop ns.length));exact congrArg (pure (f:=Sem)) ((congrArg _ (append_nil ns)).trans e1:List.filterMap (λn=>Option.map (λx=>(n,x)) ((ns.zip vs).lookup n)) (ns++[])=_)
noncomputable def D9:List S:=[.asg (.nm 130) (.ite (.val (.isNon (.l 130) true)) (.l 130) (.new false (.list []))),.iff (.val (.isTy (.l 130) .list true)) [.bad] [],.setA (.l 129) 5 (.l 130),.iff (.val (.bool true)) [.for (.tup [61,175]) (.l 130) [.expr (.conv (.l 129) (.l 61) true),.expr (.conv (.l 129) (.l 175) false)] []] []]
noncomputable def Gf:List S:=[.iff (.val (.isTy (.l 64) .str false)) [.asg (.nm 170) (.ite (.val (.l 110)) (.rxg true) (.rxg false)),.iff (.val (.sm .search (.l 170) [.l 64])) [.bad] [],.ret (.l 64)] [],.bad]
noncomputable def IZ:List S:=[.asg (.nm 110) (.conv (.l 129) (.sm .lower (.l 110) []) true),.setSl (.attr (.l 129) 5) (.new false (.comp (.l 174) (.nm 174) (.attr (.l 129) 5) [.val (.cmp .NotEq (.sm .lower (.sub (.l 174) (.int 0)) []) (.l 110))] [110]))]
noncomputable def I0:List S:=[.asg (.nm 110) (.conv (.l 129) (.sm .lower (.l 110) []) true),.ret (.new false (.comp (.sub (.l 174) (.int 1)) (.nm 174) (.attr (.l 129) 5) [.val (.cmp .Eq (.sm .lower (.sub (.l 174) (.int 0)) []) (.l 110))] [110]))]
noncomputable def Ea:List S:=[.asg (.nm 110) (.conv (.l 129) (.sm .lower (.l 110) []) true),.for (.tup [61,175]) (.attr (.l 129) 5) [.iff (.val (.cmp .Eq (.sm .lower (.l 61) []) (.l 110))) [.ret (.l 175)] []] [],.ret (.l 132)]
noncomputable def I1:List S:=[.ret (.new false (.comp (.l 175) (.tup [61,175]) (.attr (.l 129) 5) [] []))]
noncomputable def yL:List S:=[.asg (.nm 125) (.new true (.list [])),.iff (.val (.isNon (.l 134) true)) [.asg (.nm 134) (.conv (.l 129) (.l 134) false),.expr (.sm .append (.l 125) [.l 134])] []]
noncomputable def yM:List S:=[.expr (.sm .append (.attr (.l 129) 5) [.tup [.conv (.l 129) (.l 133) true,.sm .join (.str [59,32]) [.l 125]]])]
noncomputable def Hv:List S:=[.iff (.val (.cmp .LtE (.b .Sub (.sm .bitlen (.l 66) []) (.l 0)) (.dlim))) [.ret (.bi .divmod [.l 66,.l 67])] [],.asg (.nm 68) (.b .BitAnd (.l 0) (.int 1)),.iff (.val (.l 68)) [.aug 66 .LShift (.int 1),.aug 67 .LShift (.int 1),.aug 0 .Add (.int 1)] [],.asg (.nm 69) (.b .RShift (.l 0) (.int 1)),.asg (.nm 70) (.b .Sub (.b .LShift (.int 1) (.l 69)) (.int 1)),.asg2 [73,74] [.b .RShift (.l 67) (.l 69),.b .BitAnd (.l 67) (.l 70)],.asg (.tup [136,75]) (.call 15 [.b .RShift (.l 66) (.l 0),.b .BitAnd (.b .RShift (.l 66) (.l 69)) (.l 70),.l 67,.l 73,.l 74,.l 69]),.asg (.tup [137,75]) (.call 15 [.l 75,.b .BitAnd (.l 66) (.l 70),.l 67,.l 73,.l 74,.l 69]),.iff (.val (.l 68)) [.aug 75 .RShift (.int 1)] [],.ret (.tup [.b .BitOr (.b .LShift (.l 136) (.l 69)) (.l 137),.l 75])]
noncomputable def Hw:List S:=[.iff (.val (.cmp .Eq (.b .RShift (.l 71) (.l 0)) (.l 73))) [.asg2 [80,75] [.b .Sub (.b .LShift (.int 1) (.l 0)) (.int 1),.b .Add (.b .Sub (.l 71) (.b .LShift (.l 73) (.l 0))) (.l 73)]] [.asg (.tup [80,75]) (.call 14 [.l 71,.l 73,.l 0])],.asg (.nm 75) (.b .Sub (.b .BitOr (.b .LShift (.l 75) (.l 0)) (.l 72)) (.b .Mult (.l 80) (.l 74))),.whl (.val (.cmp .Lt (.l 75) (.int 0))) [.aug 80 .Sub (.int 1),.aug 75 .Add (.l 67)],.ret (.tup [.l 80,.l 75])]
noncomputable def Hx:List S:=[.asg (.nm 0) (.sm .bitlen (.l 67) []),.asg (.nm 76) (.call 16 [.l 66,.l 0]),.asg (.nm 75) (.int 0),.asg (.nm 78) (.new true (.list [])),.forR 79 (.l 76) [.asg (.tup [178,75]) (.call 14 [.b .Add (.b .LShift (.l 75) (.l 0)) (.l 79),.l 67,.l 0]),.expr (.sm .append (.l 78) [.l 178])],.expr (.sm .reverse (.l 78) []),.asg (.nm 80) (.call 17 [.l 78,.l 0]),.ret (.tup [.l 80,.l 75])]
noncomputable def I2:List S:=[.iff (.val (.cmp .Eq (.l 67) (.int 0))) [.bad] [.iff (.val (.cmp .Lt (.l 67) (.int 0))) [.bad,.bad] [.iff (.val (.cmp .Lt (.l 66) (.int 0))) [.bad,.bad] [.ret (.call 13 [.l 66,.l 67])]]]]
noncomputable def Hy:List S:=[.asg (.nm 82) (.new true (.list [])),.for (.nm 83) (.bi .range1 [.int 32]) [.asg (.nm 149) (.b .LShift (.int 1) (.l 83)),.iff (.val (.b .BitAnd (.l 81) (.l 149))) [.expr (.sm .append (.l 82) [.flag 149]),.aug 81 .BitXor (.l 149),.iff (.not (.val (.l 81))) [.brk] []] []] [.expr (.sm .append (.l 82) [.bi .hex [.l 81]])],.ret (.sm .join (.str [44,32]) [.l 82])]
noncomputable def Hz:List S:=[.asg (.nm 67) (.bi .next [.l 84]),.asg (.nm 85) (.b .BitAnd (.l 67) (.int 63)),.whl (.val (.b .BitAnd (.l 67) (.int 64))) [.aug 85 .LShift (.int 6),.asg (.nm 67) (.bi .next [.l 84]),.aug 85 .BitOr (.b .BitAnd (.l 67) (.int 63))],.ret (.l 85)]
noncomputable def Eb:List S:=[.setA (.l 129) 3 (.l 154),.asg2 [152,153] [.cattr false,.cattr true],.asg (.nm 155) (.new true (.list [])),.asgs [67,0,1] (.int 0),.for (.nm 156) (.attr (.l 129) 3) [.iff (.val (.cmp .Eq (.l 156) (.l 152))) [.asg (.nm 0) (.b .Add (.l 0) (.int 1)),.asg (.nm 67) (.b .Add (.l 67) (.int 1))] [.iff (.val (.cmp .Eq (.l 156) (.l 153))) [.asg (.nm 0) (.b .Add (.l 0) (.int 1)),.asg (.nm 1) (.b .Add (.l 1) (.int 1)),.iff (.val (.cmp .GtE (.l 67) (.bi .len [.l 155]))) [.asg (.nm 155) (.new true (.cat (.l 155) (.new false (.rep (.int 0) (.b .Add (.b .Sub (.l 67) (.bi .len [.l 155])) (.int 1))))))] [],.setI (.l 155) (.l 67) (.b .Add (.sub (.l 155) (.l 67)) (.int 1)),.asg (.nm 67) (.int 0)] [.brk]]] [],.setA (.l 129) 0 (.l 0),.setA (.l 129) 1 (.l 1),.setA (.l 129) 2 (.tup [.bi .tuple [.l 155],.l 67]),.setA (.l 129) 4 (.cmp .LtE (.bi .len [.l 155]) (.int 1))]
noncomputable def I3:List S:=[.ret (.cmp .Eq (.attr (.l 129) 2) (.attr (.l 158) 2))]
noncomputable def b0:List S:=[.asg (.nm 87) (.new true (.list [.int 0,.int 6,.int 6,.int 4,.int 5])),.for (.nm 61) (.bi .range1 [.bi .len [.l 86]]) [.augI (.l 87) (.b .Mod (.l 61) (.int 5)) .Add (.sub (.l 86) (.l 61))] [],.ret (.l 87)]
noncomputable def b1:List S:=[.asg (.nm 89) (.new false (.split (.str [79,80,84,73,77,73,90,69,68,32,78,69,87,76,79,67,65,76,83,32,86,65,82,65,82,71,83,32,86,65,82,75,69,89,87,79,82,68,83,32,78,69,83,84,69,68,32,71,69,78,69,82,65,84,79,82,32,78,79,70,82,69,69,32,67,79,82,79,85,84,73,78,69,32,73,84,69,82,65,66,76,69,95,67,79,82,79,85,84,73,78,69,32,65,83,89,78,67,95,71,69,78,69,82,65,84,79,82]) (.str [32]))),.ret (.ite (.val (.cmp .Lt (.l 88) (.int 10))) (.sub (.l 89) (.l 88)) (.b .Add (.b .Add (.str [48,120]) (.sub (.str [49,50,52,56]) (.b .Mod (.l 88) (.int 4)))) (.b .Mult (.str [48]) (.b .FloorDiv (.l 88) (.int 4)))))]
noncomputable def b2:List S:=[.asg (.nm 90) (.new true (.list [])),.for (.nm 91) (.bi .range2 [.int 1,.int 4]) [.asg (.nm 80) (.b .Add (.int 2) (.b .Mod (.sub (.l 87) (.b .Sub (.l 91) (.int 1))) (.b .Sub (.int 4) (.l 91)))),.asg (.nm 160) (.new false (.cat (.new false (.list [.l 91])) (.new false (.comp (.sub (.l 162) (.int 2)) (.nm 162) (.l 90) [] [])))),.asg (.nm 94) (.new false (.comp (.l 75) (.nm 75) (.bi .range2 [.int 1,.b .Add (.b .Mult (.l 91) (.l 80)) (.int 1)]) [.and (.val (.cmp .Eq (.b .Mod (.b .Mult (.l 91) (.l 80)) (.l 75)) (.int 0))) (.val (.cmp .NotIn (.l 75) (.l 160)))] [91,80,160])),.asg (.nm 75) (.sub (.l 94) (.b .Mod (.b .FloorDiv (.sub (.l 87) (.b .Sub (.l 91) (.int 1))) (.int 6)) (.bi .len [.l 94]))),.expr (.sm .append (.l 90) [.tup [.l 91,.l 80,.l 75,.b .FloorDiv (.b .Mult (.l 91) (.l 80)) (.l 75)]])] [],.ret (.l 90)]
noncomputable def b3:List S:=[.ret (.bi .min [.new false (.cat (.new false (.comp (.b .Sub (.l 163) (.int 1)) (.tup [91,80,75,163]) (.l 90) [.val (.cmp .Eq (.l 75) (.l 92))] [92])) (.new false (.list [.b .FloorDiv (.int 9) (.l 92)])))])]
noncomputable def b4:List S:=[.asg (.nm 94) (.new false (.comp (.l 162) (.nm 162) (.l 90) [.val (.cmp .GtE (.call 3 [.sub (.l 162) (.int 0),.l 90]) (.sub (.l 162) (.int 1)))] [90])),.asg (.tup [91,80,75,163]) (.sub (.l 94) (.b .Mod (.l 93) (.bi .len [.l 94]))),.asg (.nm 95) (.new true (.rep (.l 91) (.l 80))),.for (.nm 61) (.bi .range1 [.int 3]) [.asg (.nm 92) (.b .Add (.int 1) (.b .FloorDiv (.b .Mod (.b .FloorDiv (.l 93) (.b .Pow (.int 8) (.l 61))) (.int 8)) (.int 2))),.iff (.and (.val (.cmp .LtE (.b .Add (.bi .sum [.l 95]) (.l 92)) (.int 9))) (.val (.cmp .Lt (.sm .count (.l 95) [.l 92]) (.call 3 [.l 92,.l 90])))) [.expr (.sm .append (.l 95) [.l 92])] []] [],.ret (.l 95)]
noncomputable def b5:List S:=[.asg (.nm 96) (.new true (.comp (.sm .count (.l 95) [.l 92]) (.nm 92) (.bi .range1 [.int 7]) [] [95])),.asg (.nm 97) (.new true (.list [.int 0,.int 0,.int 0])),.for (.nm 98) (.bi .range1 [.int 31]) [.asg (.nm 164) (.new false (.comp (.l 61) (.nm 61) (.bi .range1 [.int 3]) [.val (.cmp .GtE (.sub (.l 96) (.sub (.sub (.l 90) (.l 61)) (.int 0))) (.sub (.sub (.l 90) (.l 61)) (.int 1)))] [96,90])),.iff (.val (.cmp .Eq (.l 164) (.new false (.list [])))) [.ret (.tup [.l 96,.l 97])] [],.asg (.tup [91,80,75,163]) (.sub (.l 90) (.sub (.l 164) (.int 0))),.augI (.l 96) (.l 91) .Sub (.l 80),.augI (.l 96) (.l 75) .Add (.l 163),.augI (.l 97) (.sub (.l 164) (.int 0)) .Add (.int 1)] [],.ret (.tup [.l 96,.new false (.list [])])]
noncomputable def b6:List S:=[.ret (.ite (.or (.val (.cmp .Lt (.l 99) (.int 32))) (.val (.cmp .Eq (.l 99) (.int 127)))) (.bi .chr [.b .Add (.l 99) (.int 128)]) (.bi .chr [.l 99]))]
noncomputable def b7:List S:=[.asg (.nm 100) (.call 6 [.b .Mod (.l 93) (.int 64)]),.whl (.val (.cmp .Gt (.l 93) (.int 63))) [.aug 93 .FloorDiv (.int 64),.asg (.nm 100) (.b .Add (.call 6 [.b .Add (.int 64) (.b .Mod (.l 93) (.int 64))]) (.l 100))],.ret (.l 100)]
noncomputable def b8:List S:=[.asg (.nm 104) (.bi .iter [.new false (.comp (.bi .ord [.l 189]) (.nm 189) (.l 102) [] [])]),.asg (.tup [91,80,75,163]) (.new false (.comp (.b .Sub (.call 19 [.l 104]) (.b .Mult (.int 8) (.l 103))) (.nm 61) (.bi .range1 [.int 4]) [] [104,103])),.asg (.nm 105) (.new false (.drop (.meth 30 (.l 101) [.sub (.str [65,66,67,68,69,70]) (.b .Sub (.l 91) (.int 1))]) (.l 80))),.del (.l 101) (.sub (.str [97,98,99,100,101,102]) (.b .Sub (.l 91) (.int 1))),.for (.nm 106) (.l 105) [.expr (.meth 34 (.l 101) [.sub (.str [97,98,99,100,101,102]) (.b .Sub (.l 91) (.int 1)),.l 106])] [],.for (.nm 61) (.bi .range1 [.l 163]) [.expr (.meth 34 (.l 101) [.sub (.str [65,66,67,68,69,70]) (.b .Sub (.l 75) (.int 1)),.b .Add (.b .Mult (.str [32]) (.l 75)) (.str [9])])] []]
noncomputable def b9:List S:=[.ret (.call 21 [.b .Add (.b .Add (.str [9]) (.sm .join (.str []) [.meth 33 (.l 101) []])) (.str [32,32,120,32,9])])]
noncomputable def HA:List S:=[.asg (.nm 82) (.new false (.comp (.call 1 [.b .Add (.l 107) (.l 61)]) (.nm 61) (.bi .range1 [.int 3]) [] [107])),.asg (.nm 109) (.call 20 [.new true (.list [])]),.for (.nm 61) (.bi .range1 [.int 3]) [.asg (.nm 102) (.sm .join (.str []) [.new false (.comp (.call 7 [.b .Add (.l 93) (.b .Mult (.int 8) (.l 103))]) (.nm 93) (.sub (.l 90) (.l 61)) [] [103])]),.iff (.val (.isNon (.meth 34 (.l 109) [.call 18 [.b .LShift (.int 1) (.b .Add (.l 107) (.l 61))],.l 102]) true)) [.ret (.non)] []] [],.for (.nm 110) (.l 82) [.expr (.meth 34 (.l 109) [.sm .lower (.l 110) [],.str []])] [],.asg (.nm 111) (.call 20 [.new true (.list [])]),.asg (.nm 112) (.new false (.list [.new true (.list []),.new true (.list []),.new true (.list [])])),.for (.nm 98) (.bi .range1 [.int 31]) [.asg (.nm 96) (.b .Add (.sub (.attr (.call 9 [.l 101]) 2) (.int 0)) (.b .Mult (.tup [.int 0]) (.int 7))),.asg (.nm 164) (.new false (.comp (.l 61) (.nm 61) (.bi .range1 [.int 3]) [.val (.cmp .GtE (.sub (.l 96) (.sub (.sub (.l 90) (.l 61)) (.int 0))) (.sub (.sub (.l 90) (.l 61)) (.int 1)))] [96,90])),.asg (.nm 89) (.new false (.split (.call 18 [.bi .sum [.new false (.comp (.b .LShift (.int 1) (.b .Add (.l 107) (.l 61))) (.nm 61) (.l 164) [] [107])]]) (.str [44,32]))),.iff (.and (.val (.cmp .Eq (.l 164) (.new false (.list [])))) (.val (.cmp .Eq (.l 89) (.new false (.list [.str [48,120,48]]))))) [.iff (.or (.val (.cmp .NotEq (.new false (.comp (.meth 30 (.l 111) [.sm .lower (.l 110) []]) (.nm 110) (.l 82) [] [111])) (.l 112))) (.val (.cmp .NotEq (.meth 33 (.l 111) []) (.new false (.comp (.bi .str [.l 61]) (.nm 61) (.bi .range1 [.l 98]) [] []))))) [.ret (.non)] [],.ret (.new false (.comp (.bi .len [.l 195]) (.nm 195) (.l 112) [] []))] [],.iff (.val (.cmp .NotEq (.l 89) (.new false (.comp (.sub (.l 82) (.l 61)) (.nm 61) (.l 164) [] [82])))) [.ret (.non)] [],.asg (.nm 166) (.sub (.l 89) (.b .Mod (.b .Mod (.b .FloorDiv (.l 108) (.b .Pow (.int 3) (.l 98))) (.int 3)) (.bi .len [.l 89]))),.expr (.call 8 [.l 101,.meth 32 (.l 109) [.ite (.val (.cmp .Eq (.b .Mod (.l 98) (.int 2)) (.int 0))) (.sm .lower (.l 166) []) (.sm .upper (.l 166) [])],.l 103]),.expr (.meth 34 (.l 111) [.l 166,.bi .str [.l 98]]),.expr (.sm .append (.sub (.l 112) (.sm .index (.l 82) [.l 166])) [.bi .str [.l 98]])] [],.ret (.non)]
noncomputable def HB:List S:=[.asg (.nm 113) (.new false (.cat (.new false (.list [.int 1])) (.new false (.rep (.int 0) (.int 9))))),.for (.nm 92) (.bi .range2 [.int 1,.int 10]) [.asg (.nm 167) (.bi .range1 [.b .Add (.call 3 [.l 92,.l 90]) (.int 1)]),.asg (.nm 113) (.new false (.comp (.bi .sum [.new false (.comp (.sub (.l 113) (.b .Sub (.l 191) (.b .Mult (.l 92) (.l 61)))) (.nm 61) (.l 167) [.val (.cmp .LtE (.b .Mult (.l 92) (.l 61)) (.l 191))] [92,191,113])]) (.nm 191) (.bi .range1 [.int 10]) [] [167,92,113]))] [],.ret (.l 113)]
noncomputable def HC:List S:=[.asg (.nm 87) (.call 0 [.l 86]),.asg (.nm 107) (.b .Mod (.b .FloorDiv (.bi .sum [.l 87]) (.int 5)) (.int 30)),.asg (.nm 103) (.b .Mod (.b .FloorDiv (.bi .sum [.l 87]) (.int 7)) (.int 5000)),.asg (.nm 114) (.call 2 [.l 87]),.asg (.nm 115) (.new false (.comp (.tup [.l 75,.l 163,.l 91,.l 80]) (.tup [91,80,75,163]) (.l 114) [] [])),.asg (.nm 116) (.call 4 [.sub (.l 87) (.int 3),.l 114]),.asg (.tup [96,97]) (.call 5 [.l 116,.l 114]),.asg (.nm 101) (.call 20 [.new true (.list [])]),.for (.nm 61) (.bi .range1 [.bi .len [.l 116]]) [.expr (.meth 34 (.l 101) [.sub (.sub (.new false (.list [.str [97,98,99,100,101,102],.str [65,66,67,68,69,70]])) (.b .Mod (.l 61) (.int 2))) (.b .Sub (.sub (.l 116) (.l 61)) (.int 1)),.b .Add (.b .Mult (.str [32]) (.sub (.l 116) (.l 61))) (.str [9])])] [],.asg (.nm 117) (.call 9 [.l 101]),.asg (.nm 2) (.tup [.bi .tuple [.new false (.cat (.new false (.list [.int 1])) (.new false (.comp (.sm .count (.l 116) [.l 92]) (.nm 92) (.bi .range2 [.int 1,.b .Add (.bi .max [.l 116]) (.int 1)]) [] [116])))],.int 2]),.iff (.val (.cmp .NotEq (.tup [.attr (.l 117) 0,.attr (.l 117) 1,.attr (.l 117) 2]) (.tup [.b .Add (.b .Add (.bi .sum [.l 116]) (.bi .len [.l 116])) (.int 3),.b .Add (.bi .len [.l 116]) (.int 1),.l 2]))) [.ret (.bool false)] [],.iff (.val (.cmp .NotEq (.call 10 [.l 101,.l 114,.l 107,.l 103,.sub (.l 87) (.int 4)]) (.l 97))) [.ret (.bool false)] [],.asg (.nm 118) (.new false (.comp2 (.l 92) (.nm 92) (.bi .range1 [.int 7]) (.nm 61) (.bi .range1 [.sub (.l 96) (.l 92)]) [96])),.iff (.val (.cmp .NotEq (.new false (.sorted (.new false (.comp (.b .Sub (.bi .len [.l 102]) (.int 1)) (.nm 102) (.meth 33 (.l 101) []) [] [])))) (.l 118))) [.ret (.bool false)] [],.asg (.nm 119) (.b .Add (.sm .join (.str []) [.new false (.comp (.b .Add (.b .Mult (.str [32]) (.l 92)) (.str [9])) (.nm 92) (.l 118) [] [])]) (.str [9,32,32])),.asg (.nm 120) (.call 9 [.l 101]),.asg (.nm 121) (.new false (.comp (.meth 36 (.l 120) [.l 106]) (.nm 106) (.tup [.l 117,.call 21 [.l 119],.call 21 [.b .Add (.l 119) (.str [32])]]) [] [120])),.iff (.val (.cmp .NotEq (.new false (.cat (.new false (.comp (.isTy (.l 195) .bool false) (.nm 195) (.l 121) [] [])) (.l 121))) (.new false (.list [.bool true,.bool true,.bool true,.bool false,.bool true,.bool false])))) [.ret (.bool false)] [],.iff (.or (.val (.cmp .NotEq (.call 10 [.l 101,.l 115,.l 107,.l 103,.b .FloorDiv (.sub (.l 87) (.int 4)) (.int 7)]) (.l 97))) (.val (.isTru (.meth 36 (.call 9 [.l 101]) [.l 117]) true))) [.ret (.bool false)] [],.asg (.nm 122) (.b .Add (.int 8) (.b .Mod (.b .FloorDiv (.bi .sum [.l 87]) (.int 20)) (.int 500))),.asg (.nm 123) (.b .LShift (.int 1) (.b .Mult (.l 122) (.b .Sub (.int 54) (.bi .sum [.new false (.comp (.b .Mult (.l 91) (.l 80)) (.tup [91,80,75,163]) (.l 114) [] [])])))),.for (.tup [91,80,75,163]) (.l 114) [.aug 123 .Mult (.b .Sub (.b .LShift (.int 1) (.b .Mult (.b .Mult (.l 122) (.l 91)) (.l 80))) (.int 1))] [],.asg (.nm 124) (.int 1),.for (.nm 61) (.bi .range2 [.int 1,.int 10]) [.aug 124 .Mult (.b .Sub (.b .LShift (.int 1) (.b .Mult (.l 122) (.l 61))) (.int 1))] [],.asg (.nm 125) (.call 12 [.l 123,.l 124]),.iff (.or (.val (.cmp .NotEq (.new false (.comp (.isTy (.l 198) .int false) (.nm 198) (.l 125) [] [])) (.new false (.list [.bool true,.bool true])))) (.val (.cmp .NotEq (.l 125) (.tup [.sub (.l 125) (.int 0),.b .Sub (.l 123) (.b .Mult (.sub (.l 125) (.int 0)) (.l 124))])))) [.ret (.bool false)] [],.asg (.nm 126) (.call 16 [.sub (.l 125) (.int 0),.l 122]),.iff (.or (.val (.cmp .NotEq (.l 126) (.new false (.rev (.call 11 [.l 114]))))) (.val (.cmp .NotEq (.call 16 [.int 0,.l 122]) (.new false (.list []))))) [.ret (.bool false)] [],.asg (.nm 127) (.new false (.comp (.b .Add (.b .FloorDiv (.sub (.l 126) (.l 61)) (.int 2)) (.b .Mult (.b .Mod (.sub (.l 126) (.b .Add (.l 61) (.int 1))) (.int 2)) (.b .LShift (.int 1) (.b .Sub (.l 122) (.int 1))))) (.nm 61) (.bi .range1 [.int 9]) [] [126,122])),.ret (.cmp .Eq (.call 16 [.b .FloorDiv (.sub (.l 125) (.int 0)) (.int 2),.l 122]) (.l 127))]
noncomputable def mo:List (Nat×List Nat×List S):=[(0,[86],b0),(1,[88],b1),(2,[87],b2),(3,[92,90],b3),(4,[93,90],b4),(5,[95,90],b5),(6,[99],b6),(7,[93],b7),(8,[101,102,103],b8),(9,[101],b9),(10,[101,90,107,103,108],HA),(11,[90],HB),(12,[66,67],I2),(13,[66,67],Hx),(14,[66,67,0],Hv),(15,[71,72,67,73,74,0],Hw),(18,[81],Hy),(19,[84],Hz),(22,[86],HC),(30,[129,110],I0),(31,[129,110],IZ),(33,[129],I1),(36,[129,158],I3)]
noncomputable def kP {γ:Type}(o:Rs)(k:Loc->St->Option γ):Option γ:=match o with
 |some (f,σ,st)=>match f with
  |.next=>k σ st
  |_=>none
 |none=>none
theorem kQ {γ:Type}{o:Rs}{k:Loc->St->Option γ}{r:γ}{P:Prop}(e:kP o k=some r)(f:∀ σ st,o=some (.next,σ,st)->k σ st=some r->P):P:=
 match o,e,f with
 |some (.next,_,_),e,f=>f _ _ rfl e
 |some (.brk,_,_),e,_=>absurd e bg
 |some (.ret _,_,_),e,_=>absurd e bg
 |none,e,_=>absurd e bg
noncomputable def bE (C:jD)(ps:List Nat)(b:List S)(args:List AV)(st:St):Option (AV×St):=match bA [] ps args with
 |some σ=>match cw ⟨C⟩ b σ st with
  |some (f,_,Kd)=>match f with
   |.ret v=>some (v,Kd)
   |.next=>some (.none,Kd)
   |.brk=>none
  |none=>none
 |none=>none
noncomputable def vV (C:jD)(c:Nat)(ps:List Nat)(b:List S)(args:List AV)(st:St):Option (AV×St):=match bA [] ps (.obj (st.length+1)::args) with
 |some σ=>kP (cw ⟨C⟩ b σ (st++[.dict []]++[.inst c st.length])) λ_ Kd=>some (.obj (st.length+1),Kd)
 |none=>none
noncomputable def nq (σ:Loc)(st:St):Bool:=(match af σ 135 with
 |some v=>gZ v λj=>match st[j]? with
  |some o=>match o with
   |.dict fs=>nil fs (some ())
   |_=>none
  |none=>none
 |none=>none).isSome
theorem vW {σ:Loc}{st:St}(h:nq σ st=true):∃ j,af σ 135=some (.obj j)/\st[j]?=some (.dict []):=by
 refine aw (isSome_iff_exists.mp h) λu h=>?_;refine oA h λv e h=>j8 (P:=λv=>af σ 135=some v->_) (λj h e=>?_) h e;refine⟨j,e,?_⟩
 cases q:st[j]? with
 |none=>rw[q]at h;exact absurd h bg
 |some o=>
  rw[q]at h;cases o<;>first |exact absurd h bg |exact Dv (P:=λfs=>some (AO.dict fs)=some (.dict [])) (λ_=>rfl) h
noncomputable def vX (C:jD)(args:List AV)(st:St):Option (AV×St):=match bA [] [129,133,134,135] (args++[.obj st.length]) with
 |some σ=>kP (cw ⟨C⟩ yL σ (st++[.dict []])) λKi Ke=>if nq Ki Ke then kP (cw ⟨C⟩ yM Ki Ke) λ_ Kf=>some (.none,Kf) else none
 |none=>none
noncomputable def dG (n:Int):Nat->Int->Int->Int->List Int->Option (List Int)
 |0,_,_,_,_=>none
 |k+1,x,l,r,ds=>if l+1=r then (if 0<=l/\l<ds.length then some (ds.set l.toNat x) else none) else
  let mid:=(l+r).fdiv 2;let sh:=(mid-l)*n
  if 0<=sh/\(intBits (x.fdiv (2^sh.toNat)):Int)+sh<=2^27/\sh<2^60/\eB (mid-l) n=true then
   let up:=x.fdiv (2^sh.toNat)
   match dG n k (Builtin.bitXor x (up*2^sh.toNat)) l mid ds with
   |some LJ=>dG n k up mid r LJ
   |none=>none
  else none
noncomputable def rc (args:List AV)(st:St):Option (AV×St):=two args λx y=>ar x λa=>ar y λn=>
  if n≠0/\divisionGoesByPylong ((intBits a:Int)+n-1) n=false then
   let m:=((intBits a:Int)+n-1).fdiv n
   if m<1000/\-1000<m then
    let ds:=replicate m.toNat (0:Int)
    if a=0 then some (.obj st.length,st++[.list (ds.map .int)]) else match dG n 12 a 0 ds.length ds with
     |some LJ=>some (.obj st.length,st++[.list (LJ.map .int)])
     |none=>none
   else none
  else none
noncomputable def eF (n:Int)(ds:List Int):Nat->Int->Int->Option Int
 |0,_,_=>none
 |k+1,l,r=>if l+1=r then (if 0<=l/\l<1000 then ds[l.toNat]? else none) else
  let mid:=(l+r).fdiv 2;let sh:=(mid-l)*n
  match eF n ds k mid r with
  |some u=>if 0<=sh/\(intBits u:Int)+sh<=2^27/\eB (mid-l) n=true then match eF n ds k l mid with
   |some v=>some (u*2^sh.toNat+v)
   |none=>none
   else none
  |none=>none
noncomputable def rf (args:List AV)(st:St):Option (AV×St):=two args λv y=>ar y λn=>match cN st v with
  |some xs=>match allInts xs with
   |some ds=>if ds.length<1000 then (if ds=[] then some (.int 0,st) else match eF n ds 12 0 ds.length with
    |some r=>some (.int r,st)
    |none=>none) else none
   |none=>none
  |none=>none
noncomputable def step (C:jD):jD:=λf args st=>
 if f=20 then vV C 0 [129,130] D9 args st
 else if f=21 then vV C 1 [129,154] Eb args st
 else if f=34 then vX C args st
 else if f=16 then rc args st
 else if f=17 then rf args st
 else if f=32 then bE C [129,110,132] Ea (args++[.none]) st
 else if f=35 then bE C [129,64,110] Gf args st
 else match mo.lookup f with
  |some q=>bE C q.1 q.2 args st
  |none=>none
noncomputable def run:Nat->jD
 |0=>λ_ _ _=>none
 |n+1=>step (run n)
end
namespace P
noncomputable def Kp (W:List Nat)(st Kd:St):Prop:=st.length<=Kd.length/\∀ j,j<st.length->j∉W->Kd[j]?=st[j]?
theorem Kp.refl (W:List Nat)(st:St):Kp W st st:=⟨le_refl _,λ_ _ _=>rfl⟩
theorem Kp.trans {W:List Nat}{a b c:St}(x:Kp W a b)(y:Kp W b c):Kp W a c:=
 ⟨le_trans x.1 y.1,λj h1 h2=>(y.2 j (lt_of_lt_of_le h1 x.1) h2).trans (x.2 j h1 h2)⟩
theorem Kp.app (W:List Nat)(st g:St):Kp W st (st++g):=⟨by simp,λj h _=>getElem?_append_left h⟩
theorem Kp.set {W:List Nat}{i:Nat}(h:i∈W)(st:St)(x:AO):Kp W st (st.set i x):=⟨by simp,λj _ h2=>by
 rw[getElem?_set_ne];rintro rfl;exact h2 h⟩
theorem Kp.more {W V:List Nat}{a b:St}(x:Kp W a b)(h:∀ j∈W,j<a.length->j∈V):Kp V a b:=⟨x.1,λj h1 h2=>x.2 j h1 λh3=>h2 (h j h3 h1)⟩
theorem Kp.get {W:List Nat}{a b:St}(x:Kp W a b){j:Nat}{o:AO}(h:a[j]?=some o)(hj:j∉W):b[j]?=some o:=by
 rw[x.2 j (List.getElem?_eq_some_iff.mp h).1 hj,h]
theorem al {a:St}{j:Nat}{o:AO}(h:a[j]?=some o):j<a.length:=(List.getElem?_eq_some_iff.mp h).1
theorem jE {γ:Type}{o:Option (AV×St)}{k:AV->St->Option γ}{x:AV}{y:St}{r:Option γ}(h:o=some (x,y))(f:k x y=r):(match (generalizing:=false) o with
 |some (x,y)=>k x y
 |none=>none)=r:=by subst h;exact f
theorem jL {γ:Type}{o:Option (List AV×St)}{k:List AV->St->Option γ}{x:List AV}{y:St}{r:Option γ}(h:o=some (x,y))(f:k x y=r):(match (generalizing:=false) o with
 |some (x,y)=>k x y
 |none=>none)=r:=by subst h;exact f
theorem JW {γ:Type}{o:Option (Bool×St)}{k:Bool->St->Option γ}{x:Bool}{y:St}{r:Option γ}(h:o=some (x,y))(f:k x y=r):(match (generalizing:=false) o with
 |some (x,y)=>k x y
 |none=>none)=r:=by subst h;exact f
theorem jT {γ:Type}{o:Option (Bool×St)}{kt kf:St->Option γ}{y:St}{r:Option γ}(h:o=some (true,y))(f:kt y=r):(match (generalizing:=false) o with
 |some (true,y)=>kt y
 |some (false,y)=>kf y
 |none=>none)=r:=by subst h;exact f
theorem jF {γ:Type}{o:Option (Bool×St)}{kt kf:St->Option γ}{y:St}{r:Option γ}(h:o=some (false,y))(f:kf y=r):(match (generalizing:=false) o with
 |some (true,y)=>kt y
 |some (false,y)=>kf y
 |none=>none)=r:=by subst h;exact f
theorem jA {γ:Type}{o:Option AV}{k:AV->Option γ}{x:AV}{r:Option γ}(h:o=some x)(f:k x=r):(match (generalizing:=false) o with
 |some x=>k x
 |none=>none)=r:=by subst h;exact f
theorem jV {γ:Type}{o:Option (List AV)}{k:List AV->Option γ}{x:List AV}{r:Option γ}(h:o=some x)(f:k x=r):(match (generalizing:=false) o with
 |some x=>k x
 |none=>none)=r:=by subst h;exact f
theorem jG {γ:Type}{o:Option Loc}{k:Loc->Option γ}{x:Loc}{r:Option γ}(h:o=some x)(f:k x=r):(match (generalizing:=false) o with
 |some x=>k x
 |none=>none)=r:=by subst h;exact f
section
variable {o:Rs}{kn kb:Loc->St->Rs}{kr:AV->Loc->St->Rs}{r:Rs}{a:Loc}{b:St}
theorem C0 (h:o=some (.next,a,b))(f:kn a b=r):(match (generalizing:=false) o with
 |some (.next,a,b)=>kn a b
 |some (.brk,a,b)=>kb a b
 |some (.ret u,a,b)=>kr u a b
 |none=>none)=r:=by subst h;exact f
theorem HD (h:o=some (.brk,a,b))(f:kb a b=r):(match (generalizing:=false) o with
 |some (.next,a,b)=>kn a b
 |some (.brk,a,b)=>kb a b
 |some (.ret u,a,b)=>kr u a b
 |none=>none)=r:=by subst h;exact f
theorem HE {u:AV}(h:o=some (.ret u,a,b))(f:kr u a b=r):(match (generalizing:=false) o with
 |some (.next,a,b)=>kn a b
 |some (.brk,a,b)=>kb a b
 |some (.ret u,a,b)=>kr u a b
 |none=>none)=r:=by subst h;exact f
end
theorem aD {α:Type}{ok:St->Bool}{f:AV->St->Option (List AV×St)}(i:α->AV)(g:α->AV){st:St}(hk:ok st=true):∀ (xs:List α),(∀ x∈xs,f (i x) st=some ([g x],st))->aU ok f (xs.map i) st=some (xs.map g,st):=by
 intro xs
 induction xs with
 |nil=>
  intro _;exact if_pos hk
 |cons x xs ih=>
  intro h;exact(if_pos hk).trans (jL (h x (.head _)) (jL (ih λy hy=>h y (.tail _ hy)) rfl))
theorem bK {α:Type}{ok:St->Bool}{f:AV->St->Option (List AV×St)}(p:α->Bool)(i g:α->AV){st:St}(hk:ok st=true):∀ (xs:List α),(∀ x∈xs,f (i x) st=some (if p x then [g x] else [],st))->aU ok f (xs.map i) st=some ((xs.filter p).map g,st):=by
 intro xs
 induction xs with
 |nil=>
  intro _;exact if_pos hk
 |cons x xs ih=>
  intro h;exact(if_pos hk).trans (jL (h x (.head _)) (jL (ih λy hy=>h y (.tail _ hy)) (by rw[filter_cons];split<;>rfl)))
theorem allInts_map (l:List Int):allInts (l.map .int)=some l:=by
 induction l with
 |nil=>rfl
 |cons a l ih=>exact congrArg (Option.map (a::·)) ih
theorem pw (l:List (List Nat)):allStrs (l.map .str)=some l:=by
 induction l with
 |nil=>rfl
 |cons a l ih=>exact congrArg (Option.map (a::·)) ih
theorem d9 {α:Type}(f:α->List Nat)(l:List α):allStrs (l.map λx=>.str (f x))=some (l.map f):=by
 induction l with
 |nil=>rfl
 |cons a l ih=>exact congrArg (Option.map (f a::·)) ih
theorem fL {α:Type}(f:α->Int)(l:List α):allInts (l.map λx=>.int (f x))=some (l.map f):=by
 induction l with
 |nil=>rfl
 |cons a l ih=>exact congrArg (Option.map (f a::·)) ih
theorem vY {α:Type}{o:Option α}{a:α}{r:List (Option α)}{l:List α}(h:o=some a)(k:aY r=some l):aY (o::r)=some (a::l):=h▸congrArg (Option.map (a::·)) k
theorem kR (lo:Int):∀ n,lR lo n=(List.range n).map λ(k:Nat)=>AV.int (lo+k)
 |0=>rfl
 |n+1=>by
  rw[lR,kR (lo+1) n,List.range_succ_eq_map];simp[Function.comp_def];intro a _;lia
theorem gG (st:St)(a b:Int):rO st (.int a) (.int b)=some (decide (a=b)):=by
 rfl
theorem kS {l:List Nat}(h:∀ c∈l,c<1114112):PyData.strOk ⟨l.toArray⟩=true:=by
 simp only[PyData.strOk,List.all_toArray,all_eq_true,decide_eq_true_eq];exact h
theorem nr (st:St){a b:List Nat}(ha:∀ c∈a,c<1114112)(hb:∀ c∈b,c<1114112):rO st (.str a) (.str b)=some (decide (a=b)):=by
 refine(if_pos ((and_eq_true ..).mpr ⟨kS ha,kS hb⟩)).trans (congrArg some ?_);exact decide_eq_decide.mpr ⟨λh=>Array.toList_inj.mpr (Str.mk.inj h),λh=>h▸rfl⟩
theorem dA {st:St}{a b:AV}{x:PyData}(h1:ba 6 st a=some x)(h2:ba 6 st b=some x)(h3:x.canLay0=true):rO st a b=some true:=by
 unfold rO;rw[h1,h2];exact(if_pos ((and_eq_true ..).mpr ⟨h3,h3⟩)).trans (congrArg some (PySem.SeqAt.eqv_refl x h3))
theorem canLayAll_ints (l:List Int):PyData.canLayAll0 (l.map .int)=true:=by
 induction l with
 |nil=>rfl
 |cons a l ih=>exact ih
theorem mr (n:Nat)(st:St)(a:Int):ba n st (.int a)=some (.int a):=by cases n<;>rfl
theorem Ec {n:Nat}{st:St}{i:Nat}{xs:List AV}(h:st[i]?=some (.list xs)):ba (n+1) st (.obj i)=(aY (xs.map (ba n st))).map .list:=congrArg (λo:Option AO=>match o with
 |some (.list xs)=>(aY (xs.map (ba n st))).map PyData.list
 |_=>none) h
theorem ed (n:Nat)(st:St)(l:List Int):aY ((l.map AV.int).map (ba n st))=some (l.map .int):=by
 induction l with
 |nil=>rfl
 |cons a l ih=>exact vY (mr n st a) ih
theorem mv (n:Nat)(st:St)(l:List Int):ba (n+1) st (.lst (l.map .int))=some (.list (l.map .int)):=congrArg (Option.map PyData.list) (ed n st l)
theorem ue (n:Nat)(st:St)(l:List Int):ba (n+1) st (.tup (l.map .int))=some (.tuple (l.map .int)):=congrArg (Option.map PyData.tuple) (ed n st l)
theorem uf (n:Nat)(st:St)(i:Nat)(l:List Int)(h:st[i]?=some (.list (l.map .int))):ba (n+1) st (.obj i)=some (.list (l.map .int)):=(Ec h).trans (congrArg (Option.map PyData.list) (ed n st l))
theorem nw (st:St)(l:List Int):rO st (.lst (l.map .int)) (.lst [])=some (decide (l=[])):=by
 refine(congrArg (λo:Option PyData=>match o with
  |some x=>if x.canLay0&&true then some (PyData.eqv x (.list [])) else none
  |none=>none) (mv 5 st l)).trans ((if_pos ((and_eq_true ..).mpr ⟨canLayAll_ints l,rfl⟩)).trans ?_)
 cases l<;>rfl
section
variable {X:Cx}{σ Ki KL:Loc}{st Ke Kf KJ LM:St}
theorem ae {s:S}{r:List S}(h:xS X s σ st=some (.next,Ki,Ke)):cw X (s::r) σ st=cw X r Ki Ke:=C0 h rfl
theorem cy {s:S}{r:List S}{v:AV}(h:xS X s σ st=some (.ret v,Ki,Ke)):cw X (s::r) σ st=some (.ret v,Ki,Ke):=HE h rfl
theorem ug {s:S}{r:List S}(h:xS X s σ st=some (.brk,Ki,Ke)):cw X (s::r) σ st=some (.brk,Ki,Ke):=HD h rfl
theorem aE {tg:Tg}{e:E}{v:AV}(h:aa X e σ st=some (v,Ke))(h2:aQ σ tg v=some Ki):xS X (.asg tg e) σ st=some (.next,Ki,Ke):=jE h (congrArg (Option.map _) h2)
theorem vZ {xs:List Nat}{es:List E}{vs:List AV}(h:aN X es σ st=some (vs,Ke))(h2:bA σ xs.reverse vs.reverse=some Ki):xS X (.asg2 xs es) σ st=some (.next,Ki,Ke):=jL h (congrArg (Option.map _) h2)
theorem jK {x:Nat}{op:Operator}{e:E}{u v r:AV}(h1:af σ x=some u)(h2:aa X e σ st=some (v,Ke))(h3:lG op u v=some r):xS X (.aug x op e) σ st=some (.next,ai σ x r,Ke):=jA h1 (jE h2 (congrArg (Option.map _) h3))
theorem r8 {o i e:E}{op:Operator}{ov iv old v r:AV}(h1:aa X o σ st=some (ov,Ke))(h2:aa X i σ Ke=some (iv,Kf))(h3:cB Kf ov iv=some old)(h4:aa X e σ Kf=some (v,KJ))(h5:lG op old v=some r)(h6:jk KJ ov iv r=some LM):xS X (.augI o i op e) σ st=some (.next,σ,LM):=jE h1 (jE h2 (jA h3 (jE h4 (jA h5 (congrArg (Option.map _) h6)))))
theorem Ed {o i e:E}{ov iv v:AV}(h1:aa X e σ st=some (v,Ke))(h2:aa X o σ Ke=some (ov,Kf))(h3:aa X i σ Kf=some (iv,KJ))(h4:jk KJ ov iv v=some LM):xS X (.setI o i e) σ st=some (.next,σ,LM):=jE h1 (jE h2 (jE h3 (congrArg (Option.map _) h4)))
theorem Bq {o e:E}{ov v:AV}(h1:aa X e σ st=some (v,Ke))(h2:aa X o σ Ke=some (ov,Kf))(h3:qo Kf ov v=some KJ):xS X (.setSl o e) σ st=some (.next,σ,KJ):=jE h1 (jE h2 (congrArg (Option.map _) h3))
theorem mw {o e:E}{a:Nat}{ov v:AV}(h1:aa X e σ st=some (v,Ke))(h2:aa X o σ Ke=some (ov,Kf))(h3:fY Kf ov a v=some KJ):xS X (.setA o a e) σ st=some (.next,σ,KJ):=jE h1 (jE h2 (congrArg (Option.map _) h3))
theorem eG {e:E}{v:AV}(h:aa X e σ st=some (v,Ke))(h2:qm v=true):xS X (.expr e) σ st=some (.next,σ,Ke):=jE h (if_pos h2)
theorem dN {c:C}{a b:List S}(h:aJ X c σ st=some (true,Ke)):xS X (.iff c a b) σ st=cw X a σ Ke:=jT h rfl
theorem kT {c:C}{a b:List S}(h:aJ X c σ st=some (false,Ke)):xS X (.iff c a b) σ st=cw X b σ Ke:=jF h rfl
theorem bG {c:C}{a:List S}(h:aJ X c σ st=some (false,Ke)):xS X (.iff c a []) σ st=some (.next,σ,Ke):=jF h rfl
theorem Br {c:C}{a:List S}:xS X (.whl c a) σ st=fZ (aJ X c) (cw X a) jm σ st:=rfl
theorem sR {e:E}{v:AV}(h:aa X e σ st=some (v,Ke)):xS X (.ret e) σ st=some (.ret v,σ,Ke):=jE h rfl
noncomputable def bV (X:Cx)(tg:Tg)(body:List S)(x:AV)(σ:Loc)(st:St):Rs:=match aQ σ tg x with
 |some Kh=>cw X body Kh st
 |none=>none
theorem aR {tg:Tg}{body:List S}{x:AV}(h:aQ σ tg x=some Ki):bV X tg body x σ st=cw X body Ki st:=jG h rfl
theorem HF {tg:Tg}{src:E}{body orelse:List S}{v:AV}{xs:List AV}(h:aa X src σ st=some (v,Ke))(h2:aF Ke v=some xs)(h3:bc (λst=>an st v xs) (bV X tg body) xs σ Ke=some (.next,KL,Kf)):xS X (.for tg src body orelse) σ st=cw X orelse KL Kf:=jE h (jV h2 (C0 h3 rfl))
theorem fp {tg:Tg}{src:E}{body:List S}{v:AV}{xs:List AV}(h:aa X src σ st=some (v,Ke))(h2:aF Ke v=some xs)(h3:bc (λst=>an st v xs) (bV X tg body) xs σ Ke=some (.next,KL,Kf)):xS X (.for tg src body []) σ st=some (.next,KL,Kf):=jE h (jV h2 (C0 h3 rfl))
theorem Aj {tg:Tg}{src:E}{body orelse:List S}{v:AV}{xs:List AV}(h:aa X src σ st=some (v,Ke))(h2:aF Ke v=some xs)(h3:bc (λst=>an st v xs) (bV X tg body) xs σ Ke=some (.brk,KL,Kf)):xS X (.for tg src body orelse) σ st=some (.next,KL,Kf):=jE h (jV h2 (HD h3 rfl))
theorem wa {tg:Tg}{src:E}{body orelse:List S}{v u:AV}{xs:List AV}(h:aa X src σ st=some (v,Ke))(h2:aF Ke v=some xs)(h3:bc (λst=>an st v xs) (bV X tg body) xs σ Ke=some (.ret u,KL,Kf)):xS X (.for tg src body orelse) σ st=some (.ret u,KL,Kf):=jE h (jV h2 (HE h3 rfl))
theorem hZ {ok:St->Bool}{f:AV->Loc->St->Rs}(h:ok st=true):bc ok f [] σ st=some (.next,σ,st):=if_pos h
theorem bR {ok:St->Bool}{f:AV->Loc->St->Rs}{v:AV}{r:List AV}(h:ok st=true)(h2:f v σ st=some (.next,Ki,Ke)):bc ok f (v::r) σ st=bc ok f r Ki Ke:=(if_pos h).trans (C0 h2 rfl)
theorem Bs {ok:St->Bool}{f:AV->Loc->St->Rs}{v u:AV}{r:List AV}(h:ok st=true)(h2:f v σ st=some (.ret u,Ki,Ke)):bc ok f (v::r) σ st=some (.ret u,Ki,Ke):=(if_pos h).trans (HE h2 rfl)
theorem Ee {ok:St->Bool}{f:AV->Loc->St->Rs}{v:AV}{r:List AV}(h:ok st=true)(h2:f v σ st=some (.brk,Ki,Ke)):bc ok f (v::r) σ st=some (.brk,Ki,Ke):=(if_pos h).trans (HD h2 rfl)
theorem aj {op:Operator}{a b:E}{x y v:AV}(h1:aa X a σ st=some (x,Ke))(h2:aa X b σ Ke=some (y,Kf))(h3:aK op x y=some v):aa X (.b op a b) σ st=some (v,Kf):=jE h1 (jE h2 (congrArg (Option.map _) h3))
theorem yN {op:CmpOp}{a b:E}{x y:AV}{v:Bool}(h1:aa X a σ st=some (x,Ke))(h2:aa X b σ Ke=some (y,Kf))(h3:bJ Kf op x y=some v):aa X (.cmp op a b) σ st=some (.bool v,Kf):=jE h1 (jE h2 (congrArg (Option.map _) h3))
theorem bW {a b:E}{x y v:AV}(h1:aa X a σ st=some (x,Ke))(h2:aa X b σ Ke=some (y,Kf))(h3:cB Kf x y=some v):aa X (.sub a b) σ st=some (v,Kf):=jE h1 (jE h2 (congrArg (Option.map _) h3))
theorem eH {l:L}{vs:List AV}(h:dt X l σ st=some (vs,Ke)):aa X (.new true l) σ st=some (.obj Ke.length,Ke++[.list vs]):=jL h rfl
theorem aH {l:L}{vs:List AV}(h:dt X l σ st=some (vs,Ke)):aa X (.new false l) σ st=some (.lst vs,Ke):=jL h rfl
theorem kU {es:List E}{vs:List AV}(h:aN X es σ st=some (vs,Ke)):aa X (.tup es) σ st=some (.tup vs,Ke):=jL h rfl
theorem be {C:jD}{k:Nat}{es:List E}{vs:List AV}{v:AV}(h:aN ⟨C⟩ es σ st=some (vs,Ke))(h2:C k vs Ke=some (v,Kf)):aa ⟨C⟩ (.call k es) σ st=some (v,Kf):=jL h h2
theorem eY {C:jD}{k:Nat}{r:E}{es:List E}{vs:List AV}{x v:AV}(h0:aa ⟨C⟩ r σ st=some (x,Ke))(h1:dr Ke k x=true)(h:aN ⟨C⟩ es σ Ke=some (vs,Kf))(h2:C k (x::vs) Kf=some (v,KJ)):aa ⟨C⟩ (.meth k r es) σ st=some (v,KJ):=jE h0 ((if_pos h1).trans (jL h h2))
theorem r9 {C:jD}{r a:E}{b:Bool}{x y v:AV}(h0:aa ⟨C⟩ r σ st=some (x,Ke))(h1:dr Ke 35 x=true)(h:aa ⟨C⟩ a σ Ke=some (y,Kf))(h2:C 35 [x,y,.bool b] Kf=some (v,KJ)):aa ⟨C⟩ (.conv r a b) σ st=some (v,KJ):=jE h0 ((if_pos h1).trans (jE h h2))
theorem dn {b:Bi}{es:List E}{vs:List AV}{v:AV}(h:aN X es σ st=some (vs,Ke))(h2:gy Ke b vs=some (v,Kf)):aa X (.bi b es) σ st=some (v,Kf):=jL h h2
theorem gV {m:Sm}{r:E}{es:List E}{vs:List AV}{x v:AV}(h0:aa X r σ st=some (x,Ke))(h1:jl Ke x=true)(h:aN X es σ Ke=some (vs,Kf))(h2:jC Kf m x vs=some (v,KJ)):aa X (.sm m r es) σ st=some (v,KJ):=jE h0 ((if_pos h1).trans (jL h h2))
theorem ft {r:E}{a:Nat}{x v:AV}(h0:aa X r σ st=some (x,Ke))(h1:jj Ke x a=some v):aa X (.attr r a) σ st=some (v,Ke):=jE h0 (congrArg (Option.map _) h1)
theorem my {c:C}{a b:E}{v:AV}(h:aJ X c σ st=some (true,Ke))(h2:aa X a σ Ke=some (v,Kf)):aa X (.ite c a b) σ st=some (v,Kf):=jT h h2
theorem sa {c:C}{a b:E}{v:AV}(h:aJ X c σ st=some (false,Ke))(h2:aa X b σ Ke=some (v,Kf)):aa X (.ite c a b) σ st=some (v,Kf):=jF h h2
theorem dk:aN X [] σ st=some ([],st):=rfl
theorem fu {e:E}{r:List E}{v:AV}{vs:List AV}(h1:aa X e σ st=some (v,Ke))(h2:aN X r σ Ke=some (vs,Kf)):aN X (e::r) σ st=some (v::vs,Kf):=jE h1 (jL h2 rfl)
theorem e1 {a:E}{x:AV}(h1:aa X a σ st=some (x,Ke)):aN X [a] σ st=some ([x],Ke):=fu h1 dk
theorem e2 {a b:E}{x y:AV}(h1:aa X a σ st=some (x,Ke))(h2:aa X b σ Ke=some (y,Kf)):aN X [a,b] σ st=some ([x,y],Kf):=fu h1 (e1 h2)
theorem e3 {a b c:E}{x y z:AV}(h1:aa X a σ st=some (x,Ke))(h2:aa X b σ Ke=some (y,Kf))(h3:aa X c σ Kf=some (z,KJ)):aN X [a,b,c] σ st=some ([x,y,z],KJ):=fu h1 (e2 h2 h3)
theorem fh {e:E}{v:AV}{b:Bool}(h:aa X e σ st=some (v,Ke))(h2:fF Ke v=some b):aJ X (.val e) σ st=some (b,Ke):=jE h (congrArg (Option.map _) h2)
theorem bF {op:CmpOp}{a b:E}{x y:AV}{v:Bool}(h1:aa X a σ st=some (x,Ke))(h2:aa X b σ Ke=some (y,Kf))(h3:bJ Kf op x y=some v):aJ X (.val (.cmp op a b)) σ st=some (v,Kf):=fh (yN h1 h2 h3) rfl
theorem sd {a b:C}{v:Bool}(h:aJ X a σ st=some (true,Ke))(h2:aJ X b σ Ke=some (v,Kf)):aJ X (.and a b) σ st=some (v,Kf):=jT h h2
theorem wb {a b:C}(h:aJ X a σ st=some (false,Ke)):aJ X (.and a b) σ st=some (false,Ke):=jF h rfl
theorem uh {a b:C}{v:Bool}(h:aJ X a σ st=some (false,Ke))(h2:aJ X b σ Ke=some (v,Kf)):aJ X (.or a b) σ st=some (v,Kf):=jF h h2
theorem HG {a b:C}(h:aJ X a σ st=some (true,Ke)):aJ X (.or a b) σ st=some (true,Ke):=jT h rfl
theorem Ef {a:C}{v:Bool}(h:aJ X a σ st=some (v,Ke)):aJ X (.not a) σ st=some (!v,Ke):=JW h rfl
theorem JX:dE X [] σ st=some (true,st):=rfl
theorem uJ {c:C}{b:Bool}(h:aJ X c σ st=some (b,Ke)):dE X [c] σ st=some (b,Ke):=by cases b<;>first |exact jT h rfl |exact jF h rfl
theorem wc {a b:E}{x y:AV}{xs ys:List AV}(h1:aa X a σ st=some (x,Ke))(h2:aa X b σ Ke=some (y,Kf))(h3:cN Kf x=some xs)(h4:cN Kf y=some ys)(h5:xs.length+ys.length<=1000000):dt X (.cat a b) σ st=some (xs++ys,Kf):=jE h1 (jE h2 (jV h3 (jV h4 (if_pos h5))))
theorem Bt {a n:E}{x:AV}{k:Int}(h1:aa X a σ st=some (x,Ke))(h2:aa X n σ Ke=some (.int k,Kf))(h3:k<1000000)(h4:-1000000<k):dt X (.rep a n) σ st=some (replicate k.toNat x,Kf):=jE h1 (jE h2 (if_pos ⟨Int.lt_trans h3 (by decide),Int.lt_trans (by decide) h4⟩))
theorem cK {es:List E}{vs:List AV}(h:aN X es σ st=some (vs,Ke)):dt X (.list es) σ st=some (vs,Ke):=h
noncomputable def jt (X:Cx)(elt:E)(tg:Tg)(ifs:List C)(σ:Loc)(x:AV)(st:St):Option (List AV×St):=match aQ σ tg x with
 |some Kh=>match dE X ifs Kh st with
  |some (true,Kd)=>match aa X elt Kh Kd with
   |some (y,Mq)=>some ([y],Mq)
   |none=>none
  |some (false,Kd)=>some ([],Kd)
  |none=>none
 |none=>none
theorem bS {elt:E}{tg:Tg}{src:E}{ifs:List C}{cap:List Nat}{v:AV}{xs ys:List AV}(h:aa X src σ st=some (v,Ke))(h2:aF Ke v=some xs)(h3:xs.length<=1000000)(h4:aU (λst=>an st v xs) (jt X elt tg ifs (aX σ cap)) xs Ke=some (ys,Kf)):dt X (.comp elt tg src ifs cap) σ st=some (ys,Kf):=jE h (jV h2 ((if_pos h3).trans h4))
theorem C1 {elt:E}{tg:Tg}{x y:AV}{ifs:List C}(h:aQ σ tg x=some Ki)(h2:dE X ifs Ki st=some (true,Ke))(h3:aa X elt Ki Ke=some (y,Kf)):jt X elt tg ifs σ x st=some ([y],Kf):=jG h (jT h2 (jE h3 rfl))
theorem C3 {elt:E}{tg:Tg}{x:AV}{ifs:List C}(h:aQ σ tg x=some Ki)(h2:dE X ifs Ki st=some (false,Ke)):jt X elt tg ifs σ x st=some ([],Ke):=jG h (jF h2 rfl)
theorem lC {elt:E}{tg:Tg}{x y:AV}(h:aQ σ tg x=some Ki)(h3:aa X elt Ki st=some (y,Kf)):jt X elt tg [] σ x st=some ([y],Kf):=C1 h JX h3
noncomputable def se (o:Rs):Option (AV×St):=match o with
 |some (f,_,Kd)=>match f with
  |.ret v=>some (v,Kd)
  |.next=>some (.none,Kd)
  |.brk=>none
 |none=>none
theorem bT {C:jD}{ps:List Nat}{b:List S}{args:List AV}{v:AV}(h:bA [] ps args=some σ)(h2:cw ⟨C⟩ b σ st=some (.ret v,Ki,Ke)):bE C ps b args st=some (v,Ke):=jG h ((congrArg se h2:se _=_))
theorem wd {C:jD}{ps:List Nat}{b:List S}{args:List AV}(h:bA [] ps args=some σ)(h2:cw ⟨C⟩ b σ st=some (.next,Ki,Ke)):bE C ps b args st=some (.none,Ke):=jG h ((congrArg se h2:se _=_))
theorem cC {op:Operator}{a b c:Int}(h:augI op a b=some c):lG op (.int a) (.int b)=some (.int c):=congrArg (Option.map AV.int) h
theorem yO {a b:Int}(h:b≠0/\divisionGoesByPylong a b=false):augI .FloorDiv a b=some (a.fdiv b):=if_pos h
theorem fM {a b:Int}(h:b≠0/\divisionGoesByPylong a b=false):aK .FloorDiv (.int a) (.int b)=some (.int (a.fdiv b)):=if_pos h
theorem dT {a b:Int}(h:b≠0):aK .Mod (.int a) (.int b)=some (.int (a.fmod b)):=if_pos h
theorem sf {a b:Int}(h:eB a b=true):aK .Mult (.int a) (.int b)=some (.int (a*b)):=if_pos h
theorem sg {a b:Int}(h:0<=b/\b<2^60):aK .RShift (.int a) (.int b)=some (.int (a.fdiv (2^b.toNat))):=if_pos h
theorem JY (a:Int):aK .RShift (.int a) (.int 1)=some (.int (a.fdiv 2)):=sg (by decide)
theorem bB:cw X [] σ st=some (.next,σ,st):=rfl
end
theorem ia {c:Loc->St->Option (Bool×St)}{b:Loc->St->Rs}{n:Nat}{σ:Loc}{st Ke:St}(h:c σ st=some (true,Ke)){KL:Loc}{Kf:St}(h2:b σ Ke=some (.next,KL,Kf)):fZ c b (n+1) σ st=fZ c b n KL Kf:=by
 exact jT h (C0 h2 rfl)
theorem fy {c:Loc->St->Option (Bool×St)}{b:Loc->St->Rs}{n:Nat}{σ:Loc}{st Ke:St}(h:c σ st=some (false,Ke)):fZ c b (n+1) σ st=some (.next,σ,Ke):=by
 exact jF h rfl
theorem kV {a b:Int}(h:b.natAbs<2^64):divisionGoesByPylong a b=false:=by
 have:Nat->(Nat.log2 b.natAbs)/30+1<=300:=λ_=>by
  by_cases q:b.natAbs=0
  ·simp[q]
  ·have:=(log2_lt q).mpr h;exact JF
 unfold divisionGoesByPylong;simp only[];by_cases q:b=0
 ·simp[q]
 ·have:=this 0;simp[q];intro h;lia
theorem Eg (n:Nat)(a:List AV)(st:St):run (n+1) 6 a st=bE (run n) [99] b6 a st:=rfl
theorem Eh (n:Nat)(c:Nat)(st:St)(h1:c<128):run (n+1) 6 [.int c] st=some (.str [if c<32\/c=127 then c+128 else c],st):=by
 rw[Eg];have lt:aJ ⟨run n⟩ (.val (.cmp .Lt (.l 99) (.int 32))) [(99,.int c)] st=some (decide ((c:Int)<32),st):=bF rfl rfl rfl;have eq:aJ ⟨run n⟩ (.val (.cmp .Eq (.l 99) (.int 127))) [(99,.int c)] st=some (decide ((c:Int)=127),st):=bF rfl rfl (gG st _ _);have hi:aa ⟨run n⟩ (.bi .chr [.b .Add (.l 99) (.int 128)]) [(99,.int c)] st=some (.str [c+128],st):=dn (e1 (aj rfl rfl rfl)) (if_pos (show(0:Int)<=(c:Int)+128/\(c:Int)+128<256 from Jv (by assumption)));by_cases h:c<32
 ·rw[if_pos (.inl h)];exact bT rfl (cy (sR (my (HG (lt.trans (congrArg (λb=>some (b,st)) (decide_eq_true (ofNat_lt.mpr h))))) hi)))
 ·have h2:=lt.trans (congrArg (λb=>some (b,st)) (decide_eq_false λe=>h (ofNat_lt.mp e)));by_cases q:c=127
  ·rw[if_pos (.inr q)];exact bT rfl (cy (sR (my (uh h2 (eq.trans (congrArg (λb=>some (b,st)) (decide_eq_true (by omega))))) hi)))
  ·rw[if_neg (λz=>z.elim h q)];exact bT rfl (cy (sR (sa (uh h2 (eq.trans (congrArg (λb=>some (b,st)) (decide_eq_false (by omega))))) (dn (e1 rfl) (if_pos (show(0:Int)<=(c:Int)/\(c:Int)<256 by exact JH))))))
end P
section
variable {Z:Kz}{w:World}{A:Around}{F F' F0:bf}{φ Kn φ0 own:List Addr}{st LG Ke Kf Kd:St}{s:Shared}{h h' hb:Heap}{env:Env}{pos:Pos}{σ Kh K4:Loc}{sc scope sI:Scope}{cap ps caps:List Nat}{O:List Addr}{I:Addr}
noncomputable def bL (K:Frag)(a:Nat):Option FuncData:=(K.lookup a).bind λo=>match o.data with
 |.func fd=>some fd
 |_=>none
noncomputable def kW (K:Frag)(a:Addr)(ps:List Nat):Bool:=(bL K a).any λfd=>fd.params.posonlyargs.isEmpty&&(fd.params.kwonlyargs.isEmpty&&(fd.params.vararg.isNone&&(fd.params.kwarg.isNone&&(fd.defaults==.none&&(fd.params.args.map (·.arg)==ps.map nm&&decide ps.Nodup)))))
noncomputable def Ei (s:Stmt):Bool:=rY s λ_ i _ b=>ip b (dv i λf as p2=>ff f (nm 46) λo ap=>eP o (nm 135) (ip as (ap.endLine==p2.line)))
noncomputable def we (K:Frag)(a:Nat)(k:FuncData->Bool):Bool:=match bL K a with
 |some fd=>k fd
 |none=>false
noncomputable def kX (fd:FuncData)(k:List Stmt->Bool):Bool:=match fd.body with
 |.stmts l=>k l
 |_=>false
noncomputable def Ej {α:Type}(l:List α)(k:α->α->α->α->Bool):Bool:=eE l λa r=>eE r λb r=>Bc r (k a b)
theorem rg {K:Frag}{a:Nat}{k:FuncData->Bool}{fd:FuncData}(h:we K a k=true)(e:bL K a=some fd):k fd=true:=by unfold we at h;rw[e]at h;exact h
theorem kY {fd:FuncData}{k:List Stmt->Bool}{l:List Stmt}(h:kX fd k=true)(e:fd.body=.stmts l):k l=true:=by unfold kX at h;rw[e]at h;exact h
theorem si {α:Type}{l:List α}{f:α->α->α->α->Bool}{P:List α->Prop}(k:∀ x y z u,f x y z u=true->P [x,y,z,u]):Ej l f=true->P l:=
 bD λa r=>bD (P:=λr=>P (a::r)) λb r=>kx (P:=λr=>P (a::b::r)) (k a b)
noncomputable def Ek (K:Frag)(a:Addr):Bool:=we K a λfd=>kX fd λl=>Ej l λs1 s2 s3 s4=>cX fd.scope yL [s1,s2]&&(Ei s3&&cX fd.scope yM [s4])
structure Mc (Z:Kz):Prop where
 fva:∀ f,f<37->fv f=.ref (cr f)
 tab:mo.all (λe=>fg Z.K (cr e.1) e.2.1 e.2.2&&kW Z.K (cr e.1) e.2.1)=true
 f32:fg Z.K (cr 32) [129,110,132] Ea=true
 d32:∀ fd,bL Z.K (cr 32)=some fd->∀ s,Z.K.In s.heap->∀ v1 v2,BindsTo s fd ⟨[v1,v2],[]⟩ (([129,110,132].map nm).zip [v1,v2,.none])
 f20:fg Z.K 76 [129,130] D9=true
 d20:∀ fd,bL Z.K 76=some fd->∀ s,Z.K.In s.heap->∀ v1 v2,BindsTo s fd ⟨[v1,v2],[]⟩ (([129,130].map nm).zip [v1,v2])
 f21:fg Z.K 260 [129,154] Eb=true
 p21:kW Z.K 260 [129,154]=true
 mks:∀ c:Nat,makesIn Z.K (ca c)=true/\findIn Z.K (.ref (ca c)) "__init__"=some (some (.ref (if c=0 then 76 else 260)))/\typeIn Z.K (.ref (if c=0 then 76 else 260))=some (.type "function")
 sysm:∃ o,Z.K.lookup sysModules=some o
 f34:fg Z.K (cr 34) [129,133,134,135] [.bad,.bad,.bad,.bad]=true
 a34:Ek Z.K (cr 34)=true
 d34:∀ fd,bL Z.K (cr 34)=some fd->∀ v1 v2 v3,bindArgs fd ⟨[v1,v2,v3],[]⟩=(alloc emptyDict>>=λd=>pure (([129,133,134,135].map nm).zip [v1,v2,v3,.ref d]))
 f35:fg Z.K (cr 35) [129,64,110] Gf=true
 d35:∀ fd,bL Z.K (cr 35)=some fd->∀ v1 v2 v3,bindArgs fd ⟨[v1,v2],[(ofString "name",v3)]⟩=pure (([129,64,110].map nm).zip [v1,v2,v3])
section
variable {p:Pos}{a:Addr}
theorem FnAt.funcAt {K:Frag}{ps:List Nat}{b:List S}{o:Obj}{fd:FuncData}{l:List Stmt}(x:FnAt K a ps b o fd l):bL K a=some fd:=by
 unfold Mine.Internal.bL;rw[x.at_,Option.bind_some,x.data]
theorem FnAt.cloOk {K:Frag}{ps:List Nat}{b:List S}{o:Obj}{fd:FuncData}{l:List Stmt}(fa:FnAt K a ps b o fd l)(h:Heap):Lb F φ [] fd.scope [] h:=
 ⟨λx c m=>absurd m not_mem_nil,λx y c m=>absurd m not_mem_nil,λx e=>(fa.nofree x e).elim,λx c m=>absurd m not_mem_nil,λx v e=>absurd e bg⟩
theorem oT {γ:Type}{c:Prop}[d:Decidable c]{a b:γ}{r:γ}{P:Prop}(e:(if c then a else b)=r)(f:c->a=r->P)(g:¬ c->b=r->P):P:=by
 cases d with
 |isTrue h=>exact f h e
 |isFalse h=>exact g h e
theorem gH {P:Nat->AV->Prop}{y x:Nat}{u v:AV}{r:Loc}(f:P y u)(g:af r x=some v->P x v)(e:af ((y,u)::r) x=some v):P x v:=by
 unfold af at e
 cases q:Nat.beq y x with
 |true=>rw[q]at e;exact Nat.eq_of_beq_eq_true q▸KO e▸f
 |false=>rw[q]at e;exact g e
theorem gJ {C:jD}{ps:List Nat}{b:List S}{args:List AV}{v:AV}(e:bE C ps b args st=some (v,Kd)):∃ σ fl Kh,bA [] ps args=some σ/\cw ⟨C⟩ b σ st=some (fl,Kh,Kd)/\fl≠.brk/\vT fl=v:=by
 refine oG e λσ h1 e=>?_
 cases h2:cw ⟨C⟩ b σ st with
 |none=>rw[h2]at e;exact absurd e bg
 |some q=>
  obtain⟨f,Kh,Ke⟩:=q;rw[h2]at e
  cases f with
  |next=>exact oP (P:=λv Kd=>∃ σ fl Kh,bA [] ps args=some σ/\cw ⟨C⟩ b σ st=some (fl,Kh,Kd)/\fl≠.brk/\vT fl=v) e ⟨σ,_,_,h1,h2,nofun,rfl⟩
  |brk=>exact absurd e bg
  |ret u=>exact oP (P:=λv Kd=>∃ σ fl Kh,bA [] ps args=some σ/\cw ⟨C⟩ b σ st=some (fl,Kh,Kd)/\fl≠.brk/\vT fl=v) e ⟨σ,_,_,h1,h2,nofun,rfl⟩
theorem ib {C:jD}{k:Nat}(hk:1<=k)(hC:cx Z w k C)(G:Glob Z){ps:List Nat}{b:List S}{args:List AV}{v:AV}{Kr vv:List Value}{kw:List (Str×Value)}
  (PU:fg Z.K a ps b=true) (M6:∀ fd,bL Z.K a=some fd->BindsTo s fd ⟨vv,kw⟩ ((ps.map nm).zip Kr)) (e:bE C ps b args st=some (v,Kd)) (rm:Ks (k+2) A) (R:Kj Z F φ st s.heap) (V:Km F φ args Kr) :
  Good Z w A (call (.ref a) vv kw) F φ s v Kd:=λQ hQ=>by
 refine mN (gJ e) ?_;rintro σ fl Kh h1 h2 h3 rfl;refine th (iD PU) λo fd l fa=>?_;exact wpAny_call (pv (X:=⟨C⟩) hk hC G fa (M6 fd fa.funcAt) h1 h2 h3 rm R V λF' Kn v' h' tk S R' V'=>hQ F' Kn v' h' tk S R' V')
theorem wf:∀ {ps:List Nat},ps.Nodup->(ps.map nm).Nodup:=by
 intro ps
 induction ps with
 |nil=>
  intro _;exact nodup_nil
 |cons x r ih=>
  intro h;refine av (nodup_cons.mp h) λh1 h2=>?_;rw[map_cons];exact nodup_cons.mpr ⟨λm=>by refine ak (mem_map.mp m) λy m e=>?_;exact h1 (nm_inj e▸m),ih h2⟩
theorem eZ {ps:List Nat}{Kr:List Value}(h:kW Z.K a ps=true)(hl:Kr.length=ps.length):∀ fd,bL Z.K a=some fd->BindsTo s fd ⟨Kr,[]⟩ ((ps.map nm).zip Kr):=λfd hf=>by
 refine ak (ou h) λfd' e h=>?_;rw[hf]at e;cases e;refine av (bC h) λh1 h=>?_;refine av (bC h) λh2 h=>?_;refine av (bC h) λh3 h=>?_;refine av (bC h) λh4 h=>?_;refine av (bC h) λh5 h=>?_;refine av (bC h) λh6 h7=>?_;have nd:(ps.map nm).Nodup:=wf (of_decide_eq_true h7);exact BindsTo.of_eq (kO (isEmpty_iff.mp h1) (isEmpty_iff.mp h2) (isNone_iff_eq_none.mp h3) (isNone_iff_eq_none.mp h4) (by cases q:fd.defaults<;>rw[q]at h5<;>first |rfl |cases h5) (dh h6) nd (by rw[hl,length_map]))
theorem mz {α:Type}:∀ {l:List (Nat×α)} {f:Nat} {q:α},l.lookup f=some q->(f,q)∈l
 |(n,x)::r,f,q,h=>by
  rw[lookup_cons]at h
  cases z:f==n with
  |true=>rw[z]at h;cases h;rw[eq_of_beq z];exact .head _
  |false=>rw[z]at h;exact .tail _ (mz h)
theorem wg {C:jD}{k:Nat}(hk:1<=k)(hC:cx Z w k C)(G:Glob Z)(P:Mc Z){f:Nat}{q:List Nat×List S}{args:List AV}{v:AV}{Kr:List Value}(hq:mo.lookup f=some q)
  (e:bE C q.1 q.2 args st=some (v,Kd)) (rm:Ks (k+2) A) (R:Kj Z F φ st s.heap) (V:Km F φ args Kr):Good Z w A (call (fv f) Kr) F φ s v Kd:=by
 have m:=mz hq
 have hf:f<37:=by
  have:=mem_map_of_mem (f:=Prod.fst) m
  have hh:∀ x∈mo.map Prod.fst,x<37:=by
   show ∀ x∈[0,1,2,3,4,5,6,7,8,9,10,11,12,13,14,15,18,19,22,30,31,33,36],x<37;decide
  exact hh _ this
 have h:=all_eq_true.mp P.tab _ m;refine av (bC h) λh1 h2=>?_;rw[P.fva f hf];refine yi (gJ e) λσ _ _ hs _=>?_;have hl:=cJ hs;have MB:=V.length;exact ib hk hC G h1 (eZ h2 (MB.symm.trans hl)) e rm R V
theorem Ks.creation {k:Nat}(rm:Ks (k+3) A)(C:Addr)(rest:List Value)(kw:List (Str×Value)):Ks (k+2) (A.under (.builtin "type.__call__" ⟨.ref C::rest,kw⟩)):=by
 have h1:Code.weight (.builtin "type.__call__" ⟨.ref C::rest,kw⟩)=1:=by first |rfl |kernel_rfl
 have h2:Code.cUnits (.builtin "type.__call__" ⟨.ref C::rest,kw⟩)=1:=by first |rfl |kernel_rfl
 refine⟨rm.hd,?_,?_⟩
 ·have:=rm.dp;show A.depth+Code.weight _+2*(k+2)<=900;rw[h1];exact Q1 0x38431311502124011038431211502121114001102 [_,_] this rfl
 ·have:=rm.un;show A.units+Code.cUnits _+20*(k+2)<=9000;rw[h2];exact Q1 0x232841311501422401102328412115014221114001102 [_,_] this rfl
theorem sj {C:jD}{k c:Nat}(hk:1<=k)(hC:cx Z w k C)(G:Glob Z){ps:List Nat}{b:List S}{args:List AV}{v:AV}{Kr:List Value}
  (hm:makesIn Z.K (ca c)=true) (hi:findIn Z.K (.ref (ca c)) "__init__"=some (some (.ref a))) (hf:typeIn Z.K (.ref a)=some (.type "function"))
  (PU:fg Z.K a ps b=true) (M6:∀ fd,bL Z.K a=some fd->∀ s,Z.K.In s.heap->∀ x,BindsTo s fd ⟨x::Kr,[]⟩ ((ps.map nm).zip (x::Kr))) (e:vV C c ps b args st=some (v,Kd)) (rm:Ks (k+3) A)
  (R:Kj Z F φ st s.heap) (V:Km F φ args Kr):Good Z w A (call (.ref (ca c)) Kr) F φ s v Kd:=λQ hQ=>by
 obtain⟨hh,g,d,t,os⟩:=s;refine oG e λσ h1 e=>kQ e λKh Ke h2 e=>?_;have X':=R.base.inK R.frz;refine av (R.newM (o:=emptyDict) (ao:=.dict []) rfl ⟨[],0,get?_push_size _ rfl,le_refl _,λx v e=>absurd e bg,λx e=>rfl,λe m=>absurd m not_mem_nil⟩) λR1 S1=>?_;have hd:(φ++[hh.objs.size])[st.length]?=some hh.objs.size:=by rw[← R.len];simp
 refine av (R1.newM (o:=instObj (ca c) hh.objs.size) (ao:=.inst c st.length) rfl ⟨hh.objs.size,#[],get?_push_size _ rfl,eR (prefix_append _ _) hd⟩) λR2 S2=>?_;have sz:(hh.push emptyDict).objs.size=hh.objs.size+1:=size_push ..;rw[sz]at R2 S2
 have hx:(φ++[hh.objs.size]++[hh.objs.size+1])[st.length+1]?=some (hh.objs.size+1):=by
  rw[← R.len];simp
 have LH:=(S1 []).trans (S2 []);refine th (iD PU) λo fd l fa=>?_;refine wpAny_call (make_core (makes_of X' hm) (looks_findIn X' hi) (λself=>bind_fn X' self hf) (.inl rfl) ?_);refine pv (X:=⟨C⟩) (s:=⟨(hh.push emptyDict).push (instObj (ca c) hh.objs.size),g,d,t,os⟩) hk hC G fa (M6 fd fa.funcAt _ (R2.base.inK R2.frz) _) h1 h2 nofun (rm.creation _ _ _) R2 (.cons (.obj hx) (V.mono LH.le LH.pre)) λF' Kn v' h' tk S R' V'=>?_;exact VR.noneR (P:=λv'=>v'=.none/\_) ⟨rfl,oP (P:=λv Kd=>Ky Z F φ ⟨hh,g,d,t,os⟩ v Kd Q->Q _ _) e (λhQ=>hQ F' Kn _ h' tk (LH.trans S) R' (.obj (eR S.pre hx))) hQ⟩ V'
theorem wi {t:Expr}{body:List Stmt}{d:Addr}{n:Nat}{p1 p2 apos:Pos}{Q:Flow->Shared->Prop}(hh:A.handled=none)(KA:(apos.endLine==p2.line)=true)(ld:∀ Q:Value->Shared->Prop,Q (.ref d) s->aA w A (eval (.Name (nm 135) p1) env) Q aq s)
  (hd:s.heap.get? d=some (dictOf [] n)) (hs:(d==sysModules)=false) (hQ:∀ h' tk,(∀ b o,s.heap.get? b=some o->h'.get? b=some o)->Q .next ⟨h',s.gens,s.drawn,tk,s.os⟩) :
  aA w A (exec (.For t (.Call (.Attribute (.Name (nm 135) p1) (nm 46) apos) [] [] p2) body [] p) env) Q aq s:=by
 have hn:nm 46=ofString "items":=by decide +kernel
 have QE:∀ h':Heap,h'.get? d=some (dictOf [] n)->h'.DictAt (intKind aM w) d [] n:=λh' e=>⟨_,#[],e,⟨rfl,rfl,rfl⟩,rfl,λe m=>(by simp at m),.nil,nodup_nil⟩;rw[hn];refine wpAny_For (PySem.Call_method0 (cW rfl) KA (ld _ ?_)) (λ_=>rfl);refine⟨"dict","dict.items",PySem.F.plainAttrs_dict,PySem.F.slot_dict_items,PySem.F.type_dict_items,⟨_,hd,rfl⟩,λa z=>?_,?_⟩
 ·cases z;exact⟨_,hd,rfl⟩
 refine method_meetsIn PySem.F.slot_dict_items PySem.F.entry_dict_items rfl (PySem.evalArgs_none ⟨rfl,⟨_,hd,rfl⟩,PySem.F.args_dict_items_1 _,_,meets_dict_items (intKind aM w) d hs,⟨[],_,#[],n,hd,⟨rfl,rfl,rfl⟩,rfl,λe m=>(by simp at m),.nil,nodup_nil⟩,?_⟩);have e1:(s.heap.push { cls:=.type "dict_items",data:=.fields #[.ref d] }).get? d=some (dictOf [] n):=aC _ _ hd;refine wpAny_pyIter_items (knd:=intKind aM w) (kvs:=[]) (ep:=n) ⟨_,get?_push_size _ rfl,rfl,rfl⟩ (QE _ e1) ?_;refine kK (λm s'=>s'={ s with heap:=(s.heap.push { cls:=.type "dict_items",data:=.fields #[.ref d] }).push { cls:=.type "dict_itemiterator",data:=.fields #[.none,.bool false,.ref d,.int 0 0,.int (([]:List (Int×Value)).length:Nat) 0,.int n 0,.none,.none] } }) (λm s' hI=>?_) 0 rfl;subst hI;refine wpAny_pyNext_items_end (knd:=intKind aM w) (kvs:=[]) (i:=0) (ep:=n) hh (get?_push_size _ rfl) (QE _ (aC _ _ e1)) rfl λh1 k1=>?_;refine wpAny_execs_nil (hQ h1 _ λb o e=>k1 b o (λz=>?_) (aC _ _ (aC _ _ e)));have:=lt_size e;rw[z]at this;rw[size_push]at this;exact absurd this (not_lt.mpr (le_succ _))
theorem kZ {X:Cx}{t:S}{r:List S}{P:Prop}(e:cw X (t::r) σ st=some (.next,Kh,Kd))(k:∀ Ki Ke,xS X t σ st=some (.next,Ki,Ke)->cw X r Ki Ke=some (.next,Kh,Kd)->P):P:=
 oF e k (λ_ _ _ e=>nomatch e) (λ_ _ _ _ e=>nomatch e)
theorem yP {d:Addr}(R:Kj Z F φ st h)(hm:d∈φ)(hk:∃ o,F sysModules=some o):(d==sysModules)=false:=by
 rw[beq_eq_false_iff_ne];rintro rfl;refine aw hk ?_;clear hk;intro o e;rw[R.new _ hm]at e;cases e
theorem yQ {C:jD}{k:Nat}(hk:1<=k)(hC:cx Z w k C)(G:Glob Z)(P:Mc Z){args:List AV}{v:AV}{Kr:List Value}(e:vX C args st=some (v,Kd))(rm:Ks (k+2) A)
  (R:Kj Z F φ st s.heap) (V:Km F φ args Kr):Good Z w A (call (.ref (cr 34)) Kr) F φ s v Kd:=λQ hQ=>by
 refine oG e λσ h1 e=>kQ e λKi Ke h2 e=>oI e λhn e=>kQ e λKL Kf h3 e=>oP (P:=λv Kd=>Ky Z F φ s v Kd Q->aA w A (call (.ref (cr 34)) Kr) Q aq s) e (λhQ=>?_) hQ;have X':=R.base.inK R.frz;refine th (iD P.f34) λo fd l fa=>?_;have KH:=fa.body;revert KH;refine si (P:=λl=>fd.body=.stmts l->_) (λs1 s2 s3 s4 ha KH=>fX ha λc1 c2 c3=>?_) (kY (rg P.a34 fa.funcAt) fa.body);have hl3:Kr.length=3:=V.length.symm.trans (Nat.add_right_cancel ((length_append (bs:=[AV.obj st.length])).symm.trans (cJ h1)));revert V;refine AS hl3 λv1 v2 v3 V=>?_;refine av (R.newM (o:=emptyDict) (ao:=.dict []) rfl ⟨[],0,get?_push_size _ rfl,le_refl _,λx v e=>absurd e bg,λx e=>rfl,λe m=>absurd m not_mem_nil⟩) λR1 S1=>?_;have hd:(φ++[s.heap.objs.size])[st.length]?=some s.heap.objs.size:=by rw[← R.len];simp
 have V1:Km F (φ++[s.heap.objs.size]) (args++[.obj st.length]) [v1,v2,v3,.ref s.heap.objs.size]:=Km.append (V.mono (K7.refl _) (prefix_append _ _)) (.cons (.obj hd) .nil);refine wpAny_call (codeAny_call_function rm.depth (X' _ _ fa.at_) fa.data fa.co fa.gen KH (codeRec_of X' fa.code) ?_);rw[P.d34 fd fa.funcAt,fa.glob,fa.blt,fa.clo];refine wpAny_bind (wpAny_alloc (wpAny_pure ?_));have Cl:=fa.cloOk (F:=F) (φ:=φ++[s.heap.objs.size]) (s.heap.push emptyDict);refine oS (iC (s:=⟨s.heap.push emptyDict,s.gens,s.drawn,s.toks,s.os⟩) R1 fa.kind fa.nd Cl fa.ps h1 V1 λMD Kk O' tk S2 R2 hO L2 _ _ _ _=>⟨R2.base.noLimit R2.frz,?_⟩);have Ms:Ks (k+1) (A.deeper Kk):=rm.deeper Kk;refine codeAny_func (oS ?_);refine nX (show ∃ x1 x2,yL=[x1,x2] from ⟨_,_,rfl⟩) λx1 x2 hb=>?_;rw[hb]at c1 h2;refine kZ h2 λσm KV g1 g2=>kZ g2 λσn stn g3 g4=>bU c1 λd1 d2=>bU d2 λd2 _=>?_;cases g4;refine wpAny_execs_cons ((uc (X:=⟨C⟩) hk hC G x1).run (s:=sw s MD tk) d1 g1 Ms R2 L2 _ λF2 KI OF h2'' Ku S2' R2' L2' f2=>?_);cases f2;refine wpAny_execs_cons ((uc (X:=⟨C⟩) hk hC G x2).run (s:=sw s h2'' Ku) d2 g3 Ms R2' L2' _ λF3 Ma fl3 Ni KU S3' R3 L3 f3=>?_);cases f3;refine wpAny_execs_cons ?_;clear KH ha
 refine nk (P:=λs3=>wpAny (model aM w) (A.deeper Kk) (exec s3 Kk) _ aq ⟨Ni,s.gens,s.drawn,KU,s.os⟩) (λt it bd oe pf c=>ku (P:=λoe=>wpAny (model aM w) (A.deeper Kk) (exec (.For t it bd oe pf) Kk) _ aq ⟨Ni,s.gens,s.drawn,KU,s.os⟩) (λc=>
  bY (P:=λit=>wpAny (model aM w) (A.deeper Kk) (exec (.For t it bd [] pf) Kk) _ aq ⟨Ni,s.gens,s.drawn,KU,s.os⟩) (λfn as p2 c=>dz (P:=λfn=>wpAny (model aM w) (A.deeper Kk) (exec (.For t (.Call fn as [] p2) bd [] pf) Kk) _ aq ⟨Ni,s.gens,s.drawn,KU,s.os⟩) (λo2 ap c=>
  bn (P:=λo2=>wpAny (model aM w) (A.deeper Kk) (exec (.For t (.Call (.Attribute o2 (nm 46) ap) as [] p2) bd [] pf) Kk) _ aq ⟨Ni,s.gens,s.drawn,KU,s.os⟩) (λp1 c=>ku (P:=λas=>wpAny (model aM w) (A.deeper Kk) (exec (.For t (.Call (.Attribute (.Name (nm 135) p1) (nm 46) ap) as [] p2) bd [] pf) Kk) _ aq ⟨Ni,s.gens,s.drawn,KU,s.os⟩) (λq5=>?_) c) c) c) c) c) c2
 refine ak (vW hn) λj hj hj2=>?_;refine ak (L3.val 135 _ hj) λu hu nu=>?_;refine ak hu.inv ?_;rintro d rfl hi;refine cP (R3.obj _ _ _ hi hj2) λes n e3 l3 _=>?_;cases List.length_eq_zero_iff.mp (Nat.le_zero.mp l3);have Mh:(d==sysModules)=false:=yP R3 (mem_of_getElem? hi) (P.sysm.elim λo e=>⟨o,R3.base.X _ _ e⟩);refine wi (s:=sw s Ni KU) Ms.hd q5 (λQ hq=>ga (s:=sw s Ni KU) L3 hj (by decide) λv' hv=>?_) e3 Mh λh4 Lx k4=>?_
 ·exact VR.objR (P:=λv'=>Q v' _) (λa MI=>KO (hi.symm.trans MI)▸hq) hv
 refine(vS (X:=⟨C⟩) hk hC G yM).run (s:=sw s h4 Lx) c3 h3 Ms (R3.ext k4) (L3.step (Step.ext k4)) _ λF5 LD fl5 h5 LO S5 R5 L5 f5=>?_;cases f5;exact hQ F5 LD .none h5 LO ((S1 []).trans (S2.hide (((S2'.trans S3').trans (Step.ext k4)).trans S5) hO)) R5 .none
end
section
variable {p:Pos}{a P:Addr}
noncomputable def wj (Z:Kz)(P:Addr):Pos:=if P=cQ then Z.pos1 else Z.pos2
noncomputable def tQ (Z:Kz)(P:Addr):Str:=if P=cQ then Z.q1 else Z.q2
theorem Kj.tab (hP:P=cQ\/P=dq)(R:Kj Z F φ st h):Md F h P (wj Z P) (tQ Z P)/\F P=none/\P∉φ:=by
 rcases hP with rfl |rfl
 ·exact⟨R.t1,R.n1⟩
 ·exact⟨R.t2,R.n2⟩
theorem Step.tab (hP:P=cQ\/P=dq)(k:Heap.ExtBut P h h')(hd:∃ o,h'.get? P=some o):Step F φ own h F φ h':=
 ⟨K7.refl F,λ_ _ e=>.inl e,prefix_refl φ,λ_ m=>.inl m,λb o e=>by
  by_cases z:b=P
  ·subst z;exact hd
  ·exact⟨o,k b o z e⟩,λb o e _ n1 n2 _=>k b o (by rcases hP with rfl |rfl<;>assumption) e⟩
theorem ui {c:Addr}{name:Str}{params:Arguments}{body:List Stmt}{K2:List (Str×Addr)}{qual:Str}{fl:Nat}{Q:Value->Shared->Prop}(hP:P=cQ\/P=dq)(R:Kj Z F φ st s.heap)(L:Kl F φ σ sc env O s.heap)
  (hq:qual=tQ Z P) (ME:env.code=.ref c) (Oa:codeHdIn Z.K c P=true) (NG:closureFor scope env=pure K2) (PV:mainGlobals≠P)
  (hb:∃ bm ob,Z.mg "__builtins__"=some (.ref bm)/\bm≠builtinsNs/\bm≠mainGlobals/\bm≠P/\Z.K.lookup bm=some ob/\ob.cls=.type "module"/\ob.dict=some builtinsNs/\ob.data=.plain)
  (hQ:∀ F' h' f c' oc vs t doc Mt tk,Step F φ [] s.heap F' φ h'->Kj Z F' φ st h'->F' f=some (fnMade name qual params body scope K2 doc ((Z.mg "__name__").getD .none) c' Mt)->F' c'=some oc->oc.data=.fields vs->vs[1]?=some (.str qual t) ->
   Q (.ref f) ⟨h',s.gens,s.drawn,tk,s.os⟩) :
  aA w A (makeFunction name qual params (.stmts body) scope env [] [] [] (wj Z P) fl) Q aq s:=by
 refine GQ hb ?_;clear hb;intro bm ob b1 b2 b3 b4 b5 b6 b7 b8;have X:=R.base.inK R.frz;have hB:s.heap.BuiltinsAt Z.mg P:=⟨bm,ob,b1,b2,b3,b4,X _ _ b5,b6,b7,b8⟩;refine mM (R.tab hP) ?_;rintro⟨ps,OE,Pf,hc⟩ nF nφ
 have fresh:∀ {h':Heap},(∀ b o,b≠P->s.heap.get? b=some o->h'.get? b=some o)->s.heap.objs.size<=h'.objs.size->∀ b,s.heap.objs.size<=b->s.heap.get? b=none:=λ_ _ b hb=>by
  cases q:s.heap.get? b with
  |none=>rfl
  |some o=>exact absurd (lt_size q) (not_lt.mpr hb)
 rcases hc with QF |⟨c',oc,vs,t,hf,Pg,hd,hv⟩
 ·refine makeFunction_K NG L.glob (R.base.g.ns R.frz) ME (codeHd_of_K X Oa) OE Pf QF PV hB λc' Mt doc h' tk hx Ob Lj OG QG=>?_;refine GO OG ?_;clear OG;intro c2 oc vs t e2 Pg hd hv;cases e2
  have new:∀ b,s.heap.objs.size<=b->s.heap.get? b=none:=λb hb=>by
   cases q:s.heap.get? b with
   |none=>rfl
   |some o=>exact absurd (lt_size q) (not_lt.mpr hb)
  have nc:=new c' Ob;refine gQ (R.absent nc) λm1 m2 m3 m4=>?_;have S1:Step F φ [] s.heap F φ h':=Step.tab hP hx ⟨_,QG⟩
  have tF:Md (hJ F c' oc) h' P (wj Z P) (tQ Z P):=⟨_,QG,by
   rw[toList_append]
   exact TriplesOk_snoc _ _ _ _ Pf,.inr ⟨c',oc,vs,t,by
    rw[toList_append]
    exact codeAmong_snoc _ Pf QF,bP,hd,by rw[hv,hq]⟩⟩
  have nPc:P≠c':=λz=>by rw[← z,OE]at nc;cases nc
  have R1:Kj Z (hJ F c' oc) φ st h':=by
   have R0:Kj Z (hJ F c' oc) φ st s.heap\/True:=.inr trivial;have kF:∀ b o,F b=some o->h'.get? b=some o:=λb o e=>hx b o (λz=>by rw[z,nF]at e;cases e) (R.frz b o e);have QH:∀ b∈φ,∀ o,s.heap.get? b=some o->h'.get? b=some o:=λb m o e=>hx b o (λz=>nφ (z▸m)) e;have le:K7 F (hJ F c' oc):=cV m1;refine⟨R.base.mono le,λb o e=>?_,R.len,R.nod,λb m=>?_,λb m=>let ⟨o,e⟩:=R.dom b m;⟨o,QH b m o e⟩,λi b o e1 e2=>(R.obj i b o e1 e2).mono le (prefix_refl φ) λo' e'=>QH b (mem_of_getElem? e1) o' e',?_,?_,?_,?_⟩
   ·unfold hJ at e;by_cases z:b=c'
    ·rw[if_pos z]at e;cases e;rw[z];exact Pg
    ·rw[if_neg z]at e;exact kF b o e
   ·have:b≠c':=λz=>m2 (z▸m);unfold hJ;rw[if_neg this];exact R.new b m
   ·rcases hP with rfl |rfl
    ·exact tF
    ·exact R.t1.mono le λo e=>hx _ o (by decide) e
   ·rcases hP with rfl |rfl
    ·exact R.t2.mono le λo e=>hx _ o (by decide) e
    ·exact tF
   ·exact⟨by unfold hJ;rw[if_neg (Ne.symm m3)];exact R.n1.1,R.n1.2⟩
   ·exact⟨by unfold hJ;rw[if_neg (Ne.symm m4)];exact R.n2.1,R.n2.2⟩
  have Pb:Step F φ [] s.heap (hJ F c' oc) φ h':=⟨cV m1,λx o e=>by
   unfold hJ at e;by_cases z:x=c'
   ·subst z;exact .inr (.inl nc)
   ·rw[if_neg z]at e;exact .inl e,S1.pre,S1.pnew,S1.dom,S1.kept⟩
  refine av (R1.newF (o:=fnMade name qual params body scope K2 doc ((Z.mg "__name__").getD .none) c' Mt) rfl) λR2 S2=>?_;have PW:c'≠h'.objs.size:=ne_of_lt Lj;exact hQ _ _ _ c' oc vs t doc Mt tk (Pb.trans (S2 [])) R2 bP (by unfold hJ;rw[if_neg PW];exact bP) hd hv
 ·refine makeFunction_hit NG L.glob (R.base.g.ns R.frz) ME (codeHd_of_K X Oa) OE Pf hf hB λMt doc h' tk hk LU=>?_;refine av ((R.ext hk).newF (o:=fnMade name qual params body scope K2 doc ((Z.mg "__name__").getD .none) c' Mt) rfl) λR2 S2=>?_;have PW:c'≠h'.objs.size:=ne_of_lt (lt_of_lt_of_le (lt_size (R.frz _ _ Pg)) LU);exact hQ _ _ _ c' oc vs t doc Mt tk ((Step.ext hk).trans (S2 [])) R2 bP (by unfold hJ;rw[if_neg PW];exact Pg) hd (by rw[hv,hq])
end
noncomputable def X0:Cx:=⟨λ_ _ _=>none⟩
section
variable {p:Pos}{a P:Addr}
theorem eI:cx Z w 1 X0.C:=λf args st v Kd e=>by cases e
theorem Lb.step {cl:List (Str×Addr)}(C:Lb F φ K4 scope cl h)(S:Step F φ [] h F' Kn h'):Lb F' Kn K4 scope cl h':=by
 have kp:∀ x c,(x,c)∈cl->∀ v,h.IsCell c v->h'.IsCell c v:=λx c m v=>by
  rintro⟨o,e,d⟩;refine Df (C.ex x c m) λ_ _ n2 n3 n4=>?_;exact⟨o,S.kept c o e n2 n3 n4 (λz=>by cases z),d⟩
 refine⟨λx c m=>?_,C.apart,C.free,C.only,λx v e=>?_⟩
 ·refine Df (C.ex x c m) ?_;rintro⟨v,hv⟩ n1 n2 n3 n4;refine ak (id hv) λo e _=>?_;have:=(KD.mk ⟨o,e⟩ n1 n2 n3 n4:KD F φ h c).step S;exact⟨⟨v,kp x c m v hv⟩,this.f,this.p,n3,n4⟩
 ·refine cP (C.val x v e) λv' c hv h1 h2=>?_;exact⟨v',c,hv.mono S.le S.pre,h1,kp _ c (Kv.kept.lookup_mem h1) _ h2⟩
theorem la {es:List E}{as:List Expr}{us:List AV}{f:Addr}{fo:Obj}{fd:FuncData}{v:AV}{p1:Pos}(G:Glob Z)(R:Kj Z F φ st s.heap)(L:Kl F φ σ sc env O s.heap)(hf:af σ 53=some (.fn f))(Mu:F f=some fo)(Mv:fo.data=.func fd)
  (c:eW sc es as=true) (hs:as.all aB=true) (e:aN X0 es σ st=some (us,Ke)) (rm:Ks 2 A)
  (hc:∀ F1 Kg Kr h1 tk,Step F φ [] s.heap F1 Kg h1->Kj Z F1 Kg Ke h1->Km F1 Kg us Kr->Good Z w A (call (.ref f) Kr) F1 Kg ⟨h1,s.gens,s.drawn,tk,s.os⟩ v Kd) :
  Good Z w A (eval (.Call (.Name (nm 53) p1) as [] p) env) F φ s v Kd:=λQ hQ=>by
 refine PySem.wpAny_Call_NameR (ga L hf (by decide) λv' hv=>?_);cases hv;refine PySem.W.callWith_of (P:=λh=>PySem.W.FnAt f h) (by rw[cM hs];rfl) (λh x=>PySem.W.keeps_F h x) ?_;refine fc hs R (fJ c e) ((Af (le_refl 1) eI G es).run c hs e rm R L) λF1 Kg Kr h1 tk S1 R1 V1=>?_;refine⟨?_,hc F1 Kg Kr h1 tk S1 R1 V1 Q (Ky.step hQ S1)⟩;obtain⟨oc,od,da,sl⟩:=fo;cases Mv;exact⟨oc,od,fd,sl,R1.frz _ _ (S1.le _ _ Mu)⟩
structure KX (F:bf)(f:Addr)(ps:List Nat)(body:List Stmt)(scope:Scope)(K2:List (Str×Addr)):Prop where
 fn:∃ name qual params doc pm c' Mt oc vs t,F f=some (fnMade name qual params body scope K2 doc pm c' Mt)/\F c'=some oc/\oc.data=.fields vs/\vs[1]?=some (.str qual t) /\
  params.posonlyargs=[]/\params.kwonlyargs=[]/\params.vararg=none/\params.kwarg=none/\params.args.map (·.arg)=ps.map nm
 kind:scope.kind=.function
 co:scope.isCoroutine=false
 gen:scope.isGenerator=false
 nd:(scope.names.map (·.1)).Nodup
 psd:ps.Nodup
 ps:∀ x∈ps,scope.names.lookup (nm x)=some .local\/scope.names.lookup (nm x)=some .cell
theorem KX.mono {f:Addr}{ps:List Nat}{body:List Stmt}{K2:List (Str×Addr)}(x:KX F f ps body scope K2)(hF:K7 F F'):KX F' f ps body scope K2:=by
 obtain⟨⟨name,qual,params,doc,pm,c',Mt,oc,vs,t,e1,e2,r⟩,k⟩:=x;exact⟨⟨name,qual,params,doc,pm,c',Mt,oc,vs,t,hF _ _ e1,hF _ _ e2,r⟩,by assumption,by assumption,by assumption,by assumption,by assumption,by assumption⟩
theorem ju {f:Addr}{ps:List Nat}{body:List Stmt}{K2:List (Str×Addr)}{us:List AV}{Kr:List Value}{Q:Value->Shared->Prop}(In:KX F f ps body scope K2)(R:Kj Z F φ st s.heap)(C:Lb F φ K4 scope K2 s.heap)
  (hs:bA K4 ps us=some σ) (V:Km F φ us Kr) (hd:A.depth<recursionLimit)
  (hQ:∀ h1 Kk O' tk,Step F φ [] s.heap F φ h1->Kj Z F φ st h1->(∀ a∈O',s.heap.get? a=none)->Kl F φ σ scope Kk O' h1 ->
   wpAny (model aM w) (A.deeper Kk) (execs body Kk) (λf s'=>Q (match f with |.ret v=>v |_=>.none) s') aq ⟨h1,s.gens,s.drawn,tk,s.os⟩) :
  aA w A (call (.ref f) Kr) Q aq s:=by
 obtain⟨name,qual,params,doc,pm,c',Mt,oc,vs,t,e1,e2,e3,e4,p1,p2,p3,p4,p5⟩:=In.fn;have hl:=cJ hs;have MB:=V.length;have nd:(ps.map nm).Nodup:=wf In.psd;have hb:=kO (fd:=fnX name qual params body scope K2 .none .none doc pm none (.ref c') Mt) (vs:=Kr) p1 p2 p3 p4 rfl p5 nd (by rw[length_map];exact MB.symm.trans hl);refine wpAny_call (codeAny_call_function hd (R.frz _ _ e1) rfl In.co In.gen rfl ⟨c',oc,vs,t,rfl,R.frz _ _ e2,e3,e4⟩ ?_);rw[hb];refine wpAny_pure ?_;refine oS (iC R In.kind In.nd C In.ps hs V λh1 Kk O' tk S1 R1 hO L1 _ _ _ _=>⟨R1.base.noLimit R1.frz,?_⟩);exact codeAny_func (oS (hQ h1 Kk O' tk S1 R1 hO L1))
theorem gj {X:Cx}{k:Nat}(hk:1<=k)(hC:cx Z w k X.C)(G:Glob Z){l2:List Stmt}{Q:Flow->Shared->Prop}:∀ (b:List S) {l1:List Stmt} {σ Kh:Loc} {st Kd:St} {fl:Fw} {F:bf} {φ:List Addr} {s:Shared},
  cX sc b l1=true->cw X b σ st=some (fl,Kh,Kd)->Ks (k+1) A->Kj Z F φ st s.heap->Kl F φ σ sc env O s.heap ->
  (∀ F' Kn Lc h' tk,Step F φ O s.heap F' Kn h'->Kj Z F' Kn Kd h'->Kl F' Kn Kh sc env O h'->FR F' Kn fl Lc ->
   match fl with |.next=>aA w A (execs l2 env) Q aq ⟨h',s.gens,s.drawn,tk,s.os⟩ |_=>Q Lc ⟨h',s.gens,s.drawn,tk,s.os⟩) ->
  aA w A (execs (l1++l2) env) Q aq s:=by
 intro b
 induction b with
 |nil=>
  intro l1 σ Kh st Kd fl F φ s c e rm R L hQ;cases isEmpty_iff.mp c;cases e;exact hQ F φ .next s.heap s.toks (Step.refl ..) R L .next
 |cons t r ih=>
  intro l1 σ Kh st Kd fl F φ s c e rm R L hQ;revert hQ;refine bD (P:=λl1=>_->aA w A (execs (l1++l2) env) Q aq s) (λx xs c hQ=>bU c λc1 c2=>wpAny_execs_cons ?_) c;refine oF e (λKi Ke e1 e=>(uc hk hC G t).run c1 e1 rm R L _ λF1 Kg Lc h1 tk S1 R1 L1 f1=>?_) (λKi Ke e1 e=>(uc hk hC G t).run c1 e1 rm R L _ λF1 Kg Lc h1 tk S1 R1 L1 f1=>?_) (λu Ki Ke e1 e=>(uc hk hC G t).run c1 e1 rm R L _ λF1 Kg Lc h1 tk S1 R1 L1 f1=>?_)
  ·cases f1;exact ih (s:=sw s h1 tk) c2 e rm R1 L1 λF' Kn Lc h' tk S R L f=>hQ F' Kn Lc h' tk (S1.trans S) R L f
  ·cases e;cases f1;exact hQ F1 Kg .brk h1 tk S1 R1 L1 .brk
  ·cases e
   cases f1 with
   |ret hv=>exact hQ F1 Kg _ h1 tk S1 R1 L1 (.ret hv)
noncomputable def i9 (sc:Scope)(es:List E)(s:Stmt):Bool:=Bn s λx=>dv x λf as _=>eP f (nm 53) (as.all aB&&eW sc es as)
theorem ic {es:List E}{KV:Stmt}{us:List AV}{f:Addr}{fo:Obj}{fd:FuncData}{v:AV}{Q:Flow->Shared->Prop}(G:Glob Z)(R:Kj Z F φ st s.heap)(L:Kl F φ σ sc env O s.heap)(hf:af σ 53=some (.fn f))(Mu:F f=some fo)(Mv:fo.data=.func fd)
  (c:i9 sc es KV=true) (e:aN X0 es σ st=some (us,Ke)) (rm:Ks 2 A) (hp:qm v=true)
  (hc:∀ F1 Kg Kr h1 tk,Step F φ [] s.heap F1 Kg h1->Kj Z F1 Kg Ke h1->Km F1 Kg us Kr->Good Z w A (call (.ref f) Kr) F1 Kg ⟨h1,s.gens,s.drawn,tk,s.os⟩ v Kd)
  (hQ:∀ F' Kn h' tk,Step F φ [] s.heap F' Kn h'->Kj Z F' Kn Kd h'->Q .next ⟨h',s.gens,s.drawn,tk,s.os⟩):aA w A (exec KV env) Q aq s:=by
 refine vN (P:=λKV=>aA w A (exec KV env) Q aq s) (λx p c=>bY (P:=λx=>aA w A (exec (.Expr x p) env) Q aq s) (λfn as p2 c=>bn (P:=λfn=>aA w A (exec (.Expr (.Call fn as [] p2) p) env) Q aq s) (λp1 c=>bU c λc1 c2=>?_) c) c) c;refine wpAny_Expr (la G R L hf Mu Mv c2 c1 e rm hc _ λF1 Kg v' h1 tk S1 R1 V1=>?_) (by unfold interactive;rw[L.kind];rfl) rfl;have fin:Q .next ⟨h1,s.gens,s.drawn,tk,s.os⟩:=hQ F1 Kg h1 tk S1 R1;cases V1<;>first |exact fin |cases hp
end
noncomputable def uj:List S:=[.iff (.val (.cmp .Eq (.b .Add (.l 139) (.int 1)) (.l 140))) [.setI (.l 76) (.l 139) (.l 138),.retN] [],
 .asg (.nm 141) (.b .RShift (.b .Add (.l 139) (.l 140)) (.int 1)),.asg (.nm 103) (.b .Mult (.b .Sub (.l 141) (.l 139)) (.l 0)),
 .asg (.nm 142) (.b .RShift (.l 138) (.l 103)),.asg (.nm 143) (.b .BitXor (.l 138) (.b .LShift (.l 142) (.l 103)))]
noncomputable def El (i:Nat)(n:Int)(f:Nat)(x l r:Int):Loc:=[(76,.obj i),(0,.int n),(53,.fn f),(138,.int x),(139,.int l),(140,.int r)]
theorem Bu {i f:Nat}{n x l r:Int}{ds:List Int}{st:St}(h:l+1=r)(h0:0<=l)(h1:l<ds.length)(h2:ds.length<1000)(Mi:st[i]?=some (.list (ds.map .int))) :
  cw X0 uj (El i n f x l r) st=some (.ret .none,El i n f x l r,st.set i (.list ((ds.set l.toNat x).map .int))):=by
 have hset:jk st (.obj i) (.int l) (.int x)=some (st.set i (.list ((ds.set l.toNat x).map .int))):=by
  unfold jk gZ ar listAt;simp only[Mi];rw[if_pos ⟨h0,by rw[length_map];exact h1,GG h1 (by assumption)⟩,map_set]
 refine P.cy (Eq.trans (P.dN (P.bF (P.aj rfl rfl rfl) rfl ?_)) (Eq.trans (P.ae (P.Ed rfl rfl rfl hset)) (P.cy rfl)));exact(P.gG st _ _).trans (congrArg some (decide_eq_true h))
theorem Bv {i f:Nat}{n x l r:Int}{st:St}(h:l+1≠r)(h1:0<=((l+r).fdiv 2-l)*n)(h2:(intBits (x.fdiv (2^(((l+r).fdiv 2-l)*n).toNat)):Int)+((l+r).fdiv 2-l)*n<=2^27)(h3:((l+r).fdiv 2-l)*n<2^60)(h4:eB ((l+r).fdiv 2-l) n=true) :
  cw X0 uj (El i n f x l r) st=some (.next,El i n f x l r++[(141,.int ((l+r).fdiv 2)),(103,.int (((l+r).fdiv 2-l)*n)),(142,.int (x.fdiv (2^(((l+r).fdiv 2-l)*n).toNat))),
   (143,.int (Builtin.bitXor x (x.fdiv (2^(((l+r).fdiv 2-l)*n).toNat)*2^(((l+r).fdiv 2-l)*n).toNat)))],st):=by
 refine Eq.trans (P.ae (P.bG (P.bF (P.aj rfl rfl rfl) rfl ?_))) ?_
 ·exact(P.gG st _ _).trans (congrArg some (decide_eq_false h))
 refine Eq.trans (P.ae (P.aE (P.aj (P.aj rfl rfl rfl) rfl (P.JY _)) rfl)) ?_;refine Eq.trans (P.ae (P.aE (P.aj (P.aj rfl rfl rfl) rfl (if_pos h4)) rfl)) ?_;refine Eq.trans (P.ae (P.aE (P.aj rfl rfl (if_pos ⟨h1,h3⟩)) rfl)) ?_;exact Eq.trans (P.ae (P.aE (P.aj rfl (P.aj rfl rfl (if_pos ⟨h1,h2⟩)) rfl) rfl)) P.bB
noncomputable def wk (sc:Scope)(body:List Stmt):Bool:=eE body λt1 r=>eE r λt2 r=>eE r λt3 r=>Ej r λt4 t5 t6 t7=>cX sc uj [t1,t2,t3,t4,t5]&&(i9 sc [.l 143,.l 139,.l 141] t6&&i9 sc [.l 142,.l 141,.l 140] t7)
structure MN (sc:Scope)(body l1:List Stmt)(t6 t7:Stmt):Prop where
 eq:body=l1++[t6,t7]
 c1:cX sc uj l1=true
 c2:i9 sc [.l 143,.l 139,.l 141] t6=true
 c3:i9 sc [.l 142,.l 141,.l 140] t7=true
theorem yR {sc:Scope}{body:List Stmt}:wk sc body=true->∃ l1 t6 t7,MN sc body l1 t6 t7:=
 bD (P:=λbody=>∃ l1 t6 t7,MN sc body l1 t6 t7) λt1 r=>bD (P:=λr=>∃ l1 t6 t7,MN sc (t1::r) l1 t6 t7) λt2 r=>bD (P:=λr=>∃ l1 t6 t7,MN sc (t1::t2::r) l1 t6 t7) λt3 r=>
  si (P:=λr=>∃ l1 t6 t7,MN sc (t1::t2::t3::r) l1 t6 t7) λt4 t5 t6 t7 ok=>fX ok λc1 c2 c3=>⟨[t1,t2,t3,t4,t5],t6,t7,rfl,c1,c2,c3⟩
theorem rh {n:Int}:∀ (k:Nat) {x l r:Int} {ds LJ:List Int},dG n k x l r ds=some LJ->LJ.length=ds.length:=by
 intro k
 induction k with
 |zero=>
  intro _ _ _ _ _ e;exact absurd e bg
 |succ k ih=>
  intro x l r ds LJ e;exact oT e (λ_ e=>oI e λ_ e=>KO e▸length_set ..) λ_ e=>oI e λ_ e=>oN e λPh h2 e=>(ih e).trans (ih h2)
section
variable {p:Pos}{a P:Addr}
theorem KX.data {f:Addr}{ps:List Nat}{body:List Stmt}{K2:List (Str×Addr)}(x:KX F f ps body scope K2):∃ fo fd,F f=some fo/\fo.data=.func fd:=by
 obtain⟨⟨name,qual,params,doc,pm,c',Mt,oc,vs,t,e1,_⟩,_⟩:=x;exact⟨_,_,e1,rfl⟩
theorem yS (G:Glob Z){f i:Nat}{n:Int}{body l1:List Stmt}{t6 t7:Stmt}{K2:List (Str×Addr)}(ok:MN scope body l1 t6 t7):∀ (k:Nat) {x l r:Int} {ds LJ:List Int} {A:Around} {F:bf} {φ:List Addr} {s:Shared} {st:St} {Kr:List Value},dG n k x l r ds=some LJ->ds.length<1000->Ks (2*k+2) A ->
  Kj Z F φ st s.heap->Lb F φ [(76,.obj i),(0,.int n),(53,.fn f)] scope K2 s.heap->KX F f [138,139,140] body scope K2->st[i]?=some (.list (ds.map .int))->Km F φ [.int x,.int l,.int r] Kr ->
  Good Z w A (call (.ref f) Kr) F φ s .none (st.set i (.list (LJ.map .int))):=by
 intro k
 induction k with
 |zero=>intro x l r ds LJ A F φ s st Kr e _ _ _ _ _ _ _;exact absurd e bg
 |succ k ih=>
  intro x l r ds LJ A F φ s st Kr e Mh rm R C In Mi V Q hQ;have PX:=rm.depth;refine ju In R C (σ:=El i n f x l r) rfl V PX λh1 Kk O' tk S1 R1 hO L1=>?_;have Nj:Ks (2*k+3) (A.deeper Kk):=rm.deeper Kk;rw[ok.eq];refine oT e (λOH e=>oI e λhb e=>?_) λOH e=>oI e λhb e=>oN e λPh h2 e=>?_
  ·have ex:=Bu (f:=f) (n:=n) (x:=x) OH hb.1 hb.2 Mh Mi;refine gj (X:=X0) (le_refl 1) eI G uj (s:=sw s h1 tk) ok.c1 ex (Nj.less (by exact Q0 0x311421202111101 [_] rfl)) R1 L1 λF2 KI OF h2 Ku S2 R2 L2 f2=>?_;cases KO e
   cases f2 with
   |ret hv=>
    cases hv;exact hQ F2 KI .none h2 Ku (S1.hide S2 hO) R2 .none
  ·have ex:=Bv (i:=i) (f:=f) (st:=st) OH hb.1 hb.2.1 hb.2.2.1 hb.2.2.2;refine gj (X:=X0) (le_refl 1) eI G uj (s:=sw s h1 tk) ok.c1 ex (Nj.less (by exact Q0 0x311421202111101 [_] rfl)) R1 L1 λF2 KI OF MD Ku S2 R2 L2 f2=>?_;cases f2;have LH:=S1.hide S2 hO;have NU:=In.mono LH.le;refine dc NU.data λfo fd Mu Mv=>?_
   refine wpAny_execs_cons (ic (s:=sw s MD Ku) (us:=[.int _,.int l,.int _]) (Ke:=st) (v:=.none) (Kd:=st.set i (.list (Ph.map .int))) G R2 L2 rfl Mu Mv ok.c2 rfl (Nj.less (by exact Q0 0x311421202111101 [_] rfl)) rfl (λF3 Ma vs3 h3 KU S3 R3 V3=>
    ih (s:=sw s h3 KU) h2 Mh (Nj.less (by exact Q0 0x31142120211421201101 [_] rfl)) R3 ((C.step LH).step S3) (NU.mono S3.le) Mi V3) λF3 Ma h3 KU S3 R3=>?_)
   have hst3:(st.set i (.list (Ph.map .int)))[i]?=some (.list (Ph.map .int)):=getElem?_set_self (List.getElem?_eq_some_iff.mp Mi).1;have hss:(st.set i (.list (Ph.map .int))).set i (.list (LJ.map .int))=st.set i (.list (LJ.map .int)):=set_set ..
   refine wpAny_execs_cons (ic (s:=sw s h3 KU) (us:=[.int _,.int _,.int r]) (Ke:=st.set i (.list (Ph.map .int))) (v:=.none) (Kd:=st.set i (.list (LJ.map .int))) G R3 (L2.step S3) rfl (S3.le _ _ Mu) Mv ok.c3 rfl (Nj.less (by exact Q0 0x311421202111101 [_] rfl)) rfl (λF4 Nt vs4 h4 Lx S4 R4 V4=>
    hss▸ih (s:=sw s h4 Lx) e ((rh k h2).symm▸Mh) (Nj.less (by exact Q0 0x31142120211421201101 [_] rfl)) R4 (((C.step LH).step S3).step S4) ((NU.mono S3.le).mono S4.le) hst3 V4) λF4 Nt h4 Lx S4 R4=>?_)
   exact wpAny_execs_nil (hQ F4 Nt .none h4 Lx ((LH.trans S3).trans S4) R4 .none)
end
noncomputable def Bw:Stmt->Option (Str×Arguments×List Stmt×Scope×Pos)
 |.FunctionDef n ps b ds r tp sI t n2 p=>if ds.isEmpty&&(r.isNone&&(tp.isEmpty&&(t.isNone&&n==n2))) then some (n,ps,b,sI,p) else none
 |_=>none
theorem yT {KV:Stmt}{r}:Bw KV=some r->KV=.FunctionDef r.1 r.2.1 r.2.2.1 [] none [] r.2.2.2.1 none r.1 r.2.2.2.2:=by
 cases KV with
 |FunctionDef n ps b ds r tp sI t n2 p=>
  refine λh=>oI h λc h=>?_;refine av (bC c) λc1 c=>?_;refine av (bC c) λc2 c=>?_;refine av (bC c) λc3 c=>?_;refine av (bC c) λc4 c5=>?_;cases h;cases isEmpty_iff.mp c1;cases isNone_iff_eq_none.mp c2;cases isEmpty_iff.mp c3;cases isNone_iff_eq_none.mp c4;have c5:=dh c5;exact c5▸rfl
 |_=>exact λh=>absurd h bg
noncomputable def argsOk (ps:List Nat)(q:Arguments):Bool:=q.posonlyargs.isEmpty&&(q.kwonlyargs.isEmpty&&(q.vararg.isNone&&(q.kwarg.isNone&&(q.defaults.isEmpty&&(q.kw_defaults.isEmpty&&(q.args.all (λx=>x.annotation.isNone)&&(q.args.map (·.arg)==ps.map nm&&decide ps.Nodup)))))))
structure Mw (ps:List Nat)(q:Arguments):Prop where
 a1:q.posonlyargs=[]
 a2:q.kwonlyargs=[]
 a3:q.vararg=none
 a4:q.kwarg=none
 a5:q.defaults=[]
 a6:q.kw_defaults=[]
 a7:∀ x∈q.args,x.annotation=none
 a8:q.args.map (·.arg)=ps.map nm
 a9:ps.Nodup
theorem uk {ps:List Nat}{q:Arguments}(h:argsOk ps q=true):Mw ps q:=by
 refine av (bC h) λh1 h=>?_;refine av (bC h) λh2 h=>?_;refine av (bC h) λh3 h=>?_;refine av (bC h) λh4 h=>?_;refine av (bC h) λh5 h=>?_;refine av (bC h) λh6 h=>?_;refine av (bC h) λh7 h=>?_;refine av (bC h) λh8 h9=>?_;exact⟨isEmpty_iff.mp h1,isEmpty_iff.mp h2,isNone_iff_eq_none.mp h3,isNone_iff_eq_none.mp h4,isEmpty_iff.mp h5,isEmpty_iff.mp h6,λx m=>isNone_iff_eq_none.mp (all_eq_true.mp h7 x m),dh h8,of_decide_eq_true h9⟩
theorem Ak {env:Env}:∀ (l:List Arg),(∀ x∈l,x.annotation=none)->annotationsOf l env=[]
 |[],_=>rfl
 |⟨n,none,p⟩::r,h=>Ak r λx m=>h x (.tail _ m)
 |⟨n,some a,p⟩::r,h=>nomatch h _ (.head _)
theorem Mw.ann {ps:List Nat}{q:Arguments}(h:Mw ps q)(env:Env):annTrees q none env=[]:=by
 obtain⟨a,b,c,d,e,f,g⟩:=q;have h1:=h.a1;have h2:=h.a2;have h3:=h.a3;have h4:=h.a4;have h7:=h.a7;simp only at h1 h2 h3 h4 h7;subst h1 h2 h3 h4;simp only[annTrees,append_nil,Option.toList_none];rw[Ak b h7];rfl
noncomputable def sk (sc sI:Scope)(ps caps:List Nat):Bool:=sI.kind==.function&&(!sI.isCoroutine&&(!sI.isGenerator&&(decide ((sI.names.map (·.1)).Nodup)&&(ps.all (λx=>sI.names.lookup (nm x)==some .local||sI.names.lookup (nm x)==some .cell) &&
 (sI.names.all (λy=>y.2 != .free||sc.names.lookup y.1==some .cell)&&(caps.all (λx=>sI.names.lookup (nm x)==some .free)&&sc.names.lookup (nm 53)==some .cell))))))
structure L8 (sc sI:Scope)(ps caps:List Nat):Prop where
 kind:sI.kind=.function
 co:sI.isCoroutine=false
 gen:sI.isGenerator=false
 nd:(sI.names.map (·.1)).Nodup
 ps:∀ x∈ps,sI.names.lookup (nm x)=some .local\/sI.names.lookup (nm x)=some .cell
 fr:∀ x,(x,NameKind.free)∈sI.names->sc.names.lookup x=some .cell
 caps:∀ x∈caps,sI.names.lookup (nm x)=some .free
 inn:sc.names.lookup (nm 53)=some .cell
theorem ri {sc sI:Scope}{ps caps:List Nat}(h:sk sc sI ps caps=true):L8 sc sI ps caps:=by
 refine av (bC h) λh1 h=>?_;refine av (bC h) λh2 h=>?_;refine av (bC h) λh3 h=>?_;refine av (bC h) λh4 h=>?_;refine av (bC h) λh5 h=>?_;refine av (bC h) λh6 h=>?_;refine av (bC h) λh7 h8=>?_;refine⟨dh h1,by simpa using h2,by simpa using h3,of_decide_eq_true h4,λx m=>?_,λx m=>?_,λx m=>dh (all_eq_true.mp h7 x m),dh h8⟩
 ·have:=all_eq_true.mp h5 x m
  cases q:sI.names.lookup (nm x)==some .local with
  |true=>exact .inl (dh q)
  |false=>rw[q]at this;exact .inr (dh this)
 ·have:=all_eq_true.mp h6 _ m;exact dh this
noncomputable def rj (Z:Kz)(P:Addr)(fd:FuncData)(ps caps:List Nat)(inn:Scope->List Stmt->Bool)(KV:Stmt):Bool:=(Bw KV).any λq=>q.1==nm 53&&(q.2.2.2.2==wj Z P&&(argsOk ps q.2.1&&(sk fd.scope q.2.2.2.1 ps caps&&(inn q.2.2.2.1 q.2.2.1 &&
 (fd.qualname++ofString ".<locals>."++nm 53==tQ Z P&&(match fd.code with |.ref c=>codeHdIn Z.K c P |_=>false))))))
section
variable {p:Pos}{a P:Addr}
theorem wl (S:L8 sc sI ps caps)(L:Kl F φ σ sc env O h)(h0:∀ x v,af K4 x=some v->x∈caps/\af σ x=some v):Lb F φ K4 sI (cF env.cells sI.names []) h:=by
 have cells:∀ n,(n,NameKind.free)∈sI.names->∃ c,env.cells.lookup n=some c:=λn m=>let ⟨_,c,e,_⟩:=L.cl n (S.fr n m);⟨c,e⟩
 have mem:∀ {x c},(x,c)∈cF env.cells sI.names []->env.cells.lookup x=some c:=λm=>by
  rcases rT _ _ cells _ _ m with m |e
  ·cases m
  ·exact e
 refine⟨λx c m=>?_,λx y c m1 m2=>L.apart x y c (mem m1) (mem m2),λx e=>?_,λx c m=>?_,λx v e=>?_⟩
 ·have e:=mem m;have hc:c∈env.cells.map (·.2):=mem_map.mpr ⟨(x,c),Kv.kept.lookup_mem e,rfl⟩;exact⟨L.cel c hc,L.own c (.tail _ hc)⟩
 ·have m:=Kv.kept.lookup_mem e;refine aw (cells x m) λc ec=>?_;exact⟨c,kE _ _ x c ec (.inr ⟨rfl,m⟩)⟩
 ·rcases oQ _ _ x c m with m |m
  ·cases m
  ·exact dM S.nd m
 ·refine av (h0 x v e) λhx e=>?_;refine ak (L.val x v e) λv' hv n=>?_;have ef:=S.caps x hx;have m:=Kv.kept.lookup_mem ef;obtain⟨kc,c,ec,_⟩:=L.cl _ (S.fr _ m);refine⟨v',c,hv,kE _ _ _ c ec (.inr ⟨rfl,m⟩),?_⟩;rcases n with ⟨k,_⟩ |⟨_,c',e',hc⟩
  ·rw[kc]at k;cases k
  ·rw[ec]at e';cases e';exact hc
structure MA (Z:Kz):Prop where
 bmn:∃ bm ob,Z.mg "__builtins__"=some (.ref bm)/\bm≠builtinsNs/\bm≠mainGlobals/\bm≠cQ/\bm≠dq/\Z.K.lookup bm=some ob/\ob.cls=.type "module"/\ob.dict=some builtinsNs/\ob.data=.plain
theorem mA {fd:FuncData}{inn:Scope->List Stmt->Bool}{KV:Stmt}{Q:Flow->Shared->Prop}(N:MA Z)(hP:P=cQ\/P=dq)(c:rj Z P fd ps caps inn KV=true)(ME:env.code=fd.code)(hqual:env.qual=fd.qualname++ofString ".<locals>.")
  (R:Kj Z F φ st s.heap) (L:Kl F φ σ fd.scope env O s.heap)
  (hQ:∀ F' f body sI h' tk,inn sI body=true->L8 fd.scope sI ps caps->Step F φ O s.heap F' φ h'->Kj Z F' φ st h'->Kl F' φ (ai σ 53 (.fn f)) fd.scope env O h'->KX F' f ps body sI (cF env.cells sI.names [])->Q .next ⟨h',s.gens,s.drawn,tk,s.os⟩) :
  aA w A (exec KV env) Q aq s:=by
 replace c:=ou c
 refine ak c ?_;clear c;rintro⟨name,params,body,sI,pos⟩ hw c;cases yT hw
 replace c:=bC c
 refine av c ?_;clear c;intro c1 c;have c1:name=nm 53:=dh c1;subst c1
 replace c:=bC c
 refine av c ?_;clear c;intro c2 c;have c2:pos=wj Z P:=dh c2;subst c2
 replace c:=bC c
 refine av c ?_;clear c;intro c3 c;have c3:=uk c3
 replace c:=bC c
 refine av c ?_;clear c;intro c4 c;have c4:=ri c4
 replace c:=bC c
 refine av c ?_;clear c;intro c5 c
 replace c:=bC c
 refine av c ?_;clear c;intro c6 c7;have c6:fd.qualname++ofString ".<locals>."++nm 53=tQ Z P:=dh c6;obtain⟨k53,_,_,_⟩:=L.cl _ c4.inn
 have hq:qualnameIn env (nm 53) (nm 53)=tQ Z P:=by
  unfold qualnameIn;rw[k53,hqual];exact c6
 have cells:∀ n,(n,NameKind.free)∈sI.names->∃ c,env.cells.lookup n=some c:=λn m=>let ⟨_,c,e,_⟩:=L.cl n (c4.fr n m);⟨c,e⟩
 cases Oa:fd.code with
 |ref cc=>
  simp only[Oa]at c7;obtain⟨bm,ob,b1,b2,b3,b4,b5,b6,b7,b8,b9⟩:=N.bmn;have hbP:bm≠P:=by rcases hP with rfl |rfl<;>assumption
  have PV:mainGlobals≠P:=by rcases hP with rfl |rfl<;>decide
  refine nestDef_K c3.a5 c3.a6 (c3.ann env) (ui hP R L hq (ME.trans Oa) c7 (gf cells) PV ⟨bm,ob,b1,b2,b3,hbP,b6,b7,b8,b9⟩ λF1 h1 f c' oc vs t doc Mt tk S1 R1 e1 e2 e3 e4=>?_);have L1:=L.step S1;refine bQ (s:=sw s h1 tk) L1 R1 (.inr c4.inn) (.fn f) λh2 Ku S2 R2 L2=>?_;refine hQ F1 f body sI h2 Ku c5 c4 (S1.any.trans S2) R2 L2 ⟨⟨_,_,params,doc,_,c',Mt,oc,vs,t,e1,e2,e3,by rw[hq];rw[hq]at e4;exact e4,c3.a1,c3.a2,c3.a3,c3.a4,c3.a8⟩,c4.kind,c4.co,c4.gen,c4.nd,c3.a9,c4.ps⟩
 |_=>rw[Oa]at c7;cases c7
end
noncomputable def o16:List S:=[.asg (.nm 76) (.new true (.rep (.int 0) (.b .FloorDiv (.b .Sub (.b .Add (.sm .bitlen (.l 66) []) (.l 0)) (.int 1)) (.l 0))))]
noncomputable def HH:C:=.val (.l 66)
noncomputable def I4:List E:=[.l 66,.int 0,.bi .len [.l 76]]
noncomputable def nx (Z:Kz):Bool:=we Z.K 207 λfd=>kX fd λl=>Ej l λs1 s2 s3 s4=>cX fd.scope o16 [s1]&&(rj Z cQ fd [138,139,140] [76,0,53] wk s2&&(vM s3 (λt b oe=>ip oe (m7 b λx=>Lh fd.scope HH t&&i9 fd.scope I4 x))&&cX fd.scope [.ret (.l 76)] [s4]))
theorem rk (st:St)(i:Int):fF st (.int i)=some (i != 0):=by unfold fF;rfl
section
variable {p:Pos}{a P:Addr}
theorem lN (m:Nat):(replicate m (0:Int)).map AV.int=replicate m (.int 0):=by simp
theorem Bx {x n:Int}{st:St}(h1:n≠0)(h2:divisionGoesByPylong ((intBits x:Int)+n-1) n=false)(h3:((intBits x:Int)+n-1).fdiv n<1000)(h4:-1000<((intBits x:Int)+n-1).fdiv n) :
  cw X0 o16 [(66,.int x),(0,.int n)] st=some (.next,[(66,.int x),(0,.int n),(76,.obj st.length)],st++[.list ((replicate (((intBits x:Int)+n-1).fdiv n).toNat (0:Int)).map .int)]):=by
 rw[lN];exact Eq.trans (P.ae (P.aE (P.eH (P.Bt rfl (P.aj (P.aj (P.aj (P.gV rfl rfl rfl rfl) rfl rfl) rfl rfl) rfl (if_pos ⟨h1,h2⟩)) (Int.lt_trans h3 (by decide)) (Int.lt_trans (by decide) h4))) rfl)) P.bB
theorem wm (G:Glob Z)(N:MA Z)(H:fg Z.K 207 [66,0] [.bad,.bad,.bad,.bad]=true)(Hp:kW Z.K 207 [66,0]=true)(Ho:nx Z=true){args:List AV}{v:AV}{Kr:List Value}(e:rc args st=some (v,Kd))(rm:Ks 30 A)
  (R:Kj Z F φ st s.heap) (V:Km F φ args Kr):Good Z w A (call (.ref 207) Kr) F φ s v Kd:=λQ hQ=>by
 refine two_r (P:=λargs=>Km F φ args Kr->aA w A (call (.ref 207) Kr) Q aq s) (λx y e=>eS (P:=λx=>Km F φ [x,y] Kr->aA w A (call (.ref 207) Kr) Q aq s) (λx e=>eS (P:=λy=>Km F φ [.int x,y] Kr->aA w A (call (.ref 207) Kr) Q aq s) (λn e V=>oI e λhn e=>oI e λhm e=>?_) e) e) e V
 have Mh:(replicate (((intBits x:Int)+n-1).fdiv n).toNat (0:Int)).length<1000:=by
  rw[length_replicate];exact Gk (by decide) (by first |exact hm.1 |exact hm.2.1 |exact hm.2.2.1)
 have ex:=Bx (st:=st) hn.1 hn.2 hm.1 hm.2;dsimp only at e;generalize hD:replicate (((intBits x:Int)+n-1).fdiv n).toNat (0:Int)=ds at *;have X':=R.base.inK R.frz;refine th (iD H) λo fd l fa=>?_;have KH:=fa.body;revert KH;refine si (P:=λl=>fd.body=.stmts l->_) (λs1 s2 s3 s4 ha KH=>ow ha λc1 c2 c3 c4=>?_) (kY (rg Ho fa.funcAt) fa.body);have hb:=eZ (s:=s) Hp (Kr:=Kr) V.length.symm fd fa.funcAt;refine wpAny_call (codeAny_call_function rm.depth (X' _ _ fa.at_) fa.data fa.co fa.gen KH (codeRec_of X' fa.code) (hb _ _ _ _ ?_));rw[fa.glob,fa.blt,fa.clo];refine oS (iC R fa.kind fa.nd (fa.cloOk s.heap) fa.ps (σ:=[(66,.int x),(0,.int n)]) rfl V λh1 Kk O' tk S1 R1 hO L1 q1 q2 q3 _=>⟨R1.base.noLimit R1.frz,?_⟩);have Ms:Ks 29 (A.deeper Kk):=rm.deeper Kk;refine codeAny_func (oS ?_);refine gj (X:=X0) (le_refl 1) eI G (l1:=[s1]) (l2:=[s2,s3,s4]) o16 (s:=sw s h1 tk) c1 ex (Ms.less (by decide)) R1 L1 λF2 KI OF h2 Ku S2 R2 L2 f2=>?_;cases f2;refine wpAny_execs_cons (mA (s:=sw s h2 Ku) N (.inl rfl) c2 q2 q3 R2 L2 λF3 f body sI h3 KU cI SI S3 R3 L3 PY=>?_);have Mi:(st++[AO.list (ds.map .int)])[st.length]?=some (.list (ds.map .int)):=by simp
 have Co:Lb F3 KI [(76,.obj st.length),(0,.int n),(53,.fn f)] sI (cF Kk.cells sI.names []) h3:=wl SI L3 λy v e=>
  gH (P:=λy v=>y∈[76,0,53]/\af (ai [(66,.int x),(0,.int n),(76,.obj st.length)] 53 (.fn f)) y=some v) ⟨by decide,rfl⟩ (gH (P:=λy v=>y∈[76,0,53]/\af (ai [(66,.int x),(0,.int n),(76,.obj st.length)] 53 (.fn f)) y=some v) ⟨by decide,rfl⟩ (gH (r:=[]) (P:=λy v=>y∈[76,0,53]/\af (ai [(66,.int x),(0,.int n),(76,.obj st.length)] 53 (.fn f)) y=some v) ⟨by decide,rfl⟩ (λe=>absurd e bg))) e
 have Ng:=(S1.hide (S2.trans S3) hO);clear KH ha;refine wpAny_execs_cons (r5 (P:=λs3=>wpAny (model aM w) (A.deeper Kk) (exec s3 Kk) _ aq ⟨h3,s.gens,s.drawn,KU,s.os⟩) (λtest bd oe pf c=>ku (P:=λoe=>wpAny (model aM w) (A.deeper Kk) (exec (.If test bd oe pf) Kk) _ aq ⟨h3,s.gens,s.drawn,KU,s.os⟩) (λc=>dw (P:=λbd=>wpAny (model aM w) (A.deeper Kk) (exec (.If test bd [] pf) Kk) _ aq ⟨h3,s.gens,s.drawn,KU,s.os⟩) (λy c=>bU c λd1 d3=>?_) c) c) c3);have hC:aJ X0 HH (ai [(66,.int x),(0,.int n),(76,.obj st.length)] 53 (.fn f)) (st++[.list (ds.map .int)])=some (x != 0,st++[.list (ds.map .int)]):=P.fh (v:=.int x) rfl (rk ..);refine wpAny_If ((tX (X:=X0) (le_refl 1) eI G HH).run (s:=sw s h3 KU) d1 hC (Ms.less (by decide)) R3 L3 _ λF4 Nt h4 Lx S4 R4=>?_);have L4:=L3.step S4
 have fin:∀ {F5:bf} {LD:List Addr} {h5:Heap} {LO:Nat} {NH:St},Step F φ [] s.heap F5 LD h5->Kj Z F5 LD NH h5->Kl F5 LD (ai [(66,.int x),(0,.int n),(76,.obj st.length)] 53 (.fn f)) fd.scope Kk O' h5->some (AV.obj st.length,NH)=some (v,Kd) ->
   wpAny (model aM w) (A.deeper Kk) (execs [s4] Kk) (λf s'=>Q (match f with |.ret v=>v |_=>.none) s') aq ⟨h5,s.gens,s.drawn,LO,s.os⟩:=by
  intro F5 LD h5 LO NH S5 R5 L5 ee;cases ee;refine(vS (X:=X0) (le_refl 1) eI G _).run (s:=sw s h5 LO) c4 (P.cy (P.sR rfl)) (Ms.less (by decide)) R5 L5 _ λF6 φ6 fl6 h6 QD S6 R6 L6 f6=>?_
  cases f6 with
  |ret hv=>exact hQ F6 φ6 _ h6 QD (S5.hide S6 hO) R6 hv
 have OI:=Ng.trans S4;refine oT e (λhx e=>?_) λhx e=>oN e λLJ hi e=>?_
 ·rw[if_neg (by rw[hx];decide)];exact wpAny_execs_nil (fin OI R4 L4 e)
 ·rw[if_pos (bne_iff_ne.mpr hx)];have OJ:=PY.mono S4.le;refine dc OJ.data λfo fd4 Mu Mv=>?_
  have M7:aN X0 I4 (ai [(66,.int x),(0,.int n),(76,.obj st.length)] 53 (.fn f)) (st++[.list (ds.map .int)])=some ([.int x,.int 0,.int ds.length],st++[.list (ds.map .int)]):=by
   refine P.e3 rfl rfl (P.dn (P.e1 rfl) ?_);show(match listAt _ _ with |some xs=>if xs.length<=2^24 then some (AV.int xs.length,_) else none |none=>none)=_;unfold listAt;rw[Mi];show(if (ds.map AV.int).length<=2^24 then _ else none)=_;rw[length_map,if_pos (by exact Q1 0x3e8311114011010000007141102 [_] Mh rfl)]
  refine th (yR cI) λl1 t6 t7 cI=>?_
  refine wpAny_execs_cons (ic (s:=sw s h4 Lx) (v:=.none) (Kd:=(st++[AO.list (ds.map .int)]).set st.length (.list (LJ.map .int))) G R4 L4 rfl Mu Mv d3 M7 (Ms.less (by decide)) rfl (λF5 LD vs5 h5 LO S5 R5 V5=>
   yS G cI 12 (s:=sw s h5 LO) hi Mh (Ms.less (by decide)) R5 ((Co.step S4).step S5) (OJ.mono S5.le) Mi V5) λF5 LD h5 LO S5 R5=>?_)
  refine wpAny_execs_nil (fin (OI.trans S5) R5 (L4.step S5) (Eq.trans ?_ e));rw[List.set_append_right _ _ (le_refl _),sub_self];rfl
end
noncomputable def um:List S:=[.iff (.val (.cmp .Eq (.b .Add (.l 139) (.int 1)) (.l 140))) [.ret (.sub (.l 77) (.l 139))] [],
 .asg (.nm 141) (.b .RShift (.b .Add (.l 139) (.l 140)) (.int 1)),.asg (.nm 103) (.b .Mult (.b .Sub (.l 141) (.l 139)) (.l 0))]
noncomputable def mB (sc:Scope)(es:List E)(e:Expr):Bool:=dv e λf as _=>eP f (nm 53) (as.all aB&&eW sc es as)
noncomputable def Em (sc:Scope)(s:Stmt):Bool:=pn s λo=>iS o λx=>l8 x .Add λl r=>l8 l .LShift λa b=>mB sc [.l 139,.l 141] r&&(mB sc [.l 141,.l 140] a&&aW sc (.l 103) b)
noncomputable def wn (sc:Scope)(body:List Stmt):Bool:=Ej body λt1 t2 t3 t4=>cX sc um [t1,t2,t3]&&Em sc t4
noncomputable def HI:C:=.val (.l 77)
noncomputable def JZ:List E:=[.int 0,.bi .len [.l 77]]
noncomputable def ny (Z:Kz):Bool:=we Z.K 214 λfd=>kX fd λl=>Bc l λs1 s2=>rj Z dq fd [139,140] [77,0,53] wn s1&&pn s2 λo=>iS o λx=>Bd x λt a b=>Lh fd.scope HI t&&(mB fd.scope JZ a&&aW fd.scope (.int 0) b)
structure Mx (sc:Scope)(body l1:List Stmt)(a b c:Expr)(p1 p2 p3:Pos):Prop where
 eq:body=l1++[.Return (some (.BinOp (.BinOp a .LShift b p1) .Add c p2)) p3]
 c1:cX sc um l1=true
 c2:mB sc [.l 139,.l 141] c=true
 c3:mB sc [.l 141,.l 140] a=true
 c4:aW sc (.l 103) b=true
theorem yU {sc:Scope}{body:List Stmt}:wn sc body=true->∃ l1 a b c p1 p2 p3,Mx sc body l1 a b c p1 p2 p3:=
 si (P:=λbody=>∃ l1 a b c p1 p2 p3,Mx sc body l1 a b c p1 p2 p3) λt1 t2 t3 t4 ok=>bU ok λc1 c2=>jU (P:=λt4=>∃ l1 a b c p1 p2 p3,Mx sc [t1,t2,t3,t4] l1 a b c p1 p2 p3) (λo q3 c=>f9 (P:=λo=>∃ l1 a b c p1 p2 p3,Mx sc [t1,t2,t3,.Return o q3] l1 a b c p1 p2 p3) (λx c=>
  iq (P:=λx=>∃ l1 a b c p1 p2 p3,Mx sc [t1,t2,t3,.Return (some x) q3] l1 a b c p1 p2 p3) (λl r q2 c=>iq (P:=λl=>∃ l1 a b c p1 p2 p3,Mx sc [t1,t2,t3,.Return (some (.BinOp l .Add r q2)) q3] l1 a b c p1 p2 p3) (λa b q1 c=>fX c λd1 d2 d3=>⟨[t1,t2,t3],a,b,r,q1,q2,q3,rfl,c1,d1,d2,d3⟩) c) c) c) c2
noncomputable def En (v:AV)(n:Int)(f:Nat)(l r:Int):Loc:=[(77,v),(0,.int n),(53,.fn f),(139,.int l),(140,.int r)]
theorem wo {st:St}{v:AV}{xs:List AV}{i:Int}(h:cN st v=some xs)(h0:0<=i)(h1:i<2^62):cB st v (.int i)=xs[i.toNat]?:=
 jQ (P:=λv=>cB st v (.int i)=xs[i.toNat]?) (if_pos ⟨h0,h1⟩) (λj h=>(show cB st (.obj j) (.int i)=(match listAt st j with |some xs=>if 0<=i/\i<2^62 then xs[i.toNat]? else none |none=>none) from rfl).trans (by rw[h];exact if_pos ⟨h0,h1⟩)) h
theorem allInts_map:∀ {xs:List AV} {ds:List Int},allInts xs=some ds->xs=ds.map .int:=by
 intro xs
 induction xs with
 |nil=>
  intro _ e;exact KO e▸rfl
 |cons x xs ih=>
  intro ds e;cases x<;>first |exact absurd e bg |exact oM (P:=λds=>_=ds.map AV.int) e λl e=>congrArg (_::·) (ih e)
theorem By {v:AV}{f:Nat}{n l r u:Int}{ds:List Int}{st:St}(h:l+1=r)(h0:0<=l)(h1:l<1000)(hu:ds[l.toNat]?=some u)(Mi:cN st v=some (ds.map .int)) :
  cw X0 um (En v n f l r) st=some (.ret (.int u),En v n f l r,st):=by
 refine P.cy (Eq.trans (P.dN (P.bF (P.aj rfl rfl rfl) rfl ?_)) (P.cy (P.sR (P.bW rfl rfl ?_))))
 ·exact(P.gG st _ _).trans (congrArg some (decide_eq_true h))
 ·rw[wo Mi h0 (Int.lt_trans h1 (by decide)),getElem?_map,hu];rfl
theorem Bz {v:AV}{f:Nat}{n l r:Int}{st:St}(h:l+1≠r)(h4:eB ((l+r).fdiv 2-l) n=true) :
  cw X0 um (En v n f l r) st=some (.next,En v n f l r++[(141,.int ((l+r).fdiv 2)),(103,.int (((l+r).fdiv 2-l)*n))],st):=by
 refine Eq.trans (P.ae (P.bG (P.bF (P.aj rfl rfl rfl) rfl ?_))) ?_
 ·exact(P.gG st _ _).trans (congrArg some (decide_eq_false h))
 refine Eq.trans (P.ae (P.aE (P.aj (P.aj rfl rfl rfl) rfl (P.JY _)) rfl)) ?_;exact Eq.trans (P.ae (P.aE (P.aj (P.aj rfl rfl rfl) rfl (if_pos h4)) rfl)) P.bB
section
variable {p:Pos}{a P:Addr}
theorem ig {es:List E}{ex:Expr}{us:List AV}{f:Addr}{fo:Obj}{fd:FuncData}{v:AV}(G:Glob Z)(R:Kj Z F φ st s.heap)(L:Kl F φ σ sc env O s.heap)(hf:af σ 53=some (.fn f))(Mu:F f=some fo)(Mv:fo.data=.func fd)
  (c:mB sc es ex=true) (e:aN X0 es σ st=some (us,Ke)) (rm:Ks 2 A)
  (hc:∀ F1 Kg Kr h1 tk,Step F φ [] s.heap F1 Kg h1->Kj Z F1 Kg Ke h1->Km F1 Kg us Kr->Good Z w A (call (.ref f) Kr) F1 Kg ⟨h1,s.gens,s.drawn,tk,s.os⟩ v Kd) :
  Good Z w A (eval ex env) F φ s v Kd:=by
 exact bY (P:=λex=>Good Z w A (eval ex env) F φ s v Kd) (λfn as p2 c=>bn (P:=λfn=>Good Z w A (eval (.Call fn as [] p2) env) F φ s v Kd) (λp1 c=>bU c λc1 c2=>la G R L hf Mu Mv c2 c1 e rm hc) c) c
theorem oZ {γ:Type}{o:Option Int}{k:Int->Option γ}{r:γ}{P:Prop}(e:(match o with
 |some x=>k x
 |none=>none)=some r) (f:∀ x,o=some x->k x=some r->P):P:=by
 cases o with
 |none=>exact absurd e bg
 |some z=>exact f _ rfl e
theorem yV (G:Glob Z){f:Nat}{n:Int}{v:AV}{ds:List Int}{body l1:List Stmt}{ea ec eb:Expr}{p1 p2 p3:Pos}{K2:List (Str×Addr)}(ok:Mx scope body l1 ea ec eb p1 p2 p3)(Mi:cN st v=some (ds.map .int)):∀ (k:Nat) {l r u:Int} {A:Around} {F:bf} {φ:List Addr} {s:Shared} {Kr:List Value},eF n ds k l r=some u->Ks (2*k+2) A ->
  Kj Z F φ st s.heap->Lb F φ [(77,v),(0,.int n),(53,.fn f)] scope K2 s.heap->KX F f [139,140] body scope K2->Km F φ [.int l,.int r] Kr ->
  Good Z w A (call (.ref f) Kr) F φ s (.int u) st:=by
 intro k
 induction k with
 |zero=>intro l r u A F φ s Kr e _ _ _ _ _;exact absurd e bg
 |succ k ih=>
  intro l r u A F φ s Kr e rm R C In V Q hQ;have PX:=rm.depth;refine ju In R C (σ:=En v n f l r) rfl V PX λh1 Kk O' tk S1 R1 hO L1=>?_;have Nj:Ks (2*k+3) (A.deeper Kk):=rm.deeper Kk;rw[ok.eq];refine oT e (λOH e=>oI e λhb e=>?_) λOH e=>oZ e λu1 Oo e=>oI e λhb e=>oZ e λv1 hv1 e=>?_
  ·have ex:=By (f:=f) (n:=n) OH hb.1 hb.2 e Mi;refine gj (X:=X0) (le_refl 1) eI G um (s:=sw s h1 tk) ok.c1 ex (Nj.less (by exact Q0 0x311421202111101 [_] rfl)) R1 L1 λF2 KI OF h2 Ku S2 R2 L2 f2=>?_
   cases f2 with
   |ret hv=>exact hQ F2 KI _ h2 Ku (S1.hide S2 hO) R2 hv
  ·have ex:=Bz (v:=v) (f:=f) (st:=st) OH hb.2.2;refine gj (X:=X0) (le_refl 1) eI G um (s:=sw s h1 tk) ok.c1 ex (Nj.less (by exact Q0 0x311421202111101 [_] rfl)) R1 L1 λF2 KI OF h2 Ku S2 R2 L2 f2=>?_;cases f2;have LH:=S1.hide S2 hO;have NU:=In.mono LH.le;have C2:=C.step LH;have PZ:Ks (2*k+2) (A.deeper Kk):=Nj.less (by exact Q0 0x31142120211421201101 [_] rfl);have Pj:Ks 2 (A.deeper Kk):=PZ.less (by exact Q0 0x211421202111101 [_] rfl);have QI:Ks 1 (A.deeper Kk):=Pj.less (by decide);refine dc NU.data λfo fd Mu Mv=>?_
   have g1:Good Z w (A.deeper Kk) (eval ea Kk) F2 KI ⟨h2,s.gens,s.drawn,Ku,s.os⟩ (.int u1) st:=ig (s:=sw s h2 Ku) (us:=[.int _,.int r]) (Ke:=st) G R2 L2 rfl Mu Mv ok.c3
    (P.e2 rfl rfl) Pj λF3 Ma vs3 h3 KU S3 R3 V3=>ih (s:=sw s h3 KU) Oo PZ R3 (C2.step S3) (NU.mono S3.le) V3
   have g2:iX Z w (A.deeper Kk) (eval ec Kk) F2 KI ⟨h2,s.gens,s.drawn,Ku,s.os⟩ Kk st (.int (((l+r).fdiv 2-l)*n)) st:=SE.then (dF (X:=X0) (le_refl 1) eI G (.l 103)) ok.c4 rfl Pj L2
   have g4:iX Z w (A.deeper Kk) (eval eb Kk) F2 KI ⟨h2,s.gens,s.drawn,Ku,s.os⟩ Kk st (.int v1) st:=λF3 Ma h3 KU S3 R3=>
    ig (s:=sw s h3 KU) (us:=[.int l,.int _]) (Ke:=st) G R3 (L2.step S3) rfl (S3.le _ _ Mu) Mv ok.c2
    (P.e2 rfl rfl) Pj λF4 Nt vs4 h4 Lx S4 R4 V4=>ih (s:=sw s h4 Lx) hv1 PZ R4 ((C2.step S3).step S4) ((NU.mono S3.le).mono S4.le) V4
   have g5:=iY (p:=p2) (op:=.Add) (iY (p:=p1) (op:=.LShift) g1 g2 QI (if_pos ⟨hb.1,hb.2.1⟩)) g4 QI (v:=.int (u1*2^(((l+r).fdiv 2-l)*n).toNat+v1)) rfl;exact wpAny_execs_cons (wpAny_Return_some (g5 _ λF3 Ma v3 h3 KU S3 R3 V3=>hQ F3 Ma _ h3 KU (LH.trans S3) R3 (KO e▸V3)))
theorem wp (G:Glob Z)(N:MA Z)(H:fg Z.K 214 [77,0] [.bad,.bad]=true)(Hp:kW Z.K 214 [77,0]=true)(Ho:ny Z=true){args:List AV}{v:AV}{Kr:List Value}(e:rf args st=some (v,Kd))(rm:Ks 30 A)
  (R:Kj Z F φ st s.heap) (V:Km F φ args Kr):Good Z w A (call (.ref 214) Kr) F φ s v Kd:=λQ hQ=>by
 refine two_r (P:=λargs=>Km F φ args Kr->aA w A (call (.ref 214) Kr) Q aq s) (λv0 y e=>eS (P:=λy=>Km F φ [v0,y] Kr->aA w A (call (.ref 214) Kr) Q aq s) (λn e V=>oV e λxs Np e=>oN e λds hds0 e=>oI e λMh e=>?_) e) e V;have Np:=Np.trans (congrArg some (allInts_map hds0));have X':=R.base.inK R.frz;refine th (iD H) λo fd l fa=>?_;have KH:=fa.body;revert KH;refine kx (P:=λl=>fd.body=.stmts l->_) (λs1 s2 ha KH=>bU ha λc2 c3=>?_) (kY (rg Ho fa.funcAt) fa.body);have hb:=eZ (s:=s) Hp (Kr:=Kr) V.length.symm fd fa.funcAt;refine wpAny_call (codeAny_call_function rm.depth (X' _ _ fa.at_) fa.data fa.co fa.gen KH (codeRec_of X' fa.code) (hb _ _ _ _ ?_));rw[fa.glob,fa.blt,fa.clo];refine oS (iC R fa.kind fa.nd (fa.cloOk s.heap) fa.ps (σ:=[(77,v0),(0,.int n)]) rfl V λh1 Kk O' tk S1 R1 hO L1 q1 q2 q3 _=>⟨R1.base.noLimit R1.frz,?_⟩);have Ms:Ks 29 (A.deeper Kk):=rm.deeper Kk;refine codeAny_func (oS ?_);refine wpAny_execs_cons (mA (s:=sw s h1 tk) N (.inr rfl) c2 q2 q3 R1 L1 λF3 f body sI h3 KU cI SI S3 R3 L3 PY=>?_)
 have Co:Lb F3 φ [(77,v0),(0,.int n),(53,.fn f)] sI (cF Kk.cells sI.names []) h3:=wl SI L3 λy v e=>
  gH (P:=λy v=>y∈[77,0,53]/\af (ai [(77,v0),(0,.int n)] 53 (.fn f)) y=some v) ⟨by decide,rfl⟩ (gH (P:=λy v=>y∈[77,0,53]/\af (ai [(77,v0),(0,.int n)] 53 (.fn f)) y=some v) ⟨by decide,rfl⟩ (gH (r:=[]) (P:=λy v=>y∈[77,0,53]/\af (ai [(77,v0),(0,.int n)] 53 (.fn f)) y=some v) ⟨by decide,rfl⟩ (λe=>absurd e bg))) e
 have Ng:=(S1.hide S3 hO);clear KH ha;refine wpAny_execs_cons (jU (P:=λs2=>wpAny (model aM w) (A.deeper Kk) (exec s2 Kk) _ aq ⟨h3,s.gens,s.drawn,KU,s.os⟩) (λo p c=>f9 (P:=λo=>wpAny (model aM w) (A.deeper Kk) (exec (.Return o p) Kk) _ aq ⟨h3,s.gens,s.drawn,KU,s.os⟩) (λx c=>vb (P:=λx=>wpAny (model aM w) (A.deeper Kk) (exec (.Return (some x) p) Kk) _ aq ⟨h3,s.gens,s.drawn,KU,s.os⟩) (λet ea eb p2 c=>fX c λd1 d2 d3=>?_) c) c) c3);have Lj:(ds.map AV.int).length<=1000000:=by rw[length_map];exact Q1 0x3e83111140110f42405141102 [_] Mh rfl
 have hC:aJ X0 HI (ai [(77,v0),(0,.int n)] 53 (.fn f)) st=some (!(ds.map AV.int).isEmpty,st):=
  P.fh (v:=v0) rfl (jQ (P:=λv0=>fF st v0=some (!(ds.map AV.int).isEmpty)) (if_pos Lj) (λj h=>(show fF st (.obj j)=(match listAt st j with |some xs=>if xs.length<=1000000 then some (!xs.isEmpty) else none |none=>none) from rfl).trans (by rw[h];exact if_pos Lj)) Np)
 refine wpAny_Return_some (wpAny_IfExp ((tX (X:=X0) (le_refl 1) eI G HI).run (s:=sw s h3 KU) d1 hC (Ms.less (by decide)) R3 L3 _ λF4 Nt h4 Lx S4 R4=>?_));have L4:=L3.step S4;have OI:=Ng.trans S4;refine oT e (λhx e=>?_) λhx e=>oZ e λu hi e=>?_
 ·subst hx;refine oP (P:=λv Kd=>Ky Z F φ s v Kd Q->_) e (λhQ=>?_) hQ;exact((dF (X:=X0) (le_refl 1) eI G (.int 0)).run (s:=sw s h4 Lx) (σ:=ai [(77,v0),(0,.int n)] 53 (.fn f)) (st:=st) (v:=.int 0) (Kd:=st) d3 rfl (Ms.less (by decide)) R4 L4).good _ λF5 LD v5 h5 LO S5 R5 V5=>hQ F5 LD v5 h5 LO (OI.trans S5) R5 V5
 ·rw[if_pos (by simpa using hx)];refine oP (P:=λv Kd=>Ky Z F φ s v Kd Q->_) e (λhQ=>?_) hQ;have OJ:=PY.mono S4.le;refine dc OJ.data λfo fd4 Mu Mv=>?_;have QJ:(ds.map AV.int).length<=2^24:=le_trans Lj (by decide)
  have hle:gy st .len [v0]=some (.int (ds.map AV.int).length,st):=
   jQ (P:=λv0=>gy st .len [v0]=some (.int (ds.map AV.int).length,st)) (if_pos QJ) (λj h=>(show gy st .len [.obj j]=(match listAt st j with |some xs=>if xs.length<=2^24 then some (.int xs.length,st) else none |none=>none) from rfl).trans (by rw[h];exact if_pos QJ)) Np
  rw[length_map]at hle;obtain⟨l1,a,b,c,p1,p2,p3,cI⟩:=yU cI
  exact ig (s:=sw s h4 Lx) G R4 L4 rfl Mu Mv d2 (P.e2 rfl (P.dn (P.e1 rfl) hle)) (Ms.less (by decide)) (λF5 LD vs5 h5 LO S5 R5 V5=>
   yV G cI Np 12 (s:=sw s h5 LO) hi (Ms.less (by decide)) R5 ((Co.step S4).step S5) (OJ.mono S5.le) V5) _ λF5 LD v5 h5 LO S5 R5 V5=>hQ F5 LD v5 h5 LO (OI.trans S5) R5 V5
end
structure NP (Z:Kz):Prop where
 N:MA Z
 h16:fg Z.K 207 [66,0] [.bad,.bad,.bad,.bad]=true
 p16:kW Z.K 207 [66,0]=true
 o16:nx Z=true
 h17:fg Z.K 214 [77,0] [.bad,.bad]=true
 p17:kW Z.K 214 [77,0]=true
 o17:ny Z=true
section
variable {p:Pos}{a P:Addr}
theorem rl (G:Glob Z)(P:Mc Z)(D:NP Z){C:jD}{k:Nat}(hk:30<=k)(hC:cx Z w k C):cx Z w (k+3) (step C):=by
 intro f args st v Kd e A F φ s vs rm R V;have M8:1<=k:=by exact Q1 0x41e2111041111102 [_] hk rfl
 refine oT e (λh e=>?_) λ_ e=>oT e (λh e=>?_) λ_ e=>oT e (λh e=>?_) λ_ e=>oT e (λh e=>?_) λ_ e=>oT e (λh e=>?_) λ_ e=>oT e (λh e=>?_) λ_ e=>oT e (λh e=>?_) λn35 e=>?_
 ·subst h;show Good Z w A (call (fv 20) vs) F φ s v Kd;rw[P.fva 20 (by decide)];refine mM (P.mks 0) λm1 m2 m3=>?_;have hl:vs.length=1:=oG e λσ h1 _=>V.length.symm.trans (Nat.succ.inj (cJ h1));revert V;refine NQ hl λv2 V=>?_;exact sj (c:=0) M8 hC G m1 m2 m3 P.f20 (λfd hf s X x=>P.d20 fd hf s X x v2) e rm R V
 ·subst h;show Good Z w A (call (fv 21) vs) F φ s v Kd;rw[P.fva 21 (by decide)];refine mM (P.mks 1) λm1 m2 m3=>?_;have hl:vs.length=1:=oG e λσ h1 _=>V.length.symm.trans (Nat.succ.inj (cJ h1));exact sj (c:=1) M8 hC G m1 m2 m3 P.f21 (λfd hf s X x=>eZ P.p21 (congrArg (·+1) hl) fd hf) e rm R V
 ·subst h;show Good Z w A (call (fv 34) vs) F φ s v Kd;rw[P.fva 34 (by decide)];exact yQ M8 hC G P e (rm.less (le_succ _)) R V
 ·subst h;show Good Z w A (call (fv 16) vs) F φ s v Kd;rw[P.fva 16 (by decide)];exact wm G D.N D.h16 D.p16 D.o16 e (rm.less (le_trans hk (le_add_right ..))) R V
 ·subst h;show Good Z w A (call (fv 17) vs) F φ s v Kd;rw[P.fva 17 (by decide)];exact wp G D.N D.h17 D.p17 D.o17 e (rm.less (le_trans hk (le_add_right ..))) R V
 ·subst h;show Good Z w A (call (fv 32) vs) F φ s v Kd;rw[P.fva 32 (by decide)];refine yi (gJ e) λ_ _ _ h1 _=>?_;have hl:vs.length=2:=V.length.symm.trans (Nat.succ.inj ((length_append (bs:=[AV.none])).symm.trans (cJ h1)));revert V;refine NR hl λv1 v2 V=>?_;exact ib M8 hC G P.f32 (λfd hf=>P.d32 fd hf s (R.base.inK R.frz) v1 v2) e (rm.less (le_succ _)) R (Km.append V (.cons .none .nil))
 ·subst h;show Good Z w A (call (fv 35) (vs.take 2) [((ofString "name"),vs.getD 2 .none)]) F φ s v Kd;rw[P.fva 35 (by decide)];refine yi (gJ e) λ_ _ _ h1 _=>?_;have hl:vs.length=3:=V.length.symm.trans (cJ h1);revert V;refine AS hl λv1 v2 v3 V=>?_;exact ib M8 hC G P.f35 (λfd hf=>BindsTo.of_eq (P.d35 fd hf v1 v2 v3)) e (rm.less (le_succ _)) R V
 rw[if_neg n35]
 cases hq:mo.lookup f with
 |none=>rw[hq]at e;exact absurd e bg
 |some q=>rw[hq]at e;exact wg M8 hC G P hq e (rm.less (le_succ _)) R V
theorem uo (G:Glob Z)(P:Mc Z)(D:NP Z):∀ n,cx Z w (3*n+30) (run n):=by
 intro n
 induction n with
 |zero=>
  exact λf args st v Kd e=>by cases e
 |succ n ih=>
  exact rl G P D (by exact Q0 0x1b211114031201e211101 [_] rfl) (ih)
end
end
namespace P
section
variable {X:Cx}{σ Ki KL:Loc}{st Ke Kf KJ LM:St}
theorem HJ {elt:E}{tg:Tg}{x y:AV}{ifs:List C}{b:Bool}(h:aQ σ tg x=some Ki)(h2:dE X ifs Ki st=some (b,st))(h3:aa X elt Ki st=some (y,st)):jt X elt tg ifs σ x st=some (if b then [y] else [],st):=by
 cases b
 ·exact C3 h h2
 ·exact C1 h h2 h3
theorem jI {γ:Type}{o:Option (List Int)}{k:List Int->Option γ}{x:List Int}{r:Option γ}(h:o=some x)(f:k x=r):(match (generalizing:=false) o with
 |some x=>k x
 |none=>none)=r:=by subst h;exact f
theorem jW {γ:Type}{o:Option (List (List Nat))}{k:List (List Nat)->Option γ}{x:List (List Nat)}{r:Option γ}(h:o=some x)(f:k x=r):(match (generalizing:=false) o with
 |some x=>k x
 |none=>none)=r:=by subst h;exact f
theorem Eo {x:Nat}{v:AV}(h:af σ x=some v):aa X (.l x) σ st=some (v,st):=congrArg (Option.map λv=>(v,st)) h
theorem px {γ:Type}{i c d:Nat}{fs:Loc}(h:st[i]?=some (.inst c d))(h2:st[d]?=some (.dict fs))(f:Nat->Nat->Loc->Option γ):qk st i f=f c d fs:=by
 unfold qk;rw[h];dsimp only;rw[h2]
theorem mC {i:Nat}{xs:List AV}(h:st[i]?=some (.list xs)):listAt st i=some xs:=by unfold listAt;rw[h]
theorem sn {i c d k:Nat}{fs:Loc}(h:st[i]?=some (.inst c d))(h2:st[d]?=some (.dict fs))(h3:c=if k=36 then 1 else 0)(h4:af fs (tj k)=none):dr st k (.obj i)=true:=congrArg isSome ((px (γ:=Unit) h h2 λc _ fs=>if c=(if k=36 then 1 else 0)/\af fs (tj k)=none then some () else none).trans (if_pos ⟨h3,h4⟩))
end
theorem lb (x:Nat):¬ (0<=Builtin.bitNot (x:Int)):=by unfold Builtin.bitNot;lia
theorem rn (x:Nat):(Builtin.bitNot (Builtin.bitNot (x:Int)))=x:=by unfold Builtin.bitNot;lia
theorem dH (a b:Nat):Builtin.bitAnd a b=((a &&& b:Nat):Int):=by
 simp[Builtin.bitAnd]
theorem ja (a b:Nat):Builtin.bitOr a b=((a ||| b:Nat):Int):=by
 simp only[Builtin.bitOr,Builtin.bitAnd,decide_eq_false (lb a),decide_eq_false (lb b),rn,toNat_natCast]
noncomputable def wq:Nat->Nat->List Nat
 |0,_=>[]
 |f+1,m=>if m<64 then [] else wq f (m/64)++[64+m/64%64]
noncomputable def pz (m:Nat):List Nat:=wq m m
theorem pA {m:Nat}(h:¬ m<64):m/64<m:=Nat.div_lt_self (lt_of_lt_of_le (by decide) (not_lt.mp h)) (by decide)
theorem iE {f m:Nat}(h:m<64):wq f m=[]:=by
 cases f with
 |zero=>rfl
 |succ f=>exact if_pos h
theorem so:∀ (f g m:Nat),m<=f->m<=g->wq f m=wq g m
 |0,g,m,h,_=>(iE (lt_of_le_of_lt h (by decide))).symm
 |f+1,0,m,_,h=>iE (lt_of_le_of_lt h (by decide))
 |f+1,g+1,m,h,k=>by
  by_cases q:m<64
  ·exact(iE q).trans (iE q).symm
  ·exact(if_neg q).trans ((congrArg (·++_) (so f g (m/64) (le_of_lt_succ (lt_of_lt_of_le (pA q) h)) (le_of_lt_succ (lt_of_lt_of_le (pA q) k)))).trans (if_neg q).symm)
theorem gK {m:Nat}(h:m<64):pz m=[]:=iE h
theorem jZ {m:Nat}(h:¬ m<64):pz m=pz (m/64)++[64+m/64%64]:=by
 cases m with
 |zero=>exact absurd (by decide) h
 |succ f=>exact(if_neg h).trans (congrArg (·++_) (so _ _ _ (le_of_lt_succ (pA h)) (le_refl _)))
noncomputable def bM (m:Nat):List Nat:=pz m++[m%64]
noncomputable def iM (c:Nat):Nat:=if c<32\/c=127 then c+128 else c
theorem yW (m:Nat):∀ c∈pz m,64<=c/\c<128:=by
 induction m using Nat.strongRecOn with
 |_ m ih=>
  intro c hc;by_cases q:m<64
  ·rw[gK q]at hc;cases hc
  ·rw[jZ q]at hc
   cases mem_append.mp hc with
   |inl h=>exact ih (m/64) (pA q) c h
   |inr h=>rw[mem_singleton.mp h];exact⟨le_add_right _ _,add_lt_add_left (mod_lt _ (by decide)) _⟩
theorem nA (m:Nat):∀ c∈bM m,c<128:=by
 intro c hc;simp only[bM,mem_append,mem_singleton]at hc
 cases hc with
 |inl h=>exact(yW m c h).2
 |inr h=>exact Q2 0x402111150110541118021111401103 [_,_] h (mod_lt _ (by decide)) rfl
noncomputable def vp (v:Nat):List Nat->Nat×List Nat
 |[]=>(v,[])
 |x::r=>if x<64 then (v*64+x%64,r) else vp (v*64+x%64) r
theorem iF (v x:Nat)(r:List Nat):vp v (x::r)=if x<64 then (v*64+x%64,r) else vp (v*64+x%64) r:=rfl
theorem yX (m:Nat):∀ (y:Nat) (ys:List Nat),vp 0 (pz m++y::ys)=vp (m/64) (y::ys):=by
 induction m using Nat.strongRecOn with
 |_ m ih=>
  intro y ys;by_cases q:m<64
  ·rw[gK q,div_eq_of_lt q];rfl
  ·rw[jZ q,append_assoc,List.singleton_append,ih (m/64) (pA q),iF];rw[if_neg (by exact not_lt.mpr (Q0 0x44021040211101 [_] rfl))];congr 1;exact GA _
theorem yY (m:Nat)(ys:List Nat):vp 0 (bM m++ys)=(m,ys):=by
 rw[bM,append_assoc,List.singleton_append,yX,iF,if_pos (by exact G0)];congr 1;exact C9 _
theorem Ep (n:Nat)(a:List AV)(st:St):run (n+1) 7 a st=bE (run n) [93] b7 a st:=rfl
noncomputable def c7:C:=.val (.cmp .Gt (.l 93) (.int 63))
noncomputable def w7:List S:=[.aug 93 .FloorDiv (.int 64),.asg (.nm 100) (.b .Add (.call 6 [.b .Add (.int 64) (.b .Mod (.l 93) (.int 64))]) (.l 100))]
theorem wr (C:jD)(m:Nat)(s:AV)(st:St):aJ ⟨C⟩ c7 [(93,.int m),(100,s)] st=some (decide (63<m),st):=by
 have:(63<(m:Int))↔63<m:=ofNat_lt (n:=63);exact(bF rfl rfl rfl).trans (congrArg (λb=>some (b,st)) (decide_eq_decide.mpr this))
theorem BA (m:Nat):(m:Int).fmod 64=((m%64:Nat):Int):=by
 rw[Int.fmod_eq_emod_of_nonneg _ (by exact jP)];lia
theorem BB (m:Nat):(m:Int).fdiv 64=((m/64:Nat):Int):=by
 rw[fdiv_eq_ediv_of_nonneg _ (by exact jP)];lia
theorem Al (m:Nat):aK .Mod (.int m) (.int 64)=some (.int ((m%64:Nat):Int)):=(dT (by decide)).trans (congrArg (λx=>some (AV.int x)) (BA m))
theorem Er (n:Nat)(m:Nat)(s:List Nat)(st:St)(hs:s.length<=1000):cw ⟨run (n+1)⟩ w7 [(93,.int m),(100,.str s)] st=some (.next,[(93,.int ((m/64:Nat):Int)),(100,.str (iM (64+m/64%64)::s))],st):=by
 have h1:divisionGoesByPylong m 64=false:=kV (by decide);have h2:=Eh n (64+m/64%64) st (by exact Q1 0x402111140110802111144021001102 [_] (mod_lt _ (by decide)) rfl);have h4:(64:Int)+((m/64%64:Nat):Int)=((64+m/64%64:Nat):Int):=by lia
 have h5:1+s.length<=1000000:=by exact Dj
 have h6:augI .FloorDiv m 64=some ((m/64:Nat):Int):=(yO ⟨by decide,h1⟩).trans (congrArg some (BB m));refine Eq.trans (ae (jK rfl rfl (cC h6))) (Eq.trans (ae (aE (aj (be (e1 (aj rfl (aj rfl rfl (Al _)) (congrArg (λx=>some (AV.int x)) h4))) h2) rfl (if_pos h5)) rfl)) bB)
theorem l7 (n:Nat)(st:St):∀ (d m:Nat) (s:List Nat) (fuel:Nat),m<64^(d+1)->s.length+d<=1000->d<fuel->∃ m',fZ (aJ ⟨run (n+1)⟩ c7) (cw ⟨run (n+1)⟩ w7) fuel [(93,.int m),(100,.str s)] st=some (.next,[(93,.int m'),(100,.str ((pz m).map iM++s))],st)
 |0,m,s,f+1,h,hs,_=>by
  refine⟨m,?_⟩;rw[gK (by exact bz)];exact fy (by rw[wr,decide_eq_false (by exact GV)])
 |d+1,m,s,f+1,h,hs,hf=>by
  by_cases q:m<64
  ·refine⟨m,?_⟩;rw[gK q];exact fy (by rw[wr,decide_eq_false (by exact GV)])
  ·refine aw (l7 n st d (m/64) (iM (64+m/64%64)::s) f (by rw[pow_succ]at h;exact Q2 0x67440220111540231116011051114040203 [_,_,_,_] h (div_add_mod _ _) rfl) (by simp;exact Q1 0x3e83111150401103e83151114001102 [_,_] hs rfl) (by exact Do)) λm' e=>?_;refine⟨m',?_⟩;rw[ia (by rw[wr,decide_eq_true (by exact zN)]) (Er n m s st (by exact uI)),e,jZ q];simp
theorem HK (n m:Nat)(st:St)(hm:m<262144):run (n+2) 7 [.int m] st=some (.str ((bM m).map iM),st):=by
 have h2:=Eh n (m%64) st (by exact yn);refine aw (l7 n st 2 m [iM (m%64)] jm (by exact bz) (by simp) (by simp[jm])) λm' e=>?_;rw[Ep];refine bT rfl (Eq.trans (ae (aE (be (e1 (aj rfl rfl (Al m))) h2) rfl)) (Eq.trans (ae (Br.trans e)) (cy (sR ?_))));exact congrArg (λx=>some (AV.str x,st)) (by simp[bM])
theorem BC (n:Nat)(a:List AV)(st:St):run (n+1) 19 a st=bE (run n) [84] Hz a st:=rfl
noncomputable def HL:C:=.val (.b .BitAnd (.l 67) (.int 64))
noncomputable def Gg:List S:=[.aug 85 .LShift (.int 6),.asg (.nm 67) (.bi .next [.l 84]),.aug 85 .BitOr (.b .BitAnd (.l 67) (.int 63))]
theorem BD:Hz=[.asg (.nm 67) (.bi .next [.l 84]),.asg (.nm 85) (.b .BitAnd (.l 67) (.int 63)),.whl HL Gg,.ret (.l 85)]:=rfl
theorem Es:∀ c:Fin 128,(iM c.val) &&& 63=c.val%64:=by decide +kernel
theorem Et:∀ c:Fin 128,(iM c.val) &&& 64=if c.val<64 then 0 else 64:=by decide +kernel
theorem ro (c:Nat)(h:c<128):Builtin.bitAnd ((iM c:Nat):Int) 63=((c%64:Nat):Int)/\Builtin.bitAnd ((iM c:Nat):Int) 64=((if c<64 then 0 else 64:Nat):Int):=
 ⟨by have:=dH (iM c) 63;rw[Es ⟨c,h⟩]at this;exact this,by have:=dH (iM c) 64;rw[Et ⟨c,h⟩]at this;exact this⟩
theorem wt (C:jD)(i:Nat)(c v:Nat)(h:c<128)(st:St):aJ ⟨C⟩ HL [(84,.obj i),(67,.int ((iM c:Nat):Int)),(85,.int v)] st=some (decide (64<=c),st):=by
 refine Eq.trans (fh (aj rfl rfl (congrArg (λx=>some (AV.int x)) (ro c h).2)) rfl) (congrArg (λb=>some (b,st)) ?_);by_cases q:c<64
 ·simp[q]
 ·simp[q];exact zN
theorem Eu:∀ (xs:List Nat) (v:Nat),v<=(vp v xs).1:=by
 intro xs
 induction xs with
 |nil=>
  intro v;exact le_refl _
 |cons x r ih=>
  intro v;rw[iF];split
  ·show v<=v*64+x%64;exact Q0 0x544023041101 [_,_] rfl
  ·exact le_trans (by exact Q0 0x544023041101 [_,_] rfl) (ih (v*64+x%64))
theorem intBits_le {a:Int}{k:Nat}(h:a.natAbs<2^k):intBits a<=k:=by
 unfold intBits;split
 ·exact CW
 ·rename_i q;have:=(log2_lt (n:=a.natAbs) (k:=k) (by simpa using q)).mpr h;exact bz
noncomputable def bZ (xs:List Nat):List AV:=xs.map λc=>.int ((iM c:Nat):Int)
theorem Ev:(2:Int)^27=134217728:=rfl
theorem pB {a b:Int}(h0:0<=b)(h:(intBits a:Int)+b<=134217728):augI .LShift a b=some (a*2^b.toNat):=by
 unfold augI;rw[Ev];simp only[h0,h,and_self,if_true]
theorem yZ (a b:Int):augI .BitOr a b=some (Builtin.bitOr a b):=rfl
theorem sq {st:St}{i:Nat}{v:AV}{vs:List AV}(h:st[i]?=some (.iter (v::vs))):gy st .next [.obj i]=some (v,st.set i (.iter vs)):=by
 show(match st[i]? with |some (.iter (x::xs))=>some (x,st.set i (.iter xs)) |_=>none)=_;rw[h]
theorem BE (C:jD)(i:Nat)(c v x:Nat)(xs:List Nat)(st:St)(hi:st[i]?=some (.iter (bZ (x::xs))))(hx:x<128)(hv:v<1048576):cw ⟨C⟩ Gg [(84,.obj i),(67,.int c),(85,.int v)] st=some (.next,[(84,.obj i),(67,.int ((iM x:Nat):Int)),(85,.int ((v*64+x%64:Nat):Int))],st.set i (.iter (bZ xs))):=by
 have h1:intBits (v:Int)<=20:=intBits_le (by rw[natAbs_natCast];exact hv);have h2:augI .LShift v 6=some ((v:Int)*2^(6:Int).toNat):=pB (by exact jP) (by exact Dl)
 have h3:Builtin.bitOr ((v:Int)*2^(6:Int).toNat) ((x%64:Nat):Int)=((v*64+x%64:Nat):Int):=by
  have:((v:Int)*2^(6:Int).toNat)=((v*64:Nat):Int):=by simp
  rw[this,ja,mul_comm,← Nat.two_pow_add_eq_or_of_lt (i:=6) (by exact G0)]
 have h4:gy st .next [.obj i]=some (.int ((iM x:Nat):Int),st.set i (.iter (bZ xs))):=by
  exact sq hi
 have h5:aK .BitAnd (.int ((iM x:Nat):Int)) (.int 63)=some (.int ((x%64:Nat):Int)):=congrArg (λx=>some (AV.int x)) (ro x hx).1;rw[Gg,ae (jK rfl rfl (cC h2)),ae (aE (dn rfl h4) rfl),ae (jK rfl (aj rfl rfl h5) (cC (yZ _ _))),h3];rfl
theorem I5 (C:jD)(i:Nat):∀ (xs:List Nat) (c v0 m:Nat) (rest:List Nat) (st:St) (fuel:Nat),(∀ x∈c::xs,x<128)->(∃ x∈c::xs,x<64)->vp v0 (c::xs)=(m,rest)->m<1048576->xs.length<fuel->st[i]?=some (.iter (bZ xs)) ->
  ∃ c',fZ (aJ ⟨C⟩ HL) (cw ⟨C⟩ Gg) fuel [(84,.obj i),(67,.int ((iM c:Nat):Int)),(85,.int ((v0*64+c%64:Nat):Int))] st=some (.next,[(84,.obj i),(67,c'),(85,.int m)],st.set i (.iter (bZ rest)))
 |xs,c,v0,m,rest,st,0,_,_,_,_,h,_=>absurd h (Nat.not_lt_zero _)
 |xs,c,v0,m,rest,st,f+1,hl,ht,hv,hm,hf,hi=>by
  by_cases q:c<64
  ·rw[iF,if_pos q]at hv;cases hv
   have:st.set i (.iter (bZ xs))=st:=by
    apply ext_getElem? ;intro j;by_cases hj:i=j
    ·subst hj;rw[hi,getElem?_set_self (al hi)]
    ·rw[getElem?_set_ne hj]
   exact⟨_,by rw[fy (by rw[wt _ _ _ _ (by exact bN),decide_eq_false (by exact GV)]),this]⟩
  ·cases xs with
   |nil=>refine ak ht ?_;clear ht;intro x hx hx2;simp at hx;exact absurd (hx▸hx2) q
   |cons x xs=>
    rw[iF,if_neg q]at hv;have Ob:=Eu (x::xs) (v0*64+c%64);rw[hv]at Ob;have hx:x<128:=hl x (by simp)
    refine aw (I5 C i xs x (v0*64+c%64) m rest (st.set i (.iter (bZ xs))) f (λy hy=>hl y (by simp at hy ⊢;exact .inr hy)) (by
     refine ak ht ?_;clear ht;intro y hy Pk;simp at hy
     cases hy with
     |inl h=>exact absurd (h▸Pk) q
     |inr h=>exact⟨y,by simpa using h,Pk⟩) hv hm (by simp at hf;exact bz) (by rw[getElem?_set_self (al hi)])) λc' e=>?_
    refine⟨c',?_⟩;rw[ia (by rw[wt _ _ _ _ (hl c (by simp)),decide_eq_true (by exact zN)]) (BE C i _ _ x xs st hi hx (lt_of_le_of_lt Ob hm)),e,set_set]
theorem Ew (n i:Nat)(xs:List Nat)(m:Nat)(rest:List Nat)(st:St)(hl:∀ x∈xs,x<128)(ht:∃ x∈xs,x<64)(hv:vp 0 xs=(m,rest))(hm:m<1048576)(Ko:xs.length<1000)(hi:st[i]?=some (.iter (bZ xs))) :
  run (n+1) 19 [.obj i] st=some (.int m,st.set i (.iter (bZ rest))):=by
 cases xs with
 |nil=>refine ak ht ?_;clear ht;intro x hx _;simp at hx
 |cons c xs=>
  refine aw (I5 (run n) i xs c 0 m rest (st.set i (.iter (bZ xs))) jm hl ht hv hm (by simp[jm]at Ko ⊢;exact F9) (by rw[getElem?_set_self (al hi)])) λc' e=>?_;rw[set_set,zero_mul,zero_add]at e;rw[BC]
  have h4:gy st .next [.obj i]=some (.int ((iM c:Nat):Int),st.set i (.iter (bZ xs))):=by
   exact sq hi
  have h5:aK .BitAnd (.int ((iM c:Nat):Int)) (.int 63)=some (.int ((c%64:Nat):Int)):=congrArg (λx=>some (AV.int x)) (ro c (hl c (by simp))).1
  exact bT rfl (by
   rw[BD,ae (aE (dn rfl h4) rfl),ae (aE (aj rfl rfl h5) rfl)]
   exact(ae (Br.trans e)).trans (cy (sR rfl)))
abbrev Pr:=List Nat×List Nat
noncomputable def gW (p:Pr):AV:=.tup [.str p.1,.str p.2]
structure Hd (st:St)(i d l:Nat)(xs:List Pr):Prop where
 a:st[i]?=some (.inst 0 d)
 b:st[d]?=some (.dict [(5,.obj l)])
 c:st[l]?=some (.list (xs.map gW))
noncomputable def pC (s:List Nat):Prop:=eT s=true/\s.length<=1000/\dY true s=true/\dY true (s.map qj)=true
noncomputable def BF (xs:List Pr):Prop:=xs.length<=10000/\∀ p∈xs,pC p.1
noncomputable def aG (s:List Nat):List Nat:=s.map qj
theorem Hd.ne {st:St}{i d l:Nat}{xs:List Pr}(h:Hd st i d l xs):i≠l/\d≠l/\i≠d:=by
 refine⟨?_,?_,?_⟩<;>rintro rfl
 ·have:=h.a.symm.trans h.c;simp at this
 ·have:=h.b.symm.trans h.c;simp at this
 ·have:=h.a.symm.trans h.b;simp at this
theorem Hd.mono {st Kd:St}{i d l:Nat}{xs:List Pr}(h:Hd st i d l xs){W:List Nat}(k:Kp W st Kd)(hi:i∉W)(hd:d∉W)(hl:l∉W):Hd Kd i d l xs:=
 ⟨k.get h.a hi,k.get h.b hd,k.get h.c hl⟩
theorem Hd.setL {st:St}{i d l:Nat}{xs ys:List Pr}(h:Hd st i d l xs):Hd (st.set l (.list (ys.map gW))) i d l ys:=by
 refine⟨?_,?_,?_⟩
 ·rw[getElem?_set_ne (λe=>h.ne.1 e.symm)];exact h.a
 ·rw[getElem?_set_ne (λe=>h.ne.2.1 e.symm)];exact h.b
 ·rw[getElem?_set_self (al h.c)]
theorem Hd.recv {st:St}{i d l:Nat}{xs:List Pr}(h:Hd st i d l xs)(k:Nat)(hk:(k==36)=false)(h2:Nat.beq 5 (tj k)=false):dr st k (.obj i)=true:=by
 refine sn h.a h.b (if_neg (of_decide_eq_false hk)).symm ?_;unfold af;rw[h2];rfl
theorem Hd.attr {st:St}{i d l:Nat}{xs:List Pr}(h:Hd st i d l xs):jj st (.obj i) 5=some (.obj l):=px h.a h.b _
theorem stands_obj {st:St}{l:Nat}{xs:List AV}(h:st[l]?=some (.list xs)):an st (.obj l) xs=true:=@decide_eq_true _ (_) (mC h)
theorem ey {st:St}{l:Nat}{xs:List AV}(h:st[l]?=some (.list xs)):aF st (.obj l)=some xs:=mC h
theorem pE {s:List Nat}(h:eT s=true):∀ c∈s,c<1114112:=λc hc=>by
 have:=(all_eq_true.mp h) c hc;simp at this;exact bN
theorem j2 {s:List Nat}(h:eT s=true):∀ c∈aG s,c<1114112:=λc hc=>by
 simp only[aG,mem_map]at hc;refine ak hc ?_;clear hc;rintro x hx rfl;have:=pE h x hx;unfold qj;split<;>(first |exact Dr |exact bz)
theorem dO {st:St}{s:List Nat}(h:pC s):jC st .lower (.str s) []=some (.str (aG s),st):=by
 have:(eT s&&decide (s.length<=1000000))=true:=(and_eq_true ..).mpr ⟨h.1,decide_eq_true (le_trans h.2.1 (by decide))⟩;exact if_pos this
theorem wu {st:St}{s:List Nat}(h:pC s):jC st .upper (.str s) []=some (.str (s.map ya),st):=by
 have:(eT s&&decide (s.length<=1000000))=true:=(and_eq_true ..).mpr ⟨h.1,decide_eq_true (le_trans h.2.1 (by decide))⟩;exact if_pos this
theorem BG (n:Nat)(a:List AV)(st:St):run (n+1) 35 a st=bE (run n) [129,64,110] Gf a st:=rfl
theorem sr (n:Nat)(x:AV)(s:List Nat)(b:Bool)(st:St)(h:dY b s=true)(h2:s.length<=1000000):run (n+1) 35 [x,.str s,.bool b] st=some (.str s,st):=by
 rw[BG];have h3:jC st .search (.rx b) [.str s]=some (.none,st):=if_pos ((and_eq_true ..).mpr ⟨h,decide_eq_true h2⟩);refine bT rfl (cy (Ki:=[(129,x),(64,.str s),(110,.bool b),(170,.rx b)]) ?_);refine(dN (fh rfl rfl)).trans ?_;refine(ae (aE (v:=.rx b) (Ke:=st) ?_ rfl)).trans ?_
 ·cases b
  ·exact sa (fh rfl rfl) rfl
  ·exact my (fh rfl rfl) rfl
 refine(ae (bG (fh (gV rfl rfl (e1 rfl) h3) rfl))).trans ?_;exact cy (sR rfl)
section
variable {n i d l:Nat}{xs:List Pr}{st:St}{s:List Nat}
theorem ss (h:Hd st i d l xs)(hs:pC s):xS ⟨run (n+1)⟩ (.asg (.nm 110) (.conv (.l 129) (.sm .lower (.l 110) []) true)) [(129,.obj i),(110,.str s)] st=some (.next,[(129,.obj i),(110,.str (aG s))],st):=
 aE (r9 rfl (h.recv 35 rfl rfl) (gV rfl rfl dk (dO hs)) (sr n _ _ true st hs.2.2.2 (by rw[aG,length_map];exact le_trans hs.2.1 (by decide)))) rfl
theorem Am (op:CmpOp)(b:Bool){X:Cx}{p:Pr}(hp:pC p.1)(hs:pC s)(hop:(op=.Eq/\b=decide (aG p.1=aG s))\/(op=.NotEq/\b=!decide (aG p.1=aG s))):aJ X (.val (.cmp op (.sm .lower (.sub (.l 174) (.int 0)) []) (.l 110))) [(110,.str (aG s)),(174,gW p)] st=some (b,st):=by
 have e:rO st (.str (aG p.1)) (.str (aG s))=some (decide (aG p.1=aG s)):=nr st (j2 hp.1) (j2 hs.1);refine bF (gV (bW rfl rfl rfl) rfl dk (dO hp)) rfl ?_;rcases hop with ⟨rfl,rfl⟩ |⟨rfl,rfl⟩
 ·exact e
 ·exact congrArg (Option.map (!·)) e
theorem BH (a:List AV):run (n+1) 30 a st=bE (run n) [129,110] I0 a st:=rfl
theorem An (h:Hd st i d l xs)(hx:BF xs)(hs:pC s):run (n+2) 30 [.obj i,.str s] st=some (.lst ((xs.filter λp=>decide (aG p.1=aG s)).map λp=>.str p.2),st):=by
 rw[BH];refine bT rfl ((ae (ss h hs)).trans (cy (sR (aH (bS (ft rfl h.attr) (ey h.c) (by rw[length_map];exact le_trans hx.1 (by decide)) ?_)))));exact bK _ gW _ (stands_obj h.c) xs λp hp=>HJ rfl (uJ (Am .Eq _ (hx.2 p hp) hs (.inl ⟨rfl,rfl⟩))) rfl
theorem BI (a:List AV):run (n+1) 31 a st=bE (run n) [129,110] IZ a st:=rfl
theorem Ex (h:Hd st i d l xs)(hx:BF xs)(hs:pC s):run (n+2) 31 [.obj i,.str s] st=some (.none,st.set l (.list ((xs.filter λp=>!decide (aG p.1=aG s)).map gW))):=by
 rw[BI];have hl:(xs.map gW).length<=10000:=by rw[length_map];exact hx.1
 have hf:((xs.filter λp=>!decide (aG p.1=aG s)).map gW).length<=10000:=by rw[length_map];exact le_trans (length_filter_le _ _) hx.1
 refine wd (Ki:=[(129,.obj i),(110,.str (aG s))]) rfl ((ae (ss h hs)).trans ((ae (Bq (aH (bS (ys:=(xs.filter λp=>!decide (aG p.1=aG s)).map gW) (ft rfl h.attr) (ey h.c) (le_trans hl (by decide)) ?_)) (ft rfl h.attr) ?_)).trans bB))
 ·exact bK _ gW _ (stands_obj h.c) xs λp hp=>HJ rfl (uJ (Am .NotEq _ (hx.2 p hp) hs (.inr ⟨rfl,rfl⟩))) rfl
 ·exact jV (mC h.c) (if_pos Dn)
theorem BJ (a:List AV):run (n+1) 33 a st=bE (run n) [129] I1 a st:=rfl
theorem wv (h:Hd st i d l xs)(hx:BF xs):run (n+1) 33 [.obj i] st=some (.lst (xs.map λp=>.str p.2),st):=by
 rw[BJ];refine bT rfl (cy (sR (aH (bS (ft rfl h.attr) (ey h.c) (by rw[length_map];exact le_trans hx.1 (by decide)) ?_))));exact aD gW _ (stands_obj h.c) xs λp hp=>lC rfl rfl
theorem BK (a:List AV):run (n+1) 32 a st=bE (run n) [129,110,132] Ea (a++[.none]) st:=rfl
noncomputable def I6:List S:=[.iff (.val (.cmp .Eq (.sm .lower (.l 61) []) (.l 110))) [.ret (.l 175)] []]
theorem BL:Ea=[.asg (.nm 110) (.conv (.l 129) (.sm .lower (.l 110) []) true),.for (.tup [61,175]) (.attr (.l 129) 5) I6 [],.ret (.l 132)]:=rfl
theorem J0 {X:Cx}(hs:pC s)(ok:St->Bool)(hk:ok st=true){p:Pr}:∀ (xs:List Pr),(∀ p∈xs,pC p.1)->xs.find? (λp=>decide (aG p.1=aG s))=some p->∀ (τ:Loc),(τ=[]\/∃ u v,τ=[(61,u),(175,v)])->∃ KL,bc ok (bV X (.tup [61,175]) I6) (xs.map gW) ([(129,.obj i),(110,.str (aG s)),(132,.none)]++τ) st=some (.ret (.str p.2),KL,st):=by
 intro xs
 induction xs with
 |nil=>
  intro _ h _ _;simp at h
 |cons x xs ih=>
  intro hx h τ Mj;have hp:=hx x (by simp);have e:rO st (.str (aG x.1)) (.str (aG s))=some (decide (aG x.1=aG s)):=nr st (j2 hp.1) (j2 hs.1)
  have hb:aQ ([(129,.obj i),(110,.str (aG s)),(132,.none)]++τ) (.tup [61,175]) (gW x)=some ([(129,.obj i),(110,.str (aG s)),(132,.none)]++[(61,.str x.1),(175,.str x.2)]):=by
   rcases Mj with rfl |⟨u,v,rfl⟩<;>rfl
  by_cases q:aG x.1=aG s
  ·rw[find?_cons_of_pos (by simpa using q)]at h;cases h;refine⟨_,Bs hk ((aR hb).trans (cy ((dN (bF (gV rfl rfl dk (dO hp)) rfl ?_)).trans (cy (sR rfl)))))⟩;rw[decide_eq_true q]at e;exact e
  ·rw[find?_cons_of_neg (by simpa using q)]at h;refine aw (ih (λp hp=>hx p (by simp[hp])) h [(61,.str x.1),(175,.str x.2)] (.inr ⟨_,_,rfl⟩)) λKL r=>?_;refine⟨KL,(bR hk ((aR hb).trans ((ae (bG (bF (gV rfl rfl dk (dO hp)) rfl ?_))).trans bB))).trans r⟩;rw[decide_eq_false q]at e;exact e
theorem Ey (h:Hd st i d l xs)(hx:BF xs)(hs:pC s){p:Pr}(hf:xs.find? (λp=>decide (aG p.1=aG s))=some p):run (n+2) 32 [.obj i,.str s] st=some (.str p.2,st):=by
 rw[BK];refine aw (J0 (i:=i) (X:=⟨run (n+1)⟩) hs (λst=>an st (.obj l) (xs.map gW)) (stands_obj h.c) xs hx.2 hf [] (.inl rfl)) λKL r=>?_
 have e:xS ⟨run (n+1)⟩ (.asg (.nm 110) (.conv (.l 129) (.sm .lower (.l 110) []) true)) [(129,.obj i),(110,.str s),(132,.none)] st=some (.next,[(129,.obj i),(110,.str (aG s)),(132,.none)],st):=
  aE (r9 rfl (h.recv 35 rfl rfl) (gV rfl rfl dk (dO hs)) (sr n _ _ true st hs.2.2.2 (by rw[aG,length_map];exact le_trans hs.2.1 (by decide)))) rfl
 rw[BL];exact bT rfl ((ae e).trans (cy (wa (ft rfl h.attr) (ey h.c) r)))
end
theorem cz {st g:St}{j:Nat}{o:AO}(h:st[j]?=some o):(st++g)[j]?=some o:=by
 rw[getElem?_append_left (al h)];exact h
theorem aS (st:St)(o:AO):(st++[o])[st.length]?=some o:=by simp
theorem Ao {X:Cx}{σ:Loc}{st:St}{e:E}{v:AV}(h:aa X e σ st=some (v,st))(hv:mR v=false)(b:Bool):aa X (.isNon e b) σ st=some (.bool (false != b),st):=jE h (by rw[hv])
theorem wx {X:Cx}{σ:Loc}{st Ke:St}{e:E}{v:AV}{t:Ty}{b:Bool}(h:aa X e σ st=some (v,Ke))(ht:Dy Ke t v=some b)(neg:Bool):aa X (.isTy e t neg) σ st=some (.bool (b != neg),Ke):=jE h (congrArg (Option.map _) ht)
theorem sv {γ:Type}{o:Rs}{k:Loc->St->Option γ}{a:Loc}{b:St}(h:o=some (.next,a,b)):kP o k=k a b:=by subst h;rfl
noncomputable def J1:List S:=[.expr (.conv (.l 129) (.l 61) true),.expr (.conv (.l 129) (.l 175) false)]
theorem BM:D9=[.asg (.nm 130) (.ite (.val (.isNon (.l 130) true)) (.l 130) (.new false (.list []))),.iff (.val (.isTy (.l 130) .list true)) [.bad] [],.setA (.l 129) 5 (.l 130),.iff (.val (.bool true)) [.for (.tup [61,175]) (.l 130) J1 []] []]:=rfl
theorem Ez (n h:Nat)(st:St)(hh:st[h]?=some (.list [])):∃ Kd,run (n+1) 20 [.obj h] st=some (.obj (st.length+1),Kd)/\Kp [] st Kd/\Hd Kd (st.length+1) st.length h []/\Kd.length=st.length+2:=by
 have Lj:=al hh;refine⟨((st++[AO.dict []])++[AO.inst 0 st.length]).set st.length (AO.dict [(5,.obj h)]),?_,?_,⟨?_,?_,?_⟩,?_⟩
 ·have h1:((st++[AO.dict []])++[AO.inst 0 st.length])[h]?=some (.list []):=cz (cz hh)
  have h2:((st++[AO.dict []])++[AO.inst 0 st.length])[st.length+1]?=some (.inst 0 st.length):=by
   simp[getElem?_append]
  have h3:((st++[AO.dict []])++[AO.inst 0 st.length])[st.length]?=some (.dict []):=by
   simp[getElem?_append]
  have h4:(((st++[AO.dict []])++[AO.inst 0 st.length]).set st.length (AO.dict [(5,.obj h)]))[h]?=some (.list []):=by
   rw[getElem?_set_ne (by exact qe)];exact h1
  have ht:Dy ((st++[AO.dict []])++[AO.inst 0 st.length]) .list (.obj h)=some true:=jV (mC h1) rfl;have hs:fY ((st++[AO.dict []])++[AO.inst 0 st.length]) (.obj (st.length+1)) 5 (.obj h)=some (((st++[AO.dict []])++[AO.inst 0 st.length]).set st.length (AO.dict [(5,.obj h)])):=Eq.trans (px h2 h3 _) (if_pos (by decide))
  have hx:cw ⟨run n⟩ D9 [(129,.obj (st.length+1)),(130,.obj h)] ((st++[AO.dict []])++[AO.inst 0 st.length])=some (.next,[(129,.obj (st.length+1)),(130,.obj h)],((st++[AO.dict []])++[AO.inst 0 st.length]).set st.length (AO.dict [(5,.obj h)])):=by
   rw[BM];refine(ae (aE (my (fh (Ao rfl rfl _) rfl) rfl) rfl)).trans ?_;refine(ae (bG (fh (wx rfl ht true) rfl))).trans ?_;refine(ae (mw rfl rfl hs)).trans ?_;refine(ae (Ki:=[(129,.obj (st.length+1)),(130,.obj h)]) (Ke:=((st++[AO.dict []])++[AO.inst 0 st.length]).set st.length (AO.dict [(5,.obj h)])) ((dN rfl).trans ((ae (fp (v:=.obj h) (xs:=[]) rfl (ey h4) (hZ (stands_obj h4)))).trans bB))).trans bB
  exact sv hx
 ·refine⟨by simp,λj hj _=>?_⟩;rw[getElem?_set_ne (by exact qe),getElem?_append_left (by simp;exact GZ),getElem?_append_left hj]
 ·rw[getElem?_set_ne (by exact zO)];simp[getElem?_append]
 ·rw[getElem?_set_self (by simp)]
 ·rw[getElem?_set_ne (by exact qe)];exact cz (cz hh)
 ·simp
theorem cY {st:St}{i:Nat}{xs:List AV}{v:AV}(h:st[i]?=some (.list xs))(h2:xs.length<1000000):jC st .append (.obj i) [v]=some (.none,st.set i (.list (xs++[v]))):=jV (mC h) (if_pos h2)
theorem cS {st:St}{i:Nat}{xs:List AV}(h:st[i]?=some (.list xs)):jl st (.obj i)=true:=congrArg isSome (mC h)
theorem sy (n:Nat){i d l:Nat}{xs:List Pr}{st:St}(h:Hd st i d l xs)(hx:xs.length<=10000){k v:List Nat}(hk:pC k)(hv:dY false v=true)(QK:v.length<=1000) :
  ∃ Kd,run (n+2) 34 [.obj i,.str k,.str v] st=some (.none,Kd)/\Kp [l] st Kd/\Hd Kd i d l (xs++[(k,v)]):=by
 have hl:=al h.c;have hi:=al h.a;have hd:=al h.b;have PN:v.length<=1000000:=le_trans QK (by decide);have hv4:k.length<=1000000:=le_trans hk.2.1 (by decide);let m:=st.length;let s1:St:=st++[.dict []];let s2:St:=s1++[.list []];let s3:St:=s2.set (m+1) (.list [.str v]);have l1:s1.length=m+1:=by simp[s1,m]
 have k2:Kp [] st s2:=(Kp.app [] st _).trans (Kp.app [] s1 _)
 have k3:Kp [] st s3:=⟨by simp[s3,s2,s1],λj hj _=>by
  show(s2.set (m+1) _)[j]?=_
  rw[getElem?_set_ne (by simp only[m];exact ne_of_gt (Q1 0x51114011011150111401102 [_,_] hj rfl))];exact k2.2 j hj (by simp)⟩
 have g2:s2[m+1]?=some (.list []):=by rw[← l1];exact aS s1 _
 have g3:s3[m+1]?=some (.list [.str v]):=getElem?_set_self (al g2)
 have d3:s3[m]?=some (.dict []):=by
  show(s2.set (m+1) _)[m]?=_;rw[getElem?_set_ne (by exact JL)];exact cz (aS st _)
 have h2:Hd s2 i d l xs:=h.mono k2 (by simp) (by simp) (by simp);have h3:Hd s3 i d l xs:=h.mono k3 (by simp) (by simp) (by simp);have a2:jC s2 .append (.obj (m+1)) [.str v]=some (.none,s3):=cY g2 (by decide)
 have a3:jC s3 .append (.obj l) [gW (k,v)]=some (.none,s3.set l (.list ((xs++[(k,v)]).map gW))):=by
  rw[cY h3.c (by rw[length_map];exact dU),map_append];rfl
 have j3:jC s3 .join (.str [59,32]) [.obj (m+1)]=some (.str v,s3):=jV (mC g3) (if_pos (show v.length+0+1*2<=1000000 by exact Q1 0x3e8314110f424051211014001102 [_] QK rfl));let K4:Loc:=[(129,.obj i),(133,.str k),(134,.str v),(135,.obj m)];let Ki:Loc:=[(129,.obj i),(133,.str k),(134,.str v),(135,.obj m),(125,.obj (m+1))]
 have e1:aa ⟨run (n+1)⟩ (.new true (.list [])) K4 s1=some (.obj (m+1),s2):=by
  rw[← l1];exact eH (cK dk)
 have x1:cw ⟨run (n+1)⟩ yL K4 s1=some (.next,Ki,s3):=by
  refine(ae (aE e1 rfl)).trans ?_;refine(ae (Ki:=Ki) (Ke:=s3) ((dN (fh (Ao rfl rfl _) rfl)).trans ?_)).trans bB;refine(ae (aE (r9 rfl (h2.recv 35 rfl rfl) rfl (sr n _ v false s2 hv PN)) rfl)).trans ?_;exact(ae (eG (gV rfl (cS g2) (P.e1 rfl) a2) rfl)).trans bB
 have x2:cw ⟨run (n+1)⟩ yM Ki s3=some (.next,Ki,s3.set l (.list ((xs++[(k,v)]).map gW))):=by
  refine(ae (eG (gV (ft rfl h3.attr) (cS h3.c) (P.e1 (kU (e2 (r9 rfl (h3.recv 35 rfl rfl) rfl (sr n _ k true s3 hk.2.2.1 hv4)) (gV rfl rfl (P.e1 rfl) j3)))) a3) rfl)).trans bB
 refine⟨s3.set l (.list ((xs++[(k,v)]).map gW)),?_,(k3.more (by simp)).trans (Kp.set (by simp) _ _),h3.setL⟩;show vX (run (n+1)) [.obj i,.str k,.str v] st=_
 have np:nq Ki s3=true:=by
  unfold nq;show isSome (match s3[m]? with |some o=>_ |none=>_)=true;rw[d3];rfl
 exact(sv x1).trans ((if_pos np).trans (sv x2))
theorem iG {st:St}{i:Nat}{xs:List AV}(h:st[i]?=some (.list xs))(h2:xs.length<=100000):gy st .len [.obj i]=some (.int xs.length,st):=jV (mC h) (if_pos (le_trans h2 (by decide)))
theorem j4 {st:St}{xs:List AV}(h2:xs.length<=100000):gy st .len [.lst xs]=some (.int xs.length,st):=if_pos (le_trans h2 (by decide))
theorem ix {k:Nat}(h:k<1000000):(0:Int)<=(k:Int)/\(k:Int)<2^62:=⟨by exact jP,by exact yl⟩
theorem cG {st:St}{i:Nat}{xs:List AV}{v:AV}{k:Nat}(h:st[i]?=some (.list xs))(h2:xs[k]?=some v)(h3:k<1000000):cB st (.obj i) (.int k)=some v:=jV (mC h) ((if_pos (ix h3)).trans h2)
theorem wy {γ:Type}{x:AV}{f:List Nat->Option γ}{z:Option γ}(h:∀ s,x≠.str s):isStr x f z=z:=by
 cases x<;>first |rfl |exact absurd rfl (h _)
theorem sL {st:St}{x:AV}{xs:List AV}{v:AV}{k:Nat}(h:lS st x=some xs)(hs:∀ s,x≠.str s)(h2:xs[k]?=some v)(h3:k<1000000):cB st x (.int k)=some v:=by
 unfold cB;show isStr x _ _=_;rw[wy hs];exact jV h ((if_pos (ix h3)).trans h2)
theorem fN {st:St}{xs:List AV}{v:AV}{k:Nat}(h2:xs[k]?=some v)(h3:k<1000000):cB st (.lst xs) (.int k)=some v:=sL rfl nofun h2 h3
theorem y7 {st:St}{xs:List AV}{v:AV}{k:Nat}(h2:xs[k]?=some v)(h3:k<1000000):cB st (.tup xs) (.int k)=some v:=sL rfl nofun h2 h3
theorem gk {st:St}{i:Nat}{xs:List AV}{v:AV}{k:Nat}(h:st[i]?=some (.list xs))(h2:k<xs.length)(h3:k<1000000):jk st (.obj i) (.int k) v=some (st.set i (.list (xs.set k v))):=
 jV (mC h) (if_pos (show(0:Int)<=(k:Int)/\(k:Int)<xs.length/\(k:Int)<2^62 from ⟨by exact jP,by exact uH,by exact yl⟩))
noncomputable def eQ (cs:List Int)(z:Nat):List Int:=if z<cs.length then cs else cs++replicate (z-cs.length+1) 0
noncomputable def bump (cs:List Int)(z:Nat):List Int:=(eQ cs z).set z ((eQ cs z).getD z 0+1)
theorem pF (cs:List Int)(z:Nat):z<(eQ cs z).length:=by
 unfold eQ;split
 ·assumption
 ·simp;exact Q1 0x56041101116050111401102 [_,_,_] Gm rfl
theorem wz (cs:List Int)(z:Nat):(bump cs z).length=max cs.length (z+1):=by
 unfold bump eQ;split<;>simp<;>first |exact Gw (by assumption) |exact(Nat.max_eq_left (by assumption)).symm
noncomputable def HM:List S:=[.asg (.nm 0) (.b .Add (.l 0) (.int 1)),.asg (.nm 1) (.b .Add (.l 1) (.int 1)),.iff (.val (.cmp .GtE (.l 67) (.bi .len [.l 155]))) [.asg (.nm 155) (.new true (.cat (.l 155) (.new false (.rep (.int 0) (.b .Add (.b .Sub (.l 67) (.bi .len [.l 155])) (.int 1))))))] [],.setI (.l 155) (.l 67) (.b .Add (.sub (.l 155) (.l 67)) (.int 1)),.asg (.nm 67) (.int 0)]
noncomputable def HN:List S:=[.asg (.nm 0) (.b .Add (.l 0) (.int 1)),.asg (.nm 67) (.b .Add (.l 67) (.int 1))]
noncomputable def yc:List S:=[.iff (.val (.cmp .Eq (.l 156) (.l 152))) HN [.iff (.val (.cmp .Eq (.l 156) (.l 153))) HM [.brk]]]
theorem BN:Eb=[.setA (.l 129) 3 (.l 154),.asg2 [152,153] [.cattr false,.cattr true],.asg (.nm 155) (.new true (.list [])),.asgs [67,0,1] (.int 0),.for (.nm 156) (.attr (.l 129) 3) yc [],.setA (.l 129) 0 (.l 0),.setA (.l 129) 1 (.l 1),.setA (.l 129) 2 (.tup [.bi .tuple [.l 155],.l 67]),.setA (.l 129) 4 (.cmp .LtE (.bi .len [.l 155]) (.int 1))]:=rfl
section
variable {X:Cx}{i:Nat}{s:List Nat}
noncomputable def Ls (i:Nat)(s:List Nat)(c b n nt:Nat)(τ:Loc):Loc:=(129,.obj i)::(154,.str s)::(153,.str [9])::(152,.str [32])::(155,.obj c)::(67,.int b)::(0,.int n)::(1,.int nt)::τ
noncomputable def Mk (τ:Loc):Prop:=τ=[]\/∃ v,τ=[(156,v)]
theorem EA (st:St)(a b:Nat)(ha:a<256)(hb:b<256):bJ st .Eq (.str [a]) (.str [b])=some (decide (a=b)):=by
 refine(nr st (λc h=>mem_singleton.mp h▸lt_trans ha (by decide)) (λc h=>mem_singleton.mp h▸lt_trans hb (by decide))).trans (congrArg some ?_);exact decide_eq_decide.mpr ⟨λh=>List.head_eq_of_cons_eq h,λh=>h▸rfl⟩
theorem wA {c b n nt:Nat}{τ:Loc}(h:Mk τ)(v:AV):aQ (Ls i s c b n nt τ) (.nm 156) v=some (Ls i s c b n nt [(156,v)]):=by
 rcases h with rfl |⟨u,rfl⟩<;>rfl
theorem BO (c b n nt:Nat){τ:Loc}(h:Mk τ)(st:St):bV X (.nm 156) yc (.str [32]) (Ls i s c b n nt τ) st=some (.next,Ls i s c (b+1) (n+1) nt [(156,.str [32])],st):=by
 refine(aR (wA h _)).trans ((ae ((dN (bF rfl rfl (EA st 32 32 (by decide) (by decide)))).trans ?_)).trans bB);refine(ae (aE (aj rfl rfl rfl) rfl)).trans ?_;refine(ae (aE (aj rfl rfl rfl) rfl)).trans ?_;rw[bB];rfl
theorem BP (c b n nt x:Nat)(hx:x<256)(h1:x≠32)(h2:x≠9){τ:Loc}(h:Mk τ)(st:St):bV X (.nm 156) yc (.str [x]) (Ls i s c b n nt τ) st=some (.brk,Ls i s c b n nt [(156,.str [x])],st):=by
 have e1:=EA st x 32 hx (by decide);have e2:=EA st x 9 hx (by decide);rw[decide_eq_false h1]at e1;rw[decide_eq_false h2]at e2;refine(aR (wA h _)).trans (ug ((kT (bF rfl rfl e1)).trans (ug ((kT (bF rfl rfl e2)).trans (ug rfl)))))
theorem HO (c b n nt:Nat)(cs:List Int){τ:Loc}(h:Mk τ)(st:St)(hc:st[c]?=some (.list (cs.map .int)))(hl:cs.length<=1000)(hb:b<=1000) :
  ∃ c' Kd,bV X (.nm 156) yc (.str [9]) (Ls i s c b n nt τ) st=some (.next,Ls i s c' 0 (n+1) (nt+1) [(156,.str [9])],Kd)/\Kp [c] st Kd/\Kd[c']?=some (.list ((bump cs b).map .int))/\(c'=c\/c'=st.length):=by
 have e1:=EA st 9 32 (by decide) (by decide);have e2:=EA st 9 9 (by decide) (by decide)
 have Ko:gy st .len [.obj c]=some (.int cs.length,st):=by
  have:=iG hc (by rw[length_map];exact bN)
  rwa [length_map]at this
 have key:∀ (c':Nat) (Ke:St),Ke[c']?=some (.list ((eQ cs b).map .int)) ->
   cw X [.setI (.l 155) (.l 67) (.b .Add (.sub (.l 155) (.l 67)) (.int 1)),.asg (.nm 67) (.int 0)] (Ls i s c' b (n+1) (nt+1) [(156,.str [9])]) Ke=some (.next,Ls i s c' 0 (n+1) (nt+1) [(156,.str [9])],Ke.set c' (.list ((bump cs b).map .int))):=by
  intro c' Ke h1;have hx:=pF cs b
  have g:((eQ cs b).map AV.int)[b]?=some (.int ((eQ cs b).getD b 0)):=by
   rw[getElem?_map,getElem?_eq_getElem hx];simp[List.getD,getElem?_eq_getElem hx]
  refine(ae (Ed (aj (bW rfl rfl (cG h1 g (by exact dU))) rfl rfl) rfl rfl (gk h1 (by rw[length_map];exact hx) (by exact dU)))).trans ?_;refine(ae (aE rfl rfl)).trans ?_;rw[bB,show(bump cs b).map AV.int=((eQ cs b).map AV.int).set b (.int ((eQ cs b).getD b 0+1)) by rw[bump,map_set]];rfl
 have go:∀ {c':Nat} {Ke Kf:St},xS X (.iff (.val (.cmp .GtE (.l 67) (.bi .len [.l 155]))) [.asg (.nm 155) (.new true (.cat (.l 155) (.new false (.rep (.int 0) (.b .Add (.b .Sub (.l 67) (.bi .len [.l 155])) (.int 1))))))] []) (Ls i s c b (n+1) (nt+1) [(156,.str [9])]) st=some (.next,Ls i s c' b (n+1) (nt+1) [(156,.str [9])],Ke) ->
   cw X [.setI (.l 155) (.l 67) (.b .Add (.sub (.l 155) (.l 67)) (.int 1)),.asg (.nm 67) (.int 0)] (Ls i s c' b (n+1) (nt+1) [(156,.str [9])]) Ke=some (.next,Ls i s c' 0 (n+1) (nt+1) [(156,.str [9])],Kf)->bV X (.nm 156) yc (.str [9]) (Ls i s c b n nt τ) st=some (.next,Ls i s c' 0 (n+1) (nt+1) [(156,.str [9])],Kf):=by
  intro c' Ke Kf h1 h2;refine(aR (wA h _)).trans ((ae ((kT (bF rfl rfl e1)).trans ((ae ((dN (bF rfl rfl e2)).trans ?_)).trans bB))).trans bB);refine(ae (aE (aj rfl rfl rfl) rfl)).trans ?_;refine(ae (aE (aj rfl rfl rfl) rfl)).trans ?_;exact(ae h1).trans h2
 by_cases q:b<cs.length
 ·have hg:bJ st .GtE (.int b) (.int cs.length)=some false:=by
   refine congrArg some ?_;simp;exact bz
  have hE:eQ cs b=cs:=by rw[eQ,if_pos q]
  refine⟨c,_,go (bG (bF rfl (dn (P.e1 rfl) Ko) hg)) (key c st (by rw[hE];exact hc)),Kp.set (by simp) _ _,getElem?_set_self (al hc),.inl rfl⟩
 ·have hg:bJ st .GtE (.int b) (.int cs.length)=some true:=by
   refine congrArg some ?_;simp;exact zN
  have hE:(eQ cs b).map AV.int=cs.map AV.int++replicate ((b:Int)-(cs.length:Int)+1).toNat (.int 0):=by
   rw[eQ,if_neg q,map_append,List.map_replicate];congr 2;exact Gq q
  have hr:dt X (.cat (.l 155) (.new false (.rep (.int 0) (.b .Add (.b .Sub (.l 67) (.bi .len [.l 155])) (.int 1))))) (Ls i s c b (n+1) (nt+1) [(156,.str [9])]) st=some ((eQ cs b).map .int,st):=by
   rw[hE];exact wc rfl (aH (Bt rfl (aj (aj rfl (dn (P.e1 rfl) Ko) rfl) rfl rfl) (by lia) (by lia))) (mC hc) rfl (by simp;lia)
  refine⟨st.length,_,go (c':=st.length) (Ke:=st++[.list ((eQ cs b).map .int)]) ((dN (bF rfl (dn (P.e1 rfl) Ko) hg)).trans ((ae (aE (eH hr) rfl)).trans bB)) (key st.length _ (aS _ _)),?_,getElem?_set_self (by simp),.inr rfl⟩;refine⟨by simp,λj hj _=>?_⟩;rw[getElem?_set_ne (by exact qe),getElem?_append_left hj]
end
noncomputable def Kb (m:Nat)(a b:St):Prop:=a.length<=b.length/\∀ j,j<m->b[j]?=a[j]?
theorem Kb.refl (m:Nat)(a:St):Kb m a a:=⟨le_refl _,λ_ _=>rfl⟩
theorem Kb.trans {m:Nat}{a b c:St}(x:Kb m a b)(y:Kb m b c):Kb m a c:=⟨le_trans x.1 y.1,λj h=>(y.2 j h).trans (x.2 j h)⟩
noncomputable def jM (l:List Nat):List AV:=l.map λc=>.str [c]
theorem nB (a b:List Nat):jM (a++b)=jM a++jM b:=by simp[jM]
noncomputable def bH (z:Nat):List Nat:=replicate z 32++[9]
noncomputable def cH (L:List Nat):List Nat:=(L.map bH).flatten
theorem jb (z:Nat)(L:List Nat):cH (z::L)=replicate z 32++9::cH L:=by simp[cH,bH]
theorem pG (L M:List Nat):cH (L++M)=cH L++cH M:=by simp[cH]
section
variable {X:Cx}{i:Nat}{s:List Nat}
theorem sM (c nt:Nat)(st:St)(rest:List AV){ok:St->Bool}(hk:∀ st,ok st=true):∀ (z b n:Nat) (τ:Loc),Mk τ->∃ Kw,Mk Kw/\bc ok (bV X (.nm 156) yc) (jM (replicate z 32)++rest) (Ls i s c b n nt τ) st=bc ok (bV X (.nm 156) yc) rest (Ls i s c (b+z) (n+z) nt Kw) st:=by
 intro z
 induction z with
 |zero=>
  intro b n τ h;exact⟨τ,h,by simp[jM]⟩
 |succ z ih=>
  intro b n τ h;refine ak (ih (b+1) (n+1) [(156,.str [32])] (.inr ⟨_,rfl⟩)) λKw h' e=>?_;refine⟨Kw,h',?_⟩;rw[replicate_succ,jM,map_cons,cons_append,bR (hk _) (BO c b n nt h st)];rw[show b+(z+1)=b+1+z by exact le_antisymm (Q0 0x511140011150401101 [_,_] rfl) (Q0 0x111504051114001101 [_,_] rfl),show n+(z+1)=n+1+z by exact le_antisymm (Q0 0x511140011150401101 [_,_] rfl) (Q0 0x111504051114001101 [_,_] rfl)];exact e
theorem EB {ok:St->Bool}(hk:∀ st,ok st=true)(m:Nat)(rest:List AV):∀ (L:List Nat) (c n nt:Nat) (cs:List Int) (τ:Loc) (st:St),Mk τ->st[c]?=some (.list (cs.map .int))->(∀ z∈L,z<=100)->cs.length<=200->m<=c->m<=st.length ->
  ∃ c' Kw Kd,Mk Kw/\bc ok (bV X (.nm 156) yc) (jM (cH L)++rest) (Ls i s c 0 n nt τ) st=bc ok (bV X (.nm 156) yc) rest (Ls i s c' 0 (n+L.sum+L.length) (nt+L.length) Kw) Kd/\Kb m st Kd/\Kd[c']?=some (.list ((L.foldl bump cs).map .int))/\(L.foldl bump cs).length<=200/\m<=c':=by
 intro L
 induction L with
 |nil=>
  intro c n nt cs τ st h hc hz hl hm QL;exact⟨c,τ,st,h,by simp[jM,cH],Kb.refl _ _,hc,hl,hm⟩
 |cons z L ih=>
  intro c n nt cs τ st h hc hz hl hm QL;have OK:z<=100:=hz z (by simp);refine ak (sM (X:=X) (i:=i) (s:=s) c nt st (jM (9::cH L)++rest) hk z 0 n τ h) λKC h1 e1=>?_;refine yj (HO (X:=X) (i:=i) (s:=s) c (0+z) (n+z) nt cs h1 st hc (by exact bN) (by exact Dj)) λc2 Kf e2 k2 g2 d2=>?_;have hb:(bump cs z).length<=200:=by rw[wz];exact max_le.mpr ⟨by assumption,le_trans (succ_le_succ (by assumption:z<=100)) (by decide)⟩
  rw[zero_add]at g2;refine uO (ih c2 (n+z+1) (nt+1) (bump cs z) [(156,.str [9])] Kf (.inr ⟨_,rfl⟩) g2 (λy hy=>hz y (by simp[hy])) hb (by rcases d2 with rfl |rfl<;>exact bz) (le_trans QL k2.1)) λc3 Ld KJ h3 e3 k3 g3 q3 m3=>?_;refine⟨c3,Ld,KJ,h3,?_,Kb.trans ⟨k2.1,λj hj=>k2.2 j (by exact AQ) (by simp;exact G6)⟩ k3,g3,q3,m3⟩;rw[jb,nB,append_assoc,e1,jM,map_cons,cons_append,bR (hk _) e2];rw[show n+(z::L).sum+(z::L).length=n+z+1+L.sum+L.length by simp;exact le_antisymm (Q0 0x76111540000111706504001101 [_,_,_,_] rfl) (Q0 0x11170650400761115400001101 [_,_,_,_] rfl),show nt+(z::L).length=nt+1+L.length by simp;exact le_antisymm (Q0 0x511140011150401101 [_,_] rfl) (Q0 0x111504051114001101 [_,_] rfl)];exact e3
end
structure Ws (st:St)(i n nt b:Nat)(cs:List Int):Prop where
 h:∃ d s q,st[i]?=some (.inst 1 d)/\st[d]?=some (.dict [(3,.str s),(0,.int n),(1,.int nt),(2,.tup [.tup (cs.map .int),.int b]),(4,.bool q)])
theorem Ws.mono {st Kd:St}{i n nt b:Nat}{cs:List Int}(h:Ws st i n nt b cs){W:List Nat}(k:Kp W st Kd)(hl:∀ j∈W,∃ xs,st[j]?=some (.list xs)):Ws Kd i n nt b cs:=by
 obtain⟨d,s,q,h1,h2⟩:=h;refine⟨d,s,q,k.get h1 λhi=>?_,k.get h2 λhi=>?_⟩
 ·refine aw (hl _ hi) λxs e=>?_;rw[h1]at e;simp at e
 ·refine aw (hl _ hi) λxs e=>?_;rw[h2]at e;simp at e
theorem Ws.n {st:St}{i n nt b:Nat}{cs:List Int}(h:Ws st i n nt b cs):jj st (.obj i) 0=some (.int n):=by
 obtain⟨d,s,q,h1,h2⟩:=h;exact Eq.trans (px h1 h2 _) rfl
theorem Ws.nt {st:St}{i n nt b:Nat}{cs:List Int}(h:Ws st i n nt b cs):jj st (.obj i) 1=some (.int nt):=by
 obtain⟨d,s,q,h1,h2⟩:=h;exact Eq.trans (px h1 h2 _) rfl
theorem Ws.norm {st:St}{i n nt b:Nat}{cs:List Int}(h:Ws st i n nt b cs):jj st (.obj i) 2=some (.tup [.tup (cs.map .int),.int b]):=by
 obtain⟨d,s,q,h1,h2⟩:=h;exact Eq.trans (px h1 h2 _) rfl
theorem Ws.recv {st:St}{i n nt b:Nat}{cs:List Int}(h:Ws st i n nt b cs):dr st 36 (.obj i)=true:=by
 obtain⟨d,s,q,h1,h2⟩:=h;exact sn h1 h2 rfl rfl
noncomputable def BQ (t:List Nat):Prop:=t=[]\/∃ x r,t=x::r/\x<256/\x≠32/\x≠9
theorem eJ {st:St}{i k d:Nat}{fs:List (Nat×AV)}{v:AV}(a:Nat)(h1:st[i]?=some (.inst k d))(h2:st[d]?=some (.dict fs))(h3:fs.length<=100):fY st (.obj i) a v=some (st.set d (.dict (ai fs a v))):=Eq.trans (px h1 h2 _) (if_pos h3)
theorem wC (n:Nat)(st:St)(L:List Nat)(t:Nat)(tail:List Nat)(hL:∀ z∈L,z<=100)(ht:BQ tail) :
  ∃ Kd,run (n+1) 21 [.str (cH L++(replicate t 32++tail))] st=some (.obj (st.length+1),Kd)/\Kp [] st Kd/\Ws Kd (st.length+1) (L.sum+L.length+t) L.length t (L.foldl bump []):=by
 let m:=st.length;let s:=cH L++(replicate t 32++tail);let s0:St:=(st++[AO.dict []])++[AO.inst 1 m];let s1:St:=s0.set m (AO.dict [(3,.str s)]);let s2:St:=s1++[AO.list []];have l0:s0.length=m+2:=by simp[s0,m]
 have l1:s1.length=m+2:=by simp[s1,l0]
 have l2:s2.length=m+3:=by simp[s2,l1]
 have i0:s0[m+1]?=some (.inst 1 m):=by simp[s0,m,getElem?_append]
 have d0:s0[m]?=some (.dict []):=by simp[s0,m,getElem?_append]
 have i1:s1[m+1]?=some (.inst 1 m):=by
  show(s0.set m _)[m+1]?=_;rw[getElem?_set_ne (by exact zO)];exact i0
 have d1:s1[m]?=some (.dict [(3,.str s)]):=getElem?_set_self (al d0);have i2:s2[m+1]?=some (.inst 1 m):=cz i1;have d2:s2[m]?=some (.dict [(3,.str s)]):=cz d1;have c2:s2[m+2]?=some (.list (([]:List Int).map .int)):=by rw[← l1];exact aS s1 _
 let K4:Loc:=[(129,.obj (m+1)),(154,.str s)];let X:Cx:=⟨run n⟩;have hk:∀ Kd,(λst=>an st (.str s) (jM s)) Kd=true:=λ_=>rfl;refine uO (EB (X:=X) (i:=m+1) (s:=s) hk (m+2) (jM (replicate t 32)++jM tail) L (m+2) 0 0 [] [] s2 (.inl rfl) c2 hL (by simp) (by exact G4) (by exact Q1 0x3114051125211401102 [_,_] l2 rfl)) λc3 Ld s3 t3 e3 k3 g3 q3 m3=>?_;refine ak (sM (X:=X) (i:=m+1) (s:=s) c3 (0+L.length) s3 (jM tail) hk t 0 (0+L.sum+L.length) Ld t3) λLl t4 e4=>?_;rw[e4]at e3;have i3:s3[m+1]?=some (.inst 1 m):=by rw[k3.2 _ (by exact G4)];exact i2
 have d3:s3[m]?=some (.dict [(3,.str s)]):=by rw[k3.2 _ (by exact AP)];exact d2
 have lp:∃ Ln ,xS X (.for (.nm 156) (.attr (.l 129) 3) yc []) (Ls (m+1) s (m+2) 0 0 0 []) s2=some (.next,Ls (m+1) s c3 (0+t) (0+L.sum+L.length+t) (0+L.length) Ln,s3):=by
  have ha:aa X (.attr (.l 129) 3) (Ls (m+1) s (m+2) 0 0 0 []) s2=some (.str s,s2):=ft (x:=.obj (m+1)) rfl (Eq.trans (px i2 d2 _) rfl);have hs:jM s=jM (cH L)++(jM (replicate t 32)++jM tail):=by rw[← nB,← nB]
  rw[← hs]at e3;rcases ht with ht |⟨x,r,ht,hx,h1,h2⟩
  ·refine⟨Ll,fp ha rfl ?_⟩;show bc (λst=>an st (.str s) (jM s)) _ (jM s) _ _=_;rw[e3,ht];exact hZ (hk _)
  ·refine⟨[(156,.str [x])],Aj ha rfl ?_⟩;show bc (λst=>an st (.str s) (jM s)) _ (jM s) _ _=_;rw[e3,ht];exact Ee (hk _) (BP _ _ _ _ x hx h1 h2 t4 s3)
 refine aw lp ?_;clear lp;intro Ln lp;let nn:=0+L.sum+L.length+t;let kk:=0+L.length;let bb:=0+t;let Mo:=Ls (m+1) s c3 bb nn kk Ln;let cs:=L.foldl bump [];let s4:St:=s3.set m (AO.dict [(3,.str s),(0,.int nn)]);let s5:St:=s4.set m (AO.dict [(3,.str s),(0,.int nn),(1,.int kk)]);let s6:St:=s5.set m (AO.dict [(3,.str s),(0,.int nn),(1,.int kk),(2,.tup [.tup (cs.map .int),.int bb])]);let s7:St:=s6.set m (AO.dict [(3,.str s),(0,.int nn),(1,.int kk),(2,.tup [.tup (cs.map .int),.int bb]),(4,.bool (decide (((cs.map AV.int).length:Int)<=1)))]);have hm3:m<s3.length:=al d3
 have i4:s4[m+1]?=some (.inst 1 m):=by
  show(s3.set m _)[m+1]?=_;rw[getElem?_set_ne (by exact zO)];exact i3
 have d4:s4[m]?=some (.dict [(3,.str s),(0,.int nn)]):=getElem?_set_self hm3
 have i5:s5[m+1]?=some (.inst 1 m):=by
  show(s4.set m _)[m+1]?=_;rw[getElem?_set_ne (by exact zO)];exact i4
 have d5:s5[m]?=some (.dict [(3,.str s),(0,.int nn),(1,.int kk)]):=getElem?_set_self (al d4)
 have i6:s6[m+1]?=some (.inst 1 m):=by
  show(s5.set m _)[m+1]?=_;rw[getElem?_set_ne (by exact zO)];exact i5
 have d6:s6[m]?=some (.dict [(3,.str s),(0,.int nn),(1,.int kk),(2,.tup [.tup (cs.map .int),.int bb])]):=getElem?_set_self (al d5)
 have i7:s7[m+1]?=some (.inst 1 m):=by
  show(s6.set m _)[m+1]?=_;rw[getElem?_set_ne (by exact zO)];exact i6
 have d7:s7[m]?=some (.dict [(3,.str s),(0,.int nn),(1,.int kk),(2,.tup [.tup (cs.map .int),.int bb]),(4,.bool (decide (((cs.map AV.int).length:Int)<=1)))]):=getElem?_set_self (al d6)
 have cc:∀ (u:St) (o:AO),u[c3]?=some (.list (cs.map .int))->(u.set m o)[c3]?=some (.list (cs.map .int)):=λu o h=>by
  rw[getElem?_set_ne (by exact ne_of_lt (Q1 0x5211401105111401102 [_,_] m3 rfl))];exact h
 have g5:s5[c3]?=some (.list (cs.map .int)):=cc _ _ (cc _ _ g3);have g6:s6[c3]?=some (.list (cs.map .int)):=cc _ _ g5;have NG:(cs.map AV.int).length<=200:=by rw[length_map];exact q3
 have tup5:gy s5 .tuple [.obj c3]=some (.tup (cs.map .int),s5):=jV (mC g5) (if_pos (le_trans NG (by decide)))
 have body:cw X Eb K4 s0=some (.next,Mo,s7):=by
  rw[BN];refine(ae (mw rfl rfl (eJ 3 i0 d0 (by simp)))).trans ?_;refine(ae (Ke:=s1) (vZ rfl rfl)).trans ?_;refine(ae (Ke:=s2) (aE (v:=.obj (m+2)) (by rw[← l1];exact eH (cK dk)) rfl)).trans ?_;refine(ae (Ki:=Ls (m+1) s (m+2) 0 0 0 []) (Ke:=s2) rfl).trans ?_;refine(ae lp).trans ?_;refine(ae (Ke:=s4) (mw rfl rfl (eJ 0 i3 d3 (by simp)))).trans ?_;refine(ae (Ke:=s5) (mw rfl rfl (eJ 1 i4 d4 (by simp)))).trans ?_;refine(ae (Ke:=s6) (mw (kU (e2 (dn (P.e1 rfl) tup5) rfl)) rfl (eJ 2 i5 d5 (by simp)))).trans ?_;refine(ae (Ke:=s7) (mw (yN (dn (P.e1 rfl) (iG g6 (by exact bN))) rfl rfl) rfl (eJ 4 i6 d6 (by simp)))).trans bB
 refine⟨s7,?_,⟨?_,λj hj _=>?_⟩,⟨m,s,decide (((cs.map AV.int).length:Int)<=1),i7,?_⟩⟩
 ·exact sv body
 ·have:s7.length=s3.length:=by simp[s7,s6,s5,s4]
  have this2:=k3.1;exact le_trans (le_trans (le_add_right _ 3) (le_of_eq l2.symm)) (le_trans this2 (le_of_eq this.symm))
 ·have MO:m≠j:=by simp only[m];exact qe
  show((((s3.set m _).set m _).set m _).set m _)[j]?=_;rw[getElem?_set_ne MO,getElem?_set_ne MO,getElem?_set_ne MO,getElem?_set_ne MO,k3.2 _ (by simp only[m]at *;exact IS)];show((s0.set m _)++_)[j]?=_;rw[getElem?_append_left (by simp[s0];exact IS),getElem?_set_ne MO];show((st++_)++_)[j]?=_;rw[getElem?_append_left (by simp;exact GZ),getElem?_append_left hj]
 ·rw[d7];simp only[nn,kk,bb,cs,zero_add]
theorem jv:∀ (a b:List Int),PyData.eqvAll (a.map .int) (b.map .int)=decide (a=b)
 |[],[]=>by simp[PyData.eqvAll]
 |[],_::_=>by simp[PyData.eqvAll]
 |_::_,[]=>by simp[PyData.eqvAll]
 |x::a,y::b=>by
  rw[map_cons,map_cons,PyData.eqvAll,jv a b,PyData.eqv];by_cases h:x=y<;>simp[h]
theorem lf (st:St)(cs:List Int)(b:Nat):ba 6 st (.tup [.tup (cs.map .int),.int b])=some (.tuple [.tuple (cs.map .int),.int b]):=by
 exact congrArg (Option.map PyData.tuple) (vY (ue 4 st cs) (vY (mr 5 st b) rfl))
theorem pH (cs:List Int)(b:Nat):(PyData.tuple [.tuple (cs.map .int),.int b]).canLay0=true:=by
 exact(and_eq_true ..).mpr ⟨canLayAll_ints cs,rfl⟩
theorem wD (st:St)(cs MF:List Int)(b b':Nat):rO st (.tup [.tup (cs.map .int),.int b]) (.tup [.tup (MF.map .int),.int b'])=some (decide (cs=MF/\b=b')):=by
 unfold rO;rw[lf,lf];refine(if_pos ((and_eq_true ..).mpr ⟨pH cs b,pH MF b'⟩)).trans (congrArg some ?_);show(PyData.eqvAll (cs.map .int) (MF.map .int)&&(decide ((b:Int)=b')&&true))=_;rw[jv];by_cases h:cs=MF<;>by_cases q:b=b'<;>simp[h,q]
 exact Dk
theorem BR (n:Nat)(a:List AV)(st:St):run (n+1) 36 a st=bE (run n) [129,158] I3 a st:=rfl
theorem sN (n:Nat){st:St}{i j n1 t1 c1 n2 t2 c2:Nat}{cs MF:List Int}(h:Ws st i n1 t1 c1 cs)(h':Ws st j n2 t2 c2 MF):run (n+1) 36 [.obj i,.obj j] st=some (.bool (decide (cs=MF/\c1=c2)),st):=by
 rw[BR];exact bT rfl (cy (sR (yN (ft rfl h.norm) (ft rfl h'.norm) (wD st cs MF c1 c2))))
noncomputable def mx (L:List Nat):Nat:=L.foldr max 0
theorem BS (L:List Nat)(z:Nat):mx (L++[z])=max (mx L) z:=by
 induction L with
 |nil=>simp[mx]
 |cons a L ih=>simp only[mx,cons_append,foldr_cons]at ih ⊢;rw[ih];exact(Nat.max_assoc ..).symm
theorem Ap {L:List Nat}{z:Nat}(h:z∈L):z<=mx L:=by
 induction L with
 |nil=>simp at h
 |cons a L ih=>
  simp only[mx,foldr_cons]at ih ⊢;simp only[mem_cons]at h;rcases h with rfl |h
  ·exact JS
  ·exact le_trans (ih h) (Nat.le_max_right ..)
noncomputable def aI (L:List Nat):List Int:=(List.range (mx L+1)).map λk=>(L.count k:Int)
theorem cE (L:List Nat):(aI L).length=mx L+1:=by simp[aI]
theorem cZ (L:List Nat)(k:Nat):(aI L)[k]?=if k<=mx L then some (L.count k:Int) else none:=by
 rw[aI,getElem?_map];split
 ·rw[getElem?_range (by exact Gd)];rfl
 ·rw[List.getElem?_eq_none (by simp;exact Gb)];rfl
theorem eK {L:List Nat}{k:Nat}(h:¬ k<=mx L):L.count k=0:=count_eq_zero.mpr λhm=>h (Ap hm)
theorem uq (L:List Nat)(z:Nat):bump (aI L) z=aI (L++[z]):=by
 apply ext_getElem?;intro k
 have hz:((eQ (aI L) z).getD z 0)=(L.count z:Int):=by
  unfold eQ;rw[cE];split
  ·rw[getD_eq_getElem?_getD,cZ,if_pos (by exact Do)];rfl
  ·rw[getD_eq_getElem?_getD,getElem?_append_right (by rw[cE];exact zN),getElem?_replicate,eK (by lia)];split<;>rfl
 have hk:(eQ (aI L) z)[k]?=if k<=max (mx L) z then some (L.count k:Int) else none:=by
  unfold eQ;rw[cE];split
  ·rw[cZ];congr 1;simp;exact Gr (by assumption)
  ·by_cases q:k<=mx L
   ·rw[getElem?_append_left (by rw[cE];exact Gd),cZ,if_pos q,if_pos (Gv q)]
   ·rw[getElem?_append_right (by rw[cE];exact Gb),getElem?_replicate,cE,eK q];by_cases q2:k<=max (mx L) z
    ·rw[if_pos (Gs (by assumption) q2),if_pos q2];rfl
    ·rw[if_neg (Gu (by assumption) q2),if_neg q2]
 unfold bump;rw[hz,cZ,BS,count_append];by_cases q:z=k
 ·subst q;rw[getElem?_set_self (pF _ _),if_pos (by exact JT)];simp
 ·rw[getElem?_set_ne q,hk];have:List.count k [z]=0:=count_eq_zero.mpr (by simp;lia);rw[this];rfl
theorem mD:∀ (M L:List Nat),M.foldl bump (aI L)=aI (L++M):=by
 intro M
 induction M with
 |nil=>
  intro L;simp
 |cons z M ih=>
  intro L;rw[foldl_cons,uq,ih (L++[z])];simp
theorem rp (M:List Nat):(0::M).foldl bump []=aI (0::M):=by
 have:bump [] 0=aI [0]:=by decide
 rw[foldl_cons,this,mD];rfl
theorem pJ {L M:List Nat}(h:∀ k,L.count k=M.count k):aI L=aI M:=by
 have hm:∀ {A B:List Nat},(∀ k,A.count k=B.count k)->mx A<=mx B:=by
  intro A B h
  have:∀ C:List Nat,(∀ z∈C,z∈B)->mx C<=mx B:=by
   intro C
   induction C with
   |nil=>intro _;simp[mx]
   |cons a C ih=>
    intro hC;have:=ih λz hz=>hC z (by simp[hz]);have:=Ap (hC a (by simp));simp only[mx,foldr_cons]at *;exact G5
  exact this A λz hz=>by
   have:=List.count_pos_iff.mpr hz;rw[h]at this;exact List.count_pos_iff.mp this
 have e:mx L=mx M:=le_antisymm (hm h) (hm λk=>(h k).symm);unfold aI;rw[e];congr 1;funext k;rw[h]
theorem ur {L M:List Nat}(h:aI L=aI M)(k:Nat):L.count k=M.count k:=by
 have e:(aI L)[k]?=(aI M)[k]?:=by rw[h]
 rw[cZ,cZ]at e;split at e<;>split at e
 ·simp at e;lia
 ·simp at e
 ·simp at e
 ·rw[eK ‹_›,eK ‹_›]
theorem gL:∀ (l:List (List Nat)),eU [] l=l.flatten
 |[]=>rfl
 |[x]=>(append_nil x).symm
 |x::y::r=>(congrArg (x++[]++·) (gL (y::r))).trans (by rw[append_nil];rfl)
abbrev dJ:=List (Bool×Nat)
noncomputable def fz (p:Bool×Nat):List Nat:=[if p.1 then 64+p.2 else 96+p.2]
noncomputable def bX (B:dJ):List Pr:=B.map λp=>(fz p,bH p.2)
noncomputable def ci (B:dJ):List Nat:=B.map (·.2)
noncomputable def lD (B:dJ):Prop:=B.length<=1000/\∀ p∈B,1<=p.2/\p.2<=6
theorem gM (b:Bool)(z:Nat)(h:1<=z/\z<=6):pC (fz (b,z))/\aG (fz (b,z))=[96+z]:=by
 have:z=1\/z=2\/z=3\/z=4\/z=5\/z=6:=by exact uK
 rcases this with rfl |rfl |rfl |rfl |rfl |rfl<;>cases b<;>exact⟨⟨by decide,by decide,by decide,by decide⟩,by decide⟩
theorem nE {B:dJ}(h:lD B):BF (bX B):=by
 refine⟨by rw[bX,length_map];exact le_trans h.1 (by decide),λp hp=>?_⟩;simp only[bX,mem_map]at hp;refine ak hp ?_;clear hp;rintro x hx rfl;exact(gM x.1 x.2 (h.2 x hx)).1
theorem chunk_len (z:Nat):(bH z).length=z+1:=by simp[bH]
theorem iH:∀ (L:List Nat),(cH L).length=L.sum+L.length:=by
 intro L
 induction L with
 |nil=>
  exact rfl
 |cons z L ih=>
  rw[jb];simp[ih];exact le_antisymm (Q0 0x1116054001116500401101 [_,_,_] rfl) (Q0 0x1116500401116054001101 [_,_,_] rfl)
theorem rq {L:List Nat}{m:Nat}(h:∀ z∈L,z<=m):L.sum<=m*L.length:=by
 induction L with
 |nil=>simp
 |cons a L ih=>
  have h1:=h a (by simp);have:=ih λz hz=>h z (by simp[hz]);simp only[sum_cons,length_cons,mul_add];exact Q2 0x65110741107113605401103 [_,_,_,_] h1 this rfl
theorem pK (B:dJ):((bX B).map (·.2)).flatten=cH (ci B):=by
 simp[bX,cH,ci,Function.comp_def]
theorem EC (n:Nat)(a:List AV)(st:St):run (n+1) 9 a st=bE (run n) [101] b9 a st:=rfl
theorem ut (M:List Nat):[9]++cH M++[32,32,120,32,9]=cH (0::M)++(replicate 2 32++[120,32,9]):=by
 rw[jb];simp[replicate]
theorem y8 (n:Nat){i d l:Nat}{B:dJ}{st:St}(h:Hd st i d l (bX B))(hB:lD B) :
  ∃ Kd,run (n+2) 9 [.obj i] st=some (.obj (st.length+1),Kd)/\Kp [] st Kd/\Ws Kd (st.length+1) ((ci B).sum+(ci B).length+3) ((ci B).length+1) 2 (aI (0::ci B)):=by
 have hz:∀ z∈ci B,z<=6:=λz hz=>by
  simp only[ci,mem_map]at hz;refine ak hz ?_;clear hz;rintro p hp rfl;exact(hB.2 p hp).2
 have Ko:(ci B).length<=1000:=by rw[ci,length_map];exact hB.1
 have MP:=rq hz
 refine cU (wC n st (0::ci B) 2 [120,32,9] (λz Nf=>by
  simp only[mem_cons]at Nf;rcases Nf with rfl |h
  ·exact CW
  ·have:=hz z h;exact bN) (.inr ⟨120,[32,9],rfl,by decide,by decide,by decide⟩)) λKd e k w=>?_
 rw[rp]at w
 refine⟨Kd,?_,k,by
  have e1:(0::ci B).sum+(0::ci B).length+2=(ci B).sum+(ci B).length+3:=by simp;exact G2
  rw[e1]at w
  exact w⟩
 rw[EC];have hv:=wv (n:=n) h (nE hB)
 have hj:jC st .join (.str []) [.lst ((bX B).map λp=>.str p.2)]=some (.str (cH (ci B)),st):=by
  have:(((bX B).map λp=>p.2).map List.length).sum+((bX B).map λp=>p.2).length*0<=1000000:=by
   rw[← List.length_flatten,pK,iH];exact Q2 0x561241103e8315710f42405160354001103 [_,_,_] Ko MP rfl
  refine(jW (d9 (λp:Pr=>p.2) (bX B)) (if_pos this)).trans ?_;rw[gL,pK]
 have a1:aK .Add (.str [9]) (.str (cH (ci B)))=some (.str ([9]++cH (ci B))):=by
  have:[9].length+(cH (ci B)).length<=1000000:=by rw[iH];simp;exact Q2 0x561241103e8315710f42405154011101103 [_,_] Ko MP rfl
  exact if_pos this
 have a2:aK .Add (.str ([9]++cH (ci B))) (.str [32,32,120,32,9])=some (.str (cH (0::ci B)++(replicate 2 32++[120,32,9]))):=by
  have:([9]++cH (ci B)).length+[32,32,120,32,9].length<=1000000:=by rw[length_append,iH];simp;exact Q2 0x561241103e8315710f423b5154011101103 [_,_] Ko MP rfl
  exact(if_pos this).trans (by rw[ut])
 exact bT rfl (cy (sR (be (P.e1 (aj (aj rfl (gV rfl rfl (P.e1 (eY rfl (h.recv 33 rfl rfl) dk hv)) hj) a1) rfl a2)) e)))
theorem gm {a b:Int}(h:a.natAbs<2^60):eB a b=true:=by
 have:=intBits_le h;have h2:shortFactorBits=64:=rfl;have h3:¬ (intBits a>shortFactorBits):=by rw[h2];exact JK
 simp only[eB,decide_eq_false h3,Bool.false_and,Bool.not_false]
theorem mul_int {a b:Int}(h:a.natAbs<2^60):aK .Mult (.int a) (.int b)=some (.int (a*b)):=sf (gm h)
theorem fO {ok:St->Bool}{f:AV->St->Option (List AV×St)}{v:AV}{r ys zs:List AV}{st Ke Kf:St}(h:ok st=true)(h1:f v st=some (ys,Ke))(h2:aU ok f r Ke=some (zs,Kf)):aU ok f (v::r) st=some (ys++zs,Kf):=(if_pos h).trans (jL h1 (jL h2 rfl))
theorem wE {ok:St->Bool}{f:AV->St->Option (List AV×St)}{st:St}(h:ok st=true):aU ok f [] st=some ([],st):=if_pos h
theorem ED {X:Cx}{σ:Loc}{st Ke Kf:St}{a i:E}{x:AV}{k:Nat}{xs:List AV}(h1:aa X a σ st=some (x,Ke))(h2:aa X i σ Ke=some (.int k,Kf))(h3:cN Kf x=some xs)(h4:k<1000000)(h5:xs.length<=1000000):dt X (.drop a i) σ st=some (xs.drop k,Kf):=by
 have:(mQ (k:Int)&&decide (xs.length<=1000000))=true:=by
  simp only[mQ,and_eq_true,decide_eq_true_eq];exact⟨⟨by exact jP,by exact yl⟩,h5⟩
 exact jE h1 (jE h2 (jV h3 (if_pos this)))
theorem aZ {st:St}(n:Nat)(h:n<1000000):gy st .range1 [.int n]=some (.rng 0 n,st):=by
 have:(n:Int).natAbs<2^62:=by rw[natAbs_natCast];exact bN
 exact if_pos this
theorem aL {st:St}(n:Nat)(h:n<1000000):aF st (.rng 0 n)=some ((List.range n).map λk:Nat=>AV.int k):=by
 have:(0:Int).natAbs<2^61/\(n:Int).natAbs<2^61:=⟨by decide,by rw[natAbs_natCast];exact bN⟩;exact(if_pos this).trans (by rw[kR];simp)
theorem wF (st:St)(z:Nat)(h:1<=z/\z<=6){X:Cx}{σ:Loc}{x:Nat}(hx:af σ x=some (.int z)):aa X (.sub (.str [65,66,67,68,69,70]) (.b .Sub (.l x) (.int 1))) σ st=some (.str (fz (true,z)),st):=by
 refine bW rfl (aj (v:=.int ((z:Int)-1)) (Eo hx) rfl rfl) ?_;have:z=1\/z=2\/z=3\/z=4\/z=5\/z=6:=by exact uK
 rcases this with rfl |rfl |rfl |rfl |rfl |rfl<;>rfl
theorem wG (st:St)(z:Nat)(h:1<=z/\z<=6){X:Cx}{σ:Loc}{x:Nat}(hx:af σ x=some (.int z)):aa X (.sub (.str [97,98,99,100,101,102]) (.b .Sub (.l x) (.int 1))) σ st=some (.str (fz (false,z)),st):=by
 refine bW rfl (aj (v:=.int ((z:Int)-1)) (Eo hx) rfl rfl) ?_;have:z=1\/z=2\/z=3\/z=4\/z=5\/z=6:=by exact uK
 rcases this with rfl |rfl |rfl |rfl |rfl |rfl<;>rfl
theorem wJ (z:Nat):dY false (bH z)=true:=by
 simp only[dY,bH,List.all_append,and_eq_true];refine⟨?_,by decide⟩;rw[all_eq_true];intro c hc;rw[eq_of_mem_replicate hc];decide
theorem BU (n:Nat){i d l:Nat}{B:dJ}{st:St}(h:Hd st i d l (bX B))(hl:B.length<=1000)(b:Bool)(z:Nat)(hz:1<=z/\z<=6) :
  ∃ Kd,run (n+2) 34 [.obj i,.str (fz (b,z)),.str (bH z)] st=some (.none,Kd)/\Kp [l] st Kd/\Hd Kd i d l (bX (B++[(b,z)])):=by
 refine cU (sy n h (by rw[bX,length_map];exact bN) (gM b z hz).1 (wJ z) (by rw[chunk_len];exact mO)) λKd e k h'=>?_;exact⟨Kd,e,k,by simpa [bX] using h'⟩
noncomputable def My (i l:Nat)(T:List Nat)(sh p q r s it:Nat)(stay:List AV)(τ:Loc):Loc:=(101,.obj i)::(102,.str T)::(103,.int sh)::(104,.obj it)::(91,.int p)::(80,.int q)::(75,.int r)::(163,.int s)::(105,.lst stay)::τ
noncomputable def I7:List S:=[.expr (.meth 34 (.l 101) [.sub (.str [97,98,99,100,101,102]) (.b .Sub (.l 91) (.int 1)),.l 106])]
noncomputable def I8:List S:=[.expr (.meth 34 (.l 101) [.sub (.str [65,66,67,68,69,70]) (.b .Sub (.l 75) (.int 1)),.b .Add (.b .Mult (.str [32]) (.l 75)) (.str [9])])]
theorem EE:b8=[.asg (.nm 104) (.bi .iter [.new false (.comp (.bi .ord [.l 189]) (.nm 189) (.l 102) [] [])]),.asg (.tup [91,80,75,163]) (.new false (.comp (.b .Sub (.call 19 [.l 104]) (.b .Mult (.int 8) (.l 103))) (.nm 61) (.bi .range1 [.int 4]) [] [104,103])),.asg (.nm 105) (.new false (.drop (.meth 30 (.l 101) [.sub (.str [65,66,67,68,69,70]) (.b .Sub (.l 91) (.int 1))]) (.l 80))),.del (.l 101) (.sub (.str [97,98,99,100,101,102]) (.b .Sub (.l 91) (.int 1))),.for (.nm 106) (.l 105) I7 [],.for (.nm 61) (.bi .range1 [.l 163]) I8 []]:=rfl
section
variable {i d l:Nat}{T:List Nat}{sh p q r s it:Nat}{stay:List AV}
theorem J2 (n:Nat)(hp:1<=p/\p<=6){ok:St->Bool}(hk:∀ st,ok st=true):∀ (k:Nat) (B:dJ) (τ:Loc) (st:St),Hd st i d l (bX B)->B.length+k<=1000->(τ=[]\/∃ v,τ=[(106,v)]) ->
  ∃ Kw Kd,bc ok (bV ⟨run (n+2)⟩ (.nm 106) I7) (replicate k (.str (bH p))) (My i l T sh p q r s it stay τ) st=some (.next,My i l T sh p q r s it stay Kw,Kd)/\Kp [l] st Kd/\Hd Kd i d l (bX (B++replicate k (false,p)))/\(Kw=[]\/∃ v,Kw=[(106,v)]):=by
 intro k
 induction k with
 |zero=>
  intro B τ st h _ Mj;exact⟨τ,st,hZ (hk _),Kp.refl _ _,by simpa using h,Mj⟩
 |succ k ih=>
  intro B τ st h hl Mj;refine cU (BU n h (by exact uI) false p hp) λKe e1 k1 h1=>?_;refine yj (ih (B++[(false,p)]) [(106,.str (bH p))] Ke h1 (by simp;exact Q1 0x3e83111150401103e83151114001102 [_,_] hl rfl) (.inr ⟨_,rfl⟩)) λKw Kd e k' h' t'=>?_;refine⟨Kw,Kd,?_,k1.trans k',by simpa [replicate_succ] using h',t'⟩
  have hb:aQ (My i l T sh p q r s it stay τ) (.nm 106) (.str (bH p))=some (My i l T sh p q r s it stay [(106,.str (bH p))]):=by
   rcases Mj with rfl |⟨v,rfl⟩<;>rfl
  rw[replicate_succ];exact(bR (hk _) ((aR hb).trans ((ae (eG (eY rfl (h.recv 34 rfl rfl) (e2 (wG st p hp rfl) rfl) e1) rfl)).trans bB))).trans e
theorem J3 (n:Nat)(hr:1<=r/\r<=6){ok:St->Bool}(hk:∀ st,ok st=true):∀ (xs:List AV) (B:dJ) (τ Nw:Loc) (st:St),Hd st i d l (bX B)->B.length+xs.length<=1000->(Nw=[]\/∃ v,Nw=[(106,v)])->(τ=Nw\/∃ v,τ=Nw++[(61,v)]) ->
  ∃ Kw Kd,bc ok (bV ⟨run (n+2)⟩ (.nm 61) I8) xs (My i l T sh p q r s it stay τ) st=some (.next,My i l T sh p q r s it stay Kw,Kd)/\Kp [l] st Kd/\Hd Kd i d l (bX (B++replicate xs.length (true,r))):=by
 intro xs
 induction xs with
 |nil=>
  intro B τ Nw st h _ _ Mj;exact⟨τ,st,hZ (hk _),Kp.refl _ _,by simpa using h⟩
 |cons x xs ih=>
  intro B τ Nw st h hl h0 Mj;simp only[length_cons]at hl;refine cU (BU n h (by exact uI) true r hr) λKe e1 k1 h1=>?_;refine cP (ih (B++[(true,r)]) (Nw++[(61,x)]) Nw Ke h1 (by simp;exact Q1 0x3e83111150401103e83151114001102 [_,_] hl rfl) h0 (.inr ⟨_,rfl⟩)) λKw Kd e k' h'=>?_;refine⟨Kw,Kd,?_,k1.trans k',by simpa [replicate_succ] using h'⟩
  have hb:aQ (My i l T sh p q r s it stay τ) (.nm 61) x=some (My i l T sh p q r s it stay (Nw++[(61,x)])):=by
   rcases h0 with rfl |⟨v,rfl⟩<;>rcases Mj with rfl |⟨v,rfl⟩<;>rfl
  have m1:aK .Mult (.str [32]) (.int r)=some (.str (replicate r 32)):=by
   have:-1000<=(r:Int)/\(r:Int)<=1000:=Jy (by first |exact hr.2 |exact And.right (by assumption));exact if_pos this
  have m2:aK .Add (.str (replicate r 32)) (.str [9])=some (.str (bH r)):=by
   have:(replicate r 32).length+[9].length<=1000000:=by simp;exact uP
   exact if_pos this
  exact(bR (hk _) ((aR hb).trans ((ae (eG (eY rfl (h.recv 34 rfl rfl) (e2 (wF st r hr rfl) (aj (aj rfl rfl m1) rfl m2)) e1) rfl)).trans bB))).trans e
end
noncomputable def cnt (B:dJ)(z:Nat):Nat:=(ci B).count z
noncomputable def gX (B:dJ)(p q r s:Nat):dJ:=(B.filter λx=>!decide (x.2=p))++replicate (cnt B p-q) (false,p)++replicate s (true,r)
theorem wK (B:dJ)(p:Nat):(B.filter λx=>decide (x.2=p)).map (λx=>AV.str (bH x.2))=replicate (cnt B p) (.str (bH p)):=by
 induction B with
 |nil=>rfl
 |cons x B ih=>
  by_cases h:x.2=p
  ·rw[filter_cons_of_pos (by simpa using h),map_cons,ih,h];simp[cnt,ci,h,replicate_succ]
  ·rw[filter_cons_of_neg (by simpa using h),ih];simp[cnt,ci,h]
theorem pL {B:dJ}(hB:lD B)(p:Nat)(hp:1<=p/\p<=6)(b:Bool)(c:Bool):((bX B).filter λx=>(c ^^ decide (aG x.1=aG (fz (b,p)))))=bX (B.filter λx=>(c ^^ decide (x.2=p))):=by
 rw[bX,List.filter_map,bX];congr 1;apply filter_congr;intro x hx;simp only[Function.comp];rw[(gM x.1 x.2 (hB.2 x hx)).2,(gM b p hp).2];congr 2;simp
theorem BV (B:dJ)(p:Nat):cnt B p<=B.length:=by
 have:=List.count_le_length (a:=p) (l:=ci B);simpa [cnt,ci] using this
theorem ii (B:dJ)(p:Nat):(B.filter λx=>!decide (x.2=p)).length+cnt B p=B.length:=by
 induction B with
 |nil=>rfl
 |cons x B ih=>
  by_cases h:x.2=p
  ·rw[filter_cons_of_neg (by simpa using h)];simp only[cnt,ci,map_cons,length_cons,h,count_cons_self]at ih ⊢;exact le_antisymm (Q1 0x65401111116011150401102 [_,_,_] ih rfl) (Q1 0x46501121116050111401102 [_,_,_] ih rfl)
  ·rw[filter_cons_of_pos (by simpa using h)];have:List.count p (x.2::ci B)=List.count p (ci B):=count_cons_of_ne h;simp only[cnt,ci,map_cons,length_cons]at ih this ⊢;exact le_antisymm (Q2 0x7511167401111116051114001103 [_,_,_,_] ih this rfl) (Q2 0x7611247501126111500111401103 [_,_,_,_] ih this rfl)
theorem uv {B:dJ}(hB:lD B){p q r s:Nat}(hp:1<=p/\p<=6)(hr:1<=r/\r<=6)(h:B.length+s<=1000):lD (gX B p q r s):=by
 have hf:=ii B p;refine⟨by simp only[gX,length_append,length_replicate];exact Q3 0x8511078401113e8316701103e831654001104 [_,_,_,_,_] h hf (sub_le _ _) rfl,λx hx=>?_⟩;simp only[gX,mem_append,mem_filter]at hx;rcases hx with (hx |hx) |hx
 ·exact hB.2 x hx.1
 ·rw[eq_of_mem_replicate hx];exact hp
 ·rw[eq_of_mem_replicate hx];exact hr
theorem uw (B:dJ)(p q r s:Nat)(hq:q<=cnt B p):(gX B p q r s).length+q=B.length+s:=by
 have hf:=ii B p;simp only[gX,length_append,length_replicate];exact le_antisymm (Q2 0x9750111894011168076540001103 [_,_,_,_,_,_] hf (sub_add_cancel (Q1 0x54110541102 [_,_] hq rfl)) rfl) (Q2 0x9870112496011285760005401103 [_,_,_,_,_,_] hf (sub_add_cancel (Q1 0x54110541102 [_,_] hq rfl)) rfl)
theorem ux (B:dJ)(p q r s:Nat)(k:Nat):cnt (gX B p q r s) k=(if k=p then cnt B p-q else cnt B k)+(if k=r then s else 0):=by
 have h1:cnt (B.filter λx=>!decide (x.2=p)) k=if k=p then 0 else cnt B k:=by
  induction B with
  |nil=>simp[cnt,ci]
  |cons x B ih=>
   by_cases h:x.2=p
   ·rw[filter_cons_of_neg (by simpa using h),ih];split
    ·rfl
    ·rename_i q;simp only[cnt,ci,map_cons];rw[count_cons_of_ne (by lia)]
   ·rw[filter_cons_of_pos (by simpa using h)];simp only[cnt,ci,map_cons,count_cons]at ih ⊢;rw[ih];by_cases hk:k=p
    ·subst hk;simp[h]
    ·simp[hk]
 have h2:∀ (n z:Nat) (b:Bool),(ci (replicate n (b,z))).count k=if k=z then n else 0:=by
  intro n z b;simp only[ci,List.map_replicate,List.count_replicate];by_cases h:k=z
  ·subst h;simp
  ·have:¬ z=k:=λe=>h e.symm;simp[h,this]
 simp only[cnt,gX,ci,map_append,count_append]at h1 h2 ⊢;rw[h1,h2,h2];by_cases h:k=p
 ·subst h;simp
 ·simp[h]
theorem EF (n:Nat)(a:List AV)(st:St):run (n+1) 8 a st=bE (run n) [101,102,103] b8 a st:=rfl
noncomputable def ij (p q r s sh:Nat):List Nat:=bM (p+8*sh)++(bM (q+8*sh)++(bM (r+8*sh)++bM (s+8*sh)))
theorem wL (m:Nat):∃ x∈bM m,x<64:=⟨m%64,by simp[bM],by exact G0⟩
theorem wM:∀ (d m:Nat),m<64^(d+1)->(pz m).length<=d:=by
 intro d
 induction d with
 |zero=>
  intro m h;exact le_of_eq (congrArg List.length (gK h))
 |succ d ih=>
  intro m h;by_cases q:m<64
  ·rw[gK q];exact zero_le _
  ·rw[jZ q,length_append];exact succ_le_succ (ih (m/64) (by rw[pow_succ]at h;exact Q2 0x67440220111540231116011051114040203 [_,_,_,_] h (div_add_mod _ _) rfl))
theorem eL {m:Nat}(h:m<262144):(bM m).length<=3:=by
 have:=wM 2 m (by exact bz);simp[bM];exact bz
theorem HP (n it m:Nat)(rest:List Nat){st:St}(hi:st[it]?=some (.iter (bZ (bM m++rest))))(hm:m<262144)(hr:rest.length<900)(MT:∀ x∈rest,x<128):run (n+1) 19 [.obj it] st=some (.int m,st.set it (.iter (bZ rest))):=by
 have:=eL hm;refine Ew n it (bM m++rest) m rest st ?_ ?_ (yY m rest) (by exact bN) (by simp;exact JM) hi
 ·intro x hx;simp only[mem_append]at hx;rcases hx with h |h
  ·exact nA m x h
  ·exact MT x h
 ·refine ak (wL m) λx h1 h2=>?_;exact⟨x,by simp[h1],h2⟩
theorem HQ {C:jD}{σ:Loc}{st Ke Kf KJ:St}{o i:E}{ov iv v:AV}(h1:aa ⟨C⟩ o σ st=some (ov,Ke))(h2:aa ⟨C⟩ i σ Ke=some (iv,Kf))(h3:dr Kf 31 ov=true)(h4:C 31 [ov,iv] Kf=some (v,KJ)):xS ⟨C⟩ (.del o i) σ st=some (.next,σ,KJ):=jE h1 (jE h2 ((if_pos h3).trans (jE h4 rfl)))
theorem nG (p q r s sh:Nat):∀ x∈ij p q r s sh,x<128:=by
 intro x hx;simp only[ij,mem_append]at hx;rcases hx with h |h |h |h<;>exact nA _ x h
theorem EG {B:dJ}(hB:lD B)(p:Nat)(hp:1<=p/\p<=6)(b:Bool):((bX B).filter λx=>decide (aG x.1=aG (fz (b,p))))=bX (B.filter λx=>decide (x.2=p)):=by
 have:=pL hB p hp b false;simpa using this
theorem EH {B:dJ}(hB:lD B)(p:Nat)(hp:1<=p/\p<=6)(b:Bool):((bX B).filter λx=>!decide (aG x.1=aG (fz (b,p))))=bX (B.filter λx=>!decide (x.2=p)):=by
 have:=pL hB p hp b true;simpa using this
theorem sO (n it sh:Nat){X:Cx}(hX:X=⟨run (n+1)⟩)(KP:sh<5000)(p:Nat)(hp:p<=100)(rest:List Nat){st:St}(k:AV)(hi:st[it]?=some (.iter (bZ (bM (p+8*sh)++rest))))(hr:rest.length<900)(MT:∀ x∈rest,x<128){σ:Loc}(hσ:aX σ [104,103]=[(103,.int sh),(104,.obj it)]) :
  jt X (.b .Sub (.call 19 [.l 104]) (.b .Mult (.int 8) (.l 103))) (.nm 61) [] (aX σ [104,103]) k st=some ([.int p],st.set it (.iter (bZ rest))):=by
 subst hX;rw[hσ];have e:=HP n it (p+8*sh) rest hi (by exact Dp) hr MT;have m:aK .Mult (.int 8) (.int sh)=some (.int (8*sh)):=mul_int (by decide)
 have s:aK .Sub (.int ((p+8*sh:Nat):Int)) (.int (8*sh))=some (.int p):=by
  refine congrArg (λx=>some (AV.int x)) ?_;lia
 exact lC rfl (aj (be (P.e1 rfl) e) (aj rfl rfl m) s)
theorem HR (n:Nat){i d l:Nat}{B:dJ}{st:St}(h:Hd st i d l (bX B))(hB:lD B)(hl:B.length<=300){p q r s sh:Nat}(hp:1<=p/\p<=6)(hr:1<=r/\r<=6)(hq:q<=100)(hs:s<=100)(KP:sh<5000)(hc:q<=cnt B p) :
  ∃ Kd,run (n+3) 8 [.obj i,.str ((ij p q r s sh).map iM),.int sh] st=some (.none,Kd)/\Kp [l] st Kd/\Hd Kd i d l (bX (gX B p q r s)):=by
 let X:Cx:=⟨run (n+2)⟩;let T:=(ij p q r s sh).map iM;let it:=st.length;have lw:(bM (p+8*sh)).length<=3:=eL (by exact Q2 0x138841111508106114110400005111158124001103 [_,_] hp.2 KP rfl);have lq:(bM (q+8*sh)).length<=3:=eL (by exact Q2 0x1388411115081064214110400005111158124001103 [_,_] hq KP rfl);have lr:(bM (r+8*sh)).length<=3:=eL (by exact Q2 0x138841111508106114110400005111158124001103 [_,_] hr.2 KP rfl);have ls:(bM (s+8*sh)).length<=3:=eL (by exact Dp);have lT:T.length<=12:=by simp only[T,ij,length_map,length_append];exact Q4 0x3117110311611031151103114110c1176050401105 [_,_,_,_] lw lq lr ls rfl
 let Ki:Loc:=[(101,.obj i),(102,.str T),(103,.int sh),(104,.obj it)];let s1:St:=st++[.iter (bZ (ij p q r s sh))]
 have x1:aa X (.bi .iter [.new false (.comp (.bi .ord [.l 189]) (.nm 189) (.l 102) [] [])]) [(101,.obj i),(102,.str T),(103,.int sh)] st=some (.obj it,s1):=by
  refine dn (vs:=[.lst (bZ (ij p q r s sh))]) (Ke:=st) (P.e1 (aH (bS (v:=.str T) (xs:=jM T) rfl rfl (by simp only[jM,length_map];exact bN) ?_))) rfl;rw[show bZ (ij p q r s sh)=T.map λc:Nat=>AV.int c by simp[bZ,T,Function.comp_def]];exact aD (λc=>.str [c]) (λc:Nat=>.int c) rfl T λc _=>lC rfl (dn (P.e1 rfl) rfl)
 have g1:s1[it]?=some (.iter (bZ (ij p q r s sh))):=aS _ _;have k1:Kp [] st s1:=Kp.app _ _ _;let s2:St:=s1.set it (.iter (bZ (bM (q+8*sh)++(bM (r+8*sh)++bM (s+8*sh)))));let s3:St:=s2.set it (.iter (bZ (bM (r+8*sh)++bM (s+8*sh))));let s4:St:=s3.set it (.iter (bZ (bM (s+8*sh)++[])));let s5:St:=s4.set it (.iter (bZ []));have g2:s2[it]?=some (.iter (bZ (bM (q+8*sh)++(bM (r+8*sh)++bM (s+8*sh))))):=getElem?_set_self (al g1);have g3:s3[it]?=some (.iter (bZ (bM (r+8*sh)++bM (s+8*sh)))):=getElem?_set_self (al g2);have g4:s4[it]?=some (.iter (bZ (bM (s+8*sh)++[]))):=getElem?_set_self (al g3)
 have k5:Kp [] st s5:=⟨by simp[s5,s4,s3,s2,s1],λj hj _=>by
  have Lu:it≠j:=by simp only[it];exact qe
  show((((s1.set it _).set it _).set it _).set it _)[j]?=_;rw[getElem?_set_ne Lu,getElem?_set_ne Lu,getElem?_set_ne Lu,getElem?_set_ne Lu]
  exact getElem?_append_left hj⟩
 have x2:aa X (.new false (.comp (.b .Sub (.call 19 [.l 104]) (.b .Mult (.int 8) (.l 103))) (.nm 61) (.bi .range1 [.int 4]) [] [104,103])) Ki s1=some (.lst [.int p,.int q,.int r,.int s],s5):=by
  refine aH (bS (dn (P.e1 rfl) (aZ 4 (by decide))) (aL 4 (by decide)) (by decide) ?_);have ok:∀ t,an t (.rng 0 (4:Nat)) ((List.range 4).map λk:Nat=>AV.int k)=true:=λ_=>rfl;refine fO (ys:=[.int p]) (ok _) (sO (n+1) it sh rfl KP p (by exact uP) (bM (q+8*sh)++(bM (r+8*sh)++bM (s+8*sh))) _ g1 (by simp only[length_append];exact Q3 0x311611031151103114110384311116504001104 [_,_,_] lq lr ls rfl) (λx hx=>?_) rfl) ?_
  ·exact nG p q r s sh x (by rw[ij];exact mem_append_right _ hx)
  refine fO (ys:=[.int q]) (ok _) (sO (n+1) it sh rfl KP q (by exact bz) (bM (r+8*sh)++bM (s+8*sh)) _ g2 (by simp only[length_append];exact GY) (λx hx=>?_) rfl) ?_
  ·exact nG p q r s sh x (by rw[ij];exact mem_append_right _ (mem_append_right _ hx))
  refine fO (ys:=[.int r]) (ok _) (sO (n+1) it sh rfl KP r (by exact uP) (bM (s+8*sh)++[]) _ (by rw[append_nil];exact g3) (by simp only[length_append,length_nil];exact dU) (λx hx=>?_) rfl) ?_
  ·exact nA _ x (by simpa using hx)
  exact fO (ys:=[.int s]) (ok _) (sO (n+1) it sh rfl KP s (by exact bz) [] _ g4 (by decide) (by simp) rfl) (wE (ok _))
 have h5:Hd s5 i d l (bX B):=h.mono k5 (by simp) (by simp) (by simp);have oH:=nE hB;let stay:List AV:=replicate (cnt B p-q) (.str (bH p))
 have v3:run (n+2) 30 [.obj i,.str (fz (true,p))] s5=some (.lst (replicate (cnt B p) (.str (bH p))),s5):=by
  rw[An (n:=n) h5 oH (gM true p hp).1,EG hB p hp true,← wK B p];simp[bX];rfl
 have NG:=BV B p
 have v4:run (n+2) 31 [.obj i,.str (fz (false,p))] s5=some (.none,s5.set l (.list ((bX (B.filter λx=>!decide (x.2=p))).map gW))):=by
  rw[Ex (n:=n) h5 oH (gM false p hp).1,EH hB p hp false]
 let s6:St:=s5.set l (.list ((bX (B.filter λx=>!decide (x.2=p))).map gW));have h6:Hd s6 i d l (bX (B.filter λx=>!decide (x.2=p))):=h5.setL;have QM:=ii B p;refine yj (J2 (T:=T) (sh:=sh) (q:=q) (r:=r) (s:=s) (it:=it) (stay:=stay) n hp (ok:=λst=>an st (.lst stay) stay) (λ_=>rfl) (cnt B p-q) (B.filter λx=>!decide (x.2=p)) [] s6 h6 (by exact Q3 0x75110674011112c3161103e8315401104 [_,_,_,_] hl QM (sub_le _ _) rfl) (.inl rfl)) λOc s7 e7 k7 h7 t7=>?_;refine cP (J3 (T:=T) (sh:=sh) (p:=p) (q:=q) (s:=s) (it:=it) (stay:=stay) n hr (ok:=λst=>an st (.rng 0 s) ((List.range s).map λk:Nat=>AV.int k)) (λ_=>rfl) ((List.range s).map λk:Nat=>AV.int k) _ Oc Oc s7 h7 (by simp;exact Q4 0x8511078401116421611012c3171103e831654001105 [_,_,_,_,_] hl hs QM (sub_le _ _) rfl) t7 (.inl rfl)) λτ8 s8 e8 k8 h8=>?_;refine⟨s8,?_,((k5.more (by simp)).trans (Kp.set (by simp) _ _)).trans (k7.trans k8),by simpa [gX] using h8⟩;rw[EF];refine wd rfl (Ki:=My i l T sh p q r s it stay τ8) ?_;rw[EE];refine(ae (aE x1 rfl)).trans ?_;refine(ae (aE x2 rfl)).trans ?_;refine(ae (aE (v:=.lst stay) (Ke:=s5) (aH ?_) rfl)).trans ?_
 ·rw[show stay=(replicate (cnt B p) (AV.str (bH p))).drop q by simp[stay]];exact ED (eY rfl (h5.recv 30 rfl rfl) (P.e1 (wF s5 p hp rfl)) v3) rfl rfl (by exact Q1 0x64214110f424051111401102 [_] hq rfl) (by simp;exact yo)
 refine(ae (Ke:=s6) (HQ rfl (wG s5 p hp rfl) (h5.recv 31 rfl rfl) v4)).trans ?_;refine(ae (fp (v:=.lst stay) (xs:=stay) rfl rfl e7)).trans ?_;exact(ae (fp (dn (P.e1 rfl) (aZ s (by exact dU))) (aL s (by exact dU)) e8)).trans bB
noncomputable def fl (i:Nat):Int:=(1:Int)*2^i
noncomputable def bv (i:Nat):List Nat:=(n5 (fl i)).getD []
noncomputable def pM:List Nat->Int->List (List Nat)->Option (List (List Nat))
 |[],_,_=>none
 |i::is,f,ns=>if Builtin.bitAnd f (fl i)=0 then pM is f ns else if Builtin.bitXor f (fl i)=0 then some (ns++[bv i]) else pM is (Builtin.bitXor f (fl i)) (ns++[bv i])
theorem wN:∀ i:Fin 32,n5 (fl i.val)=some (bv i.val):=by decide +kernel
noncomputable def uy (low:Nat)(js:List Nat):Int:=(js.map λk=>fl (low+k)).sum
noncomputable def nH:List (List Nat):=[[0],[1],[2],[0,1],[0,2],[1,2],[0,1,2]]
theorem Aq:∀ low:Fin 30,∀ js∈nH,pM (List.range 32) (uy low.val js) []=some (js.map λk=>bv (low.val+k)):=by decide +kernel
theorem wO:∀ low:Fin 30,∀ js∈nH,(Txt.split ⟨(eU [44,32] (js.map λk=>bv (low.val+k))).toArray⟩ ⟨[44,32].toArray⟩).map (λx=>x.cps.toList)=js.map λk=>bv (low.val+k):=by decide +kernel
theorem HS:lE 0=[48,120,48]:=by decide +kernel
noncomputable def Ar:List Nat:=[79,80,84,73,77,73,90,69,68,32,78,69,87,76,79,67,65,76,83,32,86,65,82,65,82,71,83,32,86,65,82,75,69,89,87,79,82,68,83,32,78,69,83,84,69,68,32,71,69,78,69,82,65,84,79,82,32,78,79,70,82,69,69,32,67,79,82,79,85,84,73,78,69,32,73,84,69,82,65,66,76,69,95,67,79,82,79,85,84,73,78,69,32,65,83,89,78,67,95,71,69,78,69,82,65,84,79,82]
theorem BW:(Txt.split ⟨Ar.toArray⟩ ⟨[32].toArray⟩).map (λx=>x.cps.toList)=(List.range 10).map bv:=by decide +kernel
noncomputable def J4 (k:Nat):List Nat:=[48,120]++[([49,50,52,56]:List Nat).getD (k%4) 0]++replicate (k/4) 48
theorem EI:∀ k:Fin 32,10<=k.val->J4 k.val=bv k.val:=by decide +kernel
theorem fb:∀ k:Fin 32,eT (bv k.val)=true/\(bv k.val).length<=100/\dY true (bv k.val)=true/\dY true (aG (bv k.val))=true/\eT ((bv k.val).map ya)=true/\dY true ((bv k.val).map ya)=true/\aG ((bv k.val).map ya)=aG (bv k.val)/\aG (aG (bv k.val))=aG (bv k.val)/\eT (aG (bv k.val))=true:=by decide +kernel
theorem nm_inj:∀ a b:Fin 32,aG (bv a.val)=aG (bv b.val)->a.val=b.val:=by decide +kernel
theorem y9 (i:Nat)(h:i<32):aK .LShift (.int 1) (.int i)=some (.int (fl i)):=by
 have h1:intBits 1=1:=rfl;have:0<=(i:Int)/\(intBits 1:Int)+i<=134217728:=by rw[h1];lia
 have e:aK .LShift (.int 1) (.int i)=if 0<=(i:Int)/\(intBits 1:Int)+i<=2^27 then some (.int (1*2^(i:Int).toNat)) else none:=rfl
 rw[e,Ev,if_pos this];rfl
theorem EJ {X:Cx}{σ:Loc}{st:St}{x:Nat}{i:Int}{s:List Nat}(h:af σ x=some (.int i))(h2:n5 i=some s):aa X (.flag x) σ st=some (.str s,st):=jA h (congrArg (Option.map λs=>(AV.str s,st)) h2)
theorem pN {st:St}{c:Nat}{ns:List (List Nat)}{sep:List Nat}(h:st[c]?=some (.list (ns.map .str)))(h2:(ns.map List.length).sum+ns.length*sep.length<=1000000):jC st .join (.str sep) [.obj c]=some (.str (eU sep ns),st):=jV (mC h) (jW (pw _) (if_pos h2))
theorem wP (n:Nat)(a:List AV)(st:St):run (n+1) 18 a st=bE (run n) [81] Hy a st:=rfl
noncomputable def HT:List S:=[.expr (.sm .append (.l 82) [.flag 149]),.aug 81 .BitXor (.l 149),.iff (.not (.val (.l 81))) [.brk] []]
noncomputable def HU:List S:=[.asg (.nm 149) (.b .LShift (.int 1) (.l 83)),.iff (.val (.b .BitAnd (.l 81) (.l 149))) HT []]
theorem wQ:Hy=[.asg (.nm 82) (.new true (.list [])),.for (.nm 83) (.bi .range1 [.int 32]) HU [.expr (.sm .append (.l 82) [.bi .hex [.l 81]])],.ret (.sm .join (.str [44,32]) [.l 82])]:=rfl
noncomputable def Lw (f:Int)(c:Nat)(τ:Loc):Loc:=(81,.int f)::(82,.obj c)::τ
noncomputable def QN (τ:Loc):Prop:=τ=[]\/∃ u v,τ=[(83,u),(149,v)]
theorem fA (st:St)(i:Int):fF st (.int i)=some (!(i==0)):=rfl
theorem J5 (n:Nat){ok:St->Bool}(hk:∀ st,ok st=true)(c:Nat)(res:List (List Nat)):∀ (is:List Nat) (f:Int) (ns:List (List Nat)) (τ:Loc) (st:St),(∀ i∈is,i<32)->QN τ->st[c]?=some (.list (ns.map .str))->ns.length+is.length<=1000->pM is f ns=some res ->
  ∃ f' Kw,bc ok (bV ⟨run n⟩ (.nm 83) HU) (is.map λk:Nat=>AV.int k) (Lw f c τ) st=some (.brk,Lw f' c Kw,st.set c (.list (res.map .str))):=by
 intro is
 induction is with
 |nil=>
  intro f ns τ st _ _ _ _ h;exact absurd h bg
 |cons i is ih=>
  intro f ns τ st hi Mj hc hl h;have Pl:i<32:=hi i (by simp);have hb:aQ (Lw f c τ) (.nm 83) (.int i)=some (Lw f c (ai τ 83 (.int i))):=rfl
  have OL:∃ KC,aQ (Lw f c (ai τ 83 (.int i))) (.nm 149) (.int (fl i))=some (Lw f c [(83,.int i),(149,.int (fl i))])/\KC=ai τ 83 (.int i)/\af (Lw f c (ai τ 83 (.int i))) 83=some (.int i):=by
   rcases Mj with rfl |⟨u,v,rfl⟩<;>exact⟨_,rfl,rfl,rfl⟩
  refine cU OL ?_;clear OL;rintro _ M9-hg
  have a1:xS ⟨run n⟩ (.asg (.nm 149) (.b .LShift (.int 1) (.l 83))) (Lw f c (ai τ 83 (.int i))) st=some (.next,Lw f c [(83,.int i),(149,.int (fl i))],st):=
   aE (aj rfl (Eo hg) (y9 i Pl)) M9
  rw[show pM (i::is) f ns=if Builtin.bitAnd f (fl i)=0 then pM is f ns else if Builtin.bitXor f (fl i)=0 then some (ns++[bv i]) else pM is (Builtin.bitXor f (fl i)) (ns++[bv i]) from rfl]at h;have hand:aa ⟨run n⟩ (.b .BitAnd (.l 81) (.l 149)) (Lw f c [(83,.int i),(149,.int (fl i))]) st=some (.int (Builtin.bitAnd f (fl i)),st):=aj rfl rfl rfl;by_cases q:Builtin.bitAnd f (fl i)=0
  ·rw[if_pos q]at h;refine nX (ih f ns [(83,.int i),(149,.int (fl i))] st (λx hx=>hi x (by simp[hx])) (.inr ⟨_,_,rfl⟩) hc (by simp at hl;exact F9) h) λf' Kw e=>?_;refine⟨f',Kw,?_⟩;rw[map_cons];refine(bR (hk _) ((aR hb).trans ((ae a1).trans ((ae (bG (fh hand ?_))).trans bB)))).trans e;rw[fA,q];rfl
  ·rw[if_neg q]at h
   have ht:fF st (.int (Builtin.bitAnd f (fl i)))=some true:=by
    rw[fA];simp[q]
   have a2:jC st .append (.obj c) [.str (bv i)]=some (.none,st.set c (.list ((ns++[bv i]).map .str))):=by
    rw[cY hc (by rw[length_map];exact Q1 0x3e831540110f424051111401102 [_,_] hl rfl),map_append];rfl
   have Nx:(st.set c (.list ((ns++[bv i]).map .str)))[c]?=some (.list ((ns++[bv i]).map .str)):=getElem?_set_self (al hc)
   have x2:xS ⟨run n⟩ (.expr (.sm .append (.l 82) [.flag 149])) (Lw f c [(83,.int i),(149,.int (fl i))]) st=some (.next,Lw f c [(83,.int i),(149,.int (fl i))],st.set c (.list ((ns++[bv i]).map .str))):=
    eG (gV rfl (cS hc) (P.e1 (EJ rfl (wN ⟨i,Pl⟩))) a2) rfl
   have x3:xS ⟨run n⟩ (.aug 81 .BitXor (.l 149)) (Lw f c [(83,.int i),(149,.int (fl i))]) (st.set c (.list ((ns++[bv i]).map .str)))=some (.next,Lw (Builtin.bitXor f (fl i)) c [(83,.int i),(149,.int (fl i))],st.set c (.list ((ns++[bv i]).map .str))):=
    jK rfl rfl (cC rfl)
   by_cases q2:Builtin.bitXor f (fl i)=0
   ·rw[if_pos q2]at h;cases h;refine⟨Builtin.bitXor f (fl i),[(83,.int i),(149,.int (fl i))],?_⟩;rw[map_cons];refine Ee (hk _) ((aR hb).trans ((ae a1).trans (ug ((dN (fh hand ht)).trans ((ae x2).trans ((ae x3).trans (ug ((dN (c:=.not (.val (.l 81))) (Ef (v:=false) (fh rfl ?_))).trans (ug ?_)))))))))
    ·rw[fA,q2];rfl
    ·rfl
   ·rw[if_neg q2]at h;refine nX (ih (Builtin.bitXor f (fl i)) (ns++[bv i]) [(83,.int i),(149,.int (fl i))] (st.set c (.list ((ns++[bv i]).map .str))) (λx hx=>hi x (by simp[hx])) (.inr ⟨_,_,rfl⟩) Nx (by simp at hl ⊢;exact Q1 0x3e83111150401103e83151114001102 [_,_] hl rfl) h) λf' Kw e=>?_;refine⟨f',Kw,?_⟩;rw[set_set]at e;rw[map_cons];refine(bR (hk _) ((aR hb).trans ((ae a1).trans ((ae ((dN (fh hand ht)).trans ((ae x2).trans ((ae x3).trans ((ae (bG (Ef (v:=true) (fh rfl ?_)))).trans bB))))).trans bB)))).trans e;rw[fA];simp[q2]
theorem HV (n:Nat){ok:St->Bool}(hk:∀ st,ok st=true)(c:Nat)(st:St):∀ (is:List Nat) (τ:Loc),(∀ i∈is,i<32)->QN τ ->
  ∃ Kw,bc ok (bV ⟨run n⟩ (.nm 83) HU) (is.map λk:Nat=>AV.int k) (Lw 0 c τ) st=some (.next,Lw 0 c Kw,st):=by
 intro is
 induction is with
 |nil=>
  intro τ _ _;exact⟨τ,hZ (hk _)⟩
 |cons i is ih=>
  intro τ hi Mj;have Pl:i<32:=hi i (by simp);have hb:aQ (Lw 0 c τ) (.nm 83) (.int i)=some (Lw 0 c (ai τ 83 (.int i))):=rfl
  have OL:aQ (Lw 0 c (ai τ 83 (.int i))) (.nm 149) (.int (fl i))=some (Lw 0 c [(83,.int i),(149,.int (fl i))])/\af (Lw 0 c (ai τ 83 (.int i))) 83=some (.int i):=by
   rcases Mj with rfl |⟨u,v,rfl⟩<;>exact⟨rfl,rfl⟩
  refine av OL ?_;clear OL;intro M9 hg
  have a1:xS ⟨run n⟩ (.asg (.nm 149) (.b .LShift (.int 1) (.l 83))) (Lw 0 c (ai τ 83 (.int i))) st=some (.next,Lw 0 c [(83,.int i),(149,.int (fl i))],st):=
   aE (aj rfl (Eo hg) (y9 i Pl)) M9
  have hand:aa ⟨run n⟩ (.b .BitAnd (.l 81) (.l 149)) (Lw 0 c [(83,.int i),(149,.int (fl i))]) st=some (.int (Builtin.bitAnd 0 (fl i)),st):=aj rfl rfl rfl;refine aw (ih [(83,.int i),(149,.int (fl i))] (λx hx=>hi x (by simp[hx])) (.inr ⟨_,_,rfl⟩)) λKw e=>?_;refine⟨Kw,?_⟩;rw[map_cons];refine(bR (hk _) ((aR hb).trans ((ae a1).trans ((ae (bG (fh hand ?_))).trans bB)))).trans e
  have:Builtin.bitAnd 0 (fl i)=0:=by
   have e:fl i=((2^i:Nat):Int):=by simp[fl]
   rw[e];have:=dH 0 (2^i);simpa using this
  rw[fA,this];rfl
theorem As (n:Nat)(f:Int)(res:List (List Nat))(st:St)(h:pM (List.range 32) f []=some res)(hl:(res.map List.length).sum+res.length*2<=1000000):∃ Kd,run (n+1) 18 [.int f] st=some (.str (eU [44,32] res),Kd)/\Kp [] st Kd:=by
 have hc:(st++[AO.list []])[st.length]?=some (.list (([]:List (List Nat)).map .str)):=aS _ _;refine nX (J5 n (ok:=λst=>an st (.rng 0 (32:Nat)) ((List.range 32).map λk:Nat=>AV.int k)) (λ_=>rfl) st.length res (List.range 32) f [] [] (st++[.list []]) (λi hi=>mem_range.mp hi) (.inl rfl) hc (by simp) h) λf' Kw e=>?_;have Nx:((st++[AO.list []]).set st.length (.list (res.map .str)))[st.length]?=some (.list (res.map .str)):=getElem?_set_self (by simp);refine⟨(st++[AO.list []]).set st.length (.list (res.map .str)),?_,⟨by simp,λj hj _=>by rw[getElem?_set_ne (by exact qe),getElem?_append_left hj]⟩⟩;rw[wP,wQ];refine bT rfl ((ae (aE (eH (cK dk)) rfl)).trans ((ae (Aj (dn (P.e1 rfl) (aZ 32 (by decide))) (aL 32 (by decide)) e)).trans (cy (sR (gV rfl rfl (P.e1 rfl) (pN Nx hl))))))
theorem BX (n:Nat)(st:St):∃ Kd,run (n+1) 18 [.int 0] st=some (.str [48,120,48],Kd)/\Kp [] st Kd:=by
 have hc:(st++[AO.list []])[st.length]?=some (.list []):=aS _ _;refine aw (HV n (ok:=λst=>an st (.rng 0 (32:Nat)) ((List.range 32).map λk:Nat=>AV.int k)) (λ_=>rfl) st.length (st++[.list []]) (List.range 32) [] (λi hi=>mem_range.mp hi) (.inl rfl)) λKw e=>?_;have Nx:((st++[AO.list []]).set st.length (.list ([[48,120,48]].map .str)))[st.length]?=some (.list ([[48,120,48]].map .str)):=getElem?_set_self (by simp)
 have hx:gy (st++[.list []]) .hex [.int 0]=some (.str [48,120,48],st++[.list []]):=by
  show(if (lE 0).length<=1000 then some (AV.str (lE 0),_) else none)=_;rw[HS];rfl
 refine⟨(st++[AO.list []]).set st.length (.list ([[48,120,48]].map .str)),?_,⟨by simp,λj hj _=>by rw[getElem?_set_ne (by exact qe),getElem?_append_left hj]⟩⟩;rw[wP,wQ];refine bT (σ:=[(81,.int 0)]) rfl ((ae (aE (eH (cK dk)) rfl)).trans ((ae ((HF (dn (P.e1 rfl) (aZ 32 (by decide))) (aL 32 (by decide)) e).trans ((ae (eG (gV rfl (cS hc) (P.e1 (dn (P.e1 rfl) hx)) (cY hc (by decide))) rfl)).trans bB))).trans (cy (sR (gV rfl rfl (P.e1 rfl) (pN Nx (by decide)))))))
theorem EK (n:Nat)(a:List AV)(st:St):run (n+1) 1 a st=bE (run n) [88] b1 a st:=rfl
theorem rr {X:Cx}{σ:Loc}{st Ke Kf:St}{a b:E}{s p:List Nat}(h1:aa X a σ st=some (.str s,Ke))(h2:aa X b σ Ke=some (.str p,Kf))(h3:p.isEmpty=false)(h4:s.length<=1000){res:List (List Nat)}(h5:(Txt.split ⟨s.toArray⟩ ⟨p.toArray⟩).map (λx=>x.cps.toList)=res)(h6:res.length<=1000):dt X (.split a b) σ st=some (res.map .str,Kf):=by
 have h7:(Txt.split ⟨s.toArray⟩ ⟨p.toArray⟩).length<=1000:=by rw[← h5,length_map]at h6;exact h6
 have:(p.isEmpty||decide (s.length>1000)||decide ((Txt.split ⟨s.toArray⟩ ⟨p.toArray⟩).length>1000))=false:=by
  rw[h3,decide_eq_false (by exact IP),decide_eq_false (by exact IP)];rfl
 exact jE h1 (jE h2 ((if_neg (λz=>Ly (this.symm.trans z))).trans (by rw[← h5,map_map];rfl)))
theorem HW (n k:Nat)(hk:k<32)(st:St):run (n+1) 1 [.int k] st=some (.str (bv k),st):=by
 rw[EK];refine bT (Ki:=[(88,.int k),(89,.lst (((List.range 10).map bv).map .str))]) rfl ((ae (aE (aH (rr (s:=Ar) rfl rfl rfl (by decide) BW (by decide))) rfl)).trans ?_);by_cases q:k<10
 ·have hq:bJ st .Lt (.int k) (.int 10)=some true:=congrArg some (decide_eq_true (show(k:Int)<10 by omega))
  have hs:cB st (.lst (((List.range 10).map bv).map .str)) (.int k)=some (.str (bv k)):=by
   refine fN ?_ (by exact CX);rw[getElem?_map,getElem?_map,getElem?_range q];rfl
  exact cy (sR (my (bF rfl rfl hq) (bW rfl rfl hs)))
 ·have hq:bJ st .Lt (.int k) (.int 10)=some false:=congrArg some (decide_eq_false (show ¬ (k:Int)<10 by lia))
  have m1:aK .Mod (.int k) (.int 4)=some (.int ((k%4:Nat):Int)):=by
   rw[dT (by decide),Int.fmod_eq_emod_of_nonneg _ (by exact jP)];rfl
  have d1:aK .FloorDiv (.int k) (.int 4)=some (.int ((k/4:Nat):Int)):=by
   rw[fM ⟨by decide,kV (by decide)⟩,fdiv_eq_ediv_of_nonneg _ (by exact jP)];rfl
  have s1:cB st (.str [49,50,52,56]) (.int ((k%4:Nat):Int))=some (.str [([49,50,52,56]:List Nat).getD (k%4) 0]):=by
   have:k%4=0\/k%4=1\/k%4=2\/k%4=3:=by exact Gn
   rcases this with e |e |e |e<;>rw[e]<;>rfl
  have a1:aK .Add (.str [48,120]) (.str [([49,50,52,56]:List Nat).getD (k%4) 0])=some (.str ([48,120]++[([49,50,52,56]:List Nat).getD (k%4) 0])):=rfl
  have r1:aK .Mult (.str [48]) (.int ((k/4:Nat):Int))=some (.str (replicate (k/4) 48)):=by
   have:-1000<=((k/4:Nat):Int)/\((k/4:Nat):Int)<=1000:=⟨Int.le_trans (by decide) (natCast_nonneg _),ofNat_le.mpr (le_trans (div_le_self _ _) (le_trans (le_of_lt (by assumption:k<32)) (by decide)))⟩;exact if_pos this
  have a2:aK .Add (.str ([48,120]++[([49,50,52,56]:List Nat).getD (k%4) 0])) (.str (replicate (k/4) 48))=some (.str (bv k)):=by
   have:([48,120]++[([49,50,52,56]:List Nat).getD (k%4) 0]).length+(replicate (k/4) 48).length<=1000000:=by simp;exact Q2 0x5644120111202111150110f424051431104103 [_,_,_] hk (div_add_mod _ _) rfl
   have hn:=EI ⟨k,hk⟩ (show 10<=k by exact zN);exact Eq.trans (if_pos this) (by rw[← hn];rfl)
  exact cy (sR (sa (bF rfl rfl hq) (aj (aj rfl (bW rfl (aj rfl rfl m1) s1) a1) (aj rfl (aj rfl rfl d1) r1) a2)))
theorem wR {x y:Nat}(h:x≠y):Nat.beq x y=false:=by
 cases e:Nat.beq x y
 ·rfl
 ·exact absurd (Nat.eq_of_beq_eq_true e) h
theorem wS (x:Nat):Nat.beq x x=true:=Nat.beq_refl x
theorem ab (x:Nat)(v:AV):∀ (σ:Loc),af (ai σ x v) x=some v:=by
 intro σ
 induction σ with
 |nil=>
  simp[ai,af,wS]
 |cons Lp r ih=>
  obtain⟨y,w⟩:=Lp;rw[ai];by_cases h:Nat.beq y x=true
  ·simp[h,af]
  ·have h':Nat.beq y x=false:=eq_false_iff.mpr h;simp[h',af,ih]
theorem ag {x y:Nat}(v:AV)(h:y≠x):∀ (σ:Loc),af (ai σ y v) x=af σ x:=by
 intro σ
 induction σ with
 |nil=>
  simp[ai,af,wR h]
 |cons Lp r ih=>
  obtain⟨z,w⟩:=Lp;rw[ai];by_cases hz:Nat.beq z y=true
  ·have:=Nat.eq_of_beq_eq_true hz;subst this;simp[hz,af,wR h]
  ·have h':Nat.beq z y=false:=eq_false_iff.mpr hz;simp[h',af,ih]
theorem ez {x:Nat}{cap:List Nat}(h:cap.contains x=true):∀ (σ:Loc),af (aX σ cap) x=af σ x:=by
 intro σ
 induction σ with
 |nil=>
  exact rfl
 |cons Lp r ih=>
  obtain⟨z,w⟩:=Lp;unfold aX;by_cases hz:Nat.beq z x=true
  ·have:=Nat.eq_of_beq_eq_true hz;subst this;rw[filter_cons_of_pos (by simpa using h)];simp[af,hz]
  ·have h':Nat.beq z x=false:=eq_false_iff.mpr hz;have ih:=ih;unfold aX at ih;by_cases hc:cap.contains z=true
   ·rw[filter_cons_of_pos (by simpa using hc)];simp only[af,h',ih,if_false,reduceCtorEq]
   ·rw[filter_cons_of_neg (by simpa using hc),ih];simp only[af,h',if_false,reduceCtorEq]
theorem ay {X:Cx}{σ:Loc}{st:St}{x:Nat}{v:AV}(h:af σ x=some v):aa X (.l x) σ st=some (v,st):=Eo h
theorem gn {X:Cx}{σ:Loc}{st:St}{x y:Nat}{v w:AV}{cap:List Nat}(h:af σ x=some v)(hc:cap.contains x=true)(hn:y≠x):aa X (.l x) (ai (aX σ cap) y w) st=some (v,st):=
 ay (by rw[ag _ hn,ez hc,h])
theorem lO {X:Cx}{σ:Loc}{st:St}{y:Nat}{w:AV}{cap:List Nat}:aa X (.l y) (ai (aX σ cap) y w) st=some (w,st):=ay (ab _ _ _)
structure Ru where
 p:Nat
 q:Nat
 r:Nat
 s:Nat
noncomputable def aV (x:Ru):AV:=.tup [.int x.p,.int x.q,.int x.r,.int x.s]
abbrev cj:=List Ru
noncomputable def R (rs:cj)(k:Nat):Ru:=rs.getD k ⟨1,1,1,1⟩
noncomputable def C4 (x:Ru):Prop:=(1<=x.p/\x.p<=6)/\(1<=x.r/\x.r<=6)/\(1<=x.q/\x.q<=6)/\(1<=x.s/\x.s<=6)
noncomputable def K0 (rs:cj):Prop:=rs.length=3/\∀ x∈rs,C4 x
theorem K0.get {rs:cj}(h:K0 rs){k:Nat}(hk:k<3):C4 (R rs k)/\rs[k]?=some (R rs k):=by
 have hl:k<rs.length:=by rw[h.1];exact hk
 have e:rs[k]?=some (R rs k):=by
  rw[R,getD_eq_getElem?_getD,getElem?_eq_getElem hl];rfl
 exact⟨h.2 _ (mem_of_getElem? e),e⟩
noncomputable def RV (st:St)(rv:AV)(rs:cj):Prop:=rv=.lst (rs.map aV)\/∃ j,rv=.obj j/\st[j]?=some (.list (rs.map aV))
theorem RV.mono {st Kd:St}{rv:AV}{rs:cj}(h:RV st rv rs){W:List Nat}(k:Kp W st Kd)(hw:∀ j∈W,rv≠.obj j):RV Kd rv rs:=by
 rcases h with rfl |⟨j,rfl,e⟩
 ·exact .inl rfl
 ·exact .inr ⟨j,rfl,k.get e λhj=>hw j hj rfl⟩
theorem RV.sub {st:St}{rv:AV}{rs:cj}(h:RV st rv rs)(ho:K0 rs){k:Nat}(hk:k<3):cB st rv (.int k)=some (aV (R rs k)):=by
 have e:(rs.map aV)[k]?=some (aV (R rs k)):=by rw[getElem?_map,(ho.get hk).2];rfl
 rcases h with rfl |⟨j,rfl,e2⟩
 ·exact fN e (by exact CX)
 ·exact cG e2 e (by exact CX)
theorem I9 {st:St}(x:Ru):cB st (aV x) (.int 0)=some (.int x.p):=rfl
theorem Ja {st:St}(x:Ru):cB st (aV x) (.int 1)=some (.int x.q):=rfl
section
variable {σ:Loc}{st:St}{rs:cj}{rv:AV}{low sh:Nat}{B:dJ}
theorem cT (a b:Nat):aK .Add (.int a) (.int b)=some (.int ((a+b:Nat):Int)):=rfl
theorem BY (n:Nat)(h:af σ 107=some (.int low))(hl:low<30):aa ⟨run (n+1)⟩ (.new false (.comp (.call 1 [.b .Add (.l 107) (.l 61)]) (.nm 61) (.bi .range1 [.int 3]) [] [107])) σ st=some (.lst ((List.range 3).map λk=>.str (bv (low+k))),st):=by
 refine aH (bS (dn (P.e1 rfl) (aZ 3 (by decide))) (aL 3 (by decide)) (by decide) ?_);refine aD (λk:Nat=>AV.int k) (λk=>.str (bv (low+k))) rfl (List.range 3) λk hk=>?_;have MQ:=mem_range.mp hk;exact lC rfl (be (P.e1 (aj (gn h rfl (by decide)) lO (cT low k))) (HW n (low+k) (by exact dS) st))
noncomputable def a0 (x:Ru)(sh:Nat):List Nat:=(ij x.p x.q x.r x.s sh).map iM
theorem EL (n:Nat){k:Nat}(hk:k<3)(h:RV st rv rs)(ho:K0 rs)(h1:af σ 90=some rv)(h2:af σ 61=some (.int k))(h3:af σ 103=some (.int sh))(KP:sh<5000) :
  aa ⟨run (n+2)⟩ (.sm .join (.str []) [.new false (.comp (.call 7 [.b .Add (.l 93) (.b .Mult (.int 8) (.l 103))]) (.nm 93) (.sub (.l 90) (.l 61)) [] [103])]) σ st=some (.str (a0 (R rs k) sh),st):=by
 have hR:=(ho.get hk).1
 have hc:∀ x:Nat,x<=6->jt ⟨run (n+2)⟩ (.call 7 [.b .Add (.l 93) (.b .Mult (.int 8) (.l 103))]) (.nm 93) [] (aX σ [103]) (.int x) st=some ([.str ((bM (x+8*sh)).map iM)],st):=λx hx=>
  lC rfl (be (P.e1 (aj lO (aj rfl (gn h3 rfl (by decide)) (mul_int (by decide))) (by
   show aK .Add (.int x) (.int (8*(sh:Int)))=some (.int ((x+8*sh:Nat):Int))
   show some _=some _;congr 2))) (HK n (x+8*sh) st (by exact Dp)))
 refine gV rfl rfl (P.e1 (aH (bS (v:=aV (R rs k)) (bW (ay h1) (ay h2) (h.sub ho hk)) rfl (by simp) (aD (λx:Nat=>AV.int x) (λx=>.str ((bM (x+8*sh)).map iM)) rfl [(R rs k).p,(R rs k).q,(R rs k).r,(R rs k).s] λx hx=>hc x ?_)))) ?_
 ·simp only[mem_cons,not_mem_nil,or_false]at hx;rcases hx with rfl |rfl |rfl |rfl
  ·exact hR.1.2
  ·exact hR.2.2.1.2
  ·exact hR.2.1.2
  ·exact hR.2.2.2.2
 ·have hl:∀ x:Nat,x<=6->(bM (x+8*sh)).length<=3:=λx hx=>eL (by exact Dp);have l1:=hl _ hR.1.2;have l2:=hl _ hR.2.2.1.2;have l3:=hl _ hR.2.1.2;have l4:=hl _ hR.2.2.2.2
  have hs:(([(R rs k).p,(R rs k).q,(R rs k).r,(R rs k).s].map λx=>(bM (x+8*sh)).map iM).map List.length).sum+([(R rs k).p,(R rs k).q,(R rs k).r,(R rs k).s].map λx=>(bM (x+8*sh)).map iM).length*([]:List Nat).length<=1000000:=by
   simp only[map_cons,map_nil,sum_cons,sum_nil,length_map,length_nil,mul_zero];exact Q4 0x3117110311611031151103114110f42405101017060504001105 [_,_,_,_] l1 l2 l3 l4 rfl
  refine(jW (k:=λl=>if (l.map List.length).sum+l.length*([]:List Nat).length<=1000000 then some (AV.str (eU [] l),st) else none) (d9 (λx=>(bM (x+8*sh)).map iM) [(R rs k).p,(R rs k).q,(R rs k).r,(R rs k).s]) (if_pos hs)).trans ?_;rw[gL];simp[a0,ij]
theorem EM (n:Nat){k:Nat}(hk:k<3)(h1:af σ 107=some (.int low))(h2:af σ 61=some (.int k))(hl:low<30) :
  ∃ Kd,aa ⟨run (n+1)⟩ (.call 18 [.b .LShift (.int 1) (.b .Add (.l 107) (.l 61))]) σ st=some (.str (bv (low+k)),Kd)/\Kp [] st Kd:=by
 have hj:[k]∈nH:=by
  have:k=0\/k=1\/k=2:=by exact ye
  rcases this with rfl |rfl |rfl<;>decide
 have hp:=Aq ⟨low,hl⟩ [k] hj;have hs:uy low [k]=fl (low+k):=by simp[uy]
 simp only[hs,map_cons,map_nil]at hp;have Ko:=(fb ⟨low+k,by exact dS⟩).2.1;refine ak (As n (fl (low+k)) [bv (low+k)] st hp (by simp at Ko ⊢;exact bN)) λKd e kk=>?_;exact⟨Kd,be (P.e1 (aj rfl (aj (ay h1) (ay h2) (cT low k)) (y9 (low+k) (by exact Q2 0x1e211114011031111150110202111154001103 [_,_] hk hl rfl)))) e,kk⟩
noncomputable def cv (B:dJ):List AV:=(aI (0::ci B)).map .int++replicate 7 (.int 0)
theorem BZ {B:dJ}{k:Nat}(h1:1<=k)(h:k<=6):(cv B)[k]?=some (.int (cnt B k)):=by
 have hc:(0::ci B).count k=cnt B k:=by rw[count_cons_of_ne (by exact Dm)];rfl
 by_cases q:k<=mx (0::ci B)
 ·rw[cv,getElem?_append_left (by rw[length_map,cE];exact Gd),getElem?_map,cZ,if_pos q,hc];rfl
 ·rw[cv,getElem?_append_right (by rw[length_map,cE];exact Gb),getElem?_replicate,if_pos (by exact Q2 0x541106115110711111401103 [_,_] h (sub_le _ _) rfl)];rw[← hc,eK q];rfl
theorem wT {k:Nat}(h1:1<=k)(h:k<=6):cB st (.tup (cv B)) (.int k)=some (.int (cnt B k)):=by
 exact y7 (BZ h1 h) (by exact dU)
theorem sP (n:Nat){i d l:Nat}(h:Hd st i d l (bX B))(hB:lD B)(h1:af σ 101=some (.obj i)) :
  ∃ Kd,aa ⟨run (n+2)⟩ (.b .Add (.sub (.attr (.call 9 [.l 101]) 2) (.int 0)) (.b .Mult (.tup [.int 0]) (.int 7))) σ st=some (.tup (cv B),Kd)/\Kp [] st Kd:=by
 refine cU (y8 n h hB) λKd e k w=>?_
 have hm:mx (0::ci B)<=6:=by
  have:∀ L:List Nat,(∀ z∈L,z<=6)->mx L<=6:=by
   intro L
   induction L with
   |nil=>intro _;simp[mx]
   |cons a L ih=>
    intro hL;have:=ih λz hz=>hL z (by simp[hz]);have:=hL a (by simp);simp only[mx,foldr_cons]at *;exact G5
  apply this;intro z hz;simp only[mem_cons,ci,mem_map]at hz;rcases hz with rfl |⟨x,hx,rfl⟩
  ·exact CW
  ·exact(hB.2 x hx).2
 have hl:((aI (0::ci B)).map AV.int).length<=7:=by rw[length_map,cE];exact dU
 have Pm:((aI (0::ci B)).map AV.int).length≠0:=by rw[length_map,cE];exact ne_of_gt (Q0 0x111401110101101 [_] rfl)
 have ha:aK .Add (.tup ((aI (0::ci B)).map .int)) (.tup (replicate 7 (.int 0)))=some (.tup (cv B)):=by
  have:(!((aI (0::ci B)).map AV.int).isEmpty)=true/\(!(replicate 7 (AV.int 0)).isEmpty)=true/\((aI (0::ci B)).map AV.int).length+(replicate 7 (AV.int 0)).length<=1000000:=by
   refine⟨?_,rfl,by simp at hl ⊢;exact bN⟩
   cases e:(aI (0::ci B)).map AV.int with
   |nil=>rw[e]at Pm;exact absurd rfl Pm
   |cons=>rfl
  exact if_pos this
 exact⟨Kd,aj (bW (ft (be (P.e1 (ay h1)) e) w.norm) rfl rfl) rfl ha,k⟩
noncomputable def HX (rs:cj)(g:Nat->Nat):List Nat:=(List.range 3).filter λk=>decide ((R rs k).q<=g (R rs k).p)
noncomputable def lP (rs:cj)(B:dJ):List Nat:=(List.range 3).filter λk=>decide ((R rs k).q<=cnt B (R rs k).p)
noncomputable def lg:E:=.new false (.comp (.l 61) (.nm 61) (.bi .range1 [.int 3]) [.val (.cmp .GtE (.sub (.l 96) (.sub (.sub (.l 90) (.l 61)) (.int 0))) (.sub (.sub (.l 90) (.l 61)) (.int 1)))] [96,90])
theorem sQ {X:Cx}(h:RV st rv rs)(ho:K0 rs){cvv:AV}{g:Nat->Nat}(Oy:∀ k:Nat,1<=k->k<=6->cB st cvv (.int k)=some (.int (g k)))(h1:af σ 90=some rv)(h2:af σ 96=some cvv):aa X lg σ st=some (.lst ((HX rs g).map λk:Nat=>.int k),st):=by
 refine aH (bS (dn (P.e1 rfl) (aZ 3 (by decide))) (aL 3 (by decide)) (by decide) ?_);refine bK _ (λk:Nat=>AV.int k) (λk:Nat=>AV.int k) rfl (List.range 3) λk hk=>?_;have MQ:=mem_range.mp hk;have hR:=(ho.get MQ).1
 have M7:aJ X (.val (.cmp .GtE (.sub (.l 96) (.sub (.sub (.l 90) (.l 61)) (.int 0))) (.sub (.sub (.l 90) (.l 61)) (.int 1)))) (ai (aX σ [96,90]) 61 (.int k)) st=some (decide ((R rs k).q<=g (R rs k).p),st):=by
  refine bF (bW (gn h2 rfl (by decide)) (bW (bW (gn h1 rfl (by decide)) lO (h.sub ho MQ)) rfl (I9 _)) (Oy _ hR.1.1 hR.1.2)) (bW (bW (gn h1 rfl (by decide)) lO (h.sub ho MQ)) rfl (Ja _)) ?_;show some _=some _;congr 1;simp
 by_cases q:(R rs k).q<=g (R rs k).p
 ·rw[decide_eq_true q]at M7 ⊢;exact C1 rfl (uJ M7) lO
 ·rw[decide_eq_false q]at M7 ⊢;exact C3 rfl (uJ M7)
theorem wU {X:Cx}(h:RV st rv rs)(ho:K0 rs){cvv:AV}(Oy:∀ k:Nat,1<=k->k<=6->cB st cvv (.int k)=some (.int (cnt B k)))(h1:af σ 90=some rv)(h2:af σ 96=some cvv):aa X lg σ st=some (.lst ((lP rs B).map λk:Nat=>.int k),st):=
 sQ h ho Oy h1 h2
theorem wV (rs:cj)(B:dJ):lP rs B=[]\/lP rs B∈nH:=by
 unfold lP;simp only[show List.range 3=[0,1,2] from rfl,filter_cons,List.filter_nil];cases decide ((R rs 0).q<=cnt B (R rs 0).p)<;>cases decide ((R rs 1).q<=cnt B (R rs 1).p)<;>cases decide ((R rs 2).q<=cnt B (R rs 2).p)<;>simp[nH]
end
theorem gq:∀ (l:List (List Nat)),(∀ s∈l,∀ c∈s,c<1114112)->PyData.canLayAll0 (l.map λs=>PyData.str ⟨s.toArray⟩)=true:=by
 intro l
 induction l with
 |nil=>
  intro _;exact rfl
 |cons a l ih=>
  intro h;rw[map_cons,PyData.canLayAll0,PyData.canLay0,kS (h a (by simp)),ih λs hs=>h s (by simp[hs])];rfl
theorem fP (n:Nat)(st:St)(l:List (List Nat)):aY ((l.map AV.str).map (ba n st))=some (l.map λs=>PyData.str ⟨s.toArray⟩):=by
 induction l with
 |nil=>rfl
 |cons a l ih=>
  have e:ba n st (.str a)=some (.str ⟨a.toArray⟩):=by cases n<;>rfl
  rw[map_cons,map_cons,e];exact congrArg (Option.map (_::·)) ih
theorem lh (n:Nat)(st:St)(l:List (List Nat)):ba (n+1) st (.lst (l.map .str))=some (.list (l.map λs=>PyData.str ⟨s.toArray⟩)):=by
 exact congrArg (Option.map PyData.list) (fP n st l)
theorem rt {st:St}{l:List (List Nat)}(h:∀ s∈l,∀ c∈s,c<1114112):rO st (.lst (l.map .str)) (.lst (l.map .str))=some true:=
 dA (lh 5 st l) (lh 5 st l) (by rw[PyData.canLay0];exact gq l h)
theorem nm_lt (k:Nat)(h:k<32):∀ c∈bv k,c<1114112:=pE (fb ⟨k,h⟩).1
theorem jw (k:Nat)(h:k<32):pC (bv k):=by
 have:=fb ⟨k,h⟩;exact⟨this.1,le_trans this.2.1 (by decide),this.2.2.1,this.2.2.2.1⟩
theorem nJ (k:Nat)(h:k<32):pC (aG (bv k)):=by
 have:=fb ⟨k,h⟩
 exact⟨this.2.2.2.2.2.2.2.2,by rw[aG,length_map];exact le_trans this.2.1 (by decide),this.2.2.2.1,by
  have e:=this.2.2.2.2.2.2.2.1;unfold aG at e ⊢
  rw[e];exact this.2.2.2.1⟩
theorem B3 (k:Nat)(h:k<32):pC ((bv k).map ya):=by
 have:=fb ⟨k,h⟩
 exact⟨this.2.2.2.2.1,by rw[length_map];exact le_trans this.2.1 (by decide),this.2.2.2.2.2.1,by
  have e:=this.2.2.2.2.2.2.1;unfold aG at e
  rw[e];exact this.2.2.2.1⟩
theorem za (k:Nat)(h:k<32):aG ((bv k).map ya)=aG (bv k):=(fb ⟨k,h⟩).2.2.2.2.2.2.1
theorem sS (k:Nat)(h:k<32):aG (aG (bv k))=aG (bv k):=(fb ⟨k,h⟩).2.2.2.2.2.2.2.1
theorem At {a b:Nat}(ha:a<32)(hb:b<32)(h:a≠b):aG (bv a)≠aG (bv b):=λe=>h (nm_inj ⟨a,ha⟩ ⟨b,hb⟩ e)
theorem ru {a b:Nat}(ha:a<32)(hb:b<32)(h:a≠b):bv a≠bv b:=λe=>At ha hb h (by rw[e])
noncomputable def wordsOf (low:Nat)(js:List Nat):List (List Nat):=if js=[] then [[48,120,48]] else js.map λk=>bv (low+k)
section
variable {σ:Loc}{st:St}{rs:cj}{rv:AV}{low sh:Nat}{B:dJ}
theorem pO:∀ js∈nH,js.length<=3:=by decide
theorem B4:(Txt.split ⟨([48,120,48]:List Nat).toArray⟩ ⟨([44,32]:List Nat).toArray⟩).map (λx=>x.cps.toList)=[[48,120,48]]:=by decide +kernel
theorem sT:∀ js∈nH,∀ k∈js,k<3:=by decide
noncomputable def wW:E:=.new false (.split (.call 18 [.bi .sum [.new false (.comp (.b .LShift (.int 1) (.b .Add (.l 107) (.l 61))) (.nm 61) (.l 164) [] [107])]]) (.str [44,32]))
theorem wX (n:Nat){js:List Nat}(hj:js=[]\/js∈nH)(hl:low<30)(h1:af σ 107=some (.int low))(h2:af σ 164=some (.lst (js.map λk:Nat=>.int k))) :
  ∃ Kd,aa ⟨run (n+1)⟩ wW σ st=some (.lst ((wordsOf low js).map .str),Kd)/\Kp [] st Kd:=by
 have LK:∀ k∈js,k<3:=by
  rcases hj with rfl |hj
  ·simp
  ·exact sT js hj
 have Ko:js.length<=3:=by
  rcases hj with rfl |hj
  ·simp
  ·exact pO js hj
 have hs:aa ⟨run (n+1)⟩ (.bi .sum [.new false (.comp (.b .LShift (.int 1) (.b .Add (.l 107) (.l 61))) (.nm 61) (.l 164) [] [107])]) σ st=some (.int (uy low js),st):=by
  refine dn (vs:=[.lst (js.map λk=>.int (fl (low+k)))]) (P.e1 (aH (bS (ay h2) rfl (by rw[length_map];exact bN) (aD (λk:Nat=>AV.int k) (λk=>.int (fl (low+k))) rfl js λk hk=>?_)))) ?_
  ·have:=LK k hk;exact lC rfl (aj rfl (aj (gn h1 rfl (by decide)) lO (cT low k)) (y9 (low+k) (by exact dS)))
  ·exact jI (fL (λk=>fl (low+k)) js) rfl
 rcases hj with rfl |hj
 ·obtain⟨Kd,e,k⟩:∃ Kd,run (n+1) 18 [.int (uy low [])] st=some (.str [48,120,48],Kd)/\Kp [] st Kd:=BX n st;rw[show wordsOf low []=[[48,120,48]] from if_pos rfl];have e3:aa ⟨run (n+1)⟩ (.call 18 [.bi .sum [.new false (.comp (.b .LShift (.int 1) (.b .Add (.l 107) (.l 61))) (.nm 61) (.l 164) [] [107])]]) σ st=some (.str [48,120,48],Kd):=be (P.e1 hs) e
  have e4:dt ⟨run (n+1)⟩ (.split (.call 18 [.bi .sum [.new false (.comp (.b .LShift (.int 1) (.b .Add (.l 107) (.l 61))) (.nm 61) (.l 164) [] [107])]]) (.str [44,32])) σ st=some ([[48,120,48]].map .str,Kd):=
   rr (s:=[48,120,48]) (p:=[44,32]) (Kf:=Kd) e3 rfl rfl (by simp) B4 (by simp)
  exact⟨Kd,aH e4,k⟩
 ·have Lu:js≠[]:=by rintro rfl;revert hj;decide
  have hw:∀ s∈js.map (λk=>bv (low+k)),s.length<=100:=λs hs=>by
   simp only[mem_map]at hs;refine ak hs ?_;clear hs;rintro k hk rfl;exact(fb ⟨low+k,by have:=LK k hk;exact dS⟩).2.1
  have MP:((js.map λk=>bv (low+k)).map List.length).sum<=100*js.length:=by
   have:=rq (L:=(js.map λk=>bv (low+k)).map List.length) (m:=100) (by
    intro z hz;simp only[mem_map]at hz;refine ak hz ?_;clear hz;rintro s ⟨k,hk,rfl⟩ rfl
    exact hw _ (mem_map_of_mem hk))
   simpa using this
  refine ak (As n (uy low js) (js.map λk=>bv (low+k)) st (Aq ⟨low,hl⟩ js hj) (by rw[length_map];exact Q2 0x56422411031156620f4240515213401103 [_,_] Ko MP rfl)) λKd e k=>?_;refine⟨Kd,aH (rr (p:=[44,32]) (be (P.e1 hs) e) rfl rfl ?_ ?_ ?_),k⟩
  ·have:∀ l:List (List Nat),(eU [44,32] l).length<=(l.map List.length).sum+2*l.length:=by
    intro l
    induction l with
    |nil=>exact zero_le _
    |cons a l ih=>
     cases l with
     |nil=>exact le_add_right a.length _
     |cons b l=>
      show(a++[44,32]++eU [44,32] (b::l)).length<=a.length+((b::l).map List.length).sum+2*((b::l).length+1);rw[length_append,length_append,show[44,32].length=2 from rfl];exact Jx ih
   have:=this (js.map λk=>bv (low+k));rw[length_map]at this;exact Q3 0x5212604110564226110311566203e83141104 [_,_,_] Ko MP this rfl
  ·rw[wordsOf,if_neg Lu];exact wO ⟨low,hl⟩ js hj
  ·rw[wordsOf,if_neg Lu,length_map];exact bN
theorem HY (t:Nat)(h:t<=31):aK .Pow (.int 3) (.int t)=some (.int ((3:Int)^t)):=by
 have:(2:Int)<=3/\(3:Int)<=8/\(0:Int)<=(t:Int)/\(t:Int)<=100:=⟨by decide,by decide,natCast_nonneg _,ofNat_le.mpr (le_trans (by assumption) (by decide:31<=100))⟩;exact if_pos this
theorem zb (t:Nat)(h:t<=31):((3:Int)^t).natAbs<2^64/\(3:Int)^t≠0:=by
 have e:(3:Int)^t=((3^t:Nat):Int):=by simp
 rw[e,natAbs_natCast];have h1:3^t<=3^31:=pow_le_pow_right (by decide) h;have h2:0<3^t:=pow_pos (by decide);have h3:(3:Nat)^31<2^64:=by decide
 exact⟨lt_of_le_of_lt h1 h3,by exact ym⟩
noncomputable def Au:E:=.sub (.l 89) (.b .Mod (.b .Mod (.b .FloorDiv (.l 108) (.b .Pow (.int 3) (.l 98))) (.int 3)) (.bi .len [.l 89]))
theorem EN {X:Cx}{js:List Nat}(Lu:js≠[])(Ko:js.length<=3){t:Nat}(ht:t<=31){c:Int}(h1:af σ 89=some (.lst ((wordsOf low js).map .str)))(h2:af σ 108=some (.int c))(h3:af σ 98=some (.int t)) :
  ∃ j∈js,aa X Au σ st=some (.str (bv (low+j)),st):=by
 have hp:=zb t ht;have hl0:0<js.length:=length_pos_iff.mpr Lu;let a:=(c.fdiv (3^t)).fmod 3;have b0:0<=a.fmod (js.length:Int):=fmod_nonneg_of_pos _ (by exact uH);have b1:a.fmod (js.length:Int)<(js.length:Int):=fmod_lt_of_pos _ (by exact uH);let k:=(a.fmod (js.length:Int)).toNat;have hk:k<js.length:=CV b0 b1;have hkk:a.fmod (js.length:Int)=(k:Int):=(zF b0).symm;refine⟨js[k],getElem_mem hk,?_⟩
 have d1:aK .FloorDiv (.int c) (.int ((3:Int)^t))=some (.int (c.fdiv (3^t))):=by
  exact fM ⟨hp.2,kV hp.1⟩
 have m1:aK .Mod (.int (c.fdiv (3^t))) (.int 3)=some (.int a):=by
  exact dT (by decide)
 have m2:aK .Mod (.int a) (.int (js.length:Int))=some (.int k):=by
  refine Eq.trans (dT (by exact ym)) ?_;rw[hkk]
 have hw:((wordsOf low js).map AV.str).length=js.length:=by rw[wordsOf,if_neg Lu];simp
 have P4:gy st .len [.lst ((wordsOf low js).map .str)]=some (.int (js.length:Int),st):=by
  rw[j4 (by rw[hw];exact bN),hw]
 refine bW (ay h1) (aj (aj (aj (ay h2) (aj rfl (ay h3) (HY t ht)) d1) rfl m1) (dn (P.e1 (ay h1)) P4) m2) ?_;refine fN ?_ (by exact Q2 0x5111401103115110f424051111401103 [_,_] Ko hk rfl);rw[wordsOf,if_neg Lu];simp[getElem?_eq_getElem hk]
noncomputable def iI (rs:cj)(low sh:Nat):List Pr:=((List.range 3).map λk=>(bv (low+k),a0 (R rs k) sh))++(List.range 3).map λk=>(aG (bv (low+k)),[])
theorem uz (hl:low<30){k:Nat}(hk:k<3){s:List Nat}(hs:aG s=aG (bv (low+k))):(iI rs low sh).find? (λp=>decide (aG p.1=aG s))=some (bv (low+k),a0 (R rs k) sh):=by
 have Lu:∀ a b:Nat,a<3->b<3->a≠b->¬ (aG (bv (low+a))=aG (bv (low+b))):=λa b ha hb h=>At (by exact dS) (by exact dS) (by exact JO);rw[hs];have:k=0\/k=1\/k=2:=by exact ye
 simp only[iI,show List.range 3=[0,1,2] from rfl,map_cons,map_nil,cons_append,nil_append];rcases this with rfl |rfl |rfl
 ·rw[find?_cons_of_pos (by simp)]
 ·rw[find?_cons_of_neg (by simpa using Lu 0 1 (by decide) (by decide) (by decide)),find?_cons_of_pos (by simp)]
 ·rw[find?_cons_of_neg (by simpa using Lu 0 2 (by decide) (by decide) (by decide)),find?_cons_of_neg (by simpa using Lu 1 2 (by decide) (by decide) (by decide)),find?_cons_of_pos (by simp)]
theorem zc (hl:low<30):BF (iI rs low sh):=by
 refine⟨by simp[iI],λp hp=>?_⟩;simp only[iI,mem_append,mem_map,mem_range]at hp;rcases hp with ⟨k,hk,rfl⟩ |⟨k,hk,rfl⟩
 ·exact jw _ (by exact dS)
 ·exact nJ _ (by exact dS)
theorem uA {x:Ru}(hx:C4 x)(KP:sh<5000):dY false (a0 x sh)=true/\(a0 x sh).length<=1000:=by
 constructor
 ·simp only[dY,a0,all_eq_true,mem_map];rintro c ⟨y,hy,rfl⟩;have:=nG _ _ _ _ _ y hy;unfold iM;split
  ·simp
  ·simp;exact zy (by assumption)
 ·have hl:∀ x:Nat,x<=6->(bM (x+8*sh)).length<=3:=λx hx=>eL (by exact Dp);have l1:=hl _ hx.1.2;have l2:=hl _ hx.2.2.1.2;have l3:=hl _ hx.2.1.2;have l4:=hl _ hx.2.2.2.2;simp only[a0,ij,length_map,length_append];exact Q4 0x31171103116110311511031141103e83176050401105 [_,_,_,_] l1 l2 l3 l4 rfl
noncomputable def B5:E:=.meth 32 (.l 109) [.ite (.val (.cmp .Eq (.b .Mod (.l 98) (.int 2)) (.int 0))) (.sm .lower (.l 166) []) (.sm .upper (.l 166) [])]
theorem HZ (n:Nat){i2 d2 l2:Nat}(h:Hd st i2 d2 l2 (iI rs low sh))(hl:low<30){k t:Nat}(hk:k<3)(h1:af σ 109=some (.obj i2))(h2:af σ 98=some (.int t))(h3:af σ 166=some (.str (bv (low+k)))) :
  aa ⟨run (n+2)⟩ B5 σ st=some (.str (a0 (R rs k) sh),st):=by
 have m1:aK .Mod (.int t) (.int 2)=some (.int ((t%2:Nat):Int)):=by
  rw[dT (by decide),Int.fmod_eq_emod_of_nonneg _ (by exact jP)];rfl
 have c1:bJ st .Eq (.int ((t%2:Nat):Int)) (.int 0)=some (decide (t%2=0)):=by
  exact(gG st _ _).trans (congrArg some (decide_eq_decide.mpr ⟨λh=>ofNat.inj h,λh=>congrArg ofNat h⟩))
 have M7:∃ s,pC s/\aG s=aG (bv (low+k))/\aa ⟨run (n+2)⟩ (.ite (.val (.cmp .Eq (.b .Mod (.l 98) (.int 2)) (.int 0))) (.sm .lower (.l 166) []) (.sm .upper (.l 166) [])) σ st=some (.str s,st):=by
  by_cases q:t%2=0
  ·rw[decide_eq_true q]at c1;exact⟨_,nJ _ (by exact dS),sS _ (by exact dS),my (bF (aj (ay h2) rfl m1) rfl c1) (gV (ay h3) rfl dk (dO (jw _ (by exact dS))))⟩
  ·rw[decide_eq_false q]at c1;exact⟨_,B3 _ (by exact dS),za _ (by exact dS),sa (bF (aj (ay h2) rfl m1) rfl c1) (gV (ay h3) rfl dk (wu (jw _ (by exact dS))))⟩
 refine cU M7 ?_;clear M7;intro s o e M7;exact eY (ay h1) (h.recv 32 rfl rfl) (P.e1 M7) (Ey (n:=n) h (zc hl) o (uz hl hk e))
end
theorem lj:∀ t:Fin 32,dY false (bj t.val)=true/\(bj t.val).length<=1000/\(bj t.val).all (·<1114112)=true:=by decide +kernel
noncomputable def jN (low:Nat)(js:List Nat):List Pr:=js.zipIdx.map λp=>(bv (low+p.1),bj p.2)
noncomputable def aT (js:List Nat)(k:Nat):List (List Nat):=(js.zipIdx.filter λp=>decide (p.1=k)).map λp=>bj p.2
theorem wY (low:Nat)(js:List Nat)(j:Nat):jN low (js++[j])=jN low js++[(bv (low+j),bj js.length)]:=by
 simp[jN,List.zipIdx_append]
theorem jx (js:List Nat)(j k:Nat):aT (js++[j]) k=aT js k++(if j=k then [bj js.length] else []):=by
 simp only[aT,List.zipIdx_append,List.filter_append,map_append];congr 1;by_cases h:j=k<;>simp[h]
theorem gt (js:List Nat)(k:Nat):(aT js k).length=js.count k:=by
 have:∀ (js:List Nat) (n:Nat),((js.zipIdx n).filter λp=>decide (p.1=k)).length=js.count k:=by
  intro js
  induction js with
  |nil=>intro n;rfl
  |cons a js ih=>
   intro n;rw[List.zipIdx_cons];by_cases h:a=k
   ·rw[filter_cons_of_pos (by simpa using h)];simp[ih,h]
   ·rw[filter_cons_of_neg (by simpa using h),count_cons_of_ne h,ih]
 rw[aT,length_map,this]
theorem ry {js:List Nat}{p:Nat×Nat}(h:p∈js.zipIdx):p.1∈js/\p.2<js.length:=by
 obtain⟨a,b⟩:=p;have:=List.mem_zipIdx h;simp at this;refine⟨?_,this.1⟩;refine av this ?_;clear this;intro h1 h2;simp only;rw[h2];exact getElem_mem _
set_option maxHeartbeats 2000000 in
theorem rz {low:Nat}(hl:low<30){js:List Nat}(hj:∀ j∈js,j<3){k:Nat}(hk:k<3):((jN low js).filter λp=>decide (aG p.1=aG (aG (bv (low+k))))).map (λp=>AV.str p.2)=(aT js k).map .str:=by
 rw[jN,List.filter_map,map_map,aT,map_map];congr 1;apply filter_congr;intro p hp;have h3:=hj _ (ry hp).1;simp only[Function.comp];rw[sS _ (by exact dS)];refine decide_eq_decide.mpr ⟨λe=>?_,λe=>by rw[e]⟩;have:=nm_inj ⟨low+p.1,by exact dS⟩ ⟨low+k,by exact dS⟩ e;simp only at this;exact le_antisymm (Q1 0x560460111541102 [_,_,_] this rfl) (Q1 0x460560112541102 [_,_,_] this rfl)
theorem B6 {low:Nat}(hl:low<30){js:List Nat}(hj:∀ j∈js,j<3)(Ko:js.length<=100):BF (jN low js):=by
 refine⟨by simp[jN];exact bN,λp hp=>?_⟩;simp only[jN,mem_map]at hp;refine ak hp ?_;clear hp;rintro x hx rfl;have h3:=hj _ (ry hx).1;exact jw _ (by exact dS)
theorem wZ (low:Nat)(js:List Nat):(jN low js).map (λp=>AV.str p.2)=(List.range js.length).map λk:Nat=>.str (bj k):=by
 have:∀ (js:List Nat) (n:Nat),(js.zipIdx n).map (λp=>AV.str (bj p.2))=(range' n js.length).map λk:Nat=>.str (bj k):=by
  intro js
  induction js with
  |nil=>intro n;rfl
  |cons a js ih=>intro n;rw[List.zipIdx_cons,map_cons,ih];rfl
 rw[jN,map_map];have:=this js 0;rw[range_eq_range'];exact this
theorem zd {js:List Nat}(h:js.length<=32)(k:Nat):∀ s∈aT js k,∀ c∈s,c<1114112:=by
 intro s hs c hc;simp only[aT,mem_map,mem_filter]at hs;refine ak hs ?_;clear hs;rintro p ⟨hp,_⟩ rfl;have h2:=(ry hp).2;have:=(lj ⟨p.2,by exact AQ⟩).2.2;simpa using (all_eq_true.mp this) c hc
structure PS (st:St)(i d l i2 d2 l2 i3 d3 l3:Nat)(t:Nat->Nat)(rv:AV)(rs:cj)(low sh:Nat)(B:dJ)(js:List Nat):Prop where
 hb:Hd st i d l (bX B)
 hk:Hd st i2 d2 l2 (iI rs low sh)
 hg:Hd st i3 d3 l3 (jN low js)
 ht:∀ k,k<3->st[t k]?=some (.list ((aT js k).map .str))
 hr:RV st rv rs
structure Ds (l l2 l3:Nat)(t:Nat->Nat)(rv:AV):Prop where
 a:l≠l2
 b:l≠l3
 c:l2≠l3
 d:∀ k,k<3->t k≠l/\t k≠l2/\t k≠l3
 e:∀ k m,k<3->m<3->t k=t m->k=m
 f:rv≠.obj l/\rv≠.obj l3/\∀ k,k<3->rv≠.obj (t k)
theorem Hd.keep {st Kd:St}{i d l:Nat}{xs:List Pr}(h:Hd st i d l xs){l':Nat}(k:Kp [l'] st Kd){ys:List AV}(hl:st[l']?=some (.list ys))(Lu:l'≠l):Hd Kd i d l xs:=by
 refine h.mono k ?_ ?_ ?_
 ·simp only[mem_singleton];rintro rfl;have:=h.a.symm.trans hl;simp at this
 ·simp only[mem_singleton];rintro rfl;have:=h.b.symm.trans hl;simp at this
 ·simp only[mem_singleton];exact λe=>Lu e.symm
section
variable {i d l i2 d2 l2 i3 d3 l3:Nat}{t:Nat->Nat}{rv:AV}{rs:cj}{low sh:Nat}{c:Int}
theorem PS.kp {st Kd:St}{B:dJ}{js:List Nat}(h:PS st i d l i2 d2 l2 i3 d3 l3 t rv rs low sh B js)(k:Kp [] st Kd):PS Kd i d l i2 d2 l2 i3 d3 l3 t rv rs low sh B js:=
 ⟨h.hb.mono k (by simp) (by simp) (by simp),h.hk.mono k (by simp) (by simp) (by simp),h.hg.mono k (by simp) (by simp) (by simp),λm hm=>k.get (h.ht m hm) (by simp),h.hr.mono k (by simp)⟩
noncomputable def Gh:List S:=[.asg (.nm 96) (.b .Add (.sub (.attr (.call 9 [.l 101]) 2) (.int 0)) (.b .Mult (.tup [.int 0]) (.int 7))),.asg (.nm 164) lg,.asg (.nm 89) wW,.iff (.and (.val (.cmp .Eq (.l 164) (.new false (.list [])))) (.val (.cmp .Eq (.l 89) (.new false (.list [.str [48,120,48]]))))) [.iff (.or (.val (.cmp .NotEq (.new false (.comp (.meth 30 (.l 111) [.sm .lower (.l 110) []]) (.nm 110) (.l 82) [] [111])) (.l 112))) (.val (.cmp .NotEq (.meth 33 (.l 111) []) (.new false (.comp (.bi .str [.l 61]) (.nm 61) (.bi .range1 [.l 98]) [] []))))) [.ret (.non)] [],.ret (.new false (.comp (.bi .len [.l 195]) (.nm 195) (.l 112) [] []))] [],.iff (.val (.cmp .NotEq (.l 89) (.new false (.comp (.sub (.l 82) (.l 61)) (.nm 61) (.l 164) [] [82])))) [.ret (.non)] [],.asg (.nm 166) Au,.expr (.call 8 [.l 101,B5,.l 103]),.expr (.meth 34 (.l 111) [.l 166,.bi .str [.l 98]]),.expr (.sm .append (.sub (.l 112) (.sm .index (.l 82) [.l 166])) [.bi .str [.l 98]])]
noncomputable def B7:List S:=[.asg (.nm 102) (.sm .join (.str []) [.new false (.comp (.call 7 [.b .Add (.l 93) (.b .Mult (.int 8) (.l 103))]) (.nm 93) (.sub (.l 90) (.l 61)) [] [103])]),.iff (.val (.isNon (.meth 34 (.l 109) [.call 18 [.b .LShift (.int 1) (.b .Add (.l 107) (.l 61))],.l 102]) true)) [.ret (.non)] []]
noncomputable def B8:List S:=[.expr (.meth 34 (.l 109) [.sm .lower (.l 110) [],.str []])]
theorem B9:HA=[.asg (.nm 82) (.new false (.comp (.call 1 [.b .Add (.l 107) (.l 61)]) (.nm 61) (.bi .range1 [.int 3]) [] [107])),.asg (.nm 109) (.call 20 [.new true (.list [])]),.for (.nm 61) (.bi .range1 [.int 3]) B7 [],.for (.nm 110) (.l 82) B8 [],.asg (.nm 111) (.call 20 [.new true (.list [])]),.asg (.nm 112) (.new false (.list [.new true (.list []),.new true (.list []),.new true (.list [])])),.for (.nm 98) (.bi .range1 [.int 31]) Gh [],.ret (.non)]:=rfl
noncomputable def fQ (low:Nat):AV:=.lst ((List.range 3).map λk=>.str (bv (low+k)))
noncomputable def ze (t:Nat->Nat):AV:=.lst [.obj (t 0),.obj (t 1),.obj (t 2)]
noncomputable def Na (i:Nat)(rv:AV)(low sh:Nat)(c:Int)(i2 i3:Nat)(t:Nat->Nat)(u v w:AV)(τ:Loc):Loc:=(101,.obj i)::(90,rv)::(107,.int low)::(103,.int sh)::(108,.int c)::(82,fQ low)::(109,.obj i2)::(61,u)::(102,v)::(110,w)::(111,.obj i3)::(112,ze t)::τ
noncomputable def Av:List Nat:=[101,90,107,103,108,82,109,61,102,110,111,112]
theorem gp {i:Nat}{rv:AV}{low sh:Nat}{c:Int}{i2 i3:Nat}{t:Nat->Nat}{u v w:AV}{τ:Loc}(x:Nat)(h:Av.all (λy=>!Nat.beq y x)=true):af (Na i rv low sh c i2 i3 t u v w τ) x=af τ x:=by
 simp only[Av,all_cons,all_nil,Bool.and_true,and_eq_true,not_eq_true']at h;obtain⟨h1,h2,h3,h4,h5,h6,h7,h8,h9,N9,PT,P5⟩:=h;simp only[Na,af,h1,h2,h3,h4,h5,h6,h7,h8,h9,N9,PT,P5,if_false,reduceCtorEq]
theorem nK {st:St}(k:Nat)(h:k<1000):gy st .str [.int k]=some (.str (bj k),st):=by
 have:(k:Int).natAbs<10^10:=by rw[natAbs_natCast];exact bN
 exact if_pos this
theorem EO {st:St}{js:List Nat}(ht:∀ k,k<3->st[t k]?=some (.list ((aT js k).map .str)))(h:js.length<=32):rO st (.lst ((List.range 3).map λk=>.lst ((aT js k).map .str))) (ze t)=some true:=by
 have v1:ba 6 st (.lst ((List.range 3).map λk=>.lst ((aT js k).map .str)))=some (.list ((List.range 3).map λk=>.list ((aT js k).map λs=>PyData.str ⟨s.toArray⟩))):=by
  simp only[ba,show List.range 3=[0,1,2] from rfl,map_cons,map_nil,aY,fP,Option.map]
 have v2:ba 6 st (ze t)=some (.list ((List.range 3).map λk=>.list ((aT js k).map λs=>PyData.str ⟨s.toArray⟩))):=by
  simp only[ze,ba,ht 0 (by decide),ht 1 (by decide),ht 2 (by decide),show List.range 3=[0,1,2] from rfl,map_cons,map_nil,aY,fP,Option.map]
 refine dA v1 v2 ?_;have e:=λk=>gq (aT js k) (zd h k);simp only[show List.range 3=[0,1,2] from rfl,map_cons,map_nil,PyData.canLay0,PyData.canLayAll0,e,Bool.and_self]
theorem EP (n:Nat){ok:Bool}{st:St}{B:dJ}{js:List Nat}(h:PS st i d l i2 d2 l2 i3 d3 l3 t rv rs low sh B js)(ho:K0 rs)(hB:lD B)(hl:low<30)(hj:∀ j∈js,j<3)(Ko:js.length<=31)(hr:lP rs B=[]){u v w:AV}{τ:Loc} :
  ∃ Kh Kd,bV ⟨run (n+3)⟩ (.nm 98) Gh (.int (js.length:Nat)) (Na i rv low sh c i2 i3 t u v w τ) st=some (.ret (.lst ((List.range 3).map λk=>.int (js.count k:Nat))),Kh,Kd)/\Kp [] st Kd/\PS Kd i d l i2 d2 l2 i3 d3 l3 t rv rs low sh B js:=by
 have X:Cx:=⟨run (n+3)⟩;have e0:∀ (σ:Loc) (st:St),bJ st .Eq (.lst (([]:List Nat).map λk:Nat=>AV.int k)) (.lst [])=some true:=λ_ st=>nw st []
 have fin:∀ (σ:Loc) (Kf:St),PS Kf i d l i2 d2 l2 i3 d3 l3 t rv rs low sh B js->af σ 164=some (.lst (([]:List Nat).map λk:Nat=>AV.int k))->af σ 89=some (.lst ((wordsOf low []).map .str))->af σ 111=some (.obj i3)->af σ 82=some (fQ low)->af σ 112=some (ze t)->af σ 98=some (.int (js.length:Nat)) ->
   xS ⟨run (n+3)⟩ (.iff (.and (.val (.cmp .Eq (.l 164) (.new false (.list [])))) (.val (.cmp .Eq (.l 89) (.new false (.list [.str [48,120,48]]))))) [.iff (.or (.val (.cmp .NotEq (.new false (.comp (.meth 30 (.l 111) [.sm .lower (.l 110) []]) (.nm 110) (.l 82) [] [111])) (.l 112))) (.val (.cmp .NotEq (.meth 33 (.l 111) []) (.new false (.comp (.bi .str [.l 61]) (.nm 61) (.bi .range1 [.l 98]) [] []))))) [.ret (.non)] [],.ret (.new false (.comp (.bi .len [.l 195]) (.nm 195) (.l 112) [] []))] []) σ Kf=some (.ret (.lst ((List.range 3).map λk=>.int (js.count k:Nat))),σ,Kf):=by
  intro σ Kf h g1 g2 g3 g4 g5 g6
  have e1:bJ Kf .Eq (.lst ((wordsOf low []).map .str)) (.lst [.str [48,120,48]])=some true:=by
   rw[show wordsOf low []=[[48,120,48]] from if_pos rfl];exact rt (st:=Kf) (l:=[[48,120,48]]) (by decide)
  refine(dN (sd (bF (ay g1) (aH (cK dk)) (e0 [] Kf)) (bF (ay g2) (aH (cK (P.e1 rfl))) e1))).trans ?_;have NI:=B6 hl hj (le_trans Ko (by decide))
  have x1:aa ⟨run (n+3)⟩ (.new false (.comp (.meth 30 (.l 111) [.sm .lower (.l 110) []]) (.nm 110) (.l 82) [] [111])) σ Kf=some (.lst ((List.range 3).map λk=>.lst ((aT js k).map .str)),Kf):=by
   refine aH (bS (ay g4) rfl (by simp) (aD (λk=>.str (bv (low+k))) (λk=>.lst ((aT js k).map .str)) rfl (List.range 3) λk hk=>?_));have MQ:=mem_range.mp hk;have:=An (n:=n+1) h.hg NI (nJ (low+k) (by exact dS));rw[rz hl hj MQ]at this;exact lC rfl (eY (gn g3 rfl (by decide)) (h.hg.recv 30 rfl rfl) (P.e1 (gV lO rfl dk (dO (jw (low+k) (by exact dS))))) this)
  have x2:aa ⟨run (n+3)⟩ (.new false (.comp (.bi .str [.l 61]) (.nm 61) (.bi .range1 [.l 98]) [] [])) σ Kf=some (.lst ((List.range js.length).map λk:Nat=>.str (bj k)),Kf):=by
   refine aH (bS (dn (P.e1 (ay g6)) (aZ _ (by exact dU))) (aL _ (by exact dU)) (by simp;exact bN) (aD (λk:Nat=>AV.int k) (λk:Nat=>.str (bj k)) rfl (List.range js.length) λk hk=>?_));have MQ:=mem_range.mp hk;exact lC rfl (dn (P.e1 lO) (nK k (by exact AR)))
  have x3:=wv (n:=n+2) h.hg NI;rw[wZ]at x3
  have n1:bJ Kf .NotEq (.lst ((List.range 3).map λk=>.lst ((aT js k).map .str))) (ze t)=some false:=by
   exact congrArg (Option.map (!·)) (EO h.ht (by exact bN))
  have n2:bJ Kf .NotEq (.lst ((List.range js.length).map λk:Nat=>.str (bj k))) (.lst ((List.range js.length).map λk:Nat=>.str (bj k)))=some false:=by
   have:((List.range js.length).map λk:Nat=>AV.str (bj k))=((List.range js.length).map λk:Nat=>bj k).map .str:=by rw[map_map];rfl
   rw[this];refine congrArg (Option.map (!·)) (rt ?_);intro s hs c hc;simp only[mem_map,mem_range]at hs;refine ak hs ?_;clear hs;rintro k hk rfl;have:=(lj ⟨k,by exact AR⟩).2.2;simpa using (all_eq_true.mp this) c hc
  refine(ae (bG (uh (bF x1 (ay g5) n1) (bF (eY (ay g3) (h.hg.recv 33 rfl rfl) dk x3) x2 n2)))).trans ?_
  have hlen3:∀ k,k<3->gy Kf .len [.obj (t k)]=some (.int (js.count k:Nat),Kf):=λk hk=>by
   have hc:js.count k<=js.length:=List.count_le_length;rw[iG (h.ht k hk) (by rw[length_map,gt];exact yo),length_map,gt]
  refine cy (sR (aH (bS (ay g5) rfl (by simp[ze]) ?_)));exact aD (λk=>AV.obj (t k)) (λk=>.int (js.count k:Nat)) rfl (List.range 3) λk hk=>lC rfl (dn (P.e1 lO) (hlen3 k (mem_range.mp hk)))
 let Ki:=Na i rv low sh c i2 i3 t u v w (ai τ 98 (.int (js.length:Nat)));let KL:=Na i rv low sh c i2 i3 t u v w (ai (ai τ 98 (.int (js.length:Nat))) 96 (.tup (cv B)));let PB:=Na i rv low sh c i2 i3 t u v w (ai (ai (ai τ 98 (.int (js.length:Nat))) 96 (.tup (cv B))) 164 (.lst (([]:List Nat).map λk:Nat=>AV.int k)));let P6:=Na i rv low sh c i2 i3 t u v w (ai (ai (ai (ai τ 98 (.int (js.length:Nat))) 96 (.tup (cv B))) 164 (.lst (([]:List Nat).map λk:Nat=>AV.int k))) 89 (.lst ((wordsOf low []).map .str)));refine ak (sP (σ:=Ki) (n+1) h.hb hB rfl) λKe x1 k1=>?_;have p1:=h.kp k1;have x2:=wU (X:=⟨run (n+3)⟩) (σ:=KL) (B:=B) p1.hr ho (cvv:=.tup (cv B)) (λk h1 h2=>wT h1 h2) rfl ((gp _ (by decide)).trans (ab _ _ _));rw[hr]at x2;refine ak (wX (σ:=PB) (st:=Ke) (js:=[]) (n+2) (.inl rfl) hl rfl ((gp _ (by decide)).trans (ab _ _ _))) λKf x3 k2=>?_;have p2:=p1.kp k2;refine⟨P6,Kf,?_,k1.trans k2,p2⟩;refine(aR (Ki:=Ki) rfl).trans ?_;refine(ae (Ki:=KL) (aE x1 rfl)).trans ?_;refine(ae (Ki:=PB) (aE x2 rfl)).trans ?_;refine(ae (Ki:=P6) (aE x3 rfl)).trans ?_;exact cy (fin P6 Kf p2 ((gp _ (by decide)).trans ((ag _ (by decide) _).trans (ab _ _ _))) ((gp _ (by decide)).trans (ab _ _ _)) rfl rfl rfl ((gp _ (by decide)).trans ((ag _ (by decide) _).trans ((ag _ (by decide) _).trans ((ag _ (by decide) _).trans (ab _ _ _))))))
end
noncomputable def jc (B:dJ)(x:Ru):dJ:=gX B x.p x.q x.r x.s
theorem Ca {st:St}{low:Nat}(hl:low<30){j:Nat}(hj:j<3):jC st .index (fQ low) [.str (bv (low+j))]=some (.int j,st):=by
 have h1:allStrs ((List.range 3).map λk=>AV.str (bv (low+k)))=some ((List.range 3).map λk=>bv (low+k)):=d9 _ _
 have h2:((List.range 3).map λk=>bv (low+k)).findIdx? (·==bv (low+j))=some j:=by
  have:j=0\/j=1\/j=2:=by exact ye
  simp only[show List.range 3=[0,1,2] from rfl,map_cons,map_nil];rcases this with rfl |rfl |rfl
  ·simp[findIdx?_cons]
  ·have h01:bv low≠bv (low+1):=ru (a:=low) (b:=low+1) (by exact bN) (by exact dU) (by exact zO);simp[findIdx?_cons,h01]
  ·have h02:bv low≠bv (low+2):=ru (a:=low) (b:=low+2) (by exact bN) (by exact IM) (by exact zO);have P5:bv (low+1)≠bv (low+2):=ru (a:=low+1) (b:=low+2) (by exact dU) (by exact IM) (by exact ne_of_lt (Q0 0x211401111114001101 [_] rfl));simp[findIdx?_cons,h02,P5]
 have h3:j<1000000:=by exact bN
 exact jW (k:=λl=>match l.findIdx? (·==bv (low+j)) with |some j=>if j<1000000 then some (AV.int j,st) else none |none=>none) h1 (by rw[h2];exact if_pos h3)
section
variable {i d l i2 d2 l2 i3 d3 l3:Nat}{t:Nat->Nat}{rv:AV}{rs:cj}{low sh:Nat}{c:Int}
theorem EQ (n:Nat){st:St}{B:dJ}{js:List Nat}(h:PS st i d l i2 d2 l2 i3 d3 l3 t rv rs low sh B js)(D:Ds l l2 l3 t rv)(ho:K0 rs)(hB:lD B)(Nk:B.length<=300)(hl:low<30)(KP:sh<5000)(hj:∀ j∈js,j<3)(Ko:js.length<=30)(hr:lP rs B≠[]){u v w:AV}{τ:Loc} :
  ∃ j∈lP rs B,∃ Kw Kd,bV ⟨run (n+3)⟩ (.nm 98) Gh (.int (js.length:Nat)) (Na i rv low sh c i2 i3 t u v w τ) st=some (.next,Na i rv low sh c i2 i3 t u v w Kw,Kd)/\Kp [l,l3,t 0,t 1,t 2] st Kd/\PS Kd i d l i2 d2 l2 i3 d3 l3 t rv rs low sh (jc B (R rs j)) (js++[j]):=by
 have NV:lP rs B∈nH:=by
  rcases wV rs B with h |h
  ·exact absurd h hr
  ·exact h
 have NW:∀ k∈lP rs B,k<3:=sT _ NV;have Od:(lP rs B).length<=3:=pO _ NV;let rd:List AV:=(lP rs B).map λk:Nat=>.int k;let ws:List AV:=(wordsOf low (lP rs B)).map .str;let KC:=ai τ 98 (.int (js.length:Nat));let KS:=ai KC 96 (.tup (cv B));let Ld:=ai KS 164 (.lst rd);let Ll:=ai Ld 89 (.lst ws);let S:=Na i rv low sh c i2 i3 t u v w;refine ak (sP (σ:=S KC) (n+1) h.hb hB rfl) λKe x1 k1=>?_;have p1:=h.kp k1;have x2:=wU (X:=⟨run (n+3)⟩) (σ:=S KS) (B:=B) p1.hr ho (cvv:=.tup (cv B)) (λk h1 h2=>wT h1 h2) rfl ((gp _ (by decide)).trans (ab _ _ _));refine ak (wX (σ:=S Ld) (st:=Ke) (js:=lP rs B) (n+2) (.inr NV) hl rfl ((gp _ (by decide)).trans (ab _ _ _))) λKf x3 k2=>?_;have p2:=p1.kp k2;have Nb:af (S Ll) 164=some (.lst rd):=(gp _ (by decide)).trans ((ag _ (by decide) _).trans (ab _ _ _));have QO:af (S Ll) 89=some (.lst ws):=(gp _ (by decide)).trans (ab _ _ _);have QP:af (S Ll) 98=some (.int (js.length:Nat)):=(gp _ (by decide)).trans ((ag _ (by decide) _).trans ((ag _ (by decide) _).trans ((ag _ (by decide) _).trans (ab _ _ _))));refine ak (EN (X:=⟨run (n+3)⟩) (σ:=S Ll) (st:=Kf) (low:=low) hr Od (t:=js.length) (by exact bN) (c:=c) QO rfl QP) λj MO x5=>?_;have LK:=NW j MO;let Ln:=ai Ll 166 (.str (bv (low+j)));have NX:af (S Ln) 166=some (.str (bv (low+j))):=(gp _ (by decide)).trans (ab _ _ _);have NY:af (S Ln) 98=some (.int (js.length:Nat)):=(gp _ (by decide)).trans ((ag _ (by decide) _).trans ((gp (i:=i) (rv:=rv) (low:=low) (sh:=sh) (c:=c) (i2:=i2) (i3:=i3) (t:=t) (u:=u) (v:=v) (w:=w) _ (by decide)).symm.trans QP))
 have e1:bJ Kf .Eq (.lst rd) (.lst [])=some false:=by
  have:rd=((lP rs B).map λk:Nat=>(k:Int)).map .int:=by simp only[rd,map_map];rfl
  rw[bJ,this,nw];congr 1;simp[hr]
 have y1:xS ⟨run (n+3)⟩ (.iff (.and (.val (.cmp .Eq (.l 164) (.new false (.list [])))) (.val (.cmp .Eq (.l 89) (.new false (.list [.str [48,120,48]]))))) [.iff (.or (.val (.cmp .NotEq (.new false (.comp (.meth 30 (.l 111) [.sm .lower (.l 110) []]) (.nm 110) (.l 82) [] [111])) (.l 112))) (.val (.cmp .NotEq (.meth 33 (.l 111) []) (.new false (.comp (.bi .str [.l 61]) (.nm 61) (.bi .range1 [.l 98]) [] []))))) [.ret (.non)] [],.ret (.new false (.comp (.bi .len [.l 195]) (.nm 195) (.l 112) [] []))] []) (S Ll) Kf=some (.next,S Ll,Kf):=
  bG (wb (bF (ay Nb) (aH (cK dk)) e1))
 have hws:ws=(lP rs B).map λk=>.str (bv (low+k)):=by
  simp only[ws,wordsOf,if_neg hr,map_map];rfl
 have hnm:∀ k:Nat,k<3->cB Kf (fQ low) (.int k)=some (.str (bv (low+k))):=λk hk=>by
  have:k=0\/k=1\/k=2:=by exact ye
  rcases this with rfl |rfl |rfl<;>rfl
 have y2:xS ⟨run (n+3)⟩ (.iff (.val (.cmp .NotEq (.l 89) (.new false (.comp (.sub (.l 82) (.l 61)) (.nm 61) (.l 164) [] [82])))) [.ret (.non)] []) (S Ll) Kf=some (.next,S Ll,Kf):=by
  refine bG (bF (ay QO) (aH (bS (ay Nb) rfl (by simp only[rd,length_map];exact bN) (aD (λk:Nat=>AV.int k) (λk=>.str (bv (low+k))) rfl (lP rs B) λk hk=>lC rfl (bW (gn (v:=fQ low) rfl rfl (by decide)) lO (hnm k (NW k hk)))))) ?_);rw[bJ,← hws];refine(congrArg _ (rt ?_)).trans rfl;intro s hs cc hc;rw[wordsOf,if_neg hr]at hs;simp only[mem_map]at hs;refine ak hs ?_;clear hs;rintro k hk rfl;have:=NW k hk;exact nm_lt _ (by exact dS) cc hc
 have hR:=(ho.get LK).1
 have hq:(R rs j).q<=cnt B (R rs j).p:=by
  have:=MO;simp only[lP,mem_filter,decide_eq_true_eq]at this;exact this.2
 have x6:=HZ (σ:=S Ln) (st:=Kf) (rs:=rs) (sh:=sh) (n+1) p2.hk hl LK rfl NY NX;refine cU (HR n p2.hb hB Nk (sh:=sh) hR.1 hR.2.1 (le_trans hR.2.2.1.2 (by decide)) (le_trans hR.2.2.2.2 (by decide)) KP hq) λKJ x7 k3 h3=>?_;have NJ:∃ ys,Kf[l]?=some (.list ys):=⟨_,p2.hb.c⟩;refine aw NJ ?_;clear NJ;intro ys QQ;have kk3:=p2.hk.keep k3 QQ D.a;have Pn:=p2.hg.keep k3 QQ D.b;have kt3:∀ k,k<3->KJ[t k]?=some (.list ((aT js k).map .str)):=λk hk=>k3.get (p2.ht k hk) (by simp;exact(D.d k hk).1);have kr3:=p2.hr.mono k3 (by simp;exact D.f.1)
 have ev1:xS ⟨run (n+3)⟩ (.expr (.call 8 [.l 101,B5,.l 103])) (S Ln) Kf=some (.next,S Ln,KJ):=
  eG (be (e3 rfl x6 rfl) x7) rfl
 have QR:=lj ⟨js.length,by exact dU⟩;refine cU (sy (n+1) Pn (by simp[jN];exact bN) (k:=bv (low+j)) (v:=bj (js.length:Nat)) (jw _ (by exact dS)) QR.1 QR.2.1) λLM x8 k4 h4=>?_;rw[← wY]at h4
 have ev2:xS ⟨run (n+3)⟩ (.expr (.meth 34 (.l 111) [.l 166,.bi .str [.l 98]])) (S Ln) KJ=some (.next,S Ln,LM):=
  eG (eY rfl (Pn.recv 34 rfl rfl) (e2 (ay NX) (dn (P.e1 (ay NY)) (nK _ (by exact dU)))) x8) rfl
 have kb4:=h3.keep k4 Pn.c (λe=>D.b e.symm);have kk4:=kk3.keep k4 Pn.c (λe=>D.c e.symm);have NZ:∀ k,k<3->LM[t k]?=some (.list ((aT js k).map .str)):=λk hk=>k4.get (kt3 k hk) (by simp;exact(D.d k hk).2.2);have kr4:=kr3.mono k4 (by simp;exact D.f.2.1)
 have a5:jC LM .append (.obj (t j)) [.str (bj (js.length:Nat))]=some (.none,LM.set (t j) (.list ((aT (js++[j]) j).map .str))):=by
  have hc:js.count j<=js.length:=List.count_le_length;rw[cY (NZ j LK) (by rw[length_map,gt];exact Dq),jx,if_pos rfl,map_append];rfl
 let NH:St:=LM.set (t j) (.list ((aT (js++[j]) j).map .str))
 have sb:∀ k:Nat,k<3->cB LM (ze t) (.int k)=some (.obj (t k)):=λk hk=>by
  have:k=0\/k=1\/k=2:=by exact ye
  rcases this with rfl |rfl |rfl<;>rfl
 have ev3:xS ⟨run (n+3)⟩ (.expr (.sm .append (.sub (.l 112) (.sm .index (.l 82) [.l 166])) [.bi .str [.l 98]])) (S Ln) LM=some (.next,S Ln,NH):=
  eG (gV (bW rfl (gV rfl rfl (P.e1 (ay NX)) (Ca hl LK)) (sb j LK)) (cS (NZ j LK)) (P.e1 (dn (P.e1 (ay NY)) (nK _ (by exact dU)))) a5) rfl
 have k5:Kp [t j] LM NH:=Kp.set (by simp) _ _;refine⟨j,MO,Ln,NH,?_,?_,?_⟩
 ·refine(aR (Ki:=S KC) rfl).trans ?_;refine(ae (Ki:=S KS) (aE x1 rfl)).trans ?_;refine(ae (Ki:=S Ld) (aE x2 rfl)).trans ?_;refine(ae (Ki:=S Ll) (aE x3 rfl)).trans ?_;refine(ae y1).trans ?_;refine(ae y2).trans ?_;refine(ae (Ki:=S Ln) (aE x5 rfl)).trans ?_;refine(ae ev1).trans ?_;refine(ae ev2).trans ?_;exact(ae ev3).trans bB
 ·have hm:∀ k,k<3->t k∈[l,l3,t 0,t 1,t 2]:=λk hk=>by
   have:k=0\/k=1\/k=2:=by exact ye
   rcases this with rfl |rfl |rfl<;>simp
  refine(k1.more (by simp)).trans ((k2.more (by simp)).trans ((k3.more (by simp)).trans ((k4.more (by simp)).trans (k5.more ?_))));intro x hx _;rw[mem_singleton]at hx;rw[hx];exact hm j LK
 ·refine⟨kb4.keep k5 (NZ j LK) (D.d j LK).1,kk4.keep k5 (NZ j LK) (D.d j LK).2.1,h4.keep k5 (NZ j LK) (D.d j LK).2.2,λk hk=>?_,kr4.mono k5 (by simp;exact D.f.2.2 j LK)⟩;by_cases q:k=j
  ·subst q;exact getElem?_set_self (al (NZ k hk))
  ·rw[k5.get (NZ k hk) (by simp;exact λe=>q (D.e k j hk LK e)),jx,if_neg (λe=>q e.symm),append_nil]
noncomputable def dP (B:dJ):List Nat:=(List.range 7).map (cnt B)
noncomputable def gS (c:List Nat)(x:Ru):List Nat:=(List.range 7).map λk=>(if k=x.p then c.getD x.p 0-x.q else c.getD k 0)+(if k=x.r then x.s else 0)
noncomputable def cO (rs:cj)(c:List Nat):List Nat:=(List.range 3).filter λk=>decide ((R rs k).q<=c.getD (R rs k).p 0)
noncomputable def lk (rs:cj)(e v:List Nat):Nat->List Nat->List Nat->Bool
 |0,_,_=>false
 |f+1,c,u=>if cO rs c=[] then c==e&&u==v else (cO rs c).all λk=>lk rs e v f (gS c (R rs k)) (u.set k (u.getD k 0+1))
theorem gw (B:dJ){k:Nat}(h:k<7):(dP B).getD k 0=cnt B k:=by
 rw[dP,getD_eq_getElem?_getD,getElem?_map,getElem?_range h];rfl
theorem rA (B:dJ){x:Ru}(hx:C4 x):dP (jc B x)=gS (dP B) x:=by
 rw[dP,gS];apply map_congr_left;intro k hk;have P7:=mem_range.mp hk;rw[jc,ux,gw B P7,gw B (by have:=hx.1.2;exact dU)]
theorem w6 {rs:cj}(ho:K0 rs)(B:dJ):cO rs (dP B)=lP rs B:=by
 apply filter_congr;intro k hk;have hR:=(ho.get (mem_range.mp hk)).1;rw[gw B (by have:=hR.1.2;exact dU)]
noncomputable def gY (js:List Nat):List Nat:=(List.range 3).map λk=>js.count k
theorem uB (js:List Nat){j:Nat}(hj:j<3):gY (js++[j])=(gY js).set j ((gY js).getD j 0+1):=by
 have:j=0\/j=1\/j=2:=by exact ye
 rcases this with rfl |rfl |rfl<;>simp[gY,show List.range 3=[0,1,2] from rfl]
theorem ER {ok:St->Bool}(hk:∀ st,ok st=true)(n:Nat)(D:Ds l l2 l3 t rv)(ho:K0 rs)(hl:low<30)(KP:sh<5000)(e v:List Nat){uu vv ww:AV}:∀ (f:Nat) (st:St) (B:dJ) (js:List Nat) (τ:Loc),PS st i d l i2 d2 l2 i3 d3 l3 t rv rs low sh B js->lD B->B.length+6*f<=300->(∀ j∈js,j<3)->js.length+f=31->lk rs e v f (dP B) (gY js)=true ->
  ∃ Kh Kd B',bc ok (bV ⟨run (n+3)⟩ (.nm 98) Gh) ((range' js.length f).map λk:Nat=>AV.int k) (Na i rv low sh c i2 i3 t uu vv ww τ) st=some (.ret (.lst (v.map λk:Nat=>.int k)),Kh,Kd)/\Kp [l,l3,t 0,t 1,t 2] st Kd/\Hd Kd i d l (bX B')/\lD B'/\dP B'=e/\B'.length<=300:=by
 intro f
 induction f with
 |zero=>
  intro st B js τ h hB Nk hj Ko hg;exact absurd hg Ly
 |succ f ih=>
  intro st B js τ h hB Nk hj Ko hg;rw[show lk rs e v (f+1) (dP B) (gY js)=if cO rs (dP B)=[] then dP B==e&&gY js==v else (cO rs (dP B)).all λk=>lk rs e v f (gS (dP B) (R rs k)) ((gY js).set k ((gY js).getD k 0+1)) from rfl,w6 ho]at hg;rw[range'_succ,map_cons];by_cases q:lP rs B=[]
  ·rw[if_pos q]at hg;simp only[and_eq_true,beq_iff_eq]at hg;refine cP (EP (c:=c) (ok:=true) n h ho hB hl hj (by exact Q1 0x1f2111150401111f2141102 [_,_] Ko rfl) q (u:=uu) (v:=vv) (w:=ww) (τ:=τ)) λKh Kd x k p=>?_;refine⟨Kh,Kd,B,?_,k.more (by simp),p.hb,hB,hg.1,by exact uI⟩;rw[← hg.2,gY,map_map];exact Bs (hk _) x
  ·rw[if_neg q]at hg;obtain⟨j,MO,Kw,Ke,x,k,p⟩:=EQ (c:=c) n h D ho hB (by exact uI) hl KP hj (by exact Q1 0x1f2111150401111e2141102 [_,_] Ko rfl) q (u:=uu) (v:=vv) (w:=ww) (τ:=τ)
   have LK:j<3:=by
    have:=MO;simp only[lP,mem_filter,mem_range]at this;exact this.1
   have hR:=(ho.get LK).1
   have hq:(R rs j).q<=cnt B (R rs j).p:=by
    have:=MO;simp only[lP,mem_filter,decide_eq_true_eq]at this;exact this.2
   have NK:=uw B (R rs j).p (R rs j).q (R rs j).r (R rs j).s hq;have QS:=hR.2.2.2.2;have QT:=(all_eq_true.mp hg) j MO;rw[← rA B hR,← uB js LK]at QT;have hB2:lD (jc B (R rs j)):=uv hB hR.1 hR.2.1 (by exact Q2 0x611511012c3111160612401103e8315401103 [_,_,_] Nk QS rfl)
   obtain⟨Kh,Kd,B',x',k',Nl,P8,Ny,MU⟩:=ih Ke (jc B (R rs j)) (js++[j]) Kw p hB2 (by simp only[jc]at NK ⊢;exact Q3 0x611811086074011112c31111506126011012c315612401104 [_,_,_,_,_] Nk NK QS rfl) (λm hm=>by
    simp only[mem_append,mem_singleton]at hm;rcases hm with hm |rfl
    ·exact hj m hm
    ·exact LK) (by simp;exact le_antisymm (Q1 0x1f2111150401111f2151114001102 [_,_] Ko rfl) (Q1 0x1f21111504011251114001f211102 [_,_] Ko rfl)) QT
   rw[length_append,length_singleton]at x';exact⟨Kh,Kd,B',(bR (hk _) x).trans x',k.trans k',Nl,P8,Ny,MU⟩
end
theorem zf {X:Cx}{σ:Loc}{st Ke:St}{e:E}(h:aa X e σ st=some (.none,Ke))(b:Bool):aa X (.isNon e b) σ st=some (.bool (true != b),Ke):=jE h rfl
theorem w8 (n:Nat)(σ:Loc)(st:St):∃ Kd,aa ⟨run (n+1)⟩ (.call 20 [.new true (.list [])]) σ st=some (.obj (st.length+2),Kd)/\Kp [] st Kd/\Hd Kd (st.length+2) (st.length+1) st.length []/\Kd.length=st.length+3:=by
 refine yh (Ez n st.length (st++[AO.list []]) (aS st _)) λKd e k h hl=>?_;have l1:(st++[AO.list []]).length=st.length+1:=by simp
 rw[l1]at e h hl;exact⟨Kd,be (P.e1 (eH (cK dk))) e,(Kp.app _ _ _).trans k,h,hl⟩
section
variable {i d l i2 d2 l2:Nat}{rv:AV}{rs:cj}{low sh:Nat}{c:Int}
noncomputable def Mp (i:Nat)(rv:AV)(low sh:Nat)(c:Int)(i2:Nat)(τ:Loc):Loc:=(101,.obj i)::(90,rv)::(107,.int low)::(103,.int sh)::(108,.int c)::(82,fQ low)::(109,.obj i2)::τ
theorem gb {τ:Loc}(x:Nat)(h:([101,90,107,103,108,82,109]:List Nat).all (λy=>!Nat.beq y x)=true):af (Mp i rv low sh c i2 τ) x=af τ x:=by
 simp only[all_cons,all_nil,Bool.and_true,and_eq_true,not_eq_true']at h;refine GM h ?_;clear h;intro h1 h2 h3 h4 h5 h6 h7;simp only[Mp,af,h1,h2,h3,h4,h5,h6,h7,if_false,reduceCtorEq]
theorem H0 (n:Nat){k:Nat}(hk:k<3){xs:List Pr}(Np:xs.length<=100){st:St}(hr:RV st rv rs)(ho:K0 rs)(h:Hd st i2 d2 l2 xs)(hl:low<30)(KP:sh<5000)(τ:Loc) :
  ∃ Kd,bV ⟨run (n+3)⟩ (.nm 61) B7 (.int k) (Mp i rv low sh c i2 τ) st=some (.next,Mp i rv low sh c i2 (ai (ai τ 61 (.int k)) 102 (.str (a0 (R rs k) sh))),Kd)/\Kp [l2] st Kd/\Hd Kd i2 d2 l2 (xs++[(bv (low+k),a0 (R rs k) sh)]):=by
 let Ki:=Mp i rv low sh c i2 (ai τ 61 (.int k));let KL:=Mp i rv low sh c i2 (ai (ai τ 61 (.int k)) 102 (.str (a0 (R rs k) sh)));have Nm:af Ki 61=some (.int k):=(gb _ (by decide)).trans (ab _ _ _);have g61':af KL 61=some (.int k):=(gb _ (by decide)).trans ((ag _ (by decide) _).trans (ab _ _ _));have g102:af KL 102=some (.str (a0 (R rs k) sh)):=(gb _ (by decide)).trans (ab _ _ _);have x1:=EL (σ:=Ki) (n+1) hk hr ho rfl Nm rfl KP;refine ak (EM (σ:=KL) (st:=st) (low:=low) (n+2) hk rfl g61' hl) λKe x2 k1=>?_;have bt:=uA (ho.get hk).1 KP;refine cU (sy (n+1) (h.mono k1 (by simp) (by simp) (by simp)) (by exact bN) (k:=bv (low+k)) (jw _ (by exact dS)) bt.1 bt.2) λKf x3 k2 h2=>?_;refine⟨Kf,?_,(k1.more (by simp)).trans k2,h2⟩;refine(aR (Ki:=Ki) rfl).trans ((ae (Ki:=KL) (aE x1 rfl)).trans ((ae (bG (fh (zf (eY rfl (h.recv 34 rfl rfl) (e2 x2 (ay g102)) x3) true) rfl))).trans bB))
theorem H1 (n:Nat){k:Nat}(hk:k<3){xs:List Pr}(Np:xs.length<=100){st:St}(h:Hd st i2 d2 l2 xs)(hl:low<30)(τ:Loc) :
  ∃ Kd,bV ⟨run (n+3)⟩ (.nm 110) B8 (.str (bv (low+k))) (Mp i rv low sh c i2 τ) st=some (.next,Mp i rv low sh c i2 (ai τ 110 (.str (bv (low+k)))),Kd)/\Kp [l2] st Kd/\Hd Kd i2 d2 l2 (xs++[(aG (bv (low+k)),[])]):=by
 let Ki:=Mp i rv low sh c i2 (ai τ 110 (.str (bv (low+k))));have g:af Ki 110=some (.str (bv (low+k))):=(gb _ (by decide)).trans (ab _ _ _);refine cU (sy (n+1) h (by exact bN) (k:=aG (bv (low+k))) (v:=[]) (nJ _ (by exact dS)) (by decide) (by decide)) λKf x3 k2 h2=>?_;refine⟨Kf,?_,k2,h2⟩;exact(aR (Ki:=Ki) rfl).trans ((ae (eG (eY rfl (h.recv 34 rfl rfl) (e2 (gV (ay g) rfl dk (dO (jw _ (by exact dS)))) rfl) x3) rfl)).trans bB)
theorem Cb (n:Nat)(a:List AV)(st:St):run (n+1) 10 a st=bE (run n) [101,90,107,103,108] HA a st:=rfl
theorem Aw (n:Nat){B:dJ}{st:St}(h:Hd st i d l (bX B))(hr:RV st rv rs)(Od:rv≠.obj l)(ho:K0 rs)(hB:lD B)(Nk:B.length<=100)(hl:low<30)(KP:sh<5000){e v:List Nat}(hg:lk rs e v 31 (dP B) [0,0,0]=true) :
  ∃ Kd B',run (n+4) 10 [.obj i,rv,.int low,.int sh,.int c] st=some (.lst (v.map λk:Nat=>.int k),Kd)/\Kp [l] st Kd/\Hd Kd i d l (bX B')/\lD B'/\dP B'=e/\B'.length<=300:=by
 let X:Cx:=⟨run (n+3)⟩;let m0:=st.length;let K4:Loc:=[(101,.obj i),(90,rv),(107,.int low),(103,.int sh),(108,.int c)];have P9:l<m0:=al h.c;have x1:aa X (.new false (.comp (.call 1 [.b .Add (.l 107) (.l 61)]) (.nm 61) (.bi .range1 [.int 3]) [] [107])) K4 st=some (fQ low,st):=BY (n+2) rfl hl;let Ki:Loc:=[(101,.obj i),(90,rv),(107,.int low),(103,.int sh),(108,.int c),(82,fQ low)];refine yh (w8 (n+2) Ki st) λs1 x2 k1 M8 Pm=>?_;refine cU (H0 (i:=i) (c:=c) n (k:=0) (by decide) (by decide) (hr.mono k1 (by simp)) ho M8 hl KP []) λs2 y0 k2 Po=>?_
 have r2:RV s2 rv rs:=(hr.mono k1 (by simp)).mono k2 (by
  intro j hj e;rw[mem_singleton]at hj;subst hj;rcases hr with rfl |⟨j,rfl,e2⟩
  ·simp at e
  ·have:=al e2;simp at e;exact not_succ_le_zero 0 (Q2 0x54112511140110011111103 [_,_] this e rfl))
 have Pp:∀ j,m0<=j->rv≠.obj j:=by
  intro j hj e;rcases hr with rfl |⟨m,rfl,e2⟩
  ·simp at e
  ·have:=al e2;simp at e;simp only[m0]at hj;exact not_succ_le_zero 0 (Q3 0x5611241116011054110011111104 [_,_,_] hj this e rfl)
 refine cU (H0 (i:=i) (c:=c) n (k:=1) (by decide) (by simp) r2 ho Po hl KP (ai (ai [] 61 (.int (0:Nat))) 102 (.str (a0 (R rs 0) sh)))) λs3 y1 k3 MQ=>?_;have r3:RV s3 rv rs:=r2.mono k3 (by simp;exact Pp _ (le_refl _));refine cU (H0 (i:=i) (c:=c) n (k:=2) (by decide) (by simp) r3 ho MQ hl KP (ai (ai (ai (ai [] 61 (.int (0:Nat))) 102 (.str (a0 (R rs 0) sh))) 61 (.int (1:Nat))) 102 (.str (a0 (R rs 1) sh)))) λs4 y2 k4 hk4=>?_;let Ll:Loc:=[(61,.int (2:Nat)),(102,.str (a0 (R rs 2) sh))]
 have lp1:xS X (.for (.nm 61) (.bi .range1 [.int 3]) B7 []) (Mp i rv low sh c (m0+2) []) s1=some (.next,Mp i rv low sh c (m0+2) Ll,s4):=by
  refine fp (dn (P.e1 rfl) (aZ 3 (by decide))) (aL 3 (by decide)) ?_;exact(bR rfl y0).trans ((bR rfl y1).trans ((bR rfl y2).trans (hZ rfl)))
 refine cU (H1 (i:=i) (rv:=rv) (sh:=sh) (c:=c) n (k:=0) (by decide) (by simp) hk4 hl Ll) λs5 z0 k5 Pq=>?_;refine cU (H1 (i:=i) (rv:=rv) (sh:=sh) (c:=c) n (k:=1) (by decide) (by simp) Pq hl (ai Ll 110 (.str (bv (low+0))))) λs6 z1 k6 hk6=>?_;refine cU (H1 (i:=i) (rv:=rv) (sh:=sh) (c:=c) n (k:=2) (by decide) (by simp) hk6 hl (ai (ai Ll 110 (.str (bv (low+0)))) 110 (.str (bv (low+1))))) λs7 z2 k7 P7=>?_;let Oc:Loc:=[(61,.int (2:Nat)),(102,.str (a0 (R rs 2) sh)),(110,.str (bv (low+2)))]
 have lp2:xS X (.for (.nm 110) (.l 82) B8 []) (Mp i rv low sh c (m0+2) Ll) s4=some (.next,Mp i rv low sh c (m0+2) Oc,s7):=by
  refine fp (v:=fQ low) rfl rfl ?_;exact(bR rfl z0).trans ((bR rfl z1).trans ((bR rfl z2).trans (hZ rfl)))
 have hbook:Hd s7 (m0+2) (m0+1) m0 (iI rs low sh):=by
  simpa [iI,show List.range 3=[0,1,2] from rfl] using P7
 refine yh (w8 (n+2) (Mp i rv low sh c (m0+2) Oc) s7) λs8 x8 k8 hk8 NL=>?_;let l3:=s7.length;let t:Nat->Nat:=λk=>s8.length+k;let s9:St:=((s8++[AO.list []])++[AO.list []])++[AO.list []]
 have x9:aa X (.new false (.list [.new true (.list []),.new true (.list []),.new true (.list [])])) (Mp i rv low sh c (m0+2) (ai Oc 111 (.obj (s7.length+2)))) s8=some (ze t,s9):=by
  refine aH (cK (e3 (Ke:=s8++[AO.list []]) (Kf:=(s8++[AO.list []])++[AO.list []]) (eH (cK dk)) ?_ ?_))
  ·rw[show t 1=(s8++[AO.list []]).length by simp[t]];exact eH (cK dk)
  ·rw[show t 2=((s8++[AO.list []])++[AO.list []]).length by simp[t]];exact eH (cK dk)
 have k9:Kp [] s8 s9:=((Kp.app [] s8 _).trans (Kp.app [] _ _)).trans (Kp.app [] _ _);have OM:Kp [m0] s1 s7:=k2.trans (k3.trans (k4.trans (k5.trans (k6.trans k7))));have k07:Kp [m0] st s7:=(k1.more (by simp)).trans OM;have Oe:Kp [m0] st s9:=k07.trans ((k8.more (by simp)).trans (k9.more (by simp)));have Nz:m0+3<=l3:=by have:=OM.1;simp only[l3];exact Q2 0x561103114061125311401103 [_,_,_] Pm this rfl
 have hm8:s8.length=l3+3:=NL
 have w9:∀ k,k<3->s9[t k]?=some (.list ((aT [] k).map .str)):=by
  intro k hk;have:k=0\/k=1\/k=2:=by exact ye
  show(((s8++[AO.list []])++[AO.list []])++[AO.list []])[s8.length+k]?=some (.list []);rcases this with rfl |rfl |rfl<;>simp[getElem?_append]
 have hstart:PS s9 i d l (m0+2) (m0+1) m0 (l3+2) (l3+1) l3 t rv rs low sh B []:=by
  have di:∀ x,x<m0->x∉[m0]:=λx hx=>by simp;exact Dm
  refine⟨h.mono Oe (di _ (al h.a)) (di _ (al h.b)) (di _ P9),?_,?_,w9,hr.mono Oe (by simp;exact Pp _ (le_refl _))⟩
  ·exact(hbook.mono k8 (by simp) (by simp) (by simp)).mono k9 (by simp) (by simp) (by simp)
  ·exact hk8.mono k9 (by simp) (by simp) (by simp)
 have D:Ds l m0 l3 t rv:=by
  refine⟨by exact Dm,by exact ne_of_lt (Q2 0x5311601106111401105111401103 [_,_,_] P9 Nz rfl),by exact ne_of_lt (Q1 0x5311401105111401102 [_,_] Nz rfl),λk hk=>⟨by simp only[t];exact ne_of_gt (Q3 0x831170110311805112711140110650111401104 [_,_,_,_,_] P9 NL Nz rfl),by simp only[t];exact ne_of_gt (Q2 0x731140110311705112650111401103 [_,_,_,_] NL Nz rfl),by simp only[t];exact ne_of_gt (Q1 0x311405112650111401102 [_,_,_] NL rfl)⟩,λk m _ _ e=>by simp only[t]at e;exact le_antisymm (Q1 0x560460111541102 [_,_,_] e rfl) (Q1 0x460560112541102 [_,_,_] e rfl),Od,Pp _ (by exact uI),λk hk=>Pp _ (by simp only[t];exact Q2 0x73114011031170511265041103 [_,_,_,_] NL Nz rfl)⟩
 refine uO (ER (c:=c) (ok:=λst=>an st (.rng 0 (31:Nat)) ((List.range 31).map λk:Nat=>AV.int k)) (λ_=>rfl) n D ho hl KP e v (uu:=.int (2:Nat)) (vv:=.str (a0 (R rs 2) sh)) (ww:=.str (bv (low+2))) 31 s9 B [] [] hstart hB (by exact JC) (by simp) (by simp) hg) λKh Kd B' xl kl Nl P8 Ny MU=>?_;refine⟨Kd,B',?_,?_,Nl,P8,Ny,MU⟩
 ·rw[Cb,B9];refine bT (σ:=K4) (Ki:=Kh) rfl ?_;refine(ae (Ki:=Ki) (aE x1 rfl)).trans ?_;refine(ae (Ki:=Mp i rv low sh c (m0+2) []) (aE x2 rfl)).trans ?_;refine(ae lp1).trans ?_;refine(ae lp2).trans ?_;refine(ae (aE x8 rfl)).trans ?_;refine(ae (aE x9 rfl)).trans ?_
  exact cy (wa (dn (P.e1 rfl) (aZ 31 (by decide))) (aL 31 (by decide)) (by
   rw[range_eq_range'];exact xl))
 ·have a:=Oe.more (V:=[l]) (by simp;lia);have hs9:m0<=s9.length:=Oe.1;refine⟨le_trans Oe.1 kl.1,λj hj QU=>?_⟩;rw[kl.2 j (lt_of_lt_of_le hj hs9) ?_,Oe.2 j hj (by simp;exact Dm)];simp only[mem_cons,not_mem_nil,or_false,not_or,t]at QU ⊢;refine⟨QU,by exact ne_of_lt (Q2 0x6111401105311601105111401103 [_,_,_] Nz hj rfl),by exact ne_of_lt (Q3 0x7111401106311701103116051120150111401104 [_,_,_,_] NL Nz hj rfl),by exact ne_of_lt (Q3 0x71114011063117011031160511211150111401104 [_,_,_,_] NL Nz hj rfl),by exact ne_of_lt (Q3 0x71114011063117011031160511221150111401104 [_,_,_,_] NL Nz hj rfl)⟩
end
theorem RV.items {st:St}{rv:AV}{rs:cj}(h:RV st rv rs):aF st rv=some (rs.map aV):=by
 rcases h with rfl |⟨j,rfl,e⟩
 ·rfl
 ·simp only[aF,listAt,e]
theorem RV.stands {st:St}{rv:AV}{rs:cj}(h:RV st rv rs):an st rv (rs.map aV)=true:=by
 rcases h with rfl |⟨j,rfl,e⟩
 ·rfl
 ·exact stands_obj e
noncomputable def mE (z:Nat)(rs:cj):List Int:=(rs.filter λx=>decide (x.r=z)).map (λx=>(x.s:Int)-1)++[(9:Int).fdiv z]
noncomputable def dB (z:Nat)(rs:cj):Int:=(nY (mE z rs)).getD 0
theorem mF:∀ (l:List Int),l≠[]->∃ m,nY l=some m
 |[],h=>absurd rfl h
 |[x],_=>⟨x,rfl⟩
 |x::y::r,_=>by
  refine aw (mF (y::r) (by simp)) λm e=>?_;exact⟨_,by rw[nY,e];rfl⟩
theorem xa (z:Nat)(rs:cj):nY (mE z rs)=some (dB z rs):=by
 refine aw (mF (mE z rs) (by simp[mE])) λm e=>?_;rw[dB,e];rfl
theorem ES (n:Nat)(a:List AV)(st:St):run (n+1) 3 a st=bE (run n) [92,90] b3 a st:=rfl
theorem Cc (n:Nat){st:St}{rv:AV}{rs:cj}(h:RV st rv rs)(hl:rs.length<=1000){z:Nat}(hz:1<=z/\z<=9):run (n+1) 3 [.int z,rv] st=some (.int (dB z rs),st):=by
 rw[ES]
 have d1:aK .FloorDiv (.int 9) (.int z)=some (.int ((9:Int).fdiv z)):=by
  exact fM ⟨by exact Dt,kV (by rw[natAbs_natCast];exact mO)⟩
 have c1:dt ⟨run n⟩ (.comp (.b .Sub (.l 163) (.int 1)) (.tup [91,80,75,163]) (.l 90) [.val (.cmp .Eq (.l 75) (.l 92))] [92]) [(92,.int z),(90,rv)] st=some ((rs.filter λx=>decide (x.r=z)).map λx=>.int ((x.s:Int)-1),st):=by
  refine bS rfl h.items (by rw[length_map];exact bN) (bK (λx:Ru=>decide (x.r=z)) aV (λx=>.int ((x.s:Int)-1)) h.stands rs λx _=>?_)
  have e:bJ st .Eq (.int x.r) (.int z)=some (decide (x.r=z)):=by
   rw[bJ,gG];congr 1;simp;lia
  by_cases q:x.r=z
  ·rw[decide_eq_true q]at e ⊢;exact C1 (Ki:=[(92,.int z),(91,.int x.p),(80,.int x.q),(75,.int x.r),(163,.int x.s)]) rfl (uJ (bF rfl rfl e)) rfl
  ·rw[decide_eq_false q]at e ⊢;exact C3 (Ki:=[(92,.int z),(91,.int x.p),(80,.int x.q),(75,.int x.r),(163,.int x.s)]) rfl (uJ (bF rfl rfl e))
 have Ko:((rs.filter λx=>decide (x.r=z)).map λx:Ru=>AV.int ((x.s:Int)-1)).length<=1000:=by
  rw[length_map];exact le_trans (length_filter_le _ _) hl
 have b1:gy st .min [.lst (((rs.filter λx=>decide (x.r=z)).map λx:Ru=>AV.int ((x.s:Int)-1))++[.int ((9:Int).fdiv z)])]=some (.int (dB z rs),st):=by
  have:((rs.filter λx=>decide (x.r=z)).map λx:Ru=>AV.int ((x.s:Int)-1))++[.int ((9:Int).fdiv z)]=(mE z rs).map .int:=by
   simp only[mE,map_append,map_map];rfl
  rw[this];exact jI (allInts_map _) (congrArg (Option.map λm:Int=>(AV.int m,st)) (xa z rs))
 exact bT rfl (cy (sR (dn (P.e1 (aH (wc (aH c1) (aH (cK (P.e1 (aj rfl rfl d1)))) rfl rfl (by simp at Ko ⊢;exact bN)))) b1)))
theorem ET (n:Nat)(a:List AV)(st:St):run (n+1) 0 a st=bE (run n) [86] b0 a st:=rfl
noncomputable def w0:List S:=[.augI (.l 87) (.b .Mod (.l 61) (.int 5)) .Add (.sub (.l 86) (.l 61))]
theorem EU:b0=[.asg (.nm 87) (.new true (.list [.int 0,.int 6,.int 6,.int 4,.int 5])),.for (.nm 61) (.bi .range1 [.bi .len [.l 86]]) w0 [],.ret (.l 87)]:=rfl
theorem l0 (n:Nat)(l:List Int)(hl:l.length<=1000)(st:St){ok:St->Bool}(hk:∀ st,ok st=true):∀ (ks:List Nat) (cs:List Int) (τ:Loc),(∀ k∈ks,k<l.length)->cs.length=5 ->
  ∃ (MF:List Int) (Kw:Loc),MF.length=5/\bc ok (bV ⟨run n⟩ (.nm 61) w0) (ks.map λk:Nat=>AV.int k) ((86,.lst (l.map .int))::(87,.obj st.length)::τ) (st++[.list (cs.map .int)])=some (.next,(86,.lst (l.map .int))::(87,.obj st.length)::Kw,st++[.list (MF.map .int)]):=by
 intro ks
 induction ks with
 |nil=>
  intro cs τ _ hc;exact⟨cs,τ,hc,hZ (hk _)⟩
 |cons k ks ih=>
  intro cs τ QV hc;have M8:=QV k (by simp);have g:(st++[AO.list (cs.map .int)])[st.length]?=some (.list (cs.map .int)):=aS _ _
  have m1:aK .Mod (.int k) (.int 5)=some (.int ((k%5:Nat):Int)):=by
   rw[dT (by decide),Int.fmod_eq_emod_of_nonneg _ (by exact jP)];rfl
  have Pq:k%5<cs.length:=by exact Q2 0x5111114011051151125111401103 [_,_] hc (mod_lt _ (by decide)) rfl
  have s1:cB (st++[AO.list (cs.map .int)]) (.obj st.length) (.int ((k%5:Nat):Int))=some (.int cs[k%5]):=
   cG g (by rw[getElem?_map,getElem?_eq_getElem Pq];rfl) (by exact yn)
  have s2:cB (st++[AO.list (cs.map .int)]) (.lst (l.map .int)) (.int k)=some (.int l[k]):=by
   exact fN (by rw[getElem?_map,getElem?_eq_getElem M8];rfl) (by exact Q2 0x5111401103e8315110f424051111401103 [_,_] hl M8 rfl)
  have s3:=gk (v:=.int (cs[k%5]+l[k])) g (k:=k%5) (by rw[length_map];exact Pq) (by exact yn)
  have s4:(st++[AO.list (cs.map .int)]).set st.length (.list ((cs.map AV.int).set (k%5) (.int (cs[k%5]+l[k]))))=st++[.list ((cs.set (k%5) (cs[k%5]+l[k])).map .int)]:=by
   rw[map_set];simp
  rw[s4]at s3;refine dc (ih (cs.set (k%5) (cs[k%5]+l[k])) (ai τ 61 (.int k)) (λx hx=>QV x (by simp[hx])) (by simpa using hc)) λMF Kw Ny e=>?_;refine⟨MF,Kw,Ny,?_⟩;rw[map_cons]
  have Nm:af ((86,.lst (l.map .int))::(87,.obj st.length)::ai τ 61 (.int k)) 61=some (.int k):=by
   show af (ai τ 61 (.int k)) 61=_;exact ab _ _ _
  exact(bR (hk _) ((aR (Ki:=(86,.lst (l.map .int))::(87,.obj st.length)::ai τ 61 (.int k)) rfl).trans ((ae (r8 rfl (aj (ay Nm) rfl m1) s1 (bW rfl (ay Nm) s2) (cC rfl) s3)).trans bB))).trans e
theorem H2 (n:Nat)(l:List Int)(hl:l.length<=1000)(st:St):∃ cs:List Int,cs.length=5/\run (n+1) 0 [.lst (l.map .int)] st=some (.obj st.length,st++[.list (cs.map .int)]):=by
 refine dc (l0 n l hl st (ok:=λst=>an st (.rng 0 (l.length:Nat)) ((List.range l.length).map λk:Nat=>AV.int k)) (λ_=>rfl) (List.range l.length) [0,6,6,4,5] [] (λk hk=>mem_range.mp hk) rfl) λMF Kw hc e=>?_;refine⟨MF,hc,?_⟩;rw[ET,EU]
 have Ko:∀ Kd,gy Kd .len [.lst (l.map .int)]=some (.int (l.length:Nat),Kd):=λKd=>by
  rw[j4 (by rw[length_map];exact bN),length_map]
 exact bT rfl ((ae (aE (eH (cK rfl)) rfl)).trans ((ae (fp (dn (P.e1 (dn (P.e1 rfl) (Ko _))) (aZ _ (by exact dU))) (aL _ (by exact dU)) e)).trans (cy (sR rfl))))
noncomputable def jy (p q:Nat)(rs:cj):List Nat:=(range' 1 (p*q)).filter λr=>decide (p*q%r=0)&&!((p::rs.map (·.r)).contains r)
theorem fB {st:St}(a b:Nat)(ha:a<1000000)(h:b<1000000):gy st .range2 [.int a,.int b]=some (.rng a b,st):=by
 have:(a:Int).natAbs<2^61/\(b:Int).natAbs<2^61:=by rw[natAbs_natCast,natAbs_natCast];exact IK (by assumption) (by assumption)
 exact if_pos this
theorem eM {st:St}(a n:Nat)(h:a+n<1000000):aF st (.rng a ((a+n:Nat):Int))=some ((range' a n).map λk:Nat=>AV.int k):=by
 have:(a:Int).natAbs<2^61/\((a+n:Nat):Int).natAbs<2^61:=by rw[natAbs_natCast,natAbs_natCast];exact IK (lt_of_le_of_lt (le_add_right a n) (by assumption)) (by assumption)
 simp only[aF,if_pos this,kR];rw[show(((a+n:Nat):Int)-(a:Int)).toNat=n by exact Jm,List.range'_eq_map_range,map_map];congr 1
theorem nL (st:St)(a b:Nat)(h:b≠0):aK .Mod (.int a) (.int b)=some (.int ((a%b:Nat):Int)):=by
 rw[dT (by exact GT),Int.fmod_eq_emod_of_nonneg _ (by exact jP)];rfl
theorem nM (a b:Nat)(h:b≠0)(h2:b<1000000):aK .FloorDiv (.int a) (.int b)=some (.int ((a/b:Nat):Int)):=by
 rw[fM ⟨by exact GT,kV (by rw[natAbs_natCast];exact bN)⟩,fdiv_eq_ediv_of_nonneg _ (by exact jP)];rfl
theorem dC (a b:Nat)(h:a<1000000):aK .Mult (.int a) (.int b)=some (.int ((a*b:Nat):Int)):=by
 rw[mul_int (by rw[natAbs_natCast];exact bN)];simp
theorem rB (l:List Nat)(a:Nat):qi (l.map λk:Nat=>(k:Int)) a=l.contains a:=by
 induction l with
 |nil=>rfl
 |cons x l ih=>
  have e:qi ((x::l).map λk:Nat=>(k:Int)) a=(((x:Int)==(a:Int))||qi (l.map λk:Nat=>(k:Int)) a):=rfl;rw[e,ih,List.contains_cons];congr 1;by_cases h:a=x
  ·subst h;simp
  ·have h1:¬ (x:Int)=(a:Int):=by lia
   rw[beq_eq_false_iff_ne.mpr h1,beq_eq_false_iff_ne.mpr h]
theorem EV (n:Nat)(a:List AV)(st:St):run (n+1) 2 a st=bE (run n) [87] b2 a st:=rfl
noncomputable def H3:C:=.val (.cmp .Eq (.b .Mod (.b .Mult (.l 91) (.l 80)) (.l 75)) (.int 0))
noncomputable def H4:C:=.val (.cmp .NotIn (.l 75) (.l 160))
noncomputable def w2:List S:=[.asg (.nm 80) (.b .Add (.int 2) (.b .Mod (.sub (.l 87) (.b .Sub (.l 91) (.int 1))) (.b .Sub (.int 4) (.l 91)))),.asg (.nm 160) (.new false (.cat (.new false (.list [.l 91])) (.new false (.comp (.sub (.l 162) (.int 2)) (.nm 162) (.l 90) [] [])))),.asg (.nm 94) (.new false (.comp (.l 75) (.nm 75) (.bi .range2 [.int 1,.b .Add (.b .Mult (.l 91) (.l 80)) (.int 1)]) [.and H3 H4] [91,80,160])),.asg (.nm 75) (.sub (.l 94) (.b .Mod (.b .FloorDiv (.sub (.l 87) (.b .Sub (.l 91) (.int 1))) (.int 6)) (.bi .len [.l 94]))),.expr (.sm .append (.l 90) [.tup [.l 91,.l 80,.l 75,.b .FloorDiv (.b .Mult (.l 91) (.l 80)) (.l 75)]])]
theorem EW:b2=[.asg (.nm 90) (.new true (.list [])),.for (.nm 91) (.bi .range2 [.int 1,.int 4]) w2 [],.ret (.l 90)]:=rfl
noncomputable def Li (a c:Nat)(τ:Loc):Loc:=(87,.obj a)::(90,.obj c)::τ
theorem gr {a c:Nat}{τ:Loc}(x:Nat)(h:Nat.beq 87 x=false)(h2:Nat.beq 90 x=false):af (Li a c τ) x=af τ x:=by
 simp only[Li,af,h,h2,if_false,reduceCtorEq]
theorem t2 (n:Nat){a c:Nat}{st:St}{cs:List Int}{rs:cj}(Lv:cs.length=5)(ha:st[a]?=some (.list (cs.map .int)))(hc:st[c]?=some (.list (rs.map aV)))(LV:rs.length<=3){p:Nat}(hp:1<=p/\p<=3)(hf:∀ q,q<4-p->jy p (2+q) rs≠[])(τ:Loc) :
  ∃ (q r:Nat) (Kw:Loc),q<4-p/\r∈jy p (2+q) rs/\bV ⟨run n⟩ (.nm 91) w2 (.int p) (Li a c τ) st=some (.next,Li a c Kw,st.set c (.list ((rs++[Ru.mk p (2+q) r (p*(2+q)/r)]).map aV))):=by
 have QW:p-1<cs.length:=by exact Q3 0x611140111311611051151125111401104 [_,_,_] Lv hp.2 (sub_add_cancel (Q1 0x411111041111102 [_] hp.1 rfl)) rfl
 let x:=cs[p-1];have f0:0<=x.fmod ((4:Int)-p):=fmod_nonneg_of_pos _ (GI hp.2);have f1:x.fmod ((4:Int)-p)<(4:Int)-p:=fmod_lt_of_pos _ (GI hp.2);let qq:=(x.fmod ((4:Int)-p)).toNat;have Qa:qq<4-p:=Js hp.2 f0 f1;have hq:((2+qq:Nat):Int)=2+x.fmod ((4:Int)-p):=congrArg ((2:Int)+·) (zF f0);let q:=2+qq;let F:=jy p q rs;have hF:F≠[]:=hf qq Qa;have hF0:0<F.length:=length_pos_iff.mpr hF
 have ON:p*q<=100:=by
  have:q<=5:=by simp only[q];exact Q2 0x411650111511140110511421101103 [_,_,_] Qa (sub_add_cancel (Q1 0x311411041141102 [_] hp.2 rfl)) rfl
  exact le_trans (mul_le_mul hp.2 this) (by decide)
 have Qb:F.length<=100:=le_trans (length_filter_le _ _) (by rw[List.length_range'];exact ON);have j0:0<=(x.fdiv 6).fmod (F.length:Int):=fmod_nonneg_of_pos _ (by exact uH);have j1:(x.fdiv 6).fmod (F.length:Int)<(F.length:Int):=fmod_lt_of_pos _ (by exact uH);let j:=((x.fdiv 6).fmod (F.length:Int)).toNat;have hj:j<F.length:=CV j0 j1;have Qc:(x.fdiv 6).fmod (F.length:Int)=(j:Int):=(zF j0).symm;let r:=F[j];have hr:r∈F:=getElem_mem hj
 have Nc:1<=r/\r<1000:=by
  have:=(mem_filter.mp hr).1;rw[mem_range']at this;refine ak this ?_;clear this;intro k hk e;exact Jt hk ON e
 let gone:List AV:=(p::rs.map (·.r)).map λk:Nat=>AV.int k;let KC:=ai τ 91 (.int p);let KS:=ai KC 80 (.int q);let Ld:=ai KS 160 (.lst gone);let Ll:=ai Ld 94 (.lst (F.map λk:Nat=>AV.int k));let Ln:=ai Ll 75 (.int r);have g91_1:af (Li a c KC) 91=some (.int p):=(gr _ rfl rfl).trans (ab _ _ _);have g91_2:af (Li a c KS) 91=some (.int p):=(gr _ rfl rfl).trans ((ag _ (by decide) _).trans (ab _ _ _));have g91_3:af (Li a c Ld) 91=some (.int p):=(gr _ rfl rfl).trans ((ag _ (by decide) _).trans ((ag _ (by decide) _).trans (ab _ _ _)));have g80_3:af (Li a c Ld) 80=some (.int q):=(gr _ rfl rfl).trans ((ag _ (by decide) _).trans (ab _ _ _));have g160_3:af (Li a c Ld) 160=some (.lst gone):=(gr _ rfl rfl).trans (ab _ _ _);have g94_4:af (Li a c Ll) 94=some (.lst (F.map λk:Nat=>AV.int k)):=(gr _ rfl rfl).trans (ab _ _ _);have g91_4:af (Li a c Ll) 91=some (.int p):=(gr _ rfl rfl).trans ((ag _ (by decide) _).trans ((gr (a:=a) (c:=c) _ rfl rfl).symm.trans g91_3));have g91_5:af (Li a c Ln) 91=some (.int p):=(gr _ rfl rfl).trans ((ag _ (by decide) _).trans ((gr (a:=a) (c:=c) _ rfl rfl).symm.trans g91_4));have g80_5:af (Li a c Ln) 80=some (.int q):=(gr _ rfl rfl).trans ((ag _ (by decide) _).trans ((ag _ (by decide) _).trans ((gr (a:=a) (c:=c) _ rfl rfl).symm.trans g80_3)));have g75_5:af (Li a c Ln) 75=some (.int r):=(gr _ rfl rfl).trans (ab _ _ _)
 have sx:∀ Kd,Kd[a]?=some (.list (cs.map .int))->cB Kd (.obj a) (.int ((p:Int)-1))=some (.int x):=λKd h=>by
  rw[show(p:Int)-1=((p-1:Nat):Int) by exact Ha];exact cG h (by rw[getElem?_map,getElem?_eq_getElem QW];rfl) (by exact Q2 0x5111401105115111f424051111401103 [_,_] Lv QW rfl)
 have x1:aa ⟨run n⟩ (.b .Add (.int 2) (.b .Mod (.sub (.l 87) (.b .Sub (.l 91) (.int 1))) (.b .Sub (.int 4) (.l 91)))) (Li a c KC) st=some (.int q,st):=by
  refine aj rfl (aj (v:=.int (x.fmod ((4:Int)-p))) (bW rfl (aj (ay g91_1) rfl rfl) (sx st ha)) (aj rfl (ay g91_1) rfl) ?_) ?_
  ·exact dT (Int.ne_of_gt (GI hp.2))
  ·show some _=some _;rw[hq]
 have x2:aa ⟨run n⟩ (.new false (.cat (.new false (.list [.l 91])) (.new false (.comp (.sub (.l 162) (.int 2)) (.nm 162) (.l 90) [] [])))) (Li a c KS) st=some (.lst gone,st):=by
  have c1:dt ⟨run n⟩ (.comp (.sub (.l 162) (.int 2)) (.nm 162) (.l 90) [] []) (Li a c KS) st=some (rs.map λy=>.int y.r,st):=
   bS rfl (ey hc) (by rw[length_map];exact bN) (aD aV (λy=>.int y.r) (stands_obj hc) rs λy _=>lC rfl (bW lO rfl rfl))
  have:gone=[.int p]++rs.map λy=>AV.int y.r:=by simp only[gone,map_cons,map_map];rfl
  rw[this];exact aH (wc (aH (cK (P.e1 (ay g91_2)))) (aH c1) rfl rfl (by simp;exact Dj))
 have x3:aa ⟨run n⟩ (.new false (.comp (.l 75) (.nm 75) (.bi .range2 [.int 1,.b .Add (.b .Mult (.l 91) (.l 80)) (.int 1)]) [.and H3 H4] [91,80,160])) (Li a c Ld) st=some (.lst (F.map λk:Nat=>AV.int k),st):=by
  have b1:aN ⟨run n⟩ [.int 1,.b .Add (.b .Mult (.l 91) (.l 80)) (.int 1)] (Li a c Ld) st=some ([.int (1:Nat),.int ((1+p*q:Nat):Int)],st):=
   e2 rfl (aj (aj (ay g91_3) (ay g80_3) (dC p q (by exact mO))) rfl (congrArg (λx:Nat=>some (AV.int x)) (add_comm (p*q) 1)))
  refine aH (bS (dn b1 (fB 1 (1+p*q) (by decide) (by exact Ga))) (eM 1 (p*q) (by exact Ga)) (by simp;exact bN) ?_);refine bK (λr=>decide (p*q%r=0)&&!((p::rs.map (·.r)).contains r)) (λk:Nat=>AV.int k) (λk:Nat=>AV.int k) rfl (range' 1 (p*q)) λk hk=>?_
  have hk0:k≠0:=by
   rw[mem_range']at hk;refine ak hk ?_;clear hk;intro i _ e;exact ne_of_gt (Q1 0x51121110411241110101102 [_,_] e rfl)
  have ca:aJ ⟨run n⟩ H3 (ai (aX (Li a c Ld) [91,80,160]) 75 (.int k)) st=some (decide (p*q%k=0),st):=by
   refine bF (aj (aj (gn g91_3 rfl (by decide)) (gn g80_3 rfl (by decide)) (dC p q (by exact mO))) lO (nL st (p*q) k hk0)) rfl ?_;rw[bJ,gG];exact congrArg some (decide_eq_decide.mpr Int.natCast_eq_zero)
  have cb:aJ ⟨run n⟩ H4 (ai (aX (Li a c Ld) [91,80,160]) 75 (.int k)) st=some (!((p::rs.map (·.r)).contains k),st):=by
   refine bF lO (gn g160_3 rfl (by decide)) ?_;show Option.map (λl=>!qi l (k:Int)) (allInts ((p::rs.map (·.r)).map λk:Nat=>AV.int k))=_;rw[fL,map_some,rB]
  by_cases q1:p*q%k=0
  ·rw[decide_eq_true q1]at ca ⊢;have cc:=sd ca cb;by_cases q2:(p::rs.map (·.r)).contains k=true
   ·rw[q2]at cc ⊢;exact C3 rfl (uJ cc)
   ·rw[eq_false_iff.mpr q2]at cc ⊢;exact C1 rfl (uJ cc) lO
  ·rw[decide_eq_false q1]at ca ⊢;exact C3 rfl (uJ (wb ca))
 have x4:aa ⟨run n⟩ (.sub (.l 94) (.b .Mod (.b .FloorDiv (.sub (.l 87) (.b .Sub (.l 91) (.int 1))) (.int 6)) (.bi .len [.l 94]))) (Li a c Ll) st=some (.int r,st):=by
  have d1:aK .FloorDiv (.int x) (.int 6)=some (.int (x.fdiv 6)):=by
   exact fM ⟨by decide,kV (by decide)⟩
  have m1:aK .Mod (.int (x.fdiv 6)) (.int (F.length:Nat))=some (.int j):=by
   refine Eq.trans (dT (by exact ym)) ?_;rw[Qc]
  have Ko:gy st .len [.lst (F.map λk:Nat=>AV.int k)]=some (.int (F.length:Nat),st):=by
   rw[j4 (by rw[length_map];exact bN),length_map]
  refine bW (ay g94_4) (aj (aj (bW rfl (aj (ay g91_4) rfl rfl) (sx st ha)) rfl d1) (dn (P.e1 (ay g94_4)) Ko) m1) ?_;exact fN (by rw[getElem?_map,getElem?_eq_getElem hj];rfl) (by exact Q2 0x51114011064215110f424051111401103 [_,_] Qb hj rfl)
 have x5:xS ⟨run n⟩ (.expr (.sm .append (.l 90) [.tup [.l 91,.l 80,.l 75,.b .FloorDiv (.b .Mult (.l 91) (.l 80)) (.l 75)]])) (Li a c Ln) st=some (.next,Li a c Ln,st.set c (.list ((rs++[Ru.mk p q r (p*q/r)]).map aV))):=by
  have ap:=cY (v:=aV (Ru.mk p q r (p*q/r))) hc (by rw[length_map];exact dU);rw[show rs.map aV++[aV (Ru.mk p q r (p*q/r))]=(rs++[Ru.mk p q r (p*q/r)]).map aV by simp]at ap;exact eG (gV rfl (cS hc) (P.e1 (kU (fu (ay g91_5) (e3 (ay g80_5) (ay g75_5) (aj (aj (ay g91_5) (ay g80_5) (dC p q (by exact mO))) (ay g75_5) (nM (p*q) r (by exact Hb) (by exact uP))))))) ap) rfl
 refine⟨qq,r,Ln,Qa,hr,?_⟩;refine(aR (Ki:=Li a c KC) rfl).trans ?_;refine(ae (Ki:=Li a c KS) (aE x1 rfl)).trans ?_;refine(ae (Ki:=Li a c Ld) (aE x2 rfl)).trans ?_;refine(ae (Ki:=Li a c Ll) (aE x3 rfl)).trans ?_;refine(ae (Ki:=Li a c Ln) (aE x4 rfl)).trans ?_;exact(ae x5).trans bB
noncomputable def next (p:Nat)(rs:cj):List cj:=(List.range (4-p)).flatMap λq=>(jy p (2+q) rs).map λr=>rs++[Ru.mk p (2+q) r (p*(2+q)/r)]
noncomputable def all1:List cj:=next 1 []
noncomputable def all2:List cj:=all1.flatMap (next 2)
noncomputable def fC:List cj:=all2.flatMap (next 3)
theorem ll {p q r:Nat}{rs:cj}(hq:q<4-p)(hr:r∈jy p (2+q) rs):rs++[Ru.mk p (2+q) r (p*(2+q)/r)]∈next p rs:=by
 rw[next,mem_flatMap];exact⟨q,mem_range.mpr hq,mem_map_of_mem (f:=λr=>rs++[Ru.mk p (2+q) r (p*(2+q)/r)]) hr⟩
theorem EX:∀ q,q<4-1->jy 1 (2+q) []≠[]:=by decide
theorem EY:∀ rs∈all1,∀ q,q<4-2->jy 2 (2+q) rs≠[]:=by decide +kernel
theorem EZ:∀ rs∈all2,∀ q,q<4-3->jy 3 (2+q) rs≠[]:=by decide +kernel
theorem NQ:∀ rs∈all1,rs.length=1:=by decide +kernel
theorem NR:∀ rs∈all2,rs.length=2:=by decide +kernel
theorem H5 (n:Nat){a:Nat}{st:St}{cs:List Int}(Lv:cs.length=5)(ha:st[a]?=some (.list (cs.map .int))):∃ rs∈fC,run (n+1) 2 [.obj a] st=some (.obj st.length,st++[.list (rs.map aV)]):=by
 let c:=st.length;let s1:St:=st++[.list (([]:cj).map aV)];have hac:c≠a:=λe=>by have:=al ha;simp only[c]at e;exact not_succ_le_zero 0 (Q2 0x41115011054111011111103 [_,_] e this rfl)
 have g1:s1[c]?=some (.list (([]:cj).map aV)):=aS _ _;refine j7 (t2 n Lv (cz ha:s1[a]?=_) g1 (by simp) (p:=1) (by decide) EX []) λq1 r1 KC hq1 Nc y1=>?_;let R1:cj:=[]++[Ru.mk 1 (2+q1) r1 (1*(2+q1)/r1)];have m1:R1∈all1:=ll hq1 Nc;have N0:∀ (A B:cj),(st++[AO.list (A.map aV)]).set c (.list (B.map aV))=st++[.list (B.map aV)]:=λA B=>by simp[c]
 rw[N0]at y1;refine j7 (t2 n Lv (cz ha:(st++[AO.list (R1.map aV)])[a]?=_) (aS _ _) (by rw[NQ R1 m1];decide) (p:=2) (by decide) (EY R1 m1) KC) λq2 r2 KS Qd MT y2=>?_;let R2:cj:=R1++[Ru.mk 2 (2+q2) r2 (2*(2+q2)/r2)];have m2:R2∈all2:=mem_flatMap.mpr ⟨R1,m1,ll Qd MT⟩;rw[N0]at y2;refine j7 (t2 n Lv (cz ha:(st++[AO.list (R2.map aV)])[a]?=_) (aS _ _) (by rw[NR R2 m2];decide) (p:=3) (by decide) (EZ R2 m2) KS) λq3 r3 Ld hq3 NW y3=>?_;let R3:cj:=R2++[Ru.mk 3 (2+q3) r3 (3*(2+q3)/r3)];have m3:R3∈fC:=mem_flatMap.mpr ⟨R2,m2,ll hq3 NW⟩;rw[N0]at y3;refine⟨R3,m3,?_⟩;rw[EV,EW];refine bT (Ki:=Li a c Ld) rfl ((ae (Ki:=Li a c []) (aE (eH (cK dk)) rfl)).trans ((ae (fp (dn (e2 (x:=.int (1:Nat)) (y:=.int (4:Nat)) rfl rfl) (fB 1 4 (by decide) (by decide))) (eM 1 3 (by decide)) ?_)).trans (cy (sR rfl))));exact(bR rfl y1).trans ((bR rfl y2).trans ((bR rfl y3).trans (hZ rfl)))
noncomputable def mG (rs:cj):cj:=rs.filter λx=>decide ((x.q:Int)<=dB x.p rs)
noncomputable def iJ (rs:cj)(L:List Nat)(z:Nat):List Nat:=if L.sum+z<=9/\(L.count z:Int)<dB z rs then L++[z] else L
noncomputable def nN (rs:cj)(x:Ru)(a b c:Nat):List Nat:=iJ rs (iJ rs (iJ rs (replicate x.q x.p) (1+a)) (1+b)) (1+c)
theorem cL (l:List Nat):allInts (l.map λk:Nat=>AV.int k)=some (l.map λk:Nat=>(k:Int)):=fL _ l
theorem nP (l:List Nat):(l.map λk:Nat=>(k:Int)).sum=(l.sum:Nat):=by
 induction l with
 |nil=>rfl
 |cons a l ih=>rw[map_cons,sum_cons,ih,sum_cons];lia
theorem uC (l:List Nat)(z:Nat):(l.map λk:Nat=>(k:Int)).count (z:Int)=l.count z:=by
 induction l with
 |nil=>rfl
 |cons a l ih=>
  rw[map_cons];by_cases h:a=z
  ·subst h;rw[count_cons_self,count_cons_self,ih]
  ·rw[count_cons_of_ne (by exact Dk),count_cons_of_ne h,ih]
theorem sU {st:St}{i:Nat}{l:List Nat}(h:st[i]?=some (.list (l.map λk:Nat=>.int k))):gy st .sum [.obj i]=some (.int (l.sum:Nat),st):=by
 exact jV (mC h) (jI (cL l) (congrArg (λi=>some (AV.int i,st)) (nP l)))
theorem jd {st:St}{i:Nat}{l:List Nat}(h:st[i]?=some (.list (l.map λk:Nat=>.int k)))(z:Nat):jC st .count (.obj i) [.int z]=some (.int (l.count z:Nat),st):=by
 exact jV (mC h) (jI (cL l) (congrArg (λc:Nat=>some (AV.int c,st)) (uC l z)))
theorem E0 (n:Nat)(a:List AV)(st:St):run (n+1) 4 a st=bE (run n) [93,90] b4 a st:=rfl
noncomputable def w4:List S:=[.asg (.nm 92) (.b .Add (.int 1) (.b .FloorDiv (.b .Mod (.b .FloorDiv (.l 93) (.b .Pow (.int 8) (.l 61))) (.int 8)) (.int 2))),.iff (.and (.val (.cmp .LtE (.b .Add (.bi .sum [.l 95]) (.l 92)) (.int 9))) (.val (.cmp .Lt (.sm .count (.l 95) [.l 92]) (.call 3 [.l 92,.l 90])))) [.expr (.sm .append (.l 95) [.l 92])] []]
theorem E1:b4=[.asg (.nm 94) (.new false (.comp (.l 162) (.nm 162) (.l 90) [.val (.cmp .GtE (.call 3 [.sub (.l 162) (.int 0),.l 90]) (.sub (.l 162) (.int 1)))] [90])),.asg (.tup [91,80,75,163]) (.sub (.l 94) (.b .Mod (.l 93) (.bi .len [.l 94]))),.asg (.nm 95) (.new true (.rep (.l 91) (.l 80))),.for (.nm 61) (.bi .range1 [.int 3]) w4 [],.ret (.l 95)]:=rfl
noncomputable def σs (num:Int)(rv fr:AV)(x:Ru)(c:Nat)(τ:Loc):Loc:=(93,.int num)::(90,rv)::(94,fr)::(91,.int x.p)::(80,.int x.q)::(75,.int x.r)::(163,.int x.s)::(95,.obj c)::τ
theorem gs {num:Int}{rv fr:AV}{x:Ru}{c:Nat}{τ:Loc}(y:Nat)(h:([93,90,94,91,80,75,163,95]:List Nat).all (λz=>!Nat.beq z y)=true):af (σs num rv fr x c τ) y=af τ y:=by
 simp only[all_cons,all_nil,Bool.and_true,and_eq_true,not_eq_true']at h;refine GN h ?_;clear h;intro h1 h2 h3 h4 h5 h6 h7 h8;simp only[σs,af,h1,h2,h3,h4,h5,h6,h7,h8,if_false,reduceCtorEq]
theorem H6 (k:Nat)(h:k<3):aK .Pow (.int 8) (.int k)=some (.int ((8:Int)^k)):=by
 have:(2:Int)<=8/\(8:Int)<=8/\(0:Int)<=(k:Int)/\(k:Int)<=100:=by lia
 exact if_pos this
theorem t4 (n:Nat){st:St}{num:Int}{rv fr:AV}{rs:cj}{x:Ru}{c:Nat}{L:List Nat}(h:RV st rv rs)(LV:rs.length<=1000)(hc:st[c]?=some (.list (L.map λk:Nat=>.int k)))(Pt:rv≠.obj c)(hL:L.length<=1000){k:Nat}(hk:k<3)(τ:Loc) :
  ∃ (a:Nat) (Kw:Loc),a<4/\bV ⟨run (n+1)⟩ (.nm 61) w4 (.int k) (σs num rv fr x c τ) st=some (.next,σs num rv fr x c Kw,st.set c (.list ((iJ rs L (1+a)).map λk:Nat=>.int k))):=by
 have p8:((8:Int)^k).natAbs<2^64/\(8:Int)^k≠0:=by
  have:k=0\/k=1\/k=2:=by exact ye
  rcases this with rfl |rfl |rfl<;>decide
 let y:=(num.fdiv ((8:Int)^k)).fmod 8;have y0:0<=y:=fmod_nonneg_of_pos _ (by decide);have y1:y<8:=fmod_lt_of_pos _ (by decide)
 have Pk:y.fdiv 2=((y.toNat/2:Nat):Int):=by
  exact(fdiv_eq_ediv_of_nonneg _ (by decide)).trans (zG y0)
 let a:=y.toNat/2;have ha:a<4:=Nat.div_lt_of_lt_mul (CV y0 y1);let KC:=ai τ 61 (.int k);let KS:=ai KC 92 (.int ((1+a:Nat):Int));have Nm:af (σs num rv fr x c KC) 61=some (.int k):=(gs _ (by decide)).trans (ab _ _ _);have Of:af (σs num rv fr x c KS) 92=some (.int ((1+a:Nat):Int)):=(gs _ (by decide)).trans (ab _ _ _)
 have x1:aa ⟨run (n+1)⟩ (.b .Add (.int 1) (.b .FloorDiv (.b .Mod (.b .FloorDiv (.l 93) (.b .Pow (.int 8) (.l 61))) (.int 8)) (.int 2))) (σs num rv fr x c KC) st=some (.int ((1+a:Nat):Int),st):=by
  refine aj rfl (aj (v:=.int (a:Int)) (aj (v:=.int y) (aj (v:=.int (num.fdiv ((8:Int)^k))) rfl (aj rfl (ay Nm) (H6 k hk)) ?_) rfl ?_) rfl ?_) ?_
  ·exact fM ⟨p8.2,kV p8.1⟩
  ·exact dT (by decide)
  ·refine Eq.trans (fM ⟨by decide,kV (by decide)⟩) ?_;rw[Pk]
  ·exact congrArg (λx=>some (AV.int x)) (show(1:Int)+(a:Int)=((1+a:Nat):Int) from rfl)
 have z1:1<=1+a/\1+a<=9:=⟨le_add_right ..,le_trans (add_le_add_left (le_of_lt ha) 1) (by decide)⟩;refine⟨a,KS,ha,?_⟩;refine(aR (Ki:=σs num rv fr x c KC) rfl).trans ((ae (Ki:=σs num rv fr x c KS) (aE x1 rfl)).trans ((ae (Ki:=σs num rv fr x c KS) (Ke:=st.set c (.list ((iJ rs L (1+a)).map λk:Nat=>.int k))) ?_).trans bB))
 have ca:aJ ⟨run (n+1)⟩ (.val (.cmp .LtE (.b .Add (.bi .sum [.l 95]) (.l 92)) (.int 9))) (σs num rv fr x c KS) st=some (decide (L.sum+(1+a)<=9),st):=by
  refine bF (aj (dn (P.e1 rfl) (sU hc)) (ay Of) (cT _ _)) rfl ?_;exact congrArg some (decide_eq_decide.mpr (ofNat_le (n:=9)))
 have cb:aJ ⟨run (n+1)⟩ (.val (.cmp .Lt (.sm .count (.l 95) [.l 92]) (.call 3 [.l 92,.l 90]))) (σs num rv fr x c KS) st=some (decide ((L.count (1+a):Int)<dB (1+a) rs),st):=
  bF (gV rfl (cS hc) (P.e1 (ay Of)) (jd hc (1+a))) (be (e2 (ay Of) rfl) (Cc n h LV z1)) rfl
 have same:st.set c (.list (L.map λk:Nat=>.int k))=st:=by
  apply ext_getElem? ;intro j;by_cases hj:c=j
  ·subst hj;rw[hc,getElem?_set_self (al hc)]
  ·rw[getElem?_set_ne hj]
 by_cases q1:L.sum+(1+a)<=9
 ·rw[decide_eq_true q1]at ca;by_cases q2:(L.count (1+a):Int)<dB (1+a) rs
  ·rw[decide_eq_true q2]at cb;rw[iJ,if_pos ⟨q1,q2⟩];have ap:=cY (v:=.int ((1+a:Nat):Int)) hc (by rw[length_map];exact dU);rw[show(L.map λk:Nat=>AV.int k)++[.int ((1+a:Nat):Int)]=(L++[1+a]).map λk:Nat=>AV.int k by simp]at ap;exact(dN (sd ca cb)).trans ((ae (eG (gV rfl (cS hc) (P.e1 (ay Of)) ap) rfl)).trans bB)
  ·rw[decide_eq_false q2]at cb;rw[iJ,if_neg (λe=>q2 e.2),same];exact bG (sd ca cb)
 ·rw[decide_eq_false q1]at ca;rw[iJ,if_neg (λe=>q1 e.1),same];exact bG (wb ca)
theorem H7 (n:Nat){st:St}{num:Int}{rv:AV}{rs:cj}(h:RV st rv rs)(ho:K0 rs)(hf:mG rs≠[]):∃ (x:Ru) (a b c:Nat),x∈mG rs/\a<4/\b<4/\c<4/\run (n+2) 4 [.int num,rv] st=some (.obj st.length,st++[.list ((nN rs x a b c).map λk:Nat=>.int k)]):=by
 let F:=mG rs;have hF0:0<F.length:=length_pos_iff.mpr hf;have Qb:F.length<=3:=le_trans (length_filter_le _ _) (by rw[ho.1];exact le_refl _);have LV:rs.length<=1000:=by rw[ho.1];decide
 have j0:0<=num.fmod (F.length:Int):=fmod_nonneg_of_pos _ (by exact uH);have j1:num.fmod (F.length:Int)<(F.length:Int):=fmod_lt_of_pos _ (by exact uH);let j:=(num.fmod (F.length:Int)).toNat;have hj:j<F.length:=CV j0 j1;have Qc:num.fmod (F.length:Int)=(j:Int):=(zF j0).symm;let x:=F[j];have hx:x∈F:=getElem_mem hj;have hxr:x∈rs:=(mem_filter.mp hx).1;have QX:=ho.2 x hxr;let c:=st.length
 have Pt:rv≠.obj c:=by
  rintro rfl;rcases h with h |⟨m,h,e⟩
  ·simp at h
  ·have:=al e;simp at h;simp only[c]at h;exact not_succ_le_zero 0 (Q2 0x45111511140110011111103 [_,_] this h rfl)
 have x1:aa ⟨run (n+1)⟩ (.new false (.comp (.l 162) (.nm 162) (.l 90) [.val (.cmp .GtE (.call 3 [.sub (.l 162) (.int 0),.l 90]) (.sub (.l 162) (.int 1)))] [90])) [(93,.int num),(90,rv)] st=some (.lst (F.map aV),st):=by
  refine aH (bS rfl h.items (by rw[length_map];exact bN) (bK (λx:Ru=>decide ((x.q:Int)<=dB x.p rs)) aV aV h.stands rs λy hy=>?_));have QY:=ho.2 y hy;exact HJ rfl (uJ (bF (be (e2 (bW rfl rfl (I9 y)) rfl) (Cc n h LV (z:=y.p) ⟨QY.1.1,by have:=QY.1.2;exact bN⟩)) (bW rfl rfl (Ja y)) rfl)) rfl
 have x2:aa ⟨run (n+1)⟩ (.sub (.l 94) (.b .Mod (.l 93) (.bi .len [.l 94]))) [(93,.int num),(90,rv),(94,.lst (F.map aV))] st=some (aV x,st):=by
  have Ko:gy st .len [.lst (F.map aV)]=some (.int (F.length:Nat),st):=by
   rw[j4 (by rw[length_map];exact bN),length_map]
  have m1:aK .Mod (.int num) (.int (F.length:Nat))=some (.int j):=by
   refine Eq.trans (dT (by exact ym)) ?_;rw[Qc]
  refine bW rfl (aj rfl (dn (P.e1 rfl) Ko) m1) ?_;exact fN (by rw[getElem?_map,getElem?_eq_getElem hj];rfl) (by exact Q2 0x5111401103115110f424051111401103 [_,_] Qb hj rfl)
 let L0:=replicate x.q x.p
 have x3:aa ⟨run (n+1)⟩ (.new true (.rep (.l 91) (.l 80))) [(93,.int num),(90,rv),(94,.lst (F.map aV)),(91,.int x.p),(80,.int x.q),(75,.int x.r),(163,.int x.s)] st=some (.obj c,st++[.list (L0.map λk:Nat=>.int k)]):=by
  have hq6:=QX.2.2.1.2;have:=Bt (X:=⟨run (n+1)⟩) (σ:=[(93,.int num),(90,rv),(94,.lst (F.map aV)),(91,.int x.p),(80,.int x.q),(75,.int x.r),(163,.int x.s)]) (a:=.l 91) (n:=.l 80) (st:=st) (Ke:=st) (Kf:=st) (x:=.int x.p) (k:=(x.q:Int)) rfl rfl (by exact zM) (by exact jP);rw[toNat_natCast]at this;rw[show(L0.map λk:Nat=>AV.int k)=replicate x.q (.int x.p) by simp[L0]];exact eH this
 have hs:∀ (A B:List AV),(st++[AO.list A]).set c (.list B)=st++[.list B]:=λA B=>by simp[c]
 have Nc:∀ A:List AV,RV (st++[AO.list A]) rv rs:=λA=>h.mono (Kp.app [] st _) (by simp)
 have OO:∀ (L:List Nat) (z:Nat),(iJ rs L z).length<=L.length+1:=λL z=>by
  unfold iJ;split<;>simp
 have l0:L0.length<=6:=by simp[L0];exact QX.2.2.1.2
 refine dc (t4 n (num:=num) (fr:=.lst (F.map aV)) (x:=x) (L:=L0) (Nc _) LV (aS st _) Pt (by exact bN) (k:=0) (by decide) []) λa KC ha y1=>?_;rw[hs]at y1;have l1:=OO L0 (1+a);refine dc (t4 n (num:=num) (fr:=.lst (F.map aV)) (x:=x) (L:=iJ rs L0 (1+a)) (Nc _) LV (aS st _) Pt (by exact Q2 0x11150411061151103e83141103 [_,_] l0 l1 rfl) (k:=1) (by decide) KC) λb KS hb y2=>?_;rw[hs]at y2;have l2:=OO (iJ rs L0 (1+a)) (1+b);refine dc (t4 n (num:=num) (fr:=.lst (F.map aV)) (x:=x) (L:=iJ rs (iJ rs L0 (1+a)) (1+b)) (Nc _) LV (aS st _) Pt (by exact Q3 0x11160411011150611061151103e83141104 [_,_,_] l0 l1 l2 rfl) (k:=2) (by decide) KS) λd Ld hd y3=>?_;rw[hs]at y3;refine⟨x,a,b,d,hx,ha,hb,hd,?_⟩;rw[E0,E1];refine bT (Ki:=σs num rv (.lst (F.map aV)) x c Ld) rfl ?_;refine(ae (Ki:=[(93,.int num),(90,rv),(94,.lst (F.map aV))]) (aE x1 rfl)).trans ?_;refine(ae (Ki:=[(93,.int num),(90,rv),(94,.lst (F.map aV)),(91,.int x.p),(80,.int x.q),(75,.int x.r),(163,.int x.s)]) (aE x2 rfl)).trans ?_;refine(ae (Ki:=σs num rv (.lst (F.map aV)) x c []) (aE x3 rfl)).trans ?_;refine(ae (fp (dn (P.e1 rfl) (aZ 3 (by decide))) (aL 3 (by decide)) ?_)).trans (cy (sR rfl));exact(bR rfl y1).trans ((bR rfl y2).trans ((bR rfl y3).trans (hZ rfl)))
noncomputable def LW (rs:cj):Nat->List Nat->List Nat->Option (List Nat×List Nat)
 |0,_,_=>none
 |f+1,c,u=>match cO rs c with
  |[]=>some (c,u)
  |k::_=>LW rs f (gS c (R rs k)) (u.set k (u.getD k 0+1))
abbrev ah (l:List Nat):List AV:=l.map λk:Nat=>AV.int k
theorem dQ {l:List Nat}{k:Nat}(h:k<l.length):(ah l)[k]?=some (.int (l.getD k 0:Nat)):=by
 rw[getElem?_map,getElem?_eq_getElem h,getD_eq_getElem?_getD,getElem?_eq_getElem h];rfl
theorem xb {c:List Nat}(hc:c.length=7){x:Ru}(hx:C4 x)(hq:x.q<=c.getD x.p 0):(((ah c).set x.p (.int ((c.getD x.p 0:Nat)-(x.q:Int)))).set x.r (.int (((c.set x.p (c.getD x.p 0-x.q)).getD x.r 0:Nat)+(x.s:Int))))=ah (gS c x):=by
 have hp:=hx.1;have hr:=hx.2.1;have e:((c.getD x.p 0:Nat):Int)-(x.q:Int)=((c.getD x.p 0-x.q:Nat):Int):=by exact CY
 have e2:(((c.set x.p (c.getD x.p 0-x.q)).getD x.r 0:Nat):Int)+(x.s:Int)=(((c.set x.p (c.getD x.p 0-x.q)).getD x.r 0+x.s:Nat):Int):=by lia
 rw[e,e2]
 have:(((ah c).set x.p (.int ((c.getD x.p 0-x.q:Nat):Int))).set x.r (.int (((c.set x.p (c.getD x.p 0-x.q)).getD x.r 0+x.s:Nat):Int)))=ah ((c.set x.p (c.getD x.p 0-x.q)).set x.r ((c.set x.p (c.getD x.p 0-x.q)).getD x.r 0+x.s)):=by
  simp only[ah,map_set]
 rw[this];congr 1;apply ext_getElem?;intro k;by_cases hk:k<7
 ·rw[gS,getElem?_map,getElem?_range hk,map_some];have Lv:∀ v,(c.set x.p v).length=7:=λv=>by rw[length_set];exact hc
  by_cases q1:x.r=k
  ·subst q1;rw[getElem?_set_self (by rw[Lv];exact hk),if_pos rfl];congr 2;rw[getD_eq_getElem?_getD];by_cases q2:x.p=x.r
   ·rw[q2,getElem?_set_self (by exact CZ),if_pos rfl];rfl
   ·rw[getElem?_set_ne q2,if_neg (show ¬ x.r=x.p from λe=>q2 e.symm),getD_eq_getElem?_getD]
  ·rw[getElem?_set_ne q1,if_neg (show ¬ k=x.r from λe=>q1 e.symm)];by_cases q2:x.p=k
   ·rw[← q2,getElem?_set_self (by exact Q2 0x611411071151125111401103 [_,_] hc hp.2 rfl),if_pos (show x.p=x.p from rfl)];rfl
   ·rw[getElem?_set_ne q2,if_neg (show ¬ k=x.p from λe=>q2 e.symm),getElem?_eq_getElem (by exact CZ),getD_eq_getElem?_getD,getElem?_eq_getElem (by exact CZ)];rfl
 ·rw[List.getElem?_eq_none (by simp;exact Q2 0x57111107114111541103 [_,_] hc (not_lt.mp hk) rfl),List.getElem?_eq_none (by simp[gS];exact zN)]
theorem xc (c:List Nat)(x:Ru):(gS c x).length=7:=by simp[gS]
theorem E2 (n:Nat)(a:List AV)(st:St):run (n+1) 5 a st=bE (run n) [95,90] b5 a st:=rfl
noncomputable def w5:List S:=[.asg (.nm 164) lg,.iff (.val (.cmp .Eq (.l 164) (.new false (.list [])))) [.ret (.tup [.l 96,.l 97])] [],.asg (.tup [91,80,75,163]) (.sub (.l 90) (.sub (.l 164) (.int 0))),.augI (.l 96) (.l 91) .Sub (.l 80),.augI (.l 96) (.l 75) .Add (.l 163),.augI (.l 97) (.sub (.l 164) (.int 0)) .Add (.int 1)]
theorem E3:b5=[.asg (.nm 96) (.new true (.comp (.sm .count (.l 95) [.l 92]) (.nm 92) (.bi .range1 [.int 7]) [] [95])),.asg (.nm 97) (.new true (.list [.int 0,.int 0,.int 0])),.for (.nm 98) (.bi .range1 [.int 31]) w5 [],.ret (.tup [.l 96,.new false (.list [])])]:=rfl
noncomputable def Mo (a:Nat)(rv:AV)(m:Nat)(τ:Loc):Loc:=(95,.obj a)::(90,rv)::(96,.obj m)::(97,.obj (m+1))::τ
theorem g5 {a:Nat}{rv:AV}{m:Nat}{τ:Loc}(y:Nat)(h:([95,90,96,97]:List Nat).all (λz=>!Nat.beq z y)=true):af (Mo a rv m τ) y=af τ y:=by
 simp only[all_cons,all_nil,Bool.and_true,and_eq_true,not_eq_true']at h;refine gQ h ?_;clear h;intro h1 h2 h3 h4;simp only[Mo,af,h1,h2,h3,h4,if_false,reduceCtorEq]
theorem l5 (n:Nat){a:Nat}{st:St}{rv:AV}{rs:cj}(h:RV st rv rs)(ho:K0 rs){ok:St->Bool}(hk:∀ st,ok st=true)(e v:List Nat):∀ (xs:List AV) (c u:List Nat) (τ:Loc),c.length=7->u.length=3->LW rs xs.length c u=some (e,v) ->
  ∃ Kh,bc ok (bV ⟨run n⟩ (.nm 98) w5) xs (Mo a rv st.length τ) ((st++[AO.list (ah c)])++[AO.list (ah u)])=some (.ret (.tup [.obj st.length,.obj (st.length+1)]),Kh,(st++[AO.list (ah e)])++[AO.list (ah v)]):=by
 intro xs
 induction xs with
 |nil=>
  intro c u τ _ _ ht;exact absurd ht bg
 |cons x xs ih=>
  intro c u τ hc hu ht;have ht:(match cO rs c with |[]=>some (c,u) |k::_=>LW rs xs.length (gS c (R rs k)) (u.set k (u.getD k 0+1)))=some (e,v):=ht;let s0:St:=(st++[AO.list (ah c)])++[AO.list (ah u)];have Pu:RV s0 rv rs:=(h.mono (Kp.app [] st _) (by simp)).mono (Kp.app [] _ _) (by simp);have gc:s0[st.length]?=some (.list (ah c)):=cz (aS _ _)
  have gu:s0[st.length+1]?=some (.list (ah u)):=by
   have:=aS (st++[AO.list (ah c)]) (AO.list (ah u))
   rwa [length_append,length_singleton]at this
  let KC:=ai τ 98 x;let KS:=ai KC 164 (.lst (ah (cO rs c)))
  have x1:aa ⟨run n⟩ lg (Mo a rv st.length KC) s0=some (.lst (ah (cO rs c)),s0):=
   sQ (g:=λk=>c.getD k 0) Pu ho (cvv:=.obj st.length) (λk h1 h2=>cG gc (dQ (by exact Q2 0x611411071151125111401103 [_,_] hc h2 rfl)) (by exact dU)) rfl rfl
  have Nb:af (Mo a rv st.length KS) 164=some (.lst (ah (cO rs c))):=(g5 _ (by decide)).trans (ab _ _ _)
  have ce:bJ s0 .Eq (.lst (ah (cO rs c))) (.lst [])=some (decide (cO rs c=[])):=by
   have:ah (cO rs c)=((cO rs c).map λk:Nat=>(k:Int)).map .int:=by simp only[ah,map_map];rfl
   rw[bJ,this,nw];congr 1;exact decide_eq_decide.mpr (by simp)
  have y1:aJ ⟨run n⟩ (.val (.cmp .Eq (.l 164) (.new false (.list [])))) (Mo a rv st.length KS) s0=some (decide (cO rs c=[]),s0):=bF (ay Nb) (aH (cK dk)) ce
  cases Og:cO rs c with
  |nil=>
   rw[Og]at ht;cases ht;rw[decide_eq_true Og]at y1;exact⟨Mo a rv st.length KS,Bs (hk _) ((aR (Ki:=Mo a rv st.length KC) rfl).trans ((ae (Ki:=Mo a rv st.length KS) (aE x1 rfl)).trans (cy ((dN y1).trans (cy (sR rfl))))))⟩
  |cons k ks=>
   rw[Og]at ht;simp only at ht;have Pw:k∈cO rs c:=by rw[Og];simp
   have MQ:k<3:=by
    simp only[cO,mem_filter,mem_range]at Pw;exact Pw.1
   have hq:(R rs k).q<=c.getD (R rs k).p 0:=by
    simp only[cO,mem_filter,decide_eq_true_eq]at Pw;exact Pw.2
   have hR:=(ho.get MQ).1;rw[decide_eq_false (by rw[Og];simp)]at y1;let y:=R rs k;have hyp:y.p<=6:=hR.1.2;have hyq:y.q<=c.getD y.p 0:=hq;have hyr:y.r<=6:=hR.2.1.2;let Ld:=ai (ai (ai (ai KS 91 (.int y.p)) 80 (.int y.q)) 75 (.int y.r)) 163 (.int y.s);let S3:=Mo a rv st.length Ld;have h164:af S3 164=some (.lst (ah (cO rs c))):=(g5 _ (by decide)).trans ((ag _ (by decide) _).trans ((ag _ (by decide) _).trans ((ag _ (by decide) _).trans ((ag _ (by decide) _).trans (ab _ _ _)))));have h91:af S3 91=some (.int y.p):=(g5 _ (by decide)).trans ((ag _ (by decide) _).trans ((ag _ (by decide) _).trans ((ag _ (by decide) _).trans (ab _ _ _))));have h80:af S3 80=some (.int y.q):=(g5 _ (by decide)).trans ((ag _ (by decide) _).trans ((ag _ (by decide) _).trans (ab _ _ _)));have h75:af S3 75=some (.int y.r):=(g5 _ (by decide)).trans ((ag _ (by decide) _).trans (ab _ _ _));have h163:af S3 163=some (.int y.s):=(g5 _ (by decide)).trans (ab _ _ _);have hd:∀ s,cB s (.lst (ah (cO rs c))) (.int 0)=some (.int k):=λs=>by rw[Og];rfl
   have x2:aa ⟨run n⟩ (.sub (.l 90) (.sub (.l 164) (.int 0))) (Mo a rv st.length KS) s0=some (aV y,s0):=
    bW rfl (bW (ay Nb) rfl (hd _)) (Pu.sub ho MQ)
   let c1:=c.set y.p (c.getD y.p 0-y.q);have lc:(ah c).length=7:=by rw[length_map];exact hc
   let s1:St:=s0.set st.length (.list ((ah c).set y.p (.int ((c.getD y.p 0:Nat)-(y.q:Int)))))
   have x3:xS ⟨run n⟩ (.augI (.l 96) (.l 91) .Sub (.l 80)) S3 s0=some (.next,S3,s1):=
    r8 rfl (ay h91) (cG gc (dQ (by exact Q2 0x611411071151125111401103 [_,_] hc hyp rfl)) (by exact dU)) (ay h80) (cC rfl) (gk gc (by rw[lc];exact dU) (by exact dU))
   have Oh:(ah c).set y.p (.int ((c.getD y.p 0:Nat)-(y.q:Int)))=ah c1:=by
    have:((c.getD y.p 0:Nat):Int)-(y.q:Int)=((c.getD y.p 0-y.q:Nat):Int):=by exact CY
    rw[this];simp only[ah,c1,map_set]
   have QZ:s1[st.length]?=some (.list (ah c1)):=by
    rw[← Oh];exact getElem?_set_self (al gc)
   have Q7:c1.length=7:=by simp only[c1,length_set];exact hc
   let s2:St:=s1.set st.length (.list ((ah c1).set y.r (.int ((c1.getD y.r 0:Nat)+(y.s:Int)))))
   have x4:xS ⟨run n⟩ (.augI (.l 96) (.l 75) .Add (.l 163)) S3 s1=some (.next,S3,s2):=
    r8 rfl (ay h75) (cG QZ (dQ (by exact Q2 0x711511261141105111401103 [_,_] hyr Q7 rfl)) (by exact dU)) (ay h163) (cC rfl) (gk QZ (by rw[length_map,Q7];exact dU) (by exact dU))
   have Nx:(ah c1).set y.r (.int ((c1.getD y.r 0:Nat)+(y.s:Int)))=ah (gS c y):=by
    rw[← Oh];exact xb hc hR hq
   have PD:s2=(st++[AO.list (ah (gS c y))])++[AO.list (ah u)]:=by
    show(s0.set st.length _).set st.length _=_;rw[Nx,set_set];simp[s0,List.set_append]
   have Q8:s2[st.length+1]?=some (.list (ah u)):=by
    rw[PD];have:=aS (st++[AO.list (ah (gS c y))]) (AO.list (ah u))
    rwa [length_append,length_singleton]at this
   have x5:xS ⟨run n⟩ (.augI (.l 97) (.sub (.l 164) (.int 0)) .Add (.int 1)) S3 s2=some (.next,S3,s2.set (st.length+1) (.list ((ah u).set k (.int ((u.getD k 0:Nat)+(1:Int)))))):=
    r8 rfl (bW (ay h164) rfl (hd _)) (cG Q8 (dQ (by exact CZ)) (by exact bN)) rfl (cC rfl) (gk Q8 (by rw[length_map,hu];exact MQ) (by exact bN))
   have es3:s2.set (st.length+1) (.list ((ah u).set k (.int ((u.getD k 0:Nat)+(1:Int)))))=(st++[AO.list (ah (gS c y))])++[AO.list (ah (u.set k (u.getD k 0+1)))]:=by
    have:(ah u).set k (.int ((u.getD k 0:Nat)+(1:Int)))=ah (u.set k (u.getD k 0+1)):=by
     simp only[ah,map_set];rfl
    rw[this,PD];simp[List.set_append]
   rw[es3]at x5;obtain⟨Kh,r⟩:=ih (gS c y) (u.set k (u.getD k 0+1)) Ld (xc _ _) (by rw[length_set];exact hu) ht;refine⟨Kh,(bR (hk _) ((aR (Ki:=Mo a rv st.length KC) rfl).trans ((ae (Ki:=Mo a rv st.length KS) (aE x1 rfl)).trans ((ae (bG y1)).trans ((ae (Ki:=S3) (aE x2 rfl)).trans ((ae x3).trans ((ae x4).trans ((ae x5).trans bB)))))))).trans r⟩
noncomputable def fD (L:List Nat):List Nat:=(List.range 7).map λk=>L.count k
theorem H8 (n:Nat){a:Nat}{st:St}{rv:AV}{rs:cj}(h:RV st rv rs)(ho:K0 rs){L:List Nat}(hL:st[a]?=some (.list (ah L))){e v:List Nat}(ht:LW rs 31 (fD L) [0,0,0]=some (e,v)) :
  run (n+1) 5 [.obj a,rv] st=some (.tup [.obj st.length,.obj (st.length+1)],(st++[AO.list (ah e)])++[AO.list (ah v)]):=by
 have x1:aa ⟨run n⟩ (.new true (.comp (.sm .count (.l 95) [.l 92]) (.nm 92) (.bi .range1 [.int 7]) [] [95])) [(95,.obj a),(90,rv)] st=some (.obj st.length,st++[AO.list (ah (fD L))]):=by
  have:ah (fD L)=(List.range 7).map λk:Nat=>AV.int (L.count k:Nat):=by simp only[ah,fD,map_map];rfl
  rw[this];exact eH (bS (dn (P.e1 rfl) (aZ 7 (by decide))) (aL 7 (by decide)) (by decide) (aD (λk:Nat=>AV.int k) _ rfl (List.range 7) λk _=>lC rfl (gV rfl (cS hL) (P.e1 rfl) (jd hL k))))
 refine aw (l5 (a:=a) n h ho (ok:=λst=>an st (.rng 0 (31:Nat)) ((List.range 31).map λk:Nat=>AV.int k)) (λ_=>rfl) e v ((List.range 31).map λk:Nat=>AV.int k) (fD L) [0,0,0] [] (by simp[fD]) rfl (by rw[length_map,length_range];exact ht)) λKh r=>?_
 have x2:aa ⟨run n⟩ (.new true (.list [.int 0,.int 0,.int 0])) [(95,.obj a),(90,rv),(96,.obj st.length)] (st++[AO.list (ah (fD L))])=some (.obj (st.length+1),(st++[AO.list (ah (fD L))])++[AO.list (ah [0,0,0])]):=by
  have:=eH (X:=⟨run n⟩) (σ:=[(95,.obj a),(90,rv),(96,.obj st.length)]) (st:=st++[AO.list (ah (fD L))]) (cK (es:=[.int 0,.int 0,.int 0]) rfl)
  rwa [length_append,length_singleton]at this
 rw[E2,E3];exact bT (Ki:=Kh) rfl ((ae (Ki:=[(95,.obj a),(90,rv),(96,.obj st.length)]) (aE x1 rfl)).trans ((ae (Ki:=Mo a rv st.length []) (aE x2 rfl)).trans (cy (wa (dn (P.e1 rfl) (aZ 31 (by decide))) (aL 31 (by decide)) r))))
noncomputable def dR (W:List Nat)(m z:Nat):List Nat:=(List.range 10).map λt=>(((List.range (m+1)).filter λk=>decide (z*k<=t)).map λk=>W.getD (t-z*k) 0).sum
noncomputable def cq (rs:cj):List Nat:=(range' 1 9).foldl (λW z=>dR W (dB z rs).toNat z) ([1]++replicate 9 0)
theorem Cd (n:Nat)(a:List AV)(st:St):run (n+1) 11 a st=bE (run n) [90] HB a st:=rfl
noncomputable def Jb:E:=.bi .sum [.new false (.comp (.sub (.l 113) (.b .Sub (.l 191) (.b .Mult (.l 92) (.l 61)))) (.nm 61) (.l 167) [.val (.cmp .LtE (.b .Mult (.l 92) (.l 61)) (.l 191))] [92,191,113])]
noncomputable def Jc:List S:=[.asg (.nm 167) (.bi .range1 [.b .Add (.call 3 [.l 92,.l 90]) (.int 1)]),.asg (.nm 113) (.new false (.comp Jb (.nm 191) (.bi .range1 [.int 10]) [] [167,92,113]))]
theorem Ce:HB=[.asg (.nm 113) (.new false (.cat (.new false (.list [.int 1])) (.new false (.rep (.int 0) (.int 9))))),.for (.nm 92) (.bi .range2 [.int 1,.int 10]) Jc [],.ret (.l 113)]:=rfl
theorem J6 (n:Nat){st:St}{rv:AV}{rs:cj}(h:RV st rv rs)(LV:rs.length<=1000)(hm:∀ z,1<=z->z<=9->0<=dB z rs/\dB z rs<=100){ok:St->Bool}(hk:∀ st,ok st=true):∀ (zs:List Nat) (W:List Nat) (τ:Loc),(∀ z∈zs,1<=z/\z<=9)->W.length=10 ->
  ∃ Kw,bc ok (bV ⟨run (n+1)⟩ (.nm 92) Jc) (zs.map λk:Nat=>AV.int k) ((90,rv)::(113,.lst (ah W))::τ) st=some (.next,(90,rv)::(113,.lst (ah (zs.foldl (λW z=>dR W (dB z rs).toNat z) W)))::Kw,st):=by
 intro zs
 induction zs with
 |nil=>
  intro W τ _ _;exact⟨τ,hZ (hk _)⟩
 |cons z zs ih=>
  intro W τ hz hW;have OK:=hz z (by simp);have OP:=hm z OK.1 OK.2;let m:=(dB z rs).toNat;have em:dB z rs=(m:Int):=(zF OP.1).symm;let KC:=ai τ 92 (.int z);let KS:=ai KC 167 (.rng 0 ((m+1:Nat):Int));let S1:Loc:=(90,rv)::(113,.lst (ah W))::KC;let S2:Loc:=(90,rv)::(113,.lst (ah W))::KS
  have gg:∀ (τ:Loc) (y:Nat),Nat.beq 90 y=false->Nat.beq 113 y=false->af ((90,rv)::(113,.lst (ah W))::τ) y=af τ y:=λτ y h1 h2=>by
   simp only[af,h1,h2,if_false,reduceCtorEq]
  have Of:af S1 92=some (.int z):=(gg _ _ rfl rfl).trans (ab _ _ _);have g92':af S2 92=some (.int z):=(gg _ _ rfl rfl).trans ((ag _ (by decide) _).trans (ab _ _ _));have g167:af S2 167=some (.rng 0 ((m+1:Nat):Int)):=(gg _ _ rfl rfl).trans (ab _ _ _);have r3:=Cc n h LV OK;rw[em]at r3
  have x1:aa ⟨run (n+1)⟩ (.bi .range1 [.b .Add (.call 3 [.l 92,.l 90]) (.int 1)]) S1 st=some (.rng 0 ((m+1:Nat):Int),st):=
   dn (P.e1 (aj (be (e2 (ay Of) rfl) r3) rfl rfl)) (aZ (m+1) (zJ OP.2))
  have x2:aa ⟨run (n+1)⟩ (.new false (.comp Jb (.nm 191) (.bi .range1 [.int 10]) [] [167,92,113])) S2 st=some (.lst (ah (dR W m z)),st):=by
   have:ah (dR W m z)=(List.range 10).map λt:Nat=>AV.int ((((List.range (m+1)).filter λk=>decide (z*k<=t)).map λk=>W.getD (t-z*k) 0).sum:Nat):=by
    simp only[ah,dR,map_map];rfl
   rw[this];refine aH (bS (dn (P.e1 rfl) (aZ 10 (by decide))) (aL 10 (by decide)) (by decide) (aD (λk:Nat=>AV.int k) _ rfl (List.range 10) λt ht=>?_));have OQ:=mem_range.mp ht;let My:=ai (aX S2 [167,92,113]) 191 (.int t);have Q9:af My 92=some (.int z):=by rw[ag _ (by decide),ez rfl,g92']
   have k167:af My 167=some (.rng 0 ((m+1:Nat):Int)):=by rw[ag _ (by decide),ez rfl,g167]
   have k113:af My 113=some (.lst (ah W)):=by rw[ag _ (by decide),ez rfl];rfl
   have OS:af My 191=some (.int t):=ab _ _ _
   have sm:gy st .sum [.lst (((List.range (m+1)).filter λk=>decide (z*k<=t)).map λk=>AV.int (W.getD (t-z*k) 0:Nat))]=some (.int ((((List.range (m+1)).filter λk=>decide (z*k<=t)).map λk=>W.getD (t-z*k) 0).sum:Nat),st):=by
    have:(((List.range (m+1)).filter λk=>decide (z*k<=t)).map λk=>AV.int (W.getD (t-z*k) 0:Nat))=(((List.range (m+1)).filter λk=>decide (z*k<=t)).map λk=>W.getD (t-z*k) 0).map λk:Nat=>AV.int k:=by
     simp only[map_map];rfl
    rw[this];exact jI (cL _) (congrArg (λi=>some (AV.int i,st)) (nP _))
   refine lC rfl (dn (P.e1 (aH (bS (ay k167) (aL (m+1) (zJ OP.2)) (by simp;lia) (bK (λk=>decide (z*k<=t)) (λk:Nat=>AV.int k) (λk=>AV.int (W.getD (t-z*k) 0:Nat)) rfl (List.range (m+1)) λk hk=>?_)))) sm)
   have cc:aJ ⟨run (n+1)⟩ (.val (.cmp .LtE (.b .Mult (.l 92) (.l 61)) (.l 191))) (ai (aX My [92,191,113]) 61 (.int k)) st=some (decide (z*k<=t),st):=by
    refine bF (aj (gn Q9 rfl (by decide)) lO (dC z k (by exact mO))) (gn OS rfl (by decide)) ?_;exact congrArg some (decide_eq_decide.mpr ofNat_le)
   by_cases q:z*k<=t
   ·rw[decide_eq_true q]at cc ⊢;refine C1 rfl (uJ cc) (bW (gn k113 rfl (by decide)) (aj (v:=.int ((t-z*k:Nat):Int)) (gn OS rfl (by decide)) (aj (gn Q9 rfl (by decide)) lO (dC z k (by exact mO))) ?_) ?_)
    ·refine congrArg (λx=>some (AV.int x)) ?_;exact CY
    ·exact fN (dQ (by exact Q3 0x64110a1111160110a1151125111401104 [_,_,_] hW OQ (sub_le _ _) rfl)) (by exact Q2 0x5640111a1111150110f424051111401103 [_,_,_] OQ (sub_add_cancel (Q1 0x54110541102 [_,_] q rfl)) rfl)
   ·rw[decide_eq_false q]at cc ⊢;exact C3 rfl (uJ cc)
  refine aw (ih (dR W m z) KS (λy hy=>hz y (by simp[hy])) (by simp[dR])) λKw r=>?_;refine⟨Kw,?_⟩;rw[map_cons,foldl_cons];exact(bR (hk _) ((aR (Ki:=S1) rfl).trans ((ae (Ki:=S2) (aE x1 rfl)).trans ((ae (Ki:=(90,rv)::(113,.lst (ah (dR W m z)))::KS) (aE x2 rfl)).trans bB)))).trans r
theorem E4 (n:Nat){st:St}{rv:AV}{rs:cj}(h:RV st rv rs)(LV:rs.length<=1000)(hm:∀ z,1<=z->z<=9->0<=dB z rs/\dB z rs<=100):run (n+2) 11 [rv] st=some (.lst (ah (cq rs)),st):=by
 refine aw (J6 n h LV hm (ok:=λst=>an st (.rng (1:Nat) ((1+9:Nat):Int)) ((range' 1 9).map λk:Nat=>AV.int k)) (λ_=>rfl) (range' 1 9) ([1]++replicate 9 0) [] (by decide) rfl) λKw r=>?_;rw[Cd,Ce];refine bT (Ki:=(90,rv)::(113,.lst (ah (cq rs)))::Kw) rfl ((ae (Ki:=(90,rv)::(113,.lst (ah ([1]++replicate 9 0)))::[]) (aE (aH (wc rfl (aH (Bt (k:=9) rfl rfl (by decide) (by decide))) rfl rfl (by decide))) rfl)).trans ((ae (fp (dn (e2 (x:=.int (1:Nat)) (y:=.int (10:Nat)) rfl rfl) (fB 1 10 (by decide) (by decide))) (eM 1 9 (by decide)) r)).trans (cy (sR rfl))))
noncomputable def bl (a:Nat):Nat:=intBits (a:Int)
theorem sV (a:Nat):bl a=if a=0 then 0 else a.log2+1:=by
 unfold bl intBits;by_cases h:a=0
 ·simp[h]
 ·have:¬ ((a:Int)==0)=true:=by simp;exact bz
  rw[if_neg this,if_neg h,natAbs_natCast]
theorem fW (a:Nat):a<2^bl a:=by
 rw[sV];split
 ·exact JA
 ·exact Nat.lt_log2_self
theorem db {a k:Nat}(h:a<2^k):bl a<=k:=intBits_le (by rw[natAbs_natCast];exact h)
theorem xd {a:Nat}(h:a≠0):2^(bl a-1)<=a:=by
 rw[sV,if_neg h,Nat.add_sub_cancel];exact Nat.log2_self_le h
theorem lm {a:Nat}(h:a≠0):1<=bl a:=by rw[sV,if_neg h];exact CW
theorem gN {a k:Nat}(h:bl a+k<=134217728):aK .LShift (.int a) (.int k)=some (.int ((a*2^k:Nat):Int)):=by
 have h2:0<=(k:Int)/\(intBits (a:Int):Int)+k<=134217728:=⟨by exact jP,by have:bl a=intBits (a:Int):=rfl;exact yl⟩;have e:aK .LShift (.int a) (.int k)=if 0<=(k:Int)/\(intBits (a:Int):Int)+k<=2^27 then some (.int (a*2^(k:Int).toNat)) else none:=rfl
 rw[e,Ev,if_pos h2,toNat_natCast];simp
theorem gO {a k:Nat}(h:k<100000000):aK .RShift (.int a) (.int k)=some (.int ((a/2^k:Nat):Int)):=by
 have h2:0<=(k:Int)/\(k:Int)<2^60:=⟨by exact jP,by exact yl⟩;rw[sg h2,toNat_natCast,fdiv_eq_ediv_of_nonneg _ (by exact Int.le_of_lt (Int.pow_pos (by decide)))];simp
theorem lu (a k:Nat):aK .BitAnd (.int a) (.int ((2^k-1:Nat):Int))=some (.int ((a%2^k:Nat):Int)):=by
 refine congrArg (λx=>some (AV.int x)) ?_;rw[dH,Nat.and_two_pow_sub_one_eq_mod]
theorem xe {q r k:Nat}(h:r<2^k):aK .BitOr (.int ((q*2^k:Nat):Int)) (.int r)=some (.int ((q*2^k+r:Nat):Int)):=by
 refine congrArg (λx=>some (AV.int x)) ?_;rw[ja,mul_comm,← Nat.two_pow_add_eq_or_of_lt h]
theorem iK (k:Nat):aK .Sub (.int ((1*2^k:Nat):Int)) (.int 1)=some (.int ((2^k-1:Nat):Int)):=by
 have:0<2^k:=pow_pos (by decide);refine congrArg (λx=>some (AV.int x)) ?_;rw[one_mul];exact CY
theorem nQ {a b:Nat}(h:bl a+bl b<=134217728):eB a b=true:=by
 have h1:intTooBig ((intBits (a:Int):Int)+(intBits (b:Int):Int))=false:=by
  have e:(intBits (a:Int):Int)+(intBits (b:Int):Int)<=134217728:=by
   have e1:bl a=intBits (a:Int):=rfl;have e2:bl b=intBits (b:Int):=rfl;exact yl
  unfold intTooBig bitsLine
  exact decide_eq_false (by
   have:((2^27:Nat):Int)=134217728:=rfl
   lia)
 simp only[eB,h1,Bool.and_false,Bool.not_false]
theorem Cf:bl 1<=1:=db (by decide)
theorem Jd (P x:Nat)(h:0<P):(P-1)*x+x=P*x:=by
 have:=succ_mul (P-1) x;rw[succ_eq_add_one,sub_add_cancel h]at this;exact this.symm
theorem gP {k:Nat}(h:k<=1000000):aK .LShift (.int 1) (.int k)=some (.int ((1*2^k:Nat):Int)):=by
 have:=gN (a:=1) (k:=k) (by have:=Cf;exact Dj)
 rwa [show((1:Nat):Int)=1 from rfl]at this
theorem Cg (n:Nat)(a:List AV)(st:St):run (n+1) 15 a st=bE (run n) [71,72,67,73,74,0] Hw a st:=rfl
noncomputable def H9:List S:=[.aug 80 .Sub (.int 1),.aug 75 .Add (.l 67)]
noncomputable def Ia:C:=.val (.cmp .Lt (.l 75) (.int 0))
noncomputable def Je:S:=.iff (.val (.cmp .Eq (.b .RShift (.l 71) (.l 0)) (.l 73))) [.asg2 [80,75] [.b .Sub (.b .LShift (.int 1) (.l 0)) (.int 1),.b .Add (.b .Sub (.l 71) (.b .LShift (.l 73) (.l 0))) (.l 73)]] [.asg (.tup [80,75]) (.call 14 [.l 71,.l 73,.l 0])]
theorem Ch:Hw=[Je,.asg (.nm 75) (.b .Sub (.b .BitOr (.b .LShift (.l 75) (.l 0)) (.l 72)) (.b .Mult (.l 80) (.l 74))),.whl Ia H9,.ret (.tup [.l 80,.l 75])]:=rfl
noncomputable def MG (KQ a3 b b1 b2 n:Nat)(τ:Loc):Loc:=(71,.int KQ)::(72,.int a3)::(67,.int b)::(73,.int b1)::(74,.int b2)::(0,.int n)::τ
section
variable {KQ a3 b b1 b2 n:Nat}
theorem gd {τ:Loc}(y:Nat)(h:([71,72,67,73,74,0]:List Nat).all (λz=>!Nat.beq z y)=true):af (MG KQ a3 b b1 b2 n τ) y=af τ y:=by
 simp only[all_cons,all_nil,Bool.and_true,and_eq_true,not_eq_true']at h;refine Dg h ?_;clear h;intro h1 h2 h3 h4 h5 h6;simp only[MG,af,h1,h2,h3,h4,h5,h6,if_false,reduceCtorEq]
theorem rC {X:Cx}{τ:Loc}{st:St}{r:Int}(h:af τ 75=some (.int r)):aJ X Ia (MG KQ a3 b b1 b2 n τ) st=some (decide (r<0),st):=
 bF (ay ((gd _ (by decide)).trans h)) rfl rfl
theorem Ci {X:Cx}{τ:Loc}{st:St}{q r:Int}(h:af τ 75=some (.int r))(h2:af τ 80=some (.int q)):∃ Kw,cw X H9 (MG KQ a3 b b1 b2 n τ) st=some (.next,MG KQ a3 b b1 b2 n Kw,st)/\af Kw 75=some (.int (r+b))/\af Kw 80=some (.int (q-1)):=by
 let KC:=ai τ 80 (.int (q-1));have Qe:af KC 75=some (.int r):=(ag _ (by decide) _).trans h;refine⟨ai KC 75 (.int (r+b)),?_,ab _ _ _,(ag _ (by decide) _).trans (ab _ _ _)⟩;refine(ae (Ki:=MG KQ a3 b b1 b2 n KC) (jK ((gd _ (by decide)).trans h2) rfl (cC rfl))).trans ?_;exact(ae (Ki:=MG KQ a3 b b1 b2 n (ai KC 75 (.int (r+b)))) (jK ((gd _ (by decide)).trans Qe) rfl (cC rfl))).trans bB
theorem Jf {X:Cx}{st:St}:∀ (k:Nat) (τ:Loc) (q r:Int) (fuel:Nat),af τ 75=some (.int r)->af τ 80=some (.int q)->r<b->0<=r+k*b->k<fuel ->
  ∃ (Kw:Loc) (q' r':Int),fZ (aJ X Ia) (cw X H9) fuel (MG KQ a3 b b1 b2 n τ) st=some (.next,MG KQ a3 b b1 b2 n Kw,st)/\af Kw 75=some (.int r')/\af Kw 80=some (.int q')/\0<=r'/\r'<b/\q'*b+r'=q*b+r
 |0,τ,q,r,f+1,h1,h2,hb,hk,_=>⟨τ,q,r,fy (by rw[rC h1,decide_eq_false (by lia)]),h1,h2,by lia,hb,rfl⟩
 |k+1,τ,q,r,f+1,h1,h2,hb,hk,hf=>by
  by_cases hr:r<0
  ·refine cU (Ci (X:=X) (st:=st) (KQ:=KQ) (a3:=a3) (b:=b) (b1:=b1) (b2:=b2) (n:=n) h1 h2) λKC e g1 g2=>?_
   refine uO (Jf (X:=X) (st:=st) k KC (q-1) (r+b) f g1 g2 (by lia) (by
    have:((k+1:Nat):Int)*(b:Int)=(k:Int)*b+b:=by rw[Int.natCast_add,Int.add_mul];simp
    lia) (by exact Do)) λKw q' r' e' Mg MD Ni h4' h5'=>?_
   refine⟨Kw,q',r',?_,Mg,MD,Ni,h4',?_⟩
   ·rw[ia (by rw[rC h1,decide_eq_true hr]) e,e']
   ·rw[h5',Int.sub_mul];lia
  ·exact⟨τ,q,r,fy (by rw[rC h1,decide_eq_false hr]),h1,h2,by lia,hb,rfl⟩
theorem uD {a b:Nat}{q r:Int}(h:q*b+r=a)(h0:0<=r)(h1:r<b):q=((a/b:Nat):Int)/\r=((a%b:Nat):Int):=by
 have hb:0<(b:Int):=Int.lt_of_le_of_lt h0 h1
 have e1:(a:Int)/b=q:=by
  rw[← h,Int.add_comm,Int.add_mul_ediv_right _ _ (by lia),Int.ediv_eq_zero_of_lt h0 h1];lia
 have e2:(a:Int)%b=r:=by
  rw[← h,Int.add_comm,Int.add_mul_emod_self_right,Int.emod_eq_of_lt h0 h1]
 exact⟨by rw[← e1];simp,by rw[← e2];simp⟩
noncomputable def E5 (C:jD)(n:Nat):Prop:=∀ (a b:Nat) (st:St),bl b=n->0<b->a<2^n*b->C 14 [.int a,.int b,.int n] st=some (.tup [.int ((a/b:Nat):Int),.int ((a%b:Nat):Int)],st)
theorem Ax (m:Nat)(hD:E5 (run m) n)(hn:n<=100000)(NA:bl b1=n)(Mz:0<b1)(hb:b=b1*2^n+b2)(M9:b2<2^n)(OT:a3<2^n)(ha:KQ<b)(st:St) :
  run (m+1) 15 [.int KQ,.int a3,.int b,.int b1,.int b2,.int n] st=some (.tup [.int (((KQ*2^n+a3)/b:Nat):Int),.int (((KQ*2^n+a3)%b:Nat):Int)],st):=by
 have P0:0<2^n:=pow_pos (by decide);have Lj:b1<2^n:=by rw[← NA];exact fW b1
 have Ob:2^(n-1)<=b1:=by rw[← NA];exact xd (by exact qe)
 have MC:1<=n:=by rw[← NA];exact lm (by exact qe)
 have P1:2^n=2*2^(n-1):=by
  have:=pow_succ (n:=2) (m:=n-1);rw[succ_eq_add_one,sub_add_cancel MC]at this;exact le_antisymm (Q1 0x52134111521241102 [_,_] this rfl) (Q1 0x42135112542121102 [_,_] this rfl)
 have N1:b<2^(n+n):=by
  rw[pow_add,hb]
  have:b1*2^n+2^n<=2^n*2^n:=by
   rw[← succ_mul];exact mul_le_mul_right _ Lj
  exact Q2 0x6740110711150110611154001103 [_,_,_,_] M9 this rfl
 have hbla:bl KQ<=n+n:=db (lt_trans ha N1);let X:Cx:=⟨run m⟩
 have step:∃ (τ:Loc) (q r:Nat),xS X Je (MG KQ a3 b b1 b2 n []) st=some (.next,MG KQ a3 b b1 b2 n τ,st)/\af τ 80=some (.int q)/\af τ 75=some (.int r)/\KQ=q*b1+r/\q<2^n/\(r<b1\/q=2^n-1)/\r<2^(n+1):=by
  have KP:aK .RShift (.int KQ) (.int n)=some (.int ((KQ/2^n:Nat):Int)):=gO (by exact dU)
  have hc:bJ st .Eq (.int ((KQ/2^n:Nat):Int)) (.int b1)=some (decide (KQ/2^n=b1)):=by
   rw[bJ,gG];exact congrArg some (decide_eq_decide.mpr Int.ofNat_inj)
  by_cases q:KQ/2^n=b1
  ·rw[decide_eq_true q]at hc;have OU:=div_add_mod KQ (2^n);rw[q,mul_comm]at OU;have hmod:KQ%2^n<2^n:=mod_lt _ P0;have s1:aK .LShift (.int 1) (.int n)=some (.int ((1*2^n:Nat):Int)):=gP (by exact bN);have s2:aK .LShift (.int b1) (.int n)=some (.int ((b1*2^n:Nat):Int)):=gN (by exact Q2 0x54111186a05152108000000715401103 [_,_] hn NA rfl)
   have s3:aK .Sub (.int KQ) (.int ((b1*2^n:Nat):Int))=some (.int ((KQ%2^n:Nat):Int)):=by
    have e:(KQ:Int)-((b1*2^n:Nat):Int)=((KQ%2^n:Nat):Int):=yd OU;show some (AV.int ((KQ:Int)-((b1*2^n:Nat):Int)))=_;rw[e]
   refine⟨[(75,.int ((KQ%2^n+b1:Nat):Int)),(80,.int ((2^n-1:Nat):Int))],2^n-1,KQ%2^n+b1,?_,rfl,rfl,?_,by exact Q1 0x5111401115111401102 [_,_] (sub_add_cancel (Q1 0x411101011041111102 [_] P0 rfl)) rfl,.inr rfl,by rw[pow_succ];exact Q5 0xa4801116111501107111a01106111901109807111621311154001106 [_,_,_,_,_,_,_] hb M9 ha Lj OU rfl⟩
   ·refine(dN (bF (aj rfl rfl KP) rfl hc)).trans ((ae (vZ (e2 (aj (aj rfl rfl s1) rfl (iK n)) (aj (aj rfl (aj rfl rfl s2) s3) rfl (cT _ _))) rfl)).trans bB)
   ·have:(2^n-1)*b1+b1=b1*2^n:=by
     rw[Jd _ _ P0,mul_comm]
    exact le_antisymm (Q2 0x875011246801127605041103 [_,_,_,_,_] OU this rfl) (Q2 0x864011175801117650401103 [_,_,_,_,_] OU this rfl)
  ·rw[decide_eq_false q]at hc
   have hle:KQ/2^n<=b1:=by
    have:KQ<(b1+1)*2^n:=by rw[add_mul,one_mul];exact Q3 0x7111401106111801108507111650111401104 [_,_,_,_,_] hb M9 ha rfl
    have:=(div_lt_iff_lt_mul P0).mpr this;exact Do
   have OV:KQ<2^n*b1:=by
    have:KQ/2^n<b1:=Nat.lt_of_le_of_ne hle q;have:=(div_lt_iff_lt_mul P0).mp this;rw[mul_comm];exact this
   have e14:=hD KQ b1 st NA Mz OV;refine⟨[(80,.int ((KQ/b1:Nat):Int)),(75,.int ((KQ%b1:Nat):Int))],KQ/b1,KQ%b1,?_,rfl,rfl,?_,?_,.inl (mod_lt _ Mz),?_⟩
   ·exact(kT (bF (aj rfl rfl KP) rfl hc)).trans ((ae (aE (be (e3 rfl rfl rfl) e14) rfl)).trans bB)
   ·rw[mul_comm];exact(div_add_mod KQ b1).symm
   ·exact(div_lt_iff_lt_mul Mz).mpr OV
   ·have:=mod_lt KQ Mz;rw[pow_succ];exact Q2 0x6111401105111601105213111401103 [_,_,_] Lj this rfl
 refine GR step ?_;clear step;intro τ q r x1 Oi Qe hqr hq hr Od;have hblr:bl r<=n+1:=db Od;have s1:aK .LShift (.int r) (.int n)=some (.int ((r*2^n:Nat):Int)):=gN (by exact Q2 0x111504110186a05152108000000715401103 [_,_] hn hblr rfl)
 have s2:aK .Mult (.int q) (.int b2)=some (.int ((q*b2:Nat):Int)):=by
  rw[sf (nQ (le_trans (add_le_add (le_trans (db hq) hn) (le_trans (db M9) hn)) (by decide)))];simp
 let r0:Int:=((r*2^n+a3:Nat):Int)-((q*b2:Nat):Int)
 have x2:aa X (.b .Sub (.b .BitOr (.b .LShift (.l 75) (.l 0)) (.l 72)) (.b .Mult (.l 80) (.l 74))) (MG KQ a3 b b1 b2 n τ) st=some (.int r0,st):=
  aj (aj (aj (ay ((gd _ (by decide)).trans Qe)) rfl s1) rfl (xe OT)) (aj (ay ((gd _ (by decide)).trans Oi)) rfl s2) rfl
 have ident:(q:Int)*b+r0=((KQ*2^n+a3:Nat):Int):=by
  have:q*b+(r*2^n+a3)=KQ*2^n+a3+q*b2:=by
   rw[hqr,hb,mul_add,add_mul,mul_assoc];exact le_antisymm (Q0 0x576400076054001101 [_,_,_,_] rfl) (Q0 0x650740076540001101 [_,_,_,_] rfl)
  have h3:(q:Int)*b=((q*b:Nat):Int):=by simp
  simp only[r0];rw[h3];exact Jr this
 have Pu:r0<b:=by
  rcases hr with h |h
  ·have:r*2^n+2^n<=b1*2^n:=by
    rw[← succ_mul];exact mul_le_mul_right _ h
   exact GC (lt_of_lt_of_le (add_lt_add_left OT _) (le_trans this (qf (le_add_right ..) hb.symm)))
  ·have h4:KQ*2^n+a3<2^n*b:=by
    have:KQ*2^n+2^n<=b*2^n:=by
     rw[← succ_mul];exact mul_le_mul_right _ ha
    rw[mul_comm (2^n) b];exact Q2 0x6740110711150110611154001103 [_,_,_,_] OT this rfl
   have h5:(2^n-1)*b+b=2^n*b:=Jd _ _ P0;have h3:(q:Int)*b=((q*b:Nat):Int):=by simp
   rw[h3,h]at ident;exact GD ident h4 h5
 have MR:0<=r0+(2:Nat)*b:=by
  have h1:q*b2<=2^n*2^n:=mul_le_mul (by exact G3) (by exact G3)
  have h2:2^n*2^n<=2*(b1*2^n):=by
   rw[← mul_assoc];exact mul_le_mul_right _ (by exact Q2 0x6212411156210521241103 [_,_,_] Ob P1 rfl)
  simp only[r0];have:((2:Nat):Int)*(b:Int)=2*b:=by simp
  rw[this];exact Da (le_trans h1 (le_trans h2 (mul_le_mul_left 2 (qf (le_add_right ..) hb.symm))))
 refine uO (Jf (X:=X) (st:=st) (KQ:=KQ) (a3:=a3) (b:=b) (b1:=b1) (b2:=b2) (n:=n) 2 (ai τ 75 (.int r0)) q r0 jm (ab _ _ _) ((ag _ (by decide) _).trans Oi) Pu MR (by simp[jm])) λKw q' r' x3 g75' g80' h0 h1 h5=>?_;refine av (uD (h5.trans ident) h0 h1) λeq er=>?_;rw[Cg,Ch];refine bT (Ki:=MG KQ a3 b b1 b2 n Kw) rfl ((ae x1).trans ((ae (Ki:=MG KQ a3 b b1 b2 n (ai τ 75 (.int r0))) (aE x2 rfl)).trans ((ae (Br.trans x3)).trans (cy (sR (kU (e2 (ay (((gd _ (by decide)).trans g80').trans (by rw[eq]))) (ay (((gd _ (by decide)).trans g75').trans (by rw[er]))))))))))
end
theorem Cj (n:Nat)(a:List AV)(st:St):run (n+1) 14 a st=bE (run n) [66,67,0] Hv a st:=rfl
noncomputable def Jg:S:=.iff (.val (.cmp .LtE (.b .Sub (.sm .bitlen (.l 66) []) (.l 0)) (.dlim))) [.ret (.bi .divmod [.l 66,.l 67])] []
noncomputable def Ib:S:=.iff (.val (.l 68)) [.aug 66 .LShift (.int 1),.aug 67 .LShift (.int 1),.aug 0 .Add (.int 1)] []
noncomputable def Ic:List S:=[.asg (.nm 69) (.b .RShift (.l 0) (.int 1)),.asg (.nm 70) (.b .Sub (.b .LShift (.int 1) (.l 69)) (.int 1)),.asg2 [73,74] [.b .RShift (.l 67) (.l 69),.b .BitAnd (.l 67) (.l 70)],.asg (.tup [136,75]) (.call 15 [.b .RShift (.l 66) (.l 0),.b .BitAnd (.b .RShift (.l 66) (.l 69)) (.l 70),.l 67,.l 73,.l 74,.l 69]),.asg (.tup [137,75]) (.call 15 [.l 75,.b .BitAnd (.l 66) (.l 70),.l 67,.l 73,.l 74,.l 69]),.iff (.val (.l 68)) [.aug 75 .RShift (.int 1)] [],.ret (.tup [.b .BitOr (.b .LShift (.l 136) (.l 69)) (.l 137),.l 75])]
theorem rD:Hv=Jg::.asg (.nm 68) (.b .BitAnd (.l 0) (.int 1))::Ib::Ic:=rfl
noncomputable def K6 (a b n:Nat)(τ:Loc):Loc:=(66,.int a)::(67,.int b)::(0,.int n)::τ
theorem digits_le (x:Nat):(if ((x:Int)==0)=true then 0 else (x:Int).natAbs.log2/30+1)=if x=0 then 0 else (bl x-1)/30+1:=by
 by_cases h:x=0
 ·subst h;rfl
 ·have:¬ ((x:Int)==0)=true:=by simp;exact bz
  rw[if_neg this,if_neg h,sV,if_neg h,natAbs_natCast,Nat.add_sub_cancel]
theorem E6 {a b:Nat}(h:bl a<=bl b+4000)(hb:b≠0):divisionGoesByPylong a b=false:=by
 unfold divisionGoesByPylong;simp only[digits_le,if_neg hb];have NA:=lm hb;by_cases q:a=0
 ·rw[if_pos q];simp
 ·rw[if_neg q];have:¬ ((bl a-1)/30+1>(bl b-1)/30+1+150):=by exact not_lt.mpr (Q6 0x1e21111b0110ab51e2201127111a01128941e22011168110fa0317061109621111500111401e207 [_,_,_,_,_,_,_,_] h (sub_le _ _) (div_add_mod _ _) (sub_add_cancel (Q1 0x411111041111102 [_] NA rfl)) (div_add_mod _ _) (mod_lt _ (by decide)) rfl)
  rw[decide_eq_false this,Bool.and_false]
theorem pP (a b:Nat):(a:Int).fdiv b=((a/b:Nat):Int):=by
 rw[fdiv_eq_ediv_of_nonneg _ (by exact jP)];rfl
theorem xf (a b:Nat):(a:Int).fmod b=((a%b:Nat):Int):=by
 rw[Int.fmod_eq_emod_of_nonneg _ (by exact jP)];rfl
section
variable {a b h:Nat}
theorem zg (hb:bl b=2*h)(LP:0<b)(h1:1<=h):bl (b/2^h)=h/\0<b/2^h:=by
 have P:0<2^h:=pow_pos (by decide)
 have u:b<2^h*2^h:=by
  have:=fW b
  rwa [hb,show 2*h=h+h by exact IU,pow_add]at this
 have l:2^(h-1)*2^h<=b:=by
  have:=xd (a:=b) (by exact qe)
  rwa [hb,show 2*h-1=(h-1)+h by exact le_antisymm (Q2 0x61115011262121114011165041103 [_,_,_] (sub_add_cancel (Q1 0x411111042121111102 [_] h1 rfl)) (sub_add_cancel (Q1 0x411111041111102 [_] h1 rfl)) rfl) (Q2 0x51114011152121116011265401103 [_,_,_] (sub_add_cancel (Q1 0x411111042121111102 [_] h1 rfl)) (sub_add_cancel (Q1 0x411111041111102 [_] h1 rfl)) rfl),pow_add]at this
 have u1:b/2^h<2^h:=(div_lt_iff_lt_mul P).mpr u;have l1:2^(h-1)<=b/2^h:=(Nat.le_div_iff_mul_le P).mpr l;have hp:0<2^(h-1):=pow_pos (by decide);have Nq:0<b/2^h:=by exact AQ
 refine⟨le_antisymm (db u1) ?_,Nq⟩;have:=fW (b/2^h);have h3:h-1<bl (b/2^h):=(Nat.pow_lt_pow_iff_right (by decide)).mp (lt_of_le_of_lt l1 this);exact Q2 0x411160112511160110541103 [_,_,_] h3 (sub_add_cancel (Q1 0x411111041111102 [_] h1 rfl)) rfl
theorem xg (m:Nat)(hD:E5 (run m) h)(hh:h<=50000)(h1:1<=h)(hb:bl b=2*h)(LP:0<b)(ha:a<2^(2*h)*b)(hbits:bl a<=400000)(st:St)(pad:Nat)(hpad:pad=0\/pad=1) :
  ∃ Kh,cw ⟨run (m+1)⟩ Ic (K6 a b (2*h) [(68,.int pad)]) st=some (.ret (.tup [.int ((a/b:Nat):Int),.int ((if pad=1 then a%b/2 else a%b:Nat):Int)]),Kh,st):=by
 have P:0<2^h:=pow_pos (by decide);refine av (zg hb LP h1) λNA Mz=>?_;let b1:=b/2^h;let b2:=b%2^h
 have Ra:b=b1*2^h+b2:=by
  have:=div_add_mod b (2^h);rw[mul_comm]at this;exact this.symm
 have M9:b2<2^h:=mod_lt _ P;have pp:2^(2*h)=2^h*2^h:=by rw[show 2*h=h+h by exact IU,pow_add]
 have ha12:a/2^(2*h)<b:=(div_lt_iff_lt_mul (by rw[pp];exact Nat.mul_pos P P)).mpr (by rw[mul_comm];exact ha)
 have hhi:a/2^(2*h)*2^h+a/2^h%2^h=a/2^h:=by
  have:=div_add_mod (a/2^h) (2^h);rw[Nat.div_div_eq_div_mul,← pp,mul_comm]at this;exact this
 let q1:=a/2^h/b;let r1:=a/2^h%b
 have e1:run (m+1) 15 [.int ((a/2^(2*h):Nat):Int),.int ((a/2^h%2^h:Nat):Int),.int b,.int b1,.int b2,.int h] st=some (.tup [.int q1,.int r1],st):=by
  have:=Ax m hD (by exact bN) NA Mz Ra M9 (mod_lt (a/2^h) P) ha12 st;rw[hhi]at this;exact this
 have Nc:r1<b:=mod_lt _ LP;let q2:=(r1*2^h+a%2^h)/b;let r2:=(r1*2^h+a%2^h)%b
 have e2':run (m+1) 15 [.int r1,.int ((a%2^h:Nat):Int),.int b,.int b1,.int b2,.int h] st=some (.tup [.int q2,.int r2],st):=
  Ax m hD (by exact bN) NA Mz Ra M9 (mod_lt a P) Nc st
 have hlo:a%2^h<2^h:=mod_lt _ P
 have Qd:q2<2^h:=by
  refine(div_lt_iff_lt_mul LP).mpr ?_
  have:r1*2^h+2^h<=b*2^h:=by
   rw[← succ_mul];exact mul_le_mul_right _ Nc
  rw[mul_comm (2^h) b];exact Q2 0x6740110711150110611154001103 [_,_,_,_] hlo this rfl
 have main:(q1*2^h+q2)*b+r2=a:=by
  have d1:=div_add_mod (a/2^h) b;have d2:=div_add_mod (r1*2^h+a%2^h) b;have d3:=div_add_mod a (2^h);have m1:q1*2^h*b=b*q1*2^h:=by rw[mul_comm (q1*2^h) b,mul_assoc]
  have m2:(b*q1+r1)*2^h=b*q1*2^h+r1*2^h:=add_mul _ _ _;have m3:b*q1+r1=a/2^h:=d1;have m4:b*q2+r2=r1*2^h+a%2^h:=d2;rw[m3,mul_comm]at m2;rw[add_mul,m1,mul_comm q2 b];exact le_antisymm (Q3 0x840a11279a01119806501117654001104 [_,_,_,_,_,_,_] d2 d3 m2 rfl) (Q3 0x850a11149a01129807601127650041104 [_,_,_,_,_,_,_] d2 d3 m2 rfl)
 have MT:r2<b:=mod_lt _ LP
 have fq:q1*2^h+q2=a/b:=by
  have:=(Nat.div_mod_unique LP (a:=a) (c:=r2) (d:=q1*2^h+q2)).mpr ⟨by rw[mul_comm b];exact le_antisymm (Q1 0x645011165401102 [_,_,_] main rfl) (Q1 0x456011265041102 [_,_,_] main rfl),MT⟩;exact this.1.symm
 have fr:r2=a%b:=by
  have:=(Nat.div_mod_unique LP (a:=a) (c:=r2) (d:=q1*2^h+q2)).mpr ⟨by rw[mul_comm b];exact le_antisymm (Q1 0x645011165401102 [_,_,_] main rfl) (Q1 0x456011265041102 [_,_,_] main rfl),MT⟩;exact this.2.symm
 have s0:aK .RShift (.int ((2*h:Nat):Int)) (.int 1)=some (.int h):=by
  have:=gO (a:=2*h) (k:=1) (by decide);rw[show 2*h/2^1=h by exact le_antisymm (Q1 0x5212642120111542102 [_,_,_] (div_add_mod _ _) rfl) (Q2 0x211111601104212652120112542103 [_,_,_] (div_add_mod _ _) (mod_lt _ (by decide)) rfl)]at this;exact this
 have hblq:bl q1<=400000:=db (lt_of_le_of_lt (le_trans (div_le_self _ _) (div_le_self _ _)) (lt_of_lt_of_le (fW a) (pow_le_pow_right (by decide) hbits)));let KC:Loc:=[(68,.int pad),(69,.int h)];let KS:Loc:=[(68,.int pad),(69,.int h),(70,.int ((2^h-1:Nat):Int))];let Ld:Loc:=[(68,.int pad),(69,.int h),(70,.int ((2^h-1:Nat):Int)),(74,.int b2),(73,.int b1)];let Ll:Loc:=[(68,.int pad),(69,.int h),(70,.int ((2^h-1:Nat):Int)),(74,.int b2),(73,.int b1),(136,.int q1),(75,.int r1)];let Ln:Loc:=[(68,.int pad),(69,.int h),(70,.int ((2^h-1:Nat):Int)),(74,.int b2),(73,.int b1),(136,.int q1),(75,.int r2),(137,.int q2)]
 have v0:aa ⟨run (m+1)⟩ (.b .Sub (.b .LShift (.int 1) (.l 69)) (.int 1)) (K6 a b (2*h) KC) st=some (.int ((2^h-1:Nat):Int),st):=
  aj (x:=.int ((1*2^h:Nat):Int)) (y:=.int 1) (aj (x:=.int 1) (y:=.int h) rfl rfl (gP (by exact bN))) rfl (iK h)
 have v6:aa ⟨run (m+1)⟩ (.b .RShift (.l 67) (.l 69)) (K6 a b (2*h) KS) st=some (.int b1,st):=aj rfl rfl (gO (by exact dU));have v7:aa ⟨run (m+1)⟩ (.b .BitAnd (.l 67) (.l 70)) (K6 a b (2*h) KS) st=some (.int b2,st):=aj rfl rfl (lu b h);have v8:aa ⟨run (m+1)⟩ (.b .RShift (.l 0) (.int 1)) (K6 a b (2*h) [(68,.int pad)]) st=some (.int h,st):=aj rfl rfl s0;have v1:aa ⟨run (m+1)⟩ (.b .RShift (.l 66) (.l 0)) (K6 a b (2*h) Ld) st=some (.int ((a/2^(2*h):Nat):Int),st):=aj rfl rfl (gO (by exact Q1 0xc3504142105f5e10071111421201102 [_] hh rfl));have v2:aa ⟨run (m+1)⟩ (.b .BitAnd (.b .RShift (.l 66) (.l 69)) (.l 70)) (K6 a b (2*h) Ld) st=some (.int ((a/2^h%2^h:Nat):Int),st):=aj (aj rfl rfl (gO (by exact dU))) rfl (lu _ h);have v3:aN ⟨run (m+1)⟩ [.l 67,.l 73,.l 74,.l 69] (K6 a b (2*h) Ld) st=some ([.int b,.int b1,.int b2,.int h],st):=rfl;have v4:aa ⟨run (m+1)⟩ (.b .BitAnd (.l 66) (.l 70)) (K6 a b (2*h) Ll) st=some (.int ((a%2^h:Nat):Int),st):=aj rfl rfl (lu a h);have v5:aN ⟨run (m+1)⟩ [.l 67,.l 73,.l 74,.l 69] (K6 a b (2*h) Ll) st=some ([.int b,.int b1,.int b2,.int h],st):=rfl
 have w1:aa ⟨run (m+1)⟩ (.call 15 [.b .RShift (.l 66) (.l 0),.b .BitAnd (.b .RShift (.l 66) (.l 69)) (.l 70),.l 67,.l 73,.l 74,.l 69]) (K6 a b (2*h) Ld) st=some (.tup [.int q1,.int r1],st):=by
  refine be (fu v1 (fu v2 v3)) ?_;exact e1
 have w2:aa ⟨run (m+1)⟩ (.call 15 [.l 75,.b .BitAnd (.l 66) (.l 70),.l 67,.l 73,.l 74,.l 69]) (K6 a b (2*h) Ll) st=some (.tup [.int q2,.int r2],st):=by
  have v9:aa ⟨run (m+1)⟩ (.l 75) (K6 a b (2*h) Ll) st=some (.int r1,st):=rfl;refine be (fu v9 (fu v4 v5)) ?_;exact e2'
 have pre:∀ R:Rs,cw ⟨run (m+1)⟩ [.iff (.val (.l 68)) [.aug 75 .RShift (.int 1)] [],.ret (.tup [.b .BitOr (.b .LShift (.l 136) (.l 69)) (.l 137),.l 75])] (K6 a b (2*h) Ln) st=R->cw ⟨run (m+1)⟩ Ic (K6 a b (2*h) [(68,.int pad)]) st=R:=by
  intro R hR;refine(ae (Ki:=K6 a b (2*h) KC) (aE v8 rfl)).trans ?_;refine(ae (Ki:=K6 a b (2*h) KS) (aE v0 rfl)).trans ?_;refine(ae (Ki:=K6 a b (2*h) Ld) (vZ (e2 v6 v7) rfl)).trans ?_;refine(ae (Ki:=K6 a b (2*h) Ll) (aE w1 rfl)).trans ?_;refine(ae (Ki:=K6 a b (2*h) Ln) (aE w2 rfl)).trans ?_;exact hR
 have fin:∀ (τ:Loc) (r:Nat),af τ 136=some (.int q1)->af τ 69=some (.int h)->af τ 137=some (.int q2)->af τ 75=some (.int r)->cw ⟨run (m+1)⟩ [.ret (.tup [.b .BitOr (.b .LShift (.l 136) (.l 69)) (.l 137),.l 75])] (K6 a b (2*h) τ) st=some (.ret (.tup [.int ((a/b:Nat):Int),.int r]),K6 a b (2*h) τ,st):=by
  intro τ r g1 g2 g3 g4
  have ge:∀ y,Nat.beq 66 y=false->Nat.beq 67 y=false->Nat.beq 0 y=false->af (K6 a b (2*h) τ) y=af τ y:=λy h1 h2 h3=>by
   simp only[K6,af,h1,h2,h3,if_false,reduceCtorEq]
  have:=xe (q:=q1) (k:=h) Qd;rw[fq]at this;exact cy (sR (kU (e2 (aj (aj (ay ((ge _ rfl rfl rfl).trans g1)) (ay ((ge _ rfl rfl rfl).trans g2)) (gN (by exact Dn))) (ay ((ge _ rfl rfl rfl).trans g3)) this) (ay ((ge _ rfl rfl rfl).trans g4)))))
 rcases hpad with rfl |rfl
 ·refine⟨K6 a b (2*h) Ln,pre _ ((ae (bG (fh rfl rfl))).trans ?_)⟩;rw[if_neg (by decide),← fr];exact fin Ln r2 rfl rfl rfl rfl
 ·have s1:lG .RShift (.int r2) (.int 1)=some (.int ((r2/2:Nat):Int)):=by
   have:=gO (a:=r2) (k:=1) (by decide);have e:lG .RShift (.int r2) (.int 1)=aK .RShift (.int r2) (.int ((1:Nat):Int)):=rfl;rw[e,this]
  let Qf:Loc:=[(68,.int 1),(69,.int h),(70,.int ((2^h-1:Nat):Int)),(74,.int b2),(73,.int b1),(136,.int q1),(75,.int ((r2/2:Nat):Int)),(137,.int q2)];refine⟨K6 a b (2*h) Qf,pre _ ((ae (Ki:=K6 a b (2*h) Qf) ((dN (fh rfl rfl)).trans ((ae (jK rfl rfl s1)).trans bB))).trans ?_)⟩;rw[if_pos rfl,← fr];exact fin Qf (r2/2) rfl rfl rfl rfl
end
theorem Ck (b:Nat)(hb:0<b):bl (b*2)=bl b+1:=by
 have h1:=fW b;have h2:=xd (a:=b) (by exact qe);have hp:=lm (a:=b) (by exact qe);refine le_antisymm (db (by rw[pow_succ];exact Q1 0x5111402105213111421301102 [_,_] h1 rfl)) ?_;have h3:=fW (b*2)
 have h4:2^bl b<=b*2:=by
  have:=pow_succ (n:=2) (m:=bl b-1);rw[succ_eq_add_one,sub_add_cancel hp]at this;exact Q2 0x6213411156210521341103 [_,_,_] h2 this rfl
 have:=(Nat.pow_lt_pow_iff_right (by decide)).mp (lt_of_le_of_lt h4 h3);exact bz
theorem Ie:∀ (k m n:Nat),n<=4000*2^k->n<=90000->E5 (run (m+2*k+1)) n
 |k,m,n,hn,Nh=>λa b st hb LP ha=>by
  have P:0<2^n:=pow_pos (by decide);have N1:b<2^n:=by rw[← hb];exact fW b
  have Rb:a<2^(n+n):=by
   rw[pow_add];exact lt_of_lt_of_le ha (mul_le_mul_left _ (le_of_lt N1))
  have Qg:bl a<=n+n:=db Rb
  have NB:bJ st .LtE (.int ((bl a:Int)-(n:Int))) (.int 4000)=some (decide (bl a<=n+4000)):=by
   exact congrArg some (decide_eq_decide.mpr GH)
  have OW:jC st .bitlen (.int a) []=some (.int (bl a),st):=rfl;rw[Cj];by_cases q:bl a<=n+4000
  ·rw[decide_eq_true q]at NB
   have dm:gy st .divmod [.int a,.int b]=some (.tup [.int ((a/b:Nat):Int),.int ((a%b:Nat):Int)],st):=by
    have c:(b:Int)≠0/\divisionGoesByPylong a b=false:=⟨by exact ym,E6 (by exact Q2 0xfa03160411065112fa0315041103 [_,_,_] hb q rfl) (by exact qe)⟩;exact(if_pos c).trans (by rw[pP,xf])
   rw[rD];exact bT (σ:=K6 a b n []) rfl (cy ((dN (bF (aj (gV rfl rfl dk OW) rfl rfl) rfl NB)).trans (cy (sR (dn (e2 rfl rfl) dm)))))
  ·rw[decide_eq_false q]at NB;have Rc:4000<n:=by exact Q2 0x5111fa03140011044051104111fa03101103 [_,_] Qg (Nat.not_le.mp q) rfl
   cases k with
   |zero=>exact absurd (lt_of_lt_of_le Rc (by assumption)) (lt_irrefl _)
   |succ k=>
    have x1:xS ⟨run (m+2*(k+1))⟩ Jg (K6 a b n []) st=some (.next,K6 a b n [],st):=bG (bF (aj (gV rfl rfl dk OW) rfl rfl) rfl NB)
    have x2:xS ⟨run (m+2*(k+1))⟩ (.asg (.nm 68) (.b .BitAnd (.l 0) (.int 1))) (K6 a b n []) st=some (.next,K6 a b n [(68,.int ((n%2:Nat):Int))],st):=by
     refine aE (v:=.int ((n%2:Nat):Int)) (aj (x:=.int n) (y:=.int 1) rfl rfl ?_) rfl;have:=dH n 1;rw[Nat.and_one_is_mod]at this;exact congrArg (λz=>some (AV.int z)) this
    have Po:4000*2^(k+1)=2*(4000*2^k):=by rw[pow_succ];exact le_antisymm (Q0 0x4fa0322124213fa0321101 [_] rfl) (Q0 0x4213fa0324fa0322121101 [_] rfl)
    by_cases odd:n%2=1
    ·have MS:n+1=2*((n+1)/2):=Gz (by assumption);have hD:=Ie k m ((n+1)/2) (by exact Q3 0x5fa0322127fa0321114212111601127fa03261105fa03242104 [_,_,_,_] hn MS Po rfl) (by exact Q2 0x42121115011215f9051511015f905142103 [_,_] Nh MS rfl);have Nl:bl (b*2)=2*((n+1)/2):=by rw[Ck b LP,hb];exact MS
     have ha':a*2<2^(2*((n+1)/2))*(b*2):=by
      rw[← MS,pow_succ]
      have:2^n*2*(b*2)=2^n*b*2*2:=by
       rw[mul_assoc,Nat.mul_left_comm 2 b 2,← mul_assoc,← mul_assoc]
      rw[this];exact Q1 0x5111402105213213111421301102 [_,_] ha rfl
     have OT:bl (a*2)<=400000:=by
      have:a*2<2^(n+n+1):=by rw[pow_succ];exact Q1 0x5111402105213111421301102 [_,_] Rb rfl
      have:=db this;exact Q2 0x1115500411015f9051521061a805141103 [_,_] Nh this rfl
     refine aw (xg (m+2*k+1) hD (by exact Q2 0x42121115011215f90515110c3504142103 [_,_] Nh MS rfl) (by exact Q2 0x42121115011242121115021141112103 [_,_] MS MS rfl) Nl (by exact Q1 0x411101011042131110101102 [_] LP rfl) ha' OT st 1 (.inr rfl)) λKh e=>?_;rw[if_pos rfl,Nat.mul_div_mul_right _ _ (by decide:0<2),Nat.mul_mod_mul_right,Nat.mul_div_cancel _ (by decide:0<2)]at e
     have sh:∀ x:Nat,bl x<=400000->lG .LShift (.int x) (.int 1)=some (.int ((x*2:Nat):Int)):=λx hx=>by
      have:=gN (a:=x) (k:=1) (by exact dU);refine cC ((pB (by decide) (by have:bl x=intBits (x:Int):=rfl;exact zM)).trans ?_);congr 1
     have x3:xS ⟨run (m+2*(k+1))⟩ Ib (K6 a b n [(68,.int ((n%2:Nat):Int))]) st=some (.next,K6 (a*2) (b*2) (2*((n+1)/2)) [(68,.int ((1:Nat):Int))],st):=by
      rw[odd,← MS];refine(dN (fh rfl rfl)).trans ?_;refine(ae (Ki:=K6 (a*2) b n [(68,.int ((1:Nat):Int))]) (jK rfl rfl (sh a (by exact Q2 0x550411015f9051521061a805141103 [_,_] Nh Qg rfl)))).trans ?_;refine(ae (Ki:=K6 (a*2) (b*2) n [(68,.int ((1:Nat):Int))]) (jK rfl rfl (sh b (by exact Q2 0x5411115f9051511061a805141103 [_,_] Nh hb rfl)))).trans ?_;exact(ae (Ki:=K6 (a*2) (b*2) (n+1) [(68,.int ((1:Nat):Int))]) (jK rfl rfl rfl)).trans bB
     rw[rD];exact bT (σ:=K6 a b n []) rfl ((ae x1).trans ((ae x2).trans ((ae x3).trans e)))
    ·have OX:n%2=0:=(Nat.mod_two_eq_zero_or_one n).resolve_right (by assumption);have MS:n=2*(n/2):=by exact le_antisymm (Q2 0x4652120112016111521241103 [_,_,_] OX (div_add_mod _ _) rfl) (Q1 0x5642120111542121102 [_,_,_] (div_add_mod _ _) rfl)
     have hD:=Ie k m (n/2) (by exact Q3 0x421261125fa0322127fa0321117fa03261105fa03242104 [_,_,_,_] hn Po MS rfl) (by exact Q2 0x564212011115f9051511015f905142103 [_,_,_] Nh (div_add_mod _ _) rfl);refine aw (xg (m+2*k+1) hD (by exact Q2 0x564212011115f90515110c3504142103 [_,_,_] Nh (div_add_mod _ _) rfl) (by exact Q3 0x2111116011056421201125111fa031011041114104 [_,_,_] Rc (div_add_mod _ _) (mod_lt _ (by decide)) rfl) (hb.trans MS) LP (by rw[← MS];exact ha) (by exact Q2 0x550411015f9051521061a805141103 [_,_] Nh Qg rfl) st 0 (.inl rfl)) λKh e=>?_;rw[if_neg (by decide),← MS]at e
     have x3:xS ⟨run (m+2*(k+1))⟩ Ib (K6 a b n [(68,.int ((n%2:Nat):Int))]) st=some (.next,K6 a b n [(68,.int ((0:Nat):Int))],st):=by
      rw[OX];exact bG (fh rfl rfl)
     rw[rD];exact bT (σ:=K6 a b n []) rfl ((ae x1).trans ((ae x2).trans ((ae x3).trans e)))
theorem zh (x s:Nat):Builtin.bitXor (x:Int) ((x/2^s*2^s:Nat):Int)=((x%2^s:Nat):Int):=by
 have e:x/2^s*2^s=(x >>> s) <<< s:=by rw[Nat.shiftLeft_eq,Nat.shiftRight_eq_div_pow]
 have h1:x ||| (x/2^s*2^s)=x:=by
  rw[e];apply Nat.eq_of_testBit_eq;intro i;rw[Nat.testBit_or,Nat.testBit_shiftLeft,Nat.testBit_shiftRight];by_cases h:s<=i
  ·rw[show s+(i-s)=i by exact IR];cases x.testBit i<;>simp
  ·have:decide (i>=s)=false:=decide_eq_false (by exact bz);rw[this];simp
 have h2:x &&& (x/2^s*2^s)=x/2^s*2^s:=by
  rw[e];apply Nat.eq_of_testBit_eq;intro i;rw[Nat.testBit_and,Nat.testBit_shiftLeft,Nat.testBit_shiftRight];by_cases h:s<=i
  ·rw[show s+(i-s)=i by exact IR];cases x.testBit i<;>simp
  ·have:decide (i>=s)=false:=decide_eq_false (by exact bz);rw[this];simp
 unfold Builtin.bitXor;rw[ja,dH,h1,h2];have:=div_add_mod x (2^s);rw[mul_comm]at this;exact yd (div_add_mod' ..)
noncomputable def dg (x n j:Nat):Nat:=x/2^(n*j)%2^n
theorem Cm (x n M j:Nat)(h:j<M):dg (x%2^(n*M)) n j=dg x n j:=by
 unfold dg
 have e:2^(n*M)=2^(n*j)*(2^n*2^(n*(M-j-1))):=by
  rw[← pow_add,← pow_add];congr 1;have:M=j+(1+(M-j-1)):=GB (by assumption);rw[show n*M=n*(j+(1+(M-j-1))) by rw[← this],mul_add,mul_add,mul_one]
 rw[e,Nat.mod_mul_right_div_self,Nat.mod_mul_right_mod]
theorem nR (x n M j:Nat):dg (x/2^(n*M)) n j=dg x n (M+j):=by
 unfold dg;rw[Nat.div_div_eq_div_mul,← pow_add,← mul_add]
noncomputable def cp (a n m:Nat):List Nat:=(List.range m).map λj=>dg a n j
theorem pQ (a n m:Nat):(cp a n m).length=m:=by rw[cp,length_map,length_range]
theorem xh (x n M N:Nat):cp x n (M+N)=cp (x%2^(n*M)) n M++cp (x/2^(n*M)) n N:=by
 rw[cp,List.range_add,map_append,map_map];refine congr (congrArg HAppend.hAppend (map_congr_left λj h=>(Cm x n M j (mem_range.mp h)).symm)) (map_congr_left λj _=>(nR x n M j).symm)
section
variable {a b c d n m:Nat}{i j:Int}
theorem Jh (h:a<=b:=by assumption)(h2:c<=d:=by assumption)(k:decide ((b:Int)+(d:Int)<=j)=true:=by exact rfl):(a:Int)+(c:Int)<=j:=Int.le_trans (Int.add_le_add (ofNat_le.mpr h) (ofNat_le.mpr h2)) (of_decide_eq_true k)
theorem Ji (h:n+a<=b:=by assumption):a<=b:=le_trans (le_add_left ..) h
end
theorem rE {l M N:Nat}(h:N=M\/N=M+1):((l:Int)+((l+(M+N):Nat):Int)).fdiv 2=((l+M:Nat):Int):=by
 exact(fdiv_eq_ediv_of_nonneg _ (by decide)).trans (Gy h)
theorem Cn {w k:Nat}(h:2<=w)(h2:w<=2^(k+1)):∃ M N,w=M+N/\(N=M\/N=M+1)/\0<M/\0<N/\M<=2^k/\N<=2^k:=by
 rw[pow_succ]at h2;exact⟨w/2,w-w/2,(Nat.add_sub_cancel' (div_le_self ..)).symm,zH,by exact Q3 0x211111601105642120112521111041110104104 [_,_,_] h (div_add_mod _ _) (mod_lt _ (by decide)) rfl,by exact Q3 0x57621201116405210521111041110104104 [_,_,_,_] h Gm (div_add_mod _ _) rfl,by exact Q2 0x674212011152136110542103 [_,_,_,_] h2 (div_add_mod _ _) rfl,Jw h2⟩
theorem pR {l M N n:Nat}(h:N=M\/N=M+1):(((l:Int)+((l+(M+N):Nat):Int)).fdiv 2-(l:Int))*(n:Int)=((n*M:Nat):Int):=by
 rw[rE h,show((l+M:Nat):Int)-l=M by exact FY,Int.mul_comm];rfl
theorem pS {n k x l M N:Nat}{ds:List Int}(hn:n<=100000)(h:N=M\/N=M+1)(hM:0<M)(hw:M+N<=100)(hx:x<2^(n*(M+N))) :
  dG n (k+1) x l ((l+(M+N):Nat):Int) ds=match dG n k ((x%2^(n*M):Nat):Int) l ((l+M:Nat):Int) ds with
   |some LJ=>dG n k ((x/2^(n*M):Nat):Int) ((l+M:Nat):Int) ((l+(M+N):Nat):Int) LJ
   |none=>none:=by
 have hup:x/2^(n*M)<2^(n*N):=(div_lt_iff_lt_mul (pow_pos (by decide))).mpr (by rw[← pow_add,← mul_add,add_comm N M];exact hx);have N1:bl (x/2^(n*M))<=100000*100:=le_trans (db hup) (mul_le_mul hn (Ji hw));have Px:n*M<=100000*100:=mul_le_mul hn (uI hw)
 have hf:(x:Int).fdiv (2^(n*M))=((x/2^(n*M):Nat):Int):=by
  rw[fdiv_eq_ediv_of_nonneg _ (Int.le_of_lt (Int.pow_pos (by decide)))];simp
 have key:∀ (mid sh up lo:Int),mid=((l+M:Nat):Int)->sh=((n*M:Nat):Int)->up=((x/2^(n*M):Nat):Int)->lo=((x%2^(n*M):Nat):Int)->(if 0<=sh/\(intBits up:Int)+sh<=2^27/\sh<2^60/\eB (mid-l) n=true then match dG n k lo l mid ds with
   |some LJ=>dG n k up mid ((l+(M+N):Nat):Int) LJ
   |none=>none else none)=match dG n k ((x%2^(n*M):Nat):Int) l ((l+M:Nat):Int) ds with
   |some LJ=>dG n k ((x/2^(n*M):Nat):Int) ((l+M:Nat):Int) ((l+(M+N):Nat):Int) LJ
   |none=>none:=by
  rintro _ _ _ _ rfl rfl rfl rfl;rw[show((l+M:Nat):Int)-l=M by exact FY,Ev];exact if_pos ⟨jP,Jh N1 Px,zM Px,gm (by rw[natAbs_natCast];exact dU (uI hw))⟩
 have KP:=pR (l:=l) (n:=n) h;refine(if_neg (zI hM h)).trans (key _ _ _ _ (rE h) KP ?_ ?_)
 ·rw[KP,toNat_natCast,hf]
 ·rw[KP,toNat_natCast,hf,show((x/2^(n*M):Nat):Int)*2^(n*M)=((x/2^(n*M)*2^(n*M):Nat):Int) by simp,zh]
theorem je (n:Nat)(hn:n<=100000):∀ (k x:Nat) (A B C:List Int),B≠[]->(A++(B++C)).length<=100->B.length<=2^k->x<2^(n*B.length) ->
  dG n (k+1) x A.length ((A.length+B.length:Nat):Int) (A++(B++C))=some (A++((cp x n B.length).map (λk:Nat=>(k:Int))++C))
 |k,x,A,[b],C,_,hl,_,hx=>by
  refine(if_pos rfl).trans ((if_pos ⟨jP,uH (by rw[length_append,length_append];exact JN (lt_of_lt_of_le Nat.zero_lt_one (le_add_right ..)))⟩).trans (congrArg some ?_));rw[toNat_natCast,List.set_append_right _ _ (le_refl _),sub_self]
  have:dg x n 0=x:=by
   unfold dg;rw[mul_zero,Nat.pow_zero,Nat.div_one,mod_eq_of_lt];exact mul_one n▸hx
  show A++(x:Int)::C=A++((dg x n 0:Nat):Int)::C;rw[this]
 |0,x,A,b::c::B,C,_,_,h,_=>absurd h (by simp)
 |k+1,x,A,b::c::B,C,_,hl,h,hx=>by
  generalize hB:b::c::B=D at *;have h2:2<=D.length:=hB▸(by simp);refine uN (Cn h2 h) λM N hw hN hM Qh m1 m2=>?_;have l1:(D.take M).length=M:=by rw[length_take,hw];exact Nat.min_eq_left (le_add_right ..)
  have l2:(D.drop M).length=N:=by rw[List.length_drop,hw];exact Nat.add_sub_cancel_left ..
  have MU:A.length+(M+N)+C.length<=100:=by rw[length_append,length_append,hw]at hl;exact Q1 0x64217650040110642176504001102 [_,_,_,_] hl rfl
  rw[hw]at hx ⊢;have e1:=je n hn k (x%2^(n*M)) A (D.take M) (D.drop M++C) (λz=>by rw[z]at l1;exact ne_of_lt hM l1) (by rw[length_append,length_append,length_append,l1,l2];exact Q1 0x64217650400110642176050401102 [_,_,_,_] MU rfl) (by rw[l1];exact m1) (by rw[l1];exact mod_lt _ (pow_pos (by decide)))
  have e2:=je n hn k (x/2^(n*M)) (A++(cp (x%2^(n*M)) n M).map (λk:Nat=>(k:Int))) (D.drop M) C (λz=>by rw[z]at l2;exact ne_of_lt Qh l2) (by simp only[length_append,length_map,pQ,l2];exact Q1 0x64217650400110642176054001102 [_,_,_,_] MU rfl) (by rw[l2];exact m2)
   (by rw[l2];exact(div_lt_iff_lt_mul (pow_pos (by decide))).mpr (by rw[← pow_add,← mul_add,add_comm N M];exact hx))
  rw[l1,← append_assoc (D.take M),List.take_append_drop]at e1;rw[l2,length_append,length_map,pQ,append_assoc,append_assoc,add_assoc]at e2;rw[pS hn hN hM (by exact Q1 0x6421754060011064215401102 [_,_,_,_] MU rfl) hx,e1,xh,map_append,append_assoc];exact e2
theorem sW (k a n:Nat)(hn:n<=100000)(MC:1<=n)(hm:(bl a+n-1)/n<=64)(st:St):run (k+1) 16 [.int a,.int n] st=some (.obj st.length,st++[.list (ah (cp a n ((bl a+n-1)/n)))]):=by
 show rc [.int a,.int n] st=_;let m:=(bl a+n-1)/n
 have hb:(intBits (a:Int):Int)+n-1=((bl a+n-1:Nat):Int):=by
  exact Jq MC rfl
 have c1:(n:Int)≠0/\divisionGoesByPylong ((bl a+n-1:Nat):Int) n=false:=⟨by exact ym,kV (by rw[natAbs_natCast];exact dU)⟩;have c2':∀ x:Nat,x<=64->(x:Int)<1000/\-1000<(x:Int):=λx h=>by exact JI
 have c2:=c2' m hm;show(if (n:Int)≠0/\divisionGoesByPylong ((intBits (a:Int):Int)+n-1) n=false then _ else none)=_;rw[hb,if_pos c1,pP];dsimp only;rw[if_pos c2,toNat_natCast];by_cases ha:a=0
 ·subst ha
  have hm0:(bl 0+n-1)/n=0:=by
   have:bl 0=0:=rfl;rw[this];exact div_eq_of_lt (by exact Q1 0x5010111401115111401102 [_,_] (sub_add_cancel (Q1 0x411111040101111102 [_] MC rfl)) rfl)
  rw[if_pos (by rfl),hm0];rfl
 ·rw[if_neg (by exact GT)];have hp:=lm ha;have OP:1<=m:=(Nat.le_div_iff_mul_le MC).mpr (by exact Q2 0x460111501126111110541121103 [_,_,_] hp (sub_add_cancel (Q1 0x41111105401111102 [_,_] hp rfl)) rfl)
  have Lj:a<2^(n*m):=by
   refine lt_of_lt_of_le (fW a) (pow_le_pow_right (by decide) ?_);have:=div_add_mod (bl a+n-1) n;have h2:=mod_lt (bl a+n-1) MC;show bl a<=n*((bl a+n-1)/n);exact Q3 0x840111701128111601107650112541104 [_,_,_,_,_] this h2 (sub_add_cancel (Q1 0x5111601105401111102 [_,_,_] h2 rfl)) rfl
  have Ko:(replicate ((bl a+n-1)/n) (0:Int)).length=m:=by rw[length_replicate]
  have e:=je n hn 11 a [] (replicate m 0) [] (λz=>by rw[z]at Ko;exact ne_of_lt OP Ko) (by rw[nil_append,append_nil,length_replicate];exact bN) (by rw[length_replicate];exact le_trans hm (by decide)) (by rw[length_replicate];exact Lj);rw[nil_append,append_nil,nil_append,append_nil,length_nil,zero_add]at e;refine jI e ?_;rw[length_replicate,map_map];rfl
noncomputable def num (n:Nat)(ds:List Nat):Nat:=ds.foldr (λd acc=>acc*2^n+d) 0
theorem sX (n:Nat)(A B:List Nat):num n (A++B)=num n B*2^(n*A.length)+num n A:=by
 induction A with
 |nil=>simp[num]
 |cons d A ih=>
  have e1:num n (d::A++B)=num n (A++B)*2^n+d:=rfl;have e2:num n (d::A)=num n A*2^n+d:=rfl;rw[e1,e2,ih,length_cons,mul_add n A.length 1,mul_one,pow_add,← mul_assoc,add_mul];exact JR
theorem xi (n:Nat):∀ (ds:List Nat),(∀ d∈ds,d<2^n)->num n ds<2^(n*ds.length):=by
 intro ds
 induction ds with
 |nil=>
  intro _;simp[num]
 |cons d A ih=>
  intro h;have e2:num n (d::A)=num n A*2^n+d:=rfl;have h1:=h d (by simp);have h2:=ih λx hx=>h x (by simp[hx]);rw[e2,length_cons,mul_add,mul_one,pow_add]
  have:num n A*2^n+2^n<=2^(n*A.length)*2^n:=by
   rw[← succ_mul];exact mul_le_mul_right _ h2
  exact Q2 0x6740110711150110611154001103 [_,_,_,_] h1 this rfl
theorem xj (n:Nat):∀ (m a:Nat),num n (cp a n m)=a%2^(n*m):=by
 intro m
 induction m with
 |zero=>
  intro a;simp[cp,num,Nat.mod_one]
 |succ m ih=>
  intro a
  have e:cp a n (m+1)=a%2^n::cp (a/2^n) n m:=by
   rw[cp,List.range_succ_eq_map,map_cons,map_map,cp];congr 1
   ·simp[dg]
   ·apply map_congr_left;intro j _;have:=nR a n 1 j;rw[mul_one,add_comm]at this;exact this.symm
  have e2:num n (a%2^n::cp (a/2^n) n m)=num n (cp (a/2^n) n m)*2^n+a%2^n:=rfl;rw[e,e2,ih,mul_add,mul_one,add_comm (n*m) n,pow_add,Nat.mod_mul];rw[mul_comm (2^n)];exact G1
theorem E7 {γ:Type}{o:Option Int}{k:Int->Option γ}{x:Int}{r:Option γ}(h:o=some x)(f:k x=r):(match (generalizing:=false) o with
 |some x=>k x
 |none=>none)=r:=by subst h;exact f
theorem pT {n k l M N:Nat}{ds:List Int}{u v:Nat}(hn:n<=100000)(h:N=M\/N=M+1)(hM:0<M)(hw:M+N<=100)(hu:u<2^(n*N))
  (e1:eF n ds k ((l+M:Nat):Int) ((l+(M+N):Nat):Int)=some (u:Int)) (e2:eF n ds k l ((l+M:Nat):Int)=some (v:Int)):eF n ds (k+1) l ((l+(M+N):Nat):Int)=some ((u*2^(n*M)+v:Nat):Int):=by
 have N1:bl u<=100000*100:=le_trans (db hu) (mul_le_mul hn (Ji hw));have Px:n*M<=100000*100:=mul_le_mul hn (uI hw)
 have key:∀ (mid sh:Int),mid=((l+M:Nat):Int)->sh=((n*M:Nat):Int)->(match eF n ds k mid ((l+(M+N):Nat):Int) with
  |some u=>if 0<=sh/\(intBits u:Int)+sh<=2^27/\eB (mid-l) n=true then match eF n ds k l mid with
   |some v=>some (u*2^sh.toNat+v)
   |none=>none
   else none
  |none=>none)=some ((u*2^(n*M)+v:Nat):Int):=by
  rintro _ _ rfl rfl;rw[show((l+M:Nat):Int)-l=M by exact FY,Ev];refine E7 e1 ((if_pos ⟨jP,Jh N1 Px,gm (by rw[natAbs_natCast];exact dU (uI hw))⟩).trans (E7 e2 ?_));rw[toNat_natCast];simp
 exact(if_neg (zI hM h)).trans (key _ _ (rE h) (pR h))
theorem jf (n:Nat)(hn:n<=100000):∀ (k:Nat) (A B C:List Nat),B≠[]->(A++(B++C)).length<=100->B.length<=2^k->(∀ d∈B,d<2^n) ->
  eF n ((A++(B++C)).map λk:Nat=>(k:Int)) (k+1) A.length ((A.length+B.length:Nat):Int)=some ((num n B:Nat):Int)
 |k,A,[b],C,_,hl,_,_=>by
  refine(if_pos rfl).trans ((if_pos ⟨jP,zM (le_trans (by rw[length_append];exact le_add_right ..) hl)⟩).trans ?_);rw[toNat_natCast,getElem?_map,getElem?_append_right (le_refl _),sub_self];simp[num]
 |0,A,b::c::B,C,_,_,h,_=>absurd h (by simp)
 |k+1,A,b::c::B,C,_,hl,h,hd=>by
  generalize hB:b::c::B=D at *;have h2:2<=D.length:=hB▸(by simp);refine uN (Cn h2 h) λM N hw hN hM Qh m1 m2=>?_;have l1:(D.take M).length=M:=by rw[length_take,hw];exact Nat.min_eq_left (le_add_right ..)
  have l2:(D.drop M).length=N:=by rw[List.length_drop,hw];exact Nat.add_sub_cancel_left ..
  have MU:A.length+(M+N)+C.length<=100:=by rw[length_append,length_append,hw]at hl;exact Q1 0x64217650040110642176504001102 [_,_,_,_] hl rfl
  have d2:∀ d∈D.drop M,d<2^n:=λd h=>hd d (List.mem_of_mem_drop h);have eq:A++(D++C)=A++(D.take M++(D.drop M++C)):=by rw[← append_assoc (D.take M),List.take_append_drop]
  have e2:=jf n hn k A (D.take M) (D.drop M++C) (λz=>by rw[z]at l1;exact ne_of_lt hM l1) (eq▸hl) (by rw[l1];exact m1) λd h=>hd d (List.mem_of_mem_take h);have e1:=jf n hn k (A++D.take M) (D.drop M) C (λz=>by rw[z]at l2;exact ne_of_lt Qh l2) (by rw[append_assoc,← eq];exact hl) (by rw[l2];exact m2) d2;rw[l1,← eq]at e2;rw[l2,length_append,l1,append_assoc,← eq,add_assoc]at e1;have hu:=xi n (D.drop M) d2;rw[l2]at hu;have:=pT hn hN hM (by exact Q1 0x6421754060011064215401102 [_,_,_,_] MU rfl) hu e1 e2;rw[hw,this];have na:=sX n (D.take M) (D.drop M);rw[List.take_append_drop,l1]at na;rw[na]
theorem E8 (k n i:Nat)(hn:n<=100000)(ds:List Nat)(Mh:∀ d∈ds,d<2^n)(hl:ds.length<=64){st:St}(h:st[i]?=some (.list (ah ds))):run (k+1) 17 [.obj i,.int n] st=some (.int (num n ds:Nat),st):=by
 show rf [.obj i,.int n] st=_;have Ko:(ds.map λk:Nat=>(k:Int)).length<1000:=by rw[length_map];exact dU
 refine jV (mC h) (jI (cL _) ((if_pos Ko).trans ?_));by_cases q:ds=[]
 ·subst q;rfl
 ·have Lu:¬ ((ds.map λk:Nat=>(k:Int))=[]):=by simp[q]
  have Nq:0<ds.length:=length_pos_iff.mpr q;have e:=jf n hn 11 [] ds [] q (by rw[nil_append,append_nil];exact bN) (le_trans hl (by decide)) Mh;rw[nil_append,append_nil,length_nil,zero_add]at e
  have e':eF (n:Int) (ds.map λk:Nat=>(k:Int)) 12 0 (((ds.map λk:Nat=>(k:Int)).length:Nat):Int)=some ((num n ds:Nat):Int):=by
   rw[length_map];exact e
  rw[if_neg Lu,e']
theorem Cp (n:Nat)(a:List AV)(st:St):run (n+1) 13 a st=bE (run n) [66,67] Hx a st:=rfl
theorem Cq (n:Nat)(a:List AV)(st:St):run (n+1) 12 a st=bE (run n) [66,67] I2 a st:=rfl
noncomputable def Gi:List S:=[.asg (.tup [178,75]) (.call 14 [.b .Add (.b .LShift (.l 75) (.l 0)) (.l 79),.l 67,.l 0]),.expr (.sm .append (.l 78) [.l 178])]
theorem Cr:Hx=[.asg (.nm 0) (.sm .bitlen (.l 67) []),.asg (.nm 76) (.call 16 [.l 66,.l 0]),.asg (.nm 75) (.int 0),.asg (.nm 78) (.new true (.list [])),.forR 79 (.l 76) Gi,.expr (.sm .reverse (.l 78) []),.asg (.nm 80) (.call 17 [.l 78,.l 0]),.ret (.tup [.l 80,.l 75])]:=rfl
noncomputable def LY (a b n da r c:Nat)(τ:Loc):Loc:=(66,.int a)::(67,.int b)::(0,.int n)::(76,.obj da)::(75,.int r)::(78,.obj c)::τ
theorem Cs {X:Cx}{σ KL:Loc}{st Ke Kf:St}{x i:Nat}{src:E}{body:List S}{xs:List AV}(h:aa X src σ st=some (.obj i,Ke))(h2:Ke[i]?=some (.list xs))(h3:bc (λst=>an st (.obj i) xs) (λv σ st=>cw X body (ai σ x v) st) xs.reverse σ Ke=some (.next,KL,Kf)):xS X (.forR x src body) σ st=some (.next,KL,Kf):=jE h (jV (mC h2) (C0 h3 rfl))
noncomputable def xk (n:Nat)(X:Nat)(ds:List Nat):Nat:=ds.foldl (λacc d=>acc*2^n+d) X
theorem sY (n:Nat)(ds:List Nat):xk n 0 ds.reverse=num n ds:=by
 rw[xk,List.foldl_reverse,num]
theorem J7 {m n a b da c:Nat}(hD:E5 (run m) n)(hn:n<=100000)(hb:bl b=n)(LP:0<b)(LG:St)(AL:List AV)(OY:LG[da]?=some (.list AL))(hc:c=LG.length):∀ (ds:List Nat) (r:Nat) (qs:List Nat) (τ:Loc),(∀ d∈ds,d<2^n)->r<b->qs.length+ds.length<=1000 ->
  ∃ (r':Nat) (LL:List Nat) (Kw:Loc),bc (λst=>an st (.obj da) AL) (λv σ st=>cw ⟨run m⟩ Gi (ai σ 79 v) st) (ah ds) (LY a b n da r c τ) (LG++[AO.list (ah qs)])=some (.next,LY a b n da r' c Kw,LG++[AO.list (ah (qs++LL))])/\r'<b/\LL.length=ds.length/\(∀ q∈LL,q<2^n)/\∀ Q,xk n (b*Q+r) ds=b*xk n Q LL+r':=by
 intro ds
 induction ds with
 |nil=>
  intro r qs τ _ hr _
  exact⟨r,[],τ,by
   rw[append_nil]
   exact hZ (stands_obj (cz OY)),hr,rfl,by simp,λQ=>rfl⟩
 |cons d ds ih=>
  intro r qs τ hd hr hl;have hd1:=hd d (by simp);let y:=r*2^n+d
  have hy:y<2^n*b:=by
   have:r*2^n+2^n<=b*2^n:=by
    rw[← succ_mul];exact mul_le_mul_right _ hr
   simp only[y];rw[mul_comm (2^n) b];exact Q2 0x6740110711150110611154001103 [_,_,_,_] hd1 this rfl
  have hbr:bl r<=n:=by
   have:=fW b;rw[hb]at this;exact db (lt_trans hr this)
  have hq:y/b<2^n:=(div_lt_iff_lt_mul LP).mpr hy;let q:=y/b;let r1:=y%b;have Nc:r1<b:=mod_lt _ LP;let s0:St:=LG++[AO.list (ah qs)];have Lv:s0[c]?=some (.list (ah qs)):=by rw[hc];exact aS _ _
  let KC:=ai τ 79 (.int d);let KS:=ai KC 178 (.int q)
  have gv:∀ (r:Nat) (τ:Loc) (x:Nat),([66,67,0,76,75,78]:List Nat).all (λz=>!Nat.beq z x)=true->af (LY a b n da r c τ) x=af τ x:=λr τ x h=>by
   simp only[all_cons,all_nil,Bool.and_true,and_eq_true,not_eq_true']at h;refine Dg h ?_;clear h;intro h1 h2 h3 h4 h5 h6;simp only[LY,af,h1,h2,h3,h4,h5,h6,if_false,reduceCtorEq]
  have g79:af (LY a b n da r c KC) 79=some (.int d):=(gv _ _ _ (by decide)).trans (ab _ _ _);have g178:af (LY a b n da r1 c KS) 178=some (.int q):=(gv _ _ _ (by decide)).trans (ab _ _ _)
  have v1:aa ⟨run m⟩ (.b .Add (.b .LShift (.l 75) (.l 0)) (.l 79)) (LY a b n da r c KC) s0=some (.int y,s0):=
   aj (aj rfl rfl (gN (by exact Q2 0x54110186a05152108000000715401103 [_,_] hn hbr rfl))) (ay g79) (cT _ _)
  have v2:aN ⟨run m⟩ [.l 67,.l 0] (LY a b n da r c KC) s0=some ([.int b,.int n],s0):=rfl
  have v3:aa ⟨run m⟩ (.call 14 [.b .Add (.b .LShift (.l 75) (.l 0)) (.l 79),.l 67,.l 0]) (LY a b n da r c KC) s0=some (.tup [.int q,.int r1],s0):=
   be (fu v1 v2) (hD y b s0 hb LP hy)
  have ap:jC s0 .append (.obj c) [.int q]=some (.none,LG++[AO.list (ah (qs++[q]))]):=by
   rw[cY Lv (by rw[length_map];simp at hl;exact Q1 0x3e8311115040110f424051111401102 [_,_] hl rfl)];have:ah qs++[AV.int q]=ah (qs++[q]):=by simp[ah]
   rw[this,hc];simp[s0]
  refine Di (ih r1 (qs++[q]) KS (λx hx=>hd x (by simp[hx])) Nc (by simp at hl ⊢;exact Q1 0x3e83111150401103e83151114001102 [_,_] hl rfl)) λr' LL Kw e h1 h2 h3 h4=>?_;refine⟨r',q::LL,Kw,?_,h1,by simp[h2],?_,?_⟩
  ·have hx:cw ⟨run m⟩ Gi (ai (LY a b n da r c τ) 79 (.int d)) s0=some (.next,LY a b n da r1 c KS,LG++[AO.list (ah (qs++[q]))]):=by
    refine(ae (σ:=LY a b n da r c KC) (Ki:=LY a b n da r1 c KS) (aE v3 rfl)).trans ?_;exact(ae (eG (gV (x:=.obj c) rfl (cS Lv) (P.e1 (ay g178)) ap) rfl)).trans bB
   have Mi:(λst=>an st (.obj da) AL) s0=true:=stands_obj (cz OY);rw[show qs++q::LL=qs++[q]++LL by simp];exact(bR Mi hx).trans e
  ·intro x hx;simp only[mem_cons]at hx;rcases hx with rfl |hx
   ·exact hq
   ·exact h3 x hx
  ·intro Q;have e1:xk n (b*Q+r) (d::ds)=xk n ((b*Q+r)*2^n+d) ds:=rfl;have e2:xk n Q (q::LL)=xk n (Q*2^n+q) LL:=rfl
   have e3:(b*Q+r)*2^n+d=b*(Q*2^n+q)+r1:=by
    have:=div_add_mod y b;have h5:b*q+r1=r*2^n+d:=this;rw[add_mul,mul_add,mul_assoc,add_assoc,add_assoc,h5]
   rw[e1,e2,e3,h4]
theorem rF {st:St}{i:Nat}{xs:List AV}(h:st[i]?=some (.list xs))(h2:xs.length<=1000000):jC st .reverse (.obj i) []=some (.none,st.set i (.list xs.reverse)):=jV (mC h) (if_pos h2)
theorem E9 (m a b:Nat)(LP:0<b)(Rd:bl b<=30000)(hm:(bl a+bl b-1)/bl b<=64)(st:St):∃ Kd,run (m+8) 13 [.int a,.int b] st=some (.tup [.int ((a/b:Nat):Int),.int ((a%b:Nat):Int)],Kd)/\Kp [] st Kd:=by
 let n:=bl b;have MC:1<=n:=lm (by exact qe);have hD:E5 (run (m+7)) n:=Ie 3 m n (by exact bN) (by exact bN);let k:=(bl a+n-1)/n;let ds:=cp a n k;let LG:St:=st++[AO.list (ah ds)];have e16:=sW (m+6) a n (by exact bN) MC hm st
 have Mh:∀ d∈ds,d<2^n:=λd hd=>by
  simp only[ds,cp,mem_map]at hd;refine ak hd ?_;clear hd;rintro j _ rfl;exact mod_lt _ (pow_pos (by decide))
 have Rf:ds.length=k:=by simp[ds,cp]
 have hk:k<=64:=hm;have OY:LG[st.length]?=some (.list (ah ds)):=aS _ _;refine Di (J7 (m:=m+7) (a:=a) (b:=b) hD (by exact bN) rfl LP LG (ah ds) OY rfl ds.reverse 0 [] [] (λd hd=>Mh d (mem_reverse.mp hd)) LP (by rw[length_reverse,Rf];simp;exact bN)) λr' LL Kw e h1 h2 h3 h4=>?_;rw[nil_append]at e;have NC:=h4 0;rw[mul_zero,zero_add]at NC
 have ha:xk n 0 ds.reverse=a:=by
  rw[sY,xj,mod_eq_of_lt];refine lt_of_lt_of_le (fW a) (pow_le_pow_right (by decide) ?_);have:=div_add_mod (bl a+n-1) n;have h2:=mod_lt (bl a+n-1) MC;show bl a<=n*((bl a+n-1)/n);exact Q3 0x840111701128111601107650112541104 [_,_,_,_,_] this h2 (sub_add_cancel (Q1 0x5111601105401111102 [_,_,_] h2 rfl)) rfl
 rw[ha]at NC
 have hq:xk n 0 LL=num n LL.reverse:=by
  rw[← sY,List.reverse_reverse]
 have Rg:=(Nat.div_mod_unique LP (a:=a) (c:=r') (d:=xk n 0 LL)).mpr ⟨by exact le_antisymm (Q1 0x450611265401102 [_,_,_] NC rfl) (Q1 0x560411165041102 [_,_,_] NC rfl),h1⟩;let c:=LG.length;let s1:St:=LG++[AO.list (ah LL)];have Oh:s1[c]?=some (.list (ah LL)):=aS _ _;let s2:St:=s1.set c (.list (ah LL).reverse)
 have Nx:s2[c]?=some (.list (ah LL.reverse)):=by
  have:ah LL.reverse=(ah LL).reverse:=by simp[ah]
  rw[this];exact getElem?_set_self (al Oh)
 have lq:LL.length<=64:=by rw[h2,length_reverse,Rf];exact hk
 have Rh:=E8 (m+6) n c (by exact bN) LL.reverse (λd hd=>h3 d (mem_reverse.mp hd)) (by rw[length_reverse];exact lq) Nx;rw[← hq,← Rg.1]at Rh;have v2:aa ⟨run (m+7)⟩ (.call 16 [.l 66,.l 0]) [(66,.int a),(67,.int b),(0,.int n)] st=some (.obj st.length,LG):=be (vs:=[.int a,.int n]) rfl e16;have v4:aa ⟨run (m+7)⟩ (.new true (.list [])) [(66,.int a),(67,.int b),(0,.int n),(76,.obj st.length),(75,.int 0)] LG=some (.obj c,LG++[AO.list (ah [])]):=eH (cK dk);have rv:ah ds.reverse=(ah ds).reverse:=by simp[ah]
 rw[rv]at e
 have x5:xS ⟨run (m+7)⟩ (.forR 79 (.l 76) Gi) (LY a b n st.length 0 c []) (LG++[AO.list (ah [])])=some (.next,LY a b n st.length r' c Kw,s1):=
  Cs rfl (cz OY) e
 have v7:aa ⟨run (m+7)⟩ (.call 17 [.l 78,.l 0]) (LY a b n st.length r' c Kw) s2=some (.int ((a/b:Nat):Int),s2):=be (vs:=[.obj c,.int n]) rfl Rh
 have Oi:af (LY a b n st.length r' c (ai Kw 80 (.int ((a/b:Nat):Int)))) 80=some (.int ((a/b:Nat):Int)):=by
  show af (ai Kw 80 (.int ((a/b:Nat):Int))) 80=_;exact ab _ _ _
 refine⟨s2,?_,⟨by simp[s2,s1,LG],λj hj _=>?_⟩⟩
 ·rw[Cp,Cr];refine bT (Ki:=LY a b n st.length r' c (ai Kw 80 (.int ((a/b:Nat):Int)))) rfl ?_;refine(ae (Ki:=[(66,.int a),(67,.int b),(0,.int n)]) (aE (gV (x:=.int b) rfl rfl dk rfl) rfl)).trans ?_;refine(ae (Ki:=[(66,.int a),(67,.int b),(0,.int n),(76,.obj st.length)]) (aE v2 rfl)).trans ?_;refine(ae (Ki:=[(66,.int a),(67,.int b),(0,.int n),(76,.obj st.length),(75,.int 0)]) (aE rfl rfl)).trans ?_;refine(ae (Ki:=LY a b n st.length 0 c []) (aE v4 rfl)).trans ?_;refine(ae x5).trans ?_;refine(ae (eG (gV (x:=.obj c) rfl (cS Oh) dk (rF Oh (by rw[length_map];exact bN))) rfl)).trans ?_;refine(ae (Ki:=LY a b n st.length r' c (ai Kw 80 (.int ((a/b:Nat):Int)))) (aE v7 rfl)).trans ?_;refine cy (sR (kU (e2 (ay Oi) ?_)));rw[Rg.2];rfl
 ·have NG:c=st.length+1:=by simp[c,LG]
  show(s1.set c _)[j]?=_;rw[getElem?_set_ne (by exact ne_of_gt (Q2 0x1116051126111401105111401103 [_,_,_] hj NG rfl))];show((st++_)++_)[j]?=_;rw[getElem?_append_left (by simp;exact GZ),getElem?_append_left hj]
theorem Fa (m a b:Nat)(LP:0<b)(Rd:bl b<=30000)(hm:(bl a+bl b-1)/bl b<=64)(st:St):∃ Kd,run (m+9) 12 [.int a,.int b] st=some (.tup [.int ((a/b:Nat):Int),.int ((a%b:Nat):Int)],Kd)/\Kp [] st Kd:=by
 refine ak (E9 m a b LP Rd hm st) λKd e k=>?_;refine⟨Kd,?_,k⟩
 have c1:bJ st .Eq (.int b) (.int 0)=some false:=by
  rw[bJ,gG];exact congrArg some (decide_eq_false (by exact ym))
 have c2:bJ st .Lt (.int b) (.int 0)=some false:=by
  exact congrArg some (decide_eq_false (by lia))
 have c3:bJ st .Lt (.int a) (.int 0)=some false:=by
  exact congrArg some (decide_eq_false (by lia))
 have v:aa ⟨run (m+8)⟩ (.call 13 [.l 66,.l 67]) [(66,.int a),(67,.int b)] st=some (.tup [.int ((a/b:Nat):Int),.int ((a%b:Nat):Int)],Kd):=be (vs:=[.int a,.int b]) rfl e;rw[Cq];exact bT (σ:=[(66,.int a),(67,.int b)]) rfl (cy ((kT (bF rfl rfl c1)).trans (cy ((kT (bF rfl rfl c2)).trans (cy ((kT (bF rfl rfl c3)).trans (cy (sR v))))))))
noncomputable def eN (rs:cj):cj:=rs.map λx=>⟨x.r,x.s,x.p,x.q⟩
noncomputable def Fb (x:Ru):Bool:=Nat.ble 1 x.p&&Nat.ble x.p 6&&Nat.ble 1 x.r&&Nat.ble x.r 6&&Nat.ble 1 x.q&&Nat.ble x.q 6&&Nat.ble 1 x.s&&Nat.ble x.s 6
noncomputable def xm (rs:cj):Bool:=Nat.beq rs.length 3&&rs.all Fb
theorem Fc:∀ rs∈fC,xm rs=true:=by decide +kernel
theorem zi:∀ rs∈fC,mG rs≠[]:=by decide +kernel
theorem zj:∀ rs∈fC,∀ z:Fin 9,0<=dB (z.val+1) rs/\dB (z.val+1) rs<=100:=by decide +kernel
noncomputable def Lh (rs:cj)(c:List Nat):Bool:=match LW rs 31 c [0,0,0] with
 |none=>false
 |some (e,u)=>lk rs e u 31 c [0,0,0]&&lk (eN rs) c u 31 e [0,0,0]&&!(e==c)&&Nat.ble e.sum 40&&Nat.beq e.length 7&&Nat.beq (e.getD 0 1) 0&&Nat.beq u.length 3
noncomputable def gx (rs:cj):List (List Nat):=(mG rs).flatMap λx=>(List.range 4).flatMap λa=>(List.range 4).flatMap λb=>(List.range 4).map λc=>nN rs x a b c
noncomputable def dd:List (List Nat)->List (List Nat)
 |[]=>[]
 |c::l=>if (dd l).contains c then dd l else c::dd l
theorem zk (c:List Nat)(l:List (List Nat)):dd (c::l)=if (dd l).contains c then dd l else c::dd l:=rfl
theorem rG {c:List Nat}:∀ {l:List (List Nat)},c∈l->c∈dd l
 |x::l,h=>by
  rw[zk];simp only[mem_cons]at h;split
  ·rename_i hc;rcases h with rfl |h
   ·exact List.contains_iff_mem.mp hc
   ·exact rG h
  ·rcases h with rfl |h
   ·exact List.mem_cons_self
   ·exact List.mem_cons_of_mem _ (rG h)
noncomputable def Jj (L:List Nat):Bool:=L.all (λz=>Nat.ble 1 z&&Nat.ble z 6)&&Nat.ble L.length 9&&!L.isEmpty
noncomputable def Ay (rs:cj):Bool:=(gx rs).all Jj&&(dd ((gx rs).map fD)).all (Lh rs)
theorem xn:∀ rs∈fC,Ay rs=true:=by decide +kernel
theorem zl {rs:cj}(h:xm rs=true):K0 rs:=by
 simp only[xm,and_eq_true,all_eq_true,Fb]at h;refine⟨Nat.eq_of_beq_eq_true h.1,λx hx=>?_⟩;refine av (h.2 x hx) ?_;rintro⟨⟨⟨⟨⟨⟨h1,h2⟩,h3⟩,h4⟩,h5⟩,h6⟩,h7⟩ h8;exact⟨⟨le_of_ble_eq_true h1,le_of_ble_eq_true h2⟩,⟨le_of_ble_eq_true h3,le_of_ble_eq_true h4⟩,⟨le_of_ble_eq_true h5,le_of_ble_eq_true h6⟩,⟨le_of_ble_eq_true h7,le_of_ble_eq_true h8⟩⟩
theorem uE {rs:cj}(h:K0 rs):K0 (eN rs):=by
 refine⟨by rw[eN,length_map];exact h.1,λx hx=>?_⟩;simp only[eN,mem_map]at hx;refine ak hx ?_;clear hx;rintro y hy rfl;have:=h.2 y hy;exact⟨this.2.1,this.1,this.2.2.2,this.2.2.1⟩
theorem uF {rs:cj}{x:Ru}{a b c:Nat}(hx:x∈mG rs)(ha:a<4)(hb:b<4)(hc:c<4):nN rs x a b c∈gx rs:=by
 refine mem_flatMap.mpr ⟨x,hx,mem_flatMap.mpr ⟨a,mem_range.mpr ha,mem_flatMap.mpr ⟨b,mem_range.mpr hb,mem_map.mpr ⟨c,mem_range.mpr hc,rfl⟩⟩⟩⟩
structure Ml (rs:cj)(L e u:List Nat):Prop where
 sz:∀ z∈L,1<=z/\z<=6
 ln:L.length<=9
 ne:L≠[]
 tw:LW rs 31 (fD L) [0,0,0]=some (e,u)
 fw:lk rs e u 31 (fD L) [0,0,0]=true
 bw:lk (eN rs) (fD L) u 31 e [0,0,0]=true
 df:e≠fD L
 sm:e.sum<=40
 el:e.length=7
 e0:e.getD 0 1=0
 ul:u.length=3
set_option tactic.hygienic true in
theorem zm {rs:cj}(hr:rs∈fC){L:List Nat}(hL:L∈gx rs):∃ e u,Ml rs L e u:=by
 have h:=xn rs hr;simp only[Ay,and_eq_true,all_eq_true]at h;have h1:=h.1 L hL;simp only[Jj,and_eq_true,all_eq_true,not_eq_true']at h1;have h2:=h.2 (fD L) (rG (mem_map_of_mem hL));unfold Lh at h2;split at h2
 ·cases h2
 ·rename_i e u ht;simp only[and_eq_true,not_eq_true',beq_eq_false_iff_ne]at h2;refine av h2 ?_;clear h2;rintro⟨⟨⟨⟨⟨a1,a2⟩,a3⟩,a4⟩,a5⟩,a6⟩ a7;refine⟨e,u,λz hz=>?_,le_of_ble_eq_true h1.1.2,?_,ht,a1,a2,a3,le_of_ble_eq_true a4,Nat.eq_of_beq_eq_true a5,Nat.eq_of_beq_eq_true a6,Nat.eq_of_beq_eq_true a7⟩
  ·have:=h1.1.1 z hz;exact⟨le_of_ble_eq_true this.1,le_of_ble_eq_true this.2⟩
  ·rintro rfl;simp at h1
noncomputable def ev (x:Int):List Int->Int
 |[]=>0
 |c::p=>c+x*ev x p
noncomputable def rH:List Int->List Int->List Int
 |[],q=>q
 |p,[]=>p
 |a::p,b::q=>(a+b)::rH p q
noncomputable def Gj (a:Int)(p:List Int):List Int:=p.map (a*·)
noncomputable def rI:List Int->List Int->List Int
 |[],_=>[]
 |a::p,q=>rH (Gj a q) (0::rI p q)
theorem jg (x:Int):∀ p q,ev x (rH p q)=ev x p+ev x q
 |[],q=>(Int.zero_add _).symm
 |a::p,[]=>(add_zero _).symm
 |a::p,b::q=>(congrArg (λy=>a+b+x*y) (jg x p q)).trans (by show _=(a+x*ev x p)+(b+x*ev x q);rw[Int.mul_add];lia)
theorem xo (x a:Int):∀ p,ev x (Gj a p)=a*ev x p:=by
 intro p
 induction p with
 |nil=>
  exact(Int.mul_zero a).symm
 |cons c p ih=>
  exact(congrArg (λy=>a*c+x*y) (ih)).trans (by show _=a*(c+x*ev x p);rw[Int.mul_add,Int.mul_left_comm])
theorem rJ (x:Int):∀ p q,ev x (rI p q)=ev x p*ev x q
 |[],q=>(Int.zero_mul _).symm
 |a::p,q=>(jg x _ _).trans (by rw[xo];show a*ev x q+(0+x*ev x (rI p q))=(a+x*ev x p)*ev x q;rw[rJ x p q,Int.zero_add,Int.add_mul,Int.mul_assoc])
noncomputable def mono (k:Nat):List Int:=replicate k 0++[1]
theorem sZ (x:Int):∀ k,ev x (mono k)=x^k:=by
 intro k
 induction k with
 |zero=>
  show 1+x*0=x^0;rw[Int.mul_zero,Int.pow_zero];rfl
 |succ k ih=>
  show 0+x*ev x (mono k)=_;rw[ih,Int.zero_add,Int.pow_succ,Int.mul_comm]
noncomputable def Fd (k:Nat):List Int:=rH [-1] (mono k)
theorem Ct (x:Int)(k:Nat):ev x (Fd k)=x^k-1:=by
 rw[Fd,jg,sZ];show -1+x*0+x^k=_;lia
noncomputable def uG:List Int->Option Int
 |[]=>some 0
 |c::p=>match uG p with
  |some l=>if 0<=256*l+c then some (256*l+c) else none
  |none=>none
theorem ta {x:Int}(hx:256<=x):∀ (p:List Int) (l:Int),uG p=some l->0<=l/\l<=ev x p:=by
 intro p
 induction p with
 |nil=>
  intro l h;cases h;exact⟨Int.le_refl _,Int.le_refl _⟩
 |cons c p ih=>
  intro l h;have h:(match uG p with |some l=>if 0<=256*l+c then some (256*l+c) else none |none=>none)=some l:=h
  cases hp:uG p with
  |none=>rw[hp]at h;cases h
  |some l'=>
   rw[hp]at h;simp only at h;split at h
   ·rename_i h0;cases h;refine av (ih l' hp) λh1 h2=>?_;refine⟨h0,?_⟩;show 256*l'+c<=c+x*ev x p;have:256*l'<=x*ev x p:=Int.mul_le_mul hx h2 h1 (by lia);lia
   ·cases h
noncomputable def pU (rs:cj):List Int:=(rs.map λx=>x.p*x.q).foldl (λa k=>rI a (Fd k)) (mono (54-(rs.map λx=>x.p*x.q).sum))
noncomputable def ik:List Int:=(range' 1 9).foldl (λa k=>rI a (Fd k)) [1]
noncomputable def pV (rs:cj):List Int:=(cq rs).reverse.map λk:Nat=>(k:Int)
noncomputable def zn (rs:cj):List Int:=rH (pU rs) (Gj (-1) (rI (pV rs) ik))
noncomputable def lx (rs:cj):Bool:=(uG (zn rs)).isSome&&(uG (rH (rH ik (Gj (-1) (zn rs))) [-1])).isSome&&Nat.beq (cq rs).length 10&&(cq rs).all (λk=>Nat.ble k 255)&&Nat.beq ((cq rs).getD 0 0) 1&&Nat.ble (rs.map λx=>x.p*x.q).sum 54
theorem j5:∀ rs∈fC,lx rs=true:=by decide +kernel
theorem xp {rs:cj}(h:rs∈fC){x:Int}(hx:256<=x):ev x (pV rs)*ev x ik<=ev x (pU rs)/\ev x (pU rs)<ev x (pV rs)*ev x ik+ev x ik:=by
 have hp:=j5 rs h;simp only[lx,and_eq_true]at hp;refine av hp ?_;clear hp;rintro⟨⟨⟨⟨a1,a2⟩,_⟩,_⟩,_⟩ _;refine aw (isSome_iff_exists.mp a1) λl1 e1=>?_;refine aw (isSome_iff_exists.mp a2) λl2 e2=>?_;have b1:=ta hx _ _ e1;have b2:=ta hx _ _ e2
 have er:ev x (zn rs)=ev x (pU rs)-ev x (pV rs)*ev x ik:=by
  rw[zn,jg,xo,rJ];lia
 rw[jg,jg,xo,er]at b2;rw[er]at b1;rw[show ev x [-1]=-1+x*0 from rfl,Int.mul_zero]at b2;exact Db b1 b2
theorem lQ {X:Cx}{Ki:Loc}{Ke:St}:∀ {A B:List S} {σ:Loc} {st:St},cw X A σ st=some (.next,Ki,Ke)->cw X (A++B) σ st=cw X B Ki Ke:=by
 intro A
 induction A with
 |nil=>
  intro B σ st h;exact ti (P:=λ_ a b=>cw X B σ st=cw X B a b) h rfl
 |cons s A ih=>
  intro B σ st h;exact kZ h λKL Kf h1 h2=>(ae h1).trans (ih h2)
noncomputable def sA:List S:=[.asg (.nm 87) (.call 0 [.l 86]),.asg (.nm 107) (.b .Mod (.b .FloorDiv (.bi .sum [.l 87]) (.int 5)) (.int 30)),.asg (.nm 103) (.b .Mod (.b .FloorDiv (.bi .sum [.l 87]) (.int 7)) (.int 5000)),.asg (.nm 114) (.call 2 [.l 87]),.asg (.nm 115) (.new false (.comp (.tup [.l 75,.l 163,.l 91,.l 80]) (.tup [91,80,75,163]) (.l 114) [] [])),.asg (.nm 116) (.call 4 [.sub (.l 87) (.int 3),.l 114]),.asg (.tup [96,97]) (.call 5 [.l 116,.l 114])]
noncomputable def wB:List S:=[.expr (.meth 34 (.l 101) [.sub (.sub (.new false (.list [.str [97,98,99,100,101,102],.str [65,66,67,68,69,70]])) (.b .Mod (.l 61) (.int 2))) (.b .Sub (.sub (.l 116) (.l 61)) (.int 1)),.b .Add (.b .Mult (.str [32]) (.sub (.l 116) (.l 61))) (.str [9])])]
noncomputable def sB:List S:=[.asg (.nm 101) (.call 20 [.new true (.list [])]),.for (.nm 61) (.bi .range1 [.bi .len [.l 116]]) wB []]
noncomputable def Az:E:=.tup [.bi .tuple [.new false (.cat (.new false (.list [.int 1])) (.new false (.comp (.sm .count (.l 116) [.l 92]) (.nm 92) (.bi .range2 [.int 1,.b .Add (.bi .max [.l 116]) (.int 1)]) [] [116])))],.int 2]
noncomputable def sC:List S:=[.asg (.nm 117) (.call 9 [.l 101]),.asg (.nm 2) Az,.iff (.val (.cmp .NotEq (.tup [.attr (.l 117) 0,.attr (.l 117) 1,.attr (.l 117) 2]) (.tup [.b .Add (.b .Add (.bi .sum [.l 116]) (.bi .len [.l 116])) (.int 3),.b .Add (.bi .len [.l 116]) (.int 1),.l 2]))) [.ret (.bool false)] []]
noncomputable def sD:List S:=[.iff (.val (.cmp .NotEq (.call 10 [.l 101,.l 114,.l 107,.l 103,.sub (.l 87) (.int 4)]) (.l 97))) [.ret (.bool false)] []]
noncomputable def xq:E:=.new false (.comp2 (.l 92) (.nm 92) (.bi .range1 [.int 7]) (.nm 61) (.bi .range1 [.sub (.l 96) (.l 92)]) [96])
noncomputable def sE:List S:=[.asg (.nm 118) xq,.iff (.val (.cmp .NotEq (.new false (.sorted (.new false (.comp (.b .Sub (.bi .len [.l 102]) (.int 1)) (.nm 102) (.meth 33 (.l 101) []) [] [])))) (.l 118))) [.ret (.bool false)] []]
noncomputable def sF:List S:=[.asg (.nm 119) (.b .Add (.sm .join (.str []) [.new false (.comp (.b .Add (.b .Mult (.str [32]) (.l 92)) (.str [9])) (.nm 92) (.l 118) [] [])]) (.str [9,32,32])),.asg (.nm 120) (.call 9 [.l 101]),.asg (.nm 121) (.new false (.comp (.meth 36 (.l 120) [.l 106]) (.nm 106) (.tup [.l 117,.call 21 [.l 119],.call 21 [.b .Add (.l 119) (.str [32])]]) [] [120])),.iff (.val (.cmp .NotEq (.new false (.cat (.new false (.comp (.isTy (.l 195) .bool false) (.nm 195) (.l 121) [] [])) (.l 121))) (.new false (.list [.bool true,.bool true,.bool true,.bool false,.bool true,.bool false])))) [.ret (.bool false)] []]
noncomputable def sG:List S:=[.iff (.or (.val (.cmp .NotEq (.call 10 [.l 101,.l 115,.l 107,.l 103,.b .FloorDiv (.sub (.l 87) (.int 4)) (.int 7)]) (.l 97))) (.val (.isTru (.meth 36 (.call 9 [.l 101]) [.l 117]) true))) [.ret (.bool false)] []]
noncomputable def wH:List S:=[.aug 123 .Mult (.b .Sub (.b .LShift (.int 1) (.b .Mult (.b .Mult (.l 122) (.l 91)) (.l 80))) (.int 1))]
noncomputable def wI:List S:=[.aug 124 .Mult (.b .Sub (.b .LShift (.int 1) (.b .Mult (.l 122) (.l 61))) (.int 1))]
noncomputable def sH:List S:=[.asg (.nm 122) (.b .Add (.int 8) (.b .Mod (.b .FloorDiv (.bi .sum [.l 87]) (.int 20)) (.int 500))),.asg (.nm 123) (.b .LShift (.int 1) (.b .Mult (.l 122) (.b .Sub (.int 54) (.bi .sum [.new false (.comp (.b .Mult (.l 91) (.l 80)) (.tup [91,80,75,163]) (.l 114) [] [])])))),.for (.tup [91,80,75,163]) (.l 114) wH [],.asg (.nm 124) (.int 1),.for (.nm 61) (.bi .range2 [.int 1,.int 10]) wI []]
noncomputable def sI:List S:=[.asg (.nm 125) (.call 12 [.l 123,.l 124]),.iff (.or (.val (.cmp .NotEq (.new false (.comp (.isTy (.l 198) .int false) (.nm 198) (.l 125) [] [])) (.new false (.list [.bool true,.bool true])))) (.val (.cmp .NotEq (.l 125) (.tup [.sub (.l 125) (.int 0),.b .Sub (.l 123) (.b .Mult (.sub (.l 125) (.int 0)) (.l 124))])))) [.ret (.bool false)] []]
noncomputable def sJ:List S:=[.asg (.nm 126) (.call 16 [.sub (.l 125) (.int 0),.l 122]),.iff (.or (.val (.cmp .NotEq (.l 126) (.new false (.rev (.call 11 [.l 114]))))) (.val (.cmp .NotEq (.call 16 [.int 0,.l 122]) (.new false (.list []))))) [.ret (.bool false)] []]
noncomputable def AA:E:=.new false (.comp (.b .Add (.b .FloorDiv (.sub (.l 126) (.l 61)) (.int 2)) (.b .Mult (.b .Mod (.sub (.l 126) (.b .Add (.l 61) (.int 1))) (.int 2)) (.b .LShift (.int 1) (.b .Sub (.l 122) (.int 1))))) (.nm 61) (.bi .range1 [.int 9]) [] [126,122])
noncomputable def sK:List S:=[.asg (.nm 127) AA,.ret (.cmp .Eq (.call 16 [.b .FloorDiv (.sub (.l 125) (.int 0)) (.int 2),.l 122]) (.l 127))]
theorem Cu:HC=sA++(sB++(sC++(sD++(sE++(sF++(sG++(sH++(sI++(sJ++sK))))))))):=rfl
theorem ly {st:St}{i:Nat}{l:List Int}(h:st[i]?=some (.list (l.map .int))):gy st .sum [.obj i]=some (.int l.sum,st):=jV (mC h) (jI (allInts_map _) rfl)
theorem xr (x:Int)(d m:Nat)(hd:0<d/\d<1000)(hm:0<m):∃ k:Nat,k<m/\aK .FloorDiv (.int x) (.int d)=some (.int (x.fdiv d))/\aK .Mod (.int (x.fdiv d)) (.int m)=some (.int k):=by
 have f0:0<=(x.fdiv d).fmod (m:Int):=fmod_nonneg_of_pos _ (by exact uH);have f1:(x.fdiv d).fmod (m:Int)<(m:Int):=fmod_lt_of_pos _ (by exact uH);refine⟨((x.fdiv d).fmod m).toNat,CV f0 f1,?_,?_⟩
 ·exact fM ⟨by exact Dt,kV (by rw[natAbs_natCast];exact uP)⟩
 ·exact(dT (by exact ym)).trans (congrArg (λx=>some (AV.int x)) (zF f0).symm)
noncomputable def KR (Sv:AV)(low sh:Nat)(rs:cj)(τ:Loc):Loc:=(86,Sv)::(87,.obj 0)::(107,.int low)::(103,.int sh)::(114,.obj 1)::(115,.lst ((eN rs).map aV))::(116,.obj 2)::(96,.obj 3)::(97,.obj 4)::τ
noncomputable def C5 (cs:List Int)(rs:cj)(L e u:List Nat):St:=[.list (cs.map .int),.list (rs.map aV),.list (ah L),.list (ah e),.list (ah u)]
theorem Ig (m:Nat)(l:List Int)(hl:l.length<=1000):∃ (cs:List Int) (rs:cj) (L e u:List Nat) (low sh:Nat),cs.length=5/\rs∈fC/\K0 rs/\Ml rs L e u/\low<30/\sh<5000 /\
  cw ⟨run (m+9)⟩ sA [(86,.lst (l.map .int))] []=some (.next,KR (.lst (l.map .int)) low sh rs [],C5 cs rs L e u):=by
 let Sv:AV:=.lst (l.map .int);refine ak (H2 (m+8) l hl []) λcs Lv x0=>?_;have Qi:run (m+9) 0 [Sv] []=some (.obj 0,[.list (cs.map .int)]):=x0;let s1:St:=[.list (cs.map .int)];have g1:s1[0]?=some (.list (cs.map .int)):=rfl;refine cU (xr cs.sum 5 30 (by decide) (by decide)) λlow MR a1 a2=>?_;refine cU (xr cs.sum 7 5000 (by decide) (by decide)) λsh KP a3 a4=>?_;refine ak (H5 (m+8) Lv g1) λrs LV x2=>?_;have ho:=zl (Fc rs LV);have x2':run (m+9) 2 [.obj 0] s1=some (.obj 1,[.list (cs.map .int),.list (rs.map aV)]):=x2;let s2:St:=[.list (cs.map .int),.list (rs.map aV)];have MT:RV s2 (.obj 1) rs:=.inr ⟨1,rfl,rfl⟩;refine GP (H7 (m+7) (num:=cs[3]) MT ho (zi rs LV)) λx a b c hx ha hb hc x4=>?_;let L:=nN rs x a b c;have hL:L∈gx rs:=uF hx ha hb hc;refine nX (zm LV hL) λe u hp=>?_;let s3:St:=[.list (cs.map .int),.list (rs.map aV),.list (ah L)];have x4':run (m+9) 4 [.int cs[3],.obj 1] s2=some (.obj 2,s3):=x4;have NW:RV s3 (.obj 1) rs:=.inr ⟨1,rfl,rfl⟩;have x5:=H8 (m+8) (a:=2) (st:=s3) NW ho (L:=L) rfl hp.tw;have x5':run (m+9) 5 [.obj 2,.obj 1] s3=some (.tup [.obj 3,.obj 4],C5 cs rs L e u):=x5;refine⟨cs,rs,L,e,u,low,sh,Lv,LV,ho,hp,MR,KP,?_⟩
 have e3v:cB s2 (.obj 0) (.int 3)=some (.int cs[3]):=by
  have:=cG (st:=s2) (i:=0) (xs:=cs.map .int) (k:=3) (v:=.int cs[3]) rfl (by rw[getElem?_map,getElem?_eq_getElem (by exact GS)];rfl) (by decide);exact this
 have y0:aa ⟨run (m+9)⟩ (.call 0 [.l 86]) [(86,Sv)] []=some (.obj 0,s1):=be (vs:=[Sv]) rfl Qi
 have y1:aa ⟨run (m+9)⟩ (.b .Mod (.b .FloorDiv (.bi .sum [.l 87]) (.int 5)) (.int 30)) [(86,Sv),(87,.obj 0)] s1=some (.int low,s1):=
  aj (aj (dn (vs:=[.obj 0]) rfl (ly g1)) rfl a1) rfl a2
 have y2:aa ⟨run (m+9)⟩ (.b .Mod (.b .FloorDiv (.bi .sum [.l 87]) (.int 7)) (.int 5000)) [(86,Sv),(87,.obj 0),(107,.int low)] s1=some (.int sh,s1):=
  aj (aj (dn (vs:=[.obj 0]) rfl (ly g1)) rfl a3) rfl a4
 have y3:aa ⟨run (m+9)⟩ (.call 2 [.l 87]) [(86,Sv),(87,.obj 0),(107,.int low),(103,.int sh)] s1=some (.obj 1,s2):=be (vs:=[.obj 0]) rfl x2'
 have y4:aa ⟨run (m+9)⟩ (.new false (.comp (.tup [.l 75,.l 163,.l 91,.l 80]) (.tup [91,80,75,163]) (.l 114) [] [])) [(86,Sv),(87,.obj 0),(107,.int low),(103,.int sh),(114,.obj 1)] s2=some (.lst ((eN rs).map aV),s2):=by
  rw[eN,map_map];refine aH (bS (v:=.obj 1) rfl MT.items (by rw[length_map,ho.1];decide) (aD aV _ MT.stands rs λx _=>?_));exact lC (Ki:=[(91,.int x.p),(80,.int x.q),(75,.int x.r),(163,.int x.s)]) rfl rfl
 have y5:aa ⟨run (m+9)⟩ (.call 4 [.sub (.l 87) (.int 3),.l 114]) [(86,Sv),(87,.obj 0),(107,.int low),(103,.int sh),(114,.obj 1),(115,.lst ((eN rs).map aV))] s2=some (.obj 2,s3):=
  be (e2 (bW rfl rfl e3v) rfl) x4'
 have y6:aa ⟨run (m+9)⟩ (.call 5 [.l 116,.l 114]) [(86,Sv),(87,.obj 0),(107,.int low),(103,.int sh),(114,.obj 1),(115,.lst ((eN rs).map aV)),(116,.obj 2)] s3=some (.tup [.obj 3,.obj 4],C5 cs rs L e u):=be (vs:=[.obj 2,.obj 1]) rfl x5';refine(ae (Ki:=[(86,Sv),(87,.obj 0)]) (aE y0 rfl)).trans ?_;refine(ae (Ki:=[(86,Sv),(87,.obj 0),(107,.int low)]) (aE y1 rfl)).trans ?_;refine(ae (Ki:=[(86,Sv),(87,.obj 0),(107,.int low),(103,.int sh)]) (aE y2 rfl)).trans ?_;refine(ae (Ki:=[(86,Sv),(87,.obj 0),(107,.int low),(103,.int sh),(114,.obj 1)]) (aE y3 rfl)).trans ?_;refine(ae (Ki:=[(86,Sv),(87,.obj 0),(107,.int low),(103,.int sh),(114,.obj 1),(115,.lst ((eN rs).map aV))]) (aE y4 rfl)).trans ?_;refine(ae (Ki:=[(86,Sv),(87,.obj 0),(107,.int low),(103,.int sh),(114,.obj 1),(115,.lst ((eN rs).map aV)),(116,.obj 2)]) (aE y5 rfl)).trans ?_;exact(ae (Ki:=KR Sv low sh rs []) (aE y6 rfl)).trans bB
structure LI (st:St)(cs:List Int)(rs:cj)(L e u:List Nat)(B:dJ):Prop where
 c0:st[0]?=some (.list (cs.map .int))
 c1:st[1]?=some (.list (rs.map aV))
 c2:st[2]?=some (.list (ah L))
 c3:st[3]?=some (.list (ah e))
 c4:st[4]?=some (.list (ah u))
 hb:Hd st 7 6 5 (bX B)
 ok:lD B
section
variable {cs:List Int}{rs:cj}{L e u:List Nat}{B:dJ}{low sh:Nat}{Sv:AV}
theorem LI.kp {st Kd:St}(h:LI st cs rs L e u B)(k:Kp [] st Kd):LI Kd cs rs L e u B:=
 ⟨k.get h.c0 (by simp),k.get h.c1 (by simp),k.get h.c2 (by simp),k.get h.c3 (by simp),k.get h.c4 (by simp),h.hb.mono k (by simp) (by simp) (by simp),h.ok⟩
theorem LI.kp5 {st Kd:St}(h:LI st cs rs L e u B)(k:Kp [5] st Kd){B':dJ}(hb:Hd Kd 7 6 5 (bX B'))(ok:lD B'):LI Kd cs rs L e u B':=
 ⟨k.get h.c0 (by decide),k.get h.c1 (by decide),k.get h.c2 (by decide),k.get h.c3 (by decide),k.get h.c4 (by decide),hb,ok⟩
theorem lB (m:Nat)(hL:∀ z∈L,1<=z/\z<=6)(hl:L.length<=9){ok:St->Bool}(hk:∀ st,ok st=true):∀ (n j:Nat) (st:St) (B:dJ) (τ:Loc),LI st cs rs L e u B->j+n=L.length->ci B=L.take j ->
  ∃ (B':dJ) (Kw:Loc) (Kd:St),bc ok (bV ⟨run (m+9)⟩ (.nm 61) wB) ((range' j n).map λk:Nat=>AV.int k) (KR Sv low sh rs ((101,.obj 7)::τ)) st=some (.next,KR Sv low sh rs ((101,.obj 7)::Kw),Kd)/\LI Kd cs rs L e u B'/\ci B'=L/\Kw=(if n=0 then τ else ai τ 61 (.int ((j+n-1:Nat):Int))):=by
 intro n
 induction n with
 |zero=>
  intro j st B τ h hj hB;exact⟨B,τ,st,hZ (hk _),h,by rw[hB,List.take_of_length_le (by exact Q1 0x40150112541102 [_,_] hj rfl)],rfl⟩
 |succ n ih=>
  intro j st B τ h hj hB;have Qj:j<L.length:=by exact Q1 0x511160401115111401102 [_,_,_] hj rfl
  have hz:=hL L[j] (getElem_mem Qj);let z:=L[j];have Nk:B.length<=1000:=h.ok.1;let bb:Bool:=j%2==1;refine cU (BU (m+7) h.hb Nk bb z hz) λKe x34 k1 h1=>?_
  have hBlen:B.length=j:=by
   have:=congrArg List.length hB;rw[ci,length_map,length_take,Nat.min_eq_left (by exact G3)]at this;exact this
  have ok1:lD (B++[(bb,z)]):=by
   refine⟨by simp;exact Q4 0x643e93151117060912511170603f23191153e9303e73143e9305 [_,_,_,_] hl hj hj hBlen rfl,λp hp=>?_⟩;simp only[mem_append,mem_singleton]at hp;rcases hp with hp |rfl
   ·exact h.ok.2 p hp
   ·exact hz
  have LI1:=h.kp5 k1 h1 ok1
  have sz1:ci (B++[(bb,z)])=L.take (j+1):=by
   rw[ci,map_append,show B.map (·.2)=L.take j from hB,List.take_succ,getElem?_eq_getElem Qj];rfl
  refine mN (ih (j+1) Ke (B++[(bb,z)]) (ai τ 61 (.int j)) LI1 (by exact le_antisymm (Q1 0x61115040111651114001102 [_,_,_] hj rfl) (Q1 0x41116050112611150041102 [_,_,_] hj rfl)) sz1) λB' Kw Kd e' Qk hs Mj=>?_;refine⟨B',Kw,Kd,?_,Qk,hs,?_⟩
  ·rw[range'_succ,map_cons]
   have Nm:af (KR Sv low sh rs ((101,.obj 7)::ai τ 61 (.int j))) 61=some (.int j):=by
    show af (ai τ 61 (.int j)) 61=_;exact ab _ _ _
   have sz:cB st (.obj 2) (.int j)=some (.int z):=cG h.c2 (by rw[ah,getElem?_map,getElem?_eq_getElem Qj];rfl) (by exact AR);have m1:=nL st j 2 (by decide)
   have kk:cB st (.lst [.str [97,98,99,100,101,102],.str [65,66,67,68,69,70]]) (.int ((j%2:Nat):Int))=some (.str (if bb then [65,66,67,68,69,70] else [97,98,99,100,101,102])):=by
    have:j%2=0\/j%2=1:=by exact IH
    rcases this with q |q
    ·have hb:bb=false:=by simp[bb,q]
     rw[q,hb];rfl
    ·have hb:bb=true:=by simp[bb,q]
     rw[q,hb];rfl
   have kz:cB st (.str (if bb then [65,66,67,68,69,70] else [97,98,99,100,101,102])) (.int ((z:Int)-1))=some (.str (fz (bb,z))):=by
    have OK:1<=z/\z<=6:=hz;have Nf:z=1\/z=2\/z=3\/z=4\/z=5\/z=6:=by exact uK
    generalize z=z' at Nf ⊢;cases bb<;>rcases Nf with rfl |rfl |rfl |rfl |rfl |rfl<;>rfl
   have hz6:z<=6:=hz.2
   have t1:aK .Mult (.str [32]) (.int z)=some (.str (replicate z 32)):=by
    have:-1000<=(z:Int)/\(z:Int)<=1000:=by exact IN
    exact if_pos this
   have t2:aK .Add (.str (replicate z 32)) (.str [9])=some (.str (bH z)):=by
    have:(replicate z 32).length+[9].length<=1000000:=by simp;exact bN
    exact if_pos this
   have v1:aa ⟨run (m+9)⟩ (.sub (.sub (.new false (.list [.str [97,98,99,100,101,102],.str [65,66,67,68,69,70]])) (.b .Mod (.l 61) (.int 2))) (.b .Sub (.sub (.l 116) (.l 61)) (.int 1))) (KR Sv low sh rs ((101,.obj 7)::ai τ 61 (.int j))) st=some (.str (fz (bb,z)),st):=
    bW (bW (aH (cK (e2 rfl rfl))) (aj (ay Nm) rfl m1) kk) (aj (bW rfl (ay Nm) sz) rfl rfl) kz
   have v2:aa ⟨run (m+9)⟩ (.b .Add (.b .Mult (.str [32]) (.sub (.l 116) (.l 61))) (.str [9])) (KR Sv low sh rs ((101,.obj 7)::ai τ 61 (.int j))) st=some (.str (bH z),st):=
    aj (aj rfl (bW rfl (ay Nm) sz) t1) rfl t2
   exact(bR (hk _) ((aR (Ki:=KR Sv low sh rs ((101,.obj 7)::ai τ 61 (.int j))) rfl).trans ((ae (eG (eY (x:=.obj 7) rfl (h.hb.recv 34 rfl rfl) (e2 v1 v2) x34) rfl)).trans bB))).trans e'
  ·rw[Mj,show(if n+1=0 then τ else ai τ 61 (.int ((j+(n+1)-1:Nat):Int)))=ai τ 61 (.int ((j+(n+1)-1:Nat):Int)) from if_neg (by exact ne_of_gt (Q0 0x111401110101101 [_] rfl))]
   have dup:∀ (a b:AV) (τ:Loc),ai (ai τ 61 a) 61 b=ai τ 61 b:=by
    intro a b τ
    induction τ with
    |nil=>rfl
    |cons p τ ih=>
     obtain⟨y,v⟩:=p;simp only[ai];by_cases h:Nat.beq y 61=true
     ·simp[h,ai]
     ·have h':Nat.beq y 61=false:=eq_false_iff.mpr h;simp[h',ai,ih]
   split
   ·rename_i hn;subst hn;rfl
   ·rw[dup];congr 3;exact le_antisymm (Q2 0x111706011150112711160011140111541103 [_,_,_,_] (sub_add_cancel (Q0 0x51114001111101 [_,_] rfl)) (sub_add_cancel (Q0 0x11150401111101 [_,_] rfl)) rfl) (Q2 0x111706011140111711160011150112541103 [_,_,_,_] (sub_add_cancel (Q0 0x51114001111101 [_,_] rfl)) (sub_add_cancel (Q0 0x11150401111101 [_,_] rfl)) rfl)
theorem Ih (m:Nat)(hp:Ml rs L e u):∃ (B:dJ) (v:AV) (Kd:St),cw ⟨run (m+9)⟩ sB (KR Sv low sh rs []) (C5 cs rs L e u)=some (.next,KR Sv low sh rs [(101,.obj 7),(61,v)],Kd)/\LI Kd cs rs L e u B/\ci B=L:=by
 refine yh (w8 (m+8) (KR Sv low sh rs []) (C5 cs rs L e u)) λKe x1 k1 h1 l1=>?_;have Ri:LI Ke cs rs L e u []:=⟨k1.get rfl (by simp),k1.get rfl (by simp),k1.get rfl (by simp),k1.get rfl (by simp),k1.get rfl (by simp),h1,⟨by simp,by simp⟩⟩;have x1':aa ⟨run (m+9)⟩ (.call 20 [.new true (.list [])]) (KR Sv low sh rs []) (C5 cs rs L e u)=some (.obj 7,Ke):=x1;refine mN (lB (Sv:=Sv) (low:=low) (sh:=sh) m hp.sz hp.ln (ok:=λst=>an st (.rng 0 (L.length:Nat)) ((List.range L.length).map λk:Nat=>AV.int k)) (λ_=>rfl) L.length 0 Ke [] [] Ri (by exact JQ) rfl) λB' Kw Kd e' Qk hs Mj=>?_;have Lu:L.length≠0:=λh=>hp.ne (List.length_eq_zero_iff.mp h);rw[if_neg Lu]at Mj;subst Mj;refine⟨B',.int ((0+L.length-1:Nat):Int),Kd,?_,Qk,hs⟩
 have Ko:gy Ke .len [.obj 2]=some (.int (L.length:Nat),Ke):=by
  have hl9:=hp.ln;rw[iG Ri.c2 (by rw[length_map];exact bN),length_map]
 refine(ae (Ki:=KR Sv low sh rs [(101,.obj 7)]) (aE x1' rfl)).trans ?_;refine(ae (Ki:=KR Sv low sh rs [(101,.obj 7),(61,.int ((0+L.length-1:Nat):Int))]) (fp (dn (P.e1 (dn (vs:=[.obj 2]) rfl Ko)) (aZ L.length (by have:=hp.ln;exact dU))) (aL L.length (by have:=hp.ln;exact dU)) ?_)).trans bB;rw[range_eq_range'];have:=e';rw[range_eq_range']at this;exact this
end
theorem pW:∀ (L:List Nat),L≠[]->nZ (L.map λk:Nat=>(k:Int))=some ((mx L:Nat):Int)
 |[],h=>absurd rfl h
 |[x],_=>by simp[nZ,mx]
 |x::y::r,_=>by
  have e:=pW (y::r) (by simp);have e2:nZ ((x::y::r).map λk:Nat=>(k:Int))=(nZ ((y::r).map λk:Nat=>(k:Int))).map λm=>if (x:Int)<m then m else x:=rfl
  rw[e2,e];have e3:mx (x::y::r)=max x (mx (y::r)):=rfl;rw[e3,map_some];congr 1;split
  ·exact congrArg ofNat (Nat.max_eq_right (le_of_lt (ofNat_lt.mp (by assumption)))).symm
  ·exact congrArg ofNat (Nat.max_eq_left (not_lt.mp λz=>absurd (ofNat_lt.mpr z) (by assumption))).symm
theorem rK {L:List Nat}(h:∀ z∈L,1<=z/\z<=6):aI (0::L)=1::(range' 1 (mx L)).map λz=>(L.count z:Int):=by
 have e1:mx (0::L)=mx L:=by
  have:mx (0::L)=max 0 (mx L):=rfl;exact bz
 rw[aI,e1,range_eq_range',range'_succ,map_cons];congr 1
 ·have:L.count 0=0:=count_eq_zero.mpr λhm=>by have:=(h 0 hm).1;exact not_succ_le_zero 0 (Q1 0x1111110011111102 [] this rfl)
  simp[this]
 ·apply map_congr_left;intro z hz;rw[mem_range']at hz;refine ak hz ?_;clear hz;intro i _ e;rw[count_cons_of_ne (by exact ne_of_lt (Q1 0x51121110411241110101102 [_,_] e rfl))]
theorem Fe (st:St)(a b:Nat)(cs:List Int):ba 6 st (.tup [.int a,.int b,.tup [.tup (cs.map .int),.int 2]])=some (.tuple [.int a,.int b,.tuple [.tuple (cs.map .int),.int 2]]):=by
 simp only[ba,map_cons,map_nil,aY,ed,Option.map]
theorem zo:∀ (B:dJ),lD B->B.length=(cnt B 1+cnt B 2+cnt B 3+cnt B 4+cnt B 5+cnt B 6):=by
 intro B
 induction B with
 |nil=>
  intro _;exact rfl
 |cons p B ih=>
  intro h;have ih:=ih ⟨by have:=h.1;simp at this;exact bN,λq hq=>h.2 q (by simp[hq])⟩;have hp:=h.2 p (by simp)
  have hc:∀ k,cnt (p::B) k=cnt B k+if p.2=k then 1 else 0:=λk=>by
   have:cnt (p::B) k=(p.2::ci B).count k:=rfl;rw[this,count_cons];simp only[cnt,beq_iff_eq]
  have hz:p.2=1\/p.2=2\/p.2=3\/p.2=4\/p.2=5\/p.2=6:=by exact uK
  simp only[hc,length_cons];rcases hz with e |e |e |e |e |e<;>rw[e]<;>simp<;>lia
section
variable {cs:List Int}{rs:cj}{L e u:List Nat}{B:dJ}{low sh:Nat}{Sv v:AV}
noncomputable def tb (L:List Nat):AV:=.tup [.tup ((aI (0::L)).map .int),.int 2]
theorem Ii (m:Nat)(hp:Ml rs L e u){st:St}(h:LI st cs rs L e u B)(hs:ci B=L):∃ (w:Nat) (Kd:St),cw ⟨run (m+9)⟩ sC (KR Sv low sh rs [(101,.obj 7),(61,v)]) st=some (.next,KR Sv low sh rs [(101,.obj 7),(61,v),(117,.obj w),(2,tb L)],Kd)/\LI Kd cs rs L e u B/\Ws Kd w (L.sum+L.length+3) (L.length+1) 2 (aI (0::L)):=by
 refine cU (y8 (m+7) h.hb h.ok) λKe x9 k1 w1=>?_;rw[hs]at w1;have h1:=h.kp k1;refine⟨st.length+1,Ke,?_,h1,w1⟩;let KC:Loc:=[(101,.obj 7),(61,v),(117,.obj (st.length+1))];let KS:Loc:=[(101,.obj 7),(61,v),(117,.obj (st.length+1)),(2,tb L)];have y1:aa ⟨run (m+9)⟩ (.call 9 [.l 101]) (KR Sv low sh rs [(101,.obj 7),(61,v)]) st=some (.obj (st.length+1),Ke):=be (vs:=[.obj 7]) rfl x9
 have hmx:mx L<=6:=by
  have:∀ M:List Nat,(∀ z∈M,z<=6)->mx M<=6:=by
   intro M
   induction M with
   |nil=>intro _;simp[mx]
   |cons a M ih=>
    intro hM;have:=ih λz hz=>hM z (by simp[hz]);have:=hM a (by simp);simp only[mx,foldr_cons]at *;exact G5
  exact this L λz hz=>(hp.sz z hz).2
 have bm:gy Ke .max [.obj 2]=some (.int (mx L:Nat),Ke):=by
  exact jV (mC h1.c2) (jI (cL L) (congrArg (Option.map λm:Int=>(AV.int m,Ke)) (pW L hp.ne)))
 have Rj:gy Ke .len [.obj 2]=some (.int (L.length:Nat),Ke):=by
  have hl9:=hp.ln;rw[iG h1.c2 (by rw[length_map];exact bN),length_map]
 have bs:=sU h1.c2
 have c1:dt ⟨run (m+9)⟩ (.comp (.sm .count (.l 116) [.l 92]) (.nm 92) (.bi .range2 [.int 1,.b .Add (.bi .max [.l 116]) (.int 1)]) [] [116]) (KR Sv low sh rs KC) Ke=some ((range' 1 (mx L)).map λz=>.int (L.count z:Nat),Ke):=by
  have es:aN ⟨run (m+9)⟩ [.int 1,.b .Add (.bi .max [.l 116]) (.int 1)] (KR Sv low sh rs KC) Ke=some ([.int (1:Nat),.int ((1+mx L:Nat):Int)],Ke):=by
   refine e2 rfl (aj (dn (vs:=[.obj 2]) rfl bm) rfl ?_);refine congrArg (λx=>some (AV.int x)) ?_;lia
  refine bS (dn es (fB 1 (1+mx L) (by decide) (by exact Ga))) (eM 1 (mx L) (by exact Ga)) (by simp;exact bN) ?_;refine aD (λk:Nat=>AV.int k) (λz=>.int (L.count z:Nat)) rfl (range' 1 (mx L)) λz _=>?_;exact lC (Ki:=[(116,.obj 2),(92,.int z)]) rfl (gV (x:=.obj 2) rfl (cS h1.c2) (P.e1 rfl) (jd h1.c2 z))
 have nv:(aI (0::L)).map AV.int=[.int 1]++(range' 1 (mx L)).map λz=>.int (L.count z:Nat):=by
  rw[rK hp.sz,map_cons,map_map];rfl
 have y2:aa ⟨run (m+9)⟩ Az (KR Sv low sh rs KC) Ke=some (tb L,Ke):=by
  have hc:aa ⟨run (m+9)⟩ (.new false (.cat (.new false (.list [.int 1])) (.new false (.comp (.sm .count (.l 116) [.l 92]) (.nm 92) (.bi .range2 [.int 1,.b .Add (.bi .max [.l 116]) (.int 1)]) [] [116])))) (KR Sv low sh rs KC) Ke=some (.lst ((aI (0::L)).map .int),Ke):=by
   rw[nv];exact aH (wc (aH (cK rfl)) (aH c1) rfl rfl (by simp;exact Dj))
  have ht:gy Ke .tuple [.lst ((aI (0::L)).map .int)]=some (.tup ((aI (0::L)).map .int),Ke):=by
   have Ko:((aI (0::L)).map AV.int).length<=2^20:=by
    rw[nv];simp;exact bN
   exact if_pos Ko
  exact kU (e2 (dn (P.e1 hc) ht) rfl)
 have y3:aa ⟨run (m+9)⟩ (.tup [.attr (.l 117) 0,.attr (.l 117) 1,.attr (.l 117) 2]) (KR Sv low sh rs KS) Ke=some (.tup [.int ((L.sum+L.length+3:Nat):Int),.int ((L.length+1:Nat):Int),tb L],Ke):=
  kU (e3 (ft (x:=.obj (st.length+1)) rfl w1.n) (ft (x:=.obj (st.length+1)) rfl w1.nt) (ft (x:=.obj (st.length+1)) rfl w1.norm))
 have y4:aa ⟨run (m+9)⟩ (.tup [.b .Add (.b .Add (.bi .sum [.l 116]) (.bi .len [.l 116])) (.int 3),.b .Add (.bi .len [.l 116]) (.int 1),.l 2]) (KR Sv low sh rs KS) Ke=some (.tup [.int ((L.sum+L.length+3:Nat):Int),.int ((L.length+1:Nat):Int),tb L],Ke):=
  kU (e3 (aj (x:=.int ((L.sum+L.length:Nat):Int)) (y:=.int (3:Nat)) (aj (dn (vs:=[.obj 2]) rfl bs) (dn (vs:=[.obj 2]) rfl Rj) (cT _ _)) rfl (cT _ _)) (aj (y:=.int (1:Nat)) (dn (vs:=[.obj 2]) rfl Rj) rfl (cT _ _)) rfl)
 have ceq:bJ Ke .NotEq (.tup [.int ((L.sum+L.length+3:Nat):Int),.int ((L.length+1:Nat):Int),tb L]) (.tup [.int ((L.sum+L.length+3:Nat):Int),.int ((L.length+1:Nat):Int),tb L])=some false:=by
  have v:=Fe Ke (L.sum+L.length+3) (L.length+1) (aI (0::L));unfold tb;rw[bJ,dA v v (by simp[PyData.canLay0,PyData.canLayAll0,canLayAll_ints])];rfl
 refine(ae (Ki:=KR Sv low sh rs KC) (aE y1 rfl)).trans ?_;refine(ae (Ki:=KR Sv low sh rs KS) (aE y2 rfl)).trans ?_;exact(ae (bG (bF y3 y4 ceq))).trans bB
theorem j6 (u:List Nat):PyData.canLay0 (.list (u.map λk:Nat=>PyData.int k))=true:=by
 have:(u.map λk:Nat=>PyData.int k)=(u.map λk:Nat=>(k:Int)).map .int:=by rw[map_map];rfl
 rw[PyData.canLay0,this,canLayAll_ints]
theorem eA (n:Nat)(st:St)(u:List Nat):ba (n+1) st (.lst (ah u))=some (.list (u.map λk:Nat=>PyData.int k)):=by
 have:ah u=(u.map λk:Nat=>(k:Int)).map .int:=by simp only[ah,map_map];rfl
 rw[this,mv,map_map];rfl
theorem fR (n:Nat)(st:St)(i:Nat)(u:List Nat)(h:st[i]?=some (.list (ah u))):ba (n+1) st (.obj i)=some (.list (u.map λk:Nat=>PyData.int k)):=by
 have e:ah u=(u.map λk:Nat=>(k:Int)).map .int:=by simp only[ah,map_map];rfl
 rw[e]at h;rw[uf n st i _ h,map_map];rfl
theorem xt {st:St}(h:st[4]?=some (.list (ah u))):bJ st .NotEq (.lst (ah u)) (.obj 4)=some false:=by
 rw[bJ,dA (eA 5 st u) (fR 5 st 4 u h) (j6 u)];rfl
theorem mH {st:St}(Lv:cs.length=5)(h:st[0]?=some (.list (cs.map .int))):cB st (.obj 0) (.int 4)=some (.int (cs.getD 4 0)):=by
 have:=cG (st:=st) (i:=0) (xs:=cs.map .int) (k:=4) (v:=.int (cs.getD 4 0)) h (by rw[getElem?_map,getElem?_eq_getElem (by exact GS),getD_eq_getElem?_getD,getElem?_eq_getElem (by exact GS)];rfl) (by decide);exact this
theorem zp {B:dJ}(hB:lD B)(hs:ci B=L):dP B=fD L:=by
 subst hs;rfl
theorem Ij (m:Nat)(hp:Ml rs L e u)(ho:K0 rs)(Lv:cs.length=5)(hl:low<30)(KP:sh<5000){st:St}(h:LI st cs rs L e u B)(hs:ci B=L){w:Nat}(hw:Ws st w (L.sum+L.length+3) (L.length+1) 2 (aI (0::L))) :
  ∃ (B':dJ) (Kd:St),cw ⟨run (m+9)⟩ sD (KR Sv low sh rs [(101,.obj 7),(61,v),(117,.obj w),(2,tb L)]) st=some (.next,KR Sv low sh rs [(101,.obj 7),(61,v),(117,.obj w),(2,tb L)],Kd)/\LI Kd cs rs L e u B'/\dP B'=e/\B'.length<=300/\Ws Kd w (L.sum+L.length+3) (L.length+1) 2 (aI (0::L)):=by
 have Nk:B.length<=100:=by
  have:=congrArg List.length hs;rw[ci,length_map]at this;have:=hp.ln;lia
 have hg:lk rs e u 31 (dP B) [0,0,0]=true:=by rw[zp h.ok hs];exact hp.fw
 refine uN (Aw (c:=cs.getD 4 0) (m+5) h.hb (rv:=.obj 1) (.inr ⟨1,rfl,h.c1⟩) (by simp) ho h.ok Nk hl KP hg) λKd B' x k Nl OZ Ny MU=>?_;have h':=h.kp5 k Nl OZ;refine⟨B',Kd,?_,h',Ny,MU,hw.mono k λj hj=>?_⟩
 ·have y:aa ⟨run (m+9)⟩ (.call 10 [.l 101,.l 114,.l 107,.l 103,.sub (.l 87) (.int 4)]) (KR Sv low sh rs [(101,.obj 7),(61,v),(117,.obj w),(2,tb L)]) st=some (.lst (ah u),Kd):=
   be (fu (v:=.obj 7) rfl (fu (v:=.obj 1) rfl (e3 (x:=.int low) (y:=.int sh) rfl rfl (bW rfl rfl (mH Lv h.c0))))) x
  exact(ae (bG (bF y rfl (xt h'.c4)))).trans bB
 ·rw[mem_singleton]at hj;rw[hj];exact⟨_,h.hb.c⟩
end
theorem Cv {X:Cx}{σ:Loc}{st Ke Kf:St}{elt src K9:E}{tg Lz:Tg}{cap:List Nat}{v:AV}{xs zs:List AV}(h:aa X src σ st=some (v,Ke))(h2:aF Ke v=some xs)(h3:aU (λst=>an st v xs) (λx st=>match aQ (aX σ cap) tg x with
     |some Kh=>match aa X K9 Kh st with
      |some (v2,Kf)=>match aF Kf v2 with
       |some ys=>aU (λst=>an st v2 ys) (λy st=>match aQ Kh Lz y with
        |some LA=>match aa X elt LA st with
         |some (z,KJ)=>some ([z],KJ)
         |none=>none
        |none=>none) ys Kf
       |none=>none
      |none=>none
     |none=>none) xs Ke=some (zs,Kf)) (h4:zs.length<=1000000):dt X (.comp2 elt tg src Lz K9 cap) σ st=some (zs,Kf):=jE h (jV h2 (jL h3 (if_pos h4)))
theorem pX {α:Type}{ok:St->Bool}{f:AV->St->Option (List AV×St)}(i:α->AV)(g:α->List AV){st:St}(hk:ok st=true):∀ (xs:List α),(∀ x∈xs,f (i x) st=some (g x,st))->aU ok f (xs.map i) st=some (xs.flatMap g,st):=by
 intro xs
 induction xs with
 |nil=>
  intro _;exact if_pos hk
 |cons x xs ih=>
  intro h;exact(if_pos hk).trans (jL (h x (.head _)) (jL (ih λy hy=>h y (.tail _ hy)) (by rw[flatMap_cons])))
noncomputable def cf (f:Nat->Nat)(a n:Nat):List Nat:=(range' a n).flatMap λz=>replicate (f z) z
noncomputable def nS (f:Nat->Nat):List Nat:=cf f 0 7
theorem lz (f:Nat->Nat){x:Nat}(h:x<7):nS f=cf f 0 x++(replicate (f x) x++cf f (x+1) (6-x)):=by
 have e:range' 0 7=range' 0 x++(x::range' (x+1) (6-x)):=by
  have h1:=List.range'_append_1 (s:=0) (m:=x) (n:=7-x);rw[zero_add,show x+(7-x)=7 by exact GW,show 7-x=(6-x)+1 by exact le_antisymm (Q2 0x6116501127116401111115041103 [_,_,_] (sub_add_cancel (Q1 0x7111114011071141102 [_] h rfl)) (sub_add_cancel (Q1 0x7111114011061141102 [_] h rfl)) rfl) (Q2 0x6116401117116501125111401103 [_,_,_] (sub_add_cancel (Q1 0x7111114011071141102 [_] h rfl)) (sub_add_cancel (Q1 0x7111114011061141102 [_] h rfl)) rfl),range'_succ]at h1;exact h1.symm
 rw[nS,cf,e,List.flatMap_append,flatMap_cons];rfl
theorem il {f:Nat->Nat}{a n y:Nat}(h:y∈cf f a n):a<=y/\y<a+n:=by
 simp only[cf,mem_flatMap,mem_range']at h;refine ak h ?_;clear h;rintro z ⟨i,hi,rfl⟩ hz;rw[eq_of_mem_replicate hz];lia
theorem Cw (x:Int):∀ (A R:List Int),(∀ y∈A,y<=x)->aO x (A++R)=A++aO x R:=by
 intro A
 induction A with
 |nil=>
  intro _ _;exact rfl
 |cons y A ih=>
  intro R h;have hy:=h y (by simp);rw[cons_append,aO,if_neg (by lia),ih R λz hz=>h z (by simp[hz])];rfl
theorem Cy (x:Int):∀ (R:List Int),(∀ y∈R,x<y)->aO x R=x::R:=by
 intro R
 induction R with
 |nil=>
  intro _;exact rfl
 |cons y R ih=>
  intro h;rw[aO,if_pos (h y (by simp))]
noncomputable def fS (l:List Nat):List Int:=l.map λk:Nat=>(k:Int)
theorem iL (a b:List Nat):fS (a++b)=fS a++fS b:=map_append
theorem fT {f g:Nat->Nat}{a n:Nat}(h:∀ z,a<=z->z<a+n->f z=g z):cf f a n=cf g a n:=by
 have:∀ n a,(∀ z,a<=z->z<a+n->f z=g z)->cf f a n=cf g a n:=by
  intro n
  induction n with
  |zero=>intro a _;rfl
  |succ n ih=>
   intro a h;have:=ih (a+1) λz h1 h2=>h z (by exact uI) (by exact Q1 0x6111500111401101116050111401102 [_,_,_] h2 rfl);unfold cf at this ⊢;rw[range'_succ,flatMap_cons,flatMap_cons,this,h a (by exact G4) (by exact AP)]
 exact this n a h
theorem mI:∀ (M:List Nat),(∀ z∈M,z<7)->(fS M).foldr aO []=fS (nS λz=>M.count z):=by
 intro M
 induction M with
 |nil=>
  intro _;exact rfl
 |cons x M ih=>
  intro h;have hx:=h x (by simp);have ih:=ih λz hz=>h z (by simp[hz]);have e1:(fS (x::M)).foldr aO []=aO (x:Int) ((fS M).foldr aO []):=rfl;rw[e1,ih,lz _ hx,lz (λz=>(x::M).count z) hx];have c1:cf (λz=>(x::M).count z) 0 x=cf (λz=>M.count z) 0 x:=fT λz _ h2=>count_cons_of_ne (by exact ne_of_gt (Q1 0x5010111401105111401102 [_,_] h2 rfl));have c2:cf (λz=>(x::M).count z) (x+1) (6-x)=cf (λz=>M.count z) (x+1) (6-x):=fT λz h1 _=>count_cons_of_ne (by exact Dm);rw[c1,c2,count_cons_self,iL,iL,← append_assoc,Cw,Cy,iL,iL,List.replicate_succ']
  ·simp[fS]
  ·intro y hy;simp only[fS,mem_map]at hy;refine ak hy ?_;clear hy;rintro z hz rfl;have:=il hz;exact G9
  ·intro y hy;simp only[fS,mem_append,mem_map]at hy;rcases hy with ⟨z,hz,rfl⟩ |⟨z,hz,rfl⟩
   ·have:=il hz;lia
   ·rw[eq_of_mem_replicate hz];lia
theorem nT (f:Nat->Nat)(k:Nat):∀ (n a:Nat),(cf f a n).count k=if a<=k/\k<a+n then f k else 0:=by
 intro n
 induction n with
 |zero=>
  intro a;have:¬ (a<=k/\k<a+0):=λe=>not_lt.mpr e.1 e.2;rw[if_neg this];rfl
 |succ n ih=>
  intro a;have ih:=ih (a+1)
  have e:cf f a (n+1)=replicate (f a) a++cf f (a+1) n:=by
   unfold cf;rw[range'_succ,flatMap_cons]
  rw[e,count_append,List.count_replicate,ih];by_cases h:a=k
  ·subst h;have h1:¬ (a+1<=a/\a<a+1+n):=λe=>Nat.not_succ_le_self a e.1;have h2:a<=a/\a<a+(n+1):=⟨le_refl a,Nat.lt_add_of_pos_right (succ_pos n)⟩;rw[if_neg h1,if_pos h2];simp
  ·have h':(a==k)=false:=by simpa using h
   rw[h'];simp only[false_eq_true,if_false,zero_add];by_cases q:a<=k/\k<a+(n+1)
   ·rw[if_pos q,if_pos (GJ h q)]
   ·rw[if_neg q,if_neg (GK q)]
section
variable {cs:List Int}{rs:cj}{L e u:List Nat}{B:dJ}{low sh:Nat}{Sv v:AV}
noncomputable def bx (e:List Nat):List Nat:=nS λz=>e.getD z 0
theorem Ff {X:Cx}{σ:Loc}{st:St}(h:af σ 96=some (.obj 3))(hc:st[3]?=some (.list (ah e)))(he:e.length=7)(hs:e.sum<=40):aa X xq σ st=some (.lst (ah (bx e)),st):=by
 have hle:∀ z,z<7->e.getD z 0<=40:=λz hz=>by
  have Nf:z<e.length:=by exact CZ
  rw[getD_eq_getElem?_getD,getElem?_eq_getElem Nf]
  have:∀ (l:List Nat) (x:Nat),x∈l->x<=l.sum:=by
   intro l
   induction l with
   |nil=>intro x hx;simp at hx
   |cons a l ih=>
    intro x hx;simp only[mem_cons]at hx;rw[sum_cons];rcases hx with rfl |hx
    ·exact IT
    ·have:=ih x hx;exact Q1 0x6411065041102 [_,_,_] this rfl
  exact le_trans (this e _ (getElem_mem Nf)) hs
 have key:aU (λst=>an st (.rng 0 (7:Nat)) ((List.range 7).map λk:Nat=>AV.int k)) (λx st=>match aQ (aX σ [96]) (.nm 92) x with
     |some Kh=>match aa X (.bi .range1 [.sub (.l 96) (.l 92)]) Kh st with
      |some (v2,Kf)=>match aF Kf v2 with
       |some ys=>aU (λst=>an st v2 ys) (λy st=>match aQ Kh (.nm 61) y with
        |some LA=>match aa X (.l 92) LA st with
         |some (z,KJ)=>some ([z],KJ)
         |none=>none
        |none=>none) ys Kf
       |none=>none
      |none=>none
     |none=>none) ((List.range 7).map λk:Nat=>AV.int k) st=some ((List.range 7).flatMap λz=>replicate (e.getD z 0) (AV.int (z:Nat)),st):=by
  refine pX (λk:Nat=>AV.int k) _ rfl (List.range 7) λz hz=>?_;have hz7:=mem_range.mp hz;have hz40:=hle z hz7;have g96:aa X (.l 96) (ai (aX σ [96]) 92 (.int z)) st=some (.obj 3,st):=gn h rfl (by decide);have s1:cB st (.obj 3) (.int z)=some (.int (e.getD z 0:Nat)):=cG hc (dQ (by exact CZ)) (by exact bN)
  have r1:aa X (.bi .range1 [.sub (.l 96) (.l 92)]) (ai (aX σ [96]) 92 (.int z)) st=some (.rng 0 ((e.getD z 0:Nat):Int),st):=
   dn (P.e1 (bW g96 lO s1)) (aZ _ (by exact dU))
  have i1:aF st (.rng 0 ((e.getD z 0:Nat):Int))=some ((List.range (e.getD z 0)).map λk:Nat=>AV.int k):=aL _ (by exact dU)
  show(match aa X (.bi .range1 [.sub (.l 96) (.l 92)]) (ai (aX σ [96]) 92 (.int z)) st with
      |some (v2,Kf)=>match aF Kf v2 with
       |some ys=>aU (λst=>an st v2 ys) (λy st=>match aQ (ai (aX σ [96]) 92 (.int z)) (.nm 61) y with
        |some LA=>match aa X (.l 92) LA st with
         |some (z,KJ)=>some ([z],KJ)
         |none=>none
        |none=>none) ys Kf
       |none=>none
      |none=>none)=_
  rw[r1];simp only[i1]
  have:replicate (e.getD z 0) (AV.int (z:Nat))=(List.range (e.getD z 0)).map λ_=>AV.int (z:Nat):=by
   rw[List.map_const',length_range]
  rw[this];refine aD (λk:Nat=>AV.int k) _ rfl (List.range (e.getD z 0)) λy _=>?_;have:aa X (.l 92) (ai (ai (aX σ [96]) 92 (.int z)) 61 (.int y)) st=some (.int z,st):=ay (by rw[ag _ (by decide),ab]);simp only[aQ,this]
 have Ko:((List.range 7).flatMap λz=>replicate (e.getD z 0) (AV.int (z:Nat)))=ah (bx e):=by
  simp only[ah,bx,nS,cf,List.map_flatMap,List.map_replicate,range_eq_range']
 have MB:(ah (bx e)).length<=1000000:=by
  rw[← Ko];simp only[show List.range 7=[0,1,2,3,4,5,6] from rfl,flatMap_cons,List.flatMap_nil,length_append,length_replicate,length_nil];exact C8 (hle 0 (by decide)) (hle 1 (by decide)) (hle 2 (by decide)) (hle 3 (by decide)) (hle 4 (by decide)) (hle 5 (by decide)) (hle 6 (by decide))
 rw[Ko]at key;refine aH ?_;have hsrc:aa X (.bi .range1 [.int 7]) σ st=some (.rng 0 (7:Nat),st):=dn (P.e1 rfl) (aZ 7 (by decide));have gW:aF st (.rng 0 (7:Nat))=some ((List.range 7).map λk:Nat=>AV.int k):=aL 7 (by decide);exact Cv hsrc gW key MB
end
theorem xu (z:Nat):bump [] z=aI [z]:=by
 apply ext_getElem?;intro k;have m1:mx [z]=z:=by simp[mx]
 have e0:eQ [] z=replicate (z+1) 0:=by simp[eQ]
 have g0:(replicate (z+1) (0:Int)).getD z 0=0:=by
  rw[getD_eq_getElem?_getD,getElem?_replicate,if_pos (by exact AP)];rfl
 rw[cZ,m1,bump,e0,g0];by_cases q:z=k
 ·subst q;rw[getElem?_set_self (by simp),if_pos (le_refl _)];simp
 ·rw[getElem?_set_ne q,getElem?_replicate];by_cases h:k<=z
  ·rw[if_pos (by exact Gd),if_pos h];have:[z].count k=0:=count_eq_zero.mpr (by simp;lia);rw[this];rfl
  ·rw[if_neg (by exact not_lt.mpr (Q1 0x5111401105111401102 [_,_] (Nat.not_le.mp h) rfl)),if_neg h]
theorem rL:∀ (M:List Nat),M≠[]->M.foldl bump []=aI M:=by
 intro M
 induction M with
 |nil=>
  intro h;exact absurd rfl h
 |cons z M ih=>
  intro _;rw[foldl_cons,xu,mD];rfl
theorem zq {X:Cx}{σ:Loc}{st Ke:St}{a:E}{M:List Nat}(h:aa X a σ st=some (.lst (ah M),Ke))(hl:M.length<64):dt X (.sorted a) σ st=some (((fS M).foldr aO []).map .int,Ke):=by
 have hi:allInts (ah M)=some (fS M):=cL M;have MB:(fS M).length<64:=by rw[fS,length_map];exact hl
 exact jE h (jI hi (if_pos MB))
theorem Cz {X:Cx}{σ:Loc}{st Ke:St}{a:E}{b:Bool}(h:aa X a σ st=some (.bool b,Ke))(neg:Bool):aa X (.isTru a neg) σ st=some (.bool (b != neg),Ke):=jE h rfl
section
variable {cs:List Int}{rs:cj}{L e u:List Nat}{B:dJ}{low sh:Nat}{Sv v:AV}
theorem xv (hB:lD B)(hc:dP B=e):B.length<=e.sum:=by
 rw[zo B hB,← hc];simp only[dP,show List.range 7=[0,1,2,3,4,5,6] from rfl,map_cons,map_nil,sum_cons,sum_nil];exact Q0 0x1908070605040a0987654000001101 [_,_,_,_,_,_,_] rfl
theorem pY (hc:dP B=e):bx e=nS λz=>(ci B).count z:=by
 subst hc;exact fT λz _ h=>gw B (by exact bz)
noncomputable def L9 (v:AV)(w:Nat)(L e:List Nat)(τ:Loc):Loc:=(101,.obj 7)::(61,v)::(117,.obj w)::(2,tb L)::(118,.lst (ah (bx e)))::τ
theorem Ik (m:Nat)(hp:Ml rs L e u){st:St}(h:LI st cs rs L e u B)(hc:dP B=e){w:Nat}:cw ⟨run (m+9)⟩ sE (KR Sv low sh rs [(101,.obj 7),(61,v),(117,.obj w),(2,tb L)]) st=some (.next,KR Sv low sh rs (L9 v w L e []),st):=by
 have Ko:=xv h.ok hc;have Ql:=hp.sm;have y1:aa ⟨run (m+9)⟩ xq (KR Sv low sh rs [(101,.obj 7),(61,v),(117,.obj w),(2,tb L)]) st=some (.lst (ah (bx e)),st):=Ff rfl h.c3 hp.el hp.sm;have Rk:=wv (n:=m+8) h.hb (nE h.ok);have hv:(bX B).map (λp=>AV.str p.2)=B.map λp=>AV.str (bH p.2):=by simp[bX]
 rw[hv]at Rk
 have y2:aa ⟨run (m+9)⟩ (.new false (.comp (.b .Sub (.bi .len [.l 102]) (.int 1)) (.nm 102) (.meth 33 (.l 101) []) [] [])) (KR Sv low sh rs (L9 v w L e [])) st=some (.lst (ah (ci B)),st):=by
  have e1:ah (ci B)=B.map λp=>AV.int (p.2:Nat):=by simp only[ah,ci,map_map];rfl
  rw[e1];refine aH (bS (eY (x:=.obj 7) rfl (h.hb.recv 33 rfl rfl) dk Rk) rfl (by rw[length_map];exact yo) (aD (λp:Bool×Nat=>AV.str (bH p.2)) _ rfl B λp hpB=>?_));have hz:=h.ok.2 p hpB
  have P4:gy st .len [.str (bH p.2)]=some (.int ((p.2+1:Nat):Int),st):=by
   have:p.2+1<1000000:=by exact Dr
   exact(if_pos (by rw[chunk_len];exact this)).trans (by rw[chunk_len])
  refine lC rfl (aj (dn (P.e1 lO) P4) rfl ?_);refine congrArg (λx=>some (AV.int x)) ?_;lia
 have y3:aa ⟨run (m+9)⟩ (.new false (.sorted (.new false (.comp (.b .Sub (.bi .len [.l 102]) (.int 1)) (.nm 102) (.meth 33 (.l 101) []) [] [])))) (KR Sv low sh rs (L9 v w L e [])) st=some (.lst (ah (bx e)),st):=by
  have Qm:∀ z∈ci B,z<7:=λz hz=>by
   simp only[ci,mem_map]at hz;refine ak hz ?_;clear hz;rintro p N2 rfl;have:=h.ok.2 p N2;exact mO
  have e1:ah (bx e)=((fS (ci B)).foldr aO []).map .int:=by
   rw[mI _ Qm,← pY hc];simp only[ah,fS,map_map];rfl
  rw[e1];exact aH (zq y2 (by rw[ci,length_map];exact Dq))
 have c1:bJ st .NotEq (.lst (ah (bx e))) (.lst (ah (bx e)))=some false:=by
  rw[bJ,dA (eA 5 st _) (eA 5 st _) (j6 _)];rfl
 exact(ae (Ki:=KR Sv low sh rs (L9 v w L e [])) (aE y1 rfl)).trans ((ae (bG (bF y3 rfl c1))).trans bB)
noncomputable def typ (e:List Nat):List Nat:=cH (bx e)++[9,32,32]
theorem CA (e:List Nat):typ e=cH (bx e++[0])++(replicate 2 32++[]):=by
 rw[typ,pG];simp[cH,bH,replicate]
theorem zr (e:List Nat):typ e++[32]=cH (bx e++[0])++(replicate 3 32++[]):=by
 rw[typ,pG];simp[cH,bH,replicate]
theorem zt {f:Nat->Nat}{z:Nat}(h:z∈nS f):z<=6:=by have:=il h;exact G8
theorem Il (m:Nat)(hp:Ml rs L e u){st:St}(h:LI st cs rs L e u B)(hc:dP B=e){w:Nat}(hw:Ws st w (L.sum+L.length+3) (L.length+1) 2 (aI (0::L))) :
  ∃ (x y:AV) (Kd:St),cw ⟨run (m+9)⟩ sF (KR Sv low sh rs (L9 v w L e [])) st=some (.next,KR Sv low sh rs (L9 v w L e [(119,.str (typ e)),(120,x),(121,y)]),Kd)/\LI Kd cs rs L e u B/\Ws Kd w (L.sum+L.length+3) (L.length+1) 2 (aI (0::L)):=by
 have Ko:=xv h.ok hc;have Ql:=hp.sm;have hR:bx e=nS λz=>(ci B).count z:=pY hc
 have hRl:(bx e).length<=40:=by
  have Qm:∀ z∈ci B,z<7:=λz hz=>by
   simp only[ci,mem_map]at hz;refine ak hz ?_;clear hz;rintro p N2 rfl;have:=h.ok.2 p N2;exact mO
  have e1:fS (bx e)=(fS (ci B)).foldr aO []:=by rw[mI _ Qm,hR]
  have e2:∀ l:List Int,(l.foldr aO []).length=l.length:=by
   intro l
   induction l with
   |nil=>rfl
   |cons a l ih=>
    have:∀ r:List Int,(aO a r).length=r.length+1:=by
     intro r
     induction r with
     |nil=>rfl
     |cons b r ih=>rw[aO];split<;>simp[ih]
    rw[foldr_cons,this,ih];rfl
  have:=congrArg List.length e1;rw[e2]at this;simp only[fS,ci,length_map]at this;exact Q3 0x541112821611065110282141104 [_,_,_] Ko Ql this rfl
 have Qn:∀ z∈bx e,z<=6:=λz hz=>by rw[hR]at hz;exact zt hz
 have hRs:=rq Qn;have Od:(cH (bx e)).length<=300:=by rw[iH];exact Q2 0x561241102821571012c315401103 [_,_] hRl hRs rfl
 have y1:aa ⟨run (m+9)⟩ (.b .Add (.sm .join (.str []) [.new false (.comp (.b .Add (.b .Mult (.str [32]) (.l 92)) (.str [9])) (.nm 92) (.l 118) [] [])]) (.str [9,32,32])) (KR Sv low sh rs (L9 v w L e [])) st=some (.str (typ e),st):=by
  have c1:aa ⟨run (m+9)⟩ (.new false (.comp (.b .Add (.b .Mult (.str [32]) (.l 92)) (.str [9])) (.nm 92) (.l 118) [] [])) (KR Sv low sh rs (L9 v w L e [])) st=some (.lst ((bx e).map λz=>.str (bH z)),st):=by
   refine aH (bS (v:=.lst (ah (bx e))) rfl rfl (by rw[length_map];exact bN) (aD (λk:Nat=>AV.int k) _ rfl (bx e) λz hz=>?_));have hz6:=Qn z hz
   have t1:aK .Mult (.str [32]) (.int z)=some (.str (replicate z 32)):=by
    have:-1000<=(z:Int)/\(z:Int)<=1000:=by exact IN
    exact if_pos this
   have t2:aK .Add (.str (replicate z 32)) (.str [9])=some (.str (bH z)):=by
    have:(replicate z 32).length+[9].length<=1000000:=by simp;exact bN
    exact if_pos this
   exact lC rfl (aj (aj rfl lO t1) rfl t2)
  have j1:jC st .join (.str []) [.lst ((bx e).map λz=>.str (bH z))]=some (.str (cH (bx e)),st):=by
   have:(((bx e).map bH).map List.length).sum+((bx e).map bH).length*0<=1000000:=by
    rw[← List.length_flatten];show(cH (bx e)).length+_<=_;exact bN
   show(match allStrs ((bx e).map λz=>.str (bH z)) with
    |some l=>if (l.map List.length).sum+l.length*([]:List Nat).length<=1000000 then some (AV.str (eU [] l),st) else none
    |none=>none)=_
   rw[d9 bH];exact(if_pos this).trans (by rw[gL];rfl)
  have a1:aK .Add (.str (cH (bx e))) (.str [9,32,32])=some (.str (typ e)):=by
   have:(cH (bx e)).length+[9,32,32].length<=1000000:=by simp;exact bN
   exact if_pos this
  exact aj (gV rfl rfl (P.e1 c1) j1) rfl a1
 have QC:(typ e).length<=400:=by rw[typ,length_append];simp;exact bN
 refine cU (y8 (m+7) h.hb h.ok) λKe x9 k1 w1=>?_;have h1:=h.kp k1;have hw1:=hw.mono k1 (by simp)
 have O0:∀ z∈bx e++[0],z<=100:=λz hz=>by
  simp only[mem_append,mem_singleton]at hz;rcases hz with hz |rfl
  ·have:=Qn z hz;exact bN
  ·exact CW
 refine cU (wC (m+8) Ke (bx e++[0]) 2 [] O0 (.inl rfl)) λKf Rn k2 w2=>?_;refine cU (wC (m+8) Kf (bx e++[0]) 3 [] O0 (.inl rfl)) λKJ Ro k3 w3=>?_;rw[rL _ (by simp)]at w2 w3;rw[← CA]at Rn;rw[← zr]at Ro
 have hn:aI (bx e++[0])=aI (0::ci B):=by
  apply pJ;intro k;rw[count_append,hR,nS,nT];by_cases hk:k<7
  ·rw[if_pos ⟨by exact CW,by exact bz⟩];by_cases h0:k=0
   ·subst h0;simp
   ·rw[count_cons_of_ne (l:=ci B) (show 0≠k by lia)];have:[0].count k=0:=count_eq_zero.mpr (by simp;exact bz);rw[this];rfl
  ·rw[if_neg (by lia),count_cons_of_ne (l:=ci B) (show 0≠k by exact ne_of_lt (Q1 0x471111041110101102 [_] (not_lt.mp hk) rfl))];have z0:[0].count k=0:=count_eq_zero.mpr (by simp;exact ne_of_gt (Q1 0x471111041110101102 [_] (not_lt.mp hk) rfl))
   have:(ci B).count k=0:=count_eq_zero.mpr λhm=>by
    simp only[ci,mem_map]at hm;refine ak hm ?_;clear hm;rintro p N2 rfl;have:=h.ok.2 p N2;exact not_succ_le_zero 0 (Q2 0x61141104711110011111103 [_] (not_lt.mp hk) this.2 rfl)
   rw[z0,this]
 rw[hn]at w2 w3;let i1:=st.length+1;let i2:=Ke.length+1;let i3:=Kf.length+1;have LI3:=(h1.kp k2).kp k3;have ww:Ws KJ w _ _ _ _:=(hw1.mono k2 (by simp)).mono k3 (by simp);have Py:Ws KJ i1 _ _ _ _:=(w1.mono k2 (by simp)).mono k3 (by simp);have ww2:Ws KJ i2 _ _ _ _:=w2.mono k3 (by simp);have ww3:Ws KJ i3 _ _ _ _:=w3
 have ne1:¬ (aI (0::ci B)=aI (0::L)/\(2:Nat)=2):=λhh=>hp.df (by
  rw[← hc];unfold dP fD;apply map_congr_left;intro k _;have:=ur hh.1 k;rw[count_cons,count_cons]at this;show(ci B).count k=_
  exact le_antisymm (Q1 0x650640111541102 [_,_,_] this rfl) (Q1 0x640650112541102 [_,_,_] this rfl))
 have q1:=sN (m+8) Py ww;have q2:=sN (m+8) Py ww2;have q3:=sN (m+8) Py ww3;rw[decide_eq_false ne1]at q1;rw[decide_eq_true ⟨rfl,rfl⟩]at q2;rw[decide_eq_false (λhh=>absurd hh.2 (by decide))]at q3;let KC:=L9 v w L e [(119,.str (typ e))];let KS:=L9 v w L e [(119,.str (typ e)),(120,.obj i1)];let tl:AV:=.lst [.bool false,.bool true,.bool false];let Ld:=L9 v w L e [(119,.str (typ e)),(120,.obj i1),(121,tl)];have y2:aa ⟨run (m+9)⟩ (.call 9 [.l 101]) (KR Sv low sh rs KC) st=some (.obj i1,Ke):=be (vs:=[.obj 7]) rfl x9
 have a2:aK .Add (.str (typ e)) (.str [32])=some (.str (typ e++[32])):=by
  have:(typ e).length+[32].length<=1000000:=by simp;exact bN
  exact if_pos this
 have y3:aa ⟨run (m+9)⟩ (.tup [.l 117,.call 21 [.l 119],.call 21 [.b .Add (.l 119) (.str [32])]]) (KR Sv low sh rs KS) Ke=some (.tup [.obj w,.obj i2,.obj i3],KJ):=
  kU (e3 (x:=.obj w) rfl (be (vs:=[.str (typ e)]) rfl Rn) (be (P.e1 (aj (x:=.str (typ e)) rfl rfl a2)) Ro))
 have y4:aa ⟨run (m+9)⟩ (.new false (.comp (.meth 36 (.l 120) [.l 106]) (.nm 106) (.tup [.l 117,.call 21 [.l 119],.call 21 [.b .Add (.l 119) (.str [32])]]) [] [120])) (KR Sv low sh rs KS) Ke=some (tl,KJ):=by
  refine aH (bS y3 rfl (by simp) ?_)
  have it:∀ (j:Nat) (b:Bool),run (m+9) 36 [.obj i1,.obj j] KJ=some (.bool b,KJ)->jt ⟨run (m+9)⟩ (.meth 36 (.l 120) [.l 106]) (.nm 106) [] (aX (KR Sv low sh rs KS) [120]) (.obj j) KJ=some ([.bool b],KJ):=λj b hq=>
   lC (Ki:=[(120,.obj i1),(106,.obj j)]) rfl (eY (x:=.obj i1) rfl Py.recv (P.e1 rfl) hq)
  exact fO (ys:=[.bool false]) (zs:=[.bool true,.bool false]) rfl (it w false q1) (fO (ys:=[.bool true]) (zs:=[.bool false]) rfl (it i2 true q2) (fO (ys:=[.bool false]) (zs:=[]) rfl (it i3 false q3) (wE rfl)))
 have y5:aa ⟨run (m+9)⟩ (.new false (.cat (.new false (.comp (.isTy (.l 195) .bool false) (.nm 195) (.l 121) [] [])) (.l 121))) (KR Sv low sh rs Ld) KJ=some (.lst ([.bool true,.bool true,.bool true]++[.bool false,.bool true,.bool false]),KJ):=rfl;have c5:bJ KJ .NotEq (.lst ([.bool true,.bool true,.bool true]++[.bool false,.bool true,.bool false])) (.lst [.bool true,.bool true,.bool true,.bool false,.bool true,.bool false])=some false:=rfl;refine⟨.obj i1,tl,KJ,?_,LI3,ww⟩;refine(ae (Ki:=KR Sv low sh rs KC) (aE y1 rfl)).trans ?_;refine(ae (Ki:=KR Sv low sh rs KS) (aE y2 rfl)).trans ?_;refine(ae (Ki:=KR Sv low sh rs Ld) (aE y4 rfl)).trans ?_;exact(ae (bG (bF y5 rfl c5))).trans bB
theorem Im (m:Nat)(hp:Ml rs L e u)(ho:K0 rs)(Lv:cs.length=5)(hl:low<30)(KP:sh<5000){st:St}(h:LI st cs rs L e u B)(hc:dP B=e){w:Nat}(hw:Ws st w (L.sum+L.length+3) (L.length+1) 2 (aI (0::L))){τ:Loc} :
  ∃ (B':dJ) (Kd:St),cw ⟨run (m+9)⟩ sG (KR Sv low sh rs (L9 v w L e τ)) st=some (.next,KR Sv low sh rs (L9 v w L e τ),Kd)/\LI Kd cs rs L e u B':=by
 have Ko:=xv h.ok hc;have Ql:=hp.sm;have hg:lk (eN rs) (fD L) u 31 (dP B) [0,0,0]=true:=by rw[hc];exact hp.bw
 refine uN (Aw (c:=(cs.getD 4 0).fdiv 7) (m+5) h.hb (rv:=.lst ((eN rs).map aV)) (.inl rfl) (by simp) (uE ho) h.ok (by exact yo) hl KP hg) λKe B' x k Nl OZ Ny MU=>?_;have h1:=h.kp5 k Nl OZ
 have w1:=hw.mono k λj hj=>by
  rw[mem_singleton]at hj;rw[hj];exact⟨_,h.hb.c⟩
 refine cU (y8 (m+7) Nl OZ) λKf x9 k2 w2=>?_;have h2:=h1.kp k2;have w12:=w1.mono k2 (by simp)
 have d7:aK .FloorDiv (.int (cs.getD 4 0)) (.int 7)=some (.int ((cs.getD 4 0).fdiv 7)):=by
  exact fM ⟨by decide,kV (by decide)⟩
 have y:aa ⟨run (m+9)⟩ (.call 10 [.l 101,.l 115,.l 107,.l 103,.b .FloorDiv (.sub (.l 87) (.int 4)) (.int 7)]) (KR Sv low sh rs (L9 v w L e τ)) st=some (.lst (ah u),Ke):=
  be (fu (v:=.obj 7) rfl (fu (v:=.lst ((eN rs).map aV)) rfl (e3 (x:=.int low) (y:=.int sh) rfl rfl (aj (bW rfl rfl (mH Lv h.c0)) rfl d7)))) x
 have hn:aI (0::ci B')=aI (0::L):=by
  apply pJ;intro k;rw[count_cons,count_cons];congr 1;by_cases hk:k<7
  ·have e1:=gw B' hk
   have e2:(fD L).getD k 0=L.count k:=by
    rw[fD,getD_eq_getElem?_getD,getElem?_map,getElem?_range hk];rfl
   rw[Ny,e2]at e1;exact e1.symm
  ·have z1:(ci B').count k=0:=count_eq_zero.mpr λhm=>by
    simp only[ci,mem_map]at hm;refine ak hm ?_;clear hm;rintro p N2 rfl;have:=OZ.2 p N2;exact not_succ_le_zero 0 (Q2 0x61141104711110011111103 [_] (not_lt.mp hk) this.2 rfl)
   have z2:L.count k=0:=count_eq_zero.mpr λhm=>by have:=hp.sz k hm;exact not_succ_le_zero 0 (Q2 0x61141104711110011111103 [_] (not_lt.mp hk) this.2 rfl)
   rw[z1,z2]
 have q:=sN (m+8) w2 w12;rw[decide_eq_true ⟨hn,rfl⟩]at q
 have y2:aa ⟨run (m+9)⟩ (.meth 36 (.call 9 [.l 101]) [.l 117]) (KR Sv low sh rs (L9 v w L e τ)) Ke=some (.bool true,Kf):=
  eY (be (vs:=[.obj 7]) rfl x9) w2.recv (vs:=[.obj w]) rfl q
 exact⟨B',Kf,(ae (bG (uh (bF y rfl (xt h1.c4)) (fh (Cz y2 true) rfl)))).trans bB,h2⟩
end
noncomputable def dV (W:Nat)(a:Nat)(ks:List Nat):Nat:=ks.foldl (λa k=>a*(2^(W*k)-1)) a
noncomputable def iN (rs:cj):List Nat:=rs.map λx=>x.p*x.q
noncomputable def eO (rs:cj)(W:Nat):Nat:=dV W (2^(W*(54-(iN rs).sum))) (iN rs)
noncomputable def dD (W:Nat):Nat:=dV W 1 (range' 1 9)
theorem pZ (W:Nat):∀ (ks:List Nat) (a N:Nat),a<2^N->dV W a ks<2^(N+W*ks.sum):=by
 intro ks
 induction ks with
 |nil=>
  intro a N h;simpa [dV] using h
 |cons k ks ih=>
  intro a N h;have P:0<2^(W*k):=pow_pos (by decide)
  have h2:a*(2^(W*k)-1)<2^(N+W*k):=by
   rw[pow_add];have:a*(2^(W*k)-1)<=a*2^(W*k):=mul_le_mul_left _ (by exact Gc);exact lt_of_le_of_lt this (Nat.mul_lt_mul_of_pos_right h P)
  have:=ih (a*(2^(W*k)-1)) (N+W*k) h2;rw[sum_cons,mul_add,← add_assoc];exact this
theorem xw (W k:Nat):((2^(W*k)-1:Nat):Int)=((2^W:Nat):Int)^k-1:=by
 have P:0<2^(W*k):=pow_pos (by decide)
 have e:((2^W:Nat):Int)^k=((2^(W*k):Nat):Int):=by
  rw[Nat.pow_mul,Int.natCast_pow (2^W) k]
 rw[e];exact ofNat_sub P
theorem tc (W:Nat):∀ (ks:List Nat) (p:List Int) (a:Nat),ev ((2^W:Nat):Int) p=(a:Int)->ev ((2^W:Nat):Int) (ks.foldl (λa k=>rI a (Fd k)) p)=((dV W a ks:Nat):Int):=by
 intro ks
 induction ks with
 |nil=>
  intro p a h;exact h
 |cons k ks ih=>
  intro p a h;rw[foldl_cons];have:dV W a (k::ks)=dV W (a*(2^(W*k)-1)) ks:=rfl;rw[this];refine ih _ _ ?_;rw[rJ,h,Ct,← xw,natCast_mul]
theorem zu (rs:cj)(W:Nat):ev ((2^W:Nat):Int) (pU rs)=((eO rs W:Nat):Int):=by
 refine tc W _ _ _ ?_;rw[sZ,Nat.pow_mul,Int.natCast_pow (2^W)];rfl
theorem xx (W:Nat):ev ((2^W:Nat):Int) ik=((dD W:Nat):Int):=by
 refine tc W _ _ _ ?_;simp[ev]
theorem CB (n:Nat):∀ (ds:List Nat),ev ((2^n:Nat):Int) (ds.map λk:Nat=>(k:Int))=((num n ds:Nat):Int):=by
 intro ds
 induction ds with
 |nil=>
  exact rfl
 |cons d ds ih=>
  have e2:num n (d::ds)=num n ds*2^n+d:=rfl;rw[map_cons,ev,ih,e2,Int.natCast_add,natCast_mul,Int.mul_comm];lia
theorem xy (n:Nat):∀ (ds:List Nat),(∀ d∈ds,d<2^n)->cp (num n ds) n ds.length=ds:=by
 intro ds
 induction ds with
 |nil=>
  intro _;exact rfl
 |cons d ds ih=>
  intro h;have hd:=h d (by simp);have ih:=ih λx hx=>h x (by simp[hx]);have P:0<2^n:=pow_pos (by decide)
  have e2:num n (d::ds)=d+2^n*num n ds:=by
   have:num n (d::ds)=num n ds*2^n+d:=rfl;rw[this,mul_comm];exact G1
  have q1:(d+2^n*num n ds)/2^n=num n ds:=by
   rw[Nat.add_mul_div_left _ _ P,div_eq_of_lt hd,zero_add]
  rw[e2,length_cons,cp,List.range_succ_eq_map,map_cons,map_map];congr 1
  ·unfold dg;rw[mul_zero,Nat.pow_zero,Nat.div_one,Nat.add_mul_mod_self_left,mod_eq_of_lt hd]
  ·refine Eq.trans ?_ ih;rw[cp];apply map_congr_left;intro j _;have:=nR (d+2^n*num n ds) n 1 j;rw[mul_one,add_comm 1 j,q1]at this;exact this.symm
structure Quo (rs:cj)(W:Nat):Prop where
 up:0<dD W
 bu:bl (dD W)<=30000
 bo:bl (eO rs W)<=40000
 bq:bl (eO rs W/dD W)=9*W+1
 m:(bl (eO rs W)+bl (dD W)-1)/bl (dD W)<=64
 dg:cp (eO rs W/dD W) W 10=(cq rs).reverse
 bh:bl (eO rs W/dD W/2)=9*W
 mq:bl (eO rs W/dD W)+bl (dD W)<=40000
theorem AB {a k:Nat}(h1:2^k<=a)(h2:a<2^(k+1)):bl a=k+1:=by
 refine le_antisymm (db h2) ?_;have:=(Nat.pow_lt_pow_iff_right (by decide:1<2)).mp (lt_of_le_of_lt h1 (fW a));exact bz
theorem mJ (W:Nat)(hW:1<=W):∀ (ks:List Nat) (a:Nat),(∀ k∈ks,1<=k)->a<=dV W a ks:=by
 intro ks
 induction ks with
 |nil=>
  intro a _;exact le_refl _
 |cons k ks ih=>
  intro a h;have hk:=h k (by simp)
  have h1:1<=2^(W*k)-1:=by
   have:2^1<=2^(W*k):=pow_le_pow_right (by decide) (mul_le_mul hW hk);exact Q2 0x511140112521111041111103 [_,_] this (sub_add_cancel (Q1 0x421111041111102 [_] this rfl)) rfl
  have h2:a<=a*(2^(W*k)-1):=Nat.le_mul_of_pos_right a h1;exact le_trans h2 (ih _ λx hx=>h x (by simp[hx]))
theorem J8 {rs:cj}(hr:rs∈fC){W:Nat}(h8:8<=W)(hW:W<=507):Quo rs W:=by
 have hp:=j5 rs hr;simp only[lx,and_eq_true]at hp;refine av hp ?_;clear hp;rintro⟨⟨⟨⟨_,_⟩,a3⟩,a4⟩,a5⟩ a6;have Ko:(cq rs).length=10:=Nat.eq_of_beq_eq_true a3
 have hd:∀ d∈cq rs,d<2^W:=λd hd=>by
  have h1:=le_of_ble_eq_true ((all_eq_true.mp a4) d hd);have h2:2^8<=2^W:=pow_le_pow_right (by decide) h8;have:(2:Nat)^8=256:=rfl;exact G7
 have hX:(256:Int)<=((2^W:Nat):Int):=by
  have h2:2^8<=2^W:=pow_le_pow_right (by decide) h8;have:(2:Nat)^8=256:=rfl;exact uH
 have hS:(iN rs).sum<=54:=le_of_ble_eq_true a6;have pd:=xp hr hX;have ew:ev ((2^W:Nat):Int) (pV rs)=((num W (cq rs).reverse:Nat):Int):=CB W _;rw[ew,xx,zu]at pd
 have p20:eO rs W<num W (cq rs).reverse*dD W+dD W:=by
  have:=pd.2;rw[← natCast_mul]at this;exact ofNat_lt.mp this
 let Q:=num W (cq rs).reverse;let U:=dD W;let O:=eO rs W;have up:0<U:=lt_of_lt_of_le (by decide:0<1) (mJ W (by exact zL) (range' 1 9) 1 (by decide))
 have p1:Q*U<=O:=by
  have:=pd.1;rw[← natCast_mul]at this;exact ofNat_le.mp this
 have p2:O<Q*U+U:=p20
 have hq:O/U=Q:=by
  have:=(Nat.div_mod_unique up (a:=O) (c:=O-Q*U) (d:=Q)).mpr ⟨by rw[mul_comm U];exact IQ,by exact Q2 0x6740111570111601105111401103 [_,_,_,_] p2 (sub_add_cancel (Q1 0x54110541102 [_,_] p1 rfl)) rfl⟩;exact this.1
 have OH:(cq rs).reverse.length=10:=by rw[length_reverse,Ko]
 have Qo:cp Q W 10=(cq rs).reverse:=by
  have:=xy W (cq rs).reverse λd h=>hd d (mem_reverse.mp h);rw[OH]at this;exact this
 have O2:∃ A:List Nat,(cq rs).reverse=A++[1]/\A.length=9/\∀ d∈A,d<2^W:=by
  cases hw:cq rs with
  |nil=>rw[hw]at Ko;cases Ko
  |cons d ds=>
   have h1:d=1:=by
    have:=Nat.eq_of_beq_eq_true a5;rw[hw]at this;exact this
   refine⟨ds.reverse,by rw[h1,reverse_cons],?_,λx hx=>hd x (by rw[hw];simp at hx ⊢;exact .inr hx)⟩;rw[hw]at Ko;rw[length_reverse];simp at Ko;exact Ko
 refine cU O2 ?_;clear O2;intro A hA Rp hAd;have Pz:=xi W A hAd;rw[Rp]at Pz
 have hQ:Q=2^(W*9)+num W A:=by
  show num W (cq rs).reverse=_;rw[hA,sX,Rp];have:num W [1]=1:=by simp[num]
  rw[this,one_mul]
 have e9:W*9=9*W:=mul_comm _ _;rw[e9]at hQ Pz;have bq:bl Q=9*W+1:=AB (by exact Q1 0x6405112541102 [_,_,_] hQ rfl) (by rw[pow_succ];exact Q2 0x65041115111601105213111401103 [_,_,_] Pz hQ rfl)
 have bh:bl (Q/2)=9*W:=by
  have h9:9*W=(9*W-1)+1:=by exact le_antisymm (Q1 0x4912111501121115049121102 [_,_] (sub_add_cancel (Q1 0x481111049121111102 [_] h8 rfl)) rfl) (Q1 0x5912111401115912111401102 [_,_] (sub_add_cancel (Q1 0x481111049121111102 [_] h8 rfl)) rfl)
  have e:2^(9*W)=2^(9*W-1)*2:=by
   have:=pow_succ (n:=2) (m:=9*W-1);rw[succ_eq_add_one,← h9]at this;exact this
  have:=AB (a:=Q/2) (k:=9*W-1) ((Nat.le_div_iff_mul_le (by decide)).mpr (by rw[← e];exact qf (le_add_right _ _) hQ.symm)) (by rw[← h9];exact Q3 0x784212011165071115111601105111402104 [_,_,_,_,_] Pz hQ (div_add_mod _ _) rfl);rw[← h9]at this;exact this
 have uL:U<2^(1+W*45):=pZ W (range' 1 9) 1 1 (by decide)
 have oL:O<2^((W*(54-(iN rs).sum)+1)+W*(iN rs).sum):=pZ W (iN rs) _ _ (by
  exact Nat.pow_lt_pow_right (by decide) (by exact AP))
 have oE:(W*(54-(iN rs).sum)+1)+W*(iN rs).sum=W*54+1:=by
  have:W*(54-(iN rs).sum)+W*(iN rs).sum=W*54:=by
   rw[← mul_add,sub_add_cancel hS]
  exact le_antisymm (Q1 0x6362354011111163623051114001102 [_,_,_] this rfl) (Q1 0x4362365011261115001114362301102 [_,_,_] this rfl)
 rw[oE]at oL;have Rq:bl U<=1+W*45:=db uL;have Rt:bl O<=W*54+1:=db oL
 have ulow:2^W<=U:=by
  have e:U=dV W 1 (range' 1 8)*(2^(W*9)-1):=rfl;have h1:1<=dV W 1 (range' 1 8):=mJ W (by exact zL) _ 1 (by decide)
  have h2:2^W<=2^(W*9)-1:=by
   have:2^(W+1)<=2^(W*9):=pow_le_pow_right (by decide) (by exact Q1 0x48111104913111401102 [_] h8 rfl);have P:0<2^W:=pow_pos (by decide);rw[pow_succ]at this;exact Q2 0x11150611064213110542103 [_,_,_] this Gm rfl
  rw[e];exact le_trans h2 (Nat.le_mul_of_pos_left _ h1)
 have NN:W<bl U:=(Nat.pow_lt_pow_iff_right (by decide:1<2)).mp (lt_of_le_of_lt ulow (fW U))
 have hm:(bl O+bl U-1)/bl U<=64:=by
  have:bl O+bl U-1<65*bl U:=by exact Q3 0x560111401115111703620111736230611054122111401104 [_,_,_,_] Rt NN (sub_add_cancel (Q1 0x5111601105401111102 [_,_,_] NN rfl)) rfl
  have:=(div_lt_iff_lt_mul (by exact zL)).mpr this;exact F9
 have r1:bl U<=30000:=by exact Q2 0x52d23111041101fb3152d2075304141103 [_,_] hW Rq rfl
 have r2:bl O<=40000:=by exact Q2 0x11153623041101fb31536209c404141103 [_,_] hW Rt rfl
 refine⟨up,r1,r2,?_,hm,?_,?_,?_⟩
 ·show bl (O/U)=_;rw[hq];exact bq
 ·show cp (O/U) W 10=_;rw[hq];exact Qo
 ·show bl (O/U/2)=_;rw[hq];exact bh
 ·show bl (O/U)+bl U<=_;rw[hq,bq];exact Q2 0x42d23111051101fb31436209c404151114912001103 [_,_] hW Rq rfl
theorem zv (Q W j:Nat)(hW:1<=W):dg (Q/2) W j=dg Q W j/2+dg Q W (j+1)%2*2^(W-1):=by
 have e:2^W=2*2^(W-1):=by
  have:=pow_succ (n:=2) (m:=W-1);rw[succ_eq_add_one,sub_add_cancel hW]at this;exact le_antisymm (Q1 0x52134111521241102 [_,_] this rfl) (Q1 0x42135112542121102 [_,_] this rfl)
 have P:0<2^(W-1):=pow_pos (by decide);unfold dg
 have h1:Q/2/2^(W*j)=Q/2^(W*j)/2:=by
  rw[Nat.div_div_eq_div_mul,Nat.div_div_eq_div_mul,mul_comm]
 have h2:Q/2^(W*(j+1))=Q/2^(W*j)/2^W:=by
  rw[mul_add,mul_one,pow_add,Nat.div_div_eq_div_mul]
 rw[h1,h2];generalize Q/2^(W*j)=y;generalize hX:2^(W-1)=X at *;rw[e];have d1:=div_add_mod y (2*X);have m1:y%(2*X)<2*X:=mod_lt _ (by exact Q1 0x411101011042121110101102 [_] P rfl);generalize y/(2*X)=h at *;generalize y%(2*X)=f at *;have m2:h%2%2=h%2:=mod_mod _ _;have m3:h%(2*X)%2=h%2:=Nat.mod_mul_right_mod h 2 X;rw[m3];have hh:=div_add_mod h 2
 have key:y/2=(2*X)*(h/2)+(h%2*X+f/2):=by
  have e1:2*X*h=2*(2*X*(h/2)+h%2*X):=by
   have:h=2*(h/2)+h%2:=hh.symm;have e2:2*X*h=2*X*(2*(h/2)+h%2):=by rw[← this]
   rw[e2,mul_add,Nat.mul_left_comm (2*X) 2,mul_assoc 2 X (h%2),mul_comm X (h%2),← mul_add]
  rw[← d1,e1];exact le_antisymm (Q3 0x211111a01109a72120112965021208421201117605042104 [_,_,_,_,_,_,_] (div_add_mod _ _) (div_add_mod _ _) (mod_lt _ (by decide)) rfl) (Q3 0x9a6212011121111180110954021208721201127650402104 [_,_,_,_,_,_,_] (div_add_mod _ _) (mod_lt _ (by decide)) (div_add_mod _ _) rfl)
 have lt:h%2*X+f/2<2*X:=by
  have:h%2=0\/h%2=1:=by exact IH
  rcases this with q |q<;>rw[q]<;>first |exact GE (by assumption) |exact GF (by assumption)
 rw[key,Nat.mul_add_mod,mod_eq_of_lt lt];exact G1
theorem xz {a b:Nat}(h:bl a+bl b<=134217728):aK .Mult (.int a) (.int b)=some (.int ((a*b:Nat):Int)):=by
 exact if_pos (nQ h)
theorem td {a b:Nat}(h:bl a+bl b<=134217728):lG .Mult (.int a) (.int b)=some (.int ((a*b:Nat):Int)):=cC (if_pos (nQ h))
section
variable {cs:List Int}{rs:cj}{L e u:List Nat}{B:dJ}{low sh:Nat}{Sv:AV}
noncomputable def Le (Sv:AV)(low sh:Nat)(rs:cj)(v:AV)(w:Nat)(L e:List Nat)(x y:AV)(W a:Nat)(τ:Loc):Loc:=KR Sv low sh rs (L9 v w L e ((119,.str (typ e))::(120,x)::(121,y)::(122,.int W)::(123,.int a)::τ))
variable {v x y:AV}{w W:Nat}
theorem lH (m:Nat){st:St}(hW:W<=507){ok:St->Bool}(hk:ok st=true):∀ (xs:List Ru) (a N:Nat) (τ:Loc),(∀ x∈xs,C4 x)->a<2^N->N+20000*xs.length<=100000 ->
  ∃ Kw,bc ok (bV ⟨run (m+9)⟩ (.tup [91,80,75,163]) wH) (xs.map aV) (Le Sv low sh rs v w L e x y W a τ) st=some (.next,Le Sv low sh rs v w L e x y W (dV W a (xs.map λx=>x.p*x.q)) Kw,st):=by
 intro xs
 induction xs with
 |nil=>
  intro a N τ _ _ _;exact⟨τ,hZ hk⟩
 |cons z xs ih=>
  intro a N τ hx ha hN;have hz:=hx z (by simp);let KC:=ai (ai (ai (ai τ 91 (.int z.p)) 80 (.int z.q)) 75 (.int z.r)) 163 (.int z.s);have hb:aQ (Le Sv low sh rs v w L e x y W a τ) (.tup [91,80,75,163]) (aV z)=some (Le Sv low sh rs v w L e x y W a KC):=rfl
  have g91:af (Le Sv low sh rs v w L e x y W a KC) 91=some (.int z.p):=by
   show af KC 91=_;exact(ag _ (by decide) _).trans ((ag _ (by decide) _).trans ((ag _ (by decide) _).trans (ab _ _ _)))
  have Oi:af (Le Sv low sh rs v w L e x y W a KC) 80=some (.int z.q):=by
   show af KC 80=_;exact(ag _ (by decide) _).trans ((ag _ (by decide) _).trans (ab _ _ _))
  have ON:W*z.p*z.q<=20000:=by
   have h1:W*z.p<=507*6:=mul_le_mul hW hz.1.2;have h2:W*z.p*z.q<=507*6*6:=mul_le_mul h1 hz.2.2.1.2;exact bN
  have hp6:W*z.p<=507*6:=mul_le_mul hW hz.1.2;have m1:=dC W z.p (by exact dU);have m2:=dC (W*z.p) z.q (by exact dU);have P:0<2^(W*z.p*z.q):=pow_pos (by decide)
  have y1:aa ⟨run (m+9)⟩ (.b .Sub (.b .LShift (.int 1) (.b .Mult (.b .Mult (.l 122) (.l 91)) (.l 80))) (.int 1)) (Le Sv low sh rs v w L e x y W a KC) st=some (.int ((2^(W*z.p*z.q)-1:Nat):Int),st):=
   aj (aj (x:=.int 1) (y:=.int ((W*z.p*z.q:Nat):Int)) rfl (aj (aj (x:=.int W) rfl (ay g91) m1) (ay Oi) m2) (gP (by exact bN))) rfl (iK _)
  have b1:bl (2^(W*z.p*z.q)-1)<=W*z.p*z.q:=db (by exact Q1 0x5111401115111401102 [_,_] (sub_add_cancel (Q1 0x411101011041111102 [_] P rfl)) rfl);have b2:bl a<=N:=db ha;have MB:(z::xs).length=xs.length+1:=rfl;rw[MB]at hN;have am:=td (a:=a) (b:=2^(W*z.p*z.q)-1) (by exact Q4 0x64110851104e20418110186a051111704e2042601108000000715401105 [_,_,_,_,_] hN ON b1 b2 rfl)
  refine aw (ih (a*(2^(W*z.p*z.q)-1)) (N+W*z.p*z.q) KC (λt ht=>hx t (by simp[ht])) (by
   rw[pow_add]
   exact lt_of_le_of_lt (mul_le_mul_left _ (by exact Gc:2^(W*z.p*z.q)-1<=2^(W*z.p*z.q))) (Nat.mul_lt_mul_of_pos_right ha P)) (by exact Q2 0x4e20415110186a051111604e204240110186a05164e204254001103 [_,_,_] hN ON rfl)) λKw r=>?_
  refine⟨Kw,?_⟩;rw[map_cons,map_cons]
  have e1:dV W a (z.p*z.q::xs.map λx=>x.p*x.q)=dV W (a*(2^(W*z.p*z.q)-1)) (xs.map λx=>x.p*x.q):=by
   have:dV W a (z.p*z.q::xs.map λx=>x.p*x.q)=dV W (a*(2^(W*(z.p*z.q))-1)) (xs.map λx=>x.p*x.q):=rfl;rw[this,mul_assoc]
  rw[e1];exact(bR hk ((aR hb).trans ((ae (Ki:=Le Sv low sh rs v w L e x y W (a*(2^(W*z.p*z.q)-1)) KC) (jK rfl y1 am)).trans bB))).trans r
theorem lI (m:Nat){st:St}{a:Nat}(hW:W<=507){ok:St->Bool}(hk:ok st=true):∀ (ks:List Nat) (b N:Nat) (v:AV) (τ:Loc),(∀ k∈ks,k<=9)->b<2^N->N+5000*ks.length<=100000->af τ 124=some (.int b) ->
  ∃ (v':AV) (Kw:Loc),bc ok (bV ⟨run (m+9)⟩ (.nm 61) wI) (ks.map λk:Nat=>AV.int k) (Le Sv low sh rs v w L e x y W a τ) st=some (.next,Le Sv low sh rs v' w L e x y W a Kw,st)/\af Kw 124=some (.int (dV W b ks:Nat)):=by
 intro ks
 induction ks with
 |nil=>
  intro b N v τ _ _ _ hg;exact⟨v,τ,hZ hk,hg⟩
 |cons k ks ih=>
  intro b N v τ hx ha hN hg;have Rv:=hx k (by simp);have Rw:W*k<=507*9:=mul_le_mul hW Rv;have m1:=dC W k (by exact dU);have P:0<2^(W*k):=pow_pos (by decide);have hb:aQ (Le Sv low sh rs v w L e x y W a τ) (.nm 61) (.int k)=some (Le Sv low sh rs (.int k) w L e x y W a τ):=rfl
  have y1:aa ⟨run (m+9)⟩ (.b .Sub (.b .LShift (.int 1) (.b .Mult (.l 122) (.l 61))) (.int 1)) (Le Sv low sh rs (.int k) w L e x y W a τ) st=some (.int ((2^(W*k)-1:Nat):Int),st):=
   aj (aj (x:=.int 1) (y:=.int ((W*k:Nat):Int)) rfl (aj (x:=.int W) (y:=.int k) rfl rfl m1) (gP (by exact bN))) rfl (iK _)
  have b1:bl (2^(W*k)-1)<=W*k:=db (by exact Q1 0x5111401115111401102 [_,_] (sub_add_cancel (Q1 0x411101011041111102 [_] P rfl)) rfl);have b2:bl b<=N:=db ha;have MB:(k::ks).length=ks.length+1:=rfl;rw[MB]at hN;have am:=td (a:=b) (b:=2^(W*k)-1) (by exact Q4 0x641108511011d3418110186a05111170138842601108000000715401105 [_,_,_,_,_] hN Rw b1 b2 rfl);let KC:=ai τ 124 (.int ((b*(2^(W*k)-1):Nat):Int))
  obtain⟨v',Kw,r,hg'⟩:=ih (b*(2^(W*k)-1)) (N+W*k) (.int k) KC (λt ht=>hx t (by simp[ht])) (by
   rw[pow_add]
   exact lt_of_le_of_lt (mul_le_mul_left _ (by exact Gc:2^(W*k)-1<=2^(W*k))) (Nat.mul_lt_mul_of_pos_right ha P)) (by exact Q2 0x11d3415110186a0511116013884240110186a051613884254001103 [_,_,_] hN Rw rfl) (ab _ _ _)
  refine⟨v',Kw,?_,hg'⟩;rw[map_cons];have N3:af (Le Sv low sh rs (.int k) w L e x y W a τ) 124=some (.int b):=hg;exact(bR hk ((aR hb).trans ((ae (Ki:=Le Sv low sh rs (.int k) w L e x y W a KC) (jK N3 y1 am)).trans bB))).trans r
theorem Io (m:Nat)(hr:rs∈fC)(ho:K0 rs){st:St}(h:LI st cs rs L e u B) :
  ∃ (W:Nat) (v':AV) (τ:Loc),8<=W/\W<=507/\cw ⟨run (m+9)⟩ sH (KR Sv low sh rs (L9 v w L e [(119,.str (typ e)),(120,x),(121,y)])) st=some (.next,Le Sv low sh rs v' w L e x y W (eO rs W) τ,st)/\af τ 124=some (.int (dD W:Nat)):=by
 refine cU (xr cs.sum 20 500 (by decide) (by decide)) λk hk a1 a2=>?_;let W:=8+k;have hW:W<=507:=by simp only[W];exact JE
 have hS:(iN rs).sum<=54:=by
  have hp:=j5 rs hr;simp only[lx,and_eq_true]at hp;exact le_of_ble_eq_true hp.2
 have Oj:RV st (.obj 1) rs:=.inr ⟨1,rfl,h.c1⟩
 have y1:aa ⟨run (m+9)⟩ (.b .Add (.int 8) (.b .Mod (.b .FloorDiv (.bi .sum [.l 87]) (.int 20)) (.int 500))) (KR Sv low sh rs (L9 v w L e [(119,.str (typ e)),(120,x),(121,y)])) st=some (.int W,st):=
  aj (x:=.int (8:Nat)) rfl (aj (aj (dn (vs:=[.obj 0]) rfl (ly h.c0)) rfl a1) rfl a2) (cT 8 k)
 let Ki:=KR Sv low sh rs (L9 v w L e [(119,.str (typ e)),(120,x),(121,y),(122,.int W)])
 have c1:aa ⟨run (m+9)⟩ (.new false (.comp (.b .Mult (.l 91) (.l 80)) (.tup [91,80,75,163]) (.l 114) [] [])) Ki st=some (.lst (ah (iN rs)),st):=by
  have e1:ah (iN rs)=rs.map λx=>AV.int (x.p*x.q:Nat):=by simp only[ah,iN,map_map];rfl
  rw[e1];refine aH (bS (v:=.obj 1) rfl Oj.items (by rw[length_map,ho.1];decide) (aD aV _ Oj.stands rs λz hz=>?_));have:=(ho.2 z hz).1.2;exact lC (Ki:=[(91,.int z.p),(80,.int z.q),(75,.int z.r),(163,.int z.s)]) rfl (aj (x:=.int z.p) (y:=.int z.q) rfl rfl (dC z.p z.q (by exact dU)))
 have s1:gy st .sum [.lst (ah (iN rs))]=some (.int ((iN rs).sum:Nat),st):=by
  exact jV rfl (jI (cL _) (by rw[nP]))
 have sb:aK .Sub (.int 54) (.int ((iN rs).sum:Nat))=some (.int ((54-(iN rs).sum:Nat):Int)):=by
  have:(54:Int)-((iN rs).sum:Nat)=((54-(iN rs).sum:Nat):Int):=by exact CY
  exact congrArg (λx=>some (AV.int x)) this
 have hW54:W*(54-(iN rs).sum)<=507*54:=mul_le_mul hW (by exact Gc);have mu:=dC W (54-(iN rs).sum) (by exact dU)
 have y2:aa ⟨run (m+9)⟩ (.b .LShift (.int 1) (.b .Mult (.l 122) (.b .Sub (.int 54) (.bi .sum [.new false (.comp (.b .Mult (.l 91) (.l 80)) (.tup [91,80,75,163]) (.l 114) [] [])])))) Ki st=some (.int ((2^(W*(54-(iN rs).sum)):Nat):Int),st):=by
  have:=gP (k:=W*(54-(iN rs).sum)) (by exact bN);rw[one_mul]at this;exact aj (x:=.int 1) (y:=.int ((W*(54-(iN rs).sum):Nat):Int)) rfl (aj (x:=.int W) rfl (aj rfl (dn (P.e1 c1) s1) sb) mu) this
 refine aw (lH (Sv:=Sv) (low:=low) (sh:=sh) (rs:=rs) (L:=L) (e:=e) (v:=v) (x:=x) (y:=y) (w:=w) m (st:=st) hW (ok:=λst=>an st (.obj 1) (rs.map aV)) Oj.stands rs (2^(W*(54-(iN rs).sum))) (W*(54-(iN rs).sum)+1) [] ho.2 (Nat.pow_lt_pow_right (by decide) (by exact AP)) (by rw[ho.1];exact IL)) λKC r1=>?_;let KS:=ai KC 124 (.int ((1:Nat):Int));refine dc (lI (Sv:=Sv) (low:=low) (sh:=sh) (rs:=rs) (L:=L) (e:=e) (x:=x) (y:=y) (w:=w) (a:=eO rs W) m (st:=st) hW (ok:=λst=>an st (.rng (1:Nat) ((1+9:Nat):Int)) ((range' 1 9).map λk:Nat=>AV.int k)) rfl (range' 1 9) 1 1 v KS (by decide) (by decide) (by simp) (ab _ _ _)) λv' Kw r2 hg=>?_;refine⟨W,v',Kw,by simp only[W];exact IT,hW,?_,hg⟩;refine(ae (Ki:=Ki) (aE y1 rfl)).trans ?_;refine(ae (Ki:=Le Sv low sh rs v w L e x y W (2^(W*(54-(iN rs).sum))) []) (aE y2 rfl)).trans ?_;refine(ae (Ki:=Le Sv low sh rs v w L e x y W (eO rs W) KC) (fp (v:=.obj 1) rfl Oj.items r1)).trans ?_;refine(ae (Ki:=Le Sv low sh rs v w L e x y W (eO rs W) KS) (aE (v:=.int ((1:Nat):Int)) rfl rfl)).trans ?_;exact(ae (fp (dn (e2 (x:=.int (1:Nat)) (y:=.int (10:Nat)) rfl rfl) (fB 1 10 (by decide) (by decide))) (eM 1 9 (by decide)) r2)).trans bB
theorem Ip (m:Nat){O U:Nat}(hU:0<U)(hbu:bl U<=30000)(hm:(bl O+bl U-1)/bl U<=64)(hmq:bl (O/U)+bl U<=40000){st:St}(h:LI st cs rs L e u B){τ:Loc}(hg:af τ 124=some (.int U)) :
  ∃ (Kw:Loc) (Kd:St),cw ⟨run (m+9)⟩ sI (Le Sv low sh rs v w L e x y W O τ) st=some (.next,Le Sv low sh rs v w L e x y W O Kw,Kd)/\LI Kd cs rs L e u B/\af Kw 125=some (.tup [.int ((O/U:Nat):Int),.int ((O%U:Nat):Int)]):=by
 refine ak (Fa m O U hU hbu hm st) λKe x12 k1=>?_;have h1:=h.kp k1;let Q:=O/U;let pt:AV:=.tup [.int ((O/U:Nat):Int),.int ((O%U:Nat):Int)];let KC:=ai τ 125 pt;let Ki:=Le Sv low sh rs v w L e x y W O KC;have N3:af (Le Sv low sh rs v w L e x y W O τ) 124=some (.int U):=hg
 have g124':af Ki 124=some (.int U):=by
  show af KC 124=_;exact(ag _ (by decide) _).trans hg
 have Mm:af Ki 125=some pt:=by
  show af KC 125=_;exact ab _ _ _
 have y1:aa ⟨run (m+9)⟩ (.call 12 [.l 123,.l 124]) (Le Sv low sh rs v w L e x y W O τ) st=some (pt,Ke):=be (e2 (x:=.int O) rfl (ay N3)) x12
 have y2:aa ⟨run (m+9)⟩ (.new false (.comp (.isTy (.l 198) .int false) (.nm 198) (.l 125) [] [])) Ki Ke=some (.lst [.bool true,.bool true],Ke):=by
  refine aH (bS (ay Mm) rfl (by simp) ?_);exact fO (ys:=[.bool true]) (zs:=[.bool true]) rfl (lC rfl (wx (b:=true) lO rfl false)) (fO (ys:=[.bool true]) (zs:=[]) rfl (lC rfl (wx (b:=true) lO rfl false)) (wE rfl))
 have c2:bJ Ke .NotEq (.lst [.bool true,.bool true]) (.lst [.bool true,.bool true])=some false:=rfl;have s0:∀ st,cB st pt (.int 0)=some (.int ((O/U:Nat):Int)):=λst=>rfl;have mm:=xz (a:=O/U) (b:=U) (by exact bN)
 have sb:aK .Sub (.int O) (.int ((O/U*U:Nat):Int))=some (.int ((O%U:Nat):Int)):=by
  have e:=div_add_mod O U;rw[mul_comm]at e;have:(O:Int)-((O/U*U:Nat):Int)=((O%U:Nat):Int):=yd (div_add_mod' ..);show some (AV.int ((O:Int)-((O/U*U:Nat):Int)))=_;rw[this]
 have y3:aa ⟨run (m+9)⟩ (.tup [.sub (.l 125) (.int 0),.b .Sub (.l 123) (.b .Mult (.sub (.l 125) (.int 0)) (.l 124))]) Ki Ke=some (pt,Ke):=
  kU (e2 (bW (ay Mm) rfl (s0 _)) (aj (x:=.int O) rfl (aj (bW (ay Mm) rfl (s0 _)) (ay g124') mm) sb))
 have c3:bJ Ke .NotEq pt pt=some false:=by
  have vv:ba 6 Ke pt=some (.tuple [.int ((O/U:Nat):Int),.int ((O%U:Nat):Int)]):=by
   simp only[pt,ba,map_cons,map_nil,aY,Option.map]
  rw[bJ,dA vv vv rfl];rfl
 refine⟨KC,Ke,?_,h1,ab _ _ _⟩;exact(ae (Ki:=Ki) (aE y1 rfl)).trans ((ae (bG (uh (bF y2 (aH (cK rfl)) c2) (bF (ay Mm) y3 c3)))).trans bB)
theorem Iq (m:Nat)(hr:rs∈fC)(ho:K0 rs)(h8:8<=W)(hW:W<=507){Q Rm:Nat}(hbq:bl Q=9*W+1)(Qo:cp Q W 10=(cq rs).reverse){O:Nat}{st:St}(h:LI st cs rs L e u B){τ:Loc}(hg:af τ 125=some (.tup [.int (Q:Int),.int (Rm:Int)])) :
  ∃ (Kw:Loc) (Kd:St) (d:Nat),cw ⟨run (m+9)⟩ sJ (Le Sv low sh rs v w L e x y W O τ) st=some (.next,Le Sv low sh rs v w L e x y W O Kw,Kd)/\af Kw 125=some (.tup [.int (Q:Int),.int (Rm:Int)])/\af Kw 126=some (.obj d)/\Kd[d]?=some (.list (ah (cp Q W 10))):=by
 have Rx:(bl Q+W-1)/W=10:=by
  rw[hbq,show 9*W+1+W-1=10*W by exact le_antisymm (Q1 0x5111591200111401115a1241102 [_,_] (sub_add_cancel (Q0 0x41114912001111101 [_] rfl)) rfl) (Q1 0x41114912001115011254a121102 [_,_] (sub_add_cancel (Q0 0x41114912001111101 [_] rfl)) rfl)];exact Nat.mul_div_cancel _ (by exact zL)
 have O3:=sW (m+8) Q W (by exact bN) (by exact zL) (by rw[Rx];decide) st;rw[Rx]at O3;let Ke:St:=st++[AO.list (ah (cp Q W 10))];let d:=st.length;have PA:Ke[d]?=some (.list (ah (cp Q W 10))):=aS _ _;have h1:LI Ke cs rs L e u B:=h.kp (Kp.app [] st _);have Oj:RV Ke (.obj 1) rs:=.inr ⟨1,rfl,h1.c1⟩
 have x11:=E4 (m+7) Oj (by rw[ho.1];decide) (λz h1 h2=>by
  have:=zj rs hr ⟨z-1,by exact Q2 0x5111401119115110911111401103 [_,_] h2 (sub_add_cancel (Q1 0x411111041111102 [_] h1 rfl)) rfl⟩;simp only at this;rw[show z-1+1=z by exact IQ]at this
  exact this)
 let Kf:St:=Ke++[AO.list []]
 have e0:(bl 0+W-1)/W=0:=by
  have:bl 0=0:=rfl;rw[this];exact div_eq_of_lt (by exact Q1 0x5010111401115111401102 [_,_] (sub_add_cancel (Q1 0x481111040101111102 [_] h8 rfl)) rfl)
 have x0:=sW (m+8) 0 W (by exact bN) (by exact zL) (by rw[e0];decide) Ke;rw[e0]at x0;have Qi:run (m+9) 16 [.int 0,.int W] Ke=some (.obj Ke.length,Kf):=x0;let KC:=ai τ 126 (.obj d);let Ki:=Le Sv low sh rs v w L e x y W O KC;have Mm:af (Le Sv low sh rs v w L e x y W O τ) 125=some (.tup [.int (Q:Int),.int (Rm:Int)]):=hg
 have N4:af Ki 126=some (.obj d):=by
  show af KC 126=_;exact ab _ _ _
 have y1:aa ⟨run (m+9)⟩ (.call 16 [.sub (.l 125) (.int 0),.l 122]) (Le Sv low sh rs v w L e x y W O τ) st=some (.obj d,Ke):=be (e2 (y:=.int W) (bW (ay Mm) rfl rfl) rfl) O3
 have y2:aa ⟨run (m+9)⟩ (.new false (.rev (.call 11 [.l 114]))) Ki Ke=some (.lst (ah (cq rs).reverse),Ke):=by
  have hl:(ah (cq rs)).length<=1000000:=by
   have hp:=j5 rs hr;simp only[lx,and_eq_true]at hp;have:=Nat.eq_of_beq_eq_true hp.1.1.1.2;rw[length_map,this];decide
  have e1:ah (cq rs).reverse=(ah (cq rs)).reverse:=by simp[ah]
  have hc:aa ⟨run (m+9)⟩ (.call 11 [.l 114]) Ki Ke=some (.lst (ah (cq rs)),Ke):=be (vs:=[.obj 1]) rfl x11;rw[e1];refine aH ?_;refine jE hc ?_;exact jV (x:=ah (cq rs)) (k:=λxs=>if xs.length<=1000000 then some (xs.reverse,Ke) else none) rfl (if_pos hl)
 have c1:bJ Ke .NotEq (.obj d) (.lst (ah (cq rs).reverse))=some false:=by
  rw[← Qo,bJ,dA (fR 5 Ke d _ PA) (eA 5 Ke _) (j6 _)];rfl
 have y3:aa ⟨run (m+9)⟩ (.call 16 [.int 0,.l 122]) Ki Ke=some (.obj Ke.length,Kf):=be (vs:=[.int 0,.int W]) rfl Qi;have gd2:Kf[Ke.length]?=some (.list (ah [])):=aS _ _
 have c2:bJ Kf .NotEq (.obj Ke.length) (.lst [])=some false:=by
  show bJ Kf .NotEq (.obj Ke.length) (.lst (ah []))=some false;rw[bJ,dA (fR 5 Kf Ke.length [] gd2) (eA 5 Kf []) rfl];rfl
 refine⟨KC,Kf,d,?_,(ag _ (by decide) _).trans hg,ab _ _ _,cz PA⟩;exact(ae (Ki:=Ki) (aE y1 rfl)).trans ((ae (bG (uh (bF (ay N4) y2 c1) (bF y3 (aH (cK rfl)) c2)))).trans bB)
noncomputable def jz (F:List Nat)(W:Nat):List Nat:=(List.range 9).map λk=>F.getD k 0/2+F.getD (k+1) 0%2*2^(W-1)
theorem p9 {a n m j:Nat}(h:j<m):(cp a n m).getD j 0=dg a n j:=by
 rw[cp,getD_eq_getElem?_getD,getElem?_map,getElem?_range h];rfl
theorem zw (Q W:Nat)(hW:1<=W):cp (Q/2) W 9=jz (cp Q W 10) W:=by
 rw[jz,cp];apply map_congr_left;intro k hk;have:=mem_range.mp hk;rw[zv Q W k hW,p9 (by exact bN),p9 (by exact dU)]
theorem Ir (m:Nat)(h8:8<=W)(hW:W<=507){Q Rm O d:Nat}(hbh:bl (Q/2)=9*W){st:St}{τ:Loc}(hg:af τ 125=some (.tup [.int (Q:Int),.int (Rm:Int)]))(hd:af τ 126=some (.obj d))(Mi:st[d]?=some (.list (ah (cp Q W 10)))) :
  ∃ (Kh:Loc) (Kd:St),cw ⟨run (m+9)⟩ sK (Le Sv low sh rs v w L e x y W O τ) st=some (.ret (.bool true),Kh,Kd):=by
 let F:=cp Q W 10;have lF:F.length=10:=by simp[F,cp]
 let K4:=Le Sv low sh rs v w L e x y W O τ;have N4:af K4 126=some (.obj d):=hd;have g122:af K4 122=some (.int W):=rfl
 have y1:aa ⟨run (m+9)⟩ AA K4 st=some (.lst (ah (jz F W)),st):=by
  have e1:ah (jz F W)=(List.range 9).map λk:Nat=>AV.int ((F.getD k 0/2+F.getD (k+1) 0%2*2^(W-1):Nat):Int):=by simp only[ah,jz,map_map];rfl
  rw[e1];refine aH (bS (dn (P.e1 rfl) (aZ 9 (by decide))) (aL 9 (by decide)) (by decide) (aD (λk:Nat=>AV.int k) _ rfl (List.range 9) λk hk=>?_));have Rv:=mem_range.mp hk;let Qp:=ai (aX K4 [126,122]) 61 (.int k);have O4:af Qp 126=some (.obj d):=by rw[ag _ (by decide),ez rfl,N4]
  have k122:af Qp 122=some (.int W):=by rw[ag _ (by decide),ez rfl,g122]
  have Ry:af Qp 61=some (.int k):=ab _ _ _;have f1:cB st (.obj d) (.int k)=some (.int (F.getD k 0:Nat)):=cG Mi (dQ (by show k<F.length;exact bN)) (by exact bN);have f2:cB st (.obj d) (.int ((k+1:Nat):Int))=some (.int (F.getD (k+1) 0:Nat)):=cG Mi (dQ (by show k+1<F.length;exact dU)) (by exact dU);have b1:=nM (F.getD k 0) 2 (by decide) (by decide);have b2:=nL st (F.getD (k+1) 0) 2 (by decide)
  have b3:aK .Sub (.int W) (.int 1)=some (.int ((W-1:Nat):Int)):=by
   have:(W:Int)-1=((W-1:Nat):Int):=by exact GU
   exact congrArg (λx=>some (AV.int x)) this
  have b4:=gP (k:=W-1) (by exact JB);rw[one_mul]at b4;have b5:=dC (F.getD (k+1) 0%2) (2^(W-1)) (by exact yn);exact lC rfl (aj (aj (y:=.int (2:Nat)) (bW (ay O4) (ay Ry) f1) rfl b1) (aj (aj (y:=.int (2:Nat)) (bW (ay O4) (aj (y:=.int (1:Nat)) (ay Ry) rfl (cT k 1)) f2) rfl b2) (aj (x:=.int 1) rfl (aj (ay k122) rfl b3) b4) b5) (cT _ _))
 have e9:(bl (Q/2)+W-1)/W=9:=by
  rw[hbh];exact Nat.div_eq_of_lt_le (by exact Q1 0x4491201115091254912a102 [_,_] (sub_add_cancel (Q1 0x48111104491201111102 [_] h8 rfl)) rfl) (by rw[succ_mul];exact Q1 0x55581200111401115a12111401102 [_,_] (sub_add_cancel (Q1 0x4811110444812001111102 [_] h8 rfl)) rfl)
 have O3:=sW (m+8) (Q/2) W (by exact bN) (by exact zL) (by rw[e9];decide) st;rw[e9]at O3;let Ke:St:=st++[AO.list (ah (cp (Q/2) W 9))];have PA:Ke[st.length]?=some (.list (ah (cp (Q/2) W 9))):=aS _ _;let KC:=ai τ 127 (.lst (ah (jz F W)));let Ki:=Le Sv low sh rs v w L e x y W O KC
 have Mm:af Ki 125=some (.tup [.int (Q:Int),.int (Rm:Int)]):=by
  show af KC 125=_;exact(ag _ (by decide) _).trans hg
 have g127:af Ki 127=some (.lst (ah (jz F W))):=by
  show af KC 127=_;exact ab _ _ _
 have y2:aa ⟨run (m+9)⟩ (.call 16 [.b .FloorDiv (.sub (.l 125) (.int 0)) (.int 2),.l 122]) Ki st=some (.obj st.length,Ke):=
  be (e2 (y:=.int W) (aj (y:=.int (2:Nat)) (bW (ay Mm) rfl rfl) rfl (nM Q 2 (by decide) (by decide))) rfl) O3
 have c1:bJ Ke .Eq (.obj st.length) (.lst (ah (jz F W)))=some true:=by
  rw[← zw Q W (by exact zL),bJ,dA (fR 5 Ke st.length _ PA) (eA 5 Ke _) (j6 _)]
 exact⟨Ki,Ke,(ae (Ki:=Ki) (aE y1 rfl)).trans (cy (sR (yN y2 (ay g127) c1)))⟩
theorem CC (n:Nat)(a:List AV)(st:St):run (n+1) 22 a st=bE (run n) [86] HC a st:=rfl
theorem Fg (m:Nat)(l:List Int)(hl:l.length<=1000):∃ Kd,run (m+10) 22 [.lst (l.map .int)] []=some (.bool true,Kd):=by
 obtain⟨cs,rs,L,e,u,low,sh,Lv,LV,ho,hp,MR,KP,xA⟩:=Ig m l hl;refine j7 (Ih (cs:=cs) (rs:=rs) (low:=low) (sh:=sh) (Sv:=.lst (l.map .int)) m hp) λB0 v0 Kf xB h2 Pc=>?_;refine cP (Ii (low:=low) (sh:=sh) (Sv:=.lst (l.map .int)) (v:=v0) m hp h2 Pc) λw KJ xC h3 w3=>?_;refine yk (Ij (Sv:=.lst (l.map .int)) (v:=v0) m hp ho Lv MR KP h3 Pc w3) λB1 LM xD h4 Qq hl4 w4=>?_;have xE:=Ik (low:=low) (sh:=sh) (Sv:=.lst (l.map .int)) (v:=v0) m hp h4 Qq (w:=w);refine j7 (Il (low:=low) (sh:=sh) (Sv:=.lst (l.map .int)) (v:=v0) m hp h4 Qq w4) λx y NH xF h5 w5=>?_;refine dc (Im (Sv:=.lst (l.map .int)) (v:=v0) m hp ho Lv MR KP h5 Qq w5 (τ:=[(119,.str (typ e)),(120,x),(121,y)])) λB2 st6 xG h6=>?_;refine mN (Io (low:=low) (sh:=sh) (Sv:=.lst (l.map .int)) (v:=v0) (x:=x) (y:=y) (w:=w) m LV ho h6) λW v7 Oc h8 hW xH g7=>?_;have q:=J8 LV h8 hW;refine cP (Ip (low:=low) (sh:=sh) (Sv:=.lst (l.map .int)) (v:=v7) (x:=x) (y:=y) (w:=w) (W:=W) m q.up q.bu q.m q.mq h6 g7) λτ8 st8 xI h8' g8=>?_;refine mN (Iq (low:=low) (sh:=sh) (Sv:=.lst (l.map .int)) (v:=v7) (x:=x) (y:=y) (w:=w) (O:=eO rs W) m LV ho h8 hW q.bq q.dg h8' g8) λτ9 st9 d xJ g9 gd hd=>?_;refine nX (Ir (rs:=rs) (L:=L) (e:=e) (low:=low) (sh:=sh) (Sv:=.lst (l.map .int)) (v:=v7) (x:=x) (y:=y) (w:=w) (O:=eO rs W) m h8 hW q.bh g9 gd hd) λKh Kd xK=>?_;refine⟨Kd,?_⟩;rw[CC,Cu];refine bT (σ:=[(86,.lst (l.map .int))]) (Ki:=Kh) rfl ?_;exact(lQ xA).trans ((lQ xB).trans ((lQ xC).trans ((lQ xD).trans ((lQ xE).trans ((lQ xF).trans ((lQ xG).trans ((lQ xH).trans ((lQ xI).trans ((lQ xJ).trans xK)))))))))
end
end P
noncomputable def qa (K:Frag):Str->Option Value:=λn=>match K.lookup mainGlobals with
 |some ⟨_,_,.dict es _,_⟩=>nsFind es n
 |_=>none
noncomputable def posAt (K:Frag)(a:Addr)(i:Nat):Pos:=match bL K a with
 |some fd=>(match fd.body with
  |.stmts l=>(((l[i]?).bind Bw).map λq=>q.2.2.2.2).getD default
  |_=>default)
 |none=>default
noncomputable def Fh (K:Frag)(a:Addr):Str:=match bL K a with
 |some fd=>fd.qualname++ofString ".<locals>."++nm 53
 |none=>empty
noncomputable def bp (P:Params)(om ob:Obj):Frag:=hd.heap_39 P++[(1,om),(4,ob)]
noncomputable def C6 (P:Params)(om ob:Obj)(mb mc:Str->Option Value):Kz:=
 { K:=bp P om ob,mg:=qa (bp P om ob),mb:=mb,mc:=mc,pos1:=posAt (bp P om ob) 207 1,pos2:=posAt (bp P om ob) 214 0,q1:=Fh (bp P om ob) 207,q2:=Fh (bp P om ob) 214 }
theorem qb {α:Type}{n:Nat}{f g:Nat->α}(h:(List.range n).map f=(List.range n).map g):∀ k,k<n->f k=g k:=λk hk=>List.map_inj_left.mp h k (mem_range.mpr hk)
noncomputable def It:Option Value->Tok
 |some (.int _ t)=>t
 |_=>0
noncomputable def Iu:Option CFound->Tok
 |some (.val (.str _ t))=>t
 |_=>0
noncomputable def jB:Array DictEntry:=#[⟨1,.int 1 636,.str (ofString "OPTIMIZED") 637⟩,⟨2,.int 2 638,.str (ofString "NEWLOCALS") 639⟩,⟨4,.int 4 640,.str (ofString "VARARGS") 641⟩,⟨8,.int 8 642,.str (ofString "VARKEYWORDS") 643⟩,⟨16,.int 16 644,.str (ofString "NESTED") 645⟩,⟨32,.int 32 646,.str (ofString "GENERATOR") 647⟩,⟨64,.int 64 648,.str (ofString "NOFREE") 649⟩,⟨128,.int 128 650,.str (ofString "COROUTINE") 651⟩,⟨256,.int 256 652,.str (ofString "ITERABLE_COROUTINE") 653⟩,⟨512,.int 512 654,.str (ofString "ASYNC_GENERATOR") 655⟩]
section
variable (P:Params)(om ob:Obj)(mb mc:Str->Option Value)
theorem Iw:(List.range 23).map (λk=>qa (bp P om ob) (nm (zS k)))=(List.range 23).map λk=>some (fv k):=by kernel_rfl
theorem CD:(List.range 37).map (λk=>keepIn (bp P om ob) (fv k))=(List.range 37).map λ_=>true:=by kernel_rfl
theorem Ix (b:Bool):qa (bp P om ob) (nm (if b then 33 else 34))=some (.ref (if b then fj else fk)):=by cases b<;>kernel_rfl
theorem Iy (b:Bi):qa (bp P om ob) (nm (yB b))=none:=by cases b<;>kernel_rfl
theorem Fi:qa (bp P om ob) (nm 181)=none:=by kernel_rfl
theorem Fj:qa (bp P om ob) (nm 184)=none:=by kernel_rfl
theorem Fk (t:Ty):qa (bp P om ob) (nm (yC t))=none:=by cases t<;>kernel_rfl
theorem Fl:qa (bp P om ob) (nm 145)=none:=by kernel_rfl
theorem Fm:qa (bp P om ob) (nm 52)=some (.int 4000 (It (qa (bp P om ob) (nm 52)))):=by kernel_rfl
theorem Fn:qa (bp P om ob) (nm 17)=some (.ref jh):=by kernel_rfl
theorem Fo:noSeq (bp P om ob) fi=true:=by kernel_rfl
theorem xL:plainGet (bp P om ob) fi empty=true/\hasDictIn (bp P om ob) fi=true:=⟨by kernel_rfl,by kernel_rfl⟩
theorem xM:plainGet (bp P om ob) jh empty=true/\hasDictIn (bp P om ob) jh=true:=⟨by kernel_rfl,by kernel_rfl⟩
theorem CE:(List.range 6).map (λa=>(findIn (bp P om ob) (.ref fi) (nm a)).isSome&&noGet (bp P om ob) ((findIn (bp P om ob) (.ref fi) (nm a)).getD none))=(List.range 6).map λ_=>true:=by kernel_rfl
theorem CF:(List.range 6).map (λa=>(findIn (bp P om ob) (.ref jh) (nm a)).isSome&&noGet (bp P om ob) ((findIn (bp P om ob) (.ref jh) (nm a)).getD none))=(List.range 6).map λ_=>true:=by kernel_rfl
theorem Fp:(List.range 7).map (λk=>findIn (bp P om ob) (.ref (if k+30=36 then jh else fi)) (nm (tj (k+30))))=(List.range 7).map λk=>some (some (fv (k+30))):=by kernel_rfl
theorem CG:(List.range 7).map (λk=>isFn (bp P om ob) (fv (k+30)))=(List.range 7).map λk=>true:=by kernel_rfl
theorem xN:findIn (bp P om ob) (.ref fi) "__setattr__"=some (some (.builtin "object.__setattr__"))/\plainOver (bp P om ob) fi=true:=⟨by kernel_rfl,by kernel_rfl⟩
theorem xO:findIn (bp P om ob) (.ref jh) "__setattr__"=some (some (.builtin "object.__setattr__"))/\plainOver (bp P om ob) jh=true:=⟨by kernel_rfl,by kernel_rfl⟩
theorem CH:(List.range 6).map (λa=>takerIn (bp P om ob) fi (nm a))=(List.range 6).map λ_=>some none:=by kernel_rfl
theorem CI:(List.range 6).map (λa=>takerIn (bp P om ob) jh (nm a))=(List.range 6).map λ_=>some none:=by kernel_rfl
theorem CJ:readsIn (bp P om ob) jh ((typeIn (bp P om ob) (.ref jh)).getD .none)=true:=by kernel_rfl
theorem CK (b:Bool):findCls (bp P om ob) (.ref jh) ((typeIn (bp P om ob) (.ref jh)).getD .none) (nm (if b then 153 else 152))=some (.val (.str ⟨[if b then 9 else 32].toArray⟩ (Iu (findCls (bp P om ob) (.ref jh) ((typeIn (bp P om ob) (.ref jh)).getD .none) (nm (if b then 153 else 152)))))):=by cases b<;>kernel_rfl
theorem CL:qa (bp P om ob) (nm 54)=some (.ref 229):=by kernel_rfl
theorem CM:(bp P om ob).lookup 229=some { cls:=.type "dict",data:=.dict jB 10 }:=by kernel_rfl
theorem Fq:mo.all (λe=>fg (bp P om ob) (cr e.1) e.2.1 e.2.2&&kW (bp P om ob) (cr e.1) e.2.1)=true:=by kernel_rfl
theorem Fs:fg (bp P om ob) (cr 32) [129,110,132] Ea=true:=by kernel_rfl
theorem Ft:fg (bp P om ob) 76 [129,130] D9=true:=by kernel_rfl
theorem Fu:fg (bp P om ob) 260 [129,154] Eb=true:=by kernel_rfl
theorem Fv:kW (bp P om ob) 260 [129,154]=true:=by kernel_rfl
theorem Fx:fg (bp P om ob) (cr 34) [129,133,134,135] [.bad,.bad,.bad,.bad]=true:=by kernel_rfl
theorem Fy:Ek (bp P om ob) (cr 34)=true:=by kernel_rfl
theorem Fz:fg (bp P om ob) (cr 35) [129,64,110] Gf=true:=by kernel_rfl
theorem FA:makesIn (bp P om ob) fi=true/\findIn (bp P om ob) (.ref fi) "__init__"=some (some (.ref 76))/\typeIn (bp P om ob) (.ref 76)=some (.type "function"):=⟨by kernel_rfl,by kernel_rfl,by kernel_rfl⟩
theorem FB:makesIn (bp P om ob) jh=true/\findIn (bp P om ob) (.ref jh) "__init__"=some (some (.ref 260))/\typeIn (bp P om ob) (.ref 260)=some (.type "function"):=⟨by kernel_rfl,by kernel_rfl,by kernel_rfl⟩
theorem CN:(bp P om ob).lookup sysModules=some om:=by kernel_rfl
theorem FC:qa (bp P om ob) "__builtins__"=some (.ref 4):=by kernel_rfl
theorem FD:(bp P om ob).lookup 4=some ob:=by kernel_rfl
theorem FE:fg (bp P om ob) 207 [66,0] [.bad,.bad,.bad,.bad]=true:=by kernel_rfl
theorem FF:kW (bp P om ob) 207 [66,0]=true:=by kernel_rfl
theorem FG:fg (bp P om ob) 214 [77,0] [.bad,.bad]=true:=by kernel_rfl
theorem FH:kW (bp P om ob) 214 [77,0]=true:=by kernel_rfl
theorem FI:nx (C6 P om ob mb mc)=true:=by kernel_rfl
theorem FJ:ny (C6 P om ob mb mc)=true:=by kernel_rfl
theorem FL (b:Bi):(nm (yB b)==ofString "__name__")=false/\bootBuiltins (nm (yB b))=some (Hc b):=by cases b<;>exact⟨by kernel_rfl,by kernel_rfl⟩
theorem AC (t:Ty):(nm (yC t)==ofString "__name__")=false/\bootBuiltins (nm (yC t))=some (.type (Hf t)):=by cases t<;>exact⟨by kernel_rfl,by kernel_rfl⟩
theorem AD:(nm 181==ofString "__name__")=false/\bootBuiltins (nm 181)=some (.builtin "sorted"):=⟨by kernel_rfl,by kernel_rfl⟩
theorem AE:(nm 184==ofString "__name__")=false/\bootBuiltins (nm 184)=some (.type "type"):=⟨by kernel_rfl,by kernel_rfl⟩
theorem AF:(nm 145==ofString "__name__")=false/\bootBuiltins (nm 145)=some (.type "reversed"):=⟨by kernel_rfl,by kernel_rfl⟩
end
theorem nU {n:Nat}{f:Nat->Bool}(h:(List.range n).map f=(List.range n).map λ_=>true):∀ k,k<n->f k=true:=qb (g:=λ_=>true) h
section
variable (P:Params)(om ob:Obj)(mb mc:Str->Option Value)
theorem CO:∀ e∈jB,∃ k,Value.isInt k e.key=true/\e.hash=hashInt k:=by
 have:∀ e∈jB.toList,Value.isInt e.hash e.key=true/\e.hash=hashInt e.hash:=by
  intro e he;simp only[jB,mem_cons,not_mem_nil,or_false]at he;rcases he with rfl |rfl |rfl |rfl |rfl |rfl |rfl |rfl |rfl |rfl<;>exact⟨rfl,by decide +kernel⟩
 intro e he;exact⟨e.hash,this e (Array.mem_toList_iff.mpr he)⟩
theorem CP (k:Int):(∃ p t,eg.find? (·.1==k)=some p/\findBy Value.isInt jB k=some (.str ⟨p.2.toArray⟩ t))\/(eg.find? (·.1==k)=none/\findBy Value.isInt jB k=none):=by
 by_cases h1:k=1
 ·subst h1;exact .inl ⟨_,637,rfl,by kernel_rfl⟩
 by_cases h2:k=2
 ·subst h2;exact .inl ⟨_,639,rfl,by kernel_rfl⟩
 by_cases h3:k=4
 ·subst h3;exact .inl ⟨_,641,rfl,by kernel_rfl⟩
 by_cases h4:k=8
 ·subst h4;exact .inl ⟨_,643,rfl,by kernel_rfl⟩
 by_cases h5:k=16
 ·subst h5;exact .inl ⟨_,645,rfl,by kernel_rfl⟩
 by_cases h6:k=32
 ·subst h6;exact .inl ⟨_,647,rfl,by kernel_rfl⟩
 by_cases h7:k=64
 ·subst h7;exact .inl ⟨_,649,rfl,by kernel_rfl⟩
 by_cases h8:k=128
 ·subst h8;exact .inl ⟨_,651,rfl,by kernel_rfl⟩
 by_cases h9:k=256
 ·subst h9;exact .inl ⟨_,653,rfl,by kernel_rfl⟩
 by_cases N9:k=512
 ·subst N9;exact .inl ⟨_,655,rfl,by kernel_rfl⟩
 have q:∀ a:Int,k≠a->(a==k)=false:=λa h=>by simp;exact λe=>h e.symm
 refine .inr ⟨?_,?_⟩
 ·simp only[eg,find?,q 1 h1,q 2 h2,q 4 h3,q 8 h4,q 16 h5,q 32 h6,q 64 h7,q 128 h8,q 256 h9,q 512 N9]
 ·simp only[findBy,jB,List.find?_toArray,find?,Value.isInt,q 1 h1,q 2 h2,q 4 h3,q 8 h4,q 16 h5,q 32 h6,q 64 h7,q 128 h8,q 256 h9,q 512 N9,Option.map]
theorem glob (hb:∀ x:Str,x≠ofString "__name__"->mb x=bootBuiltins x):Glob (C6 P om ob mb mc) where
 refs:=λk=>⟨_,rfl⟩
 fn:=qb (Iw P om ob)
 keep:=nU (CD P om ob)
 bi:=λb=>⟨Iy P om ob b,(hb _ (beq_eq_false_iff_ne.mp (FL b).1)).trans (FL b).2⟩
 srt:=⟨Fi P om ob,(hb _ (beq_eq_false_iff_ne.mp AD.1)).trans AD.2⟩
 typ:=⟨Fj P om ob,(hb _ (beq_eq_false_iff_ne.mp AE.1)).trans AE.2⟩
 tys:=λt=>⟨Fk P om ob t,(hb _ (beq_eq_false_iff_ne.mp (AC t).1)).trans (AC t).2⟩
 rx:=Ix P om ob
 lim:=⟨_,Fm P om ob⟩
 wsc:=Fn P om ob
 cls:=λC hC=>by
  have key:∀ C,(List.range 6).map (λa=>(findIn (bp P om ob) (.ref C) (nm a)).isSome&&noGet (bp P om ob) ((findIn (bp P om ob) (.ref C) (nm a)).getD none))=(List.range 6).map (λ_=>true)->∀ a,a<6->∃ attr,findIn (bp P om ob) (.ref C) (nm a)=some attr/\noGet (bp P om ob) attr=true:=λC h a ha=>by
   have:=nU h a ha;simp only[and_eq_true]at this;refine aw (isSome_iff_exists.mp this.1) λv e=>?_;rw[e]at this;exact⟨v,e,this.2⟩
  rcases hC with rfl |rfl
  ·exact⟨(xL P om ob).1,(xL P om ob).2,key _ (CE P om ob)⟩
  ·exact⟨(xM P om ob).1,(xM P om ob).2,key _ (CF P om ob)⟩
 met:=λk h1 h2=>by
  have a:=qb (Fp P om ob) (k-30) (by exact Q2 0x51e2140111252111150110711111401103 [_,_] h2 (sub_add_cancel (Q1 0x41e2111041e211102 [_] h1 rfl)) rfl);have b:=nU (CG P om ob) (k-30) (by exact Q2 0x51e2140111252111150110711111401103 [_,_] h2 (sub_add_cancel (Q1 0x41e2111041e211102 [_] h1 rfl)) rfl);rw[show k-30+30=k from sub_add_cancel (by assumption)]at a b;exact⟨a,b⟩
 sets:=λC hC=>by
  rcases hC with rfl |rfl
  ·exact⟨(xN P om ob).1,(xN P om ob).2,qb (g:=λ_=>some none) (CH P om ob)⟩
  ·exact⟨(xO P om ob).1,(xO P om ob).2,qb (g:=λ_=>some none) (CI P om ob)⟩
 rev:=⟨Fl P om ob,(hb _ (beq_eq_false_iff_ne.mp AF.1)).trans AF.2⟩
 noq:=Fo P om ob
 wst:=⟨_,CJ P om ob,λb=>⟨_,CK P om ob b⟩⟩
 flg:=⟨229,_,jB,10,CL P om ob,by decide,CM P om ob,⟨rfl,rfl,rfl⟩,rfl,CO,CP⟩
noncomputable def jO (n:String)(a b c d:Nat):Arg:=⟨ofString n,none,⟨a,b,c,d⟩⟩
noncomputable def xP:Arguments:=⟨[],[jO "self" 59 12 59 16,jO "name" 59 18 59 22,jO "default" 59 24 59 31],none,[],[],none,[.Constant .none 0 ⟨59,32,59,36⟩]⟩
noncomputable def AG:Arguments:=⟨[],[jO "self" 20 17 20 21,jO "headers" 20 23 20 30],none,[],[],none,[.Constant .none 0 ⟨20,31,20,35⟩]⟩
noncomputable def xQ:Arguments:=⟨[],[jO "self" 87 19 87 23,jO "_name" 87 25 87 30,jO "_value" 87 32 87 38],none,[],[],some (jO "_params" 87 42 87 49),[]⟩
noncomputable def AH:Arguments:=⟨[],[jO "self" 30 29 30 33,jO "value" 30 35 30 40],none,[jO "name" 30 45 30 49],[none],none,[]⟩
noncomputable def zx:Obj:={ cls:=.type "tuple",data:=.seq #[.none] }
theorem CQ:(bL (bp P om ob) 129).map (·.params)=some xP/\(bL (bp P om ob) 129).map (·.defaults)=some (.ref 122)/\(bp P om ob).lookup 122=some zx:=⟨by kernel_rfl,by kernel_rfl,by kernel_rfl⟩
theorem Iz:(bL (bp P om ob) 76).map (·.params)=some AG/\(bL (bp P om ob) 76).map (·.defaults)=some (.ref 69)/\(bp P om ob).lookup 69=some zx:=⟨by kernel_rfl,by kernel_rfl,by kernel_rfl⟩
theorem FM:(bL (bp P om ob) 179).map (·.params)=some xQ/\(bL (bp P om ob) 179).map (·.defaults)=some .none:=⟨by kernel_rfl,by kernel_rfl⟩
theorem Jk:(bL (bp P om ob) 83).map (·.params)=some AH/\(bL (bp P om ob) 83).map (·.defaults)=some .none:=⟨by kernel_rfl,by kernel_rfl⟩
end
theorem fdOf {α:Type}{K:Frag}{a:Nat}{fd:FuncData}{f:FuncData->α}{x:α}(hf:bL K a=some fd)(h:(bL K a).map f=some x):f fd=x:=by
 rw[hf]at h;exact KO h
theorem zz {fd:FuncData}(hp:fd.params=xP)(hd:fd.defaults=.ref 122){s:Shared}(ho:s.heap.get? 122=some zx)(v1 v2:Value):BindsTo s fd ⟨[v1,v2],[]⟩ [(ofString "self",v1),(ofString "name",v2),(ofString "default",.none)]:=by
 cases fd;simp only at hp hd;subst hp;subst hd;exact BindsTo.of_defaults rfl ho rfl rfl rfl
theorem CR {fd:FuncData}(hp:fd.params=AG)(hd:fd.defaults=.ref 69){s:Shared}(ho:s.heap.get? 69=some zx)(v1 v2:Value):BindsTo s fd ⟨[v1,v2],[]⟩ [(ofString "self",v1),(ofString "headers",v2)]:=by
 cases fd;simp only at hp hd;subst hp;subst hd;exact BindsTo.of_defaults rfl ho rfl rfl rfl
theorem zA {fd:FuncData}(hp:fd.params=xQ)(hd:fd.defaults=.none)(v1 v2 v3:Value):bindArgs fd ⟨[v1,v2,v3],[]⟩=(alloc emptyDict>>=λd=>pure [(ofString "self",v1),(ofString "_name",v2),(ofString "_value",v3),(ofString "_params",.ref d)]):=by
 cases fd;simp only at hp hd;subst hp;subst hd;rfl
theorem CS {fd:FuncData}(hp:fd.params=AH)(hd:fd.defaults=.none)(v1 v2 v3:Value):bindArgs fd ⟨[v1,v2],[(ofString "name",v3)]⟩=pure [(ofString "self",v1),(ofString "value",v2),(ofString "name",v3)]:=by
 cases fd;simp only at hp hd;subst hp;subst hd;rfl
section
variable (P:Params)(om ob:Obj)(mb mc:Str->Option Value)
theorem IA (v1 v2:Value):([129,110,132].map nm).zip [v1,v2,.none]=[(ofString "self",v1),(ofString "name",v2),(ofString "default",.none)]:=by kernel_rfl
theorem J9 (v1 v2:Value):([129,130].map nm).zip [v1,v2]=[(ofString "self",v1),(ofString "headers",v2)]:=by kernel_rfl
theorem IB (v1 v2 v3 v4:Value):([129,133,134,135].map nm).zip [v1,v2,v3,v4]=[(ofString "self",v1),(ofString "_name",v2),(ofString "_value",v3),(ofString "_params",v4)]:=by kernel_rfl
theorem Ka (v1 v2 v3:Value):([129,64,110].map nm).zip [v1,v2,v3]=[(ofString "self",v1),(ofString "value",v2),(ofString "name",v3)]:=by kernel_rfl
theorem FN:Mc (C6 P om ob mb mc) where
 fva:=λf _=>rfl
 tab:=Fq P om ob
 f32:=Fs P om ob
 d32:=λfd hf s hs v1 v2=>by
  rw[IA];exact zz (fdOf hf (CQ P om ob).1) (fdOf hf (CQ P om ob).2.1) (hs _ _ (CQ P om ob).2.2) v1 v2
 f20:=Ft P om ob
 d20:=λfd hf s hs v1 v2=>by
  rw[J9];exact CR (fdOf hf (Iz P om ob).1) (fdOf hf (Iz P om ob).2.1) (hs _ _ (Iz P om ob).2.2) v1 v2
 f21:=Fu P om ob
 p21:=Fv P om ob
 mks:=λc=>by
  cases c with
  |zero=>exact FA P om ob
  |succ c=>exact FB P om ob
 sysm:=⟨om,CN P om ob⟩
 f34:=Fx P om ob
 a34:=Fy P om ob
 d34:=λfd hf v1 v2 v3=>by
  have e:∀ d:Addr,([129,133,134,135].map nm).zip [v1,v2,v3,.ref d]=_:=λd=>IB v1 v2 v3 (.ref d);simp only[e];exact zA (fdOf hf (FM P om ob).1) (fdOf hf (FM P om ob).2) v1 v2 v3
 f35:=Fz P om ob
 d35:=λfd hf v1 v2 v3=>by
  rw[Ka];exact CS (fdOf hf (Jk P om ob).1) (fdOf hf (Jk P om ob).2) v1 v2 v3
theorem FO (Qr:ob.cls=.type "module"/\ob.dict=some builtinsNs/\ob.data=.plain):NP (C6 P om ob mb mc) where
 N:=⟨4,ob,FC P om ob,by decide,by decide,by decide,by decide,FD P om ob,Qr.1,Qr.2.1,Qr.2.2⟩
 h16:=FE P om ob
 p16:=FF P om ob
 o16:=FI P om ob mb mc
 h17:=FG P om ob
 p17:=FH P om ob
 o17:=FJ P om ob mb mc
end
noncomputable def F0 (h:Heap):bf:=λa=>if a=202\/a=209 then none else h.get? a
theorem xR {h:Heap}{a:Addr}{o:Obj}(e:h.get? a=some o)(h1:a≠202)(h2:a≠209):F0 h a=some o:=by
 unfold F0;rw[if_neg (by rintro(h |h);exact h1 h;exact h2 h)];exact e
theorem FP (h:Heap):zR (F0 h) h:=by
 intro a o e;unfold F0 at e;split at e
 ·cases e
 ·exact e
theorem rM {h:Heap}{a:Addr}{m:Str->Option Value}(x:h.Ns a m)(h1:a≠202)(h2:a≠209):Nn (F0 h) a m:=by
 refine yi x ?_;clear x;intro o es ep e r;exact⟨o,es,ep,xR e h1 h2,r⟩
theorem IC {P:Params}{om ob:Obj}{h:Heap}(X:(hd.heap_39 P).In h)(h1:h.get? 1=some om)(h4:h.get? 4=some ob):(bp P om ob).In h:=by
 intro a o e;unfold bp at e;rw[List.lookup_append]at e
 cases q:(hd.heap_39 P).lookup a with
 |some o'=>
  rw[q]at e;simp at e;subst e;exact X a o' q
 |none=>
  rw[q]at e;simp only[Option.none_or,List.lookup]at e;split at e
  ·rename_i q1;cases e;rw[eq_of_beq q1];exact h1
  ·split at e
   ·rename_i q1;cases e;rw[eq_of_beq q1];exact h4
   ·cases e
theorem AI (P:Params)(om ob:Obj):(bp P om ob).lookup 202=none/\(bp P om ob).lookup 209=none:=⟨by kernel_rfl,by kernel_rfl⟩
noncomputable def xT (K:Frag)(a:Addr):Data:=match K.lookup a with
 |some o=>o.data
 |none=>.plain
noncomputable def lA (K:Frag)(a:Addr):Array Value:=match xT K a with
 |.fields fs=>fs
 |_=>#[]
noncomputable def refOf:Value->Addr
 |.ref a=>a
 |_=>0
noncomputable def qc (K:Frag)(a:Addr):Array Value:=match xT K a with
 |.seq vs _=>vs
 |_=>#[]
noncomputable def ID (K:Frag)(a:Addr):Nat:=match xT K a with
 |.seq _ n=>n
 |_=>0
noncomputable def AJ (K:Frag)(a:Addr):Obj:=((K.lookup a).getD { cls:=.none,data:=.plain })
theorem FQ (P:Params)(om ob:Obj)(b:Bool):(bp P om ob).lookup (if b then fj else fk)=some { cls:=.type "re.Pattern",data:=.fields (lA (bp P om ob) (if b then fj else fk)) }:=by cases b<;>kernel_rfl
theorem FS (P:Params)(om ob:Obj)(b:Bool):(lA (bp P om ob) (if b then fj else fk)).getD 5 .none=.ref (refOf ((lA (bp P om ob) (if b then fj else fk)).getD 5 .none)):=by cases b<;>kernel_rfl
theorem AK (P:Params)(om ob:Obj)(b:Bool):Builtin.Re.reRawNat ((lA (bp P om ob) (if b then fj else fk)).getD 6 .none)=0/\Builtin.Re.reRawNat ((lA (bp P om ob) (if b then fj else fk)).getD 2 .none)=0:=by cases b<;>exact⟨by kernel_rfl,by kernel_rfl⟩
theorem FT (P:Params)(om ob:Obj)(b:Bool):(bp P om ob).lookup (refOf ((lA (bp P om ob) (if b then fj else fk)).getD 5 .none))=some (AJ (bp P om ob) (refOf ((lA (bp P om ob) (if b then fj else fk)).getD 5 .none))):=by cases b<;>kernel_rfl
theorem FU (P:Params)(om ob:Obj)(b:Bool):(AJ (bp P om ob) (refOf ((lA (bp P om ob) (if b then fj else fk)).getD 5 .none))).data=.seq (qc (bp P om ob) (refOf ((lA (bp P om ob) (if b then fj else fk)).getD 5 .none))) (ID (bp P om ob) (refOf ((lA (bp P om ob) (if b then fj else fk)).getD 5 .none))):=by cases b<;>kernel_rfl
theorem FV (P:Params)(om ob:Obj)(b:Bool):((qc (bp P om ob) (refOf ((lA (bp P om ob) (if b then fj else fk)).getD 5 .none))).map Builtin.Re.reRawOf).map (·.toNat)=codeOf b:=by cases b<;>kernel_rfl
theorem Jl (P:Params)(om ob:Obj):((bp P om ob).lookup mainGlobals).isSome=true:=by kernel_rfl
theorem IE (P:Params):((hd.heap_39 P).lookup mainGlobals).isSome=true:=by kernel_rfl
theorem xU {K:Frag}(hk:(K.lookup mainGlobals).isSome=true){h:Heap}{mg:Str->Option Value}(X:K.In h)(g:h.Ns mainGlobals mg)(n:Str):qa K n=mg n:=by
 refine mN g ?_;clear g;intro o es ep e hd _ hn;refine aw (isSome_iff_exists.mp hk) λoK hK=>?_;have:=X _ _ hK;rw[e]at this;cases this;unfold qa;rw[hK];obtain⟨cls,dict,data,sl⟩:=o;simp only at hd;subst hd;exact hn n
theorem IF (P:Params):qa (hd.heap_39 P) "__builtins__"=some (.ref 4):=by kernel_rfl
theorem AM {F:bf}{h:Heap}{a:Addr}{pos:Pos}{q:Str}(e:h.get? a=some (tabObj #[])):Md F h a pos q:=⟨#[],e,trivial,.inl rfl⟩
theorem IG {P:Params}{om ob:Obj}{h:Heap}{mb mc:Str->Option Value}(X:(bp P om ob).In h){mg:Str->Option Value}(g:h.Ns mainGlobals mg)(b:h.Ns builtinsNs mb)(c:h.Ns cStatics mc)(lim:mc "sys.recursionlimit"=none)(t1:h.get? 202=some (tabObj #[]))(t2:h.get? 209=some (tabObj #[])) :
  Kj (C6 P om ob mb mc) (F0 h) [] [] h:=by
 have XF:∀ a o,(bp P om ob).lookup a=some o->F0 h a=some o:=λa o e=>xR (X a o e) (λq=>by rw[q,(AI P om ob).1]at e;cases e) (λq=>by rw[q,(AI P om ob).2]at e;cases e);refine⟨⟨XF,?_,rM b (by decide) (by decide),rM c (by decide) (by decide),lim,λb=>?_⟩,FP h,rfl,nodup_nil,λa m=>by simp at m,λa m=>by simp at m,λi a o e=>by simp at e,AM t1,AM t2,⟨if_pos (.inl rfl),by simp⟩,⟨if_pos (.inr rfl),by simp⟩⟩
 ·have e:mg=qa (bp P om ob):=funext λn=>(xU (Jl P om ob) X g n).symm;have:=rM (h:=h) (a:=mainGlobals) g (by decide) (by decide);rw[e]at this;exact this
 ·exact⟨_,_,_,_,_,XF _ _ (FQ P om ob b),FS P om ob b,(AK P om ob b).1,(AK P om ob b).2,XF _ _ (FT P om ob b),FU P om ob b,FV P om ob b⟩
theorem CT {R:WRecords}{x:WData}:WShape.has R x .int=true->∃ i,x=.int i:=by cases x<;>first |exact λh=>absurd h Ly |exact λ_=>⟨_,rfl⟩
theorem xV {R:WRecords}(xs:List WData):WShape.hasItems R xs .int=true->∃ l:List Int,xs=l.map .int:=by
 induction xs with
 |nil=>exact λ_=>⟨[],rfl⟩
 |cons x xs ih=>exact λh=>(ih (bC h).2).elim λl e=>(CT (bC h).1).elim λi q=>⟨i::l,e▸q▸rfl⟩
noncomputable def WI (P:Params)(h:Heap)(v:Value):WData->Prop
 |.int i=>∃ t,v=.int i t
 |.list xs=>∃ a vs,v=.ref a/\h.get? a=some { cls:=.type "list",data:=.seq vs.toArray }/\WellAll P h vs xs
 |_=>True
noncomputable def WA (P:Params)(h:Heap)(vs:List Value):List WData->Prop
 |[]=>vs=[]
 |d::ds=>∃ v ws,vs=v::ws/\Well P h v d/\WellAll P h ws ds
theorem AN {P:Params}{h:Heap}{v:Value}{d:WData}(w:Well P h v d):WI P h v d:=
 Well.casesOn (motive_1:=λv d _=>WI P h v d) w trivial (λ_=>trivial) (λ_ t=>⟨t,rfl⟩) (λ_ _=>trivial) (λ_ _=>trivial) (λ_ _=>trivial) (λ_=>trivial) (λa b=>⟨_,_,rfl,a,b⟩) (λ_ _=>trivial) (λ_ _=>trivial) (λ_ _ _ _=>trivial) (λ_ _ _ _=>trivial) (λ_ _ _ _=>trivial)
theorem nV {P:Params}{h:Heap}{vs:List Value}{ds:List WData}(w:WellAll P h vs ds):WA P h vs ds:=
 WellAll.casesOn (motive_2:=λvs ds _=>WA P h vs ds) w rfl (λa b=>⟨_,_,rfl,a,b⟩)
theorem xW {P:Params}{h:Heap}{F:bf}(l:List Int):∀ vs:List Value,WellAll P h vs (l.map .int)->Km F [] (l.map .int) vs:=by
 induction l with
 |nil=>exact λvs w=>(nV w:vs=[])▸.nil
 |cons i l ih=>
  intro vs w;refine cP (nV w) λv ws e a b=>?_;exact e▸(AN a).elim λt q=>q▸.cons (.int i t) (ih ws b)
theorem zB {ds:List WData}(h:(Challenge.rw_uc0064_01.row.toRowW).pre.holds (Challenge.rw_uc0064_01.row.toRowW).records { args:=[.list ds] }=true):ds.length<=63:=by
 by_cases q:ds.length<=63
 ·exact q
 ·exfalso;have e:(Challenge.rw_uc0064_01.row.toRowW).pre=.and (.not (.lt (.lit (.int 63)) (.len (.arg 0)))) (.lit (.bool true)):=rfl;rw[e]at h
  have l:PySem.W.less? (.int 63) (.int (ds.length:Nat))=some true:=by
   have:PySem.W.less? (.int 63) (.int (ds.length:Nat))=some (decide ((63:Int)<(ds.length:Nat))):=by simp only[PySem.W.less?,Num.less?]
   rw[this,decide_eq_true (by omega)]
  simp[WTm.holds,WTm.value,l]at h
theorem qd {K:Frag}{h:Heap}{c P:Addr}(X:K.In h)(e:codeHdIn K c P=true):isCodeTable h P:=by
 obtain⟨o,vs,_,_,_,_,_,_,_,a,b,d,f,_⟩:=codeHd_of_K X e;exact⟨c,o,vs,a,b,d,f⟩
theorem xX (P:Params):codeHdIn (hd.heap_39 P) 206 202=true/\codeHdIn (hd.heap_39 P) 213 209=true:=⟨by kernel_rfl,by kernel_rfl⟩
theorem FW:nm (zS 22)=ofString "law":=by decide +kernel
theorem CU {h h':Heap}{F':bf}{Kn:List Addr}{F:bf}(S:Step F [] [] h F' Kn h'){P:Params}(X:(hd.heap_39 P).In h)(t1:h.get? 202=some (tabObj #[]))(t2:h.get? 209=some (tabObj #[]))(u1:∃ ps,h'.get? 202=some (tabObj ps))(u2:∃ ps,h'.get? 209=some (tabObj ps)):OldK h h':=by
 refine⟨λb o e=>?_,λb o e=>S.dom b o e⟩;by_cases q1:b=202
 ·subst q1;refine aw u1 ?_;clear u1;intro ps u;rw[t1]at e;cases e;exact .inr (.inl ⟨qd X (xX P).1,rfl,#[],ps,rfl,by rw[u];simp[tabObj]⟩)
 ·by_cases q2:b=209
  ·subst q2;refine aw u2 ?_;clear u2;intro ps u;rw[t2]at e;cases e;exact .inr (.inl ⟨qd X (xX P).2,rfl,#[],ps,rfl,by rw[u];simp[tabObj]⟩)
  ·exact .inl (S.kept b o e (by simp) q1 q2 (by simp))
theorem zC {q:Program}{loose:List Str}{XP:(Str->Option Value)->Heap->Prop}{YP:World->Heap->Prop}{r:RowW}{d:DefRec}{kwd:List (Str×Expr)}
  (h:∀ w LQ Kt mg mb,Ground q loose r.records XP w LQ mg mb Kt.heap->YP w Kt.heap->∀ a,mg d.name=some (.ref a)->Kt.gens=#[]->∀ args vals,r.claim.pre args=true->WellAll w.params Kt.heap vals args ->
   wpAny (model r.prog w) callerA (call (.ref a) vals) (λv s'=>GoodWG r.claim (classAt LQ.heap) (ExcName.means LQ.heap) args Kt (.ok (.ret v)) s') (λe s'=>GoodWG r.claim (classAt LQ.heap) (ExcName.means LQ.heap) args Kt (.error e) s') Kt) :
  WalkO q loose XP YP r d kwd λf vs=>PySem.call f vs:=
 λw LQ Kt mg mb G Y a _ _ _ _ _ _ _ _ _ _ hmg hg args vals _ hp _ _ hW _=>h w LQ Kt mg mb G Y a hmg hg args vals hp hW
theorem zD {args:List WData}(h:(Challenge.rw_uc0064_01.row.toRowW).claim.pre args=true):∃ l:List Int,args=[.list (l.map .int)]/\l.length<=63:=by
 refine av (pre_splitW h) λKP hpr=>?_;refine cP (hasAllW_cons (e:=.list .int) (es:=[]) KP) λd r e h1 h2=>?_;have e:args=[d]:=hasAllW_nil h2▸e;clear KP h2
 cases d with
 |list xs=>
  refine(xV xs ((Bool.or_false _).symm.trans h1)).elim λl q=>⟨l,q▸e,?_⟩;have:=zB (ds:=xs) (e▸hpr);rw[q,length_map]at this;exact this
 |_=>exact absurd h1 Ly
theorem zE {P:Params}{h:Heap}{l:List Int}{vals:List Value}(w:WellAll P h vals [.list (l.map .int)]):∃ b vs,vals=[.ref b]/\h.get? b=some { cls:=.type "list",data:=.seq vs.toArray }/\WellAll P h vs (l.map .int):=by
 refine cP (nV w) λv ws e h1 h2=>?_;refine cP (AN h1) λb vs e1 g h3=>⟨b,vs,?_,g,h3⟩;rw[e,e1,show ws=[] from nV h2]
theorem FX {h:Heap}{ms:Str->Option Value}(hm:h.Ns 1 ms):∃ om,h.get? 1=some om:=let ⟨o,_,_,e,_⟩:=hm;⟨o,e⟩
end
end Mine.Internal
open PySem PySem.Spec PySem.Calls PyProof.Rows PySem.W PySem.SeqAt Mine.Internal
set_option maxHeartbeats 4000000 in
theorem PySem.Challenge.cw_uc0064_01_holds : PySem.Challenge.rw_uc0064_01.Holds := by
 refine hd (zC λw LQ Kt mg mb G Y a hmg hgens args vals hpre hWl=>?_);have X0:=km_in_of Y;have T:=km_tabs_of Y;have t1:Kt.heap.get? 202=some (tabObj #[]):=T 202 (by simp);have t2:Kt.heap.get? 209=some (tabObj #[]):=T 209 (by simp);refine uN G.T.bmain λbm ob b1 b2 b3 b4 b5 b6=>?_;refine ak G.T.nolimit λmc hc lim=>?_;refine ak (G.T.seer (by kernel_rfl)).2 λms hm _=>?_;refine aw (FX hm) λom h1=>?_;have hbm:bm=4:=Value.ref.inj (Option.some.inj (b1.symm.trans ((xU (IE w.params) X0 G.T.g "__builtins__").symm.trans (IF _))));have X:=IC X0 h1 (hbm▸b3);have hR0:=IG (mb:=mb) (mc:=mc) X G.T.g G.T.b hc lim t1 t2;have ha:Value.ref a=fv 22:=Option.some.inj (hmg.symm.trans ((xU (Jl w.params om ob) X G.T.g _).symm.trans (FW▸(glob w.params om ob mb mc G.T.builtins).fn 22 (by decide))));refine ak (zD hpre) λl ea Ko=>?_;refine cP (zE (ea▸hWl)) λb vs ev hget hall=>?_;have V:Km (F0 Kt.heap) [] [.lst (l.map .int)] [.ref b]:=.cons (.lst ⟨_,xR hget (λq=>nomatch (q▸hget).symm.trans t1) (λq=>nomatch (q▸hget).symm.trans t2)⟩ (xW l vs hall)) .nil;refine aw (Mine.Internal.P.Fg 0 l (Nat.le_trans Ko (by decide))) λKd hrun=>?_;have S:=uo (w:=w) (glob w.params om ob mb mc G.T.builtins) (FN w.params om ob mb mc) (FO w.params om ob mb mc ⟨b4,b5,b6⟩) 10 22 [.lst (l.map .int)] [] (.bool true) Kd hrun callerA (F0 Kt.heap) [] Kt [.ref b] ⟨rfl,by decide,by decide⟩ hR0 V;rw[ea,ev,ha];refine wpAny_mono (S (λv s'=>GoodWG (PySem.Challenge.rw_uc0064_01.row.toRowW).claim (classAt LQ.heap) (ExcName.means LQ.heap) [.list (l.map .int)] Kt (.ok (.ret v)) s') λF' Kn v' h' tk S1 R1 V1=>?_) (λ_ _ x=>x) λ_ _ x=>x.elim;rw[(V1.inv:v'=_)];exact⟨.inl ⟨.bool true,.bool true,[],rfl,λ_=>rfl,.bool true,by kernel_rfl,λ_=>⟨List.nodup_nil,λ_ m=>nomatch m⟩⟩,CU S1 X0 t1 t2 (let ⟨ps,e,_⟩:=R1.t1;⟨ps,e⟩) (let ⟨ps,e,_⟩:=R1.t2;⟨ps,e⟩),rfl,AllBare.of_eq hgens⟩
