import PyProof.Rows.All
import Wide.All
import OpenK.AllK
import Wide.FinOn
import PySem.Challenge.RW_uc0064_01
set_option Elab.async false
set_option maxRecDepth 100000
set_option linter.unusedVariables false
set_option linter.unusedSimpArgs false
set_option linter.unusedSectionVars false
set_option maxHeartbeats 8000000
set_option tactic.hygienic false
namespace PySem.W.Fast
theorem tw8347059164079553409:1=1:=rfl
theorem tw1554661150887613628:1=1:=rfl
theorem tw2914040511891196958:1=1:=rfl
theorem tw11689561709505951643:1=1:=rfl
theorem tw58157239090936061:1=1:=rfl
theorem tw7683075236182736748:1=1:=rfl
theorem tw5011833992309046219:1=1:=rfl
theorem tw4075235734104246549:1=1:=rfl
theorem tw1031044087786168402:1=1:=rfl
theorem tw15588497104382100041:1=1:=rfl
theorem tw13574542036879665473:1=1:=rfl
theorem tw8015022315712759706:1=1:=rfl
theorem tw4000565628904602799:1=1:=rfl
theorem tw1532492858966813174:1=1:=rfl
theorem tw15101474953865207117:1=1:=rfl
theorem tw4757380359205636657:1=1:=rfl
theorem tw7695469904454587728:1=1:=rfl
theorem tw13802795350517868455:1=1:=rfl
theorem tw15055108347165443912:1=1:=rfl
theorem tw6619575851767615138:1=1:=rfl
theorem tw18187196643172528865:1=1:=rfl
theorem tw1664525182060974751:1=1:=rfl
theorem tw13454666256952523266:1=1:=rfl
theorem tw2241378675380682784:1=1:=rfl
theorem tw3832094522231116085:1=1:=rfl
theorem tw17076845009251068349:1=1:=rfl
theorem tw6688520713660004553:1=1:=rfl
theorem tw13536257850545254216:1=1:=rfl
theorem tw2045330749376003669:1=1:=rfl
theorem tw13514543068775156721:1=1:=rfl
theorem tw8139105904870863278:1=1:=rfl
theorem tw12546123012864323739:1=1:=rfl
theorem tw7689633203858399647:1=1:=rfl
theorem tw4745205225307496108:1=1:=rfl
theorem tw8709525991264739288:1=1:=rfl
theorem tw11618260889086222789:1=1:=rfl
theorem tw4106664921097179148:1=1:=rfl
theorem tw18068913978902378484:1=1:=rfl
theorem tw17265668725271682620:1=1:=rfl
theorem tw3474158377602826171:1=1:=rfl
theorem tw18063041204949118212:1=1:=rfl
theorem tw10328013601798995013:1=1:=rfl
theorem tw3274686183395391721:1=1:=rfl
theorem tw3413986565089644268:1=1:=rfl
theorem tw10356996999043664619:1=1:=rfl
theorem tw8754579526692431100:1=1:=rfl
theorem tw7921677826277199153:1=1:=rfl
theorem tw11453396102873401687:1=1:=rfl
theorem tw8162424110392565431:1=1:=rfl
theorem tw3090207622875105442:1=1:=rfl
theorem tw16302967738775826846:1=1:=rfl
theorem tw10566339975336575156:1=1:=rfl
theorem tw4142840202314475714:1=1:=rfl
theorem tw2896878285529534947:1=1:=rfl
theorem tw16106166854664072332:1=1:=rfl
theorem tw16179071711213018804:1=1:=rfl
theorem tw13218787288768353302:1=1:=rfl
theorem tw11253654858782596999:1=1:=rfl
theorem tw1201819310670022578:1=1:=rfl
theorem tw1078092966223000019:1=1:=rfl
theorem tw18084338331575568944:1=1:=rfl
theorem tw11736717846565545518:1=1:=rfl
theorem tw12118536772468498286:1=1:=rfl
theorem tw11280408315915618033:1=1:=rfl
theorem tw4146710182001077880:1=1:=rfl
theorem tw877455648173649185:1=1:=rfl
theorem tw8006520988082339276:1=1:=rfl
theorem tw14576103421197235183:1=1:=rfl
theorem tw18051937808593121655:1=1:=rfl
theorem tw5721145010603415224:1=1:=rfl
theorem tw2901821865157026992:1=1:=rfl
theorem tw9234581789739354416:1=1:=rfl
theorem tw661329470871197348:1=1:=rfl
theorem tw5526563917120738016:1=1:=rfl
theorem tw13297820998888110193:1=1:=rfl
theorem tw7462260671635240455:1=1:=rfl
theorem tw18236108632705220967:1=1:=rfl
theorem tw8055706472976551345:1=1:=rfl
theorem tw2032967040731594917:1=1:=rfl
theorem tw16658361499126462108:1=1:=rfl
theorem tw3176238210213784044:1=1:=rfl
theorem tw1700095789689532173:1=1:=rfl
theorem tw10990031428611441406:1=1:=rfl
theorem tw8396421292167862327:1=1:=rfl
theorem tw12307670281554812868:1=1:=rfl
theorem tw2580451669301727108:1=1:=rfl
theorem tw91460741409293472:1=1:=rfl
theorem tw8226125794411317956:1=1:=rfl
theorem tw17767920767773080545:1=1:=rfl
theorem tw8987409155476300417:1=1:=rfl
theorem tw324682548199873871:1=1:=rfl
theorem tw15326383838318263307:1=1:=rfl
theorem tw7820901552219811094:1=1:=rfl
theorem tw9429250077834051058:1=1:=rfl
theorem tw13614428325576266679:1=1:=rfl
theorem tw3087800695804693275:1=1:=rfl
theorem tw582763417579604813:1=1:=rfl
theorem tw8527859860286989448:1=1:=rfl
theorem tw11609715013432240515:1=1:=rfl
theorem tw6392991025266031036:1=1:=rfl
theorem tw7265934134944952283:1=1:=rfl
theorem tw17182613062444967555:1=1:=rfl
theorem tw1422757324860467358:1=1:=rfl
theorem tw18156863286375133972:1=1:=rfl
theorem tw6798626383726120118:1=1:=rfl
theorem tw3750099100044371164:1=1:=rfl
theorem tw5751221287976085098:1=1:=rfl
theorem tw12226472103480246127:1=1:=rfl
theorem tw10876628668849548835:1=1:=rfl
theorem tw2259379550369786299:1=1:=rfl
theorem tw6197682792799786209:1=1:=rfl
theorem tw11815030491418909328:1=1:=rfl
theorem tw8804939465174606498:1=1:=rfl
theorem tw11047850578591824015:1=1:=rfl
theorem tw1211765029694287142:1=1:=rfl
theorem tw8110442594034371754:1=1:=rfl
theorem tw5680381962165715248:1=1:=rfl
theorem tw13584342036811482828:1=1:=rfl
theorem tw12544608275322320531:1=1:=rfl
theorem tw16088233762813818906:1=1:=rfl
theorem tw12419548342640408541:1=1:=rfl
theorem tw4172432272885016512:1=1:=rfl
theorem tw16560600164239721512:1=1:=rfl
theorem tw13460306829116527964:1=1:=rfl
theorem tw18097005965598761556:1=1:=rfl
theorem tw875403171608055234:1=1:=rfl
theorem tw2297118034728045064:1=1:=rfl
theorem tw13211364681090650440:1=1:=rfl
theorem tw7884304593264598531:1=1:=rfl
theorem tw253331659938224117:1=1:=rfl
theorem tw1286436182739778612:1=1:=rfl
theorem tw6651301832130780668:1=1:=rfl
theorem tw18001806168188281402:1=1:=rfl
theorem tw977453953605847933:1=1:=rfl
theorem tw8587450722706022481:1=1:=rfl
theorem tw7912559865132079138:1=1:=rfl
theorem tw14378002872937429917:1=1:=rfl
theorem tw4188753383416611533:1=1:=rfl
theorem tw17666070317341803648:1=1:=rfl
theorem tw17104069016767931548:1=1:=rfl
theorem tw18264405278369089061:1=1:=rfl
theorem tw15646512584508953551:1=1:=rfl
theorem tw4444376900329554855:1=1:=rfl
theorem tw8580930213057800282:1=1:=rfl
theorem tw15795934493376844700:1=1:=rfl
theorem tw398218539154042402:1=1:=rfl
theorem tw6622376991941675562:1=1:=rfl
theorem tw2847945449404371608:1=1:=rfl
theorem tw17606728395948146274:1=1:=rfl
theorem tw13234416667309219040:1=1:=rfl
theorem tw18144471631733227325:1=1:=rfl
theorem tw18211011244517291417:1=1:=rfl
theorem tw17489880687665381146:1=1:=rfl
theorem tw4787562589006448565:1=1:=rfl
theorem tw9752664278853352299:1=1:=rfl
theorem tw7488977345283108606:1=1:=rfl
theorem tw4908368751025044742:1=1:=rfl
theorem tw10497937713941739602:1=1:=rfl
theorem tw15974413851810220809:1=1:=rfl
theorem tw9697978703768501375:1=1:=rfl
theorem tw8719604969368748972:1=1:=rfl
theorem tw10399369810065609299:1=1:=rfl
theorem tw15906389838148237031:1=1:=rfl
theorem tw3007732794928452352:1=1:=rfl
theorem tw11568868220121604349:1=1:=rfl
theorem tw13917855118417693672:1=1:=rfl
theorem tw3347555926387804596:1=1:=rfl
theorem tw17430923167539302203:1=1:=rfl
theorem tw2775882350652854711:1=1:=rfl
theorem tw4647880884826932031:1=1:=rfl
theorem tw18153533742305383289:1=1:=rfl
theorem tw12505988642356849633:1=1:=rfl
theorem tw5339003735879325248:1=1:=rfl
theorem tw17539946790348055806:1=1:=rfl
theorem tw10211273020537653370:1=1:=rfl
theorem tw3577984189709248438:1=1:=rfl
theorem tw1619534257793929493:1=1:=rfl
theorem tw14322519828737443236:1=1:=rfl
theorem tw544691510436210092:1=1:=rfl
theorem tw6220887863483194993:1=1:=rfl
theorem tw268237319028814152:1=1:=rfl
theorem tw2791899183212552184:1=1:=rfl
theorem tw16448813614690117983:1=1:=rfl
theorem tw4024568452044467395:1=1:=rfl
theorem tw18052251586384923337:1=1:=rfl
theorem tw15544974426089983314:1=1:=rfl
theorem tw12978762212930875417:1=1:=rfl
theorem tw82794140796860313:1=1:=rfl
theorem tw9402497649041678217:1=1:=rfl
theorem tw13415777753562474225:1=1:=rfl
theorem tw17448074356728297938:1=1:=rfl
theorem tw779173166962684025:1=1:=rfl
theorem tw15489856589109520368:1=1:=rfl
theorem tw5942178212199898542:1=1:=rfl
theorem tw10711120837443615697:1=1:=rfl
theorem tw9791172841288925970:1=1:=rfl
theorem tw13137488625138627783:1=1:=rfl
theorem tw10674850006962655848:1=1:=rfl
theorem tw15448994070462036998:1=1:=rfl
theorem tw6653937322591688588:1=1:=rfl
theorem tw15606305078752154642:1=1:=rfl
theorem tw3783815370921859266:1=1:=rfl
theorem tw8470098212020595548:1=1:=rfl
theorem tw2398394478662280567:1=1:=rfl
theorem tw14444618986993315665:1=1:=rfl
theorem tw11604942852700585689:1=1:=rfl
theorem tw18177832724767861109:1=1:=rfl
theorem tw17994215044106837681:1=1:=rfl
theorem tw3809492636100821658:1=1:=rfl
theorem tw15806639708461747316:1=1:=rfl
theorem tw3475249778372912555:1=1:=rfl
theorem tw17255799041585258576:1=1:=rfl
theorem tw12706929650509625884:1=1:=rfl
theorem tw1189842966411611009:1=1:=rfl
theorem tw17888892028113470238:1=1:=rfl
theorem tw888105415448470482:1=1:=rfl
theorem tw6934651854527803664:1=1:=rfl
theorem tw4092791537675957603:1=1:=rfl
theorem tw11212880527346181183:1=1:=rfl
theorem tw6383412446642176960:1=1:=rfl
theorem tw5962161411086437587:1=1:=rfl
theorem tw6233525205836933719:1=1:=rfl
theorem tw6580811466868261931:1=1:=rfl
theorem tw6159647385617546160:1=1:=rfl
theorem tw3621314871126387851:1=1:=rfl
theorem tw3946021400556373732:1=1:=rfl
theorem tw1931876349032974702:1=1:=rfl
theorem tw14266869094377232470:1=1:=rfl
theorem tw1456114184466657520:1=1:=rfl
theorem tw4972565024431420028:1=1:=rfl
theorem tw13300708046337551552:1=1:=rfl
theorem tw7585162749627595054:1=1:=rfl
theorem tw13963494009557953802:1=1:=rfl
theorem tw5622493831694263290:1=1:=rfl
theorem tw14501275493888426429:1=1:=rfl
theorem tw16804485531107434652:1=1:=rfl
theorem tw14680136196107554930:1=1:=rfl
theorem tw7477231190677655838:1=1:=rfl
theorem tw2738187203360303610:1=1:=rfl
theorem tw3278205266486292471:1=1:=rfl
theorem tw15200876302297112823:1=1:=rfl
theorem tw11916170090111584396:1=1:=rfl
theorem tw13696313946745335615:1=1:=rfl
theorem tw11191950118600449026:1=1:=rfl
theorem tw3218466182105680961:1=1:=rfl
theorem tw1791416762549801159:1=1:=rfl
theorem tw11103893103482153001:1=1:=rfl
theorem tw9940971310307681620:1=1:=rfl
theorem tw15918133521647406811:1=1:=rfl
theorem tw6335648418555453846:1=1:=rfl
theorem tw11128193528498746089:1=1:=rfl
theorem tw14526026150565720003:1=1:=rfl
theorem tw14515037872464647658:1=1:=rfl
theorem tw11196428939031868582:1=1:=rfl
theorem tw1777468609638987768:1=1:=rfl
theorem tw11489515532018362193:1=1:=rfl
theorem tw11214478494454701346:1=1:=rfl
theorem tw4289265385839816710:1=1:=rfl
theorem tw2962395935493007301:1=1:=rfl
theorem tw14014625306950880344:1=1:=rfl
theorem tw17771935839113061422:1=1:=rfl
theorem tw642702904259772031:1=1:=rfl
theorem tw10650626610418826584:1=1:=rfl
theorem tw9258647649848427014:1=1:=rfl
theorem tw5981322547296791141:1=1:=rfl
theorem tw13503222563597884919:1=1:=rfl
theorem tw3552368552290982711:1=1:=rfl
theorem tw111880645107947066:1=1:=rfl
theorem tw1904736151887094490:1=1:=rfl
theorem tw15795541335138773200:1=1:=rfl
theorem tw7637988650368173385:1=1:=rfl
theorem tw4026361150047785330:1=1:=rfl
theorem tw14243004406596790988:1=1:=rfl
theorem tw7462498746659014835:1=1:=rfl
theorem tw6111891709796226065:1=1:=rfl
theorem tw10456347429367532000:1=1:=rfl
theorem tw3278290290407906113:1=1:=rfl
theorem tw10304513780430235059:1=1:=rfl
theorem tw1527454065661443593:1=1:=rfl
theorem tw15846949230119213872:1=1:=rfl
theorem tw1934474830872250924:1=1:=rfl
theorem tw1839156423606392946:1=1:=rfl
theorem tw9836233593934212366:1=1:=rfl
theorem tw1963538381651344694:1=1:=rfl
theorem tw7675413221090932898:1=1:=rfl
theorem tw2624715840520686280:1=1:=rfl
theorem tw12000443510711083657:1=1:=rfl
theorem tw300149526793321642:1=1:=rfl
theorem tw13761097758284722132:1=1:=rfl
theorem tw9467569737315315971:1=1:=rfl
theorem tw9918079130023078344:1=1:=rfl
theorem tw15901449079589726247:1=1:=rfl
theorem tw5124455571073796982:1=1:=rfl
theorem tw16711560253084086653:1=1:=rfl
theorem tw15013982903774179961:1=1:=rfl
theorem tw14766853691076079845:1=1:=rfl
theorem tw2931281250992250412:1=1:=rfl
theorem tw14465467664667496282:1=1:=rfl
theorem tw5232562703920487183:1=1:=rfl
theorem tw10184475428576297785:1=1:=rfl
theorem tw2749936884324204903:1=1:=rfl
theorem tw15524943165116384185:1=1:=rfl
theorem tw15149971217416985774:1=1:=rfl
theorem tw17795921736430196527:1=1:=rfl
theorem tw10765932934275471609:1=1:=rfl
theorem tw18086706155664992337:1=1:=rfl
theorem tw13793282708983885203:1=1:=rfl
theorem tw16403118370856953761:1=1:=rfl
theorem tw7503166068209714254:1=1:=rfl
theorem tw9025549806938759996:1=1:=rfl
theorem tw17428569680779755754:1=1:=rfl
theorem tw12414208913416094706:1=1:=rfl
theorem tw13614270740900475237:1=1:=rfl
theorem tw14994818917750739931:1=1:=rfl
theorem tw14717973561887209431:1=1:=rfl
theorem tw14919507176090611876:1=1:=rfl
theorem tw7696528321383399129:1=1:=rfl
theorem tw4360778928988540786:1=1:=rfl
theorem tw2285870616412280208:1=1:=rfl
theorem tw3604505731898362371:1=1:=rfl
theorem tw8231128971885614617:1=1:=rfl
theorem tw16868449673623776185:1=1:=rfl
theorem tw10907731608375943603:1=1:=rfl
theorem tw12401676749983948980:1=1:=rfl
theorem tw14969803078827770713:1=1:=rfl
theorem tw2838864486202759247:1=1:=rfl
theorem tw3382612814621276093:1=1:=rfl
theorem tw990931252279307787:1=1:=rfl
theorem tw1388751503470966096:1=1:=rfl
theorem tw4888722980473425863:1=1:=rfl
theorem tw14522388950212680682:1=1:=rfl
theorem tw10483243556115494686:1=1:=rfl
theorem tw1001965638251973727:1=1:=rfl
theorem tw16454472602511617863:1=1:=rfl
theorem tw17941732045894269390:1=1:=rfl
theorem tw2154862185570955385:1=1:=rfl
theorem tw4212023656366132535:1=1:=rfl
theorem tw1833865198610199178:1=1:=rfl
theorem tw899976061257650066:1=1:=rfl
theorem tw13891524431301157204:1=1:=rfl
theorem tw5620011848287487184:1=1:=rfl
theorem tw1320837809735666699:1=1:=rfl
theorem tw13755103079751923128:1=1:=rfl
theorem tw2238294160714041452:1=1:=rfl
theorem tw14867760062286009988:1=1:=rfl
theorem tw1769894272743102482:1=1:=rfl
theorem tw8401149526418014360:1=1:=rfl
theorem tw3876585131823816760:1=1:=rfl
theorem tw11761692716431900840:1=1:=rfl
theorem tw6689224333639849987:1=1:=rfl
theorem tw11986158549747164155:1=1:=rfl
theorem tw9416984214949368419:1=1:=rfl
theorem tw158934896996256981:1=1:=rfl
theorem tw6850710170036280739:1=1:=rfl
theorem tw4619115173307293696:1=1:=rfl
theorem tw13095645614351540544:1=1:=rfl
theorem tw14436950853312197031:1=1:=rfl
theorem tw4440539135079215949:1=1:=rfl
theorem tw511118332684090996:1=1:=rfl
theorem tw5730834048099734647:1=1:=rfl
theorem tw3464632532258807934:1=1:=rfl
theorem tw6116070709735540605:1=1:=rfl
theorem tw1777954598810769805:1=1:=rfl
theorem tw739066514077395285:1=1:=rfl
theorem tw14983064997232106422:1=1:=rfl
theorem tw7111770174345504417:1=1:=rfl
theorem tw13935933160832460294:1=1:=rfl
theorem tw13046678899391302559:1=1:=rfl
theorem tw5089674986408345449:1=1:=rfl
theorem tw8937447431639356789:1=1:=rfl
theorem tw12744436583321090507:1=1:=rfl
theorem tw813378397905591923:1=1:=rfl
theorem tw7704123655328064082:1=1:=rfl
theorem tw14867959319016725854:1=1:=rfl
theorem tw17056457055707099364:1=1:=rfl
theorem tw1980065951896258115:1=1:=rfl
theorem tw18167620069853891625:1=1:=rfl
theorem tw9938834178697147609:1=1:=rfl
theorem tw10242262236551743671:1=1:=rfl
theorem tw16654510364918703571:1=1:=rfl
theorem tw10201178418830026985:1=1:=rfl
theorem tw8571601627449800856:1=1:=rfl
theorem tw17117291781813485232:1=1:=rfl
theorem tw15898320115033130028:1=1:=rfl
theorem tw16189040206931158671:1=1:=rfl
theorem tw9285689952803490396:1=1:=rfl
theorem tw14871806890313424128:1=1:=rfl
theorem tw18327048493585942830:1=1:=rfl
theorem tw3043016604242672166:1=1:=rfl
theorem tw311586015040783667:1=1:=rfl
theorem tw17979037156647661981:1=1:=rfl
theorem tw18331093595086696233:1=1:=rfl
theorem tw10919388156878282825:1=1:=rfl
theorem tw15304884600075108685:1=1:=rfl
theorem tw9344916770594492334:1=1:=rfl
theorem tw15044740630299119802:1=1:=rfl
theorem tw10949959205426014345:1=1:=rfl
theorem tw7379757272993643881:1=1:=rfl
theorem tw563615760992729602:1=1:=rfl
theorem tw13871293111307107619:1=1:=rfl
theorem tw4296615728074171805:1=1:=rfl
theorem tw855434560546843602:1=1:=rfl
theorem tw9866285567755352235:1=1:=rfl
theorem tw4035640353118379288:1=1:=rfl
theorem tw7677465131592307135:1=1:=rfl
theorem tw14510263104193769299:1=1:=rfl
theorem tw7660085916273813719:1=1:=rfl
theorem tw5678261180762289619:1=1:=rfl
theorem tw11255234604675897277:1=1:=rfl
theorem tw4437262126047585601:1=1:=rfl
theorem tw3897583723091125048:1=1:=rfl
theorem tw17680921271749641934:1=1:=rfl
theorem tw658612902275622400:1=1:=rfl
theorem tw7745347264376203828:1=1:=rfl
theorem tw1681871025257683766:1=1:=rfl
theorem tw8736406239370430201:1=1:=rfl
theorem tw3856376934904737152:1=1:=rfl
theorem tw6532205619174807352:1=1:=rfl
theorem tw12501401135881535497:1=1:=rfl
theorem tw12962690914299428245:1=1:=rfl
theorem tw2494828111431418362:1=1:=rfl
theorem tw2995823921387779488:1=1:=rfl
theorem tw16788058337526325731:1=1:=rfl
theorem tw3664677545082290846:1=1:=rfl
theorem tw9541059021462611446:1=1:=rfl
theorem tw656218330950982011:1=1:=rfl
theorem tw5023044199919904293:1=1:=rfl
theorem tw1796173544536597292:1=1:=rfl
theorem tw16661546809545866551:1=1:=rfl
theorem tw8248656811817563581:1=1:=rfl
theorem tw14657845565013689149:1=1:=rfl
theorem tw3338804026849974828:1=1:=rfl
theorem tw10013439266357530407:1=1:=rfl
theorem tw14090991181246177143:1=1:=rfl
theorem tw4001420159964456138:1=1:=rfl
theorem tw16717189703698371389:1=1:=rfl
theorem tw13028511670584152017:1=1:=rfl
theorem tw7951875009579557839:1=1:=rfl
theorem tw10888272359287795784:1=1:=rfl
theorem tw372385613443182900:1=1:=rfl
theorem tw15595483654363401866:1=1:=rfl
theorem tw2243586947966460970:1=1:=rfl
theorem tw2061645441389136924:1=1:=rfl
theorem tw647127146382244174:1=1:=rfl
theorem tw1104941366043151200:1=1:=rfl
theorem tw15290111761823044219:1=1:=rfl
theorem tw9827017121075221181:1=1:=rfl
theorem tw5740485616304358338:1=1:=rfl
theorem tw5782607437453194434:1=1:=rfl
theorem tw4010209473641690001:1=1:=rfl
theorem tw1581891858971636217:1=1:=rfl
theorem tw9250920297822835951:1=1:=rfl
theorem tw18002454799260890332:1=1:=rfl
theorem tw10594862662836130705:1=1:=rfl
theorem tw5218440773356086744:1=1:=rfl
theorem tw2548167956617589948:1=1:=rfl
theorem tw4820736308352276186:1=1:=rfl
theorem tw10263041997622486449:1=1:=rfl
theorem tw6761523248562527071:1=1:=rfl
theorem tw7266113344499383119:1=1:=rfl
theorem tw14199742658836564867:1=1:=rfl
theorem tw9297346728685962471:1=1:=rfl
theorem tw17152611504239423325:1=1:=rfl
theorem tw13240250659479455829:1=1:=rfl
theorem tw17560824206610750927:1=1:=rfl
theorem tw13062008397336291217:1=1:=rfl
theorem tw12938302347109891096:1=1:=rfl
theorem tw10974355786039306589:1=1:=rfl
theorem tw2998465612958426428:1=1:=rfl
theorem tw18301331633704426468:1=1:=rfl
theorem tw15119416867582372862:1=1:=rfl
theorem tw12023297688784965082:1=1:=rfl
theorem tw8480862110343703005:1=1:=rfl
theorem tw15593160656894463572:1=1:=rfl
theorem tw7082820955908305712:1=1:=rfl
theorem tw17372776767684082753:1=1:=rfl
theorem tw15371976594130074419:1=1:=rfl
theorem tw17503532268026739442:1=1:=rfl
theorem tw12220213966974871122:1=1:=rfl
theorem tw4290480526838150066:1=1:=rfl
theorem tw6902729355081297415:1=1:=rfl
theorem tw11491057415393787343:1=1:=rfl
theorem tw18284724274667121029:1=1:=rfl
theorem tw9574436693961588341:1=1:=rfl
theorem tw4017298170930550832:1=1:=rfl
theorem tw455505504469828232:1=1:=rfl
theorem tw4240382028181187304:1=1:=rfl
theorem tw12786048141524348344:1=1:=rfl
theorem tw14917679961658978883:1=1:=rfl
theorem tw5338543551909291714:1=1:=rfl
theorem tw1285608350821578428:1=1:=rfl
end PySem.W.Fast
namespace Mine.Internal
section
open PySem PySem.W PyProof.Rows
open_top hd for PySem.Challenge.rw_uc0064_01
end
set_option genSizeOf false
set_option genInjectivity false
set_option bootstrap.genMatcherCode false
noncomputable section
open List (getElem?_append_left reverse_cons replicate getElem?_map getElem?_eq_getElem getD_eq_getElem?_getD mem_of_getElem? all_eq_true prefix_refl length_append mem_append prefix_append getElem?_append_right length_set getElem?_set_self getElem?_set_ne mem_map lookup_cons getElem_mem all_cons all_nil replicate_succ foldl_cons size_toArray mem_cons mem_singleton length_pos_iff length_map map_cons map_map map_congr_left isEmpty_iff findIdx?_cons forIn_cons nodup_cons filter_cons mem_filter mem_append_right append_assoc append_nil length_cons length_nil pairwise_cons not_mem_nil filterMap_cons length_reverse mem_reverse filter_congr nodup_nil mem_map_of_mem map_set set_set length_replicate ext_getElem? length_filter_le find?_cons_of_pos find?_cons_of_neg getElem?_append map_append cons_append foldr_cons getElem?_range count_eq_zero getElem?_replicate count_append sum_cons eq_of_mem_replicate filter_cons_of_pos filter_cons_of_neg count_cons_self count_cons_of_ne count_cons mem_range map_nil sum_nil nil_append range' range_eq_range' range'_succ length_singleton mem_range' mem_flatMap length_range length_take take_append_drop flatMap_cons find?)
open Nat (le_add_right le_refl lt_succ_of_le mod_lt lt_of_le_of_lt le_of_eq not_lt le_of_lt_succ le_of_succ_le le_trans div_add_mod two_mul add_assoc add_comm le_of_lt sub_self succ_pos lt_irrefl add_le_add le_add_left mod_mod div_add_mod' sub_add_cancel zero_mul zero_add div_le_self one_mul add_lt_add_left lt_of_lt_of_le mul_comm mul_add add_le_add_left lt_trans succ_le_succ add_mul mul_assoc zero_le mul_le_mul_right le_of_ble_eq_true mul_one mul_le_mul_left sub_le ne_of_gt ne_of_lt not_lt_of_le lt_succ_of_lt max_le not_succ_le_zero log2_lt beq_eq le_antisymm lt_succ_self le_succ succ_eq_add_one div_eq_of_lt pow_succ mul_zero pow_le_pow_right pow_pos mul_le_mul succ_mul pow_add div_lt_iff_lt_mul mod_eq_of_lt)
open Int (ofNat_lt ofNat_sub toNat natCast_nonneg ofNat fdiv_eq_ediv_of_nonneg ofNat_le toNat_natCast add_zero natAbs_natCast fmod_nonneg_of_pos fmod_lt_of_pos natCast_mul)
open Option (map_some getD_some isSome_iff_exists isNone_iff_eq_none isSome)
open Bool (and_eq_true false_eq_true eq_false_iff not_eq_true')
open Array (toList_append length_toList any_toList)
open PySem.F (slot_tuple_mul slot_int_rmul plainAttrs_list)
open PySem.Builtin.Int (intBits intTooBig)
open PySem.Str (ofString empty)
open PySem.Heap (lt_size get?_push_size size_push)
open PySem.Builtin (divisionGoesByPylong)
theorem LU:false=true->False:=Bool.false_ne_true
theorem LG {P:Prop}(h:false=true):P:=absurd h LU
theorem K7 {α:Type u}{a b:α}(h:some a=some b):a=b:=Option.some.inj h
section
set_option genCtorIdx false
theorem zR {x:Int}(h:0<=x):((x.toNat:Nat):Int)=x:=Int.toNat_of_nonneg h
theorem C6 {x:Int}{n:Nat}(h:0<=x)(k:x<n):x.toNat<n:=(Int.toNat_lt h).mpr k
theorem Gv {x:Int}{n:Nat}(h:0<n)(k:x<n):x.toNat<n:=match x,k with
 |.ofNat _,k=>ofNat_lt.mp k
 |.negSucc _,_=>h
theorem zS {x:Int}(h:0<=x):x/2=((x.toNat/2:Nat):Int):=match x,h with
 |.ofNat _,_=>rfl
 |.negSucc n,h=>((Int.negSucc_not_nonneg n).mp h).elim
theorem Gw {x:Int}{n:Nat}(h:x.natAbs<n):x<n:=Int.lt_of_le_of_lt Int.le_natAbs (ofNat_lt.mpr h)
theorem Dh {x:Int}{n:Nat}(h:x.natAbs<n):-(n:Int)<x:=Int.neg_lt_of_neg_lt (Gw ((Int.natAbs_neg x).symm▸h))
theorem yh {a b n:Nat}(h:a+b=n):(n:Int)-a=b:=h▸(ofNat_sub (le_add_right a b)).symm.trans (congrArg _ (Nat.add_sub_cancel_left ..))
theorem Gf {a b:Nat}:((a+b:Nat):Int)-a=b:=yh rfl
theorem JE {a b:Nat}:(((a:Int)+b)-a).toNat=b:=congrArg toNat Gf
theorem Gx {x y:Nat}:x<=x-y+y:=Nat.sub_le_iff_le_add.mp (le_refl _)
theorem yi {a:Nat}(h:a<3:=by assumption):a=0\/a=1\/a=2:=(by decide:∀ a:Fin 3,a.1=0\/a.1=1\/a.1=2) ⟨a,h⟩
theorem uP {a:Nat}(h:1<=a/\a<=6:=by assumption):a=1\/a=2\/a=3\/a=4\/a=5\/a=6:=(by decide:∀ a:Fin 7,1<=a.1->a.1=1\/a.1=2\/a.1=3\/a.1=4\/a.1=5\/a.1=6) ⟨a,lt_succ_of_le h.2⟩ h.1
theorem I0 {a:Nat}:a%2=0\/a%2=1:=Nat.mod_two_eq_zero_or_one a
theorem Gy {a:Nat}:a%4=0\/a%4=1\/a%4=2\/a%4=3:=(by decide:∀ a:Fin 4,a.1=0\/a.1=1\/a.1=2\/a.1=3) ⟨a%4,mod_lt _ (by decide)⟩
theorem JF {a b c d:Nat}(h:a+1+c<b+d):(a+c).succ<b+d:=lt_of_le_of_lt (le_of_eq (Nat.add_right_comm a c 1)) h
theorem Gz {j n:Nat}(h:j<n):(n:Int)-1-j=((n-1-j:Nat):Int):=
 ((ofNat_sub (Nat.le_sub_one_of_lt h)).trans (congrArg (·-(j:Int)) (ofNat_sub (Nat.one_le_of_lt h)))).symm
theorem I1 {i:Int}{n:Nat}(h0:0<=i)(h:i.toNat<n):((0<=if i<0 then i+n else i)/\(if i<0 then i+n else i)<n)/\(if i<0 then i+n else i).toNat=i.toNat:=by
 rw[if_neg (Int.not_lt.mpr h0)];exact⟨⟨h0,(Int.toNat_lt h0).mp h⟩,rfl⟩
theorem JG {i:Int}(h:0<=i/\i<2^62):-9223372036854775808<=i/\i<9223372036854775808:=⟨Int.le_trans (by decide) h.1,Int.lt_trans h.2 (by decide)⟩
theorem zK {i:Int}(h:-1000<=i)(k:i<=1000):-9223372036854775808<=i/\i<9223372036854775808:=⟨Int.le_trans (by decide) h,Int.lt_of_le_of_lt k (by decide)⟩
theorem JH {k:Int}(h:k<2^20/\-2^20<k):-9223372036854775808<=k/\k<9223372036854775808:=⟨Int.le_trans (by decide) (Int.le_of_lt h.2),Int.lt_trans h.1 (by decide)⟩
theorem GA {a:Int}{N:Nat}(h:a.natAbs<N)(k:a<0):0<=a+N/\a+N<N:=
 ⟨Int.le_of_lt (Int.add_left_neg (N:Int)▸Int.add_lt_add_right (Dh h) N),Int.lt_of_lt_of_le (Int.add_lt_add_right k N) (Int.le_of_eq (Int.zero_add _))⟩
theorem tj {x:Int}(h:x.natAbs<2^61):-2^62<=x:=Int.le_of_lt (Int.lt_of_le_of_lt (by decide) (Dh h))
theorem tm {x:Int}(h:x.natAbs<2^61):x<2^62:=Int.lt_trans (Gw h) (by decide)
theorem GB {b n:Nat}(h:¬ b<n):b-n+1=((b:Int)-n+1).toNat:=(rfl:_=(((b-n:Nat):Int)+1).toNat).trans (congrArg (λx:Int=>(x+1).toNat) (ofNat_sub (not_lt.mp h)))
theorem I2 {b n:Nat}:((b:Int)-n+1).toNat<=b+1:=Int.toNat_le.mpr (Int.add_le_add_right (Int.sub_le_self _ (natCast_nonneg _)) 1)
theorem GC {m z k:Nat}(h:z<m+1):k<=m↔k<=max m z:=(Nat.max_eq_left (le_of_lt_succ h)).symm▸Iff.rfl
theorem GD {m z k:Nat}(h:¬ z<m+1)(q:k<=max m z):k-(m+1)<z-(m+1)+1:=
 lt_succ_of_le (Nat.sub_le_sub_right (Nat.max_eq_right (le_of_succ_le (not_lt.mp h))▸q) _)
theorem GE {m z k:Nat}(h:¬ z<m+1)(q:¬ k<=max m z):¬ k-(m+1)<z-(m+1)+1:=λe=>
 q (le_trans ((Nat.sub_le_sub_iff_right (not_lt.mp h)).mp (le_of_lt_succ e)) (Nat.le_max_right ..))
theorem GF {m z k:Nat}(h:k<=m):k<=max m z:=le_trans h (Nat.le_max_left ..)
theorem GG {n z:Nat}(h:¬ z<n):n+(z-n+1)=max n (z+1):=(congrArg Nat.succ (Nat.add_sub_cancel' (not_lt.mp h))).trans (Nat.max_eq_right (Nat.le_succ_of_le (not_lt.mp h))).symm
theorem zT {w:Nat}:w-w/2=w/2\/w-w/2=w/2+1:=by
 have e:w=w/2+(w/2+w%2):=((div_add_mod w 2).symm.trans (congrArg (·+_) (two_mul _))).trans (add_assoc ..);have k:w-w/2=w/2+w%2:=Nat.sub_eq_of_eq_add (e.trans (add_comm ..));exact(Nat.mod_two_eq_zero_or_one w).elim (λh=>.inl (k.trans (congrArg _ h))) λh=>.inr (k.trans (congrArg _ h))
theorem GH {l M N:Nat}(h:N=M\/N=M+1):(l+(l+(M+N)))/2=l+M:=by
 have e:l+(l+(M+N))=2*(l+M)+(N-M):=by
  have:M<=N:=h.elim (λe=>le_of_eq e.symm) λe=>le_of_lt (Nat.lt_of_succ_le (le_of_eq e.symm));have q:N=M+(N-M):=(Nat.add_sub_cancel' this).symm
  calc l+(l+(M+N))=l+(l+(M+(M+(N-M)))):=by rw[← q]
   _=2*(l+M)+(N-M):=by rw[two_mul];simp only[add_assoc,Nat.add_left_comm]
 rw[e,Nat.mul_add_div (by decide)];have z:(N-M)/2=0:=h.elim (λe=>by rw[e,sub_self]) λe=>by rw[e,Nat.add_sub_cancel_left]
 exact congrArg (l+M+·) z
theorem GI {l M N:Nat}(h:N=M\/N=M+1):((l:Int)+((l+(M+N):Nat):Int))/2=((l+M:Nat):Int):=congrArg ofNat (GH h)
theorem zU {l M N:Nat}(k:0<M)(h:N=M\/N=M+1)(e:(l:Int)+1=((l+(M+N):Nat):Int)):False:=by
 have e:1=M+N:=Nat.add_left_cancel (ofNat.inj e);have hN:0<N:=h.elim (λq=>q▸k) λq=>q▸succ_pos _;exact lt_irrefl 1 (Nat.lt_of_lt_of_eq (add_le_add k hN) e.symm)
theorem JI {a n x:Nat}(hn:1<=n)(h:a=x):(x:Int)+n-1=((a+n-1:Nat):Int):=h▸(ofNat_sub (le_trans hn (le_add_left ..))).symm
theorem Di {a b c d e f g:Nat}(h1:a<=40)(h2:b<=40)(h3:c<=40)(h4:d<=40)(h5:e<=40)(h6:f<=40)(h7:g<=40):a+(b+(c+(d+(e+(f+(g+0))))))<=1000000:=
 le_trans (add_le_add h1 (add_le_add h2 (add_le_add h3 (add_le_add h4 (add_le_add h5 (add_le_add h6 h7)))))) (by decide)
theorem GJ {n:Nat}(h:n%2=1):n+1=2*((n+1)/2):=(Nat.mul_div_cancel' (Nat.dvd_of_mod_eq_zero (by rw[Nat.add_mod,h]))).symm
theorem GK (x:Nat):x/64*64+(64+x%64)%64=x:=by rw[Nat.add_mod_left,mod_mod,div_add_mod']
theorem Dj (x:Nat):x/64*64+x%64%64=x:=by rw[mod_mod,div_add_mod']
theorem GL {j M:Nat}(h:j<M):M=j+(1+(M-j-1)):=by
 rw[add_comm 1,sub_add_cancel (Nat.sub_pos_of_lt h),Nat.add_sub_cancel' (le_of_lt h)]
theorem Kv {x a:Int}(h:0<=x)(e:x.fdiv 2=a):a=((x.toNat/2:Nat):Int):=e.symm.trans ((fdiv_eq_ediv_of_nonneg _ (by decide)).trans (zS h))
theorem JJ {a x y z:Nat}(h:a+x=y+z):(a:Int)+((x:Int)-z)=y:=(Int.add_sub_assoc a x z).symm.trans ((congrArg (λt:Nat=>(t:Int)-z) h).trans (show((y+z:Nat):Int)-z=y from Int.add_sub_cancel (y:Int) z))
theorem GM {x y b:Nat}(h:x<b):(x:Int)-y<b:=Int.lt_of_le_of_lt (Int.sub_le_self _ (natCast_nonneg _)) (ofNat_lt.mpr h)
theorem GN {c y t b:Nat}{r:Int}(e:(c:Int)+r=y)(h:y<t)(k:c+b=t):r<b:=Int.lt_of_add_lt_add_left (a:=c) (Int.lt_of_le_of_lt (Int.le_of_eq e) (Int.lt_of_lt_of_le (ofNat_lt.mpr h) (Int.le_of_eq (congrArg ofNat k.symm))))
theorem Dk {x z b:Nat}(h:z<=2*b):0<=((x:Int)-z)+2*(b:Int):=by
 show(0:Int)<=(x:Int)+-(z:Int)+2*b;rw[Int.add_assoc,Int.add_comm (-(z:Int))];exact Int.add_nonneg (natCast_nonneg x) (Int.sub_nonneg_of_le (ofNat_le.mpr h))
theorem GO {f X:Nat}(h:f<2*X):0*X+f/2<2*X:=by rw[zero_mul,zero_add];exact lt_of_le_of_lt (div_le_self ..) h
theorem GP {f X:Nat}(h:f<2*X):1*X+f/2<2*X:=by rw[one_mul,two_mul];exact add_lt_add_left (Nat.div_lt_of_lt_mul h) _
theorem JK {x:Int}{p:Nat}(h:p<=3)(h0:0<=x)(hx:x<4-(p:Int)):x.toNat<4-p:=C6 h0 (Int.lt_of_lt_of_le hx (Int.le_of_eq (ofNat_sub (Nat.le_succ_of_le h)).symm))
theorem JL {k m r:Nat}(hk:k<m)(hm:m<=100)(e:r=1+1*k):1<=r/\r<1000:=by
 subst e;rw[one_mul];exact⟨le_add_right ..,lt_of_lt_of_le (add_lt_add_left (lt_of_lt_of_le hk hm) 1) (by decide)⟩
theorem qj {a b c:Nat}(h:a<=b)(e:b=c):a<=c:=e▸h
theorem JM {x:Int}(h:x+1=0):x=-1:=(Int.add_sub_cancel x 1).symm.trans (congrArg (·-1) h)
theorem JN {c:Nat}(h:c<128):0<=(c:Int)+128/\(c:Int)+128<256:=⟨Int.add_nonneg (natCast_nonneg c) (by decide),Int.add_lt_add_right (ofNat_lt.mpr h) 128⟩
theorem GQ {l:Int}{n:Nat}(h:l<n)(k:n<1000):l<2^62:=Int.lt_trans h (Int.lt_trans (ofNat_lt.mpr k) (by decide))
theorem GR {a n:Nat}:(a:Int)-n<=4000↔a<=n+4000:=Int.sub_right_le_iff_le_add.trans ((Int.add_comm 4000 (n:Int)).symm▸ofNat_le (n:=n+4000))
theorem GS {p:Nat}(h:p<=3):(0:Int)<4-p:=Int.sub_pos_of_lt (ofNat_lt.mpr (lt_succ_of_le h))
theorem JO {w K:Nat}(h:w<=K*2):w-w/2<=K:=by
 have e:w-w/2+w/2=w:=sub_add_cancel (div_le_self ..);refine(zT (w:=w)).elim (λq=>?_) λq=>?_
 ·rw[q];exact Nat.div_le_of_le_mul (mul_comm K 2▸h)
 ·rw[q]at e ⊢;exact Nat.lt_of_mul_lt_mul_right (a:=2) (lt_of_lt_of_le (Nat.lt_of_succ_le (le_of_eq ((congrArg Nat.succ (Nat.mul_two _)).trans ((Nat.add_right_comm (w/2) (w/2) 1).trans e)))) h)
theorem JP {a J S L:Nat}(h:J<=S+2*L):a+2+J<=a+S+2*(L+1):=by
 rw[mul_add,add_assoc,add_assoc a S,add_comm 2 J,← add_assoc S];exact add_le_add_left (Nat.add_le_add_right h 2) a
theorem Dl {O V U l k:Int}(h1:0<=l/\l<=O-V)(h2:0<=k/\k<=U+-1*(O-V)+(-1+0)):V<=O/\O<V+U:=by omega
theorem I3 {a b:Nat}(h:a<1000000)(k:b<1000000):a<2^61/\b<2^61:=⟨lt_trans h (by decide),lt_trans k (by decide)⟩
theorem GT {k n a:Nat}(h:¬ a=k)(q:a<=k/\k<a+(n+1)):a+1<=k/\k<a+1+n:=⟨Nat.lt_of_le_of_ne q.1 h,by rw[add_assoc,add_comm 1];exact q.2⟩
theorem GU {k n a:Nat}(q:¬ (a<=k/\k<a+(n+1))):¬ (a+1<=k/\k<a+1+n):=λe=>q ⟨le_of_succ_le e.1,by rw[add_comm n,← add_assoc];exact e.2⟩
theorem zV {x:Int}(h:x<=100):x.toNat+1<1000000:=lt_of_le_of_lt (succ_le_succ (Int.toNat_le.mpr h)) (by decide)
theorem JQ {r:Nat}(h:r<=6):-1000<=(r:Int)/\(r:Int)<=1000:=⟨Int.le_trans (by decide) (natCast_nonneg _),ofNat_le.mpr (le_trans h (by decide))⟩
theorem JR {lo hi:Int}(h:¬ lo<hi):0=((hi-lo).toNat:Int)-((0:Nat):Int):=(congrArg (λn:Nat=>(n:Int)-((0:Nat):Int)) (Int.toNat_eq_zero.mpr (Int.sub_nonpos_of_le (Int.not_lt.mp h)))).symm
theorem zy {y:Nat}(h:¬ (y<32\/y=127)):(32<=y\/y=9)/\¬ y=127:=⟨.inl (not_lt.mp λe=>h (.inl e)),λe=>h (.inr e)⟩
inductive LX where
 |v (i:Nat)
 |n (k:Nat)
 |a (x y:LX)
 |m (k:Nat) (x:LX)
 |r (k:Nat) (x:LX)
noncomputable def LX.ev (c:List Nat)(x:LX):Nat:=LX.rec (λi=>c.getD i 0) (λk=>k) (λ_ _ a b=>a+b) (λk _ a=>k*a) (λk _ a=>a*k) x
noncomputable def ir:List Nat->List Nat->List Nat
 |[],m=>m
 |l,[]=>l
 |a::l,b::m=>(a+b)::ir l m
noncomputable def yc (k:Nat):List Nat->List Nat
 |[]=>[]
 |a::l=>(k*a)::yc k l
noncomputable def Gg:List Nat->List Nat->Bool
 |[],_=>true
 |a::l,[]=>Nat.beq a 0&&Gg l []
 |a::l,b::m=>Nat.ble a b&&Gg l m
noncomputable def GV:Nat->List Nat
 |0=>[1]
 |i+1=>0::GV i
noncomputable def mP:List Nat->List Nat->Nat
 |[],_=>0
 |_,[]=>0
 |a::l,x::c=>a*x+mP l c
noncomputable def LX.co (x:LX):List Nat:=LX.rec (λi=>GV (i+1)) (λk=>[k]) (λ_ _ a b=>ir a b) (λk _ a=>yc k a) (λk _ a=>yc k a) x
structure LR where
 e:Nat
 m:Nat
 l:LX
 r:LX
noncomputable def LR.hd (c:List Nat)(x:LR):Prop:=cond (Nat.beq x.e 0) (x.l.ev c<=x.r.ev c) (x.l.ev c=x.r.ev c)
noncomputable def Gh {α:Type}(s:Nat)(k:Nat->Nat->α):α:=k (s/16%16^(s%16)) (s/16/16^(s%16))
noncomputable def Dm {α:Type}(f:Nat):Nat->(LX->Nat->α)->α:=Nat.rec (λs k=>k (.n 0) s) (λ_ d s k=>
 cond (Nat.beq (s%16) 0) (d (s/16) λx s=>d s λy s=>k (.a x y) s) (cond (Nat.beq (s%16) 1) (Gh (s/16) λn s=>k (.n n) s)
  (cond (Nat.beq (s%16) 2) (Gh (s/16) λn s=>d s λx s=>k (.m n x) s) (cond (Nat.beq (s%16) 3) (Gh (s/16) λn s=>d s λx s=>k (.r n x) s) (k (.v (s%16-4)) (s/16)))))) f
noncomputable def yj (n:Nat):Nat->List LR:=Nat.rec (λ_=>[]) (λ_ d s=>Gh (s/16) λm t=>Dm 16 t λl t=>Dm 16 t λr t=>⟨s%16,m,l,r⟩::d t) n
noncomputable def cA (s i:Nat):LR:=(yj (s%16) (s/16)).getD i ⟨0,0,.n 0,.n 0⟩
noncomputable def mQ:List LR->List Nat×List Nat
 |[]=>([1],[0])
 |x::r=>cond (Nat.beq x.e 2) (ir (yc x.m x.l.co) (mQ r).1,ir (yc x.m x.r.co) (mQ r).2) (ir (yc x.m x.r.co) (mQ r).1,ir (yc x.m x.l.co) (mQ r).2)
noncomputable def Dn:List LR->Bool
 |[]=>false
 |g::r=>Gg (ir (yc g.m g.l.co) (mQ r).1) (ir (yc g.m (ir g.r.co [1])) (mQ r).2)
theorem Gi:∀ l:List Nat,mP l []=0
 |[]=>rfl
 |_::_=>rfl
theorem dY:∀ l m c:List Nat,mP (ir l m) c=mP l c+mP m c
 |[],m,c=>(zero_add _).symm
 |a::l,[],c=>(Nat.add_zero _).symm
 |a::l,b::m,[]=>rfl
 |a::l,b::m,x::c=>(congrArg ((a+b)*x+·) (dY l m c)).trans ((congrArg (·+_) (add_mul ..)).trans (Nat.add_add_add_comm ..))
theorem fG (k:Nat):∀ l c:List Nat,mP (yc k l) c=k*mP l c
 |[],c=>rfl
 |a::l,[]=>rfl
 |a::l,x::c=>(congrArg (k*a*x+·) (fG k l c)).trans ((congrArg (·+_) (mul_assoc ..)).trans (mul_add ..).symm)
theorem uQ:∀ (i:Nat) (c:List Nat),mP (GV i) c=c.getD i 0
 |0,[]=>rfl
 |i+1,[]=>rfl
 |0,x::c=>one_mul x
 |i+1,x::c=>(congrArg (0*x+·) (uQ i c)).trans (by rw[zero_mul,zero_add];rfl)
theorem qk:∀ {l m:List Nat} (c:List Nat),Gg l m=true->mP l c<=mP m c
 |[],m,c,_=>zero_le _
 |a::l,m,[],_=>zero_le _
 |a::l,[],x::c,h=>by
  have h:=(and_eq_true ..).mp h;have h1:a=0:=Nat.eq_of_beq_eq_true h.1;have h2:=qk (m:=[]) c h.2;show a*x+mP l c<=0;rw[h1,zero_mul,zero_add];exact h2
 |a::l,b::m,x::c,h=>by
  have h:=(and_eq_true ..).mp h;exact add_le_add (mul_le_mul_right x (le_of_ble_eq_true h.1)) (qk c h.2)
theorem LX.ok (c:List Nat)(x:LX):mP x.co (1::c)=x.ev c:=by
 induction x with
 |v i=>exact uQ (i+1) (1::c)
 |n k=>exact mul_one k
 |a x y i j=>exact(dY ..).trans (i▸j▸rfl)
 |m k x i=>exact(fG ..).trans (i▸rfl)
 |r k x i=>exact(fG ..).trans (i▸mul_comm ..)
theorem yk {c:List Nat}:∀ {r:List LR},(∀ i,i<r.length->(r.getD i ⟨0,0,.n 0,.n 0⟩).hd c)->mP (mQ r).2 (1::c)+1<=mP (mQ r).1 (1::c):=by
 intro r
 induction r with
 |nil=>
  intro _;exact le_refl _
 |cons x r ih=>
  intro h;have ih:=ih λi hi=>h (i+1) (Nat.succ_lt_succ hi);have h0:x.hd c:=h 0 (succ_pos _);unfold mQ
  cases e:Nat.beq x.e 2 with
  |true=>
   have q:x.r.ev c<=x.l.ev c:=by
    unfold LR.hd at h0;rw[Nat.eq_of_beq_eq_true e]at h0;exact le_of_eq (Eq.symm h0)
   show mP (ir _ _) _+1<=mP (ir _ _) _;rw[dY,dY,fG,fG,LX.ok,LX.ok,add_assoc];exact add_le_add (mul_le_mul_left _ q) ih
  |false=>
   have q:x.l.ev c<=x.r.ev c:=by
    unfold LR.hd at h0
    cases e2:Nat.beq x.e 0 with
    |true=>rw[e2]at h0;exact h0
    |false=>rw[e2]at h0;exact le_of_eq h0
   show mP (ir _ _) _+1<=mP (ir _ _) _;rw[dY,dY,fG,fG,LX.ok,LX.ok,add_assoc];exact add_le_add (mul_le_mul_left _ q) ih
theorem Do {c:List Nat}:∀ {R:List LR},Dn R=true->(∀ i,i<R.length-1->(R.getD (i+1) ⟨0,0,.n 0,.n 0⟩).hd c)->(R.getD 0 ⟨0,0,.n 0,.n 0⟩).l.ev c<=(R.getD 0 ⟨0,0,.n 0,.n 0⟩).r.ev c
 |[],h,_=>nomatch h
 |g::r,h,k=>by
  have h1:=qk (1::c) h;have h2:=yk (c:=c) (r:=r) k;rw[dY,dY,fG,fG,dY,LX.ok,LX.ok]at h1
  have h3:g.m*g.l.ev c+1<=g.m*(g.r.ev c+mP [1] (1::c)):=by
   have:=le_trans (add_le_add_left h2 _) h1;rw[← add_assoc,Nat.add_right_comm]at this;exact Nat.le_of_add_le_add_right this
  exact le_of_lt_succ (Nat.lt_of_mul_lt_mul_left (a:=g.m) h3)
noncomputable def n5 (s n:Nat):Bool:=Dn (yj (s%16) (s/16))&&Nat.beq (yj (s%16) (s/16)).length (n+1)
theorem qn {s n:Nat}{c:List Nat}(k:n5 s n=true)(h:∀ i,i<n->(cA s (i+1)).hd c):(cA s 0).l.ev c<=(cA s 0).r.ev c:=by
 have k:=(and_eq_true ..).mp k;have e:(yj (s%16) (s/16)).length=n+1:=Nat.eq_of_beq_eq_true k.2;exact Do k.1 λi hi=>h i (by rw[e]at hi;exact hi)
theorem Q0 (s:Nat)(c:List Nat)(k:n5 s 0=true):(cA s 0).l.ev c<=(cA s 0).r.ev c:=qn k (λi hi=>absurd hi (Nat.not_lt_zero i))
theorem Q1 (s:Nat)(c:List Nat)(h1:(cA s 1).hd c)(k:n5 s 1=true):(cA s 0).l.ev c<=(cA s 0).r.ev c:=qn k (λi=>match i with
 |0=>λ_=>h1
 |i+1=>λhi=>absurd hi (not_lt.mpr (le_add_left ..)))
theorem Q2 (s:Nat)(c:List Nat)(h1:(cA s 1).hd c)(h2:(cA s 2).hd c)(k:n5 s 2=true):(cA s 0).l.ev c<=(cA s 0).r.ev c:=qn k (λi=>match i with
 |0=>λ_=>h1
 |1=>λ_=>h2
 |i+2=>λhi=>absurd hi (not_lt.mpr (le_add_left ..)))
theorem Q3 (s:Nat)(c:List Nat)(h1:(cA s 1).hd c)(h2:(cA s 2).hd c)(h3:(cA s 3).hd c)(k:n5 s 3=true):(cA s 0).l.ev c<=(cA s 0).r.ev c:=qn k (λi=>match i with
 |0=>λ_=>h1
 |1=>λ_=>h2
 |2=>λ_=>h3
 |i+3=>λhi=>absurd hi (not_lt.mpr (le_add_left ..)))
theorem Q4 (s:Nat)(c:List Nat)(h1:(cA s 1).hd c)(h2:(cA s 2).hd c)(h3:(cA s 3).hd c)(h4:(cA s 4).hd c)(k:n5 s 4=true):(cA s 0).l.ev c<=(cA s 0).r.ev c:=qn k (λi=>match i with
 |0=>λ_=>h1
 |1=>λ_=>h2
 |2=>λ_=>h3
 |3=>λ_=>h4
 |i+4=>λhi=>absurd hi (not_lt.mpr (le_add_left ..)))
theorem Q5 (s:Nat)(c:List Nat)(h1:(cA s 1).hd c)(h2:(cA s 2).hd c)(h3:(cA s 3).hd c)(h4:(cA s 4).hd c)(h5:(cA s 5).hd c)(k:n5 s 5=true):(cA s 0).l.ev c<=(cA s 0).r.ev c:=qn k (λi=>match i with
 |0=>λ_=>h1
 |1=>λ_=>h2
 |2=>λ_=>h3
 |3=>λ_=>h4
 |4=>λ_=>h5
 |i+5=>λhi=>absurd hi (not_lt.mpr (le_add_left ..)))
theorem Q6 (s:Nat)(c:List Nat)(h1:(cA s 1).hd c)(h2:(cA s 2).hd c)(h3:(cA s 3).hd c)(h4:(cA s 4).hd c)(h5:(cA s 5).hd c)(h6:(cA s 6).hd c)(k:n5 s 6=true):(cA s 0).l.ev c<=(cA s 0).r.ev c:=qn k (λi=>match i with
 |0=>λ_=>h1
 |1=>λ_=>h2
 |2=>λ_=>h3
 |3=>λ_=>h4
 |4=>λ_=>h5
 |5=>λ_=>h6
 |i+6=>λhi=>absurd hi (not_lt.mpr (le_add_left ..)))
@[elab_as_elim] theorem sbr {α:Sort u}{a b:α}{P:α->Prop}(p:P b)(h:a=b):P a:=h▸p
@[elab_as_elim] theorem sb {α:Sort u}{a b:α}{P:α->Prop}(p:P b)(h:b=a):P a:=h▸p
theorem av  {p0 p1:Prop}{q:Prop}(h:p0/\p1)(k:p0->p1->q):q:=k h.1 h.2
theorem aw {t0:Sort u0}{p0:t0->Prop}{q:Prop}(h:∃ x0,p0 x0)(k:∀ x0,p0 x0->q):q:=h.elim λx0 h=>k x0 h
theorem mR  {p0 p1 p2:Prop}{q:Prop}(h:p0/\p1/\p2)(k:p0->p1->p2->q):q:=k h.1 h.2.1 h.2.2
theorem ak {t0:Sort u0}{p0 p1:t0->Prop}{q:Prop}(h:∃ x0,p0 x0/\p1 x0)(k:∀ x0,p0 x0->p1 x0->q):q:=h.elim λx0 h=>k x0 h.1 h.2
theorem n6 {t0:Sort u0}{t1:Sort u1}{p0:t0->t1->Prop}{q:Prop}(h:∃ x0,∃ x1,p0 x0 x1)(k:∀ x0 x1,p0 x0 x1->q):q:=h.elim λx0 h=>h.elim λx1 h=>k x0 x1 h
theorem gS  {p0 p1 p2 p3:Prop}{q:Prop}(h:p0/\p1/\p2/\p3)(k:p0->p1->p2->p3->q):q:=k h.1 h.2.1 h.2.2.1 h.2.2.2
theorem cV {t0:Sort u0}{p0 p1 p2:t0->Prop}{q:Prop}(h:∃ x0,p0 x0/\p1 x0/\p2 x0)(k:∀ x0,p0 x0->p1 x0->p2 x0->q):q:=h.elim λx0 h=>k x0 h.1 h.2.1 h.2.2
theorem dh {t0:Sort u0}{t1:Sort u1}{p0 p1:t0->t1->Prop}{q:Prop}(h:∃ x0,∃ x1,p0 x0 x1/\p1 x0 x1)(k:∀ x0 x1,p0 x0 x1->p1 x0 x1->q):q:=h.elim λx0 h=>h.elim λx1 h=>k x0 x1 h.1 h.2
theorem tn {t0:Sort u0}{t1:Sort u1}{t2:Sort u2}{p0:t0->t1->t2->Prop}{q:Prop}(h:∃ x0,∃ x1,∃ x2,p0 x0 x1 x2)(k:∀ x0 x1 x2,p0 x0 x1 x2->q):q:=h.elim λx0 h=>h.elim λx1 h=>h.elim λx2 h=>k x0 x1 x2 h
theorem Dp  {p0 p1 p2 p3 p4:Prop}{q:Prop}(h:p0/\p1/\p2/\p3/\p4)(k:p0->p1->p2->p3->p4->q):q:=k h.1 h.2.1 h.2.2.1 h.2.2.2.1 h.2.2.2.2
theorem yl {t0:Sort u0}{p0 p1 p2 p3:t0->Prop}{q:Prop}(h:∃ x0,p0 x0/\p1 x0/\p2 x0/\p3 x0)(k:∀ x0,p0 x0->p1 x0->p2 x0->p3 x0->q):q:=h.elim λx0 h=>k x0 h.1 h.2.1 h.2.2.1 h.2.2.2
theorem cP {t0:Sort u0}{t1:Sort u1}{p0 p1 p2:t0->t1->Prop}{q:Prop}(h:∃ x0,∃ x1,p0 x0 x1/\p1 x0 x1/\p2 x0 x1)(k:∀ x0 x1,p0 x0 x1->p1 x0 x1->p2 x0 x1->q):q:=h.elim λx0 h=>h.elim λx1 h=>k x0 x1 h.1 h.2.1 h.2.2
theorem ym {t0:Sort u0}{t1:Sort u1}{t2:Sort u2}{p0 p1:t0->t1->t2->Prop}{q:Prop}(h:∃ x0,∃ x1,∃ x2,p0 x0 x1 x2/\p1 x0 x1 x2)(k:∀ x0 x1 x2,p0 x0 x1 x2->p1 x0 x1 x2->q):q:=h.elim λx0 h=>h.elim λx1 h=>h.elim λx2 h=>k x0 x1 x2 h.1 h.2
theorem Dq  {p0 p1 p2 p3 p4 p5:Prop}{q:Prop}(h:p0/\p1/\p2/\p3/\p4/\p5)(k:p0->p1->p2->p3->p4->p5->q):q:=k h.1 h.2.1 h.2.2.1 h.2.2.2.1 h.2.2.2.2.1 h.2.2.2.2.2
theorem yn {t0:Sort u0}{t1:Sort u1}{p0 p1 p2 p3:t0->t1->Prop}{q:Prop}(h:∃ x0,∃ x1,p0 x0 x1/\p1 x0 x1/\p2 x0 x1/\p3 x0 x1)(k:∀ x0 x1,p0 x0 x1->p1 x0 x1->p2 x0 x1->p3 x0 x1->q):q:=h.elim λx0 h=>h.elim λx1 h=>k x0 x1 h.1 h.2.1 h.2.2.1 h.2.2.2
theorem kg {t0:Sort u0}{t1:Sort u1}{t2:Sort u2}{p0 p1 p2:t0->t1->t2->Prop}{q:Prop}(h:∃ x0,∃ x1,∃ x2,p0 x0 x1 x2/\p1 x0 x1 x2/\p2 x0 x1 x2)(k:∀ x0 x1 x2,p0 x0 x1 x2->p1 x0 x1 x2->p2 x0 x1 x2->q):q:=h.elim λx0 h=>h.elim λx1 h=>h.elim λx2 h=>k x0 x1 x2 h.1 h.2.1 h.2.2
theorem Dr {t0:Sort u0}{t1:Sort u1}{t2:Sort u2}{t3:Sort u3}{p0 p1:t0->t1->t2->t3->Prop}{q:Prop}(h:∃ x0,∃ x1,∃ x2,∃ x3,p0 x0 x1 x2 x3/\p1 x0 x1 x2 x3)(k:∀ x0 x1 x2 x3,p0 x0 x1 x2 x3->p1 x0 x1 x2 x3->q):q:=h.elim λx0 h=>h.elim λx1 h=>h.elim λx2 h=>h.elim λx3 h=>k x0 x1 x2 x3 h.1 h.2
theorem GW  {p0 p1 p2 p3 p4 p5 p6:Prop}{q:Prop}(h:p0/\p1/\p2/\p3/\p4/\p5/\p6)(k:p0->p1->p2->p3->p4->p5->p6->q):q:=k h.1 h.2.1 h.2.2.1 h.2.2.2.1 h.2.2.2.2.1 h.2.2.2.2.2.1 h.2.2.2.2.2.2
theorem yo {t0:Sort u0}{t1:Sort u1}{p0 p1 p2 p3 p4:t0->t1->Prop}{q:Prop}(h:∃ x0,∃ x1,p0 x0 x1/\p1 x0 x1/\p2 x0 x1/\p3 x0 x1/\p4 x0 x1)(k:∀ x0 x1,p0 x0 x1->p1 x0 x1->p2 x0 x1->p3 x0 x1->p4 x0 x1->q):q:=h.elim λx0 h=>h.elim λx1 h=>k x0 x1 h.1 h.2.1 h.2.2.1 h.2.2.2.1 h.2.2.2.2
theorem mS {t0:Sort u0}{t1:Sort u1}{t2:Sort u2}{p0 p1 p2 p3:t0->t1->t2->Prop}{q:Prop}(h:∃ x0,∃ x1,∃ x2,p0 x0 x1 x2/\p1 x0 x1 x2/\p2 x0 x1 x2/\p3 x0 x1 x2)(k:∀ x0 x1 x2,p0 x0 x1 x2->p1 x0 x1 x2->p2 x0 x1 x2->p3 x0 x1 x2->q):q:=h.elim λx0 h=>h.elim λx1 h=>h.elim λx2 h=>k x0 x1 x2 h.1 h.2.1 h.2.2.1 h.2.2.2
theorem GX  {p0 p1 p2 p3 p4 p5 p6 p7:Prop}{q:Prop}(h:p0/\p1/\p2/\p3/\p4/\p5/\p6/\p7)(k:p0->p1->p2->p3->p4->p5->p6->p7->q):q:=k h.1 h.2.1 h.2.2.1 h.2.2.2.1 h.2.2.2.2.1 h.2.2.2.2.2.1 h.2.2.2.2.2.2.1 h.2.2.2.2.2.2.2
theorem uR {t0:Sort u0}{t1:Sort u1}{p0 p1 p2 p3 p4 p5:t0->t1->Prop}{q:Prop}(h:∃ x0,∃ x1,p0 x0 x1/\p1 x0 x1/\p2 x0 x1/\p3 x0 x1/\p4 x0 x1/\p5 x0 x1)(k:∀ x0 x1,p0 x0 x1->p1 x0 x1->p2 x0 x1->p3 x0 x1->p4 x0 x1->p5 x0 x1->q):q:=h.elim λx0 h=>h.elim λx1 h=>k x0 x1 h.1 h.2.1 h.2.2.1 h.2.2.2.1 h.2.2.2.2.1 h.2.2.2.2.2
theorem Dt {t0:Sort u0}{t1:Sort u1}{t2:Sort u2}{p0 p1 p2 p3 p4:t0->t1->t2->Prop}{q:Prop}(h:∃ x0,∃ x1,∃ x2,p0 x0 x1 x2/\p1 x0 x1 x2/\p2 x0 x1 x2/\p3 x0 x1 x2/\p4 x0 x1 x2)(k:∀ x0 x1 x2,p0 x0 x1 x2->p1 x0 x1 x2->p2 x0 x1 x2->p3 x0 x1 x2->p4 x0 x1 x2->q):q:=h.elim λx0 h=>h.elim λx1 h=>h.elim λx2 h=>k x0 x1 x2 h.1 h.2.1 h.2.2.1 h.2.2.2.1 h.2.2.2.2
theorem GY {t0:Sort u0}{t1:Sort u1}{t2:Sort u2}{t3:Sort u3}{p0 p1 p2 p3:t0->t1->t2->t3->Prop}{q:Prop}(h:∃ x0,∃ x1,∃ x2,∃ x3,p0 x0 x1 x2 x3/\p1 x0 x1 x2 x3/\p2 x0 x1 x2 x3/\p3 x0 x1 x2 x3)(k:∀ x0 x1 x2 x3,p0 x0 x1 x2 x3->p1 x0 x1 x2 x3->p2 x0 x1 x2 x3->p3 x0 x1 x2 x3->q):q:=h.elim λx0 h=>h.elim λx1 h=>h.elim λx2 h=>h.elim λx3 h=>k x0 x1 x2 x3 h.1 h.2.1 h.2.2.1 h.2.2.2
theorem uS {t0:Sort u0}{t1:Sort u1}{t2:Sort u2}{p0 p1 p2 p3 p4 p5:t0->t1->t2->Prop}{q:Prop}(h:∃ x0,∃ x1,∃ x2,p0 x0 x1 x2/\p1 x0 x1 x2/\p2 x0 x1 x2/\p3 x0 x1 x2/\p4 x0 x1 x2/\p5 x0 x1 x2)(k:∀ x0 x1 x2,p0 x0 x1 x2->p1 x0 x1 x2->p2 x0 x1 x2->p3 x0 x1 x2->p4 x0 x1 x2->p5 x0 x1 x2->q):q:=h.elim λx0 h=>h.elim λx1 h=>h.elim λx2 h=>k x0 x1 x2 h.1 h.2.1 h.2.2.1 h.2.2.2.1 h.2.2.2.2.1 h.2.2.2.2.2
theorem GZ {t0:Sort u0}{t1:Sort u1}{t2:Sort u2}{t3:Sort u3}{p0 p1 p2 p3 p4:t0->t1->t2->t3->Prop}{q:Prop}(h:∃ x0,∃ x1,∃ x2,∃ x3,p0 x0 x1 x2 x3/\p1 x0 x1 x2 x3/\p2 x0 x1 x2 x3/\p3 x0 x1 x2 x3/\p4 x0 x1 x2 x3)(k:∀ x0 x1 x2 x3,p0 x0 x1 x2 x3->p1 x0 x1 x2 x3->p2 x0 x1 x2 x3->p3 x0 x1 x2 x3->p4 x0 x1 x2 x3->q):q:=h.elim λx0 h=>h.elim λx1 h=>h.elim λx2 h=>h.elim λx3 h=>k x0 x1 x2 x3 h.1 h.2.1 h.2.2.1 h.2.2.2.1 h.2.2.2.2
theorem G0 {t0:Sort u0}{t1:Sort u1}{p0 p1 p2 p3 p4 p5 p6 p7:t0->t1->Prop}{q:Prop}(h:∃ x0,∃ x1,p0 x0 x1/\p1 x0 x1/\p2 x0 x1/\p3 x0 x1/\p4 x0 x1/\p5 x0 x1/\p6 x0 x1/\p7 x0 x1)(k:∀ x0 x1,p0 x0 x1->p1 x0 x1->p2 x0 x1->p3 x0 x1->p4 x0 x1->p5 x0 x1->p6 x0 x1->p7 x0 x1->q):q:=h.elim λx0 h=>h.elim λx1 h=>k x0 x1 h.1 h.2.1 h.2.2.1 h.2.2.2.1 h.2.2.2.2.1 h.2.2.2.2.2.1 h.2.2.2.2.2.2.1 h.2.2.2.2.2.2.2
theorem G1 {t0:Sort u0}{t1:Sort u1}{t2:Sort u2}{p0 p1 p2 p3 p4 p5 p6:t0->t1->t2->Prop}{q:Prop}(h:∃ x0,∃ x1,∃ x2,p0 x0 x1 x2/\p1 x0 x1 x2/\p2 x0 x1 x2/\p3 x0 x1 x2/\p4 x0 x1 x2/\p5 x0 x1 x2/\p6 x0 x1 x2)(k:∀ x0 x1 x2,p0 x0 x1 x2->p1 x0 x1 x2->p2 x0 x1 x2->p3 x0 x1 x2->p4 x0 x1 x2->p5 x0 x1 x2->p6 x0 x1 x2->q):q:=h.elim λx0 h=>h.elim λx1 h=>h.elim λx2 h=>k x0 x1 x2 h.1 h.2.1 h.2.2.1 h.2.2.2.1 h.2.2.2.2.1 h.2.2.2.2.2.1 h.2.2.2.2.2.2
variable {a b c d n m:Nat}{i j:Int}{p q:Prop}
theorem bz (h:p:=by assumption):p:=h
theorem jY:0<=(a:Int):=natCast_nonneg a
theorem C7 (k:Nat.ble a c=true:=by exact rfl):a<=c:=le_of_ble_eq_true k
theorem bN (h:a<=b:=by assumption)(k:Nat.ble b c=true:=by exact rfl):a<=c:=le_trans h (le_of_ble_eq_true k)
theorem C8 (h:a<b:=by assumption)(k:Nat.ble b c=true:=by exact rfl):a<c:=lt_of_lt_of_le h (le_of_ble_eq_true k)
theorem dW (h:a<=b:=by assumption)(k:Nat.ble (b+1) c=true:=by exact rfl):a<c:=lt_of_le_of_lt h (le_of_ble_eq_true k)
theorem Gj (h:a<b:=by assumption)(k:Nat.ble b (c+1)=true:=by exact rfl):a<=c:=le_of_lt_succ (lt_of_lt_of_le h (le_of_ble_eq_true k))
theorem zW (h:b<=a:=by assumption)(k:Nat.ble c b=true:=by exact rfl):c<=a:=le_trans (le_of_ble_eq_true k) h
theorem JS (h:a=b:=by assumption)(k:Nat.ble (b+1) c=true:=by exact rfl):a<c:=h▸le_of_ble_eq_true k
theorem G2 (h:a=b:=by assumption)(k:Nat.ble c b=true:=by exact rfl):c<=a:=h▸le_of_ble_eq_true k
theorem JT (h:a<=b:=by assumption)(k:Nat.ble b c=true:=by exact rfl):a-d<=c:=le_trans (sub_le ..) (bN h k)
theorem JU (h:a<=b:=by assumption)(k:Nat.ble (b+n) c=true:=by exact rfl):a+n<=c:=le_trans (Nat.add_le_add_right h _) (le_of_ble_eq_true k)
theorem Du (h:a<=b:=by assumption)(k:Nat.ble (n+b) c=true:=by exact rfl):n+a<=c:=le_trans (add_le_add_left h _) (le_of_ble_eq_true k)
theorem I4 (h:a<=b:=by assumption)(k:Nat.ble (b+n+1) c=true:=by exact rfl):a+n<c:=lt_of_le_of_lt (Nat.add_le_add_right h _) (le_of_ble_eq_true k)
theorem I5 (h:a<b:=by assumption)(k:Nat.ble (b+n) c=true:=by exact rfl):a+n<c:=lt_of_lt_of_le (Nat.add_lt_add_right h _) (le_of_ble_eq_true k)
theorem JV (h:a<b:=by assumption)(k:Nat.ble (n+b) c=true:=by exact rfl):n+a<c:=lt_of_lt_of_le (add_lt_add_left h _) (le_of_ble_eq_true k)
theorem Gk (h:a<=b:=by assumption)(k:Nat.ble (n+b+1) c=true:=by exact rfl):n+a<c:=lt_of_le_of_lt (add_le_add_left h _) (le_of_ble_eq_true k)
theorem JW (h:a<b:=by assumption)(k:Nat.ble (n+b) (c+1)=true:=by exact rfl):n+a<=c:=le_of_lt_succ (JV h k)
theorem JX (h:a<b:=by assumption)(k:Nat.ble b c=true:=by exact rfl):a/n<c:=lt_of_le_of_lt (div_le_self ..) (C8 h k)
theorem yp (h:a<=b:=by assumption)(k:decide ((b:Int)<=i)=true:=by exact rfl):(a:Int)<=i:=Int.le_trans (ofNat_le.mpr h) (of_decide_eq_true k)
theorem zX (h:a<=b:=by assumption)(k:decide ((b:Int)<i)=true:=by exact rfl):(a:Int)<i:=Int.lt_of_le_of_lt (ofNat_le.mpr h) (of_decide_eq_true k)
theorem JY (h:a<b:=by assumption)(k:decide ((b:Int)<=i)=true:=by exact rfl):(a:Int)<i:=Int.lt_of_lt_of_le (ofNat_lt.mpr h) (of_decide_eq_true k)
theorem uM (h:a<b:=by assumption):(a:Int)<b:=ofNat_lt.mpr h
theorem yq (h:0<a:=by assumption):(a:Int)≠0:=λe=>ne_of_gt h (ofNat.inj e)
theorem G3 (h:a≠0:=by assumption):(a:Int)≠0:=λe=>h (ofNat.inj e)
theorem Dv (h:a≠b:=by assumption):(a:Int)≠b:=λe=>h (ofNat.inj e)
theorem I6 (h:a<=b:=by assumption)(k:decide ((b:Int)<=i)=true:=by exact rfl)(k2:decide (j<=0)=true:=by exact rfl):j<=(a:Int)/\(a:Int)<=i:=⟨Int.le_trans (of_decide_eq_true k2) jY,yp h k⟩
theorem JZ (h:a<b:=by assumption)(k:decide ((b:Int)<=i)=true:=by exact rfl):0<=(a:Int)/\(a:Int)<i:=⟨jY,JY h k⟩
theorem J0 (h:a<=b:=by assumption)(k:decide ((b:Int)<i)=true:=by exact rfl)(k2:decide (j<0)=true:=by exact rfl):(a:Int)<i/\j<(a:Int):=⟨zX h k,Int.lt_of_lt_of_le (of_decide_eq_true k2) jY⟩
theorem C9 (h:b<=a:=by assumption):(a:Int)-b=((a-b:Nat):Int):=(ofNat_sub h).symm
theorem G4 (h:b<=a:=by assumption)(k:Nat.ble 1 b=true:=by exact rfl):(a:Int)-1=((a-1:Nat):Int):=(ofNat_sub (le_trans (le_of_ble_eq_true k) h)).symm
theorem Dw (h:a<=b:=by assumption)(k:decide ((b:Int)+i<=j)=true:=by exact rfl):(a:Int)+i<=j:=Int.le_trans (Int.add_le_add_right (ofNat_le.mpr h) _) (of_decide_eq_true k)
theorem Dx (h:a<b:=by assumption):a≠b:=ne_of_lt h
theorem qi (h:b<a:=by assumption):a≠b:=ne_of_gt h
theorem G5 (h:b<a:=by assumption):¬ a<=b:=Nat.not_le_of_lt h
theorem I7 (h:b<=a:=by assumption):¬ a<b:=not_lt_of_le h
theorem Gl (h:¬ a<=b:=by assumption):b<a:=Nat.lt_of_not_le h
theorem zY (h:¬ a<b:=by assumption):b<=a:=Nat.le_of_not_lt h
theorem J1 (h:a<b:=by assumption)(k:Nat.ble b c=true:=by exact rfl):a≠c:=ne_of_lt (C8 h k)
theorem J2 (h:a<=b:=by assumption)(k:Nat.ble b c=true:=by exact rfl):¬ c<a:=not_lt_of_le (bN h k)
theorem I8 (h:b<=a:=by assumption):a-b+b=a:=sub_add_cancel h
theorem I9 (h:b<=a:=by assumption):b+(a-b)=a:=Nat.add_sub_of_le h
theorem G6 (h:b<a:=by assumption):b+(a-b)=a:=Nat.add_sub_of_le (le_of_lt h)
theorem Gm:a-b<=a:=sub_le ..
theorem A0:a<a+(b+1):=Nat.lt_add_of_pos_right (succ_pos _)
theorem zZ:a≠a+(b+1):=ne_of_lt A0
theorem J3:a+(b+1)≠a:=ne_of_gt A0
theorem G7 (h:b<=c:=by assumption):b+a<=c+a:=Nat.add_le_add_right h _
theorem J4 (h:a<=b:=by assumption)(h2:c<d:=by assumption)(k:Nat.ble (b+d) n=true:=by exact rfl):a+c<n:=lt_of_lt_of_le (Nat.add_lt_add_of_le_of_lt h h2) (le_of_ble_eq_true k)
theorem dU (h:a<b:=by assumption)(h2:c<d:=by assumption)(k:Nat.ble (b+d) (n+1)=true:=by exact rfl):a+c<n:=Nat.lt_of_succ_lt_succ (lt_of_lt_of_le (JF (Nat.add_lt_add_of_le_of_lt (a:=a+1) h h2)) (le_of_ble_eq_true k))
theorem Dy (h:a<=b:=by assumption)(h2:c<=d:=by assumption)(k:Nat.ble (b+d) n=true:=by exact rfl):a+c<=n:=le_trans (add_le_add h h2) (le_of_ble_eq_true k)
theorem G8 (h:a<=b:=by assumption)(h2:c<=d:=by assumption)(k:Nat.ble (b+d+1) n=true:=by exact rfl):a+c<n:=lt_of_le_of_lt (add_le_add h h2) (le_of_ble_eq_true k)
theorem J5 (h:0<b:=by assumption):a<a+b:=Nat.lt_add_of_pos_right h
theorem J6 (h:b≠c:=by assumption):a+b≠a+c:=λe=>h (Nat.add_left_cancel e)
theorem Gn (h:a<=b:=by assumption):a<b+1:=lt_succ_of_le h
theorem G9 (h:a<b:=by assumption):a<b+1:=lt_succ_of_lt h
theorem Ja (h:a<=b:=by assumption):a<=b+n:=le_trans h (le_add_right ..)
theorem uN (h:a+n<=b:=by assumption):a<=b:=le_trans (le_add_right ..) h
theorem J7 (h:a+n<b:=by assumption):a<b:=lt_of_le_of_lt (le_add_right ..) h
theorem Dz (h:b<a+1:=by assumption):b<=a:=le_of_lt_succ h
theorem DA (h:a<=b:=by assumption)(h2:c<d:=by assumption)(k:Nat.ble (b+m*d+1) n=true:=by exact rfl):a+m*c<n:=lt_of_le_of_lt (add_le_add h (mul_le_mul_left m (le_of_lt h2))) (le_of_ble_eq_true k)
theorem Ha (k:Nat.ble 1 n=true:=by exact rfl):a%n<n:=mod_lt _ (le_of_ble_eq_true k)
theorem yr (k:Nat.ble 1 n=true:=by exact rfl)(k2:Nat.ble n c=true:=by exact rfl):a%n<c:=lt_of_lt_of_le (mod_lt _ (le_of_ble_eq_true k)) (le_of_ble_eq_true k2)
theorem Da (h:a=b:=by assumption)(h2:c<=b:=by assumption):c<=a:=h▸h2
theorem Jb:a<=a+b:=le_add_right ..
theorem J8:0+a=a:=zero_add ..
theorem Hb:a+b=b+a:=add_comm ..
theorem J9:a+b+c=a+(b+c):=add_assoc ..
theorem Hc:a+(b+c)=a+b+c:=(add_assoc ..).symm
theorem Jc:2*a=a+a:=two_mul ..
theorem Ka:a<=max a b:=Nat.le_max_left ..
theorem Kc:b<=max a b:=Nat.le_max_right ..
theorem He (h:a<b:=by assumption):a<=b:=le_of_lt h
theorem Hf:a<=a:=le_refl _
theorem Kd:a-0=a:=Nat.sub_zero _
theorem Hg (h:a<=c:=by assumption)(h2:b<=c:=by assumption):max a b<=c:=max_le.mpr ⟨h,h2⟩
theorem A7 (h:a<b:=by assumption)(h2:b<=c:=by assumption):a<c:=lt_of_lt_of_le h h2
theorem A8 (h:a<b:=by assumption)(h2:b<=c:=by assumption)(k:Nat.ble c d=true:=by exact rfl):a<d:=C8 (lt_of_lt_of_le h h2) k
theorem Hh (h:a<b:=by assumption)(h2:b<=c:=by assumption):a≠c:=ne_of_lt (lt_of_lt_of_le h h2)
theorem Hi (h:a<=b:=by assumption)(h2:b<c:=by assumption):a<c:=lt_of_le_of_lt h h2
theorem yt (h:a<=b:=by assumption)(h2:b<=c:=by assumption)(k:Nat.ble c d=true:=by exact rfl):a<=d:=bN (le_trans h h2) k
theorem DB (h:a<=b:=by assumption)(h2:b<=c:=by assumption)(k:Nat.ble (c+1) d=true:=by exact rfl):a<d:=dW (le_trans h h2) k
theorem uT (h:p/\(a<=b):=by assumption)(k:Nat.ble b c=true:=by exact rfl):a<=c:=bN h.2 k
theorem mT (h:p/\(a<=b):=by assumption)(k:Nat.ble (b+1) c=true:=by exact rfl):a<c:=dW h.2 k
theorem Hj (h:p/\(a<b):=by assumption)(k:Nat.ble b (c+1)=true:=by exact rfl):a<=c:=Gj h.2 k
theorem DC (h:p/\(a<=b):=by assumption)(k:Nat.ble (b+n+1) c=true:=by exact rfl):a+n<c:=I4 h.2 k
theorem Hk (h:(a<b)/\p:=by assumption):(a:Int)<b:=uM h.1
theorem DD (h:(0<a)/\p:=by assumption):(a:Int)≠0:=yq h.1
theorem Hl (h:(b<=a)/\p:=by assumption):(a:Int)-b=((a-b:Nat):Int):=C9 h.1
theorem Hm (h:(b<a)/\p:=by assumption):a≠b:=qi h.1
@[elab_as_elim] theorem N8 {α:Type}{P:List α->Prop}{l:List α}(h:l.length=1)(k:∀ a,P [a]):P l:=match l,h with
 |[a],_=>k a
@[elab_as_elim] theorem N9 {α:Type}{P:List α->Prop}{l:List α}(h:l.length=2)(k:∀ a b,P [a,b]):P l:=match l,h with
 |[a,b],_=>k a b
@[elab_as_elim] theorem A9 {α:Type}{P:List α->Prop}{l:List α}(h:l.length=3)(k:∀ a b c,P [a,b,c]):P l:=match l,h with
 |[a,b,c],_=>k a b c
end
set_option compiler.extract_closed false
open Lean.Parser.Tactic in
local macro_rules | `(tactic| rewrite [$e:term]) => `(tactic| first | with_reducible refine Mine.Internal.sbr ?_ ($e ..) | fail)
open Lean.Parser.Tactic in
local macro_rules | `(tactic| rewrite [← $e:term]) => `(tactic| first | with_reducible refine Mine.Internal.sb ?_ ($e ..) | fail)
open Lean.Parser.Tactic in
local macro_rules | `(tactic| rewrite [$a:rwRule, $b:rwRule]) => `(tactic| (rewrite [$a:rwRule]; rewrite [$b:rwRule]))
open Lean.Parser.Tactic in
local macro_rules | `(tactic| rewrite [$a:rwRule, $b:rwRule, $c:rwRule]) => `(tactic| (rewrite [$a:rwRule]; rewrite [$b:rwRule]; rewrite [$c:rwRule]))
open Lean.Parser.Tactic in
local macro_rules | `(tactic| rewrite [$a:rwRule, $b:rwRule, $c:rwRule, $g:rwRule,*]) => `(tactic| (rewrite [$a:rwRule]; rewrite [$b:rwRule]; rewrite [$c:rwRule]; rewrite [$g,*]))
open PySem PySem.Spec PySem.Calls PyProof.Rows PySem.W
section
abbrev bf:=Addr->Option Obj
abbrev sw (s:Shared)(h:Heap)(tk:Nat):Shared:=⟨h,s.gens,s.drawn,tk,s.os⟩
set_option genCtorIdx false
inductive AV where
 |none
 |bool (b:Bool)
 |int (i:Int)
 |str (s:List Nat)
 |tup (xs:List AV)
 |lst (xs:List AV)
 |rng (lo hi:Int)
 |fn (k:Nat)
 |rx (b:Bool)
 |obj (i:Nat)
inductive AO where
 |list (xs:List AV)
 |inst (k:Nat) (d:Nat)
 |dict (fs:List (Nat×AV))
 |iter (xs:List AV)
 |dead
noncomputable def AV.ctorIdx (x:AV):Nat:=AV.casesOn x 0 (λ_=>1) (λ_=>2) (λ_=>3) (λ_=>4) (λ_=>5) (λ_ _=>6) (λ_=>7) (λ_=>8) λ_=>9
noncomputable def AO.ctorIdx (x:AO):Nat:=AO.casesOn x (λ_=>0) (λ_ _=>1) (λ_=>2) (λ_=>3) 4
@[simp] theorem AV.obj_eq (i j:Nat):(AV.obj i=AV.obj j)=(i=j):=propext ⟨λh=>by cases h;rfl,congrArg _⟩
abbrev St:=List AO
abbrev Loc:=List (Nat×AV)
noncomputable def cr (f:Nat):Addr:=[316,323,328,333,338,343,350,357,362,369,374,379,228,221,193,200,207,214,236,243,182,305,384,316,316,316,316,316,316,316,121,102,129,139,179,83,281].getD f 0
noncomputable def fv (k:Nat):Value:=.ref (cr k)
noncomputable def aM:Program:=PySem.Challenge.rw_uc0064_01.row.toRowW.prog
abbrev aA {α:Type}(w:World)(A:Around)(t:Sem α)(Q:α->Shared->Prop)(E:Value->Shared->Prop)(s:Shared):Prop:=wpAny (model aM w) A t Q E s
noncomputable def fm:Addr:=182
noncomputable def jl:Addr:=305
noncomputable def cQ:Addr:=202
noncomputable def dr:Addr:=209
noncomputable def fp:Addr:=48
noncomputable def ft:Addr:=53
noncomputable def Ly (F:bf)(a:Addr)(arr:Array Value):Prop:=∃ n,F a=some { cls:=.type "list",data:=.seq arr n }
mutual
inductive VR (F:bf)(φ:List Addr):AV->Value->Prop
 |none:VR F φ .none .none
 |bool (b:Bool):VR F φ (.bool b) (.bool b)
 |int (i:Int) (t:Tok):VR F φ (.int i) (.int i t)
 |str (l:List Nat) (t:Tok):VR F φ (.str l) (.str ⟨l.toArray⟩ t)
 |tup {xs:List AV} {a:Addr} {arr:Array Value} {n:Nat}:F a=some { cls:=.type "tuple",data:=.seq arr n }->KI F φ xs arr.toList->VR F φ (.tup xs) (.ref a)
 |lst {xs:List AV} {a:Addr} {arr:Array Value}:Ly F a arr->KI F φ xs arr.toList->VR F φ (.lst xs) (.ref a)
 |rng {lo hi:Int} {a:Addr} {t u v:Tok}:F a=some { cls:=.type "range",data:=.fields #[.int lo t,.int hi u,.int 1 v] }->VR F φ (.rng lo hi) (.ref a)
 |fn (k:Nat):VR F φ (.fn k) (.ref k)
 |rx (b:Bool):VR F φ (.rx b) (.ref (if b then fp else ft))
 |obj {i:Nat} {a:Addr}:φ[i]?=some a->VR F φ (.obj i) (.ref a)
inductive KI (F:bf)(φ:List Addr):List AV->List Value->Prop
 |nil:KI F φ [] []
 |cons {x:AV} {v:Value} {xs:List AV} {vs:List Value}:VR F φ x v->KI F φ xs vs->KI F φ (x::xs) (v::vs)
end
noncomputable def Lp (F F':bf):Prop:=∀ a o,F a=some o->F' a=some o
theorem Lp.refl (F:bf):Lp F F:=λ_ _ e=>e
theorem Lp.trans {F G H:bf}(a:Lp F G)(b:Lp G H):Lp F H:=λx o e=>b x o (a x o e)
theorem Ly.mono {F F':bf}{a:Addr}{arr:Array Value}(x:Ly F a arr)(y:Lp F F'):Ly F' a arr:=let ⟨n,e⟩:=x;⟨n,y _ _ e⟩
theorem eU {φ KJ:List Addr}(p:φ <+: KJ){i:Nat}{a:Addr}(h:φ[i]?=some a):KJ[i]?=some a:=by
 refine aw p ?_;clear p;rintro t rfl;refine aw (List.getElem?_eq_some_iff.mp h) λhl e=>?_;rw[getElem?_append_left hl];exact h
theorem VR.mono {F F':bf}{φ KJ:List Addr}(hF:Lp F F')(hp:φ <+: KJ){x:AV}{v:Value}(h:VR F φ x v):VR F' KJ x v:=
 VR.rec (motive_1:=λx v _=>VR F' KJ x v) (motive_2:=λx v _=>KI F' KJ x v) .none .bool .int .str (λa _ d=>.tup (hF _ _ a) d) (λa _ d=>.lst (a.mono hF) d) (λa=>.rng (hF _ _ a)) .fn .rx (λh=>.obj (eU hp h)) .nil (λ_ _ a b=>.cons a b) h
theorem KI.mono {F F':bf}{φ KJ:List Addr}(hF:Lp F F')(hp:φ <+: KJ){x:List AV}{v:List Value}(h:KI F φ x v):KI F' KJ x v:=
 KI.rec (motive_1:=λx v _=>VR F' KJ x v) (motive_2:=λx v _=>KI F' KJ x v) .none .bool .int .str (λa _ d=>.tup (hF _ _ a) d) (λa _ d=>.lst (a.mono hF) d) (λa=>.rng (hF _ _ a)) .fn .rx (λh=>.obj (eU hp h)) .nil (λ_ _ a b=>.cons a b) h
noncomputable def Jd (F:bf)(φ:List Addr)(x:AV)(v:Value):Prop:=match x with
 |.none=>v=.none
 |.bool b=>v=.bool b
 |.int i=>∃ t,v=.int i t
 |.str l=>∃ t,v=.str ⟨l.toArray⟩ t
 |.tup xs=>∃ a arr n,v=.ref a/\F a=some { cls:=.type "tuple",data:=.seq arr n }/\KI F φ xs arr.toList
 |.lst xs=>∃ a arr,v=.ref a/\Ly F a arr/\KI F φ xs arr.toList
 |.rng lo hi=>∃ a t u w,v=.ref a/\F a=some { cls:=.type "range",data:=.fields #[.int lo t,.int hi u,.int 1 w] }
 |.fn k=>v=.ref k
 |.rx b=>v=.ref (if b then fp else ft)
 |.obj i=>∃ a,v=.ref a/\φ[i]?=some a
noncomputable def DE (F:bf)(φ:List Addr)(xs:List AV)(vs:List Value):Prop:=match xs with
 |[]=>vs=[]
 |x::xs=>∃ v ws,vs=v::ws/\VR F φ x v/\KI F φ xs ws
theorem VR.inv {F:bf}{φ:List Addr}{x:AV}{v:Value}(h:VR F φ x v):Jd F φ x v:=
 VR.casesOn (motive_1:=λx v _=>Jd F φ x v) h rfl (λ_=>rfl) (λ_ t=>⟨t,rfl⟩) (λ_ t=>⟨t,rfl⟩) (λa b=>⟨_,_,_,rfl,a,b⟩) (λa b=>⟨_,_,rfl,a,b⟩) (λa=>⟨_,_,_,_,rfl,a⟩) (λ_=>rfl) (λ_=>rfl) (λh=>⟨_,rfl,h⟩)
theorem KI.inv {F:bf}{φ:List Addr}{x:List AV}{v:List Value}(h:KI F φ x v):DE F φ x v:=
 KI.casesOn (motive_2:=λx v _=>DE F φ x v) h rfl (λa b=>⟨_,_,rfl,a,b⟩)
section
variable {F:bf}{φ:List Addr}{v:Value}{vs:List Value}{P:Value->Prop}{Q:List Value->Prop}
theorem VR.noneR (k:P .none)(h:VR F φ .none v):P v:=h.inv.symm▸k
theorem VR.boolR {b:Bool}(k:P (.bool b))(h:VR F φ (.bool b) v):P v:=h.inv.symm▸k
theorem VR.intR {i:Int}(k:∀ t,P (.int i t))(h:VR F φ (.int i) v):P v:=h.inv.elim λt e=>e.symm▸k t
theorem VR.strR {l:List Nat}(k:∀ t,P (.str ⟨l.toArray⟩ t))(h:VR F φ (.str l) v):P v:=h.inv.elim λt e=>e.symm▸k t
theorem VR.tupR {xs:List AV}(k:∀ a arr n,F a=some { cls:=.type "tuple",data:=.seq arr n }->KI F φ xs arr.toList->P (.ref a))(h:VR F φ (.tup xs) v):P v:=h.inv.elim λa h=>h.elim λb h=>h.elim λn h=>h.1.symm▸k a b n h.2.1 h.2.2
theorem VR.lstR {xs:List AV}(k:∀ a arr,Ly F a arr->KI F φ xs arr.toList->P (.ref a))(h:VR F φ (.lst xs) v):P v:=h.inv.elim λa h=>h.elim λb h=>h.1.symm▸k a b h.2.1 h.2.2
theorem VR.rngR {lo hi:Int}(k:∀ a t u w,F a=some { cls:=.type "range",data:=.fields #[.int lo t,.int hi u,.int 1 w] }->P (.ref a))(h:VR F φ (.rng lo hi) v):P v:=h.inv.elim λa h=>h.elim λt h=>h.elim λu h=>h.elim λw h=>h.1.symm▸k a t u w h.2
theorem VR.rxR {b:Bool}(k:P (.ref (if b then fp else ft)))(h:VR F φ (.rx b) v):P v:=h.inv.symm▸k
theorem VR.objR {i:Nat}(k:∀ a,φ[i]?=some a->P (.ref a))(h:VR F φ (.obj i) v):P v:=h.inv.elim λa h=>h.1.symm▸k a h.2
theorem KI.nilR (k:Q [])(h:KI F φ [] vs):Q vs:=h.inv.symm▸k
theorem KI.consR {x:AV}{xs:List AV}(k:∀ v ws,VR F φ x v->KI F φ xs ws->Q (v::ws))(h:KI F φ (x::xs) vs):Q vs:=h.inv.elim λv h=>h.elim λw h=>h.1.symm▸k v w h.2.1 h.2.2
theorem KI.oneR {x:AV}(k:∀ v,VR F φ x v->Q [v])(h:KI F φ [x] vs):Q vs:=KI.consR (λv ws p q=>KI.nilR (Q:=λws=>Q (v::ws)) (k v p) q) h
theorem KI.twoR {x y:AV}(k:∀ v u,VR F φ x v->VR F φ y u->Q [v,u])(h:KI F φ [x,y] vs):Q vs:=KI.consR (λv ws p q=>KI.oneR (Q:=λws=>Q (v::ws)) (λu r=>k v u p r) q) h
end
section
variable {F:bf}{φ:List Addr}{xs:List AV}{vs:List Value}
theorem KI.ind {P:List AV->List Value->Prop}(n:P [] [])(c:∀ {x v xs vs},VR F φ x v->KI F φ xs vs->P xs vs->P (x::xs) (v::vs)){xs:List AV}{vs:List Value}(h:KI F φ xs vs):P xs vs:=
 KI.rec (motive_1:=λ_ _ _=>True) (motive_2:=λx v _=>P x v) trivial (λ_=>trivial) (λ_ _=>trivial) (λ_ _=>trivial) (λ_ _ _=>trivial) (λ_ _ _=>trivial) (λ_=>trivial) (λ_=>trivial) (λ_=>trivial) (λ_=>trivial) n (λa b _ i=>c a b i) h
theorem KI.length (h:KI F φ xs vs):xs.length=vs.length:=KI.ind (P:=λxs vs=>xs.length=vs.length) rfl (λ_ _ i=>congrArg Nat.succ i) h
theorem KI.get (h:KI F φ xs vs):∀ {i:Nat} {x:AV},xs[i]?=some x->∃ v,vs[i]?=some v/\VR F φ x v:=
 KI.ind (P:=λxs vs=>∀ {i:Nat} {x:AV},xs[i]?=some x->∃ v,vs[i]?=some v/\VR F φ x v) (λe=>nomatch e) (λa _ k i=>match i with
  |0=>λe=>⟨_,rfl,K7 e▸a⟩
  |_+1=>λe=>k e) h
theorem KI.append {ys:List AV}{ws:List Value}(h:KI F φ xs vs)(k:KI F φ ys ws):KI F φ (xs++ys) (vs++ws):=
 KI.ind (P:=λxs vs=>KI F φ (xs++ys) (vs++ws)) k (λa _ i=>.cons a i) h
theorem KI.set (h:KI F φ xs vs):∀ (i:Nat) {x:AV} {v:Value},VR F φ x v->KI F φ (xs.set i x) (vs.set i v):=
 KI.ind (P:=λxs vs=>∀ (i:Nat) {x:AV} {v:Value},VR F φ x v->KI F φ (xs.set i x) (vs.set i v)) (λ_ _ _ _=>.nil) (λa b k i=>match i with
  |0=>λe=>.cons e b
  |i+1=>λe=>.cons a (k i e)) h
theorem KI.drop (h:KI F φ xs vs):∀ (i:Nat),KI F φ (xs.drop i) (vs.drop i):=
 KI.ind (P:=λxs vs=>∀ (i:Nat),KI F φ (xs.drop i) (vs.drop i)) (λi=>match i with |0=>.nil |_+1=>.nil) (λa b k i=>match i with
  |0=>.cons a b
  |i+1=>k i) h
theorem KI.snoc {x:AV}{v:Value}(h:KI F φ xs vs)(hx:VR F φ x v):KI F φ (xs++[x]) (vs++[v]):=KI.append h (.cons hx .nil)
theorem KI.reverse (h:KI F φ xs vs):KI F φ xs.reverse vs.reverse:=
 KI.ind (P:=λxs vs=>KI F φ xs.reverse vs.reverse) .nil (λa _ i=>(reverse_cons ..).symm▸(reverse_cons ..).symm▸KI.snoc i a) h
end
end
section
set_option genCtorIdx false in
inductive Tg where
 |nm (x:Nat)
 |tup (xs:List Nat)
inductive Ty where
 |int |str |list |bool
inductive Bi where
 |len |range1 |range2 |sum |min |max |hex |chr |ord |str |divmod |tuple |next |iter
inductive Sm where
 |lower |upper |join |bitlen |count |index |append |reverse |search
set_option genCtorIdx false
mutual
inductive E where
 |l (x:Nat)
 |int (i:Int)
 |str (s:List Nat)
 |bool (b:Bool)
 |non
 |b (op:Operator) (a b:E)
 |cmp (op:CmpOp) (a b:E)
 |ite (c:C) (a b:E)
 |tup (es:List E)
 |new (m:Bool) (l:L)
 |sub (a i:E)
 |call (k:Nat) (args:List E)
 |lcall (x:Nat) (args:List E)
 |meth (k:Nat) (recv:E) (args:List E)
 |conv (recv a:E) (b:Bool)
 |bi (b:Bi) (args:List E)
 |sm (m:Sm) (recv:E) (args:List E)
 |attr (recv:E) (a:Nat)
 |cattr (b:Bool)
 |frz (e:E)
 |isTy (a:E) (t:Ty) (neg:Bool)
 |isNon (a:E) (neg:Bool)
 |isTru (a:E) (neg:Bool)
 |rxg (b:Bool)
 |dbg
 |flag (x:Nat)
 |dlim
inductive L where
 |list (es:List E)
 |cat (a b:E)
 |rep (a n:E)
 |comp (elt:E) (tg:Tg) (src:E) (ifs:List C) (cap:List Nat)
 |comp2 (elt:E) (tg:Tg) (src:E) (LV:Tg) (Lr:E) (cap:List Nat)
 |rev (a:E)
 |drop (a i:E)
 |sorted (a:E)
 |split (a:E) (sep:E)
inductive C where
 |val (e:E)
 |and (a b:C)
 |or (a b:C)
 |not (a:C)
end
inductive S where
 |asg (tg:Tg) (e:E)
 |asg2 (xs:List Nat) (es:List E)
 |asgs (xs:List Nat) (e:E)
 |aug (x:Nat) (op:Operator) (e:E)
 |setI (o i e:E)
 |augI (o i:E) (op:Operator) (e:E)
 |setSl (o e:E)
 |setA (o:E) (a:Nat) (e:E)
 |expr (e:E)
 |iff (c:C) (a b:List S)
 |whl (c:C) (a:List S)
 |for (tg:Tg) (src:E) (body orelse:List S)
 |forR (x:Nat) (src:E) (body:List S)
 |ret (e:E)
 |retN
 |brk
 |del (o i:E)
 |bad
noncomputable def af:Loc->Nat->Option AV
 |[],_=>none
 |(y,v)::r,x=>if Nat.beq y x then some v else af r x
noncomputable def ai:Loc->Nat->AV->Loc
 |[],x,w=>[(x,w)]
 |(y,v)::r,x,w=>if Nat.beq y x then (y,w)::r else (y,v)::ai r x w
noncomputable def bA:Loc->List Nat->List AV->Option Loc
 |σ,[],[]=>some σ
 |σ,x::xs,v::vs=>bA (ai σ x v) xs vs
 |_,_,_=>none
noncomputable def aQ (σ:Loc):Tg->AV->Option Loc
 |.nm x,v=>some (ai σ x v)
 |.tup xs,.tup vs=>bA σ xs vs
 |.tup xs,.lst vs=>bA σ xs vs
 |_,_=>none
noncomputable def dZ:Tg->List Nat
 |.nm x=>[x]
 |.tup xs=>xs
noncomputable def aX (σ:Loc)(cap:List Nat):Loc:=σ.filter λp=>cap.contains p.1
noncomputable def listAt (st:St)(i:Nat):Option (List AV):=match st[i]? with
 |some (.list xs)=>some xs
 |_=>none
noncomputable def lX (lo:Int):Nat->List AV
 |0=>[]
 |n+1=>.int lo::lX (lo+1) n
noncomputable def aF (st:St):AV->Option (List AV)
 |.lst xs=>some xs
 |.tup xs=>some xs
 |.rng lo hi=>if lo.natAbs<2^61/\hi.natAbs<2^61 then some (lX lo (hi-lo).toNat) else none
 |.str s=>some (s.map λc=>.str [c])
 |.obj i=>listAt st i
 |_=>none
noncomputable def an (st:St)(v:AV)(xs:List AV):Bool:=match v with
 |.obj i=>@decide (listAt st i=some xs) (Classical.propDecidable _)
 |_=>true
noncomputable def lY (st:St):AV->Option (List AV)
 |.lst xs=>some xs
 |.tup xs=>some xs
 |.obj i=>listAt st i
 |_=>none
noncomputable def cN (st:St):AV->Option (List AV)
 |.lst xs=>some xs
 |.obj i=>listAt st i
 |_=>none
noncomputable def allInts:List AV->Option (List Int)
 |[]=>some []
 |.int i::r=>(allInts r).map (i::·)
 |_::_=>none
noncomputable def allStrs:List AV->Option (List (List Nat))
 |[]=>some []
 |.str i::r=>(allStrs r).map (i::·)
 |_::_=>none
noncomputable def eE (a b:Int):Bool:=!(decide (intBits a>shortFactorBits)&&decide (intBits b>shortFactorBits)&&intTooBig (intBits a+intBits b))
noncomputable def ar {γ:Type}(x:AV)(f:Int->Option γ):Option γ:=match x with
 |.int a=>f a
 |_=>none
noncomputable def onStr {γ:Type}(x:AV)(f:List Nat->Option γ):Option γ:=match x with
 |.str a=>f a
 |_=>none
noncomputable def Ba {γ:Type}(x:AV)(f:List AV->Option γ):Option γ:=match x with
 |.tup a=>f a
 |_=>none
noncomputable def ql {γ:Type}(x:AV)(f:List AV->Option γ):Option γ:=match x with
 |.lst a=>f a
 |_=>none
noncomputable def Bb {γ:Type}(x:AV)(f:Bool->Option γ):Option γ:=match x with
 |.bool a=>f a
 |_=>none
noncomputable def hY {γ:Type}(x:AV)(f:Nat->Option γ):Option γ:=match x with
 |.obj a=>f a
 |_=>none
noncomputable def Bc {γ:Type}(x:AV)(f:Bool->Option γ):Option γ:=match x with
 |.rx a=>f a
 |_=>none
noncomputable def isStr {γ:Type}(x:AV)(f:List Nat->Option γ)(z:Option γ):Option γ:=match x with
 |.str a=>f a
 |_=>z
noncomputable def Bd {γ:Type}(x:AV)(f:List AV->Option γ)(z:Option γ):Option γ:=match x with
 |.tup a=>f a
 |_=>z
noncomputable def Be {γ:Type}(x:AV)(f:List AV->Option γ)(z:Option γ):Option γ:=match x with
 |.lst a=>f a
 |_=>z
noncomputable def iS {α γ:Type}(l:List α)(f:α->Option γ):Option γ:=match l with
 |[]=>none
 |x::r=>match r with
  |[]=>f x
  |_::_=>none
noncomputable def two {α γ:Type}(l:List α)(f:α->α->Option γ):Option γ:=match l with
 |[]=>none
 |x::r=>iS r (f x)
noncomputable def nil {α γ:Type}(l:List α)(z:Option γ):Option γ:=match l with
 |[]=>z
 |_::_=>none
section
variable {γ:Type}{r:γ}
theorem bg:¬ (none=some r):=nofun
theorem eF {KA:Loc}{P:Loc->List Nat->List AV->Prop}(n:P KA [] [])(c:∀ σ x xs v vs,P (ai σ x v) xs vs->P σ (x::xs) (v::vs))(xs:List Nat):∀ (vs:List AV) (σ:Loc),bA σ xs vs=some KA->P σ xs vs:=by
 induction xs with
 |nil=>exact λvs=>match vs with
  |[]=>λσ e=>K7 e▸n
  |_::_=>λσ e=>absurd e bg
 |cons x xs ih=>exact λvs=>match vs with
  |[]=>λσ e=>absurd e bg
  |v::vs=>λσ e=>c σ x xs v vs (ih vs _ e)
theorem cJ {ps:List Nat}{vs:List AV}{σ KA:Loc}(h:bA σ ps vs=some KA):vs.length=ps.length:=eF (P:=λσ xs vs=>vs.length=xs.length) rfl (λa b c d e=>congrArg Nat.succ) _ _ _ h
section
variable {x:AV}{P:AV->Prop}
theorem eV {f:Int->Option γ}(k:∀ a,f a=some r->P (.int a)):ar x f=some r->P x:=by cases x<;>first |exact λ(h:none=some r)=>absurd h bg |exact k _
theorem mU {f:List Nat->Option γ}(k:∀ a,f a=some r->P (.str a)):onStr x f=some r->P x:=by cases x<;>first |exact λ(h:none=some r)=>absurd h bg |exact k _
theorem Bf {f:List AV->Option γ}(k:∀ a,f a=some r->P (.tup a)):Ba x f=some r->P x:=by cases x<;>first |exact λ(h:none=some r)=>absurd h bg |exact k _
theorem uU {f:List AV->Option γ}(k:∀ a,f a=some r->P (.lst a)):ql x f=some r->P x:=by cases x<;>first |exact λ(h:none=some r)=>absurd h bg |exact k _
theorem uV {f:Bool->Option γ}(k:∀ a,f a=some r->P (.bool a)):Bb x f=some r->P x:=by cases x<;>first |exact λ(h:none=some r)=>absurd h bg |exact k _
theorem kh {f:Nat->Option γ}(k:∀ a,f a=some r->P (.obj a)):hY x f=some r->P x:=by cases x<;>first |exact λ(h:none=some r)=>absurd h bg |exact k _
theorem Bg {f:Bool->Option γ}(k:∀ a,f a=some r->P (.rx a)):Bc x f=some r->P x:=by cases x<;>first |exact λ(h:none=some r)=>absurd h bg |exact k _
end
section
variable {α:Type}{l:List α}{P:List α->Prop}
theorem ki {f:α->Option γ}(k:∀ x,f x=some r->P [x]):iS l f=some r->P l:=match l with
 |[]=>λ(h:none=some r)=>absurd h bg
 |[x]=>k x
 |_::_::_=>λ(h:none=some r)=>absurd h bg
theorem two_r {f:α->α->Option γ}(k:∀ x y,f x y=some r->P [x,y]):two l f=some r->P l:=match l with
 |[]=>λ(h:none=some r)=>absurd h bg
 |x::l=>ki (P:=λl=>P (x::l)) (k x)
theorem DF {z:Option γ}(k:z=some r->P []):nil l z=some r->P l:=match l with
 |[]=>k
 |_::_=>λ(h:none=some r)=>absurd h bg
end
section
variable {F:bf}{φ:List Addr}{x:AV}{v:Value}{P:Value->Prop}(hx:VR F φ x v)
include hx
theorem cu {f:Int->Option γ}(e:ar x f=some r)(k:∀ a t,f a=some r->P (.int a t)):P v:=eV (P:=λx=>VR F φ x v->P v) (λa h=>VR.intR λt=>k a t h) e hx
theorem hZ {f:List Nat->Option γ}(e:onStr x f=some r)(k:∀ a t,f a=some r->P (.str ⟨a.toArray⟩ t)):P v:=mU (P:=λx=>VR F φ x v->P v) (λa h=>VR.strR λt=>k a t h) e hx
theorem Bh {f:Int->Option γ}(e:ar x f=some r):∃ a t,v=.int a t/\f a=some r:=cu (P:=λv=>∃ a t,v=.int a t/\f a=some r) hx e λa t e=>⟨a,t,rfl,e⟩
theorem uW {f:List Nat->Option γ}(e:onStr x f=some r):∃ a t,v=.str ⟨a.toArray⟩ t/\f a=some r:=hZ (P:=λv=>∃ a t,v=.str ⟨a.toArray⟩ t/\f a=some r) hx e λa t e=>⟨a,t,rfl,e⟩
theorem DG {f:List AV->Option γ}(e:Ba x f=some r)(k:∀ xs a arr n,f xs=some r->F a=some { cls:=.type "tuple",data:=.seq arr n }->KI F φ xs arr.toList->P (.ref a)):P v:=
 Bf (P:=λx=>VR F φ x v->P v) (λxs h=>VR.tupR λa arr n=>k xs a arr n h) e hx
theorem rR {f:List AV->Option γ}(e:ql x f=some r)(k:∀ xs a arr,f xs=some r->Ly F a arr->KI F φ xs arr.toList->P (.ref a)):P v:=
 uU (P:=λx=>VR F φ x v->P v) (λxs h=>VR.lstR λa arr=>k xs a arr h) e hx
theorem jm {f:Nat->Option γ}(e:hY x f=some r)(k:∀ i a,f i=some r->φ[i]?=some a->P (.ref a)):P v:=
 kh (P:=λx=>VR F φ x v->P v) (λi h=>VR.objR λa=>k i a h) e hx
theorem DH {f:Bool->Option γ}(e:Bc x f=some r)(k:∀ b,f b=some r->P (.ref (if b then fp else ft))):P v:=
 Bg (P:=λx=>VR F φ x v->P v) (λb h=>VR.rxR (k b h)) e hx
theorem kj {f:List Nat->Option γ}{z:Option γ}(e:isStr x f z=some r)(k:∀ a t,f a=some r->P (.str ⟨a.toArray⟩ t))(k2:z=some r->P v):P v:=by
 revert e;cases x<;>first |exact k2 |exact λh=>VR.strR (λt=>k _ t h) hx
theorem z4 {f:List AV->Option γ}{z:Option γ}(e:Bd x f z=some r)(k:∀ xs a arr n,f xs=some r->F a=some { cls:=.type "tuple",data:=.seq arr n }->KI F φ xs arr.toList->P (.ref a))(k2:z=some r->P v):P v:=by
 revert e;cases x<;>first |exact k2 |exact λh=>VR.tupR (λa arr n=>k _ a arr n h) hx
theorem z5 {f:List AV->Option γ}{z:Option γ}(e:Be x f z=some r)(k:∀ xs a arr,f xs=some r->Ly F a arr->KI F φ xs arr.toList->P (.ref a))(k2:z=some r->P v):P v:=by
 revert e;cases x<;>first |exact k2 |exact λh=>VR.lstR (λa arr=>k _ a arr h) hx
end
end
theorem oE {γ:Type}{o:Option (AV×St)}{k:AV->St->Option γ}{r:γ}{P:Prop}(e:(match o with
 |some (x,y)=>k x y
 |none=>none)=some r) (f:∀ x y,o=some (x,y)->k x y=some r->P):P:=by
 cases o with
 |none=>cases e
 |some z=>exact f _ _ rfl e
theorem oL {γ:Type}{o:Option (List AV×St)}{k:List AV->St->Option γ}{r:γ}{P:Prop}(e:(match o with
 |some (x,y)=>k x y
 |none=>none)=some r) (f:∀ x y,o=some (x,y)->k x y=some r->P):P:=by
 cases o with
 |none=>cases e
 |some z=>exact f _ _ rfl e
theorem oB {γ:Type}{o:Option (Bool×St)}{k:Bool->St->Option γ}{r:γ}{P:Prop}(e:(match o with
 |some (x,y)=>k x y
 |none=>none)=some r) (f:∀ x y,o=some (x,y)->k x y=some r->P):P:=by
 cases o with
 |none=>cases e
 |some z=>exact f _ _ rfl e
theorem oC {γ:Type}{o:Option (Bool×St)}{kt kf:St->Option γ}{r:γ}{P:Prop}(e:(match o with
 |some (true,y)=>kt y
 |some (false,y)=>kf y
 |none=>none)=some r) (f:∀ y,o=some (true,y)->kt y=some r->P) (g:∀ y,o=some (false,y)->kf y=some r->P):P:=by
 cases o with
 |none=>cases e
 |some z=>
  obtain⟨b,y⟩:=z;cases b
  ·exact g _ rfl e
  ·exact f _ rfl e
theorem oV {γ:Type}{o:Option (List AV)}{k:List AV->Option γ}{r:γ}{P:Prop}(e:(match o with
 |some x=>k x
 |none=>none)=some r) (f:∀ x,o=some x->k x=some r->P):P:=by
 cases o with
 |none=>cases e
 |some z=>exact f _ rfl e
theorem oN {γ:Type}{o:Option (List Int)}{k:List Int->Option γ}{r:γ}{P:Prop}(e:(match o with
 |some x=>k x
 |none=>none)=some r) (f:∀ x,o=some x->k x=some r->P):P:=by
 cases o with
 |none=>cases e
 |some z=>exact f _ rfl e
theorem oW {γ:Type}{o:Option (List (List Nat))}{k:List (List Nat)->Option γ}{r:γ}{P:Prop}(e:(match o with
 |some x=>k x
 |none=>none)=some r) (f:∀ x,o=some x->k x=some r->P):P:=by
 cases o with
 |none=>cases e
 |some z=>exact f _ rfl e
theorem oD {γ:Type}{o:Option PyData}{k:PyData->Option γ}{r:γ}{P:Prop}(e:(match o with
 |some x=>k x
 |none=>none)=some r) (f:∀ x,o=some x->k x=some r->P):P:=by
 cases o with
 |none=>cases e
 |some z=>exact f _ rfl e
theorem oI {γ:Type}{c:Prop}[d:Decidable c]{a:Option γ}{r:γ}{P:Prop}(e:(if c then a else none)=some r)(f:c->a=some r->P):P:=by
 cases d with
 |isTrue h=>exact f h e
 |isFalse h=>cases e
theorem oM {α γ:Type}{o:Option α}{g:α->γ}{r:γ}{P:γ->Prop}(e:o.map g=some r)(f:∀ u,o=some u->P (g u)):P r:=by
 cases o with
 |none=>cases e
 |some u=>cases e;exact f u rfl
theorem yd {α β γ:Type}{o:Option α}{g:α->β}{c d:γ}{v:β}{P:β->γ->Prop}(e:o.map (λu=>(g u,c))=some (v,d))(f:∀ u,o=some u->P (g u) c):P v d:=by
 cases o with
 |none=>cases e
 |some u=>cases e;exact f u rfl
theorem Bj {α β γ δ:Type}{o:Option α}{a:δ}{g:α->β}{c:α->γ}{a':δ}{v:β}{d:γ}{P:δ->β->γ->Prop}(e:o.map (λu=>(a,g u,c u))=some (a',v,d))(f:∀ u,o=some u->P a (g u) (c u)):P a' v d:=by
 cases o with
 |none=>cases e
 |some u=>cases e;exact f u rfl
theorem oP {α β:Type}{a v:α}{b d:β}{P:α->β->Prop}(e:some (a,b)=some (v,d))(f:P a b):P v d:=by cases e;exact f
theorem to {α β γ:Type}{a v:α}{b d:β}{c u:γ}{P:α->β->γ->Prop}(e:some (a,b,c)=some (v,d,u))(f:P a b c):P v d u:=by cases e;exact f
noncomputable def aK (op:Operator)(x y:AV):Option AV:=match op with
 |.Add=>isStr x (λa=>onStr y λb=>if a.length+b.length<=1000000 then some (.str (a++b)) else none) (Bd x (λa=>Ba y λb=>if (!a.isEmpty)=true/\(!b.isEmpty)=true/\a.length+b.length<=1000000 then some (.tup (a++b)) else none)
  (ar x λa=>ar y λb=>some (.int (a+b))))
 |.Sub=>ar x λa=>ar y λb=>some (.int (a-b))
 |.Mult=>isStr x (λs=>iS s λc=>ar y λn=>if -1000<=n/\n<=1000 then some (.str (replicate n.toNat c)) else none) (Bd x (λs=>iS s λa=>ar y λn=>if 2<=n/\n<=1000 then some (.tup (replicate n.toNat a)) else none)
  (ar x λa=>ar y λb=>if eE a b then some (.int (a*b)) else none))
 |.FloorDiv=>ar x λa=>ar y λb=>if b≠0/\divisionGoesByPylong a b=false then some (.int (a.fdiv b)) else none
 |.Mod=>ar x λa=>ar y λb=>if b≠0 then some (.int (a.fmod b)) else none
 |.LShift=>ar x λa=>ar y λb=>if 0<=b/\(intBits a:Int)+b<=2^27 then some (.int (a*2^b.toNat)) else none
 |.RShift=>ar x λa=>ar y λb=>if 0<=b/\b<2^60 then some (.int (a.fdiv (2^b.toNat))) else none
 |.Pow=>ar x λa=>ar y λb=>if 2<=a/\a<=8/\0<=b/\b<=100 then some (.int (a^b.toNat)) else none
 |.BitAnd=>ar x λa=>ar y λb=>some (.int (Builtin.bitAnd a b))
 |.BitOr=>ar x λa=>ar y λb=>some (.int (Builtin.bitOr a b))
 |.BitXor=>ar x λa=>ar y λb=>some (.int (Builtin.bitXor a b))
 |.Div=>none
 |.MatMult=>none
noncomputable def aY {α:Type}:List (Option α)->Option (List α)
 |[]=>some []
 |some x::r=>(aY r).map (x::·)
 |none::_=>none
noncomputable def ba:Nat->St->AV->Option PyData
 |_,_,.int i=>some (.int i)
 |_,_,.str i=>some (.str ⟨i.toArray⟩)
 |_,_,.bool i=>some (.bool i)
 |_,_,.none=>some .none
 |n+1,st,.lst xs=>(aY (xs.map (ba n st))).map .list
 |n+1,st,.tup xs=>(aY (xs.map (ba n st))).map .tuple
 |n+1,st,.obj i=>match st[i]? with
  |some (.list xs)=>(aY (xs.map (ba n st))).map .list
  |_=>none
 |_,_,_=>none
noncomputable def rS (st:St)(a b:AV):Option Bool:=match ba 6 st a with
 |some x=>match ba 6 st b with
  |some y=>if x.canLay0&&y.canLay0 then some (PyData.eqv x y) else none
  |none=>none
 |none=>none
noncomputable def qm (xs:List Int)(i:Int):Bool:=xs.any (·==i)
noncomputable def bJ (st:St)(op:CmpOp)(x y:AV):Option Bool:=match op with
 |.Eq=>rS st x y
 |.NotEq=>(rS st x y).map (!·)
 |.Lt=>ar x λa=>ar y λb=>some (decide (a<b))
 |.LtE=>ar x λa=>ar y λb=>some (decide (a<=b))
 |.Gt=>ar x λa=>ar y λb=>some (decide (a>b))
 |.GtE=>ar x λa=>ar y λb=>some (decide (a>=b))
 |.NotIn=>ar x λa=>ql y λxs=>(allInts xs).map λl=>!qm l a
 |_=>none
noncomputable def fH (st:St):AV->Option Bool
 |.none=>some false
 |.bool b=>some b
 |.int i=>some (!(i==0))
 |.lst xs=>if xs.length<=1000000 then some (!xs.isEmpty) else none
 |.obj i=>match listAt st i with
  |some xs=>if xs.length<=1000000 then some (!xs.isEmpty) else none
  |none=>none
 |_=>none
noncomputable def cB (st:St)(x y:AV):Option AV:=ar y λi=>isStr x (λs=>if 0<=i/\i<2^62 then (s[i.toNat]?).map λc=>.str [c] else none) (match lY st x with
 |some xs=>if 0<=i/\i<2^62 then xs[i.toNat]? else none
 |none=>none)
noncomputable def qo (c:Nat):Nat:=if 65<=c/\c<=90 then c+32 else c
noncomputable def ye (c:Nat):Nat:=if 97<=c/\c<=122 then c-32 else c
noncomputable def eW (s:List Nat):Bool:=s.all (·<128)
noncomputable def eX (sep:List Nat):List (List Nat)->List Nat
 |[]=>[]
 |[x]=>x
 |x::y::r=>x++sep++eX sep (y::r)
noncomputable def bj (i:Int):List Nat:=(toString i).toList.map Char.toNat
noncomputable def aO (x:Int):List Int->List Int
 |[]=>[x]
 |y::r=>if x<y then x::y::r else y::aO x r
noncomputable def n7:List Int->Option Int
 |[]=>none
 |[x]=>some x
 |x::y::r=>(n7 (y::r)).map λm=>if m<x then m else x
noncomputable def lM (n:Int):List Nat:=(baseText "0x" 16 n).cps.toList
noncomputable def n8:List Int->Option Int
 |[]=>none
 |[x]=>some x
 |x::y::r=>(n8 (y::r)).map λm=>if x<m then m else x
noncomputable def rT (st:St)(v:AV)(f:List Int->Option (AV×St)):Option (AV×St):=match cN st v with
 |some xs=>match allInts xs with
  |some l=>f l
  |none=>none
 |none=>none
noncomputable def gA (st:St)(b:Bi)(xs:List AV):Option (AV×St):=match b with
 |.len=>iS xs λv=>isStr v (λs=>if s.length<1000000 then some (.int s.length,st) else none) (match lY st v with
  |some xs=>if xs.length<=2^24 then some (.int xs.length,st) else none
  |none=>none)
 |.range1=>iS xs λv=>ar v λn=>if n.natAbs<2^62 then some (.rng 0 n,st) else none
 |.range2=>two xs λv u=>ar v λa=>ar u λn=>if a.natAbs<2^61/\n.natAbs<2^61 then some (.rng a n,st) else none
 |.sum=>iS xs λv=>rT st v λl=>some (.int l.sum,st)
 |.min=>iS xs λv=>rT st v λl=>(n7 l).map λm=>(.int m,st)
 |.max=>iS xs λv=>rT st v λl=>(n8 l).map λm=>(.int m,st)
 |.hex=>iS xs λv=>ar v λn=>if (lM n).length<=1000 then some (.str (lM n),st) else none
 |.chr=>iS xs λv=>ar v λn=>if 0<=n/\n<256 then some (.str [n.toNat],st) else none
 |.ord=>iS xs λv=>onStr v λs=>iS s λc=>some (.int c,st)
 |.str=>iS xs λv=>ar v λn=>if n.natAbs<10^10 then some (.str (bj n),st) else none
 |.divmod=>two xs λv u=>ar v λa=>ar u λb=>if b≠0/\divisionGoesByPylong a b=false then some (.tup [.int (a.fdiv b),.int (a.fmod b)],st) else none
 |.tuple=>iS xs λv=>match cN st v with
  |some xs=>if xs.length<=2^20 then some (.tup xs,st) else none
  |none=>none
 |.iter=>iS xs λv=>ql v λxs=>some (.obj st.length,st++[.iter xs])
 |.next=>iS xs λv=>hY v λi=>match st[i]? with
  |some (.iter (x::xs))=>some (x,st.set i (.iter xs))
  |_=>none
noncomputable def d8 (b:Bool)(s:List Nat):Bool:=s.all λc=>!(c<32&&(b||c != 9)||c==127)
noncomputable def jM (st:St)(m:Sm)(x:AV)(xs:List AV):Option (AV×St):=match m with
 |.lower=>nil xs (onStr x λs=>if eW s&&decide (s.length<=1000000) then some (.str (s.map qo),st) else none)
 |.upper=>nil xs (onStr x λs=>if eW s&&decide (s.length<=1000000) then some (.str (s.map ye),st) else none)
 |.join=>iS xs λv=>onStr x λs=>match cN st v with
  |some xs=>match allStrs xs with
   |some l=>if (l.map List.length).sum+l.length*s.length<=1000000 then some (.str (eX s l),st) else none
   |none=>none
  |none=>none
 |.bitlen=>nil xs (ar x λi=>some (.int (intBits i),st))
 |.count=>iS xs λv=>Be x (λxs=>ar v λn=>match allInts xs with
  |some l=>some (.int (l.count n),st)
  |none=>none) (hY x λi=>ar v λn=>match listAt st i with
  |some xs=>match allInts xs with
   |some l=>some (.int (l.count n),st)
   |none=>none
  |none=>none)
 |.index=>iS xs λv=>ql x λxs=>onStr v λs=>match allStrs xs with
  |some l=>match l.findIdx? (·==s) with
   |some j=>if j<1000000 then some (.int j,st) else none
   |none=>none
  |none=>none
 |.append=>iS xs λv=>hY x λi=>match listAt st i with
  |some xs=>if xs.length<1000000 then some (.none,st.set i (.list (xs++[v]))) else none
  |none=>none
 |.reverse=>nil xs (hY x λi=>match listAt st i with
  |some xs=>if xs.length<=1000000 then some (.none,st.set i (.list xs.reverse)) else none
  |none=>none)
 |.search=>iS xs λv=>Bc x λb=>onStr v λs=>if d8 b s&&decide (s.length<=1000000) then some (.none,st) else none
noncomputable def qp {γ:Type}(st:St)(i:Nat)(f:Nat->Nat->Loc->Option γ):Option γ:=match st[i]? with
 |some o=>match o with
  |.inst c d=>match st[d]? with
   |some o=>match o with
    |.dict fs=>f c d fs
    |_=>none
   |none=>none
  |_=>none
 |none=>none
theorem qr {γ:Type}{st:St}{i:Nat}{f:Nat->Nat->Loc->Option γ}{r:γ}{P:Prop}(e:qp st i f=some r)(k:∀ c d fs,st[i]?=some (.inst c d)->st[d]?=some (.dict fs)->f c d fs=some r->P):P:=by
 unfold qp at e;generalize st[i]?=o at e k
 cases o with
 |none=>exact absurd e bg
 |some o=>
  cases o with
  |inst c d=>
   specialize k c d
   dsimp only at e;generalize st[d]?=o at e k
   cases o with
   |none=>exact absurd e bg
   |some o=>cases o<;>first |exact absurd e bg |exact k _ rfl rfl e
  |_=>exact absurd e bg
noncomputable def jn (st:St)(x:AV)(a:Nat):Option AV:=hY x λi=>qp st i λ_ _ fs=>af fs a
noncomputable def f4 (st:St)(x:AV)(a:Nat)(v:AV):Option St:=hY x λi=>qp st i λ_ d fs=>if fs.length<=100 then some (st.set d (.dict (ai fs a v))) else none
noncomputable def jo (st:St)(x y v:AV):Option St:=hY x λi=>ar y λk=>match listAt st i with
  |some xs=>if 0<=k/\k<xs.length/\k<2^62 then some (st.set i (.list (xs.set k.toNat v))) else none
  |none=>none
noncomputable def DI (st:St)(t:Ty)(x:AV):Option Bool:=match t with
 |.int=>ar x λ_=>some true
 |.str=>onStr x λ_=>some true
 |.bool=>Bb x λ_=>some true
 |.list=>Be x (λ_=>some true) (hY x λi=>match listAt st i with
  |some _=>some true
  |none=>none)
noncomputable def jp (st:St):AV->Bool
 |.obj i=>(listAt st i).isSome
 |_=>true
abbrev jN:=Nat->List AV->St->Option (AV×St)
structure Cx where
 C:jN
noncomputable def ey:List (Int×List Nat):=[(1,[79,80,84,73,77,73,90,69,68]),(2,[78,69,87,76,79,67,65,76,83]),(4,[86,65,82,65,82,71,83]),(8,[86,65,82,75,69,89,87,79,82,68,83]),(16,[78,69,83,84,69,68]),(32,[71,69,78,69,82,65,84,79,82]),(64,[78,79,70,82,69,69]),(128,[67,79,82,79,85,84,73,78,69]),(256,[73,84,69,82,65,66,76,69,95,67,79,82,79,85,84,73,78,69]),(512,[65,83,89,78,67,95,71,69,78,69,82,65,84,79,82])]
noncomputable def n9 (i:Int):Option (List Nat):=if (lM i).length<=1000 then some (((ey.find? (·.1==i)).map (·.2)).getD (lM i)) else none
noncomputable def aU (ok:St->Bool)(f:AV->St->Option (List AV×St)):List AV->St->Option (List AV×St)
 |[],st=>if ok st then some ([],st) else none
 |v::r,st=>if ok st then match f v st with
  |some (ys,Kx)=>match aU ok f r Kx with
   |some (zs,Ky)=>some (ys++zs,Ky)
   |none=>none
  |none=>none else none
noncomputable def tq (k:Nat):Nat:=[42,39,43,45,51,36,57].getD (k-30) 999
noncomputable def dt (st:St)(k:Nat)(x:AV):Bool:=(hY x λi=>qp st i λc _ fs=>if c=(if k=36 then 1 else 0)/\af fs (tq k)=none then some () else none).isSome
noncomputable def mV (i:Int):Bool:=decide (0<=i/\i<2^62)
noncomputable def mW:AV->Bool
 |.none=>true
 |_=>false
mutual
noncomputable def aa (X:Cx):E->Loc->St->Option (AV×St)
 |.l x,σ,st=>(af σ x).map λv=>(v,st)
 |.int i,_,st=>some (.int i,st)
 |.str s,_,st=>some (.str s,st)
 |.bool b,_,st=>some (.bool b,st)
 |.non,_,st=>some (.none,st)
 |.b op a b,σ,st=>match aa X a σ st with
  |some (x,Kx)=>match aa X b σ Kx with
   |some (y,Ky)=>(aK op x y).map λv=>(v,Ky)
   |none=>none
  |none=>none
 |.cmp op a b,σ,st=>match aa X a σ st with
  |some (x,Kx)=>match aa X b σ Kx with
   |some (y,Ky)=>(bJ Ky op x y).map λv=>(.bool v,Ky)
   |none=>none
  |none=>none
 |.ite c a b,σ,st=>match aJ X c σ st with
  |some (true,Kx)=>aa X a σ Kx
  |some (false,Kx)=>aa X b σ Kx
  |none=>none
 |.tup es,σ,st=>match aN X es σ st with
  |some (vs,Kx)=>some (.tup vs,Kx)
  |none=>none
 |.new true l,σ,st=>match du X l σ st with
  |some (vs,Kx)=>some (.obj Kx.length,Kx++[.list vs])
  |none=>none
 |.new false l,σ,st=>match du X l σ st with
  |some (vs,Kx)=>some (.lst vs,Kx)
  |none=>none
 |.sub a i,σ,st=>match aa X a σ st with
  |some (x,Kx)=>match aa X i σ Kx with
   |some (y,Ky)=>(cB Ky x y).map λv=>(v,Ky)
   |none=>none
  |none=>none
 |.call k args,σ,st=>match aN X args σ st with
  |some (vs,Kx)=>X.C k vs Kx
  |none=>none
 |.lcall _ _,_,_=>none
 |.meth k r args,σ,st=>match aa X r σ st with
  |some (x,Kx)=>if dt Kx k x then match aN X args σ Kx with
   |some (vs,Ky)=>X.C k (x::vs) Ky
   |none=>none
   else none
  |none=>none
 |.conv r a b,σ,st=>match aa X r σ st with
  |some (x,Kx)=>if dt Kx 35 x then match aa X a σ Kx with
   |some (y,Ky)=>X.C 35 [x,y,.bool b] Ky
   |none=>none
   else none
  |none=>none
 |.bi b args,σ,st=>match aN X args σ st with
  |some (vs,Kx)=>gA Kx b vs
  |none=>none
 |.sm m r args,σ,st=>match aa X r σ st with
  |some (x,Kx)=>if jp Kx x then match aN X args σ Kx with
   |some (vs,Ky)=>jM Ky m x vs
   |none=>none
   else none
  |none=>none
 |.attr r a,σ,st=>match aa X r σ st with
  |some (x,Kx)=>(jn Kx x a).map λv=>(v,Kx)
  |none=>none
 |.cattr b,_,st=>some (.str [if b then 9 else 32],st)
 |.frz _,_,_=>none
 |.isTy a t neg,σ,st=>match aa X a σ st with
  |some (x,Kx)=>(DI Kx t x).map λb=>(.bool (b != neg),Kx)
  |none=>none
 |.isNon a neg,σ,st=>match aa X a σ st with
  |some (x,Kx)=>some (.bool (mW x != neg),Kx)
  |none=>none
 |.isTru a neg,σ,st=>match aa X a σ st with
  |some (x,Kx)=>Bb x λb=>some (.bool (b != neg),Kx)
  |none=>none
 |.rxg b,_,st=>some (.rx b,st)
 |.dbg,_,st=>some (.bool true,st)
 |.flag x,σ,st=>match af σ x with
  |some v=>ar v λi=>(n9 i).map λs=>(.str s,st)
  |none=>none
 |.dlim,_,st=>some (.int 4000,st)
noncomputable def du (X:Cx):L->Loc->St->Option (List AV×St)
 |.list es,σ,st=>aN X es σ st
 |.cat a b,σ,st=>match aa X a σ st with
  |some (x,Kx)=>match aa X b σ Kx with
   |some (y,Ky)=>match cN Ky x with
    |some xs=>match cN Ky y with
     |some ys=>if xs.length+ys.length<=1000000 then some (xs++ys,Ky) else none
     |none=>none
    |none=>none
   |none=>none
  |none=>none
 |.rep a n,σ,st=>match aa X a σ st with
  |some (x,Kx)=>match aa X n σ Kx with
   |some (y,Ky)=>ar y λk=>if k<2^20/\-(2^20)<k then some (replicate k.toNat x,Ky) else none
   |none=>none
  |none=>none
 |.comp elt tg src ifs cap,σ,st=>match aa X src σ st with
  |some (v,Kx)=>match aF Kx v with
   |some xs=>if xs.length<=1000000 then aU (λst=>an st v xs) (λx st=>match aQ (aX σ cap) tg x with
     |some KA=>match dF X ifs KA st with
      |some (true,Kw)=>match aa X elt KA Kw with
       |some (y,MI)=>some ([y],MI)
       |none=>none
      |some (false,Kw)=>some ([],Kw)
      |none=>none
     |none=>none) xs Kx else none
   |none=>none
  |none=>none
 |.comp2 elt tg src LV Lr cap,σ,st=>match aa X src σ st with
  |some (v,Kx)=>match aF Kx v with
   |some xs=>match aU (λst=>an st v xs) (λx st=>match aQ (aX σ cap) tg x with
     |some KA=>match aa X Lr KA st with
      |some (v2,Ky)=>match aF Ky v2 with
       |some ys=>aU (λst=>an st v2 ys) (λy st=>match aQ KA LV y with
        |some LW=>match aa X elt LW st with
         |some (z,K4)=>some ([z],K4)
         |none=>none
        |none=>none) ys Ky
       |none=>none
      |none=>none
     |none=>none) xs Kx with
    |some (zs,Me)=>if zs.length<=1000000 then some (zs,Me) else none
    |none=>none
   |none=>none
  |none=>none
 |.rev a,σ,st=>match aa X a σ st with
  |some (x,Kx)=>match cN Kx x with
   |some xs=>if xs.length<=1000000 then some (xs.reverse,Kx) else none
   |none=>none
  |none=>none
 |.drop a i,σ,st=>match aa X a σ st with
  |some (x,Kx)=>match aa X i σ Kx with
   |some (y,Ky)=>ar y λk=>match cN Ky x with
    |some xs=>if mV k&&decide (xs.length<=1000000) then some (xs.drop k.toNat,Ky) else none
    |none=>none
   |none=>none
  |none=>none
 |.sorted a,σ,st=>match aa X a σ st with
  |some (x,Kx)=>ql x λxs=>match allInts xs with
   |some l=>if l.length<64 then some ((l.foldr aO []).map .int,Kx) else none
   |none=>none
  |none=>none
 |.split a sep,σ,st=>match aa X a σ st with
  |some (x,Kx)=>onStr x λs=>match aa X sep σ Kx with
   |some (y,Ky)=>onStr y λp=>if p.isEmpty||decide (s.length>1000)||decide ((Txt.split ⟨s.toArray⟩ ⟨p.toArray⟩).length>1000) then none else some ((Txt.split ⟨s.toArray⟩ ⟨p.toArray⟩).map λx=>.str x.cps.toList,Ky)
   |none=>none
  |none=>none
noncomputable def aN (X:Cx):List E->Loc->St->Option (List AV×St)
 |[],_,st=>some ([],st)
 |e::r,σ,st=>match aa X e σ st with
  |some (v,Kx)=>match aN X r σ Kx with
   |some (vs,Ky)=>some (v::vs,Ky)
   |none=>none
  |none=>none
noncomputable def aJ (X:Cx):C->Loc->St->Option (Bool×St)
 |.and a b,σ,st=>match aJ X a σ st with
  |some (true,Kx)=>aJ X b σ Kx
  |some (false,Kx)=>some (false,Kx)
  |none=>none
 |.or a b,σ,st=>match aJ X a σ st with
  |some (true,Kx)=>some (true,Kx)
  |some (false,Kx)=>aJ X b σ Kx
  |none=>none
 |.not a,σ,st=>match aJ X a σ st with
  |some (b,Kx)=>some (!b,Kx)
  |none=>none
 |.val e,σ,st=>match aa X e σ st with
  |some (v,Kx)=>(fH Kx v).map λb=>(b,Kx)
  |none=>none
noncomputable def dF (X:Cx):List C->Loc->St->Option (Bool×St)
 |[],_,st=>some (true,st)
 |e::r,σ,st=>match aJ X e σ st with
  |some (true,Kx)=>dF X r σ Kx
  |some (false,Kx)=>some (false,Kx)
  |none=>none
end
inductive Fw where
 |next
 |brk
 |ret (v:AV)
noncomputable def Fw.ctorIdx (x:Fw):Nat:=Fw.casesOn x 0 1 λ_=>2
abbrev Rs:=Option (Fw×Loc×St)
noncomputable def bc (ok:St->Bool)(f:AV->Loc->St->Rs):List AV->Loc->St->Rs
 |[],σ,st=>if ok st then some (.next,σ,st) else none
 |v::r,σ,st=>if ok st then match f v σ st with
  |some (.next,KC,Kx)=>bc ok f r KC Kx
  |some (.brk,KC,Kx)=>some (.brk,KC,Kx)
  |some (.ret u,KC,Kx)=>some (.ret u,KC,Kx)
  |none=>none else none
noncomputable def f7 (c:Loc->St->Option (Bool×St))(b:Loc->St->Rs):Nat->Loc->St->Rs
 |0,_,_=>none
 |n+1,σ,st=>match c σ st with
  |some (true,Kx)=>match b σ Kx with
   |some (.next,K5,Ky)=>f7 c b n K5 Ky
   |some (.brk,K5,Ky)=>some (.next,K5,Ky)
   |some (.ret u,K5,Ky)=>some (.ret u,K5,Ky)
   |none=>none
  |some (false,Kx)=>some (.next,σ,Kx)
  |none=>none
noncomputable def jq:Nat:=1000000
noncomputable def augI (op:Operator)(a b:Int):Option Int:=match op with
 |.Add=>some (a+b)
 |.Sub=>some (a-b)
 |.Mult=>if eE a b then some (a*b) else none
 |.FloorDiv=>if b≠0/\divisionGoesByPylong a b=false then some (a.fdiv b) else none
 |.LShift=>if 0<=b/\(intBits a:Int)+b<=2^27 then some (a*2^b.toNat) else none
 |.RShift=>if 0<=b/\b<2^60 then some (a.fdiv (2^b.toNat)) else none
 |.BitOr=>some (Builtin.bitOr a b)
 |.BitXor=>some (Builtin.bitXor a b)
 |_=>none
noncomputable def lN (op:Operator)(x y:AV):Option AV:=ar x λa=>ar y λb=>(augI op a b).map .int
noncomputable def qt:AV->Bool
 |.none=>true
 |.bool _=>true
 |.int _=>true
 |.str _=>true
 |_=>false
noncomputable def qu (st:St)(x v:AV):Option St:=hY x λi=>match listAt st i with
  |some ys=>ql v λxs=>if xs.length+ys.length<=1000000 then some (st.set i (.list xs)) else none
  |none=>none
mutual
noncomputable def xS (X:Cx):S->Loc->St->Rs
 |.asg tg e,σ,st=>match aa X e σ st with
  |some (v,Kx)=>(aQ σ tg v).map λKA=>(.next,KA,Kx)
  |none=>none
 |.asg2 xs es,σ,st=>match aN X es σ st with
  |some (vs,Kx)=>(bA σ xs.reverse vs.reverse).map λKA=>(.next,KA,Kx)
  |none=>none
 |.asgs xs e,σ,st=>match aa X e σ st with
  |some (v,Kx)=>some (.next,xs.foldl (λσ x=>ai σ x v) σ,Kx)
  |none=>none
 |.aug x op e,σ,st=>match af σ x with
  |some u=>match aa X e σ st with
   |some (v,Kx)=>(lN op u v).map λr=>(.next,ai σ x r,Kx)
   |none=>none
  |none=>none
 |.setI o i e,σ,st=>match aa X e σ st with
  |some (v,Kx)=>match aa X o σ Kx with
   |some (ov,Ky)=>match aa X i σ Ky with
    |some (iv,K4)=>(jo K4 ov iv v).map λMe=>(.next,σ,Me)
    |none=>none
   |none=>none
  |none=>none
 |.augI o i op e,σ,st=>match aa X o σ st with
  |some (ov,Kx)=>match aa X i σ Kx with
   |some (iv,Ky)=>match cB Ky ov iv with
    |some old=>match aa X e σ Ky with
     |some (v,K4)=>match lN op old v with
      |some r=>(jo K4 ov iv r).map λMe=>(.next,σ,Me)
      |none=>none
     |none=>none
    |none=>none
   |none=>none
  |none=>none
 |.setSl o e,σ,st=>match aa X e σ st with
  |some (v,Kx)=>match aa X o σ Kx with
   |some (ov,Ky)=>(qu Ky ov v).map λK4=>(.next,σ,K4)
   |none=>none
  |none=>none
 |.setA o a e,σ,st=>match aa X e σ st with
  |some (v,Kx)=>match aa X o σ Kx with
   |some (ov,Ky)=>(f4 Ky ov a v).map λK4=>(.next,σ,K4)
   |none=>none
  |none=>none
 |.expr e,σ,st=>match aa X e σ st with
  |some (v,Kx)=>if qt v then some (.next,σ,Kx) else none
  |none=>none
 |.iff c a b,σ,st=>match aJ X c σ st with
  |some (true,Kx)=>cw X a σ Kx
  |some (false,Kx)=>cw X b σ Kx
  |none=>none
 |.whl c a,σ,st=>f7 (aJ X c) (cw X a) jq σ st
 |.for tg src body orelse,σ,st=>match aa X src σ st with
  |some (v,Kx)=>match aF Kx v with
   |some xs=>match bc (λst=>an st v xs) (λx σ st=>match aQ σ tg x with
     |some KA=>cw X body KA st
     |none=>none) xs σ Kx with
    |some (.next,K5,Ky)=>cw X orelse K5 Ky
    |some (.brk,K5,Ky)=>some (.next,K5,Ky)
    |some (.ret u,K5,Ky)=>some (.ret u,K5,Ky)
    |none=>none
   |none=>none
  |none=>none
 |.forR x src body,σ,st=>match aa X src σ st with
  |some (v,Kx)=>hY v λi=>match listAt Kx i with
   |some xs=>match bc (λst=>an st (.obj i) xs) (λv σ st=>cw X body (ai σ x v) st) xs.reverse σ Kx with
    |some (.next,K5,Ky)=>some (.next,K5,Ky)
    |some (.brk,K5,Ky)=>some (.next,K5,Ky)
    |some (.ret u,K5,Ky)=>some (.ret u,K5,Ky)
    |none=>none
   |none=>none
  |none=>none
 |.ret e,σ,st=>match aa X e σ st with
  |some (v,Kx)=>some (.ret v,σ,Kx)
  |none=>none
 |.retN,σ,st=>some (.ret .none,σ,st)
 |.brk,σ,st=>some (.brk,σ,st)
 |.del o i,σ,st=>match aa X o σ st with
  |some (ov,Kx)=>match aa X i σ Kx with
   |some (iv,Ky)=>if dt Ky 31 ov then match X.C 31 [ov,iv] Ky with
    |some (_,K4)=>some (.next,σ,K4)
    |none=>none else none
   |none=>none
  |none=>none
 |.bad,_,_=>none
noncomputable def cw (X:Cx):List S->Loc->St->Rs
 |[],σ,st=>some (.next,σ,st)
 |s::r,σ,st=>match xS X s σ st with
  |some (.next,KC,Kx)=>cw X r KC Kx
  |some (.brk,KC,Kx)=>some (.brk,KC,Kx)
  |some (.ret u,KC,Kx)=>some (.ret u,KC,Kx)
  |none=>none
end
end
noncomputable def NM:List String:=["n","nt","norm","raw","is_simple","_headers","_wall","_formatparam","Headers","_div2n1n","_div3n2n","_int2digits","_digits2int","_divmod_pos","int_divmod","pretty_flags","_parse_varint","Whitespace","_law_cells","_law_word","_law_rules","_law_most","_law_start","_law_twin","_law_sign","_law_octets","_law_trade","_law_lead","_law_played","_law_ways","law","__name__","tspecials","_name_disallowed_re","_value_disallowed_re","__init__","_convert_string_type","__len__","__setitem__","__delitem__","__getitem__","__contains__","get_all","get","keys","values","items","__repr__","__str__","__bytes__","setdefault","add_header","_DIV_LIMIT","inner","COMPILER_FLAG_NAMES","longest_run_of_spaces","indent_level","equal","not_equal_witness","less","not_less_witness","k","compile","param","value","quote","a","b","pad","half_n","mask","a12","a3","b1","b2","r","a_digits","digits","q_digits","a_digit","q","flags","names","i","iterator","val","script","cells","place","words","rules","p","size","number","free","sizes","counts","uses","turn","octet","signs","bag","text","shift","reader","stay","lead","low","choice","book","name","log","turns","ways","there","back","start","first","rising","typed","last","told","width","over","under","parts","figures","half","_sre","self","headers","__debug__","default","_name","_value","_params","q1","q2","x","L","R","mid","upper","lower","bit_length","reversed","reverse","ZeroDivisionError","range","flag","join","next","S","T","ws","count","ch","tabsize","other","split","gone","min","rule","s","ready","iter","word","runs","list","str","regex","AssertionError","len","append","kv","v","encode","divmod","q_digit","chr","tuple","sorted","search","replace","type","TypeError","format","hex","ord","sign","sum","total","ValueError","repr","__class__","one","bool","int","part","index","max"]
noncomputable def DJ:List (List Nat):=[[110],[110,116],[110,111,114,109],[114,97,119],[105,115,95,115,105,109,112,108,101],[95,104,101,97,100,101,114,115],[95,119,97,108,108],[95,102,111,114,109,97,116,112,97,114,97,109],[72,101,97,100,101,114,115],[95,100,105,118,50,110,49,110],[95,100,105,118,51,110,50,110],[95,105,110,116,50,100,105,103,105,116,115],[95,100,105,103,105,116,115,50,105,110,116],[95,100,105,118,109,111,100,95,112,111,115],[105,110,116,95,100,105,118,109,111,100],[112,114,101,116,116,121,95,102,108,97,103,115],[95,112,97,114,115,101,95,118,97,114,105,110,116],[87,104,105,116,101,115,112,97,99,101],[95,108,97,119,95,99,101,108,108,115],[95,108,97,119,95,119,111,114,100],[95,108,97,119,95,114,117,108,101,115],[95,108,97,119,95,109,111,115,116],[95,108,97,119,95,115,116,97,114,116],[95,108,97,119,95,116,119,105,110],[95,108,97,119,95,115,105,103,110],[95,108,97,119,95,111,99,116,101,116,115],[95,108,97,119,95,116,114,97,100,101],[95,108,97,119,95,108,101,97,100],[95,108,97,119,95,112,108,97,121,101,100],[95,108,97,119,95,119,97,121,115],[108,97,119],[95,95,110,97,109,101,95,95],[116,115,112,101,99,105,97,108,115],[95,110,97,109,101,95,100,105,115,97,108,108,111,119,101,100,95,114,101],[95,118,97,108,117,101,95,100,105,115,97,108,108,111,119,101,100,95,114,101],[95,95,105,110,105,116,95,95],[95,99,111,110,118,101,114,116,95,115,116,114,105,110,103,95,116,121,112,101],[95,95,108,101,110,95,95],[95,95,115,101,116,105,116,101,109,95,95],[95,95,100,101,108,105,116,101,109,95,95],[95,95,103,101,116,105,116,101,109,95,95],[95,95,99,111,110,116,97,105,110,115,95,95],[103,101,116,95,97,108,108],[103,101,116],[107,101,121,115],[118,97,108,117,101,115],[105,116,101,109,115],[95,95,114,101,112,114,95,95],[95,95,115,116,114,95,95],[95,95,98,121,116,101,115,95,95],[115,101,116,100,101,102,97,117,108,116],[97,100,100,95,104,101,97,100,101,114],[95,68,73,86,95,76,73,77,73,84],[105,110,110,101,114],[67,79,77,80,73,76,69,82,95,70,76,65,71,95,78,65,77,69,83],[108,111,110,103,101,115,116,95,114,117,110,95,111,102,95,115,112,97,99,101,115],[105,110,100,101,110,116,95,108,101,118,101,108],[101,113,117,97,108],[110,111,116,95,101,113,117,97,108,95,119,105,116,110,101,115,115],[108,101,115,115],[110,111,116,95,108,101,115,115,95,119,105,116,110,101,115,115],[107],[99,111,109,112,105,108,101],[112,97,114,97,109],[118,97,108,117,101],[113,117,111,116,101],[97],[98],[112,97,100],[104,97,108,102,95,110],[109,97,115,107],[97,49,50],[97,51],[98,49],[98,50],[114],[97,95,100,105,103,105,116,115],[100,105,103,105,116,115],[113,95,100,105,103,105,116,115],[97,95,100,105,103,105,116],[113],[102,108,97,103,115],[110,97,109,101,115],[105],[105,116,101,114,97,116,111,114],[118,97,108],[115,99,114,105,112,116],[99,101,108,108,115],[112,108,97,99,101],[119,111,114,100,115],[114,117,108,101,115],[112],[115,105,122,101],[110,117,109,98,101,114],[102,114,101,101],[115,105,122,101,115],[99,111,117,110,116,115],[117,115,101,115],[116,117,114,110],[111,99,116,101,116],[115,105,103,110,115],[98,97,103],[116,101,120,116],[115,104,105,102,116],[114,101,97,100,101,114],[115,116,97,121],[108,101,97,100],[108,111,119],[99,104,111,105,99,101],[98,111,111,107],[110,97,109,101],[108,111,103],[116,117,114,110,115],[119,97,121,115],[116,104,101,114,101],[98,97,99,107],[115,116,97,114,116],[102,105,114,115,116],[114,105,115,105,110,103],[116,121,112,101,100],[108,97,115,116],[116,111,108,100],[119,105,100,116,104],[111,118,101,114],[117,110,100,101,114],[112,97,114,116,115],[102,105,103,117,114,101,115],[104,97,108,102],[95,115,114,101],[115,101,108,102],[104,101,97,100,101,114,115],[95,95,100,101,98,117,103,95,95],[100,101,102,97,117,108,116],[95,110,97,109,101],[95,118,97,108,117,101],[95,112,97,114,97,109,115],[113,49],[113,50],[120],[76],[82],[109,105,100],[117,112,112,101,114],[108,111,119,101,114],[98,105,116,95,108,101,110,103,116,104],[114,101,118,101,114,115,101,100],[114,101,118,101,114,115,101],[90,101,114,111,68,105,118,105,115,105,111,110,69,114,114,111,114],[114,97,110,103,101],[102,108,97,103],[106,111,105,110],[110,101,120,116],[83],[84],[119,115],[99,111,117,110,116],[99,104],[116,97,98,115,105,122,101],[111,116,104,101,114],[115,112,108,105,116],[103,111,110,101],[109,105,110],[114,117,108,101],[115],[114,101,97,100,121],[105,116,101,114],[119,111,114,100],[114,117,110,115],[108,105,115,116],[115,116,114],[114,101,103,101,120],[65,115,115,101,114,116,105,111,110,69,114,114,111,114],[108,101,110],[97,112,112,101,110,100],[107,118],[118],[101,110,99,111,100,101],[100,105,118,109,111,100],[113,95,100,105,103,105,116],[99,104,114],[116,117,112,108,101],[115,111,114,116,101,100],[115,101,97,114,99,104],[114,101,112,108,97,99,101],[116,121,112,101],[84,121,112,101,69,114,114,111,114],[102,111,114,109,97,116],[104,101,120],[111,114,100],[115,105,103,110],[115,117,109],[116,111,116,97,108],[86,97,108,117,101,69,114,114,111,114],[114,101,112,114],[95,95,99,108,97,115,115,95,95],[111,110,101],[98,111,111,108],[105,110,116],[112,97,114,116],[105,110,100,101,120],[109,97,120]]
noncomputable def nm (i:Nat):Str:=if i<201 then ofString (NM.getD i "") else ⟨#[2000000+i]⟩
theorem uX:NM.map ofString=DJ.map λl=>⟨l.toArray⟩:=by decide +kernel
theorem tr:DJ.Nodup:=by decide +kernel
theorem lZ:DJ.all (λl=>l.all (·<1000))=true:=by decide +kernel
theorem nm_lt {i:Nat}(h:i<201):∃ l,DJ[i]?=some l/\nm i=⟨l.toArray⟩:=by
 have hl:NM.length=201:=by decide +kernel
 have hi:i<NM.length:=by exact bz
 have e:=congrArg (λl=>l[i]?) uX;simp only[getElem?_map]at e;rw[getElem?_eq_getElem hi,map_some]at e
 cases q:DJ[i]? with
 |none=>rw[q]at e;cases e
 |some l=>
  rw[q,map_some]at e;refine⟨l,rfl,?_⟩;unfold nm;rw[if_pos h,getD_eq_getElem?_getD,getElem?_eq_getElem hi,getD_some];exact K7 e
theorem nm_inj {i j:Nat}(h:nm i=nm j):i=j:=by
 by_cases hi:i<201
 ·refine ak (nm_lt hi) λl q e=>?_;by_cases hj:j<201
  ·refine ak (nm_lt hj) λl' q' e'=>?_;rw[e,e']at h
   have hl:l=l':=by
    have:=congrArg (λx=>x.cps.toList) h;simpa using this
   subst hl;refine aw (List.getElem?_eq_some_iff.mp q) λh1 e1=>?_;refine aw (List.getElem?_eq_some_iff.mp q') λh2 e2=>?_;exact(List.getElem_inj tr).mp (e1.trans e2.symm)
  ·exfalso;rw[e]at h;unfold nm at h;rw[if_neg hj]at h;have hm:=mem_of_getElem? q;have:=all_eq_true.mp (all_eq_true.mp lZ l hm)
   have e3:l=[2000000+j]:=by
    have:=congrArg (λx=>x.cps.toList) h;simpa using this
   have:=this (2000000+j) (by rw[e3];simp);simp at this;exact not_succ_le_zero 0 (Q1 0x3e83111141e84806100110011111102 [_] this rfl)
 ·by_cases hj:j<201
  ·exfalso;refine ak (nm_lt hj) λl q e=>?_;rw[e]at h;unfold nm at h;rw[if_neg hi]at h;have hm:=mem_of_getElem? q;have:=all_eq_true.mp (all_eq_true.mp lZ l hm)
   have e3:l=[2000000+i]:=by
    have:=congrArg (λx=>x.cps.toList) h;simpa using this.symm
   have:=this (2000000+i) (by rw[e3];simp);simp at this;exact not_succ_le_zero 0 (Q1 0x3e83111141e84806100110011111102 [_] this rfl)
  ·unfold nm at h;rw[if_neg hi,if_neg hj]at h;have:=congrArg (λx=>x.cps.toList) h;simp at this;exact bz
noncomputable def ca:Nat->Addr
 |0=>fm
 |_=>jl
noncomputable def OR (F:bf)(φ:List Addr)(h:Heap)(a:Addr):AO->Prop
 |.list xs=>∃ arr,h.PlainList a arr/\KI F φ xs arr.toList
 |.inst k d=>∃ dx sl,h.get? a=some ⟨.ref (ca k),some dx,.plain,sl⟩/\φ[d]?=some dx
 |.dict fs=>∃ es n,h.get? a=some (dictOf es n)/\es.length<=fs.length/\(∀ x v,af fs x=some v->∃ v',getL (nm x) es=some (some v')/\VR F φ v v') /\
   (∀ x,af fs x=none->getL (nm x) es=some none)/\(∀ e∈es,∃ x t,e.key=.str x t)
 |.iter xs=>∃ (l:Addr) (i:Nat) (arr:Array Value),h.IsListIter a l i /\
   Ly F l arr/\KI F φ xs (arr.toList.drop i)
 |.dead=>True
noncomputable def NI (F:bf)(a:Addr)(m:Str->Option Value):Prop:=∃ o es ep,F a=some o/\o.data=.dict es ep/\StrKeys es/\∀ name,nsFind es name=m name
noncomputable def z6 (F:bf)(h:Heap):Prop:=∀ a o,F a=some o->h.get? a=some o
theorem NI.ns {F:bf}{a:Addr}{m:Str->Option Value}{h:Heap}(x:NI F a m)(y:z6 F h):h.Ns a m:=
 let ⟨o,es,ep,e,r⟩:=x;⟨o,es,ep,y _ _ e,r⟩
theorem NI.mono {F F':bf}{a:Addr}{m:Str->Option Value}(x:NI F a m)(y:Lp F F'):NI F' a m:=
 let ⟨o,es,ep,e,r⟩:=x;⟨o,es,ep,y _ _ e,r⟩
noncomputable def Mv (F:bf)(h:Heap)(P:Addr)(pos:Pos)(q:Str):Prop:=
 ∃ ps,h.get? P=some (tabObj ps)/\TriplesOk ps.toList /\
  ((codeAmong pos ps.toList=none)\/∃ c' o vs t,codeAmong pos ps.toList=some (.ref c')/\F c'=some o/\o.data=.fields vs/\vs[1]?=some (.str q t))
structure KX where
 K:Frag
 mg:Str->Option Value
 mb:Str->Option Value
 mc:Str->Option Value
 pos1:Pos
 pos2:Pos
 q1:Str
 q2:Str
noncomputable def uY:Array Nat:=#[14,10,4,1,1,22,0,31,16,127,0,13,7,22,0,31,16,127,0,1]
noncomputable def l6:Array Nat:=#[14,14,4,1,1,9,4294966783,0,0,2147483648,0,0,0,0,0,13,11,9,4294966783,0,0,2147483648,0,0,0,0,0,1]
noncomputable def codeOf (b:Bool):Array Nat:=if b then uY else l6
inductive MZ (F:bf)(a:Addr)(code:Array Nat):Prop
 |mk (fs:Array Value) (c:Addr) (oc:Obj) (vs:Array Value) (n:Nat):F a=some { cls:=.type "re.Pattern",data:=.fields fs }->fs.getD 5 .none=.ref c->Builtin.Re.reRawNat (fs.getD 6 .none)=0->Builtin.Re.reRawNat (fs.getD 2 .none)=0 ->
  F c=some oc->oc.data=.seq vs n->(vs.map Builtin.Re.reRawOf).map (·.toNat)=code->MZ F a code
theorem MZ.mono {F F':bf}{a:Addr}{code:Array Nat}(x:MZ F a code)(y:Lp F F'):MZ F' a code:=
 x.casesOn λfs c oc vs n e1 e2 e3 e4 e5 e6=>.mk fs c oc vs n (y _ _ e1) e2 e3 e4 (y _ _ e5) e6
structure Mt (Z:KX)(F:bf):Prop where
 X:∀ a o,Z.K.lookup a=some o->F a=some o
 g:NI F mainGlobals Z.mg
 b:NI F builtinsNs Z.mb
 c:NI F cStatics Z.mc
 lim:Z.mc "sys.recursionlimit"=none
 rx:∀ b,MZ F (if b then fp else ft) (codeOf b)
theorem Mt.mono {Z:KX}{F F':bf}(x:Mt Z F)(y:Lp F F'):Mt Z F':=⟨λa o e=>y _ _ (x.X a o e),x.g.mono y,x.b.mono y,x.c.mono y,x.lim,λb=>(x.rx b).mono y⟩
theorem Mt.inK {Z:KX}{F:bf}{h:Heap}(x:Mt Z F)(y:z6 F h):Z.K.In h:=λa o e=>y _ _ (x.X a o e)
theorem Mt.noLimit {Z:KX}{F:bf}{h:Heap}(x:Mt Z F)(y:z6 F h):h.NoLimit:=⟨_,x.c.ns y,x.lim⟩
structure KD (Z:KX)(F:bf)(φ:List Addr)(st:St)(h:Heap):Prop where
 base:Mt Z F
 frz:z6 F h
 len:φ.length=st.length
 nod:φ.Nodup
 new:∀ a∈φ,F a=none
 dom:∀ a∈φ,∃ o,h.get? a=some o
 obj:∀ (i:Nat) (a:Addr) (o:AO),φ[i]?=some a->st[i]?=some o->OR F φ h a o
 t1:Mv F h cQ Z.pos1 Z.q1
 t2:Mv F h dr Z.pos2 Z.q2
 n1:F cQ=none/\cQ∉φ
 n2:F dr=none/\dr∉φ
structure Step (F:bf)(φ:List Addr)(own:List Addr)(h:Heap)(F':bf)(KJ:List Addr)(h':Heap):Prop where
 le:Lp F F'
 fnew:∀ a o,F' a=some o->F a=some o\/h.get? a=none\/a∈φ
 pre:φ <+: KJ
 pnew:∀ a∈KJ,a∈φ\/h.get? a=none
 dom:∀ a o,h.get? a=some o->∃ o',h'.get? a=some o'
 kept:∀ b o,h.get? b=some o->b∉φ->b≠cQ->b≠dr->b∉own->h'.get? b=some o
theorem Step.refl (F:bf)(φ own:List Addr)(h:Heap):Step F φ own h F φ h:=
 ⟨Lp.refl F,λ_ _ e=>.inl e,prefix_refl φ,λ_ m=>.inl m,λ_ o e=>⟨o,e⟩,λ_ _ e _ _ _ _=>e⟩
theorem Step.trans {F F' OH:bf}{φ KJ Ni own:List Addr}{h h' Ny:Heap}(a:Step F φ own h F' KJ h')(b:Step F' KJ own h' OH Ni Ny):Step F φ own h OH Ni Ny:=by
 have nd:∀ x,h'.get? x=none->h.get? x=none:=λx e=>by
  cases q:h.get? x with
  |none=>rfl
  |some o=>refine aw (a.dom x o q) λo' e'=>?_;rw[e']at e;cases e
 refine⟨a.le.trans b.le,λx o e=>?_,a.pre.trans b.pre,λx m=>?_,λx o e=>?_,λx o e n1 n2 n3 n4=>?_⟩
 ·rcases b.fnew x o e with e |e |e
  ·exact a.fnew x o e
  ·exact .inr (.inl (nd x e))
  ·rcases a.pnew x e with e |e
   ·exact .inr (.inr e)
   ·exact .inr (.inl e)
 ·rcases b.pnew x m with m |e
  ·exact a.pnew x m
  ·exact .inr (nd x e)
 ·refine aw (a.dom x o e) λo' e'=>?_;exact b.dom x o' e'
 ·have m':x∉KJ:=λm=>by
   rcases a.pnew x m with m |e'
   ·exact n1 m
   ·rw[e]at e';cases e'
  exact b.kept x o (a.kept x o e n1 n2 n3 n4) m' n2 n3 n4
theorem Step.own {F F':bf}{φ KJ own own':List Addr}{h h':Heap}(a:Step F φ own h F' KJ h')(b:∀ x∈own,x∈own'):Step F φ own' h F' KJ h':=
 ⟨a.le,a.fnew,a.pre,a.pnew,a.dom,λx o e n1 n2 n3 n4=>a.kept x o e n1 n2 n3 λm=>n4 (b x m)⟩
noncomputable def KS (env:Env)(h:Heap)(x:Str)(v:Value):Prop:=
 (env.kindOf x=some .local/\∃ m,h.Ns env.locals m/\m x=some v) \/
 ((env.kindOf x=some .cell\/env.kindOf x=some .free)/\∃ c,env.cells.lookup x=some c/\h.IsCell c (some v))
structure KH (F:bf)(φ:List Addr)(σ:Loc)(sc:Scope)(env:Env)(O:List Addr)(h:Heap):Prop where
 kind:env.scope.kind=.function
 glob:env.globals=mainGlobals
 blt:env.builtins=builtinsNs
 gl:∀ x,sc.names.lookup x=some .globalImplicit->env.kindOf x=some .globalImplicit
 lc:∀ x,sc.names.lookup x=some .local->env.kindOf x=some .local
 cl:∀ x,sc.names.lookup x=some .cell->env.kindOf x=some .cell/\∃ c,env.cells.lookup x=some c/\c∈O
 fr:∀ x,sc.names.lookup x=some .free->(env.kindOf x=some .cell\/env.kindOf x=some .free)/\∃ c,env.cells.lookup x=some c
 ns:∃ m,h.Ns env.locals m
 val:∀ x v,af σ x=some v->∃ v',VR F φ v v'/\KS env h (nm x) v'
 apart:∀ x y c,env.cells.lookup x=some c->env.cells.lookup y=some c->x=y
 off:env.locals∉env.cells.map (·.2)
 own:∀ a∈env.locals::env.cells.map (·.2),F a=none/\a∉φ/\a≠cQ/\a≠dr
 cel:∀ c∈env.cells.map (·.2),∃ v,h.IsCell c v
 loO:env.locals∈O
 subO:∀ a∈O,a∈env.locals::env.cells.map (·.2)
section
variable {Z:KX}{w:World}{A:Around}{F F' F0:bf}{φ KJ φ0 own:List Addr}{st L9 Kx Ky Kw:St}{s:Shared}{h h' hb:Heap}{env:Env}{pos:Pos}{σ KA Lm:Loc}{sc scope sI:Scope}{cap ps caps:List Nat}{O:List Addr}{I:Addr}
section
variable {a:Addr}{o:Obj}
theorem OR.mono {ao:AO}(x:OR F φ h a ao)(hF:Lp F F')(hp:φ <+: KJ)(e:∀ o,h.get? a=some o->h'.get? a=some o):OR F' KJ h' a ao:=by
 cases ao with
 |list xs=>refine ak x ?_;clear x;rintro arr ⟨n,e1⟩ r;exact⟨arr,⟨n,e _ e1⟩,r.mono hF hp⟩
 |inst k d=>refine dh x ?_;clear x;intro dx sl e1 r;exact⟨dx,sl,e _ e1,eU hp r⟩
 |dict fs=>
  refine yo x ?_;clear x;intro es n e1 l r r2 r3;exact⟨es,n,e _ e1,l,λx v hx=>let ⟨v',a,b⟩:=r x v hx;⟨v',a,b.mono hF hp⟩,r2,r3⟩
 |iter xs=>refine kg x ?_;clear x;rintro l i arr ⟨o,e1,z⟩ e2 r;exact⟨l,i,arr,⟨o,e _ e1,z⟩,e2.mono hF,r.mono hF hp⟩
 |dead=>trivial
theorem Mv.mono {P:Addr}{pos:Pos}{q:Str}(x:Mv F h P pos q)(hF:Lp F F')(e:∀ o,h.get? P=some o->h'.get? P=some o):Mv F' h' P pos q:=by
 refine cV x ?_;clear x;intro ps e1 t r;refine⟨ps,e _ e1,t,r.imp id ?_⟩;rintro⟨c',o,vs,t',a,b,c⟩;exact⟨c',o,vs,t',a,hF _ _ b,c⟩
theorem KD.heap (R:KD Z F φ st h)(k:∀ b o,h.get? b=some o->(b∈φ\/(∃ o,F b=some o)\/b=cQ\/b=dr)->h'.get? b=some o):KD Z F φ st h' where
 base:=R.base
 frz:=λb o e=>k b o (R.frz b o e) (.inr (.inl ⟨o,e⟩))
 len:=R.len
 nod:=R.nod
 new:=R.new
 dom:=λb m=>let ⟨o,e⟩:=R.dom b m;⟨o,k b o e (.inl m)⟩
 obj:=λi b o e1 e2=>(R.obj i b o e1 e2).mono (Lp.refl F) (prefix_refl φ) λo' e'=>k b o' e' (.inl (mem_of_getElem? e1))
 t1:=R.t1.mono (Lp.refl F) λo e=>k _ o e (.inr (.inr (.inl rfl)))
 t2:=R.t2.mono (Lp.refl F) λo e=>k _ o e (.inr (.inr (.inr rfl)))
 n1:=R.n1
 n2:=R.n2
theorem KD.ext (R:KD Z F φ st h)(k:∀ b o,h.get? b=some o->h'.get? b=some o):KD Z F φ st h':=R.heap λb o e _=>k b o e
theorem Step.ext {own:List Addr}(k:∀ b o,h.get? b=some o->h'.get? b=some o):Step F φ own h F φ h':=
 ⟨Lp.refl F,λ_ _ e=>.inl e,prefix_refl φ,λ_ m=>.inl m,λb o e=>⟨o,k b o e⟩,λb o e _ _ _ _=>k b o e⟩
theorem KD.size_new (R:KD Z F φ st h):F h.objs.size=none/\h.objs.size∉φ/\h.objs.size≠cQ/\h.objs.size≠dr:=by
 refine⟨?_,λm=>?_,λe=>?_,λe=>?_⟩
 ·cases q:F h.objs.size with
  |none=>rfl
  |some o=>exact absurd (lt_size (R.frz _ _ q)) (lt_irrefl _)
 ·refine aw (R.dom _ m) λo q=>?_;exact absurd (lt_size q) (lt_irrefl _)
 ·refine ak R.t1 λps q _=>?_;rw[← e]at q;exact absurd (lt_size q) (lt_irrefl _)
 ·refine ak R.t2 λps q _=>?_;rw[← e]at q;exact absurd (lt_size q) (lt_irrefl _)
noncomputable def ia (F:bf)(a:Addr)(o:Obj):bf:=λx=>if x=a then some o else F x
theorem bP:ia F a o a=some o:=if_pos rfl
theorem cW (hn:F a=none):Lp F (ia F a o):=λx o' e=>by
 unfold ia;by_cases q:x=a
 ·subst q;rw[hn]at e;cases e
 ·rw[if_neg q];exact e
theorem KD.freeze (R:KD Z F φ st h)(hn:F a=none)(ha:a∉φ)(h1:a≠cQ)(h2:a≠dr)(e:h.get? a=some o):KD Z (ia F a o) φ st h where
 base:=R.base.mono (cW hn)
 frz:=λb o' q=>by
  unfold ia at q;by_cases z:b=a
  ·rw[if_pos z]at q;cases q;rw[z];exact e
  ·rw[if_neg z]at q;exact R.frz b o' q
 len:=R.len
 nod:=R.nod
 new:=λb m=>by
  have hb:b≠a:=λz=>ha (by rw[← z];exact m);unfold ia;rw[if_neg hb];exact R.new b m
 dom:=R.dom
 obj:=λi b o' e1 e2=>(R.obj i b o' e1 e2).mono (cW hn) (prefix_refl φ) λ_ q=>q
 t1:=R.t1.mono (cW hn) λ_ q=>q
 t2:=R.t2.mono (cW hn) λ_ q=>q
 n1:=⟨by unfold ia;rw[if_neg h1.symm];exact R.n1.1,R.n1.2⟩
 n2:=⟨by unfold ia;rw[if_neg h2.symm];exact R.n2.1,R.n2.2⟩
theorem KD.grow {ao:AO}(R:KD Z F φ st h)(hn:F a=none)(ha:a∉φ)(h1:a≠cQ)(h2:a≠dr)(e:h.get? a=some o)(x:OR F (φ++[a]) h a ao):KD Z F (φ++[a]) (st++[ao]) h where
 base:=R.base
 frz:=R.frz
 len:=by rw[length_append,length_append,R.len];rfl
 nod:=List.nodup_append.mpr ⟨R.nod,by simp,λb m c m'=>by rintro rfl;simp at m';subst m';exact ha m⟩
 new:=λb m=>by
  rcases mem_append.mp m with m |m
  ·exact R.new b m
  ·simp at m;subst m;exact hn
 dom:=λb m=>by
  rcases mem_append.mp m with m |m
  ·exact R.dom b m
  ·simp at m;subst m;exact⟨o,e⟩
 obj:=λi b o' e1 e2=>by
  by_cases hi:i<φ.length
  ·rw[getElem?_append_left hi]at e1;rw[getElem?_append_left (R.len▸hi)]at e2;exact(R.obj i b o' e1 e2).mono (Lp.refl F) (prefix_append φ [a]) λ_ q=>q
  ·have M0:φ.length<=i:=Nat.le_of_not_lt hi;rw[getElem?_append_right M0]at e1;rw[getElem?_append_right (R.len▸M0)]at e2
   have hz:i-φ.length=0:=by
    cases q:i-φ.length with
    |zero=>rfl
    |succ n=>rw[q]at e1;simp at e1
   have Nz:i-st.length=0:=R.len▸hz;rw[hz]at e1;rw[Nz]at e2;simp at e1 e2;subst e1;subst e2;exact x
 t1:=R.t1
 t2:=R.t2
 n1:=⟨R.n1.1,λm=>by rcases mem_append.mp m with m |m;exact R.n1.2 m;simp at m;exact h1 m.symm⟩
 n2:=⟨R.n2.1,λm=>by rcases mem_append.mp m with m |m;exact R.n2.2 m;simp at m;exact h2 m.symm⟩
theorem tt {l:List Addr}(hn:l.Nodup){i j:Nat}{a:Addr}(h1:l[i]?=some a)(h2:l[j]?=some a):i=j:=by
 refine aw (List.getElem?_eq_some_iff.mp h1) λl1 e1=>?_;refine aw (List.getElem?_eq_some_iff.mp h2) λl2 e2=>?_;exact(List.getElem_inj hn).mp (e1.trans e2.symm)
theorem KD.upd {ao:AO}{i:Nat}(R:KD Z F φ st h)(hi:φ[i]?=some a)(hs:Heap.SameBut a h h')(x:OR F φ h' a ao)(e:∃ o,h'.get? a=some o):KD Z F φ (st.set i ao) h' where
 base:=R.base
 frz:=λb o' q=>(hs.2 b λz=>by subst z;rw[R.new b (mem_of_getElem? hi)]at q;cases q).trans (R.frz b o' q)
 len:=by rw[length_set];exact R.len
 nod:=R.nod
 new:=R.new
 dom:=λb m=>by
  by_cases z:b=a
  ·subst z;exact e
  ·refine aw (R.dom b m) λo' q=>?_;exact⟨o',(hs.2 b z).trans q⟩
 obj:=λj b o' e1 e2=>by
  by_cases z:j=i
  ·subst z;have:b=a:=K7 (e1.symm.trans hi);subst this;have hl:j<st.length:=R.len▸(List.getElem?_eq_some_iff.mp hi).1;rw[getElem?_set_self hl]at e2;cases e2;exact x
  ·rw[getElem?_set_ne (Ne.symm z)]at e2;have hb:b≠a:=λq=>z (tt R.nod e1 (q▸hi));exact(R.obj j b o' e1 e2).mono (Lp.refl F) (prefix_refl φ) λo'' q=>(hs.2 b hb).trans q
 t1:=R.t1.mono (Lp.refl F) λ_ q=>(hs.2 _ λz=>R.n1.2 (by rw[z];exact mem_of_getElem? hi)).trans q
 t2:=R.t2.mono (Lp.refl F) λ_ q=>(hs.2 _ λz=>R.n2.2 (by rw[z];exact mem_of_getElem? hi)).trans q
 n1:=R.n1
 n2:=R.n2
theorem Step.upd {own:List Addr}(ha:a∈φ)(hs:Heap.SameBut a h h')(e:∃ o,h'.get? a=some o):Step F φ own h F φ h':=
 ⟨Lp.refl F,λ_ _ q=>.inl q,prefix_refl φ,λ_ m=>.inl m,λb o q=>by
  by_cases z:b=a
  ·subst z;exact e
  ·exact⟨o,(hs.2 b z).trans q⟩,λb o q n1 _ _ _=>(hs.2 b λz=>n1 (z▸ha)).trans q⟩
theorem Step.freeze {own:List Addr}(hn:F a=none)(hx:h.get? a=none)(k:∀ b o,h.get? b=some o->h'.get? b=some o):Step F φ own h (ia F a o) φ h':=
 ⟨cW hn,λx o' q=>by
  unfold ia at q;by_cases z:x=a
  ·subst z;exact .inr (.inl hx)
  ·rw[if_neg z]at q;exact .inl q,prefix_refl φ,λ_ m=>.inl m,λb o q=>⟨o,k b o q⟩,λb o q _ _ _ _=>k b o q⟩
theorem Step.grow {own:List Addr}(hx:h.get? a=none)(k:∀ b o,h.get? b=some o->h'.get? b=some o):Step F φ own h F (φ++[a]) h':=
 ⟨Lp.refl F,λ_ _ q=>.inl q,prefix_append φ [a],λx m=>by
  rcases mem_append.mp m with m |m
  ·exact .inl m
  ·simp at m;subst m;exact .inr hx,λb o q=>⟨o,k b o q⟩,λb o q _ _ _ _=>k b o q⟩
theorem aC {o':Obj}:∀ b x,h.get? b=some x->(h.push o').get? b=some x:=λ_ _ e=>Heap.get?_push_of_some _ e
theorem cD (h:Heap):h.get? h.objs.size=none:=by
 cases q:h.get? h.objs.size with
 |none=>rfl
 |some o=>exact absurd (lt_size q) (lt_irrefl _)
theorem KD.newF (R:KD Z F φ st h)(hf:o.isFreed=false):KD Z (ia F h.objs.size o) φ st (h.push o)/\∀ own,Step F φ own h (ia F h.objs.size o) φ (h.push o):=by
 refine gS R.size_new λn1 n2 n3 n4=>?_;exact⟨(R.ext aC).freeze n1 n2 n3 n4 (get?_push_size _ hf),λown=>Step.freeze n1 (cD h) aC⟩
theorem KD.newM {ao:AO}(R:KD Z F φ st h)(hf:o.isFreed=false)(x:OR F (φ++[h.objs.size]) (h.push o) h.objs.size ao) :
  KD Z F (φ++[h.objs.size]) (st++[ao]) (h.push o)/\∀ own,Step F φ own h F (φ++[h.objs.size]) (h.push o):=by
 refine gS R.size_new λn1 n2 n3 n4=>?_;exact⟨(R.ext aC).grow n1 n2 n3 n4 (get?_push_size _ hf) x,λown=>Step.grow (cD h) aC⟩
theorem KS.kept {env:Env}{x:Str}{v:Value}(n:KS env h x v)(k:∀ b∈env.locals::env.cells.map (·.2),∀ o,h.get? b=some o->h'.get? b=some o):KS env h' x v:=by
 rcases n with ⟨a,m,b,c⟩ |⟨a,c,d,e⟩
 ·exact .inl ⟨a,m,Heap.Ns.at' b λo e=>k _ (.head _) o e,c⟩
 ·refine .inr ⟨a,c,d,?_⟩;refine ak e ?_;clear e;intro o ho hd;refine⟨o,k c (.tail _ ?_) o ho,hd⟩;exact mem_map.mpr ⟨(x,c),lookup_mem d,rfl⟩
where
 lookup_mem {α β:Type} [BEq α] [LawfulBEq α]:∀ {l:List (α×β)} {x:α} {y:β},l.lookup x=some y->(x,y)∈l
  |[],_,_,h=>by simp at h
  |(a,b)::r,x,y,h=>by
   rw[lookup_cons]at h
   cases q:x==a with
   |true=>rw[q]at h;cases h;rw[eq_of_beq q];exact .head _
   |false=>rw[q]at h;exact .tail _ (lookup_mem h)
theorem KH.ex {σ:Loc}{sc:Scope}{env:Env}{O:List Addr}(L:KH F φ σ sc env O h):∀ b∈env.locals::env.cells.map (·.2),∃ o,h.get? b=some o:=λb m=>by
 cases m with
 |head=>refine Dr L.ns λm o _ _ e _=>?_;exact⟨o,e⟩
 |tail _ m=>refine dh (L.cel b m) λv o e _=>?_;exact⟨o,e⟩
theorem KH.step {σ:Loc}{sc:Scope}{env:Env}{O:List Addr}(L:KH F φ σ sc env O h)(s:Step F φ [] h F' KJ h'):KH F' KJ σ sc env O h':=by
 have k:∀ b∈env.locals::env.cells.map (·.2),∀ o,h.get? b=some o->h'.get? b=some o:=λb m o e=>
  let ⟨_,n2,n3,n4⟩:=L.own b m
  s.kept b o e n2 n3 n4 (by simp)
 refine⟨L.kind,L.glob,L.blt,L.gl,L.lc,L.cl,L.fr,?_,λx v e=>?_,L.apart,L.off,λb m=>?_,λc m=>?_,L.loO,L.subO⟩
 ·refine aw L.ns λm n=>?_;exact⟨m,Heap.Ns.at' n λo e=>k _ (.head _) o e⟩
 ·refine ak (L.val x v e) λv' a b=>?_;exact⟨v',a.mono s.le s.pre,b.kept k⟩
 ·refine gS (L.own b m) λn1 n2 n3 n4=>?_;refine aw (L.ex b m) λo e=>?_;refine⟨?_,λq=>?_,n3,n4⟩
  ·cases q:F' b with
   |none=>rfl
   |some o'=>
    rcases s.fnew b o' q with z |z |z
    ·rw[n1]at z;cases z
    ·rw[e]at z;cases z
    ·exact(n2 z).elim
  ·rcases s.pnew b q with z |z
   ·exact n2 z
   ·rw[e]at z;cases z
 ·refine dh (L.cel c m) λv o e d=>?_;exact⟨v,o,k c (.tail _ m) o e,d⟩
end
structure KP (k:Nat)(A:Around):Prop where
 hd:A.handled=none
 dp:A.depth+2*k<=900
 un:A.units+20*k<=9000
theorem KP.less {k j:Nat}{A:Around}(r:KP k A)(h:j<=k):KP j A:=⟨r.hd,by have:=r.dp;exact Q2 0x3843162124011065210384315212401103 [_,_,_] h this rfl,by have:=r.un;exact Q2 0x232841614224011065142023284151422401103 [_,_,_] h this rfl⟩
theorem KP.deeper {k:Nat}{A:Around}(r:KP (k+1) A)(env:Env):KP k (A.deeper env):=⟨r.hd,by have:=r.dp;simp only[Around.deeper];exact Q1 0x3843111150212401103843152121114001102 [_,_] this rfl,by have:=r.un;simp only[Around.deeper_units];exact Q1 0x23284111150142240110232841514223114001102 [_,_] this rfl⟩
theorem KP.depth {k:Nat}{A:Around}(r:KP k A):A.depth<recursionLimit:=by have:=r.dp;unfold recursionLimit;exact Q1 0x384315212401103e831111401102 [_,_] this rfl
noncomputable def aq:Value->Shared->Prop:=λ_ _=>False
section
variable (Z:KX)(w:World)
noncomputable def Good (A:Around)(t:Sem Value)(F:bf)(φ:List Addr)(s:Shared)(v:AV)(Kw:St):Prop:=
 ∀ Q:Value->Shared->Prop,(∀ F' KJ v' h' tk,Step F φ [] s.heap F' KJ h'->KD Z F' KJ Kw h'->VR F' KJ v v'->Q v' ⟨h',s.gens,s.drawn,tk,s.os⟩) ->
  aA w A t Q aq s
noncomputable def cx (k:Nat)(C:jN):Prop:=
 ∀ f args st v Kw,C f args st=some (v,Kw)->∀ A F φ (s:Shared) vs,KP k A->KD Z F φ st s.heap->KI F φ args vs ->
  Good Z w A (if f=35 then call (fv f) (vs.take 2) [((ofString "name"),vs.getD 2 .none)] else call (fv f) vs) F φ s v Kw
end
open PySem.SeqAt
section
open PySem.Builtin.Re
theorem Ke {a b:Bool}(h:(a&&b)=true):b=true:=by
 cases a with
 |true=>exact h
 |false=>exact absurd h LU
theorem yu {c:Nat}(h:d8 true [c]=true)(seen:Sre.Seen):∃ LM,Sre.inSet uY c uY.size 5 true seen=.ok (false,LM):=by
 have h1:¬ c<=31:=by intro z;simp[d8]at h;exact not_succ_le_zero 0 (Q2 0x420211101f214110011111103 [_] z h.1 rfl)
 have h2:c≠127:=by intro z;subst z;simp[d8]at h
 exact⟨_,Eq.trans (if_neg (c:=(decide (0<=c)&&decide (c<=31))=true) (λz=>h1 (of_decide_eq_true (Ke z)))) (Eq.trans (if_neg (c:=(c==127)=true) (λz=>h2 (eq_of_beq z))) rfl)⟩
theorem Bk:∀ c,c<256->d8 false [c]=true->((l6.getD (5+(1+c/32)) 0).testBit (c%32))=false:=by decide +kernel
theorem yv {c:Nat}(h:d8 false [c]=true)(seen:Sre.Seen):∃ LM,Sre.inSet l6 c l6.size 5 true seen=.ok (false,LM):=by
 have h1:(decide (c<256)&&(l6.getD (5+(1+c/32)) 0).testBit (c%32))=false:=by
  by_cases z:c<256
  ·rw[Bk c z h];simp
  ·simp[z]
 exact⟨_,Eq.trans (if_neg (c:=(decide (c<256)&&(l6.getD (5+(1+c/32)) 0).testBit (c%32))=true) (λz=>LU (h1.symm.trans z))) rfl⟩
theorem uZ (b:Bool){c:Nat}(h:d8 b [c]=true)(seen:Sre.Seen):∃ LM,Sre.inSet (codeOf b) c (codeOf b).size 5 true seen=.ok (false,LM):=by
 cases b
 ·exact yv h seen
 ·exact yu h seen
theorem jX {γ:Type}{o:Except String (Bool×Sre.Seen)}{k:String->Except String γ}{f g:Sre.Seen->Except String γ}{x:Sre.Seen}{r:Except String γ}(h:o=.ok (false,x))(e:g x=r):(match (generalizing:=false) o with
 |.ok (true,x)=>f x
 |.ok (false,x)=>g x
 |.error z=>k z)=r:=by subst h;exact e
theorem lO (b:Bool)(m:Sre.M)(hc:m.code=codeOf b):∀ (fuel s:Nat) (seen:Sre.Seen),(∀ i,s<=i->i<m.lim->d8 b [m.text.getD i 0]=true)->∃ LM,Sre.M.admitted m fuel s seen=.ok (none,LM):=by
 intro fuel
 induction fuel with
 |zero=>
  intro s seen _;exact⟨seen,rfl⟩
 |succ fuel ih=>
  intro s seen h;by_cases z:s>=m.lim
  ·exact⟨_,if_pos z⟩
  ·refine aw (uZ b (h s (le_refl _) (by exact Gl)) seen) λLM e=>?_;refine aw (ih (s+1) LM λi h1 h2=>h i (by exact uN) h2) λr k=>?_;exact⟨r,Eq.trans (if_neg z) (jX (hc.symm▸e) k)⟩
noncomputable def mX (m:Sre.M):Prop:=m.answer=some false/\m.frames=[]/\m.outcome=none
theorem tv (b:Bool)(text:Array Nat)(h:∀ i,i<text.size->d8 b [text.getD i 0]=true):mX (Sre.forSearch (codeOf b) text 0 0 text.size false):=by
 unfold Sre.forSearch;simp only;split
 ·exact⟨rfl,rfl,rfl⟩
 ·have f:∀ m:Sre.M,m.code=codeOf b->m.text=text->m.lim=text.size->m.frames=[]->m.outcome=none->mX (m.attemptFrom 0 true):=by
   intro m h1 h2 h3 h4 h5;unfold Sre.M.attemptFrom
   have hf:m.hasFirstSet=true:=by
    unfold Sre.M.hasFirstSet;rw[h1];cases b<;>rfl
   rw[hf];refine aw (lO b m h1 (m.lim+1-0) 0 m.seen λi _ hi=>by rw[h2];exact h i (by rw[← h3];exact hi)) λLM e=>?_;simp only[e,Bool.not_true,false_eq_true,if_false];exact⟨rfl,h4,h5⟩
  refine f _ ?_ ?_ ?_ ?_ ?_<;>first |rfl |(cases b<;>rfl)
section
variable {aM:Program}{E:Value->Shared->Prop}
theorem u4 {m:Sre.M}(h:mX m)(n:Nat):∃ m',reDrive (n+1) m=pure m'/\m'.outcome=some .failed:=by
 refine mR h ?_;clear h;intro h1 h2 h3;refine⟨{ m with outcome:=some .failed },?_,rfl⟩
 have e:m.runFor 4={ m with outcome:=some .failed }:=by
  have s1:m.step={ m with outcome:=some .failed }:=by
   unfold Sre.M.step;simp[h1,h2,h3]
  show(if m.outcome.isSome then m else Sre.M.runFor 3 m.step)=_;rw[h3,s1];rfl
 show(let m:=m.runFor reTurnSteps;if m.outcome.isSome then pure m else do rule "sre.turn";reDrive n m)=_;unfold reTurnSteps;rw[e];rfl
theorem oa {m:Sre.M}(h:mX m){Q:Option Sre.M->Shared->Prop}(hQ:Q none s):wpAny (model aM w) A (reRunToEnd m) Q E s:=by
 refine ak (u4 h (2^64-1)) λm' e ho=>?_;unfold reRunToEnd;refine wpAny_bind (wpAny_of_eq e ?_);refine wpAny_bind (wpAny_forIn_list _ (λ_ _ s'=>s'=s) _ (λx rest b s' hs=>?_) (λb s' hs=>?_) _ _ rfl)
 ·subst hs;split
  ·exact wpAny_bind (wpAny_rule (wpAny_pure rfl))
  ·exact wpAny_pure rfl
 ·subst hs;rw[ho];exact wpAny_pure hQ
theorem mY {F:bf}{a:Addr}{b:Bool}(x:List Nat)(t:Tok)(hx:d8 b x=true)(hl:x.length<=1000000)(hr:MZ F a (codeOf b)) :
  Meets (Builtin.«re.Pattern.search» ⟨[.ref a,.str ⟨x.toArray⟩ t],[]⟩) (λ_ R s=>z6 F s.heap/\R (.ok (.ret .none)) s):=
 .of_wp λaM w A R s h=>by
  obtain⟨hp,g,d,tk,os⟩:=s;refine av h ?_;clear h;intro hF h;obtain⟨fs,c,oc,vs,n,e1,e2,e3,e4,e5,e6,e7⟩:=hr;have g1:=hF _ _ e1;have g2:=hF _ _ e5;unfold Builtin.«re.Pattern.search» reTarget reNamed;wp_walk;refine wpAny_ite_false (by rw[e3];decide) ?_;refine wpAny_bind (show wpAny _ _ (reNoCollectionInside _ 0) _ _ _ from wpAny_of_eq (a:=()) (by unfold reNoCollectionInside;rfl) ?_);rw[e2];unfold reRawItems;refine wpAny_bind (wpAny_bind (wpAny_seqItems g2 e6 (wpAny_pure (wpAny_pure ?_))));unfold reAnswer;refine wpAny_bind ?_
  have e8:min ((2:Int)^63-1).toNat x.toArray.size=x.toArray.size:=by
   apply Nat.min_eq_right;simp;exact bN
  have e9:min (0:Int).toNat x.toArray.size=0:=by simp
  simp only[e4,getD_some,e7,e8,e9];refine oa (tv b x.toArray λi hi=>?_) ?_
  ·unfold d8 at hx ⊢;have M0:i<x.length:=by simpa using hi
   have:=all_eq_true.mp hx x[i] (getElem_mem M0);simp only[all_cons,all_nil,Bool.and_true];rw[show x.toArray.getD i 0=x[i] by simp[Array.getD,M0]];exact this
  ·exact wpAny_pure ⟨_,rfl,h⟩
end
theorem lP:PlainAttrs "re.Pattern":=
 ⟨⟨"object.__getattribute__",by rw[typeLookup_type,builtinLookup_eq_fast];kernel_rfl,by decide +kernel⟩,by rw[typeLookup_type,builtinLookup_eq_fast];kernel_rfl⟩
theorem f8:Slot "re.Pattern" "search" "re.Pattern.search":=
 .of (owner:="re.Pattern") (n:="search") (by rw[typeLookup_type,builtinLookup_eq_fast];kernel_rfl) (by decide +kernel) (by decide +kernel) (by decide +kernel)
  (by first |exact .inl (by decide +kernel) |exact .inr (by decide +kernel)) (by rw[isSubtype_type];kernel_rfl)
theorem km:typeOf (.builtin "re.Pattern.search")=Pure.pure (.type "method_descriptor"):=by show builtinType _=_;rw[builtinType_eq_fast];kernel_rfl
theorem jO:entryFor table "re.Pattern.search"=some Builtin.«re.Pattern.search»:=entryFor_of_tree (by kernel_rfl)
theorem ko (a b:Value):argsOk "re.Pattern.search" ⟨[a,b],[]⟩:=by unfold argsOk;kernel_rfl
end
theorem Good.val {t:Sem Value}{v:AV}(R:KD Z F φ st s.heap)
  (x:∀ Q:Value->Shared->Prop,(∀ v' tk,VR F φ v v'->Q v' ⟨s.heap,s.gens,s.drawn,tk,s.os⟩)->aA w A t Q aq s):Good Z w A t F φ s v st:=
 λQ h=>x Q λv' tk hv=>h F φ v' s.heap tk (Step.refl ..) R hv
theorem Good.fresh {t:Sem Value}{v:AV}{o:Obj}(R:KD Z F φ st s.heap)(hf:o.isFreed=false)(hv:VR (ia F s.heap.objs.size o) φ v (.ref s.heap.objs.size))
  (x:∀ Q:Value->Shared->Prop,(∀ tk,Q (.ref s.heap.objs.size) ⟨s.heap.push o,s.gens,s.drawn,tk,s.os⟩)->aA w A t Q aq s):Good Z w A t F φ s v st:=
 λQ h=>x Q λtk=>h _ φ _ _ tk ((R.newF hf).2 _) (R.newF hf).1 hv
theorem qv {a:Int}{b:Nat}(h:((intBits a:Nat):Int)<=(b:Int)):a.fdiv (2^b)=if a<0 then -1 else 0:=by
 have hb:a.natAbs<2^b:=by
  by_cases z:a=0
  ·subst z;exact Nat.two_pow_pos b
  ·have hn:a.natAbs≠0:=λe=>z (Int.natAbs_eq_zero.mp e)
   have:intBits a=a.natAbs.log2+1:=by
    unfold intBits;simp[z]
   have h2:a.natAbs.log2<b:=by rw[this]at h;exact ofNat_le.mp h
   exact(log2_lt hn).mp h2
 have hp:(0:Int)<2^b:=Int.pow_pos (by decide);have hc:((2:Int)^b)=((2^b:Nat):Int):=by norm_cast
 rw[fdiv_eq_ediv_of_nonneg _ (Int.le_of_lt hp)];by_cases q:a<0
 ·rw[if_pos q];have:a+2^b>=0/\a+2^b<2^b:=by rw[hc];exact GA hb q
  have e:=Int.ediv_eq_zero_of_lt this.1 this.2
  have:(a+2^b)/(2^b:Int)=a/2^b+1:=by
   have:=Int.add_mul_ediv_right a 1 (Int.ne_of_gt hp)
   rwa [Int.one_mul]at this
  exact JM (this.symm.trans e)
 ·rw[if_neg q];exact Int.ediv_eq_zero_of_lt (Int.not_lt.mp q) (by rw[hc];exact Gw hb)
theorem rshift_int {a b:Int}{t u:Tok}{E:Value->Shared->Prop}{Q:Value->Shared->Prop}(hb:0<=b)(h:∀ tk Mj,Q (.int (a.fdiv (2^b.toNat)) tk) { s with toks:=Mj }) :
  aA w A (binaryOp .RShift (.int a t) (.int b u)) Q E s:=by
 by_cases q:b>=((intBits a:Nat):Int)
 ·refine AutoIntOps.rshift_1 (by lia) q ?_;have e:=qv (a:=a) (b:=b.toNat) (Int.le_trans q (Int.le_of_eq (zR hb).symm));rw[← e];exact h _ _
 ·exact AutoIntOps.rshift_2 (by lia) q (h _ _)
theorem pow_int {a b:Int}{t u:Tok}{E:Value->Shared->Prop}{Q:Value->Shared->Prop}(h1:2<=a)(h2:a<=8)(h3:0<=b)(h4:b<=100)
  (h:∀ tk Mj,Q (.int (a^b.toNat) tk) { s with toks:=Mj }):aA w A (binaryOp .Pow (.int a t) (.int b u)) Q E s:=by
 by_cases z:b=0
 ·subst z;exact AutoIntOps.pow_0 (by exact bz) (by decide) (by have:=h s.toks (s.toks+1);rwa [show a^toNat 0=1 from by simp]at this)
 ·refine AutoIntOps.pow_4 (by exact bz) (by simpa using z) (by simp;lia) (by simp;lia) ?_ (h _ _);have hb:intBits a<=64:=intBits_le_64 (by first |exact Int.lt_of_lt_of_le (by decide) h1 |lia) (by first |exact Int.lt_of_le_of_lt h2 (by decide) |lia);have hm:((intBits a:Nat):Int)*b<=64*100:=Int.mul_le_mul (by exact yp) h4 h3 (by decide);unfold intTooBig;simp[bitsLine];lia
theorem foldl_rep {α:Type}(v:α):∀ (n:Nat) (acc:Array α),((replicate n #[v]).foldl (·++·) acc).toList=acc.toList++replicate n v:=by
 intro n
 induction n with
 |zero=>
  intro acc;simp
 |succ n ih=>
  intro acc;rw[replicate_succ,foldl_cons,ih,toList_append,replicate_succ];simp
theorem iT:fillsNumberSlot (.type "tuple") "mul"=pure false:=
 PySem.fillsNumberSlot_seq (id:="tuple.__mul__") (r:=some (.builtin "tuple.__rmul__")) slot_tuple_mul.lookup (by decide +kernel) PySem.F.slot_tuple_rmul.lookup (by decide +kernel)
theorem mZ:seqRepeat? (.type "tuple")=pure (some (.builtin "tuple.__mul__")):=by
 unfold seqRepeat?;rw[PySem.seqSlot_of (T:="tuple") (name:="__mul__") (id:="tuple.__mul__") slot_tuple_mul.lookup (by decide +kernel),PySem.seqSlot_of (T:="tuple") (name:="__rmul__") (id:="tuple.__rmul__") PySem.F.slot_tuple_rmul.lookup (by decide +kernel)];rfl
theorem kq (a:Int)(t:Tok)(l:Addr)(items:Array Value)(n:Nat) :
  Meets (Builtin.«int.__rmul__» ⟨[.int a t,.ref l],[]⟩) (λ_ R s=>s.heap.get? l=some { cls:=.type "tuple",dict:=none,data:=.seq items n,slots:=#[] }/\R (.ok (.ret Value.notImplemented)) s):=
 .of_wp λaM w A R s h=>by obtain⟨hp,g,d,tk,os⟩:=s;refine av h ?_;clear h;intro hl h;wp_walk;exact⟨_,rfl,h⟩
theorem lQ (l:Addr)(v:Value)(n:Nat)(x:Int)(u:Tok)(h1:2<=x)(h2:x<=1000) :
  Meets (Builtin.«tuple.__mul__» ⟨[.ref l,.int x u],[]⟩) (λ_ R s=>s.heap.get? l=some { cls:=.type "tuple",dict:=none,data:=.seq #[v] n,slots:=#[] }/\R (.ok (.ret (Value.ref s.heap.objs.size))) { s with heap:=s.heap.push { cls:=Value.type "tuple",data:=Data.seq ((replicate x.toNat #[v]).foldl (·++·) #[]) } }):=
 .of_wp λaM w A R s h=>by
  obtain⟨hp,g,d,tk,os⟩:=s;refine av h ?_;clear h;intro hl h;have c1:¬ (x < -(2^63)\/x>=2^63):=λe=>e.elim (Int.not_lt.mpr (Int.le_trans (by decide) h1)) λe=>Int.not_lt.mpr e (Int.lt_of_le_of_lt h2 (by decide));wp_walk;refine wpAny_ite_false (by simp;lia) ?_;wp_walk;refine wpAny_ite_false (by simp;lia) ?_;wp_walk;refine wpAny_ite_false (by simp;lia) ?_;wp_walk;refine wpAny_ite_false (decide_eq_false (by simp;lia)) ?_;wp_walk;refine wpAny_ite_false (by simp[Builtin.Tuple.tupleTooMany,sizeLine];lia) ?_;wp_walk;refine wpAny_ite_false (decide_eq_false (by rw[← length_toList,foldl_rep,sizeLine_eq];simp;lia)) ?_;wp_walk;exact⟨_,rfl,h⟩
theorem KI.replicate {x:AV}{v:Value}(h:VR F φ x v):∀ n,KI F φ (replicate n x) (replicate n v):=by
 intro n
 induction n with
 |zero=>
  exact .nil
 |succ n ih=>
  exact .cons h (ih)
theorem yw (c:Nat)(n:Int):Txt.mul ⟨[c].toArray⟩ n=⟨(replicate n.toNat c).toArray⟩:=by
 unfold Txt.mul;by_cases h1:n<1
 ·rw[if_pos h1];have:n.toNat=0:=by lia
  rw[this];rfl
 ·rw[if_neg h1];by_cases h2:n=1
  ·subst h2;rfl
  ·have:(n==1||(⟨[c].toArray⟩:Str).length==0)=false:=by
    simp only[Bool.or_eq_false_iff];exact⟨by simpa using h2,rfl⟩
   rw[if_neg (by rw[this];decide)];congr 1;apply Array.ext';exact foldl_rep c n.toNat #[]
theorem Go {n:Nat}(h:n<=1000000):n<=sizeLine:=le_trans h (by decide)
theorem ku {a b:Int}(hm:eE a b=true):IntMulOk a b:=by
 intro q;unfold eE at hm;rw[q]at hm;cases hm
theorem og {op:Operator}{x y v:AV}{vx vy:Value}{g:Int->Int->Int}(R:KD Z F φ st s.heap)(hx:VR F φ x vx)(hy:VR F φ y vy)
  (k:∀ a b t u Q,(∀ tk Mj,Q (.int (g a b) tk) { s with toks:=Mj })->aA w A (binaryOp op (.int a t) (.int b u)) Q aq s) (e:(ar x λa=>ar y λb=>some (.int (g a b)))=some v) :
  Good Z w A (binaryOp op vx vy) F φ s v st:=
 cu (P:=λvx=>Good Z w A (binaryOp op vx vy) F φ s v st) hx e λa t e=>cu (P:=λvy=>Good Z w A (binaryOp op (.int a t) vy) F φ s v st) hy e λb u e=>
  K7 e▸Good.val R λQ h=>k a b t u Q λtk Mj=>h _ _ (.int _ tk)
theorem l8 {op:Operator}{x y v:AV}{vx vy:Value}{g:Int->Int->Int}{c:Int->Int->Prop}[d:∀ a b,Decidable (c a b)](R:KD Z F φ st s.heap)(hx:VR F φ x vx)(hy:VR F φ y vy)
  (k:∀ a b t u Q,c a b->(∀ tk Mj,Q (.int (g a b) tk) { s with toks:=Mj })->aA w A (binaryOp op (.int a t) (.int b u)) Q aq s) (e:(ar x λa=>ar y λb=>if c a b then some (.int (g a b)) else none)=some v) :
  Good Z w A (binaryOp op vx vy) F φ s v st:=
 cu (P:=λvx=>Good Z w A (binaryOp op vx vy) F φ s v st) hx e λa t e=>cu (P:=λvy=>Good Z w A (binaryOp op (.int a t) vy) F φ s v st) hy e λb u e=>
  oI e λhc e=>K7 e▸Good.val R λQ h=>k a b t u Q hc λtk Mj=>h _ _ (.int _ tk)
theorem yx (a b:List Nat):(⟨a.toArray⟩:Str)++⟨b.toArray⟩=⟨(a++b).toArray⟩:=by
 show Str.mk (a.toArray++b.toArray)=_;simp
theorem u5 {arr:Array Value}{xs:List AV}(d:KI F φ xs arr.toList)(h:(!xs.isEmpty)=true):arr≠#[]:=λz=>by
 have:=d.length;rw[z]at this
 cases xs with
 |nil=>cases h
 |cons=>cases this
theorem yy {xs ys:List AV}{v:AV}{a1 a2:Addr}{LY Lz:Array Value}{n1 n2:Nat}(R:KD Z F φ st s.heap)(e1:F a1=some { cls:=.type "tuple",data:=.seq LY n1 })(d1:KI F φ xs LY.toList)
  (e2:F a2=some { cls:=.type "tuple",data:=.seq Lz n2 }) (d2:KI F φ ys Lz.toList) (e:(if (!xs.isEmpty)=true/\(!ys.isEmpty)=true/\xs.length+ys.length<=1000000 then some (AV.tup (xs++ys)) else none)=some v) :
  Good Z w A (binaryOp .Add (.ref a1) (.ref a2)) F φ s v st:=by
 refine oI e λhm e=>K7 e▸?_;have g1:=R.frz _ _ e1;have g2:=R.frz _ _ e2
 refine Good.fresh (o:={ cls:=.type "tuple",data:=.seq (LY++Lz) }) R rfl (VR.tup (arr:=LY++Lz) bP (by rw[toList_append];exact(d1.append d2).mono (cW R.size_new.1) (prefix_refl _))) λQ h=>
  concat_meets ⟨_,g1,rfl⟩ ⟨_,g2,rfl⟩ noFill_tuple_add seq_tuple_add PySem.F.slot_tuple_add PySem.F.entry_tuple_add (PySem.F.args_tuple_add_2 _ _)
   (tuple_addW2 _ _ LY Lz n1 n2 none none #[] #[] (by simpa using u5 d1 hm.1) (by simpa using u5 d2 hm.2.1) ?_) ⟨g1,g2,h _⟩
 have z1:xs.length=LY.size:=d1.length.trans length_toList;have z2:ys.length=Lz.size:=d2.length.trans length_toList;rw[← z1,← z2];exact Go hm.2.2
theorem yz {xs:List AV}{v:AV}{a1:Addr}{LY:Array Value}{n1:Nat}{n:Int}{u:Tok}(R:KD Z F φ st s.heap)(e1:F a1=some { cls:=.type "tuple",data:=.seq LY n1 })(d1:KI F φ xs LY.toList)
  (e:(iS xs λa=>if 2<=n/\n<=1000 then some (AV.tup (replicate n.toNat a)) else none)=some v) :
  Good Z w A (binaryOp .Mult (.ref a1) (.int n u)) F φ s v st:=by
 revert d1;refine ki (P:=λxs=>KI F φ xs LY.toList->_) (λx e d1=>?_) e;refine oI e λhm e=>K7 e▸?_;have g1:=R.frz _ _ e1;refine cP d1.inv λv ws e3 hv hr=>?_;have hr:ws=[]:=hr.inv;subst hr;have:LY=#[v]:=by apply Array.ext';exact e3
 subst this
 refine Good.fresh (o:={ cls:=.type "tuple",data:=.seq ((replicate n.toNat #[v]).foldl (·++·) #[]) }) R rfl ?_ λQ h=>
  wpAny_binaryOp_repeat_ref (T:="tuple") (U:="int") (by decide) ⟨_,g1,rfl⟩ (λs'=>typeIs_int s' n u) iT PySem.F.fills_int_mul slot_int_rmul mZ PySem.F.slot_int_index.lookup
   (call_meets slot_int_rmul (typeIs_int s n u) PySem.F.entry_int_rmul (PySem.F.args_int_rmul_2 _ _) (kq n u a1 #[v] n1)
    ⟨g1,rfl,⟨_,g1,rfl⟩,call_meets slot_tuple_mul ⟨_,g1,rfl⟩ PySem.F.entry_tuple_mul (PySem.F.args_tuple_mul_2 _ _)
     (lQ a1 v n1 n u hm.1 hm.2) ⟨g1,h _⟩⟩)
 refine VR.tup (arr:=(replicate n.toNat #[v]).foldl (·++·) #[]) bP ?_;rw[foldl_rep];exact(KI.replicate hv n.toNat).mono (cW R.size_new.1) (prefix_refl _)
theorem yA {l:List Nat}{v:AV}{n:Int}{t u:Tok}(R:KD Z F φ st s.heap)(e:(iS l λc=>if -1000<=n/\n<=1000 then some (AV.str (replicate n.toNat c)) else none)=some v) :
  Good Z w A (binaryOp .Mult (.str ⟨l.toArray⟩ t) (.int n u)) F φ s v st:=by
 refine ki (P:=λl=>Good Z w A (binaryOp .Mult (.str ⟨l.toArray⟩ t) (.int n u)) F φ s v st) (λc e=>?_) e;refine oI e λhm e=>K7 e▸?_;refine Good.val R λQ h=>SB.mul ?_ (λt' k=>h _ _ ?_)
 ·refine⟨by simp;exact zK hm.1 hm.2,λh1 h2=>?_,λh1 h2=>?_⟩
  ·show ¬ ((1:Int)>_)
   have:(1:Int)<=(2^63-1)/n:=by
    rw[Int.le_ediv_iff_mul_le (Int.lt_of_lt_of_le (by decide) (Int.not_lt.mp h1))];lia
   lia
  ·show Builtin.Str.tooLong (1*n.toNat)=false;unfold Builtin.Str.tooLong;rw[sizeLine_eq];simp;lia
 ·rw[yw];exact VR.str _ _
theorem ty {op:Operator}{x y v:AV}{vx vy:Value}(e:aK op x y=some v)(R:KD Z F φ st s.heap)(rm:KP 1 A)(hx:VR F φ x vx)(hy:VR F φ y vy) :
  Good Z w A (binaryOp op vx vy) F φ s v st:=
 match op,e with
 |.Add,e=>kj (P:=λvx=>Good Z w A (binaryOp .Add vx vy) F φ s v st) hx e (λa t e=>hZ (P:=λvy=>Good Z w A (binaryOp .Add (.str ⟨a.toArray⟩ t) vy) F φ s v st) hy e λb u e=>oI e λhm e=>K7 e ▸
    Good.val R λQ h=>add_str (λt' tk=>h _ _ (yx a b▸.str _ _)) (by simp only[Str.length,size_toArray];exact Go hm))
   λe=>z4 (P:=λvx=>Good Z w A (binaryOp .Add vx vy) F φ s v st) hx e (λxs a arr n e e1 d1=>DG (P:=λvy=>Good Z w A (binaryOp .Add (.ref a) vy) F φ s v st) hy e λys b Lz n2 e e2 d2=>yy R e1 d1 e2 d2 e)
    (og R hx hy λ_ _ _ _ _ h=>add_int (h _ _))
 |.Sub,e=>og R hx hy (λ_ _ _ _ _ h=>sub_int (h _ _)) e
 |.Mult,e=>kj (P:=λvx=>Good Z w A (binaryOp .Mult vx vy) F φ s v st) hx e (λl t e=>ki (P:=λl=>Good Z w A (binaryOp .Mult (.str ⟨l.toArray⟩ t) vy) F φ s v st)
    (λc e=>cu (P:=λvy=>Good Z w A (binaryOp .Mult (.str ⟨[c].toArray⟩ t) vy) F φ s v st) hy e λn u e=>yA (l:=[c]) R e) e)
   λe=>z4 (P:=λvx=>Good Z w A (binaryOp .Mult vx vy) F φ s v st) hx e (λxs a arr n e e1 d1=>ki (P:=λxs=>KI F φ xs arr.toList->Good Z w A (binaryOp .Mult (.ref a) vy) F φ s v st)
     (λc e d1=>cu (P:=λvy=>Good Z w A (binaryOp .Mult (.ref a) vy) F φ s v st) hy e λn u e=>yz (xs:=[c]) R e1 d1 e) e d1)
    (l8 R hx hy λa b _ _ _ hm h=>mul_int (h _ _) (ku hm))
 |.FloorDiv,e=>l8 R hx hy (λ_ _ _ _ _ hm h=>floordiv_int hm.1 (h _ _) (.inl hm.2)) e
 |.Mod,e=>l8 R hx hy (λ_ _ _ _ _ hm h=>mod_int' hm (h _ _)) e
 |.LShift,e=>l8 R hx hy (λ_ _ _ _ _ hm h=>lshift_int hm.1 hm.2 (h _ _)) e
 |.RShift,e=>l8 R hx hy (λ_ _ _ _ _ hm h=>rshift_int hm.1 h) e
 |.Pow,e=>l8 R hx hy (λ_ _ _ _ _ hm h=>pow_int hm.1 hm.2.1 hm.2.2.1 hm.2.2.2 h) e
 |.BitAnd,e=>og R hx hy (λ_ _ _ _ _ h=>and_int (h _ _)) e
 |.BitOr,e=>og R hx hy (λ_ _ _ _ _ h=>or_int (h _ _)) e
 |.BitXor,e=>og R hx hy (λ_ _ _ _ _ h=>xor_int (h _ _)) e
 |.Div,e=>absurd e bg
 |.MatMult,e=>absurd e bg
theorem Ly.plain {F:bf}{h:Heap}{a:Addr}{arr:Array Value}(x:Ly F a arr)(y:z6 F h):h.PlainList a arr:=let ⟨n,e⟩:=x;⟨n,y _ _ e⟩
theorem Ly.isList {F:bf}{h:Heap}{a:Addr}{arr:Array Value}(x:Ly F a arr)(y:z6 F h):h.IsList a arr:=let ⟨n,e⟩:=x;⟨_,y _ _ e,rfl,n,rfl⟩
theorem aP {h:Heap}{a:Addr}{arr:Array Value}(x:h.PlainList a arr):h.IsList a arr:=let ⟨n,e⟩:=x;⟨_,e,rfl,n,rfl⟩
theorem KD.list (R:KD Z F φ st h){i:Nat}{xs:List AV}{a:Addr}(e:listAt st i=some xs)(hi:φ[i]?=some a):∃ arr,h.PlainList a arr/\KI F φ xs arr.toList:=by
 unfold listAt at e
 cases q:st[i]? with
 |none=>rw[q]at e;exact absurd e bg
 |some o=>
  rw[q]at e
  cases o with
  |list ys=>cases e;exact R.obj i a _ hi q
  |_=>exact absurd e bg
theorem jZ {v:AV}{xs:List AV}{P:AV->Prop}(k1:P (.lst xs))(k2:∀ i,listAt st i=some xs->P (.obj i)):Mine.Internal.cN st v=some xs->P v:=by
 cases v<;>first |exact λ(h:none=some xs)=>absurd h bg |exact λe=>K7 e▸k1 |exact k2 _
theorem KD.lstOf (R:KD Z F φ st h){v:AV}{xs:List AV}{v':Value}(e:cN st v=some xs)(hv:VR F φ v v'):∃ a arr,v'=.ref a/\h.PlainList a arr/\KI F φ xs arr.toList:=
 jZ (P:=λv=>VR F φ v v'->∃ a arr,v'=.ref a/\h.PlainList a arr/\KI F φ xs arr.toList) (λhv=>let ⟨a,arr,q,e1,d⟩:=hv.inv;⟨a,arr,q,e1.plain R.frz,d⟩)
  (λi e hv=>let ⟨a,q,hi⟩:=hv.inv;let ⟨arr,r⟩:=R.list e hi;⟨a,arr,q,r⟩) e hv
theorem m5 {α:Type}{x:Option α}{r:List (Option α)}{l:List α}(e:aY (x::r)=some l):∃ y ys,x=some y/\aY r=some ys/\l=y::ys:=by
 cases x with
 |none=>exact absurd e bg
 |some y=>exact oM (P:=λl=>∃ y' ys,some y=some y'/\aY r=some ys/\l=y'::ys) (o:=aY r) (g:=(y::·)) e λys q=>⟨y,ys,rfl,q,rfl⟩
noncomputable def yB (h:Heap)(n:Nat)(v:Value)(d:PyData):Prop:=(∃ as,Reads h v d as)/\d.depth<=n
theorem gB {n:Nat}(ih:∀ {x:AV} {v:Value} {d:PyData},ba n st x=some d->VR F φ x v->yB h n v d):∀ (xs:List AV) (vs:List Value) (ds:List PyData),aY (xs.map (ba n st))=some ds->KI F φ xs vs->(∃ as,ReadsAll h vs ds as)/\PyData.depthAll ds<=n
 |[],_,_,e,hv=>KI.nilR (Q:=λvs=>(∃ as,ReadsAll h vs _ as)/\PyData.depthAll _<=n) (K7 e▸⟨⟨_,.nil⟩,zero_le n⟩) hv
 |x::xs,vs,ds,e,hv=>by
  refine cP (m5 (x:=ba n st x) (r:=xs.map (ba n st)) e) ?_;rintro y ys e1 e2 rfl;refine cP hv.inv ?_;rintro v ws rfl hx NJ;refine av (ih e1 hx) ?_;rintro⟨as,r1⟩ k1;refine av (gB ih xs ws ys e2 NJ) ?_;rintro⟨bs,r2⟩ k2;exact⟨⟨_,.cons r1 r2⟩,max_le.mpr ⟨k1,k2⟩⟩
set_option tactic.hygienic true in
theorem eG:∀ (n:Nat) {x:AV} {v:Value} {d:PyData},ba n st x=some d->KD Z F φ st h->VR F φ x v->yB h n v d
 |n,.none,v,d,e,R,hv=>by
  have e:some PyData.none=some d:=by cases n<;>exact e
  exact K7 e▸VR.noneR (P:=λv=>yB h n v .none) ⟨⟨_,.none⟩,zero_le n⟩ hv
 |n,.bool b,v,d,e,R,hv=>by
  have e:some (PyData.bool b)=some d:=by cases n<;>exact e
  exact K7 e▸VR.boolR (P:=λv=>yB h n v (.bool b)) ⟨⟨_,.bool b⟩,zero_le n⟩ hv
 |n,.int i,v,d,e,R,hv=>by
  have e:some (PyData.int i)=some d:=by cases n<;>exact e
  exact K7 e▸VR.intR (P:=λv=>yB h n v (.int i)) (λt=>⟨⟨_,.int i t⟩,zero_le n⟩) hv
 |n,.str i,v,d,e,R,hv=>by
  have e:some (PyData.str ⟨i.toArray⟩)=some d:=by cases n<;>exact e
  exact K7 e▸VR.strR (P:=λv=>yB h n v (.str ⟨i.toArray⟩)) (λt=>⟨⟨_,.str _ t⟩,zero_le n⟩) hv
 |n+1,.tup xs,v,d,e,R,hv=>by
  refine oM (o:=aY (xs.map (ba n st))) (g:=PyData.tuple) e λds e=>?_;refine VR.tupR (P:=λv=>yB h (n+1) v (.tuple ds)) (λa arr m e1 dd=>?_) hv;refine av (gB (λe=>eG n e R) _ _ _ e dd) ?_;rintro⟨as,r⟩ k;exact⟨⟨_,.tuple (R.frz _ _ e1) rfl rfl r⟩,succ_le_succ k⟩
 |n+1,.lst xs,v,d,e,R,hv=>by
  refine oM (o:=aY (xs.map (ba n st))) (g:=PyData.list) e λds e=>?_;refine VR.lstR (P:=λv=>yB h (n+1) v (.list ds)) (λa arr e1 dd=>?_) hv;refine av (gB (λe=>eG n e R) _ _ _ e dd) ?_;rintro⟨as,r⟩ k;refine aw e1 ?_;clear e1;intro m q1;exact⟨⟨_,.list (R.frz _ _ q1) rfl rfl r⟩,succ_le_succ k⟩
 |n+1,.obj i,v,d,e,R,hv=>by
  have e:(match listAt st i with
   |some xs=>(aY (xs.map (ba n st))).map PyData.list
   |none=>none)=some d:=by
   rw[← e]
   show _=(match st[i]? with
    |some (.list xs)=>(aY (xs.map (ba n st))).map PyData.list
    |_=>none)
   unfold listAt
   cases st[i]? with
   |none=>rfl
   |some o=>cases o<;>rfl
  refine oV e λxs q e=>?_;refine oM e λds e=>?_;refine VR.objR (P:=λv=>yB h (n+1) v (.list ds)) (λa hi=>?_) hv;refine ak (R.list q hi) ?_;rintro arr ⟨m,q1⟩ dd;refine av (gB (λe=>eG n e R) _ _ _ e dd) ?_;rintro⟨as,r⟩ k;exact⟨⟨_,.list q1 rfl rfl r⟩,succ_le_succ k⟩
 |0,.tup _,_,_,e,_,_=>absurd e bg
 |0,.lst _,_,_,e,_,_=>absurd e bg
 |0,.obj _,_,_,e,_,_=>absurd e bg
 |0,.rng ..,_,_,e,_,_=>absurd e bg
 |_+1,.rng ..,_,_,e,_,_=>absurd e bg
 |0,.fn _,_,_,e,_,_=>absurd e bg
 |_+1,.fn _,_,_,e,_,_=>absurd e bg
 |0,.rx _,_,_,e,_,_=>absurd e bg
 |_+1,.rx _,_,_,e,_,_=>absurd e bg
theorem oh {x y:AV}{vx vy:Value}{b:Bool}(e:rS st x y=some b)(R:KD Z F φ st s.heap)(rm:KP 1 A)(hx:VR F φ x vx)(hy:VR F φ y vy) :
  RcAt A s vx vy b/\EqAt A s vx vy b/\RcNeAt A s vx vy (!b):=by
 refine oD e λdx q1 e=>?_;refine oD e λdy q2 e=>?_;refine oI e λc e=>K7 e▸?_;refine av (eG 6 q1 R hx) ?_;rintro⟨as,r1⟩ k1;refine av (eG 6 q2 R hy) ?_;rintro⟨bs,r2⟩ k2;have c:=(and_eq_true _ _).mp c;have hu:A.units+min dx.depth dy.depth<cLine:=lt_of_le_of_lt (add_le_add_left (le_trans (Nat.min_le_left ..) k1) _) (lt_of_le_of_lt (le_trans (add_le_add_left (by decide:6<=20*1) _) rm.un) (by decide));exact⟨rcAt_reads r1 r2 c.1 c.2 hu,eqAt_reads _ _ _ _ _ _ _ _ r1 r2 c.1 c.2 hu,rcNeAt_reads r1 r2 c.1 c.2 hu⟩
theorem KI.intsAre:∀ {xs:List AV} {l:List Int} {vs:List Value},allInts xs=some l->KI F φ xs vs->IntsAre vs l
 |[],l,vs,e,h=>KI.nilR (Q:=λvs=>IntsAre vs l) (K7 e▸.nil) h
 |.int i::xs,l,vs,e,h=>KI.consR (Q:=λvs=>IntsAre vs l) (λv ws a b=>oM (o:=allInts xs) (g:=(i::·)) (P:=λl=>IntsAre (v::ws) l) e λl' e=>VR.intR (P:=λv=>IntsAre (v::ws) (i::l')) (λt=>.cons _ _ (KI.intsAre e b)) a) h
 |.none::_,_,_,e,_=>absurd e bg
 |.bool _::_,_,_,e,_=>absurd e bg
 |.str _::_,_,_,e,_=>absurd e bg
 |.tup _::_,_,_,e,_=>absurd e bg
 |.lst _::_,_,_,e,_=>absurd e bg
 |.rng ..::_,_,_,e,_=>absurd e bg
 |.fn _::_,_,_,e,_=>absurd e bg
 |.rx _::_,_,_,e,_=>absurd e bg
 |.obj _::_,_,_,e,_=>absurd e bg
theorem tz {i:Int}{t:Tok}{A:Around}{vs:List Value}{ns:List Int}(a:IntsAre vs ns):∀ y∈vs,EqAt A s y (.int i t) (isInt i y):=by
 induction a with
 |nil=>exact λy m=>nomatch m
 |cons n u _ ih=>exact λy m=>(mem_cons.mp m).elim (λq=>q▸EqAt.int_int n u i t) (ih y)
theorem yC {op:CmpOp}{x y:AV}{vx vy:Value}{b:Bool}{g:Int->Int->Bool}(R:KD Z F φ st s.heap)(hx:VR F φ x vx)(hy:VR F φ y vy)
  (k:∀ a b t u Q,Q (.bool (g a b)) s->aA w A (compareOp op (.int a t) (.int b u)) Q aq s) (e:(ar x λa=>ar y λb=>some (g a b))=some b) :
  Good Z w A (compareOp op vx vy) F φ s (.bool b) st:=
 cu (P:=λvx=>Good Z w A (compareOp op vx vy) F φ s (.bool b) st) hx e λa t e=>cu (P:=λvy=>Good Z w A (compareOp op (.int a t) vy) F φ s (.bool b) st) hy e λb u e=>
  K7 e▸Good.val R λQ h=>k a b t u Q (h _ s.toks (.bool _))
theorem tA {op:CmpOp}{x y:AV}{b:Bool}{vx vy:Value}(e:bJ st op x y=some b)(R:KD Z F φ st s.heap)(rm:KP 1 A)(hx:VR F φ x vx)(hy:VR F φ y vy) :
  Good Z w A (compareOp op vx vy) F φ s (.bool b) st:=
 match op,e with
 |.Eq,e=>Good.val R λQ h=>(oh e R rm hx hy).1 aM w aq Q (h _ _ (.bool _))
 |.NotEq,e=>oM (P:=λb=>Good Z w A (compareOp .NotEq vx vy) F φ s (.bool b) st) e λb' e=>Good.val R λQ h=>(oh e R rm hx hy).2.2 aM w aq Q (h _ _ (.bool _))
 |.Lt,e=>yC R hx hy (λ_ _ _ _ _ h=>lt_int h) e
 |.LtE,e=>yC R hx hy (λ_ _ _ _ _ h=>le_int h) e
 |.Gt,e=>yC R hx hy (λ_ _ _ _ _ h=>gt_int h) e
 |.GtE,e=>yC R hx hy (λ_ _ _ _ _ h=>ge_int h) e
 |.NotIn,e=>cu (P:=λvx=>Good Z w A (compareOp .NotIn vx vy) F φ s (.bool b) st) hx e λi t e=>rR (P:=λvy=>Good Z w A (compareOp .NotIn (.int i t) vy) F φ s (.bool b) st) hy e λxs a arr e e1 d=>
   oM (P:=λb=>Good Z w A (compareOp .NotIn (.int i t) (.ref a)) F φ s (.bool b) st) e λl e=>Good.val R λQ h=>notIn_listAt (isInt i) (e1.isList R.frz) (λy m=>tz (KI.intsAre e d) y (by simpa using m)) (h _ _ (by
    rw[← any_toList,any_isInt i (KI.intsAre e d)]
    exact .bool _))
 |.Is,e=>absurd e bg
 |.IsNot,e=>absurd e bg
 |.In,e=>absurd e bg
theorem kx {a:Addr}{arr:Array Value}{xs:List AV}{b:Bool}{Q:Bool->Shared->Prop}(hl:s.heap.IsList a arr)(d:KI F φ xs arr.toList)(e:(if xs.length<=1000000 then some (!xs.isEmpty) else none)=some b)
  (h:∀ tk,Q b ⟨s.heap,s.gens,s.drawn,tk,s.os⟩):aA w A (truthy (.ref a)) Q aq s:=by
 refine oI e λhs e=>?_;have KL:xs.length=arr.size:=d.length.trans length_toList;refine wpAny_truthy_list hl (by rw[← KL];exact zX) ?_
 have:(!arr.isEmpty)=!xs.isEmpty:=by
  unfold Array.isEmpty;rw[← KL];cases xs<;>rfl
 rw[this,K7 e];exact h _
theorem oi {x:AV}{b:Bool}{v:Value}{Q:Bool->Shared->Prop}(e:fH st x=some b)(R:KD Z F φ st s.heap)(hx:VR F φ x v)
  (h:∀ tk,Q b ⟨s.heap,s.gens,s.drawn,tk,s.os⟩):aA w A (truthy v) Q aq s:=
 match x,e,hx with
 |.none,e,hx=>VR.noneR (P:=λv=>aA w A (truthy v) Q aq s) (PyProof.Rows.truthy_none (K7 e▸h _)) hx
 |.bool _,e,hx=>VR.boolR (P:=λv=>aA w A (truthy v) Q aq s) (wpAny_truthy_bool (K7 e▸h _)) hx
 |.int i,e,hx=>VR.intR (P:=λv=>aA w A (truthy v) Q aq s) (λt=>PyProof.Rows.truthy_int (show Q (!(i==0)) _ from (K7 e).symm▸h _)) hx
 |.lst _,e,hx=>VR.lstR (P:=λv=>aA w A (truthy v) Q aq s) (λa arr e1 d=>kx (e1.isList R.frz) d e h) hx
 |.obj _,e,hx=>oV e λxs q e=>VR.objR (P:=λv=>aA w A (truthy v) Q aq s) (λa hi=>let ⟨_,hl,d⟩:=R.list q hi;kx (aP hl) d e h) hx
 |.str _,e,_=>absurd e bg
 |.tup _,e,_=>absurd e bg
 |.rng ..,e,_=>absurd e bg
 |.fn _,e,_=>absurd e bg
 |.rx _,e,_=>absurd e bg
theorem oj {v:AV}{a:Addr}{arr:Array Value}{xs:List AV}{i:Int}{t:Tok}(R:KD Z F φ st s.heap)(hl:s.heap.IsList a arr)(d:KI F φ xs arr.toList)(e:(if 0<=i/\i<2^62 then xs[i.toNat]? else none)=some v) :
  Good Z w A (getItem (.ref a) (.int i t)) F φ s v st:=
 oI e λhi e=>let ⟨_,e',hv⟩:=d.get e;Good.val R λQ h=>wpAny_getItem_list hl hi.1 (by have:=hi.2;lia) (by simpa using e') (h _ _ hv)
theorem rU {v:AV}{xs:List AV}{P:AV->Prop}(k1:P (.lst xs))(k2:P (.tup xs))(k3:∀ i,listAt st i=some xs->P (.obj i)):lY st v=some xs->P v:=by
 cases v<;>first |exact λ(h:none=some xs)=>absurd h bg |exact λe=>K7 e▸k1 |exact λe=>K7 e▸k2 |exact k3 _
theorem l9 {x y v:AV}{vx vy:Value}(e:cB st x y=some v)(R:KD Z F φ st s.heap)(hx:VR F φ x vx)(hy:VR F φ y vy) :
  Good Z w A (getItem vx vy) F φ s v st:=by
 refine cu (P:=λvy=>Good Z w A (getItem vx vy) F φ s v st) hy e λi u e=>?_;refine kj (P:=λvx=>Good Z w A (getItem vx (.int i u)) F φ s v st) hx e (λs' t e=>?_) λe=>?_
 ·refine oI e λhi e=>?_;refine oM (P:=λv=>Good Z w A (getItem (.str ⟨s'.toArray⟩ t) (.int i u)) F φ s v st) e λc e=>?_;have hl:i.toNat<s'.length:=(List.getElem?_eq_some_iff.mp e).1;refine Good.val R λQ h=>PyProof.Rows.getItem_str (c:=c) (by simp;exact JG hi) ?_ (h _ _ (VR.str [c] _))
  have:seqIndex? i (Str.length ⟨s'.toArray⟩)=some i.toNat:=by
   unfold seqIndex? Str.length;simp;exact I1 hi.1 hl
  rw[this];simpa using e
 ·refine oV e λxs q e=>?_
  refine rU (P:=λx=>VR F φ x vx->Good Z w A (getItem vx (.int i u)) F φ s v st) (VR.lstR (P:=λvx=>Good Z w A (getItem vx (.int i u)) F φ s v st) λa arr e1 d=>oj R (e1.isList R.frz) d e)
   (VR.tupR (P:=λvx=>Good Z w A (getItem vx (.int i u)) F φ s v st) λa arr n e1 d=>?_) (λj q=>VR.objR (P:=λvx=>Good Z w A (getItem vx (.int i u)) F φ s v st) λa hi=>let ⟨_,hl,d⟩:=R.list q hi;oj R (aP hl) d e) q hx
  refine oI e λhi e=>?_;refine ak (d.get e) λv' e' hv=>?_;refine Good.val R λQ h=>PyProof.Rows.getItem_tuple (j:=i.toNat) ⟨_,R.frz _ _ e1,rfl,_,rfl⟩ (by lia) (by lia) ?_ (by simpa using e') (h _ _ hv);have:=(List.getElem?_eq_some_iff.mp e').1;rw[length_toList]at this;unfold seqIndex?;simp;exact I1 hi.1 this
theorem KI.size {xs:List AV}{arr:Array Value}(d:KI F φ xs arr.toList):xs.length=arr.size:=by
 have:=d.length;rw[this];exact length_toList
theorem KD.absent (R:KD Z F φ st h){a:Addr}(e:h.get? a=none):F a=none/\a∉φ/\a≠cQ/\a≠dr:=by
 refine⟨?_,λm=>?_,λz=>?_,λz=>?_⟩
 ·cases q:F a with
  |none=>rfl
  |some o=>rw[R.frz _ _ q]at e;cases e
 ·refine aw (R.dom _ m) λo q=>?_;rw[q]at e;cases e
 ·refine ak R.t1 λps q _=>?_;rw[z,q]at e;cases e
 ·refine ak R.t2 λps q _=>?_;rw[z,q]at e;cases e
theorem Good.kept {t:Sem Value}{v:AV}(R:KD Z F φ st s.heap)
  (x:∀ Q:Value->Shared->Prop,(∀ h' v' tk,(∀ b o,s.heap.get? b=some o->h'.get? b=some o)->VR F φ v v'->Q v' ⟨h',s.gens,s.drawn,tk,s.os⟩)->aA w A t Q aq s) :
  Good Z w A t F φ s v st:=
 λQ h=>x Q λh' v' tk k hv=>h F φ v' h' tk (Step.ext k) (R.ext k) hv
theorem Good.made {t:Sem Value}{v:AV}(R:KD Z F φ st s.heap)
  (x:∀ Q:Value->Shared->Prop,(∀ h' a o tk,(∀ b o,s.heap.get? b=some o->h'.get? b=some o)->s.heap.get? a=none->h'.get? a=some o->VR (ia F a o) φ v (.ref a)->Q (.ref a) ⟨h',s.gens,s.drawn,tk,s.os⟩) ->
   aA w A t Q aq s) :
  Good Z w A t F φ s v st:=
 λQ h=>x Q λh' a o tk k e e' hv=>by
  refine gS (R.absent e) λn1 n2 n3 n4=>?_;exact h _ φ _ h' tk (Step.freeze n1 e k) ((R.ext k).freeze n1 n2 n3 n4 e') hv
theorem Good.madeM {t:Sem Value}{ao:AO}(R:KD Z F φ st s.heap)
  (x:∀ Q:Value->Shared->Prop,(∀ h' a o tk,(∀ b o,s.heap.get? b=some o->h'.get? b=some o)->s.heap.get? a=none->h'.get? a=some o->OR F (φ++[a]) h' a ao->Q (.ref a) ⟨h',s.gens,s.drawn,tk,s.os⟩) ->
   aA w A t Q aq s) :
  Good Z w A t F φ s (.obj st.length) (st++[ao]):=
 λQ h=>x Q λh' a o tk k e e' hv=>by
  refine gS (R.absent e) λn1 n2 n3 n4=>?_;refine h F (φ++[a]) _ h' tk (Step.grow e k) ((R.ext k).grow n1 n2 n3 n4 e' hv) (.obj ?_);rw[← R.len];simp
theorem Good.updM {t:Sem Value}{v:AV}{ao:AO}{i:Nat}{a:Addr}(R:KD Z F φ st s.heap)(hi:φ[i]?=some a)
  (x:∀ Q:Value->Shared->Prop,(∀ h' v' tk,Heap.SameBut a s.heap h'->(∃ o,h'.get? a=some o)->OR F φ h' a ao->VR F φ v v'->Q v' ⟨h',s.gens,s.drawn,tk,s.os⟩) ->
   aA w A t Q aq s) :
  Good Z w A t F φ s v (st.set i ao):=
 λQ h=>x Q λh' v' tk k e e' hv=>h F φ _ h' tk (Step.upd (mem_of_getElem? hi) k e) (R.upd hi k e' e) hv
theorem KD.seqOf (R:KD Z F φ st h){v:AV}{xs:List AV}{v':Value}(e:lY st v=some xs)(hv:VR F φ v v') :
  ∃ a arr,v'=.ref a/\(h.IsList a arr\/IsTup h a arr)/\KI F φ xs arr.toList:=
 rU (P:=λv=>VR F φ v v'->∃ a arr,v'=.ref a/\(h.IsList a arr\/IsTup h a arr)/\KI F φ xs arr.toList) (λhv=>let ⟨a,arr,q,e1,d⟩:=hv.inv;⟨a,arr,q,.inl (e1.isList R.frz),d⟩)
  (λhv=>let ⟨a,arr,_,q,e1,d⟩:=hv.inv;⟨a,arr,q,.inr ⟨_,R.frz _ _ e1,rfl,_,rfl⟩,d⟩) (λ_ e hv=>let ⟨a,q,hi⟩:=hv.inv;let ⟨arr,r,d⟩:=R.list e hi;⟨a,arr,q,.inl (aP r),d⟩) e hv
theorem ma:∀ {l:List Int} {m:Int},n7 l=some m->m∈l/\∀ a∈l,m<=a
 |[x],m,e=>K7 e▸⟨.head _,λa h=>mem_singleton.mp h▸Int.le_refl _⟩
 |x::y::r,m,e=>by
  refine oM (P:=λm=>m∈x::y::r/\∀ a∈x::y::r,m<=a) e λk e=>?_;refine av (ma e) λh1 h2=>?_;split
  ·rename_i hk;refine⟨.tail _ h1,λa m=>?_⟩
   cases m with
   |head=>first |exact Int.le_of_lt hk |exact Int.le_refl _
   |tail _ m=>exact h2 a m
  ·rename_i hk;refine⟨.head _,λa m=>?_⟩
   cases m with
   |head=>first |exact Int.le_of_lt hk |exact Int.le_refl _
   |tail _ m=>first |exact Int.le_trans (Int.not_lt.mp hk) (h2 a m) |exact Int.le_trans (h2 a m) (Int.not_lt.mp hk)
theorem md:∀ {l:List Int} {m:Int},n8 l=some m->m∈l/\∀ a∈l,a<=m
 |[x],m,e=>K7 e▸⟨.head _,λa h=>mem_singleton.mp h▸Int.le_refl _⟩
 |x::y::r,m,e=>by
  refine oM (P:=λm=>m∈x::y::r/\∀ a∈x::y::r,a<=m) e λk e=>?_;refine av (md e) λh1 h2=>?_;split
  ·rename_i hk;refine⟨.tail _ h1,λa m=>?_⟩
   cases m with
   |head=>first |exact Int.le_of_lt hk |exact Int.le_refl _
   |tail _ m=>exact h2 a m
  ·rename_i hk;refine⟨.head _,λa m=>?_⟩
   cases m with
   |head=>first |exact Int.le_of_lt hk |exact Int.le_refl _
   |tail _ m=>first |exact Int.le_trans (Int.not_lt.mp hk) (h2 a m) |exact Int.le_trans (h2 a m) (Int.not_lt.mp hk)
theorem f9 {arr:Array Value}{l:List Int}(i:IntsAre arr.toList l):∃ xs:Array (Int×Tok),arr=intItems xs/\xs.toList.map (·.1)=l:=by
 have:AllInts arr:=by have:=i.allInts;simpa using this
 refine aw this.items ?_;rintro xs rfl;refine⟨xs,rfl,?_⟩;rw[← nums_intItems,i.numsOf]
theorem u6 {vx:Value}{a:Addr}{arr:Array Value}{l:List Int}(R:KD Z F φ st s.heap)(rm:KP 1 A)(hl:s.heap.IsList a arr)(i:IntsAre arr.toList l) :
  Good Z w A (call (.builtin "sum") [.ref a]) F φ s (.int l.sum) st:=by
 refine ak (f9 i) ?_;rintro xs rfl e;refine Good.kept R λQ h=>sum_intListG rm.hd hl λh' tk t' k=>h _ _ _ k ?_;rw[preSum_eq,List.take_of_length_le (by simp),e];exact .int _ _
theorem u7 {a:Addr}{arr:Array Value}{l:List Int}{m:Int}(R:KD Z F φ st s.heap)(rm:KP 1 A)(hl:s.heap.IsList a arr)(i:IntsAre arr.toList l)(e:n7 l=some m) :
  Good Z w A (call (.builtin "min") [.ref a]) F φ s (.int m) st:=by
 refine ak (f9 i) ?_;rintro xs rfl e'
 have Mk:0<xs.size:=by
  have:l≠[]:=λz=>absurd (z▸e) bg;have:xs.toList≠[]:=by intro z;rw[z]at e';exact this e'.symm
  rw[← length_toList];exact length_pos_iff.mpr this
 refine Good.kept R λQ h=>min_intList rm.hd hl Mk λv h' tk hv k=>h _ _ _ k ?_;refine aw (intItems_at hv) ?_;rintro t rfl;refine av (argBest_lt (numAt xs) (xs.size-1)) λh1 h2=>?_;refine av (ma e) λm1 m2=>?_
 have:numAt xs (argBest (λi j=>decide (numAt xs i<numAt xs j)) (xs.size-1))=m:=by
  have lo:numAt xs (argBest (λi j=>decide (numAt xs i<numAt xs j)) (xs.size-1))∈l:=by
   rw[numAt_eq,e'];refine getD_mem ?_;rw[← e',length_map,length_toList];exact Q2 0x511160111641105111401103 [_,_,_] h1 (sub_add_cancel (Q1 0x411101011041111102 [_] Mk rfl)) rfl
  have:=m2 _ lo;refine ak (mem_getD m1) λj hj q=>?_
  have OI:j<xs.size:=by
   rw[← e',length_map,length_toList]at hj;exact hj
  have:=h2 j (by exact Q2 0x611150112611140110541103 [_,_,_] OI (sub_add_cancel (Q1 0x41115011041111102 [_,_] OI rfl)) rfl);rw[numAt_eq xs j,e',q]at this;exact Int.le_antisymm (by assumption) (by assumption)
 rw[this];exact .int _ _
theorem u8 {a:Addr}{arr:Array Value}{l:List Int}{m:Int}(R:KD Z F φ st s.heap)(rm:KP 1 A)(hl:s.heap.IsList a arr)(i:IntsAre arr.toList l)(e:n8 l=some m) :
  Good Z w A (call (.builtin "max") [.ref a]) F φ s (.int m) st:=by
 refine ak (f9 i) ?_;rintro xs rfl e'
 have Mk:0<xs.size:=by
  have:l≠[]:=λz=>absurd (z▸e) bg;have:xs.toList≠[]:=by intro z;rw[z]at e';exact this e'.symm
  rw[← length_toList];exact length_pos_iff.mpr this
 refine Good.kept R λQ h=>max_intList rm.hd hl Mk λv h' tk hv k=>h _ _ _ k ?_;refine aw (intItems_at hv) ?_;rintro t rfl;refine av (argBest_gt (numAt xs) (xs.size-1)) λh1 h2=>?_;refine av (md e) λm1 m2=>?_
 have:numAt xs (argBest (λi j=>decide (numAt xs i>numAt xs j)) (xs.size-1))=m:=by
  have lo:numAt xs (argBest (λi j=>decide (numAt xs i>numAt xs j)) (xs.size-1))∈l:=by
   rw[numAt_eq,e'];refine getD_mem ?_;rw[← e',length_map,length_toList];exact Q2 0x511160111641105111401103 [_,_,_] h1 (sub_add_cancel (Q1 0x411101011041111102 [_] Mk rfl)) rfl
  have:=m2 _ lo;refine ak (mem_getD m1) λj hj q=>?_
  have OI:j<xs.size:=by
   rw[← e',length_map,length_toList]at hj;exact hj
  have:=h2 j (by exact Q2 0x611150112611140110541103 [_,_,_] OI (sub_add_cancel (Q1 0x41115011041111102 [_,_] OI rfl)) rfl);rw[numAt_eq xs j,e',q]at this;exact Int.le_antisymm (by assumption) (by assumption)
 rw[this];exact .int _ _
theorem m6 (i:Int):ofString (toString i)=⟨(bj i).toArray⟩:=by
 rw[Str.ofString_eq_toList];rfl
theorem m7:∀ {xs:List AV} {l:List (List Nat)} {vs:List Value},allStrs xs=some l->KI F φ xs vs->∃ l':List (Str×Tok),vs=strValues l'/\l'.map (·.1)=l.map λx=>⟨x.toArray⟩
 |[],l,vs,e,h=>⟨[],h.inv,K7 e▸rfl⟩
 |.str i::xs,l,vs,e,h=>oM (o:=allStrs xs) (g:=(i::·)) (P:=λl=>∃ l':List (Str×Tok),vs=strValues l'/\l'.map (·.1)=l.map λx=>⟨x.toArray⟩) e λl2 e=>by
   refine cP h.inv ?_;rintro v ws rfl a b;refine ak (m7 e b) λr e1 e2=>?_;refine aw a.inv ?_;rintro t rfl;exact⟨(_,t)::r,by rw[e1];rfl,by rw[map_cons,e2];rfl⟩
 |.none::_,_,_,e,_=>absurd e bg
 |.bool _::_,_,_,e,_=>absurd e bg
 |.int _::_,_,_,e,_=>absurd e bg
 |.tup _::_,_,_,e,_=>absurd e bg
 |.lst _::_,_,_,e,_=>absurd e bg
 |.rng ..::_,_,_,e,_=>absurd e bg
 |.fn _::_,_,_,e,_=>absurd e bg
 |.rx _::_,_,_,e,_=>absurd e bg
 |.obj _::_,_,_,e,_=>absurd e bg
theorem tB {l:Addr}{items:Array Value}{Q E:Value->Shared->Prop}(hl:s.heap.IsList l items)
  (h:Q (.ref s.heap.objs.size) { s with heap:=s.heap.push { cls:=.type "list_iterator",data:=.fields #[.ref l,.int 0 0] } }) :
  aA w A (call (.builtin "iter") [.ref l]) Q E s:=by
 refine call_function_entry (by decide +kernel) (by decide +kernel) kdk_entry_iter (kdk_args_iter _) ?_;unfold Builtin.«iter»;refine wpAny_bind (m:=someArgs "iter" 1 2 _) (wpAny_of_eq (a:=[Value.ref l]) (by first |rfl |kernel_rfl!) ?_);show wpAny _ _ (pyIter (.ref l)>>=_) _ _ _;refine wpAny_bind (wpAny_pyIter_list hl ?_);exact wpAny_pure ⟨_,rfl,h⟩
theorem tC {it l:Addr}{i:Nat}{items:Array Value}{x:Value}{Q E:Value->Shared->Prop}(gZ:s.heap.IsListIter it l i)(hl:s.heap.IsList l items)(hx:items[i]?=some x)
  (hQ:∀ h',h'.IsListIter it l (i+1)->Heap.SameBut it s.heap h'->Q x { s with heap:=h' }) :
  aA w A (call (.builtin "next") [.ref it]) Q E s:=by
 refine cV (id gZ) λo ho hc hd=>?_;obtain⟨ol,hol,_,nl,hdl⟩:=hl;refine call_function_entry (by decide +kernel) (by decide +kernel) kdk_entry_next (kdk_args_next _) ?_;unfold Builtin.«next»;refine wpAny_bind (m:=someArgs "next" 1 2 _) (wpAny_of_eq (a:=[Value.ref it]) (by first |rfl |kernel_rfl!) ?_);dsimp only;refine wpAny_bind (wpAny_specialOf (name:=ofString "__next__") gZ.typeIs slot_listiter_next.lookup ?_);refine wpAny_ite_split (λhab=>absurd hab (by decide)) (λ_=>?_)
 refine wpAny_bind (wpAny_callSpecial?_slot (name:=ofString "__next__") gZ.typeIs slot_listiter_next
  (wpAny_call_entry slot_listiter_next gZ.typeIs entry_listiter_next ?_ (args_listiter_next _)))
 show wpAny _ _ (field (.ref it) 0>>=_) _ _ s;refine wpAny_bind (wpAny_field ho hd (x:=.ref l) rfl ?_);show wpAny _ _ (if (Value.ref l==Value.none)=true then _ else _) _ _ s;rw[if_neg (show ¬ ((Value.ref l==Value.none)=true) from LU)];show wpAny _ _ (field (.ref it) 1>>=_) _ _ s;refine wpAny_bind (wpAny_field ho hd (x:=.int i 0) rfl ?_);show wpAny _ _ (seqItems? (.ref l)>>=_) _ _ s;refine wpAny_bind (wpAny_seqItems hol hdl ?_);simp only[toNat_natCast,hx];refine wpAny_bind (wpAny_setField ho hd (by simp) (wpAny_pure ⟨x,rfl,wpAny_pure ⟨_,rfl,hQ _ ?_ (Heap.SameBut.update ..)⟩⟩))
 exact⟨_,Heap.get?_update_self _ ho (Obj.isFreed_of_fields (Obj.data_mapFields hd _)),(Obj.cls_mapFields ..).trans hc,by
  rw[Obj.data_mapFields hd];simp[rawInt]⟩
noncomputable def Hn:Bi->Value
 |.len=>.builtin "len"
 |.range1=>.type "range"
 |.range2=>.type "range"
 |.sum=>.builtin "sum"
 |.min=>.builtin "min"
 |.max=>.builtin "max"
 |.hex=>.builtin "hex"
 |.chr=>.builtin "chr"
 |.ord=>.builtin "ord"
 |.str=>.type "str"
 |.divmod=>.builtin "divmod"
 |.tuple=>.type "tuple"
 |.next=>.builtin "next"
 |.iter=>.builtin "iter"
theorem u9 {vx:Value}{xs:List AV}{x:AV}{v:AV}{Kw:St}(R:KD Z F φ st s.heap)(hv:VR F φ x vx)(q:lY st x=some xs)(e:(if xs.length<=2^24 then some (AV.int xs.length,st) else none)=some (v,Kw)) :
  Good Z w A (call (.builtin "len") [vx]) F φ s v Kw:=by
 refine oI e λhs e=>oP e ?_;refine cP (R.seqOf q hv) ?_;rintro a arr rfl hl d;rw[d.size];have hs:arr.size<=2^24:=d.size▸hs;rcases hl with hl |hl
 ·exact Good.val R λQ h=>call_len_list hl (by exact zX) (h _ _ (.int _ _))
 ·exact Good.val R λQ h=>PyProof.Rows.len_tuple hl (by exact zX) (h _ _ (.int _ _))
theorem qw {vx:Value}{xs:List AV}{x:AV}{v:AV}{Kw:St}(R:KD Z F φ st s.heap)(hv:VR F φ x vx)(q:cN st x=some xs)(e:(if xs.length<=2^20 then some (AV.tup xs,st) else none)=some (v,Kw)) :
  Good Z w A (call (.type "tuple") [vx]) F φ s v Kw:=by
 refine oI e λhs e=>oP e ?_;refine cP (R.lstOf q hv) ?_;rintro a arr rfl hl d;refine Good.made R λQ h=>call_tuple_list (aP hl) (λh' k=>?_) (by rw[sizeLine_eq,← d.size];exact bN)
 have hn:s.heap.get? h'.objs.size=none:=by
  cases z:s.heap.get? h'.objs.size with
  |none=>rfl
  |some o=>exact absurd (lt_size (k _ _ z)) (lt_irrefl _)
 exact h _ _ _ _ (λb o e=>aC _ _ (k b o e)) hn (get?_push_size _ rfl) (.tup bP (d.mono (cW (R.absent hn).1) (prefix_refl _)))
theorem tD {a:Addr}{x:AV}{i:Nat}{xs:List AV}(R:KD Z F φ st s.heap)(hi:φ[i]?=some a)(q:st[i]?=some (.iter (x::xs))) :
  Good Z w A (call (.builtin "next") [.ref a]) F φ s x (st.set i (.iter xs)):=by
 refine kg (R.obj _ _ _ hi q) λl i arr gZ hl d=>?_;refine cP d.inv λy r z hy hr=>?_
 have hy':arr[i]?=some y:=by
  have:=congrArg List.head? z;rw[List.head?_drop]at this;simpa using this
 refine Good.updM R hi λQ h=>tC gZ (hl.isList R.frz) hy' λh' k1 k2=>h _ _ _ k2 (let ⟨o,e,_⟩:=k1;⟨o,e⟩) ⟨l,i+1,arr,k1,hl,?_⟩ hy
 have:arr.toList.drop (i+1)=r:=by
  rw[← List.drop_drop,z];rfl
 rw[this];exact hr
theorem Bl {o:Option AO}{f:AV->List AV->Option (AV×St)}{r:AV×St}{P:Prop}(e:(match o with
 |some (.iter (x::xs))=>f x xs
 |_=>none)=some r) (k:∀ x xs,o=some (.iter (x::xs))->f x xs=some r->P):P:=by
 cases o with
 |none=>exact absurd e bg
 |some a=>cases a with
  |iter xs=>cases xs with
   |nil=>exact absurd e bg
   |cons x xs=>exact k x xs rfl e
  |_=>exact absurd e bg
theorem iU {x:AV}{vx:Value}{t:Value->Sem Value}{v:AV}{Kw:St}{f:List Int->Option (AV×St)}(R:KD Z F φ st s.heap)(hv:VR F φ x vx)(e:rT st x f=some (v,Kw))
  (k:∀ a arr l,s.heap.IsList a arr->IntsAre arr.toList l->f l=some (v,Kw)->Good Z w A (t (.ref a)) F φ s v Kw):Good Z w A (t vx) F φ s v Kw:=
 oV e λxs q e=>oN e λl q2 e=>by
  refine cP (R.lstOf q hv) ?_;rintro a arr rfl hl d;exact k a arr l (aP hl) (KI.intsAre q2 d) e
theorem dv {b:Value}{xs:List AV}{vs:List Value}{v:AV}{Kw:St}{f:AV->Option (AV×St)}(hx:KI F φ xs vs)(k:∀ x vx,VR F φ x vx->f x=some (v,Kw)->Good Z w A (call b [vx]) F φ s v Kw)(e:iS xs f=some (v,Kw)) :
  Good Z w A (call b vs) F φ s v Kw:=ki (P:=λxs=>KI F φ xs vs->Good Z w A (call b vs) F φ s v Kw) (λx e=>KI.oneR (Q:=λvs=>Good Z w A (call b vs) F φ s v Kw) λvx hv=>k x vx hv e) e hx
theorem gC {b:Value}{xs:List AV}{vs:List Value}{v:AV}{Kw:St}{c:Int->Prop}[d:∀ i,Decidable (c i)]{g:Int->AV}(hx:KI F φ xs vs)(k:∀ i t,c i->Good Z w A (call b [.int i t]) F φ s (g i) st)
  (e:(iS xs λx=>ar x λi=>if c i then some (g i,st) else none)=some (v,Kw)):Good Z w A (call b vs) F φ s v Kw:=
 dv hx (λx vx hv e=>cu (P:=λvx=>Good Z w A (call b [vx]) F φ s v Kw) hv e λi t e=>oI e λhc e=>oP e (k i t hc)) e
theorem twoI_good {b:Value}{xs:List AV}{vs:List Value}{v:AV}{Kw:St}{c:Int->Int->Prop}[d:∀ i j,Decidable (c i j)]{g:Int->Int->AV}(hx:KI F φ xs vs)(k:∀ i j t u,c i j->Good Z w A (call b [.int i t,.int j u]) F φ s (g i j) st)
  (e:(two xs λx y=>ar x λi=>ar y λj=>if c i j then some (g i j,st) else none)=some (v,Kw)):Good Z w A (call b vs) F φ s v Kw:=
 two_r (P:=λxs=>KI F φ xs vs->Good Z w A (call b vs) F φ s v Kw) (λx y e=>KI.twoR (Q:=λvs=>Good Z w A (call b vs) F φ s v Kw) λvx vy hv hy=>
  cu (P:=λvx=>Good Z w A (call b [vx,vy]) F φ s v Kw) hv e λi t e=>cu (P:=λvy=>Good Z w A (call b [.int i t,vy]) F φ s v Kw) hy e λj u e=>oI e λhc e=>oP e (k i j t u hc)) e hx
theorem va (n:Int):(lM n).length=(baseText "0x" 16 n).length:=by unfold lM Str.length;simp
theorem log2_small {n:Int}(hn:n.natAbs<10^10):n.natAbs.log2<40:=by
 by_cases z:n.natAbs=0
 ·rw[z];decide
 ·rw[log2_lt z];exact lt_trans hn (by decide +kernel)
theorem vb {b:Bi}{xs:List AV}{v:AV}{Kw:St}{vs:List Value}(e:gA st b xs=some (v,Kw))(R:KD Z F φ st s.heap)(rm:KP 1 A)(hx:KI F φ xs vs) :
  Good Z w A (call (Hn b) vs) F φ s v Kw:=
 match b,e with
 |.len,e=>dv hx (λx vx hv e=>kj (P:=λvx=>Good Z w A (call (.builtin "len") [vx]) F φ s v Kw) hv e
   (λl t e=>oI e λhc e=>oP e (Good.val R λQ h=>P.len_str (by simp[Str.length];exact yp) (h _ _ (by simp[Str.length];exact .int _ _)))) λe=>oV e λxs q e=>u9 R hv q e) e
 |.range1,e=>gC hx (λi t hc=>Good.made R λQ h=>call_range_1 (h _ _ _ _ aC (cD _) (get?_push_size _ rfl) (.rng bP))) e
 |.range2,e=>twoI_good hx (λi j t u hc=>Good.made R λQ h=>call_range_2 (h _ _ _ _ aC (cD _) (get?_push_size _ rfl) (.rng bP))) e
 |.sum,e=>dv hx (λx vx hv e=>iU (t:=λvx=>call (.builtin "sum") [vx]) R hv e λa arr l hl i e=>oP e (u6 (vx:=.none) R rm hl i)) e
 |.min,e=>dv hx (λx vx hv e=>iU (t:=λvx=>call (.builtin "min") [vx]) R hv e λa arr l hl i e=>yd e λm e=>u7 R rm hl i e) e
 |.max,e=>dv hx (λx vx hv e=>iU (t:=λvx=>call (.builtin "max") [vx]) R hv e λa arr l hl i e=>yd e λm e=>u8 R rm hl i e) e
 |.hex,e=>gC hx (λi t hc=>Good.val R λQ h=>P.hex_of_int (h _ _ (.str _ _)) (by rw[sizeLine_eq,← va];exact bN)) e
 |.chr,e=>gC hx (λi t hc=>Good.val R λQ h=>chr_of_range hc.1 (by lia) (h _ _ (.str [_] _))) e
 |.ord,e=>dv hx (λx vx hv e=>hZ (P:=λvx=>Good Z w A (call (.builtin "ord") [vx]) F φ s v Kw) hv e λl t e=>ki (P:=λl=>Good Z w A (call (.builtin "ord") [.str ⟨l.toArray⟩ t]) F φ s v Kw)
   (λc e=>oP e (Good.val R λQ h=>P.ord_of_char (h _ _ (.int _ _)))) e) e
 |.str,e=>gC hx (λi t hc=>Good.val R λQ h=>P.str_of_int (lt_trans (log2_small hc) (by decide)) (by rw[m6];exact h _ _ (.str _ _))) e
 |.divmod,e=>twoI_good hx (λi j t u hc=>Good.made R λQ h=>divmod_int hc.1 (h _ _ _ _ aC (cD _) (get?_push_size _ rfl) (.tup bP (.cons (.int _ _) (.cons (.int _ _) .nil)))) (.inl hc.2)) e
 |.tuple,e=>dv hx (λx vx hv e=>oV e λxs q e=>qw R hv q e) e
 |.iter,e=>dv hx (λx vx hv e=>rR (P:=λvx=>Good Z w A (call (.builtin "iter") [vx]) F φ s v Kw) hv e λxs a arr e e1 d=>oP e (Good.madeM (ao:=.iter xs) R λQ h=>tB (e1.isList R.frz)
   (h _ _ _ _ aC (cD _) (get?_push_size _ rfl) ⟨_,0,_,⟨_,get?_push_size _ rfl,rfl,rfl⟩,e1,d.mono (Lp.refl F) (prefix_append _ _)⟩))) e
 |.next,e=>dv hx (λx vx hv e=>jm (P:=λvx=>Good Z w A (call (.builtin "next") [vx]) F φ s v Kw) hv e λi a e hi=>Bl e λy ys q e=>oP e (tD R hi q)) e
theorem tE:∀ c,c<128->Unicode.lowerOf c=[qo c]:=by decide +kernel
theorem vc:∀ c,c<128->Unicode.upperOf c=[ye c]:=by decide +kernel
theorem placed_map {l:List Nat}{f:Nat->Nat->List Nat}{g:Nat->Nat}(h:∀ i c,l[i]?=some c->f i c=[g c]):placed ⟨l.toArray⟩ f=(l.map g).toArray:=by
 unfold placed
 have:(l.toArray.mapIdx λi c=>(f i c).toArray)=(l.map λc=>#[g c]).toArray:=by
  apply Array.ext
  ·simp
  ·intro i h1 h2;simp only[Array.getElem_mapIdx,List.getElem_toArray,List.getElem_map];rw[h i _ (by simp)]
 rw[this];apply Array.ext';simp only[Array.toList_flatten]
 have:∀ l:List Nat,(List.map Array.toList (List.map (λc=>#[g c]) l)).flatten=l.map g:=by
  intro l
  induction l with
  |nil=>rfl
  |cons c r ih=>simp only[map_cons,List.flatten_cons,ih];rfl
 exact this l
theorem tG {l:List Nat}(h:eW l=true):Txt.lower ⟨l.toArray⟩=⟨(l.map qo).toArray⟩:=by
 unfold Txt.lower;rw[placed_map (g:=qo)];intro i c e
 have hc:c<128:=by
  have:=all_eq_true.mp h c (mem_of_getElem? e);simpa using this
 unfold Unicode.lowerAt;simp only[List.getElem?_toArray,e];rw[if_neg,tE c hc];simp;lia
theorem tH {l:List Nat}(h:eW l=true):Txt.upper ⟨l.toArray⟩=⟨(l.map ye).toArray⟩:=by
 unfold Txt.upper;rw[placed_map (g:=ye)];intro i c e
 have hc:c<128:=by
  have:=all_eq_true.mp h c (mem_of_getElem? e);simpa using this
 exact vc c hc
theorem oo (sep:List Nat):∀ l:List (List Nat),Str.join ⟨sep.toArray⟩ (l.map λx=>⟨x.toArray⟩)=⟨(eX sep l).toArray⟩
 |[]=>rfl
 |[x]=>rfl
 |x::y::r=>by
  show Str.mk _++_++Str.join _ (List.map _ (y::r))=_;rw[oo sep (y::r)];show Str.mk (x.toArray++sep.toArray++(eX sep (y::r)).toArray)=Str.mk (x++sep++eX sep (y::r)).toArray;congr 1;simp
theorem joinOk_of {sep:List Nat}{l:List (List Nat)}(h:(l.map List.length).sum+l.length*sep.length<=1000000):JoinOk ⟨sep.toArray⟩ (l.map λx=>⟨x.toArray⟩)=true:=by
 unfold JoinOk Builtin.Str.tooLong;rw[StrLaws.joinTotal]
 have e1:(List.map (λx:Str=>x.length) (l.map λx=>(⟨x.toArray⟩:Str)))=l.map List.length:=by
  rw[map_map];apply map_congr_left;intro x _;simp[Str.length]
 have e2:(⟨sep.toArray⟩:Str).length=sep.length:=by simp[Str.length]
 rw[sizeLine_eq];simp only[e2,length_map];rw[show(l.map λx=>(⟨x.toArray⟩:Str)).map (·.length)=l.map List.length from e1];simp;exact bN
noncomputable def ky:Sm->Str
 |.lower=>ofString "lower"
 |.upper=>ofString "upper"
 |.join=>ofString "join"
 |.bitlen=>ofString "bit_length"
 |.count=>ofString "count"
 |.index=>ofString "index"
 |.append=>ofString "append"
 |.reverse=>ofString "reverse"
 |.search=>ofString "search"
noncomputable def KW (Z:KX)(F:bf)(φ:List Addr)(s:Shared)(v:AV)(Kw:St)(Q:Value->Shared->Prop):Prop:=
 ∀ F' KJ v' h' tk,Step F φ [] s.heap F' KJ h'->KD Z F' KJ Kw h'->VR F' KJ v v'->Q v' ⟨h',s.gens,s.drawn,tk,s.os⟩
theorem oq {l r:List Nat}{v:AV}{Kw:St}{vx:Value}{Q:Value->Shared->Prop}{m:Str}{g:Str->Str}(R:KD Z F φ st s.heap)(hQ:KW Z F φ s v Kw Q)(e:(if eW l&&decide (l.length<=1000000) then some (AV.str r,st) else none)=some (v,Kw))
  (hr:r.length=l.length) (ht:eW l=true->g ⟨l.toArray⟩=⟨r.toArray⟩) (k:Builtin.Str.tooLong (g ⟨l.toArray⟩).length=false->(∀ t tk,Q (.str (g ⟨l.toArray⟩) t) { s with toks:=tk })->MethodOnS aM w A aq m vx pos [] Q s):MethodOnS aM w A aq m vx pos [] Q s:=by
 refine oI e λc e=>?_;refine av ((and_eq_true _ _).mp c) λc1 c2=>?_;refine k ?_ λt tk=>?_
 ·rw[ht c1];unfold Builtin.Str.tooLong Str.length;rw[size_toArray,hr];exact decide_eq_false (not_lt_of_le (Go (of_decide_eq_true c2)))
 ·rw[ht c1];exact oP (P:=λv Kw=>KW Z F φ s v Kw Q->Q _ _) e (λhQ=>hQ F φ _ _ _ (Step.refl ..) R (.str _ _)) hQ
theorem tI {m:Sm}{x:AV}{v:AV}{Kw:St}{vx:Value}{Q:Value->Shared->Prop}(e:jM st m x []=some (v,Kw))(R:KD Z F φ st s.heap)(hx:VR F φ x vx)
  (hQ:KW Z F φ s v Kw Q):MethodOnS aM w A aq (ky m) vx pos [] Q s:=
 match m,e with
 |.lower,e=>hZ (P:=λvx=>MethodOnS aM w A aq (ky .lower) vx pos [] Q s) hx e λl t e=>oq (g:=Txt.lower) R hQ e (length_map ..) tG λh1 h2=>SB.lower h1 (h2 _ _)
 |.upper,e=>hZ (P:=λvx=>MethodOnS aM w A aq (ky .upper) vx pos [] Q s) hx e λl t e=>oq (g:=Txt.upper) R hQ e (length_map ..) tH λh1 h2=>SB.upper h1 (h2 _ _)
 |.bitlen,e=>cu (P:=λvx=>MethodOnS aM w A aq (ky .bitlen) vx pos [] Q s) hx e λi t e=>⟨"int",_,PySem.F.plainAttrs_int,PyProof.Rows.slot_int_bit_length,PyProof.Rows.type_int_bit_length,typeIs_int _ _ _,(λ_ e=>nomatch e),
   method0_meets PyProof.Rows.slot_int_bit_length PyProof.Rows.entry_int_bit_length (typeIs_int _ _ _) (PyProof.Rows.args_int_bit_length _) (AutoIntG2.int_bit_length_int_0 _ _).meets
    (oP (P:=λv Kw=>KW Z F φ s v Kw Q->Q _ _) e (λhQ=>hQ F φ _ _ _ (Step.refl ..) R (.int _ _)) hQ)⟩
 |.reverse,e=>jm (P:=λvx=>MethodOnS aM w A aq (ky .reverse) vx pos [] Q s) hx e λi a e hi=>oV e λxs q e=>oI e λc e=>by
   refine ak (R.list q hi) ?_;rintro arr ⟨n,g⟩ d
   refine⟨"list",_,plainAttrs_list,PySem.F.slot_list_reverse,PySem.F.type_list_reverse,⟨_,g,rfl⟩,(λ_ e=>by cases e;exact⟨_,g,rfl⟩),
    method0_meets PySem.F.slot_list_reverse PySem.F.entry_list_reverse ⟨_,g,rfl⟩ (PySem.F.args_list_reverse_1 _) (AutoListH.list_reverse_list_0 _ arr n (d.size▸Go c)) ⟨g,?_⟩⟩
   have k:=Heap.SameBut.update (h:=s.heap) a (Obj.mapSeq λx=>x.reverse)
   have g':∃ n',(s.heap.update a (Obj.mapSeq λx=>x.reverse)).get? a=some { cls:=.type "list",data:=.seq arr.reverse n' }:=
    ⟨_,Heap.get?_update_self _ g (by simp[Obj.mapSeq];rfl)⟩
   refine aw g' ?_;clear g';intro n' g';refine oP (P:=λv Kw=>KW Z F φ s v Kw Q->Q _ _) e (λhQ=>hQ F φ _ _ _ (Step.upd (mem_of_getElem? hi) k ⟨_,g'⟩) (R.upd hi k ⟨_,⟨n',g'⟩,?_⟩ ⟨_,g'⟩) .none) hQ;rw[Array.toList_reverse];exact d.reverse
 |.join,e=>absurd e bg
 |.count,e=>absurd e bg
 |.index,e=>absurd e bg
 |.append,e=>absurd e bg
 |.search,e=>absurd e bg
theorem Good.post {t:Sem Value}{v:AV}{Kw:St}{Q:Value->Shared->Prop}(g:Good Z w A t F φ s v Kw)(h:KW Z F φ s v Kw Q):aA w A t Q aq s:=g Q h
theorem Step.list {F F':bf}{φ KJ own:List Addr}{h h':Heap}(x:Step F φ own h F' KJ h'){i:Nat}{a:Addr}(e:φ[i]?=some a):KJ[i]?=some a:=eU x.pre e
theorem m8 {l:List (List Nat)}{x:List Nat}{j:Nat}(h:l.findIdx? (·==x)=some j):l[j]?=some x/\∀ m,m<j->∀ y,l[m]?=some y->y≠x:=by
 rw[List.findIdx?_eq_some_iff_getElem]at h;refine ak h ?_;clear h;intro hj e hn;refine⟨?_,λm hm y e'=>?_⟩
 ·rw[getElem?_eq_getElem hj];congr;exact eq_of_beq e
 ·have hm':m<l.length:=lt_trans hm hj;rw[getElem?_eq_getElem hm']at e';cases e';intro z;exact hn m hm (by simp[z])
noncomputable def Hq (x:Str):Value->Bool
 |.str y _=>y==x
 |_=>false
theorem kA {a:Addr}{M1:Array Value}{n0:Nat}{y v:AV}{Kx Kw:St}{f:Int->Option (AV×St)}{t:Sem Value}{Q:Value->Shared->Prop}(g1:s.heap.get? a=some { cls:=.type "list",data:=.seq M1 n0 })(g:Good Z w A t F φ s y Kx)
  (e:ar y f=some (v,Kw)) (hQ:KW Z F φ s v Kw Q)
  (k:∀ F1 Kz h1 (tk:Nat) i,Step F φ [] s.heap F1 Kz h1->KD Z F1 Kz Kx h1->f i=some (v,Kw)->∃ arr n l,h1.get? a=some { cls:=.type "list",data:=.seq arr n }/\IntsAre arr.toList l/\v=.int (l.count i)/\Kw=Kx):MethodOnS aM w A aq (ky .count) (.ref a) pos [(false,t)] Q s:=by
 refine⟨"list",_,plainAttrs_list,PySem.F.slot_list_count,PySem.F.type_list_count,⟨_,g1,rfl⟩,(λ_ e=>by cases e;exact⟨_,g1,rfl⟩),
  method1_meets PySem.F.slot_list_count PySem.F.entry_list_count (g.post λF1 Kz y' h1 tk S1 R1 hy=>?_)⟩
 refine dh (Bh hy e) ?_;rintro i t rfl e;refine mS (k F1 Kz h1 tk i S1 R1 e) ?_;rintro arr n l g2 iA rfl rfl;refine⟨⟨_,g2,rfl⟩,PySem.F.args_list_count_2 _ _,_,list_countAt a arr n none #[] _ (isInt i),g2,λy hy=>(eq_isInt i t iA y (by simpa using hy)).at _ _,?_⟩;rw[countP_isInt i iA];exact hQ F1 Kz _ _ _ S1 R1 (.int _ _)
theorem yD {arr:Array Value}{l':List (Str×Tok)}(r1:arr.toList=strValues l')(k:Nat):arr[k]?=(l'[k]?).map λ(p:Str×Tok)=>Value.str p.1 p.2:=by
 have z:=congrArg (λl=>l[k]?) r1;simp only[Array.getElem?_toList]at z;rw[z];unfold strValues;rw[getElem?_map]
theorem Bm {l:List (List Nat)}{l':List (Str×Tok)}(r2:l'.map (·.1)=l.map λx=>(⟨x.toArray⟩:Str)){k:Nat}{p:Str×Tok}(z:l'[k]?=some p):∃ y,l[k]?=some y/\p.1=⟨y.toArray⟩:=by
 have:(l'.map (·.1))[k]?=(l.map λx=>(⟨x.toArray⟩:Str))[k]?:=congrArg (λl=>l[k]?) r2;rw[getElem?_map,getElem?_map,z]at this
 cases z2:l[k]? with
 |none=>rw[z2]at this;cases this
 |some y=>rw[z2]at this;exact⟨y,rfl,K7 this⟩
theorem qx {arr:Array Value}{l:List (List Nat)}{l':List (Str×Tok)}(r1:arr.toList=strValues l')(r2:l'.map (·.1)=l.map λx=>(⟨x.toArray⟩:Str)){k:Nat}(hk:k<arr.size):∃ y t,l[k]?=some y/\arr[k]=.str ⟨y.toArray⟩ t:=by
 have:=yD r1 k;rw[Array.getElem?_eq_getElem hk]at this
 cases z:l'[k]? with
 |none=>rw[z]at this;cases this
 |some p=>
  rw[z]at this;refine ak (Bm r2 z) λy y1 y2=>?_;exact⟨y,p.2,y1,(K7 this).trans (congrArg (λz=>Value.str z p.2) y2)⟩
theorem qy {arr:Array Value}{l:List (List Nat)}{l':List (Str×Tok)}{x:List Nat}{j:Nat}(r1:arr.toList=strValues l')(r2:l'.map (·.1)=l.map λx=>(⟨x.toArray⟩:Str))(q3:l.findIdx? (·==x)=some j) :
  ∃ Po:j<arr.size,Hq ⟨x.toArray⟩ arr[j]=true/\∀ m (hm:m<arr.size),m<j->Hq ⟨x.toArray⟩ arr[m]=false:=by
 refine av (m8 q3) λf1 f2=>?_
 have Mk:arr.size=l.length:=by
  have:=congrArg List.length r1;rw[length_toList]at this;have:=congrArg List.length r2;simp[strValues]at *;lia
 have Po:j<arr.size:=by rw[Mk];exact(List.getElem?_eq_some_iff.mp f1).1
 refine⟨Po,?_,λm hm hmj=>?_⟩
 ·refine dh (qx r1 r2 Po) λy t y1 y2=>?_;rw[f1]at y1;rw[y2,← K7 y1];exact beq_self_eq_true (⟨x.toArray⟩:Str)
 ·refine dh (qx r1 r2 hm) λy t y1 y2=>?_;rw[y2];have ne:=f2 m hmj y y1;show((⟨y.toArray⟩:Str)==⟨x.toArray⟩)=false;simpa using ne
theorem qz {xs:List AV}{y v:AV}{Kx Kw:St}{a:Addr}{arr:Array Value}{t:Sem Value}{Q:Value->Shared->Prop}(R:KD Z F φ st s.heap)(e1:Ly F a arr)(d:KI F φ xs arr.toList)
  (e:(onStr y λx=>match allStrs xs with
   |some l=>match l.findIdx? (·==x) with
    |some j=>if j<1000000 then some (AV.int j,Kx) else none
    |none=>none
   |none=>none)=some (v,Kw))
  (g:Good Z w A t F φ s y Kx) (hQ:KW Z F φ s v Kw Q):MethodOnS aM w A aq (ky .index) (.ref a) pos [(false,t)] Q s:=by
 refine aw (e1.plain R.frz) λn g1=>?_
 refine⟨"list",_,plainAttrs_list,PySem.F.slot_list_index,PySem.F.type_list_index,⟨_,g1,rfl⟩,(λ_ e=>by cases e;exact⟨_,g1,rfl⟩),
  method1_meets PySem.F.slot_list_index PySem.F.entry_list_index (g.post λF1 Kz y' h1 tk S1 R1 hy=>?_)⟩
 refine dh (uW hy e) ?_;rintro x t rfl e;refine oW e λl q2 e=>?_
 cases q3:l.findIdx? (·==x) with
 |none=>rw[q3]at e;exact absurd e bg
 |some j=>
 rw[q3]at e;refine oI e λhj e=>?_;refine aw ((e1.mono S1.le).plain R1.frz) λn g2=>?_;refine ak (m7 q2 (d.mono S1.le S1.pre)) λl' r1 r2=>?_;refine ak (qy r1 r2 q3) λPo i1 i2=>?_;refine⟨⟨_,g2,rfl⟩,PySem.F.args_list_index_2 _ _,_,list_indexAt a arr n none #[] _ (Hq ⟨x.toArray⟩) j Po (by lia) i1 i2,g2,λy hy=>?_,?_⟩
 ·obtain⟨k,hk,rfl⟩:=Array.mem_iff_getElem.mp hy;refine dh (qx r1 r2 hk) λy t _ y2=>?_;rw[y2];exact EqAt.str_str _ _ _ _
 ·exact oP (P:=λv Kw=>KW Z F φ s v Kw Q->Q _ _) e (λhQ=>hQ F1 Kz _ _ _ S1 R1 (.int _ _)) hQ
theorem ot {i:Nat}{y v:AV}{Kx Kw:St}{a:Addr}{t:Sem Value}{Q:Value->Shared->Prop}(p:jp st (.obj i)=true)(R:KD Z F φ st s.heap)(hi:φ[i]?=some a)
  (e:(match listAt Kx i with
   |some xs=>if xs.length<1000000 then some (AV.none,Kx.set i (.list (xs++[y]))) else none
   |none=>none)=some (v,Kw))
  (g:Good Z w A t F φ s y Kx) (hQ:KW Z F φ s v Kw Q):MethodOnS aM w A aq (ky .append) (.ref a) pos [(false,t)] Q s:=by
 refine aw (isSome_iff_exists.mp p) λys p'=>?_;refine ak (R.list p' hi) ?_;rintro M1 ⟨n,g1⟩ d0;refine⟨"list",_,plainAttrs_list,PySem.F.slot_list_append,PySem.F.type_list_append,⟨_,g1,rfl⟩,(λ_ e=>by cases e;exact⟨_,g1,rfl⟩),?_⟩;refine Calls.callWith_builtin rfl (Calls.evalArgs_plain (Calls.spliced_cons (g.post λF1 Kz y' h1 tk S1 R1 hy=>Calls.spliced_nil ?_)));refine oV e λxs q1 e=>oI e λhs e=>?_;refine ak (R1.list q1 (S1.list hi)) λarr hl d=>?_;have Mk:=d.size;refine wpAny_list_append_plain hl (λh2 MT k2=>?_) (by rw[sizeLine_eq];exact Q2 0x45112f4240511115011010000007141103 [_,_] hs Mk rfl);have ex:∃ o,h2.get? a=some o:=let ⟨n,z⟩:=MT;⟨_,z⟩;refine oP (P:=λv Kw=>KW Z F φ s v Kw Q->Q _ _) e (λhQ=>hQ F1 Kz _ _ _ (S1.trans (Step.upd (mem_of_getElem? (S1.list hi)) k2 ex)) (R1.upd (S1.list hi) k2 ⟨_,MT,?_⟩ ex) .none) hQ;rw[Array.toList_push];exact d.snoc hy
theorem tJ {l:List Nat}{y v:AV}{Kx Kw:St}{tx:Tok}{t:Sem Value}{Q:Value->Shared->Prop}
  (e:(match cN Kx y with
   |some xs=>match allStrs xs with
    |some r=>if (r.map List.length).sum+r.length*l.length<=1000000 then some (AV.str (eX l r),Kx) else none
    |none=>none
   |none=>none)=some (v,Kw))
  (g:Good Z w A t F φ s y Kx) (hQ:KW Z F φ s v Kw Q):MethodOnS aM w A aq (ky .join) (.str ⟨l.toArray⟩ tx) pos [(false,t)] Q s:=by
 refine SB.join (g.post λF1 Kz y' h1 tk S1 R1 hy=>?_);refine oV e λxs q1 e=>oW e λr q2 e=>oI e λhc e=>?_;refine cP (R1.lstOf q1 hy) ?_;rintro a arr rfl hl d;refine ak (m7 q2 d) λl' e1 e2=>?_;have ea:arr=(strValues l').toArray:=by apply Array.ext';simpa using e1
 subst ea;refine⟨a,l',rfl,aP hl,_,e2,joinOk_of hc,λt' k=>?_⟩;show Q (.str (Builtin.Str.glued _ _) t') _;rw[StrLaws.glued_eq_join,oo];exact oP (P:=λv Kw=>KW Z F φ s v Kw Q->Q _ _) e (λhQ=>hQ F1 Kz _ _ _ S1 R1 (.str _ _)) hQ
theorem ou {b:Bool}{y v:AV}{Kx Kw:St}{t:Sem Value}{Q:Value->Shared->Prop}(R:KD Z F φ st s.heap)
  (e:(onStr y λx=>if d8 b x&&decide (x.length<=1000000) then some (AV.none,Kx) else none)=some (v,Kw))
  (g:Good Z w A t F φ s y Kx) (hQ:KW Z F φ s v Kw Q):MethodOnS aM w A aq (ky .search) (.ref (if b then fp else ft)) pos [(false,t)] Q s:=by
 refine(R.base.rx b).casesOn λfs _ _ _ _ e1 _ _ _ _ _ _=>?_;have g1:=R.frz _ _ e1
 refine⟨"re.Pattern",_,lP,f8,km,⟨_,g1,rfl⟩,(λ_ e=>by cases e;exact⟨_,g1,rfl⟩),
  method1_meets f8 jO (g.post λF1 Kz y' h1 tk S1 R1 hy=>?_)⟩
 refine dh (uW hy e) ?_;rintro x t rfl e;refine oI e λc e=>?_;refine av ((and_eq_true _ _).mp c) λc1 c2=>?_;refine⟨⟨_,R1.frz _ _ (S1.le _ _ e1),rfl⟩,ko _ _,_,mY x _ c1 (of_decide_eq_true c2) (R1.base.rx b),R1.frz,?_⟩;exact oP (P:=λv Kw=>KW Z F φ s v Kw Q->Q _ _) e (λhQ=>hQ F1 Kz _ _ tk S1 R1 .none) hQ
theorem yE {o:Option (List AV)}{i:Int}{Kx Kw:St}{v:AV}{P:Prop}(e:(match o with
 |some xs=>match allInts xs with
  |some l=>some (AV.int (l.count i),Kx)
  |none=>none
 |none=>none)=some (v,Kw)) (k:∀ xs l,o=some xs->allInts xs=some l->v=.int (l.count i)->Kw=Kx->P):P:=
 oV e λxs q e=>oN e λl q2 e=>k xs l q q2 (Prod.mk.inj (K7 e)).1.symm (Prod.mk.inj (K7 e)).2.symm
theorem tK {m:Sm}{x y v:AV}{Kx Kw:St}{vx:Value}{t:Sem Value}{Q:Value->Shared->Prop}(p:jp st x=true)(e:jM Kx m x [y]=some (v,Kw))(R:KD Z F φ st s.heap)(rm:KP 1 A)(hx:VR F φ x vx)
  (g:Good Z w A t F φ s y Kx) (hQ:KW Z F φ s v Kw Q):MethodOnS aM w A aq (ky m) vx pos [(false,t)] Q s:=
 match m,e with
 |.join,e=>hZ (P:=λvx=>MethodOnS aM w A aq (ky .join) vx pos [(false,t)] Q s) hx e λl tx e=>tJ e g hQ
 |.count,e=>z5 (P:=λvx=>MethodOnS aM w A aq (ky .count) vx pos [(false,t)] Q s) hx e
   (λxs a arr e e1 d=>let ⟨n0,g1⟩:=e1.plain R.frz;kA g1 g e hQ λF1 Kz h1 tk i S1 R1 e=>oN e λl q2 e=>
    let ⟨n,g2⟩:=(e1.mono S1.le).plain R1.frz;⟨arr,n,l,g2,KI.intsAre q2 (d.mono S1.le S1.pre),(Prod.mk.inj (K7 e)).1.symm,(Prod.mk.inj (K7 e)).2.symm⟩)
   λe=>by
    revert p;refine kh (P:=λx=>VR F φ x vx->jp st x=true->MethodOnS aM w A aq (ky .count) vx pos [(false,t)] Q s) (λi e hx p=>VR.objR (P:=λvx=>MethodOnS aM w A aq (ky .count) vx pos [(false,t)] Q s) (λa hi=>?_) hx) e hx;refine aw (isSome_iff_exists.mp p) λys p'=>?_;refine ak (R.list p' hi) ?_;rintro M1 ⟨n0,g1⟩ d0
    exact kA g1 g e hQ λF1 Kz h1 tk j S1 R1 e=>yE e λxs l q1 q2 q3 q4=>
     let ⟨arr,⟨n,g2⟩,d⟩:=R1.list q1 (S1.list hi);⟨arr,n,l,g2,KI.intsAre q2 d,q3,q4⟩
 |.index,e=>rR (P:=λvx=>MethodOnS aM w A aq (ky .index) vx pos [(false,t)] Q s) hx e λxs a arr e e1 d=>qz R e1 d e g hQ
 |.append,e=>kh (P:=λx=>VR F φ x vx->jp st x=true->MethodOnS aM w A aq (ky .append) vx pos [(false,t)] Q s) (λi e hx p=>VR.objR (P:=λvx=>MethodOnS aM w A aq (ky .append) vx pos [(false,t)] Q s) (λa hi=>ot p R hi e g hQ) hx) e hx p
 |.search,e=>DH (P:=λvx=>MethodOnS aM w A aq (ky .search) vx pos [(false,t)] Q s) hx e λb e=>ou R e g hQ
 |.lower,e=>absurd e bg
 |.upper,e=>absurd e bg
 |.bitlen,e=>absurd e bg
 |.reverse,e=>absurd e bg
section
variable {a:Addr}{o:Obj}
theorem Step.putNew (S:Step F φ own h F' KJ h')(e:h.get? a=none)(n:F' a=none):Step F φ own h (ia F' a o) KJ h':=
 ⟨S.le.trans (cW n),λx o' q=>by
  unfold ia at q;by_cases z:x=a
  ·subst z;exact .inr (.inl e)
  ·rw[if_neg z]at q;exact S.fnew x o' q,S.pre,S.pnew,S.dom,S.kept⟩
theorem Step.growNew (S:Step F φ own h F' KJ h')(e:h.get? a=none):Step F φ own h F' (KJ++[a]) h':=
 ⟨S.le,S.fnew,S.pre.trans (prefix_append _ _),λx m=>by
  rcases mem_append.mp m with m |m
  ·exact S.pnew x m
  ·simp at m;subst m;exact .inr e,S.dom,S.kept⟩
end
section
variable (Z:KX)(w:World)
noncomputable def fW (A:Around)(t:Sem (List Value))(F:bf)(φ:List Addr)(s:Shared)(vs:List AV)(Kw:St):Prop:=
 ∀ Q:List Value->Shared->Prop,(∀ F' KJ KO h' tk,Step F φ [] s.heap F' KJ h'->KD Z F' KJ Kw h'->KI F' KJ vs KO->Q KO ⟨h',s.gens,s.drawn,tk,s.os⟩) ->
  aA w A t Q aq s
noncomputable def K6 (F:bf)(φ:List Addr)(s:Shared)(vs:List AV)(Kw:St)(Q:Value->Shared->Prop):Prop:=
 ∀ F' KJ h' a arr n tk,Step F φ [] s.heap F' KJ h'->KD Z F' KJ Kw h'->h'.get? a=some { cls:=.type "list",data:=.seq arr n }->s.heap.get? a=none->F' a=none->a∉KJ ->
  KI F' KJ vs arr.toList->Q (.ref a) ⟨h',s.gens,s.drawn,tk,s.os⟩
noncomputable def KN (A:Around)(t:Sem Value)(F:bf)(φ:List Addr)(s:Shared)(vs:List AV)(Kw:St):Prop:=
 ∀ Q:Value->Shared->Prop,K6 Z F φ s vs Kw Q->aA w A t Q aq s
noncomputable def dL (A:Around)(t:Sem Bool)(F:bf)(φ:List Addr)(s:Shared)(b:Bool)(Kw:St):Prop:=
 ∀ Q:Bool->Shared->Prop,(∀ F' KJ h' tk,Step F φ [] s.heap F' KJ h'->KD Z F' KJ Kw h'->Q b ⟨h',s.gens,s.drawn,tk,s.os⟩) ->
  aA w A t Q aq s
end
theorem KW.step {v:AV}{Q:Value->Shared->Prop}{F1:bf}{Kz:List Addr}{h1:Heap}{tk:Nat}(hQ:KW Z F φ s v Kw Q)(S:Step F φ [] s.heap F1 Kz h1) :
  KW Z F1 Kz ⟨h1,s.gens,s.drawn,tk,s.os⟩ v Kw Q:=λF' KJ v' h' Mj S' R' hv=>hQ F' KJ v' h' Mj (S.trans S') R' hv
theorem K6.step {v:List AV}{Q:Value->Shared->Prop}{F1:bf}{Kz:List Addr}{h1:Heap}{tk:Nat}(hQ:K6 Z F φ s v Kw Q)(S:Step F φ [] s.heap F1 Kz h1) :
  K6 Z F1 Kz ⟨h1,s.gens,s.drawn,tk,s.os⟩ v Kw Q:=λF' KJ h' a arr n Mj S' R' e e' n1 n2 hv=>hQ F' KJ h' a arr n Mj (S.trans S') R' e (by
   cases q:s.heap.get? a with
   |none=>rfl
   |some o=>refine aw (S.dom a o q) λo' z=>?_;rw[show h1.get? a=none from e']at z;cases z) n1 n2 hv
theorem KN.frozen {t:Sem Value}{vs:List AV}(R0:KD Z F φ st s.heap)(g:KN Z w A t F φ s vs Kw):Good Z w A t F φ s (.lst vs) Kw:=
 λQ hQ=>g Q λF' KJ h' a arr n tk S R e e0 n1 n2 hv=>by
  refine gS (R0.absent e0) λ_ _ n3 n4=>?_;exact hQ _ KJ _ h' tk (S.putNew e0 n1) (R.freeze n1 n2 n3 n4 e) (.lst ⟨n,bP⟩ (hv.mono (cW n1) (prefix_refl _)))
theorem KN.stored {t:Sem Value}{vs:List AV}(R0:KD Z F φ st s.heap)(g:KN Z w A t F φ s vs Kw):Good Z w A t F φ s (.obj Kw.length) (Kw++[.list vs]):=
 λQ hQ=>g Q λF' KJ h' a arr n tk S R e e0 n1 n2 hv=>by
  refine gS (R0.absent e0) λ_ _ n3 n4=>?_;refine hQ _ (KJ++[a]) _ h' tk (S.growNew e0) (R.grow n1 n2 n3 n4 e ⟨arr,⟨n,e⟩,hv.mono (Lp.refl _) (prefix_append _ _)⟩) (.obj ?_);rw[← R.len];simp
theorem K6.push {vs:List AV}{arr:Array Value}{n:Nat}{tk:Nat}{Q:Value->Shared->Prop}(hQ:K6 Z F φ s vs st Q)(R:KD Z F φ st s.heap)(hv:KI F φ vs arr.toList) :
  Q (.ref s.heap.objs.size) ⟨s.heap.push { cls:=.type "list",data:=.seq arr n },s.gens,s.drawn,tk,s.os⟩:=by
 refine gS R.size_new λn1 n2 n3 n4=>?_;exact hQ F φ _ _ arr n tk (Step.ext aC) (R.ext aC) (get?_push_size _ rfl) (cD _) n1 n2 hv
noncomputable def aB (e:Expr):Bool:=!Nat.beq e.ctorIdx 22
theorem dJ {e:Expr}{r:List Expr}(h:aB e=true):starEach (e::r) env=(false,eval e env)::starEach r env:=by
 cases e<;>first |rfl |cases h
theorem bk {e:Expr}{r:List Expr}(h:aB e=true):backTo pos (starEach (e::r) env)=(false,eval e env)::backTo pos (starEach r env):=by
 rw[dJ h];rfl
theorem cM:∀ {es:List Expr},es.all aB=true->(backTo pos (starEach es env)).any (·.1)=false:=by
 intro es
 induction es with
 |nil=>
  intro _;exact rfl
 |cons e r ih=>
  intro h;simp only[all_cons,and_eq_true]at h;rw[bk h.1,List.any_cons,ih h.2];rfl
theorem fg {f:Value}{es:List Expr}{vs:List AV}{Q:Args->Shared->Prop}(hs:es.all aB=true)(R:KD Z F φ st s.heap)
  (h0:es=[]->vs=[]/\Kw=st)
  (g:fW Z w A (spliced (backTo pos (starEach es env))) F φ s vs Kw)
  (hQ:∀ F' KJ KO h' tk,Step F φ [] s.heap F' KJ h'->KD Z F' KJ Kw h'->KI F' KJ vs KO->Q ⟨KO,[]⟩ ⟨h',s.gens,s.drawn,tk,s.os⟩) :
  aA w A (evalArgs f true (backTo pos (starEach es env)) []) Q aq s:=by
 cases es with
 |nil=>
  refine av (h0 rfl) ?_;rintro rfl rfl;exact evalArgs_nil3 (hQ F φ [] _ _ (Step.refl ..) R .nil)
 |cons e r=>
  simp only[all_cons,and_eq_true]at hs;rw[bk hs.1]at g ⊢;exact Calls.evalArgs_plain (g _ hQ)
theorem jr {f:Value}{first:List Value}{es:List Expr}{vs:List AV}{v:AV}{Kx Kw:St}(hs:es.all aB=true)(R:KD Z F φ st s.heap)(hk:keepIn Z.K f=true)
  (h0:es=[]->vs=[]/\Kx=st)
  (g:fW Z w A (spliced (backTo pos (starEach es env))) F φ s vs Kx)
  (hc:∀ F1 Kz KO h1 tk,Step F φ [] s.heap F1 Kz h1->KD Z F1 Kz Kx h1->KI F1 Kz vs KO->Good Z w A (call f (first++KO)) F1 Kz ⟨h1,s.gens,s.drawn,tk,s.os⟩ v Kw) :
  Good Z w A (callWith pos f first (backTo pos (starEach es env)) []) F φ s v Kw:=λQ hQ=>by
 refine PySem.W.callWith_of (P:=λh=>Z.K.In h) (by rw[cM hs];rfl) (keeps_K hk) (fg hs R h0 g λF1 Kz KO h1 tk S1 R1 V1=>⟨R1.base.inK R1.frz,?_⟩);exact hc F1 Kz KO h1 tk S1 R1 V1 Q (KW.step hQ S1)
theorem ow {f:Value}{es:List Expr}{vs:List AV}{v:AV}{Kx Kw:St}(hs:es.all aB=true)(R:KD Z F φ st s.heap)(hf:(∃ id,f=.builtin id)\/∃ T,f=.type T)
  (h0:es=[]->vs=[]/\Kx=st)
  (g:fW Z w A (spliced (backTo pos (starEach es env))) F φ s vs Kx)
  (hc:∀ F1 Kz KO h1 tk,Step F φ [] s.heap F1 Kz h1->KD Z F1 Kz Kx h1->KI F1 Kz vs KO->Good Z w A (call f KO) F1 Kz ⟨h1,s.gens,s.drawn,tk,s.os⟩ v Kw) :
  Good Z w A (callWith pos f [] (backTo pos (starEach es env)) []) F φ s v Kw:=λQ hQ=>by
 have fin:∀ f,(∀ F1 Kz KO h1 tk,Step F φ [] s.heap F1 Kz h1->KD Z F1 Kz Kx h1->KI F1 Kz vs KO->Good Z w A (call f KO) F1 Kz ⟨h1,s.gens,s.drawn,tk,s.os⟩ v Kw) ->
   aA w A (evalArgs f true (backTo pos (starEach es env)) []) (λa KQ=>aA w A (call f ([]++a.pos) a.kw) Q aq KQ) aq s:=λf hc=>
  fg hs R h0 g λF1 Kz KO h1 tk S1 R1 V1=>hc F1 Kz KO h1 tk S1 R1 V1 Q (KW.step hQ S1)
 rcases hf with ⟨id,rfl⟩ |⟨T,rfl⟩
 ·exact Calls.callWith_builtin (cM hs) (fin _ hc)
 ·exact PyProof.Rows.callWith_type (cM hs) (fin _ hc)
noncomputable def ga (e:Expr):Bool:=!Nat.beq e.ctorIdx 26
theorem m9 {value slice:Expr}{Q E:Value->Shared->Prop}(hn:ga slice=true)
  (h:aA w A (eval value env) (λo KQ=>aA w A (eval slice env) (λi KV=>(∃ T id,typeLookup (.type T) (ofString "__getitem__")=Pure.pure (some (.builtin id))/\KV.TypeIs o T)/\aA w A (getItem o i) Q E KV) E KQ) E s) :
  aA w A (eval (.Subscript value slice pos) env) Q E s:=by
 rw[arm_eval_Subscript];refine wpAny_bind (wpAny_mono h (λo KQ Lj=>wpAny_bind (wpAny_holding (wpAny_mono Lj (λi KV Lq=>wpAny_bind (wpAny_standAt ?_)) λ_ _ x=>x))) λ_ _ x=>x);refine av Lq ?_;clear Lq;rintro⟨T,id,hl,hT⟩ hg;refine wpAny_bind ?_;rw[getitemInPython_of_ne hT.not_modules];refine wpAny_bind (wpAny_specialOf hT hl ?_)
 have fin:aA w A (operate [o,i] (getItem o i)) (λr Lg=>aA w A (letTemporaryGo value o r>>=λ_=>Pure.pure r) Q E Lg) E KV:=
  wpAny_operating (wpAny_mono hg (λr Lg LJ=>wpAny_bind (wpAny_letTemporaryGo (wpAny_pure LJ))) λ_ _ x=>x)
 have e:subscripted slice false o i=operate [o,i] (getItem o i):=by
  cases slice<;>first |rfl |cases hn
 refine wpAny_pure (wpAny_bind ?_);rw[e];exact fin
theorem VR.sub {x y v:AV}{vx:Value}(e:cB st x y=some v)(R:KD Z F φ st s.heap)(hx:VR F φ x vx) :
  ∃ T id,typeLookup (.type T) (ofString "__getitem__")=Pure.pure (some (.builtin id))/\s.TypeIs vx T:=by
 refine eV (P:=λ_=>_) (λi e=>?_) e;refine kj (P:=λvx=>∃ T id,typeLookup (.type T) (ofString "__getitem__")=Pure.pure (some (.builtin id))/\s.TypeIs vx T) hx e (λa t _=>⟨"str",_,PySem.F.slot_str_getitem.lookup,typeIs_str _ _ _⟩) λe=>?_;refine oV e λxs q e=>?_;refine cP (R.seqOf q hx) ?_;rintro a arr rfl h1 d;exact h1.elim (λh=>⟨"list",_,PySem.F.slot_list_getitem.lookup,h.typeIs⟩) λh=>⟨"tuple",_,PySem.F.slot_tuple_getitem.lookup,h.typeIs⟩
noncomputable def eY:Expr->Bool
 |.Call (.Name _ _) [] [] _=>false
 |_=>true
theorem cX {o:Expr}{n:Str}{env:Env}{t:Sem Value}:eY o=true->attributeBase o n env t=t:=by
 cases o with
 |Call f a k p=>
  cases f with
  |Name _ _=>match a,k with
   |[],[]=>exact λh=>absurd h LU
   |_::_,_=>exact λ_=>rfl
   |[],_::_=>exact λ_=>rfl
  |_=>exact λ_=>rfl
 |_=>exact λ_=>rfl
section
variable {M:Model}{E:Value->Shared->Prop}
theorem me {o:Expr}{name:Str}{apos pos:Pos}{args:List Expr}{Pp:List Keyword}{Q:Value->Shared->Prop}
  (hb:eY o=true)
  (Nj:methodCallForm (args.length+Pp.length) (backTo pos (starEach args env)) (backToKw pos (keywordEach Pp env))=true)
  (KY:(apos.endLine==pos.line)=true)
  (h:wpAny M A (eval o env) (λov KQ=>∀ pl,wpAny M A (getMethod ov name pl) (λfx KV=>wpAny M A (callWith pos fx.1 fx.2 (backTo pos (starEach args env)) (backToKw pos (keywordEach Pp env))) Q E KV) E KQ) E s) :
  wpAny M A (eval (.Call (.Attribute o name apos) args Pp pos) env) Q E s:=by
 rw[arm_eval_Call,cX hb];refine wpAny_bind (wpAny_mono h (λov KQ Lj=>?_) λ_ _ e=>e);refine wpAny_bind (wpAny_standAt ?_);have NK:methodCallPos true o env apos pos=pure pos:=by unfold methodCallPos;simp[KY]
 unfold methodCall;rw[Nj];refine wpAny_bind (wpAny_holding (wpAny_mono (Lj _) (λfx KV Lq=>?_) λ_ _ e=>e));exact wpAny_bind (wpAny_of_eq NK Lq)
theorem qA {es:List Expr}(h:es.all aB=true)(hl:es.length<10):methodCallForm (es.length+([]:List Keyword).length) (backTo pos (starEach es env)) (backToKw pos (keywordEach [] env))=true:=by
 unfold methodCallForm
 have h1:(backTo pos (starEach es env)).all (!·.1)=true:=by
  have:=cM (env:=env) (pos:=pos) h;rw[all_eq_true];intro x hx;rw[List.any_eq_false]at this;simpa using this x hx
 rw[h1];show(true&&true&&decide (_<30))=true;simp;show es.length+0+0<30;exact bN
theorem iu {o:Expr}{name:Str}{Q E:Value->Shared->Prop}{w:World}(hb:eY o=true)
  (h:aA w A (eval o env) (λov KQ=>aA w A (getAttr ov name true) Q E KQ) E s) :
  aA w A (eval (.Attribute o name pos) env) Q E s:=by
 rw[arm_eval_Attribute,cX hb];refine wpAny_bind (wpAny_mono h (λov KQ Lj=>?_) λ_ _ e=>e);exact wpAny_bind (wpAny_standAt (wpAny_bind (wpAny_holding (wpAny_mono Lj (λr KV Lq=>wpAny_bind (wpAny_letTemporaryGo (wpAny_pure Lq))) λ_ _ e=>e))))
end
noncomputable def z7 (k:Nat):Nat:=[18,19,20,21,22,23,24,25,26,27,28,29,14,13,9,10,11,12,15,16,8,17,30].getD k 999
noncomputable def yF:Bi->Nat
 |.len=>172
 |.range1=>148
 |.range2=>148
 |.sum=>190
 |.min=>161
 |.max=>200
 |.hex=>187
 |.chr=>179
 |.ord=>188
 |.str=>169
 |.divmod=>177
 |.tuple=>180
 |.next=>151
 |.iter=>165
noncomputable def yG:Ty->Nat
 |.int=>197
 |.str=>169
 |.list=>168
 |.bool=>196
noncomputable def Hr:Ty->String
 |.int=>"int"
 |.str=>"str"
 |.list=>"list"
 |.bool=>"bool"
noncomputable def gl (sc:Scope)(x:Str):Bool:=sc.names.lookup x==some .globalImplicit
noncomputable def iV (neg:Bool):CmpOp:=if neg then .IsNot else .Is
structure Sel where
 nm:Str->Bool:=λ_=>false
 cn:Const->Bool:=λ_=>false
 bi:Expr->Operator->Expr->Bool:=λ_ _ _=>false
 cm:Expr->List CmpOp->List Expr->Bool:=λ_ _ _=>false
 it:Expr->Expr->Expr->Bool:=λ_ _ _=>false
 tu:List Expr->Bool:=λ_=>false
 li:List Expr->Bool:=λ_=>false
 su:Expr->Expr->Bool:=λ_ _=>false
 sl:Option Expr->Option Expr->Option Expr->Bool:=λ_ _ _=>false
 ca:Expr->List Expr->List Keyword->Pos->Bool:=λ_ _ _ _=>false
 at_:Expr->Str->Pos->Bool:=λ_ _ _=>false
 co:Expr->List Comprehension->Scope->Bool:=λ_ _ _=>false
 un:UnaryOp->Expr->Bool:=λ_ _=>false
 bo:BoolOp->List Expr->Bool:=λ_ _=>false
noncomputable def nb (ex:Expr)(f:Sel):Bool:=match ex with
 |.Name id _=>f.nm id
 |.Constant c _ _=>f.cn c
 |.BinOp l o r _=>f.bi l o r
 |.Compare l o r _=>f.cm l o r
 |.IfExp t x y _=>f.it t x y
 |.Tuple xs _ _=>f.tu xs
 |.List xs _=>f.li xs
 |.Subscript a i _=>f.su a i
 |.Slice l u t _=>f.sl l u t
 |.Call g as ks p=>f.ca g as ks p
 |.Attribute o n p=>f.at_ o n p
 |.ListComp e gs sc _=>f.co e gs sc
 |.UnaryOp o x _=>f.un o x
 |.BoolOp o xs _=>f.bo o xs
 |_=>false
noncomputable def fh (e:Expr):Bool:=!Nat.beq e.ctorIdx 7
noncomputable def kD (ex:Expr):Bool:=nb ex { nm:=λ_=>true,cn:=λ_=>true,ca:=λ_ _ _ _=>true,bi:=λ_ _ _=>true,su:=λ_ _=>true,at_:=λ_ _ _=>true }
noncomputable def nf (ex:Expr):Bool:=!nb ex { cm:=λ_ _ _=>true }
noncomputable def eS (ex:Expr)(n:Str)(b:Bool):Bool:=nb ex { nm:=λid=>id==n&&b }
noncomputable def yH (ex:Expr)(c:Const)(b:Bool):Bool:=nb ex { cn:=λd=>d==c&&b }
noncomputable def mf (ex:Expr)(op:Operator)(k:Expr->Expr->Bool):Bool:=nb ex { bi:=λl o r=>o==op&&k l r }
noncomputable def ng {α:Type}(l:List α)(k:α->Bool):Bool:=match l with
 |[]=>false
 |x::r=>r.isEmpty&&k x
noncomputable def eH {α:Type}(l:List α)(k:α->List α->Bool):Bool:=match l with
 |[]=>false
 |x::r=>k x r
noncomputable def iw {α:Type}(l:List α)(b:Bool):Bool:=l.isEmpty&&b
noncomputable def Bn {α:Type}(l:List α)(k:α->α->Bool):Bool:=eH l λx r=>ng r (k x)
noncomputable def ox (ex:Expr)(op:CmpOp)(k:Expr->Expr->Bool):Bool:=nb ex { cm:=λl os rs=>os==[op]&&ng rs (k l) }
noncomputable def Bo (ex:Expr)(k:Expr->Expr->Expr->Bool):Bool:=nb ex { it:=k }
noncomputable def oy (ex:Expr)(k:List Expr->Bool):Bool:=nb ex { tu:=k }
noncomputable def qB (ex:Expr)(k:List Expr->Bool):Bool:=nb ex { li:=k }
noncomputable def jt (ex:Expr)(k:Expr->Expr->Bool):Bool:=nb ex { su:=k }
noncomputable def j2 (ex:Expr)(k:Option Expr->Option Expr->Option Expr->Bool):Bool:=nb ex { sl:=k }
noncomputable def nh (ex:Expr)(k:Expr->List Expr->List Keyword->Pos->Bool):Bool:=nb ex { ca:=k }
noncomputable def dw (ex:Expr)(k:Expr->List Expr->Pos->Bool):Bool:=nh ex λf as ks p=>iw ks (k f as p)
noncomputable def fi (ex:Expr)(n:Str)(k:Expr->Pos->Bool):Bool:=nb ex { at_:=λo m p=>m==n&&k o p }
noncomputable def qC (ex:Expr)(k:Expr->List Comprehension->Scope->Bool):Bool:=nb ex { co:=k }
noncomputable def rV (g:Comprehension)(k:Expr->Expr->List Expr->Bool):Bool:=g.is_async==0&&k g.target g.iter g.ifs
noncomputable def DK (ks:List Keyword)(n:Str)(k:Expr->Bool):Bool:=ng ks λkw=>kw.arg==some n&&k kw.value
noncomputable def Bp (ex:Expr)(op:UnaryOp)(k:Expr->Bool):Bool:=nb ex { un:=λo x=>o==op&&k x }
noncomputable def qD (ex:Expr)(op:BoolOp)(k:List Expr->Bool):Bool:=nb ex { bo:=λo xs=>o==op&&k xs }
noncomputable def fI {α:Type}(o:Option α)(b:Bool):Bool:=o.isNone&&b
noncomputable def iW {α:Type}(o:Option α)(k:α->Bool):Bool:=match o with
 |none=>false
 |some x=>k x
noncomputable def vd (ex:Expr):Bool:=nb ex { tu:=λ_=>true }
noncomputable def ni (ex:Expr):Bool:=nb ex { nm:=λ_=>true }
noncomputable def qE (ex:Expr):Bool:=nb ex { co:=λ_ _ _=>true }
noncomputable def ve (ex:Expr):Bool:=nb ex { ca:=λ_ _ _ _=>true }
theorem bC {b c:Bool}(h:(b&&c)=true):b=true/\c=true:=by cases b<;>cases c<;>first |exact⟨rfl,rfl⟩ |cases h
theorem oz {α:Type}{o:Option α}{p:α->Bool}(h:o.any p=true):∃ y,o=some y/\p y=true:=by
 cases o with
 |none=>cases h
 |some y=>exact⟨y,rfl,h⟩
theorem dk {α:Type}[BEq α][LawfulBEq α]{a b:α}(h:(a==b)=true):a=b:=eq_of_beq h
theorem bV {a b:Bool}{P:Prop}(h:(a&&b)=true)(k:a=true->b=true->P):P:=k (bC h).1 (bC h).2
theorem fZ {a b c:Bool}{P:Prop}(h:(a&&(b&&c))=true)(k:a=true->b=true->c=true->P):P:=bV h λx h=>bV h (k x)
theorem oJ {a b c d:Bool}{P:Prop}(h:(a&&(b&&(c&&d)))=true)(k:a=true->b=true->c=true->d=true->P):P:=bV h λx h=>fZ h (k x)
theorem qF {a b c d e:Bool}{P:Prop}(h:(a&&(b&&(c&&(d&&e))))=true)(k:a=true->b=true->c=true->d=true->e=true->P):P:=bV h λx h=>oJ h (k x)
theorem yI {a b c d e f:Bool}{P:Prop}(h:(a&&(b&&(c&&(d&&(e&&f)))))=true)(k:a=true->b=true->c=true->d=true->e=true->f=true->P):P:=bV h λx h=>qF h (k x)
theorem Bq {a b c d e f g i j:Bool}{P:Prop}(h:(a&&(b&&(c&&(d&&(e&&(f&&(g&&(i&&j))))))))=true)(k:a=true->b=true->c=true->d=true->e=true->f=true->g=true->i=true->j=true->P):P:=
 oJ h λx y z h=>yI h (k x y z)
theorem yf {α:Type}[BEq α][LawfulBEq α]{a b:α}{c:Bool}{P:α->Prop}(k:c=true->P b):(a==b&&c)=true->P a:=λh=>bV h λe hc=>eq_of_beq e▸k hc
theorem kE {α:Type}{l:List α}{c:Bool}{P:List α->Prop}(k:c=true->P []):iw l c=true->P l:=λh=>bV h λe hc=>(isEmpty_iff.mp e)▸k hc
theorem bn {ex:Expr}{n:Str}{b:Bool}{P:Expr->Prop}(k:∀ p,b=true->P (.Name n p)):eS ex n b=true->P ex:=by
 cases ex<;>first |exact LG |exact yf (P:=λz=>P (.Name z _)) (k _)
theorem ju {ex:Expr}{c:Const}{b:Bool}{P:Expr->Prop}(k:∀ q p,b=true->P (.Constant c q p)):yH ex c b=true->P ex:=by
 cases ex<;>first |exact LG |exact yf (P:=λz=>P (.Constant z _ _)) (k _ _)
theorem iy {ex:Expr}{op:Operator}{f:Expr->Expr->Bool}{P:Expr->Prop}(k:∀ l r p,f l r=true->P (.BinOp l op r p)):mf ex op f=true->P ex:=by
 cases ex<;>first |exact LG |exact yf (P:=λz=>P (.BinOp _ z _ _)) (k _ _ _)
theorem dz {α:Type}{l:List α}{f:α->Bool}{P:List α->Prop}(k:∀ x,f x=true->P [x]):ng l f=true->P l:=by
 cases l with
 |nil=>exact LG
 |cons x r=>exact kE (P:=λr=>P (x::r)) (k x)
theorem bD {α:Type}{l:List α}{f:α->List α->Bool}{P:List α->Prop}(k:∀ x r,f x r=true->P (x::r)):eH l f=true->P l:=by
 cases l with
 |nil=>exact LG
 |cons x r=>exact k x r
theorem kG {α:Type}{l:List α}{f:α->α->Bool}{P:List α->Prop}(k:∀ x y,f x y=true->P [x,y]):Bn l f=true->P l:=bD λx r=>dz (P:=λr=>P (x::r)) (k x)
theorem j4 {ex:Expr}{op:CmpOp}{f:Expr->Expr->Bool}{P:Expr->Prop}(k:∀ l r p,f l r=true->P (.Compare l [op] [r] p)):ox ex op f=true->P ex:=by
 cases ex<;>first |exact LG |exact yf (P:=λz=>P (.Compare _ z _ _)) (dz (P:=λz=>P (.Compare _ [op] z _)) λr=>k _ r _)
theorem vf {ex:Expr}{f:Expr->Expr->Expr->Bool}{P:Expr->Prop}(k:∀ t x y p,f t x y=true->P (.IfExp t x y p)):Bo ex f=true->P ex:=by
 cases ex<;>first |exact LG |exact k _ _ _ _
theorem gF {ex:Expr}{f:List Expr->Bool}{P:Expr->Prop}(k:∀ xs q p,f xs=true->P (.Tuple xs q p)):oy ex f=true->P ex:=by
 cases ex<;>first |exact LG |exact k _ _ _
theorem oO {ex:Expr}{f:List Expr->Bool}{P:Expr->Prop}(k:∀ xs p,f xs=true->P (.List xs p)):qB ex f=true->P ex:=by
 cases ex<;>first |exact LG |exact k _ _
theorem fJ {ex:Expr}{f:Expr->Expr->Bool}{P:Expr->Prop}(k:∀ a i p,f a i=true->P (.Subscript a i p)):jt ex f=true->P ex:=by
 cases ex<;>first |exact LG |exact k _ _ _
theorem iX {ex:Expr}{f:Option Expr->Option Expr->Option Expr->Bool}{P:Expr->Prop}(k:∀ l u t p,f l u t=true->P (.Slice l u t p)):j2 ex f=true->P ex:=by
 cases ex<;>first |exact LG |exact k _ _ _ _
theorem mh {ex:Expr}{f:Expr->List Expr->List Keyword->Pos->Bool}{P:Expr->Prop}(k:∀ g as ks p,f g as ks p=true->P (.Call g as ks p)):nh ex f=true->P ex:=by
 cases ex<;>first |exact LG |exact k _ _ _ _
theorem bZ {ex:Expr}{f:Expr->List Expr->Pos->Bool}{P:Expr->Prop}(k:∀ g as p,f g as p=true->P (.Call g as [] p)):dw ex f=true->P ex:=
 mh λg as ks p=>kE (P:=λks=>P (.Call g as ks p)) (k g as p)
theorem dA {ex:Expr}{n:Str}{f:Expr->Pos->Bool}{P:Expr->Prop}(k:∀ o p,f o p=true->P (.Attribute o n p)):fi ex n f=true->P ex:=by
 cases ex<;>first |exact LG |exact yf (P:=λz=>P (.Attribute _ z _)) (k _ _)
theorem oQ {ex:Expr}{f:Expr->List Comprehension->Scope->Bool}{P:Expr->Prop}(k:∀ e gs sc p,f e gs sc=true->P (.ListComp e gs sc p)):qC ex f=true->P ex:=by
 cases ex<;>first |exact LG |exact k _ _ _ _
theorem gG {g:Comprehension}{f:Expr->Expr->List Expr->Bool}{P:Comprehension->Prop}(k:∀ t i cs,f t i cs=true->P ⟨t,i,cs,0⟩):rV g f=true->P g:=
 match g with
 |⟨t,i,cs,a⟩=>yf (P:=λa=>P ⟨t,i,cs,a⟩) (k t i cs)
theorem Br {ks:List Keyword}{n:Str}{f:Expr->Bool}{P:List Keyword->Prop}(k:∀ v p,f v=true->P [⟨some n,v,p⟩]):DK ks n f=true->P ks:=
 dz λkw=>match kw with
 |⟨a,v,p⟩=>yf (P:=λa=>P [⟨a,v,p⟩]) (k v p)
theorem vg {ex:Expr}{op:UnaryOp}{f:Expr->Bool}{P:Expr->Prop}(k:∀ x p,f x=true->P (.UnaryOp op x p)):Bp ex op f=true->P ex:=by
 cases ex<;>first |exact LG |exact yf (P:=λz=>P (.UnaryOp z _ _)) (k _ _)
theorem oR {ex:Expr}{op:BoolOp}{f:List Expr->Bool}{P:Expr->Prop}(k:∀ xs p,f xs=true->P (.BoolOp op xs p)):qD ex op f=true->P ex:=by
 cases ex<;>first |exact LG |exact yf (P:=λz=>P (.BoolOp z _ _)) (k _ _)
theorem dM {α:Type}{o:Option α}{b:Bool}{P:Option α->Prop}(k:b=true->P none):fI o b=true->P o:=λh=>bV h λe hb=>(isNone_iff_eq_none.mp e)▸k hb
theorem gf {α:Type}{o:Option α}{f:α->Bool}{P:Option α->Prop}(k:∀ x,f x=true->P (some x)):iW o f=true->P o:=by
 cases o with
 |none=>exact LG
 |some x=>exact k x
theorem vh {ex:Expr}{P:Expr->Prop}(k:∀ e gs sc p,P (.ListComp e gs sc p)):qE ex=true->P ex:=by
 cases ex<;>first |exact LG |exact λ_=>k _ _ _ _
theorem vj {ex:Expr}{P:Expr->Prop}(k:∀ g as ks p,P (.Call g as ks p)):ve ex=true->P ex:=by
 cases ex<;>first |exact LG |exact λ_=>k _ _ _ _
noncomputable def vk (sc:Scope)(n:Str):Bool:=sc.names.lookup n==some .local||sc.names.lookup n==some .cell
theorem d9 {sc:Scope}{n:Str}(h:vk sc n=true):sc.names.lookup n=some .local\/sc.names.lookup n=some .cell:=((Bool.or_eq_true _ _).mp h).imp dk dk
noncomputable def nj (sc:Scope):List Nat->List Expr->Bool
 |[],es=>es.isEmpty
 |x::xs,es=>eH es λe es=>eS e (nm x) (vk sc (nm x)&&nj sc xs es)
noncomputable def gT (sc:Scope)(tg:Tg)(ex:Expr):Bool:=match tg with
 |.nm x=>eS ex (nm x) (vk sc (nm x))
 |.tup xs=>oy ex λes=>nj sc xs es
noncomputable def yJ (sc scope:Scope)(cap:List Nat):Bool:=
 scope.kind==.function&&decide ((scope.names.map (·.1)).Nodup) &&
 scope.names.all (λy=>y.2 != .free||(sc.names.lookup y.1==some .cell||sc.names.lookup y.1==some .free)) &&
 cap.all (λx=>scope.names.lookup (nm x)==some .free)
mutual
noncomputable def aW (sc:Scope):E->Expr->Bool
 |.l x,ex=>eS ex (nm x) (x != 131)
 |.int i,ex=>yH ex (.int i) true
 |.str s,ex=>yH ex (.str ⟨s.toArray⟩) true
 |.bool b,ex=>yH ex (.bool b) true
 |.non,ex=>yH ex .none true
 |.b op a b,ex=>mf ex op λl r=>aW sc a l&&aW sc b r
 |.cmp op a b,ex=>ox ex op λl y=>behindInMarks op y==false&&(aW sc a l&&aW sc b y)
 |.ite c a b,ex=>Bo ex λt x y=>LA sc c t&&(aW sc a x&&aW sc b y)
 |.tup es,ex=>oy ex λxs=>decide (xs.length<=100)&&(xs.all aB&&eZ sc es xs)
 |.new _ l,ex=>nf ex&&Bs sc l ex
 |.sub a i,ex=>jt ex λl r=>ga r&&(aW sc a l&&aW sc i r)
 |.call k args,ex=>dw ex λf as _=>eS f (nm (z7 k)) (decide (k<23)&&(gl sc (nm (z7 k))&&(as.all aB&&eZ sc args as)))
 |.lcall _ _,_=>false
 |.meth k r args,ex=>dw ex λf as p=>fi f (nm (tq k)) λo ap=>decide (30<=k)&&(decide (k<37)&&(k != 35&&(eY o&&(ap.endLine==p.line&&(aW sc r o&&(as.all aB&&(decide (as.length<10)&&eZ sc args as)))))))
 |.conv r a b,ex=>nh ex λf as ks p=>fi f (nm 36) λo ap=>ng as λx=>DK ks (nm 110) λv=>yH v (.bool b) (eY o&&(ap.endLine==p.line&&(aW sc r o&&(aB x&&aW sc a x))))
 |.bi b args,ex=>dw ex λf as _=>eS f (nm (yF b)) (gl sc (nm (yF b))&&(as.all aB&&eZ sc args as))
 |.sm m r args,ex=>dw ex λf as p=>fi f (ky m) λo ap=>eY o&&(ap.endLine==p.line&&(aW sc r o&&(as.all aB&&(decide (as.length<2)&&eZ sc args as))))
 |.attr r a,ex=>fi ex (nm a) λo _=>decide (a<6)&&(eY o&&aW sc r o)
 |.cattr b,ex=>fi ex (nm (if b then 153 else 152)) λo _=>eS o (nm 17) (gl sc (nm 17))
 |.frz _,_=>false
 |.isTy a t neg,ex=>ox ex (iV neg) λl y=>dw l λf as _=>eS f (nm 184) (ng as λx=>eS y (nm (yG t)) (gl sc (nm 184)&&(gl sc (nm (yG t))&&(aB x&&aW sc a x))))
 |.isNon a neg,ex=>ox ex (iV neg) λl y=>yH y .none (aW sc a l)
 |.isTru a neg,ex=>ox ex (iV neg) λl y=>yH y (.bool true) (aW sc a l)
 |.rxg b,ex=>eS ex (nm (if b then 33 else 34)) (gl sc (nm (if b then 33 else 34)))
 |.dbg,ex=>eS ex (nm 131) true
 |.flag x,ex=>dw ex λf as p=>fi f (nm 43) λo ap=>eS o (nm 54) (Bn as λa1 a2=>eS a1 (nm x) (dw a2 λf2 Pq _=>eS f2 (nm 187) (ng Pq λa3=>eS a3 (nm x) (gl sc (nm 54)&&(ap.endLine==p.line&&(gl sc (nm 187)&&x != 131))))))
 |.dlim,ex=>eS ex (nm 52) (gl sc (nm 52))
noncomputable def Bs (sc:Scope):L->Expr->Bool
 |.list es,ex=>qB ex λxs=>decide (xs.length<=100)&&(xs.all aB&&eZ sc es xs)
 |.cat a b,ex=>mf ex .Add λl r=>aW sc a l&&aW sc b r
 |.rep a n,ex=>mf ex .Mult λl r=>qB l λxs=>ng xs λx=>aB x&&(aW sc a x&&aW sc n r)
 |.comp elt tg src ifs cap,ex=>qC ex λx gs scope=>ng gs λg=>rV g λt it cs=>yJ sc scope cap&&(fh it&&(gT scope tg t&&(aW sc src it&&(aW scope elt x&&vm scope ifs cs))))
 |.comp2 elt tg src LV Lr cap,ex=>qC ex λx gs scope=>Bn gs λg g2=>rV g λt it cs=>iw cs (rV g2 λt2 Lh Oa=>iw Oa (yJ sc scope cap&&(fh it&&(fh Lh&&(gT scope tg t &&
   (gT scope LV t2&&((dZ LV).all (λy=>!(dZ tg).contains y)&&(aW sc src it&&(aW scope Lr Lh&&aW scope elt x)))))))))
 |.rev a,ex=>jt ex λv sl=>j2 sl λl u t=>fI l (fI u (iW t λy=>Bp y .USub λz=>yH z (.int 1) (aW sc a v)))
 |.drop a i,ex=>jt ex λv sl=>j2 sl λl u t=>iW l λy=>fI u (fI t (aW sc a v&&aW sc i y))
 |.sorted a,ex=>dw ex λf as _=>eS f (nm 181) (ng as λx=>gl sc (nm 181)&&(aB x&&aW sc a x))
 |.split a sep,ex=>dw ex λf as p=>fi f (nm 159) λo ap=>ng as λx=>eY o&&(ap.endLine==p.line&&(aB x&&(aW sc a o&&aW sc sep x)))
noncomputable def LA (sc:Scope):C->Expr->Bool
 |.val e,ex=>(kD ex||!nf ex)&&aW sc e ex
 |.and a b,ex=>qD ex .And λxs=>Bn xs λx y=>LA sc a x&&LA sc b y
 |.or a b,ex=>qD ex .Or λxs=>Bn xs λx y=>LA sc a x&&LA sc b y
 |.not a,ex=>Bp ex .Not λx=>LA sc a x
noncomputable def eZ (sc:Scope):List E->List Expr->Bool
 |[],xs=>xs.isEmpty
 |e::es,xs=>eH xs λx xs=>aW sc e x&&eZ sc es xs
noncomputable def vm (sc:Scope):List C->List Expr->Bool
 |[],xs=>xs.isEmpty
 |e::es,xs=>eH xs λx xs=>LA sc e x&&vm sc es xs
end
theorem vn:nm 131=ofString "__debug__":=by decide +kernel
theorem z8:∀ i,(nm i==ofString "__classdict__")=false:=by
 intro i;by_cases h:i<201
 ·have:∀ i,i<201->(nm i==ofString "__classdict__")=false:=by decide +kernel
  exact this i h
 ·unfold nm;rw[if_neg h,beq_eq_false_iff_ne];intro z;have:=congrArg (λx=>x.cps.toList) z;simp only at this;rw[show(ofString "__classdict__").cps.toList=[95,95,99,108,97,115,115,100,105,99,116,95,95] by decide +kernel]at this;exact absurd (congrArg List.length this) (by simp)
theorem vq {i:Nat}(h:i≠131):(nm i==ofString "__debug__")=false:=by
 rw[beq_eq_false_iff_ne,← vn];exact λz=>h (nm_inj z)
structure Glob (Z:KX):Prop where
 refs:∀ k,∃ a,fv k=.ref a
 fn:∀ k,k<23->Z.mg (nm (z7 k))=some (fv k)
 keep:∀ k,k<37->keepIn Z.K (fv k)=true
 bi:∀ b,Z.mg (nm (yF b))=none/\Z.mb (nm (yF b))=some (Hn b)
 srt:Z.mg (nm 181)=none/\Z.mb (nm 181)=some (.builtin "sorted")
 typ:Z.mg (nm 184)=none/\Z.mb (nm 184)=some (.type "type")
 tys:∀ t,Z.mg (nm (yG t))=none/\Z.mb (nm (yG t))=some (.type (Hr t))
 rx:∀ b:Bool,Z.mg (nm (if b then 33 else 34))=some (.ref (if b then fp else ft))
 lim:∃ t,Z.mg (nm 52)=some (.int 4000 t)
 wsc:Z.mg (nm 17)=some (.ref jl)
 cls:∀ C,C=fm\/C=jl->plainGet Z.K C empty=true/\hasDictIn Z.K C=true/\∀ a,a<6->∃ attr,findIn Z.K (.ref C) (nm a)=some attr/\noGet Z.K attr=true
 met:∀ k,30<=k->k<37->findIn Z.K (.ref (if k=36 then jl else fm)) (nm (tq k))=some (some (fv k))/\isFn Z.K (fv k)=true
 sets:∀ C,C=fm\/C=jl->findIn Z.K (.ref C) "__setattr__"=some (some (.builtin "object.__setattr__"))/\plainOver Z.K C=true/\∀ a,a<6->takerIn Z.K C (nm a)=some none
 rev:Z.mg (nm 145)=none/\Z.mb (nm 145)=some (.type "reversed")
 noq:noSeq Z.K fm=true
 wst:∃ mc,readsIn Z.K jl mc=true/\∀ b:Bool,∃ t,findCls Z.K (.ref jl) mc (nm (if b then 153 else 152))=some (.val (.str ⟨[if b then 9 else 32].toArray⟩ t))
 flg:∃ (d:Addr) (o:Obj) (es:Array DictEntry) (ep:Nat),Z.mg (nm 54)=some (.ref d)/\(d==sysModules)=false/\Z.K.lookup d=some o/\o.ExactDict/\o.data=.dict es ep /\
  (∀ e∈es,∃ k,Value.isInt k e.key=true/\e.hash=hashInt k) /\
  ∀ k,(∃ p t,ey.find? (·.1==k)=some p/\findBy Value.isInt es k=some (.str ⟨p.2.toArray⟩ t))\/(ey.find? (·.1==k)=none/\findBy Value.isInt es k=none)
theorem gi {x:Nat}{v:AV}{Q:Value->Shared->Prop}(L:KH F φ σ sc env O s.heap)(e:af σ x=some v)(hx:x≠131)(hQ:∀ v',VR F φ v v'->Q v' s) :
  aA w A (eval (.Name (nm x) pos) env) Q aq s:=by
 refine ak (L.val x v e) λv' hv n=>?_;refine wpAny_Name ?_ (vq hx);rcases n with ⟨k,m,a,b⟩ |⟨k,c,a,b⟩
 ·exact wpAny_loadName_local L.kind k a b (hQ v' hv)
 ·rcases k with k |k
  ·exact wpAny_loadName_cell L.kind k a b (hQ v' hv)
  ·exact wpAny_loadName_free L.kind k a b (hQ v' hv) (z8 x)
theorem vt {x:Nat}{v:AV}(R:KD Z F φ st s.heap)(L:KH F φ σ sc env O s.heap)(e:af σ x=some v)(hx:x≠131):Good Z w A (eval (.Name (nm x) pos) env) F φ s v st:=
 Good.val R λQ h=>gi L e hx λv' hv=>h v' _ hv
theorem iz {x:Nat}{v:Value}{Q:Value->Shared->Prop}(R:KD Z F φ st s.heap)(L:KH F φ σ sc env O s.heap)(g:gl sc (nm x)=true)(hx:x≠131)(e:Z.mg (nm x)=some v)(hQ:Q v s) :
  aA w A (eval (.Name (nm x) pos) env) Q aq s:=
 Calls.Name_function_global L.kind (L.gl _ (eq_of_beq g)) (Calls.loadGlobal_global (by rw[L.glob];exact R.base.g.ns R.frz) e hQ) (vq hx)
theorem iB {x:Nat}{v:Value}{Q:Value->Shared->Prop}(R:KD Z F φ st s.heap)(L:KH F φ σ sc env O s.heap)(g:gl sc (nm x)=true)(hx:x≠131)(e:Z.mg (nm x)=none/\Z.mb (nm x)=some v)(hQ:Q v s) :
  aA w A (eval (.Name (nm x) pos) env) Q aq s:=
 Calls.Name_function_global L.kind (L.gl _ (eq_of_beq g)) (Calls.loadGlobal_builtin (by rw[L.glob];exact R.base.g.ns R.frz) e.1 (by rw[L.blt];exact R.base.b.ns R.frz) e.2 hQ) (vq hx)
theorem VR.handed {v:AV}{v':Value}(G:Glob Z)(x:VR F φ v v'):handedIn v'=true:=by
 cases x<;>rfl
theorem rW (c:Nat):ca c=fm\/ca c=jl:=by
 unfold ca;split
 ·exact .inl rfl
 ·exact .inr rfl
theorem tL {x v:AV}{a:Nat}{vx:Value}(G:Glob Z)(ha:a<6)(e:jn st x a=some v)(R:KD Z F φ st s.heap)(hx:VR F φ x vx) :
  Good Z w A (getAttr vx (nm a) true) F φ s v st:=by
 refine jm (P:=λvx=>Good Z w A (getAttr vx (nm a) true) F φ s v st) hx e λi b e hi=>qr e λc d fs q q2 e=>?_;refine dh (R.obj _ _ _ hi q) λdx sl e1 e2=>?_;refine yn (R.obj _ _ _ e2 q2) λes n e3 _ e4 _=>?_;refine ak (e4 _ _ e) λv' e5 hv=>?_;refine mR (G.cls _ (rW c)) λg1 g2 g3=>?_;refine ak (g3 a ha) λattr g4 g5=>?_;exact Good.val R λQ h=>get_value (R.base.inK R.frz) (od:=some (dictOf es n)) ⟨e1,rfl,rfl,e3⟩ (plainGet_of g1).1 (findObj_own g2 g4 g5 e5) (VR.handed G hv) (h _ _ hv)
theorem oS {k:Nat}{x:AV}{vx:Value}{P:Value->Prop}(e:dt st k x=true)(hx:VR F φ x vx)(f:∀ (i:Nat) (a:Addr) (c d:Nat) (fs:Loc),φ[i]?=some a->st[i]?=some (.inst c d)->st[d]?=some (.dict fs)->c=(if k=36 then 1 else 0)->af fs (tq k)=none->P (.ref a)):P vx:=
 (isSome_iff_exists.mp e).elim λ_ e=>jm hx e λi b e hi=>qr e λc d fs q q2 e=>oI e λh _=>f i b c d fs hi q q2 h.1 h.2
theorem oU {x:AV}{k:Nat}{vx:Value}{Q:Value×List Value->Shared->Prop}{pl:Sem Bool}(G:Glob Z)(h1:30<=k)(h2:k<37)(e:dt st k x=true)(R:KD Z F φ st s.heap)(hx:VR F φ x vx)
  (hQ:Q (fv k,[vx]) s):aA w A (getMethod vx (nm (tq k)) pl) Q aq s:=by
 revert hQ;refine oS (P:=λvx=>Q (fv k,[vx]) s->aA w A (getMethod vx (nm (tq k)) pl) Q aq s) e hx λi b c d fs hi q q2 hc hn hQ=>?_;refine aw (G.refs k) λf hf=>?_;refine av (G.met k h1 h2) λg1 g2=>?_;refine dh (R.obj _ _ _ hi q) λdx sl e1 e2=>?_;refine yo (R.obj _ _ _ e2 q2) λes n e3 _ _ e4 _=>?_
 have hca:ca c=if k=36 then jl else fm:=by
  rw[hc];by_cases hk:k=36
  ·rw[if_pos hk,if_pos hk];rfl
  ·rw[if_neg hk,if_neg hk];rfl
 rw[hf]at g1 g2 hQ;rw[← hca]at g1;have g4:=plainGet_of (G.cls _ (rW c)).1;refine PySem.W.method_fn (R.base.inK R.frz) (od:=some (dictOf es n)) ⟨e1,rfl,rfl,e3⟩ g4.1 g4.2 g1 (beq_iff_eq.mp g2) ?_ hQ;show(lookIn _ (dictOf es n)).map _=_;rw[lookIn_dict,e4 _ hn];rfl
noncomputable def kH (s:List Nat):String:=if (⟨s.toArray⟩:Str).cps.all (·<128) then "str_ascii_iterator" else "str_iterator"
noncomputable def MF (F:bf)(φ:List Addr)(h:Heap)(I:Addr)(i:Nat):AV->Prop
 |.lst xs=>∃ a arr,Ly F a arr/\KI F φ xs arr.toList/\h.IsListIter I a i
 |.tup xs=>∃ a arr n,F a=some { cls:=.type "tuple",data:=.seq arr n }/\KI F φ xs arr.toList/\h.IsTupleIter I a i
 |.rng lo hi=>IsRangeIter h I (lo+i) (((hi-lo).toNat:Int)-i) 1
 |.str s=>∃ t,h.IsStrIter I (kH s) ⟨s.toArray⟩ t i
 |.obj k=>∃ a,φ[k]?=some a/\h.IsListIter I a i
 |_=>False
section
variable {i:Nat}{v:AV}
theorem MF.mono (x:MF F φ h I i v)(hF:Lp F F')(hp:φ <+: KJ)(k:∀ o,h.get? I=some o->h'.get? I=some o):MF F' KJ h' I i v:=by
 cases v<;>try exact x.elim
 ·refine dh x ?_;clear x;intro t o e2 r;exact⟨t,o,k _ e2,r⟩
 ·obtain⟨a,arr,n,e1,d,o,e2,r⟩:=x;exact⟨a,arr,n,hF _ _ e1,d.mono hF hp,o,k _ e2,r⟩
 ·obtain⟨a,arr,e1,d,o,e2,r⟩:=x;exact⟨a,arr,e1.mono hF,d.mono hF hp,o,k _ e2,r⟩
 ·exact k _ x
 ·obtain⟨a,e1,o,e2,r⟩:=x;exact⟨a,eU hp e1,o,k _ e2,r⟩
theorem MF.at_ (x:MF F φ h I i v):∃ o T,h.get? I=some o/\o.cls=.type T/\["enumerate","zip","dict_itemiterator","dict_reverseitemiterator","odict_iterator","itertools.zip_longest","itertools.pairwise"].contains T=false:=by
 cases v<;>try exact x.elim
 ·refine cP x ?_;clear x;intro t o e2 r _;refine⟨o,_,e2,r,?_⟩;unfold kH;split<;>decide +kernel
 ·obtain⟨a,arr,n,e1,d,o,e2,r,_⟩:=x;exact⟨o,_,e2,r,by decide +kernel⟩
 ·obtain⟨a,arr,e1,d,o,e2,r,_⟩:=x;exact⟨o,_,e2,r,by decide +kernel⟩
 ·exact⟨_,"range_iterator",x,rfl,by decide +kernel⟩
 ·obtain⟨a,e1,o,e2,r,_⟩:=x;exact⟨o,_,e2,r,by decide +kernel⟩
theorem gW {target:Expr}{v:Value}{Q:Unit->Shared->Prop}{o:Obj}{T:String}(e:s.heap.get? I=some o)(c:o.cls=.type T)
  (n:["enumerate","zip","dict_itemiterator","dict_reverseitemiterator","odict_iterator","itertools.zip_longest","itertools.pairwise"].contains T=false) (hQ:Q () s) :
  aA w A (letOwnedTupleGo target (.ref I) v) Q aq s:=by
 have main:aA w A (do
   let (.ref r,.ref a):=((Value.ref I,v):Value×Value) |return
   let o ← load r
   match o.cls,o.data with
   |.type n,.fields vs=>
    if ["enumerate","zip","dict_itemiterator","dict_reverseitemiterator","odict_iterator","itertools.zip_longest","itertools.pairwise"].contains n&&vs[0]?==some (rawInt a) then
     rule "for.unpacks-the-owned-tuple"
     updateField r 0 .none
   |_,_=>Pure.pure ()) Q aq s:=by
  cases v with
  |ref b=>
   refine wpAny_bind (wpAny_load e ?_);rw[c];generalize o.data=dd
   cases dd with
   |fields vs=>
    show wpAny _ _ (if (List.contains _ T&&_)=true then _ else _) Q aq s;rw[n];exact wpAny_pure hQ
   |_=>exact wpAny_pure hQ
  |_=>exact wpAny_pure hQ
 cases target<;>first |exact main |exact wpAny_pure hQ
theorem mi:∀ (n:Nat) (lo:Int) (i:Nat),i<n->(lX lo n)[i]?=some (.int (lo+i))
 |n+1,lo,0,_=>congrArg (λi=>some (AV.int i)) (add_zero lo).symm
 |n+1,lo,i+1,h=>(mi n (lo+1) i (by exact Dz)).trans (congrArg (λi=>some (AV.int i)) ((Int.add_assoc ..).trans (congrArg (lo+·) (Int.add_comm ..))))
theorem iC:∀ (n:Nat) (lo:Int),(lX lo n).length=n:=by
 intro n
 induction n with
 |zero=>
  intro _;exact rfl
 |succ n ih=>
  intro lo;exact congrArg Nat.succ (ih (lo+1))
theorem DL (lo hi:Int):Builtin.Range.rangeSize lo hi 1=((hi-lo).toNat:Int)-((0:Nat):Int):=(rangeSize_one ..).trans (by split<;>first |exact((Int.sub_zero _).trans (zR (Int.sub_nonneg_of_le (Int.le_of_lt (by assumption))))).symm |exact JR (by assumption))
theorem ib {xs:List AV}{v':Value}{Q:Value->Shared->Prop}(e:aF st v=some xs)(R:KD Z F φ st s.heap)(hv:VR F φ v v')
  (hQ:∀ h1 I tk,(∀ b o,s.heap.get? b=some o->h1.get? b=some o)->s.heap.get? I=none->MF F φ h1 I 0 v->Q (.ref I) ⟨h1,s.gens,s.drawn,tk,s.os⟩) :
  aA w A (pyIter v') Q aq s:=by
 have pu:∀ o tk,MF F φ (s.heap.push o) s.heap.objs.size 0 v->Q (.ref s.heap.objs.size) ⟨s.heap.push o,s.gens,s.drawn,tk,s.os⟩:=λo tk=>hQ _ _ _ aC (cD _);clear hQ;generalize hP:(λv'=>aA w A (pyIter v') Q aq s)=P;rw[show aA w A (pyIter v') Q aq s=P v' by rw[← hP]];cases v<;>try exact absurd e bg
 ·exact VR.strR (λt=>hP▸wpAny_pyIter_strU (pu _ _ ⟨t,_,get?_push_size _ rfl,rfl,rfl⟩)) hv
 ·exact VR.tupR (λa arr n e1 d=>hP▸wpAny_pyIter_tuple ⟨_,R.frz _ _ e1,rfl,n,rfl⟩ (pu _ _ ⟨a,arr,n,e1,d,_,get?_push_size _ rfl,rfl,rfl⟩)) hv
 ·exact VR.lstR (λa arr e1 d=>hP▸wpAny_pyIter_list (e1.isList R.frz) (pu _ _ ⟨a,arr,e1,d,_,get?_push_size _ rfl,rfl,rfl⟩)) hv
 ·refine oI e λhb _=>VR.rngR (λa t u v e1=>hP▸wpAny_pyIter_range (R.frz _ _ e1) (small_one (by first |exact tj hb.1 |exact tm hb.1) (by first |exact tj hb.1 |exact tm hb.1 |exact tj hb.2 |exact tm hb.2) (by first |exact tj hb.1 |exact tm hb.1 |exact tj hb.2 |exact tm hb.2) (by first |exact tj hb.2 |exact tm hb.2)) (pu _ _ ?_)) hv;show IsRangeIter _ _ (_+((0:Nat):Int)) _ _;rw[← DL,show ∀ x:Int,x+((0:Nat):Int)=x from add_zero];exact get?_push_size _ rfl
 ·exact VR.objR (λa hi=>hP▸let ⟨arr,hl,d⟩:=R.list e hi;wpAny_pyIter_list (aP hl) (pu _ _ ⟨a,hi,_,get?_push_size _ rfl,rfl,rfl⟩)) hv
set_option tactic.hygienic true in
theorem mj {Q:Value->Shared->Prop}(x:MF F φ s.heap I i v)(hQ:Q (.ref I) s):aA w A (pyIter (.ref I)) Q aq s:=by
 cases v<;>try exact x.elim
 ·rename_i l;refine aw x ?_;clear x;intro t x;unfold kH at x;split at x
  ·exact wpAny_pyIter_striter_ascii x hQ
  ·exact wpAny_pyIter_striter_wide x hQ
 ·refine kg x ?_;clear x;intro a arr n e1 d x;exact wpAny_pyIter_tupleiter x hQ
 ·refine cP x ?_;clear x;intro a arr e1 d x;exact wpAny_pyIter_listiter x hQ
 ·exact wpAny_pyIter_rangeiter x hQ
 ·refine ak x ?_;clear x;intro a e1 x;exact wpAny_pyIter_listiter x hQ
theorem stands_obj {k:Nat}{xs:List AV}(h:an st (.obj k) xs=true):listAt st k=some xs:=@of_decide_eq_true _ (_) h
set_option tactic.hygienic true in
theorem ml {xs:List AV}{x:AV}{Q:Option Value->Shared->Prop}(e:aF Kx v=some xs)(hs:an st v xs=true)(hx:xs[i]?=some x)(R:KD Z F φ st s.heap)(t:MF F φ s.heap I i v)
  (hQ:∀ v' h1 tk,Heap.SameBut I s.heap h1->VR F φ x v'->MF F φ h1 I (i+1) v->Q (some v') ⟨h1,s.gens,s.drawn,tk,s.os⟩) :
  aA w A (pyNext (.ref I)) Q aq s:=by
 have hi:=(List.getElem?_eq_some_iff.mp hx).1;cases v<;>try exact t.elim
 ·rename_i l;refine aw t ?_;clear t;intro t y
  replace e:=K7 e
  subst e;rw[length_map]at hi;rw[getElem?_map,getElem?_eq_getElem hi,map_some,Option.some.injEq]at hx;subst hx;unfold kH at y;split at y
  ·rename_i ha;refine wpAny_pyNext_ascii_item y (c:=l[i]) (by simp[hi]) λh' y' k=>hQ _ _ _ k (.str [_] _) ⟨t,?_⟩;unfold kH;rw[if_pos ha];exact y'
  ·rename_i ha;refine wpAny_pyNext_wide_item y (c:=l[i]) (by simp[hi]) λh' y' k=>hQ _ _ _ k (.str [_] _) ⟨t,?_⟩;unfold kH;rw[if_neg ha];exact y'
 ·refine kg t ?_;clear t;intro a arr n e1 d y
  replace e:=K7 e
  subst e;refine ak (d.get hx) λv' e2 hv=>?_;exact wpAny_pyNext_tuple_item y ⟨_,R.frz _ _ e1,rfl,n,rfl⟩ (by simpa using e2) λh' y' k=>hQ _ _ _ k hv ⟨a,arr,n,e1,d,y'⟩
 ·refine cP t ?_;clear t;intro a arr e1 d y
  replace e:=K7 e
  subst e;refine ak (d.get hx) λv' e2 hv=>?_;exact wpAny_pyNext_list_item y (e1.isList R.frz) (by simpa using e2) λh' y' k=>hQ _ _ _ k hv ⟨a,arr,e1,d,y'⟩
 ·rename_i lo M0;refine oI e λq e=>?_;cases e;rw[iC]at hi;rw[mi _ _ _ hi]at hx;cases hx;refine wpAny_pyNext_range_item t (by lia) λh' y' k=>hQ _ _ _ k (.int _ _) ?_;show IsRangeIter _ _ _ _ _;have e1:lo+((i+1:Nat):Int)=lo+i+1:=by push_cast;lia
  have e2:((M0-lo).toNat:Int)-((i+1:Nat):Int)=((M0-lo).toNat:Int)-i-1:=by push_cast;lia
  rw[e1,e2];exact y'
 ·rename_i k;refine ak t ?_;clear t;intro a e1 y;refine ak (R.list (stands_obj hs) e1) λarr hl d=>?_;refine ak (d.get hx) λv' e2 hv=>?_;exact wpAny_pyNext_list_item y (aP hl) (by simpa using e2) λh' y' k=>hQ _ _ _ k hv ⟨a,e1,y'⟩
set_option tactic.hygienic true in
theorem mn {xs:List AV}{Q:Option Value->Shared->Prop}(hh:A.handled=none)(e:aF Kx v=some xs)(hs:an st v xs=true)(hi:i=xs.length)(R:KD Z F φ st s.heap)(t:MF F φ s.heap I i v)
  (hQ:∀ h1 tk,(∀ b o,b≠I->s.heap.get? b=some o->h1.get? b=some o)->Q none ⟨h1,s.gens,s.drawn,tk,s.os⟩) :
  aA w A (pyNext (.ref I)) Q aq s:=by
 cases v<;>try exact t.elim
 ·rename_i l;refine aw t ?_;clear t;intro t y
  replace e:=K7 e
  subst e;rw[length_map]at hi;subst hi;unfold kH at y;split at y
  ·exact wpAny_pyNext_ascii_end hh y (by simp) λh' k=>hQ _ _ k
  ·exact wpAny_pyNext_wide_end hh y (by simp) λh' k=>hQ _ _ k
 ·refine kg t ?_;clear t;intro a arr n e1 d y
  replace e:=K7 e
  subst e;have:=d.size;exact wpAny_pyNext_tuple_end hh y ⟨_,R.frz _ _ e1,rfl,n,rfl⟩ (by simp;exact Q2 0x4611265112541103 [_,_,_] hi this rfl) λh' k=>hQ _ _ k
 ·refine cP t ?_;clear t;intro a arr e1 d y
  replace e:=K7 e
  subst e;have:=d.size;exact wpAny_pyNext_list_end hh y (e1.isList R.frz) (by simp;exact Q2 0x4611265112541103 [_,_,_] hi this rfl) λh' k=>hQ _ _ k
 ·rename_i lo M0;refine oI e λq e=>?_;cases e;rw[iC]at hi;exact wpAny_pyNext_range_end hh t (by lia) λh' k=>hQ _ _ k
 ·rename_i k;refine ak t ?_;clear t;intro a e1 y;refine ak (R.list (stands_obj hs) e1) λarr hl d=>?_;have:=d.size;exact wpAny_pyNext_list_end hh y (aP hl) (by simp;exact Q2 0x4611265112541103 [_,_,_] hi this rfl) λh' k=>hQ _ _ k
end
theorem Hs {x y:Nat}(h:x≠y):Nat.beq x y=false:=by
 cases e:Nat.beq x y
 ·rfl
 ·exact absurd (Nat.eq_of_beq_eq_true e) h
theorem mo (z x:Nat)(v w:AV)(r:Loc):ai ((z,v)::r) x w=if Nat.beq z x=true then (z,w)::r else (z,v)::ai r x w:=rfl
theorem gH (z x:Nat)(v:AV)(r:Loc):af ((z,v)::r) x=if Nat.beq z x=true then some v else af r x:=rfl
theorem ez:∀ (σ:Loc) (x:Nat) (w:AV) (y:Nat),af (ai σ x w) y=if y=x then some w else af σ y:=by
 intro σ
 induction σ with
 |nil=>
  intro x w y;by_cases h:y=x
  ·exact(if_pos (beq_eq.mpr h.symm)).trans (if_pos h).symm
  ·exact(if_neg λz=>h (beq_eq.mp z).symm).trans (if_neg h).symm
 |cons LK r ih=>
  obtain⟨z,v⟩:=LK;intro x w y;by_cases hz:z=x
  ·rw[mo,if_pos (beq_eq.mpr hz),gH,gH];by_cases h:y=x
   ·rw[if_pos h];exact if_pos (beq_eq.mpr (hz.trans h.symm))
   ·have q:¬ Nat.beq z y=true:=λe=>h ((beq_eq.mp e).symm.trans hz);rw[if_neg h,if_neg q,if_neg q]
  ·rw[mo,if_neg λz=>hz (beq_eq.mp z),gH,gH,ih x w y];by_cases h:z=y
   ·rw[if_pos (beq_eq.mpr h),if_pos (beq_eq.mpr h)];exact(if_neg λq=>hz (h.trans q)).symm
   ·rw[if_neg λq=>h (beq_eq.mp q),if_neg λq=>h (beq_eq.mp q)]
theorem Step.own1 {a:Addr}{own:List Addr}(ha:a∈own)(hs:Heap.SameBut a h h')(e:∃ o,h'.get? a=some o):Step F φ own h F φ h':=
 ⟨Lp.refl F,λ_ _ q=>.inl q,prefix_refl φ,λ_ m=>.inl m,λb o q=>by
  by_cases z:b=a
  ·subst z;exact e
  ·exact⟨o,(hs.2 b z).trans q⟩,λb o q _ _ _ n4=>(hs.2 b λz=>n4 (z▸ha)).trans q⟩
theorem KD.own1 {a:Addr}(R:KD Z F φ st h)(n1:F a=none)(n2:a∉φ)(n3:a≠cQ)(n4:a≠dr)(hs:Heap.SameBut a h h'):KD Z F φ st h':=
 R.heap λb o e m=>by
  have:b≠a:=by
   rintro rfl;rcases m with m |⟨o',m⟩ |m |m
   ·exact n2 m
   ·rw[n1]at m;cases m
   ·exact n3 m
   ·exact n4 m
  exact(hs.2 b this).trans e
theorem iY {x:Str}{c:Addr}(e:env.cells.lookup x=some c):c∈env.locals::env.cells.map (·.2):=
 .tail _ (mem_map.mpr ⟨(x,c),KS.kept.lookup_mem e,rfl⟩)
theorem bQ {x:Nat}{v:AV}{v':Value}{Q:Unit->Shared->Prop}(L:KH F φ σ sc env O s.heap)(R:KD Z F φ st s.heap)
  (hx:sc.names.lookup (nm x)=some .local\/sc.names.lookup (nm x)=some .cell) (hv:VR F φ v v')
  (hQ:∀ h1 tk,Step F φ O s.heap F φ h1->KD Z F φ st h1->KH F φ (ai σ x v) sc env O h1->Q () ⟨h1,s.gens,s.drawn,tk,s.os⟩) :
  aA w A (storeName env (nm x) v') Q aq s:=by
 have kf:(env.scope.kind==.class||(env.scope.kind==.module&&env.locals != env.globals))=false:=by rw[L.kind];rfl
 rcases hx with hx |hx
 ·have hk:=L.lc _ hx;refine aw L.ns λm hn=>?_;refine gS (L.own env.locals (.head _)) λp1 p2 p3 p4=>?_;refine wpAny_storeName_local hk hn (λh1 MU hs=>hQ h1 _ (Step.own1 L.loO hs (let ⟨o,_,_,e,_⟩:=MU;⟨o,e⟩)) (R.own1 p1 p2 p3 p4 hs) ?_) kf;have ne:∀ c∈env.cells.map (·.2),c≠env.locals:=λc m z=>L.off (z▸m);refine⟨L.kind,L.glob,L.blt,L.gl,L.lc,L.cl,L.fr,⟨_,MU⟩,λy u e=>?_,L.apart,L.off,L.own,λc m=>?_,L.loO,L.subO⟩
  ·rw[ez]at e;by_cases z:y=x
   ·subst z;rw[if_pos rfl]at e;cases e;exact⟨v',hv,.inl ⟨hk,_,MU,by simp⟩⟩
   ·rw[if_neg z]at e;refine ak (L.val y u e) λu' hu n=>?_;refine⟨u',hu,?_⟩;rcases n with ⟨k,m',a,b⟩ |⟨k,c,a,b⟩
    ·refine .inl ⟨k,_,MU,?_⟩
     have:m'=m:=by
      refine mS a ?_;clear a;intro o1 es1 ep1 q1 q2 q3 q4;refine mS hn ?_;clear hn;intro o2 PX ep2 r1 r2 r3 r4;rw[q1]at r1;cases r1;rw[q2]at r2;cases r2;funext n;rw[← q4,← r4]
     subst this;have nz:nm y≠nm x:=λz'=>z (nm_inj z');simp only[if_neg nz];exact b
    ·exact .inr ⟨k,c,a,b.sameBut hs (ne _ (mem_map.mpr ⟨(_,_),KS.kept.lookup_mem a,rfl⟩))⟩
  ·refine aw (L.cel c m) λu hu=>?_;exact⟨u,hu.sameBut hs (ne c m)⟩
 ·obtain⟨hk,c,hc,hO⟩:=L.cl _ hx;refine aw (L.cel c (mem_map.mpr ⟨(_,c),KS.kept.lookup_mem hc,rfl⟩)) λu hu=>?_;refine gS (L.own c (iY hc)) λp1 p2 p3 p4=>?_;refine wpAny_storeName_cell L.kind hk hc hu λh1 OJ hs=>hQ h1 _ (Step.own1 hO hs (let ⟨o,e,_⟩:=OJ;⟨o,e⟩)) (R.own1 p1 p2 p3 p4 hs) ?_;have nl:env.locals≠c:=λz=>L.off (z▸mem_map.mpr ⟨(_,_),KS.kept.lookup_mem hc,rfl⟩);refine⟨L.kind,L.glob,L.blt,L.gl,L.lc,L.cl,L.fr,?_,λy t e=>?_,L.apart,L.off,L.own,λd m=>?_,L.loO,L.subO⟩
  ·refine aw L.ns λm hn=>?_;exact⟨m,hn.sameBut hs nl⟩
  ·rw[ez]at e;by_cases z:y=x
   ·subst z;rw[if_pos rfl]at e;cases e;exact⟨v',hv,.inr ⟨.inl hk,c,hc,OJ⟩⟩
   ·rw[if_neg z]at e;refine ak (L.val y t e) λt' ht n=>?_;refine⟨t',ht,?_⟩;rcases n with ⟨k,m',a,b⟩ |⟨k,d,a,b⟩
    ·exact .inl ⟨k,m',a.sameBut hs nl,b⟩
    ·refine .inr ⟨k,d,a,b.sameBut hs λq=>z ?_⟩;subst q;exact nm_inj (L.apart _ _ _ a hc)
  ·by_cases q:d=c
   ·subst q;exact⟨_,OJ⟩
   ·refine aw (L.cel d m) λt ht=>?_;exact⟨t,ht.sameBut hs q⟩
theorem Step.any {own:List Addr}(S:Step F φ [] h F' KJ h'):Step F φ own h F' KJ h':=S.own λ_ m=>by cases m
theorem qG:∀ (xs:List Nat) (es:List Expr),nj sc xs es=true->(assignEach es env).length=xs.length/\(assignEach es env).findIdx? (·.1)=none:=by
 intro xs
 induction xs with
 |nil=>
  intro es c;exact isEmpty_iff.mp c▸⟨rfl,rfl⟩
 |cons x xs ih=>
  intro es c
  exact bD (P:=λes=>(assignEach es env).length=xs.length+1/\(assignEach es env).findIdx? (·.1)=none) (λe es c=>bn (P:=λe=>(assignEach (e::es) env).length=xs.length+1/\(assignEach (e::es) env).findIdx? (·.1)=none)
   (λp c=>bV c λ_ c=>⟨congrArg (·+1) (ih es c).1,by
    show List.findIdx? (·.1) ((false,assign _ env)::assignEach es env)=none
    rw[findIdx?_cons,(ih es c).2];rfl⟩) c) c
theorem qH (xs:List Nat)(vs:List AV)(KO:List Value)(σ KA:Loc)(e:bA σ xs vs=some KA)(V:KI F φ vs KO):KO.length=xs.length:=V.length.symm.trans (cJ e)
theorem qI (xs:List Nat)(es:List Expr)(vs:List AV)(KO:List Value){σ KA:Loc}{s:Shared}{Q:Unit->Shared->Prop}(c:nj sc xs es=true)(e:bA σ xs vs=some KA):KI F φ vs KO ->
  KH F φ σ sc env O s.heap->KD Z F φ st s.heap ->
  (∀ h1 tk,Step F φ O s.heap F φ h1->KD Z F φ st h1->KH F φ KA sc env O h1->Q () ⟨h1,s.gens,s.drawn,tk,s.os⟩) ->
  aA w A (assignInOrder ((assignEach es env).map (·.2)) KO) Q aq s:=by
 refine eF (P:=λσ xs vs=>∀ es KO s,nj sc xs es=true->KI F φ vs KO->KH F φ σ sc env O s.heap->KD Z F φ st s.heap ->
  (∀ h1 tk,Step F φ O s.heap F φ h1->KD Z F φ st h1->KH F φ KA sc env O h1->Q () ⟨h1,s.gens,s.drawn,tk,s.os⟩) ->
  aA w A (assignInOrder ((assignEach es env).map (·.2)) KO) Q aq s) ?_ ?_ xs vs σ e es KO s c
 ·intro es ws s c hv L R hQ;refine KI.nilR (Q:=λws=>aA w A (assignInOrder ((assignEach es env).map (·.2)) ws) Q aq s) ?_ hv;exact isEmpty_iff.mp c▸wpAny_pure (hQ s.heap s.toks (Step.refl ..) R L)
 ·intro σ x xs v vs ih es ws s c hv L R hQ;refine KI.consR (Q:=λws=>aA w A (assignInOrder ((assignEach es env).map (·.2)) ws) Q aq s) (λv' KO hv OK=>?_) hv;refine bD (P:=λes=>aA w A (assignInOrder ((assignEach es env).map (·.2)) (v'::KO)) Q aq s) (λe0 es c=>?_) c;refine bn (P:=λe0=>aA w A (assignInOrder ((assignEach (e0::es) env).map (·.2)) (v'::KO)) Q aq s) (λp c=>?_) c;refine bV c λc1 c2=>?_;refine wpAny_bind (wpAny_holding (wpAny_assign_Name (bQ L R (d9 c1) hv λh1 tk S1 R1 L1=>?_)));exact ih es KO ⟨h1,s.gens,s.drawn,tk,s.os⟩ c2 OK L1 R1 λh2 KR S2 R2 L2=>hQ h2 KR (S1.trans S2) R2 L2
theorem nk {E:Value->Shared->Prop}{it t:Addr}{items:Array Value}(LO:t≠it):∀ (n i:Nat) (s:Shared) (Q:List Value->Shared->Prop),s.heap.IsListIter it t i->s.heap.IsList t items->i+n<=items.size ->
  (∀ h',h'.IsListIter it t (i+n)->Heap.SameBut it s.heap h'->Q ((items.toList.drop i).take n) { s with heap:=h' })->aA w A (draw (.ref it) n) Q E s:=by
 intro n
 induction n with
 |zero=>
  intro i s Q gZ _ _ hQ;show wpAny _ _ (pure []) Q E s;exact wpAny_pure (by simpa using hQ s.heap gZ (Heap.SameBut.refl ..))
 |succ n ih=>
  intro i s Q gZ ht hle hQ;have LC:i<items.size:=by exact J7
  show wpAny _ _ (pyNext (.ref it)>>=_) Q E s;refine wpAny_bind (wpAny_pyNext_list_item gZ ht (x:=items[i]) (by simp[LC]) λLj MJ Mw=>?_)
  have ht1:Lj.IsList t items:=by
   refine ak ht ?_;clear ht;intro o ho r;exact⟨o,(Mw.2 t LO).trans ho,r⟩
  refine wpAny_bind (wpAny_holding (ih (i+1) _ _ MJ ht1 (by exact Q1 0x61115040110651114001102 [_,_,_] hle rfl) λLq hit₂ hs₂=>wpAny_pure ?_));have hd:items.toList.drop i=items[i]::items.toList.drop (i+1):=by simp[List.drop_eq_getElem_cons,LC]
  have:=hQ Lq (by rw[show i+(n+1)=i+1+n by exact le_antisymm (Q0 0x511140011150401101 [_,_] rfl) (Q0 0x111504051114001101 [_,_] rfl)];exact hit₂) (Mw.trans hs₂);rw[hd,List.take_succ_cons]at this;exact this
theorem kI {E:Value->Shared->Prop}{t:Addr}{items:Array Value}{targets:List (Bool×(Value->Sem Unit))}{Q:Unit->Shared->Prop}(hh:A.handled=none)(ht:s.heap.IsList t items)
  (hn:targets.length=items.size) (Mx:targets.findIdx? (·.1)=none)
  (h:∀ h',Heap.ExtBut s.heap.objs.size s.heap h'->aA w A (assignInOrder (targets.map (·.2)) items.toList) Q E { s with heap:=h' }) :
  aA w A (unpack (.ref t) targets) Q E s:=by
 unfold unpack;rw[hn,Mx];refine wpAny_bind (wpAny_holding ?_);have LC:t≠s.heap.objs.size:=by refine ak ht ?_;clear ht;intro o ho _;exact ne_of_lt (lt_size ho)
 unfold unpackItems;refine wpAny_bind ?_
 ·unfold notIterableAtAll;refine wpAny_bind (wpAny_specialOf ht.typeIs PySem.F.slot_list_iter.lookup ?_);refine wpAny_pure ?_;simp only[false_eq_true,if_false];refine wpAny_bind (wpAny_holding (wpAny_pyIter_list ht ?_))
  have ht0:∀ o',(s.heap.push o').IsList t items:=λo'=>by
   refine ak ht ?_;clear ht;intro o ho r;exact⟨o,aC _ _ ho,r⟩
  refine wpAny_bind (wpAny_holding (nk LC items.size 0 _ _ ⟨_,get?_push_size _ rfl,rfl,rfl⟩ (ht0 _) (by exact Q0 0x440101101 [_] rfl) λLj MJ Mw=>?_))
  have hall:List.take items.size (List.drop 0 items.toList)=items.toList:=by
   rw[List.drop_zero];exact List.take_of_length_le (by simp)
  rw[hall];rw[if_neg (by simp)]
  have ht₁:Lj.IsList t items:=by
   refine ak ht ?_;clear ht;intro o ho r;exact⟨o,(Mw.2 t LC).trans (aC _ _ ho),r⟩
  refine wpAny_bind (wpAny_holding (wpAny_pyNext_list_end hh MJ ht₁ (by simp) λLq he₂=>?_));simp only[Option.isSome_none,false_eq_true,if_false];exact wpAny_pure (h Lq λb o hb e=>he₂ b o hb (Mw.extBut b o hb (Heap.get?_push_of_some _ e)))
theorem fb {tg:Tg}{t:Expr}{v:AV}{v':Value}{KA:Loc}{Q:Unit->Shared->Prop}(hh:A.handled=none)(c:gT sc tg t=true)(e:aQ σ tg v=some KA)(L:KH F φ σ sc env O s.heap)(R:KD Z F φ st s.heap)
  (hv:VR F φ v v')
  (hQ:∀ h1 tk,Step F φ O s.heap F φ h1->KD Z F φ st h1->KH F φ KA sc env O h1->Q () ⟨h1,s.gens,s.drawn,tk,s.os⟩) :
  aA w A (assign t env v') Q aq s:=by
 cases tg with
 |nm x=>exact bn (P:=λt=>aA w A (assign t env v') Q aq s) (λp c=>wpAny_assign_Name (bQ L R (d9 c) hv (K7 e▸hQ))) c
 |tup xs=>
  refine gF (P:=λt=>aA w A (assign t env v') Q aq s) (λes k p c=>?_) c;refine av (qG (env:=env) xs es c) λf1 f2=>?_
  have main:∀ {vs:List AV} {ws:List Value} {h1:Heap},(∀ b o,s.heap.get? b=some o->h1.get? b=some o)->bA σ xs vs=some KA->KI F φ vs ws->aA w A (assignInOrder ((assignEach es env).map (·.2)) ws) Q aq ⟨h1,s.gens,s.drawn,s.toks,s.os⟩:=
   λkk e d=>qI xs es _ _ (s:=⟨_,s.gens,s.drawn,s.toks,s.os⟩) c e d (L.step (Step.ext kk)) (R.ext kk) λh2 KR S2 R2 L2=>hQ h2 KR ((Step.ext kk).any.trans S2) R2 L2
  have kk:∀ {h1:Heap},Heap.ExtBut s.heap.objs.size s.heap h1->∀ b o,s.heap.get? b=some o->h1.get? b=some o:=λk1 b o q=>k1 b o (ne_of_lt (lt_size q)) q;have len:∀ {vs:List AV} {arr:Array Value},bA σ xs vs=some KA->KI F φ vs arr.toList->(assignEach es env).length=arr.size:=λe d=>f1.trans (qH xs _ _ _ _ e d).symm;cases v<;>try exact absurd e bg
  ·exact VR.tupR (P:=λv'=>aA w A (assign (.Tuple es k p) env v') Q aq s) (λa arr n e1 d=>wpAny_assign_Tuple hh ⟨_,R.frz _ _ e1,rfl,n,rfl⟩ (len e d) f2 λh1 k1=>main (kk k1) e d) hv
  ·exact VR.lstR (P:=λv'=>aA w A (assign (.Tuple es k p) env v') Q aq s) (λa arr e1 d=>by
    rw[arm_assign_Tuple]
    exact wpAny_bind (wpAny_standAt (kI hh (e1.isList R.frz) (len e d) f2 λh1 k1=>main (kk k1) e d))) hv
noncomputable def cF (cells:List (Str×Addr)):List (Str×NameKind)->List (Str×Addr)->List (Str×Addr)
 |[],acc=>acc
 |(n,k)::r,acc=>if k==.free then cF cells r ((n,(cells.lookup n).getD 0)::acc) else cF cells r acc
theorem iD (cells:List (Str×Addr))(n:Str)(k:NameKind)(r:List (Str×NameKind))(acc:List (Str×Addr)):cF cells ((n,k)::r) acc=if k==.free then cF cells r ((n,(cells.lookup n).getD 0)::acc) else cF cells r acc:=rfl
theorem kJ {env:Env}(f:Str×NameKind->List (Str×Addr)->Sem (ForInStep (List (Str×Addr))))
  (hf:∀ name kind cells,f (name,kind) cells=if kind==.free then (do let a ← cellOf env name;Pure.pure (.yield ((name,a)::cells))) else Pure.pure (.yield cells)) :
  ∀ (names:List (Str×NameKind)) (acc:List (Str×Addr)),(∀ n,(n,NameKind.free)∈names->∃ c,env.cells.lookup n=some c)->forIn names acc f=Pure.pure (cF env.cells names acc)
 |[],acc,_=>by rw[List.forIn_nil];rfl
 |(n,k)::r,acc,h=>by
  rw[forIn_cons,hf];rw[iD];by_cases q:(k==NameKind.free)=true
  ·rw[if_pos q,if_pos q];have hk:k=.free:=eq_of_beq q;subst hk;refine aw (h n (.head _)) λc e=>?_;have:cellOf env n=Pure.pure c:=by unfold cellOf;rw[e]
   rw[this,e];simp only[pure_bind,getD_some];exact kJ f hf r _ λn m=>h n (.tail _ m)
  ·rw[if_neg q,if_neg q];simp only[pure_bind];exact kJ f hf r _ λn m=>h n (.tail _ m)
theorem gj {env:Env}{scope:Scope}(h:∀ n,(n,NameKind.free)∈scope.names->∃ c,env.cells.lookup n=some c):closureFor scope env=Pure.pure (cF env.cells scope.names []):=by
 have:=kJ (env:=env) (λx __s=>match x with
   |(name,kind)=>if (kind==NameKind.free)=true then (do let a ← cellOf env name;Pure.pure (ForInStep.yield ((name,a)::__s))) else Pure.pure (ForInStep.yield __s)) (λname kind cells=>rfl) scope.names [] h
 show(forIn scope.names [] _>>=λx=>Pure.pure x)=_;refine(congrArg (·>>=λx=>Pure.pure x) this).trans ?_;rfl
theorem rX {cells:List (Str×Addr)}:∀ (names:List (Str×NameKind)) (acc:List (Str×Addr)),(∀ n,(n,NameKind.free)∈names->∃ c,cells.lookup n=some c)->∀ x c,(x,c)∈cF cells names acc->(x,c)∈acc\/(cells.lookup x=some c):=by
 intro names
 induction names with
 |nil=>
  intro acc _ x c m;exact .inl m
 |cons LK r ih=>
  obtain⟨n,k⟩:=LK;intro acc h x c m;rw[iD]at m;split at m
  ·rename_i q;have hk:k=.free:=eq_of_beq q;subst hk;refine aw (h n (.head _)) λc' e=>?_;rcases ih _ (λn m=>h n (.tail _ m)) x c m with m |m
   ·cases m with
    |head=>right;rw[e];rfl
    |tail _ m=>exact .inl m
   ·exact .inr m
  ·exact ih acc (λn m=>h n (.tail _ m)) x c m
theorem oX {cells:List (Str×Addr)}:∀ (names:List (Str×NameKind)) (acc:List (Str×Addr)) x c,(x,c)∈cF cells names acc->(x,c)∈acc\/(x,NameKind.free)∈names:=by
 intro names
 induction names with
 |nil=>
  intro acc x c m;exact .inl m
 |cons LK r ih=>
  obtain⟨n,k⟩:=LK;intro acc x c m;rw[iD]at m;split at m
  ·rename_i q;have hk:k=.free:=eq_of_beq q;subst hk;rcases ih _ x c m with m |m
   ·cases m with
    |head=>exact .inr (.head _)
    |tail _ m=>exact .inl m
   ·exact .inr (.tail _ m)
  ·rcases ih acc x c m with m |m
   ·exact .inl m
   ·exact .inr (.tail _ m)
theorem kK {cells:List (Str×Addr)}:∀ (names:List (Str×NameKind)) (acc:List (Str×Addr)) (x:Str) (c:Addr),cells.lookup x=some c->(acc.lookup x=some c\/(acc.lookup x=none/\(x,NameKind.free)∈names))->(cF cells names acc).lookup x=some c:=by
 intro names
 induction names with
 |nil=>
  intro acc x c _ h;rcases h with h |⟨_,m⟩
  ·exact h
  ·cases m
 |cons LK r ih=>
  obtain⟨n,k⟩:=LK;intro acc x c e h;rw[iD];split
  ·rename_i q;refine ih _ x c e ?_;rw[lookup_cons];by_cases z:x=n
   ·subst z;simp[e]
   ·have:(x==n)=false:=by simpa using z
    rw[this];rcases h with h |⟨h,m⟩
    ·exact .inl h
    ·refine .inr ⟨h,?_⟩
     cases m with
     |head=>exact absurd rfl z
     |tail _ m=>exact m
  ·rename_i q;refine ih acc x c e ?_;rcases h with h |⟨h,m⟩
   ·exact .inl h
   ·refine .inr ⟨h,?_⟩
    cases m with
    |head=>exact absurd rfl q
    |tail _ m=>exact m
theorem rY:∀ (names:List (Str×NameKind)) (n:Nat) (acc:List (Str×Addr)) (x:Str),(x,NameKind.cell)∉names->(cellsFrom n names acc).lookup x=acc.lookup x:=by
 intro names
 induction names with
 |nil=>
  intro n acc x _;exact rfl
 |cons LK r ih=>
  obtain⟨y,k⟩:=LK;intro n acc x h;unfold cellsFrom;split
  ·rename_i q;have hk:k=.cell:=eq_of_beq q;subst hk;rw[ih _ _ x λm=>h (.tail _ m),lookup_cons]
   have:(x==y)=false:=by
    rw[beq_eq_false_iff_ne];rintro rfl;exact h (.head _)
   rw[this]
  ·exact ih _ _ x λm=>h (.tail _ m)
theorem rZ:∀ (names:List (Str×NameKind)) (n:Nat) (acc:List (Str×Addr)) (x:Str),((x,NameKind.cell)∈names\/∃ c,acc.lookup x=some c)->∃ c,(cellsFrom n names acc).lookup x=some c:=by
 intro names
 induction names with
 |nil=>
  intro n acc x h;rcases h with h |h
  ·cases h
  ·exact h
 |cons LK r ih=>
  obtain⟨y,k⟩:=LK;intro n acc x h;unfold cellsFrom;split
  ·rename_i q;refine ih _ _ x ?_;by_cases z:x=y
   ·subst z;exact .inr ⟨n,by simp⟩
   ·rcases h with h |⟨c,h⟩
    ·cases h with
     |head=>exact absurd rfl z
     |tail _ m=>exact .inl m
    ·refine .inr ⟨c,?_⟩;rw[lookup_cons];have:(x==y)=false:=by simpa using z
     rw[this];exact h
  ·rename_i q;refine ih _ _ x ?_;rcases h with h |h
   ·cases h with
    |head=>exact absurd rfl q
    |tail _ m=>exact .inl m
   ·exact .inr h
theorem vw:∀ (names:List (Str×NameKind)) (h:Heap) (acc:List (Str×Addr)),(∀ x c,(x,c)∈acc->c<h.objs.size)->(∀ x y c,(x,c)∈acc->(y,c)∈acc->x=y) ->
  (∀ x c,(x,c)∈cellsFrom h.objs.size names acc->(x,c)∈acc\/(h.objs.size<=c/\(x,NameKind.cell)∈names/\(pushCells h names).IsCell c none)) /\
  (∀ x y c,(x,c)∈cellsFrom h.objs.size names acc->(y,c)∈cellsFrom h.objs.size names acc->x=y):=by
 intro names
 induction names with
 |nil=>
  intro h acc _ i;exact⟨λx c m=>.inl m,i⟩
 |cons LK r ih=>
  obtain⟨y,k⟩:=LK;intro h acc l i;unfold cellsFrom pushCells;split
  ·rename_i q;have hk:k=.cell:=eq_of_beq q;subst hk
   have:=ih (h.push { cls:=.type "cell",data:=.cell none }) ((y,h.objs.size)::acc) (λx c m=>by
     rw[size_push]
     cases m with
     |head=>exact lt_succ_self _
     |tail _ m=>exact lt_succ_of_lt (l x c m)) (λx z c m1 m2=>by
     cases m1 with
     |head=>
      cases m2 with
      |head=>rfl
      |tail _ m2=>exact absurd (l _ _ m2) (lt_irrefl _)
     |tail _ m1=>
      cases m2 with
      |head=>exact absurd (l _ _ m1) (lt_irrefl _)
      |tail _ m2=>exact i x z c m1 m2)
   rw[size_push]at this;refine⟨λx c m=>?_,this.2⟩;rcases this.1 x c m with m |⟨h1,h2,h3⟩
   ·cases m with
    |head=>exact .inr ⟨le_refl _,.head _,⟨_,pushCells_keeps _ _ _ _ (get?_push_size _ rfl),rfl⟩⟩
    |tail _ m=>exact .inl m
   ·exact .inr ⟨le_of_succ_le h1,.tail _ h2,h3⟩
  ·refine av (ih h acc l i) λh1 h2=>?_;refine⟨λx c m=>?_,h2⟩;rcases h1 x c m with m |⟨a,b,c⟩
   ·exact .inl m
   ·exact .inr ⟨a,.tail _ b,c⟩
theorem kL {scope:Scope}{env:Env}(x:Str):(relabel scope env).names.lookup x=(scope.names.lookup x).map λk=>if (k==.free&&env.scope.kind==.function&&env.kindOf x==some .cell)=true then .cell else k:=by
 unfold relabel;show List.lookup x (List.map _ scope.names)=_
 induction scope.names with
 |nil=>rfl
 |cons p r ih=>
  obtain⟨n,k⟩:=p;show List.lookup x ((if (k==NameKind.free&&env.scope.kind==.function&&env.kindOf n==some .cell)=true then (n,NameKind.cell) else (n,k))::List.map _ r)=_;by_cases hb:(k==NameKind.free&&env.scope.kind==.function&&env.kindOf n==some .cell)=true
  ·rw[if_pos hb,lookup_cons,lookup_cons];by_cases z:x=n
   ·subst z;simp only[beq_self_eq_true,map_some];rw[if_pos hb]
   ·have:(x==n)=false:=by simpa using z
    simp only[this];exact ih
  ·rw[if_neg hb,lookup_cons,lookup_cons];by_cases z:x=n
   ·subst z;simp only[beq_self_eq_true,map_some];rw[if_neg hb]
   ·have:(x==n)=false:=by simpa using z
    simp only[this];exact ih
theorem dN {names:List (Str×NameKind)}(nd:(names.map (·.1)).Nodup){x:Str}{k:NameKind}(m:(x,k)∈names):names.lookup x=some k:=by
 induction names with
 |nil=>cases m
 |cons p r ih=>
  obtain⟨n,j⟩:=p;rw[map_cons,nodup_cons]at nd;rw[lookup_cons]
  cases m with
  |head=>simp
  |tail _ m=>
   have:(x==n)=false:=by
    rw[beq_eq_false_iff_ne];rintro rfl;exact nd.1 (mem_map.mpr ⟨(_,_),m,rfl⟩)
   rw[this];exact ih nd.2 m
theorem ic {σ:Loc}{cap:List Nat}{x:Nat}{v:AV}(e:af (aX σ cap) x=some v):af σ x=some v/\x∈cap:=by
 unfold aX at e
 induction σ with
 |nil=>simp[af]at e
 |cons p r ih=>
  obtain⟨y,u⟩:=p;rw[filter_cons]at e;by_cases z:y=x
  ·subst z;have hb:Nat.beq y y=true:=by simp
   split at e
   ·rename_i m;simp only[af,hb,if_true]at e ⊢;exact⟨e,by simpa using m⟩
   ·rename_i m;have:=ih e;exact absurd (by simpa using this.2) m
  ·have hb:Nat.beq y x=false:=Hs z;split at e
   ·simp only[af,hb,false_eq_true,if_false]at e ⊢;exact ih e
   ·simp only[af,hb,false_eq_true,if_false];exact ih e
structure Mo (sc scope:Scope)(cap:List Nat):Prop where
 kind:scope.kind=.function
 nd:(scope.names.map (·.1)).Nodup
 free:∀ n,(n,NameKind.free)∈scope.names->sc.names.lookup n=some .cell\/sc.names.lookup n=some .free
 cap:∀ x∈cap,scope.names.lookup (nm x)=some .free
theorem iE {sc scope:Scope}{cap:List Nat}(h:yJ sc scope cap=true):Mo sc scope cap:=by
 unfold yJ at h;simp only[and_eq_true]at h;refine av h ?_;clear h;rintro⟨⟨h1,h2⟩,h3⟩ h4;refine⟨eq_of_beq h1,of_decide_eq_true h2,λn m=>?_,λx m=>?_⟩
 ·have:=all_eq_true.mp h3 _ m;simpa using this
 ·have:=all_eq_true.mp h4 x m;exact eq_of_beq this
theorem cR {names:List (Str×NameKind)}{x:Str}{k:NameKind}(h:names.lookup x=some k):(x,k)∈names:=KS.kept.lookup_mem h
theorem KH.free_cell (L:KH F φ σ sc env O h)(ok:Mo sc scope cap){n:Str}(m:(n,NameKind.free)∈scope.names):(env.kindOf n=some .cell\/env.kindOf n=some .free)/\∃ c,env.cells.lookup n=some c:=by
 rcases ok.free n m with e |e
 ·obtain⟨a,c,b,_⟩:=L.cl _ e;exact⟨.inl a,c,b⟩
 ·exact L.fr _ e
theorem oY {Q:Env->Shared->Prop}{E:Value->Shared->Prop}{M:Model}(ok:Mo sc scope cap)(L:KH F φ σ sc env O s.heap)(R:KD Z F φ st s.heap)
  (hQ:∀ h1 KG O',(∀ b o,s.heap.get? b=some o->h1.get? b=some o)->(∀ a∈O',s.heap.get? a=none)->(∀ a∈KG.locals::KG.cells.map (·.2),a∈O'\/a∈env.cells.map (·.2))->KH F φ (aX σ cap) scope { KG with scope:=relabel scope env } O' h1 ->
   Q KG ⟨h1,s.gens,s.drawn,s.toks,s.os⟩) :
  wpAny M A (newFunctionEnv scope env.globals (cF env.cells scope.names []) [] env.qual none .none (some env)) Q E s:=by
 have Nk:∀ n,(n,NameKind.free)∈scope.names->∃ c,env.cells.lookup n=some c:=λn m=>(L.free_cell ok m).2;unfold newFunctionEnv;refine wpAny_bind (wpAny_alloc ?_);refine wpAny_bind (wpAny_layCells _ (λname kind cells=>by cases PY:kind==NameKind.cell<;>simp[PY]) _ _ _ _ ?_);refine wpAny_bind ?_;rw[List.forIn_nil];refine wpAny_pure (wpAny_pure ?_);generalize hB:s.heap.push { cls:=Value.type (if (some env).isSome=true then "dict" else "frame"),data:=Data.dict #[] }=B;have sB:B.objs.size=s.heap.objs.size+1:=by rw[← hB,size_push]
 have kB:∀ b o,s.heap.get? b=some o->B.get? b=some o:=λb o e=>hB▸aC b o e;have kC:∀ b o,B.get? b=some o->(pushCells B scope.names).get? b=some o:=pushCells_keeps _ _
 have lt:∀ x c,(x,c)∈cF env.cells scope.names []->env.cells.lookup x=some c:=λx c m=>by
  rcases rX scope.names [] Nk x c m with m |m
  ·cases m
  ·exact m
 have ex:∀ {x:Str} {c:Addr},env.cells.lookup x=some c->∃ o,s.heap.get? c=some o:=λe=>L.ex _ (iY e)
 refine av (vw scope.names B (cF env.cells scope.names []) (λx c m=>by
  refine aw (ex (lt x c m)) λo e=>?_
  rw[sB];exact lt_succ_of_lt (lt_size e)) (λx y c m1 m2=>L.apart x y c (lt x c m1) (lt y c m2))) λa1 a2=>?_
 have PZ:B.Ns s.heap.objs.size (λ_=>none):=by
  rw[← hB];exact Heap.Ns.new s.heap _
 have absent:∀ c,s.heap.objs.size<=c->s.heap.get? c=none:=λc hc=>by
  cases q:s.heap.get? c with
  |none=>rfl
  |some o=>exact absurd (lt_size q) (not_lt.mpr hc)
 refine hQ (pushCells B scope.names) _ (s.heap.objs.size::((cellsFrom B.objs.size scope.names (cF env.cells scope.names [])).map (·.2)).filter λc=>decide (s.heap.objs.size<=c)) (λb o e=>kC b o (kB b o e)) (λa m=>?_) (λa m=>?_) ?_
 ·cases m with
  |head=>exact absent _ (le_refl _)
  |tail _ m=>
   refine av (mem_filter.mp m) λ_ m2=>?_;exact absent a (of_decide_eq_true m2)
 ·cases m with
  |head=>exact .inl (.head _)
  |tail _ m=>
   refine ak (mem_map.mp m) ?_;rintro⟨x,c⟩ m1 m2;simp only at m2;subst m2;rcases a1 x c m1 with q |⟨q,_⟩
   ·exact .inr (mem_map.mpr ⟨(x,c),KS.kept.lookup_mem (lt x c q),rfl⟩)
   ·refine .inl (.tail _ (mem_filter.mpr ⟨mem_map.mpr ⟨(x,c),m1,rfl⟩,?_⟩));rw[sB]at q;exact decide_eq_true (le_of_succ_le q)
 ·have kd:∀ x,Env.kindOf { scope:=relabel scope env,locals:=s.heap.objs.size,globals:=env.globals,cells:=cellsFrom B.objs.size scope.names (cF env.cells scope.names []),qual:=env.qual,func:=none,code:=env.code,frame:=env.frame,builtins:=env.builtins } x
    = (scope.names.lookup x).map λk=>if (k==.free&&env.scope.kind==.function&&env.kindOf x==some .cell)=true then .cell else k:=λx=>kL x
  have Mp:∀ x,scope.names.lookup x=some .free->(x,NameKind.cell)∉scope.names:=λx e m=>by
   rw[dN ok.nd m]at e;cases e
  have M3:∀ x c,scope.names.lookup x=some .free->env.cells.lookup x=some c->(cellsFrom B.objs.size scope.names (cF env.cells scope.names [])).lookup x=some c:=λx c e e2=>by
   rw[rY _ _ _ _ (Mp x e)];exact kK _ _ _ _ e2 (.inr ⟨rfl,cR e⟩)
  have split:∀ x c,(x,c)∈cellsFrom B.objs.size scope.names (cF env.cells scope.names [])->(env.cells.lookup x=some c)\/(s.heap.objs.size<c/\(pushCells B scope.names).IsCell c none):=λx c m=>by
   rcases a1 x c m with m |⟨m1,_,m3⟩
   ·exact .inl (lt x c m)
   ·exact .inr ⟨by rw[sB]at m1;exact m1,m3⟩
  refine⟨ok.kind,L.glob,L.blt,λx e=>?_,λx e=>?_,λx e=>?_,λx e=>?_,⟨_,PZ.keeps kC⟩,λx v e=>?_,λx y c e1 e2=>?_,λm=>?_,λa m=>?_,λc m=>?_,.head _,λa m=>?_⟩
  ·rw[kd,e];rfl
  ·rw[kd,e];rfl
  ·refine⟨by rw[kd,e];rfl,?_⟩;refine aw (rZ scope.names B.objs.size (cF env.cells scope.names []) x (.inl (cR e))) λc hc=>?_;refine⟨c,hc,.tail _ (mem_filter.mpr ⟨mem_map.mpr ⟨(x,c),KS.kept.lookup_mem hc,rfl⟩,?_⟩)⟩;rcases a1 x c (KS.kept.lookup_mem hc) with m |⟨m,_⟩
   ·exfalso;rcases oX _ _ _ _ m with m |m
    ·cases m
    ·have:=dN ok.nd m;rw[e]at this;cases this
   ·rw[sB]at m;exact decide_eq_true (le_of_succ_le m)
  ·obtain⟨h1,c,h2⟩:=L.free_cell ok (cR e);refine⟨?_,c,M3 x c e h2⟩;rw[kd,e,map_some];split
   ·exact .inl rfl
   ·exact .inr rfl
  ·refine av (ic e) λe1 e2=>?_;have ef:=ok.cap x e2;refine ak (L.val x v e1) λv' hv n=>?_;obtain⟨h1,c,h2⟩:=L.free_cell ok (cR ef);refine⟨v',hv,.inr ⟨?_,c,M3 _ c ef h2,?_⟩⟩
   ·rw[kd,ef,map_some];split
    ·exact .inl rfl
    ·exact .inr rfl
   ·rcases n with ⟨k,_⟩ |⟨k,d,n1,n2⟩
    ·rcases h1 with h1 |h1<;>rw[h1]at k<;>cases k
    ·rw[h2]at n1;cases n1;exact n2.keeps λb o e=>kC b o (kB b o e)
  ·exact a2 x y c (KS.kept.lookup_mem e1) (KS.kept.lookup_mem e2)
  ·refine ak (mem_map.mp m) ?_;rintro⟨x,c⟩ m1 m2;simp only at m2;subst m2;rcases split x _ m1 with q |⟨q,_⟩
   ·refine aw (ex q) λo e=>?_;exact absurd (lt_size e) (lt_irrefl _)
   ·exact absurd q (lt_irrefl _)
  ·cases m with
   |head=>exact R.absent (absent _ (le_refl _))
   |tail _ m=>
    refine ak (mem_map.mp m) ?_;rintro⟨x,c⟩ m1 m2;simp only at m2;subst m2;rcases split x _ m1 with q |⟨q,_⟩
    ·exact L.own _ (iY q)
    ·exact R.absent (absent _ (le_of_lt q))
  ·refine ak (mem_map.mp m) ?_;rintro⟨x,c'⟩ m1 m2;simp only at m2;subst m2;rcases split x _ m1 with q |⟨_,q⟩
   ·refine aw (L.cel _ (mem_map.mpr ⟨(x,c'),KS.kept.lookup_mem q,rfl⟩)) λv hv=>?_;exact⟨v,hv.keeps λb o e=>kC b o (kB b o e)⟩
   ·exact⟨_,q⟩
  ·cases m with
   |head=>exact .head _
   |tail _ m=>exact .tail _ (mem_filter.mp m).1
section
variable {R:Result->Shared->Prop}{α:Type}
theorem o0 {M:Model}{t:Sem α}{Q:α->Shared->Prop}{E:Value->Shared->Prop}(h:wpAny M A t Q aq s):wpAny M A t Q E s:=wpAny_mono h (λ_ _ q=>q) λ_ _ f=>f.elim
noncomputable def fK (ifs:List Expr)(env:Env):Sem Bool:=forIn ifs true λc r=>if r=true then do let ok ← isTrue c env (eval c env);Pure.pure (ForInStep.yield ok) else Pure.pure (ForInStep.yield r)
theorem o3 {elt target iter:Expr}{ifs:List Expr}{scope:Scope}{pos:Pos}{it acc:Value}{env:Env}(I:Nat->Shared->Prop)
  (bW:∀ n s,I n s->aA w A (pyNext it) (λr KQ=>match r with
   |none=>R (.ok .next) KQ
   |some v=>aA w A (letOwnedTupleGo target it v) (λ_ LD=>aA w A (assign target env v) (λ_ KV=>
     aA w A (fK ifs env) (λok Lg=>
      if ok=true then aA w A (eval elt env) (λx Mf=>
       aA w A (call (.builtin "list.append") [acc,x]) (λ_ LL=>∃ m,m<n/\I m LL) aq Mf) aq Lg
      else ∃ m,m<n/\I m Lg) aq KV) aq LD) aq KQ) aq s)
  (n:Nat) (h:I n s) :
  codeAny (model aM w) A (.compLoop (.ListComp elt [⟨target,iter,ifs,0⟩] scope pos) 0 it acc env) R s:=by
 refine codeAny_loop rfl I (λn s hI=>?_) n h;show wpAny _ A ((compTurn (.ListComp elt [⟨target,iter,ifs,0⟩] scope pos) 0 it acc env).onRaise (λx=>do noteFrame x env;theTreesLotGoes x)) _ _ s;refine wpAny_noted ?_;rw[compTurn_list];refine wpAny_bind (wpAny_standAt (wpAny_bind (wpAny_mono (bW n s hI) (λr KQ Lj=>?_) λ_ _ f=>f.elim)))
 cases r with
 |none=>exact wpAny_pure Lj
 |some v=>
  refine wpAny_bind (wpAny_mono Lj (λ_ LD LZ=>?_) λ_ _ f=>f.elim);refine wpAny_bind (wpAny_mono LZ (λ_ KV Lq=>wpAny_bind (wpAny_mono Lq (λok Lg LJ=>?_) λ_ _ f=>f.elim)) λ_ _ f=>f.elim)
  cases ok with
  |false=>exact wpAny_pure ⟨rfl,LJ⟩
  |true=>
   exact wpAny_bind (wpAny_bind (wpAny_mono LJ (λx Mf Nl=>wpAny_bind (wpAny_mono Nl (λ_ LL M4=>wpAny_pure (wpAny_pure ⟨rfl,M4⟩)) λ_ _ f=>f.elim)) λ_ _ f=>f.elim))
end
theorem qJ {xs:List Nat}{vs:List AV}{σ KA:Loc}(h:bA σ xs vs=some KA):∀ y,y∉xs->af KA y=af σ y:=
 eF (P:=λσ xs vs=>∀ y,y∉xs->af KA y=af σ y) (λy h=>rfl) (λσ x xs v vs ih y h=>(ih y λm=>h (.tail _ m)).trans ((ez ..).trans (if_neg (by rintro rfl;exact h (.head _))))) _ _ _ h
theorem iZ {tg:Tg}{v:AV}{σ KA:Loc}(e:aQ σ tg v=some KA)(y:Nat)(h:y∉dZ tg):af KA y=af σ y:=by
 cases tg with
 |nm x=>
  exact K7 e▸(ez ..).trans (if_neg (by rintro rfl;exact h (.head _)))
 |tup xs=>
  cases v<;>first |exact absurd e bg |exact qJ e y h
theorem qK {sc:Scope}:∀ (xs:List Nat) (es:List Expr),nj sc xs es=true->∀ y∈xs,sc.names.lookup (nm y)=some .local\/sc.names.lookup (nm y)=some .cell:=by
 intro xs
 induction xs with
 |nil=>
  intro _ _ _ m;exact nomatch m
 |cons x xs ih=>
  intro es c y m
  exact bD (P:=λ_=>sc.names.lookup (nm y)=some .local\/sc.names.lookup (nm y)=some .cell) (λe es c=>bn (P:=λ_=>sc.names.lookup (nm y)=some .local\/sc.names.lookup (nm y)=some .cell)
   (λ_ c=>bV c λc1 c2=>(mem_cons.mp m).elim (λq=>q▸d9 c1) (ih es c2 y)) c) c
theorem kM {sc:Scope}{tg:Tg}{t:Expr}(c:gT sc tg t=true):∀ y∈dZ tg,sc.names.lookup (nm y)=some .local\/sc.names.lookup (nm y)=some .cell:=by
 cases tg with
 |nm x=>exact λy m=>bn (P:=λ_=>sc.names.lookup (nm y)=some .local\/sc.names.lookup (nm y)=some .cell) (λ_ c=>mem_singleton.mp m▸d9 c) c
 |tup xs=>exact λy m=>gF (P:=λ_=>sc.names.lookup (nm y)=some .local\/sc.names.lookup (nm y)=some .cell) (λes _ _ c=>qK xs es c y m) c
theorem KH.weaken (L:KH F φ KA sc env O h)(k:∀ y v,af σ y=some v->af KA y=some v):KH F φ σ sc env O h:=
 ⟨L.kind,L.glob,L.blt,L.gl,L.lc,L.cl,L.fr,L.ns,λx v e=>L.val x v (k x v e),L.apart,L.off,L.own,L.cel,L.loO,L.subO⟩
theorem keep_bind {tg:Tg}{t:Expr}{v:AV}(ok:Mo sc scope cap)(c:gT scope tg t=true)(e:aQ (aX σ cap) tg v=some KA):∀ y u,af (aX σ cap) y=some u->af KA y=some u:=by
 intro y u e1;refine av (ic e1) λ_ m=>?_;refine Eq.trans (iZ e y λm'=>?_) ?_;rotate_left
 ·exact e1
 ·have:=ok.cap y m;rcases kM c y m' with z |z<;>rw[z]at this<;>cases this
structure K0 (F:bf)(φ:List Addr)(h:Heap)(a:Addr):Prop where
 ex:∃ o,h.get? a=some o
 f:F a=none
 p:a∉φ
 t1:a≠cQ
 t2:a≠dr
section
variable {a:Addr}
theorem K0.step (P:K0 F φ h a)(S:Step F φ own h F' KJ h'):K0 F' KJ h' a:=by
 refine aw P.ex λo e=>?_;refine⟨S.dom a o e,?_,λm=>?_,P.t1,P.t2⟩
 ·cases q:F' a with
  |none=>rfl
  |some o'=>
   rcases S.fnew a o' q with z |z |z
   ·rw[P.f]at z;cases z
   ·rw[e]at z;cases z
   ·exact(P.p z).elim
 ·rcases S.pnew a m with z |z
  ·exact P.p z
  ·rw[e]at z;cases z
theorem K0.kept (P:K0 F φ h a)(S:Step F φ own h F' KJ h')(n:a∉own){o:Obj}(e:h.get? a=some o):h'.get? a=some o:=S.kept a o e P.p P.t1 P.t2 n
theorem K0.new (R:KD Z F φ st h)(e:h.get? a=none)(k:∀ b o,h.get? b=some o->h'.get? b=some o)(x:∃ o,h'.get? a=some o):K0 F φ h' a:=
 let ⟨n1,n2,n3,n4⟩:=R.absent e;⟨x,n1,n2,n3,n4⟩
theorem KH.keep (L:KH F φ σ sc env O h)(k:∀ b∈env.locals::env.cells.map (·.2),∀ o,h.get? b=some o->h'.get? b=some o):KH F φ σ sc env O h':=by
 refine⟨L.kind,L.glob,L.blt,L.gl,L.lc,L.cl,L.fr,?_,λx v e=>?_,L.apart,L.off,L.own,λc m=>?_,L.loO,L.subO⟩
 ·refine aw L.ns λm n=>?_;exact⟨m,Heap.Ns.at' n λo e=>k _ (.head _) o e⟩
 ·refine ak (L.val x v e) λv' a b=>?_;exact⟨v',a,b.kept k⟩
 ·refine dh (L.cel c m) λv o e d=>?_;exact⟨v,o,k c (.tail _ m) o e,d⟩
theorem KH.privA (L:KH F φ σ sc env O h){b:Addr}(m:b∈env.locals::env.cells.map (·.2)):K0 F φ h b:=
 let ⟨n1,n2,n3,n4⟩:=L.own b m;⟨L.ex b m,n1,n2,n3,n4⟩
theorem jv {ok:St->Bool}{f:AV->St->Option (List AV×St)}{v:AV}{r:List AV}{out:List AV}(e:aU ok f (v::r) st=some (out,Kw)) :
  ok st=true/\∃ ys zs Kx,f v st=some (ys,Kx)/\aU ok f r Kx=some (zs,Kw)/\out=ys++zs:=
 oI e λh e=>oL e λys Kx q e=>oL e λzs Ky q2 e=>oP (P:=λout Kw=>ok st=true/\∃ ys zs Kx,f v st=some (ys,Kx)/\aU ok f r Kx=some (zs,Kw)/\out=ys++zs) e ⟨h,ys,zs,Kx,q,q2,rfl⟩
theorem kN {ok:St->Bool}{f:AV->St->Option (List AV×St)}{out:List AV}(e:aU ok f [] st=some (out,Kw)):ok st=true/\out=[]/\st=Kw:=
 oI e λh e=>oP (P:=λout Kw=>ok st=true/\out=[]/\st=Kw) e ⟨h,rfl,rfl⟩
theorem Step.hide {NL:List Addr}{OH:bf}{Ni:List Addr}{Ny:Heap}(S:Step F φ own h F' KJ h')(S2:Step F' KJ NL h' OH Ni Ny)(n:∀ b∈NL,h.get? b=none):Step F φ own h OH Ni Ny:=by
 have T:=(S.own (own':=own++NL) λx m=>List.mem_append_left _ m).trans (S2.own (own':=own++NL) λx m=>mem_append_right _ m);refine⟨T.le,T.fnew,T.pre,T.pnew,T.dom,λb o e n1 n2 n3 n4=>T.kept b o e n1 n2 n3 λm=>?_⟩;rcases mem_append.mp m with m |m
 ·exact n4 m
 ·rw[n b m]at e;cases e
theorem Step.hide' {I:Addr}{Ny:Heap}(S:Step F φ own h F' KJ h')(k:∀ b o,b≠I->h'.get? b=some o->Ny.get? b=some o)(n:h.get? I=none):Step F φ own h F' KJ Ny:=by
 have ne:∀ b o,h.get? b=some o->b≠I:=λb o e z=>by rw[z,n]at e;cases e
 exact⟨S.le,S.fnew,S.pre,S.pnew,λb o e=>let ⟨o',e'⟩:=S.dom b o e;⟨o',k b o' (ne b o e) e'⟩,λb o e n1 n2 n3 n4=>k b o (ne b o e) (S.kept b o e n1 n2 n3 n4)⟩
theorem KD.but {I:Addr}(R:KD Z F φ st h)(P:K0 F φ h I)(k:∀ b o,b≠I->h.get? b=some o->h'.get? b=some o):KD Z F φ st h':=
 R.heap λb o e m=>k b o (by
  rintro rfl;rcases m with m |⟨o',m⟩ |m |m
  ·exact P.p m
  ·rw[P.f]at m;cases m
  ·exact P.t1 m
  ·exact P.t2 m) e
noncomputable def fu (w:World)(A:Around)(c:Code)(t:Expr)(it:Value)(env:Env)(rest:(Shared->Prop)->Shared->Prop):Prop:=
 ∀ (R:Result->Shared->Prop) (I:Nat->Shared->Prop),(∀ n s,I n s->aA w A (pyNext it) (λr KQ=>match r with
   |none=>R (.ok .next) KQ
   |some v=>aA w A (letOwnedTupleGo t it v) (λ_ LD=>aA w A (assign t env v) (λ_ KV=>
     rest (λLL=>∃ m,m<n/\I m LL) KV) aq LD) aq KQ) aq s)->∀ n s,I n s->codeAny (model aM w) A c R s
structure Ll (Z:KX)(g:Loc->St->Option (List AV×St))(scope:Scope)(env:Env)(O:List Addr)(D:Addr)(bd:Loc->bf->List Addr->Heap->Prop)(rest:(Shared->Prop)->Shared->Prop):Prop where
 run:∀ {KA:Loc} {Kx Ky:St} {ys ac:List AV} {F1:bf} {Kz:List Addr} {s1:Shared} {arr:Array Value} {k:Nat} {K:Shared->Prop},g KA Kx=some (ys,Ky)->KD Z F1 Kz Kx s1.heap->KH F1 Kz KA scope env O s1.heap->bd KA F1 Kz s1.heap ->
  K0 F1 Kz s1.heap D->D∉env.locals::env.cells.map (·.2)->s1.heap.get? D=some { cls:=.type "list",data:=.seq arr k }->KI F1 Kz ac arr.toList->ac.length+ys.length<=1000000 ->
  (∀ F2 K3 h2 Lz k2 tk,Step F1 Kz (D::O) s1.heap F2 K3 h2->KD Z F2 K3 Ky h2->KH F2 K3 KA scope env O h2->h2.get? D=some { cls:=.type "list",data:=.seq Lz k2 }->KI F2 K3 (ac++ys) Lz.toList->K ⟨h2,s1.gens,s1.drawn,tk,s1.os⟩)->rest K s1
noncomputable def fX (Lm:Loc)(tg:Tg)(g:Loc->St->Option (List AV×St))(x:AV)(st:St):Option (List AV×St):=match aQ Lm tg x with
 |some KA=>g KA st
 |none=>none
theorem Step.addr {own:List Addr}(S:Step F φ [] h F' KJ h'):Step F φ own h F' KJ h':=S.own λ_ m=>by cases m
inductive NX (Z:KX)(scope:Scope)(env:Env)(O own:List Addr)(I D:Addr)(hb:Heap)(F0:bf)(φ0:List Addr)(s0:Shared)(Kw:St)(Lm:Loc)(v:AV)(xs all:List AV)(go:List AV->St->Option (List AV×St)):Nat->Shared->Prop
 |mk {i:Nat} {F1:bf} {Kz:List Addr} {Kx:St} {ac zs:List AV} {arr:Array Value} {k:Nat} {h1:Heap} {tk:Nat}:i<=xs.length->Step F0 φ0 (own++(D::O)) hb F1 Kz h1->K0 F1 Kz h1 I->K0 F1 Kz h1 D->KD Z F1 Kz Kx h1->KH F1 Kz Lm scope env O h1->MF F1 Kz h1 I i v ->
   h1.get? D=some { cls:=.type "list",data:=.seq arr k }->KI F1 Kz ac arr.toList->go (xs.drop i) Kx=some (zs,Kw)->ac++zs=all->NX Z scope env O own I D hb F0 φ0 s0 Kw Lm v xs all go (xs.length-i) ⟨h1,s0.gens,s0.drawn,tk,s0.os⟩
theorem o4 {tg:Tg}{t:Expr}{Lm:Loc}{g:Loc->St->Option (List AV×St)}{v:AV}{xs:List AV}{out Pt:List AV}{c:Code}{rest:(Shared->Prop)->Shared->Prop}{R:Result->Shared->Prop}{I D:Addr}{M1:Array Value}{k0:Nat}{F0:bf}{φ0:List Addr}{hb:Heap}{bd:Loc->bf->List Addr->Heap->Prop}{own:List Addr}
  (hh:A.handled=none) (ct:gT scope tg t=true) (hkeep:∀ v KA,aQ Lm tg v=some KA->∀ y u,af Lm y=some u->af KA y=some u) (e1:aF L9 v=some xs)
  (rule:fu w A c t (.ref I) env rest) (body:Ll Z g scope env O D bd rest) (hbd:∀ {x KA F1 Kz h1},aQ Lm tg x=some KA->Step F0 φ0 (own++(D::O)) hb F1 Kz h1->bd KA F1 Kz h1)
  (R0:KD Z F φ st s.heap) (L0:KH F φ Lm scope env O s.heap) (T0:MF F φ s.heap I 0 v) (pI:K0 F φ s.heap I) (pD:K0 F φ s.heap D) (Ob:I≠D)
  (nI:I∉env.locals::env.cells.map (·.2)) (nD:D∉env.locals::env.cells.map (·.2)) (hD:s.heap.get? D=some { cls:=.type "list",data:=.seq M1 k0 }) (V0:KI F φ Pt M1.toList)
  (e:aU (λst=>an st v xs) (fX Lm tg g) xs st=some (out,Kw)) (KL:Pt.length+out.length<=1000000)
  (S0:Step F0 φ0 (own++(D::O)) hb F φ s.heap) (bI:hb.get? I=none)
  (hR:∀ F' KJ h' Ls n' tk,Step F0 φ0 (own++(D::O)) hb F' KJ h'->KD Z F' KJ Kw h'->KH F' KJ Lm scope env O h'->h'.get? D=some { cls:=.type "list",data:=.seq Ls n' }->KI F' KJ (Pt++out) Ls.toList->K0 F' KJ h' D ->
   R (.ok .next) ⟨h',s.gens,s.drawn,tk,s.os⟩) :
  codeAny (model aM w) A c R s:=by
 refine rule R (NX Z scope env O own I D hb F0 φ0 s Kw Lm v xs (Pt++out) (aU (λst=>an st v xs) (fX Lm tg g))) ?_ xs.length s (.mk (i:=0) (zero_le _) S0 pI pD R0 L0 T0 hD V0 e rfl);intro n s' inv
 cases inv with
 |@mk i F1 Kz Kx ac zs arr k h1 tk hi S1 M5 OL R1 L1 T1 QK V1 ec eo=>
 have QL:I∉D::O:=λm=>by
  cases m with
  |head=>exact Ob rfl
  |tail _ m=>exact nI (L1.subO I m)
 by_cases LC:i<xs.length
 ·have hx:xs[i]?=some xs[i]:=getElem?_eq_getElem LC;rw[List.drop_eq_getElem_cons LC]at ec;obtain⟨hs,ys,zs',Ky,ef,OM,rfl⟩:=jv ec;refine ml (st:=Kx) e1 hs hx R1 T1 λv' h2 KR k2 hv T2=>?_;have S2:Step F1 Kz [I] h1 F1 Kz h2:=Step.own1 (.head _) k2 (let ⟨o,T,q,_⟩:=T2.at_;⟨o,q⟩);have R2:KD Z F1 Kz Kx h2:=R1.own1 M5.f M5.p M5.t1 M5.t2 k2;have L2:KH F1 Kz Lm scope env O h2:=L1.keep λb m o e=>(k2.2 b λz=>nI (z▸m)).trans e;have Pu:h2.get? D=some { cls:=.type "list",data:=.seq arr k }:=(k2.2 D (Ne.symm Ob)).trans QK;have ON:=M5.step S2;have QM:=OL.step S2;have Ma:Step F0 φ0 (own++(D::O)) hb F1 Kz h2:=S1.hide S2 λb m=>by cases m with |head=>exact bI |tail _ m=>cases m
  refine cP T2.at_ λo T q1 q2 q3=>?_;refine gW (s:=sw s h2 KR) q1 q2 q3 ?_;unfold fX at ef
  cases eb:aQ Lm tg xs[i] with
  |none=>rw[eb]at ef;cases ef
  |some KA=>
   rw[eb]at ef;dsimp only at ef;refine fb (s:=sw s h2 KR) hh ct eb L2 R2 hv λh3 Lc S3 R3 L3=>?_;have nDO:D∉O:=λm=>nD (L1.subO D m);have T3:MF F1 Kz h3 I (i+1) v:=T2.mono (Lp.refl _) (prefix_refl _) λo e=>ON.kept S3 (λm=>QL (.tail _ m)) e;have P4:=QM.kept S3 nDO Pu;have Oq:=ON.step S3;have Ot:=QM.step S3;have NA:Step F0 φ0 (own++(D::O)) hb F1 Kz h3:=Ma.trans (S3.own λx m=>mem_append_right _ (.tail _ m))
   have hacy:ac.length+ys.length<=1000000:=by
    have:=congrArg List.length eo;simp only[length_append]at this;exact Q2 0x76085040111f424051760110f4240515401103 [_,_,_,_,_] KL this rfl
   refine body.run (s1:=⟨h3,s.gens,s.drawn,Lc,s.os⟩) ef R3 L3 (hbd eb NA) Ot nD P4 (V1.mono S3.le S3.pre) hacy λF4 NN h4 arr4 k4 LS S4 R4 L4 Ou V4=>?_;exact⟨_,Nat.sub_lt_sub_left LC (lt_succ_self i),.mk LC (NA.trans (S4.own λx m=>mem_append_right _ m)) (Oq.step S4) (Ot.step S4) R4 (L4.weaken (hkeep _ _ eb)) (T3.mono S4.le S4.pre λo e=>Oq.kept S4 QL e) Ou V4 OM ((append_assoc ..).trans eo)⟩
 ·have M0:i=xs.length:=by exact le_antisymm (Q1 0x54110541102 [_,_] hi rfl) (Q1 0x54110541102 [_,_] (not_lt.mp LC) rfl)
  rw[List.drop_eq_nil_of_le (by exact zY)]at ec;refine mR (kN ec) ?_;rintro hs rfl rfl;refine mn (st:=Kx) hh e1 hs M0 R1 T1 λh2 KR k2=>?_;have Pu:=k2 D _ (Ne.symm Ob) QK;have R2:=R1.but M5 k2;rw[append_nil]at eo;subst eo;exact hR F1 Kz h2 arr k KR (S1.hide' k2 bI) R2 (L1.keep λb m o e=>k2 b o (λz=>nI (z▸m)) e) Pu V1 ⟨⟨_,Pu⟩,OL.f,OL.p,OL.t1,OL.t2⟩
noncomputable def vz (w:World)(A:Around)(cs:List Expr)(elt:Expr)(acc:Value)(env:Env)(K:Shared->Prop):Shared->Prop:=λKV=>
 aA w A (fK cs env) (λok Lg=>
  if ok=true then aA w A (eval elt env) (λx Mf=>
   aA w A (call (.builtin "list.append") [acc,x]) (λ_ LL=>K LL) aq Mf) aq Lg
  else K Lg) aq KV
theorem z9 {elt target iter:Expr}{ifs:List Expr}{p:Pos}{it acc:Value}{env:Env} :
  fu w A (.compLoop (.ListComp elt [⟨target,iter,ifs,0⟩] scope p) 0 it acc env) target it env (vz w A ifs elt acc env):=
 λR I bW n s h=>o3 I bW n h
noncomputable def g1 (X:Cx)(ifs:List C)(ee:E)(KA:Loc)(st:St):Option (List AV×St):=match dF X ifs KA st with
 |some (true,Kw)=>match aa X ee KA Kw with
  |some (y,MI)=>some ([y],MI)
  |none=>none
 |some (false,Kw)=>some ([],Kw)
 |none=>none
theorem vA {X:Cx}{ifs:List C}{ee:E}{ys:List AV}(e:g1 X ifs ee KA st=some (ys,Kw)):ys.length<=1:=
 oC e (λ_ _ e=>oE e λy st _ e=>oP (P:=λys _=>ys.length<=1) e (le_refl _)) λ_ _ e=>oP (P:=λys _=>ys.length<=1) e (zero_le _)
theorem kO {ok:St->Bool}{f:AV->St->Option (List AV×St)}(hf:∀ x st ys Kw,f x st=some (ys,Kw)->ys.length<=1):∀ {xs:List AV} {out:List AV} {st Kw:St},aU ok f xs st=some (out,Kw)->out.length<=xs.length:=by
 intro xs
 induction xs with
 |nil=>
  intro out st Kw e;refine mR (kN e) ?_;rintro _ rfl _;exact zero_le _
 |cons x xs ih=>
  intro out st Kw e;obtain⟨_,ys,zs,Kx,h1,h2,rfl⟩:=jv e;have:=hf _ _ _ _ h1;have:=ih h2;simp only[length_append,length_cons];exact le_trans (add_le_add (by assumption) (by assumption)) (le_of_eq (add_comm 1 _))
noncomputable def gE (X:Cx)(ee:E)(KA:Loc)(st:St):Option (List AV×St):=match aa X ee KA st with
 |some (y,MI)=>some ([y],MI)
 |none=>none
noncomputable def vB (w:World)(A:Around)(elt:Expr)(acc:Value)(env:Env)(K:Shared->Prop):Shared->Prop:=λLg=>
 aA w A (eval elt env) (λx Mf=>aA w A (call (.builtin "list.append") [acc,x]) (λ_ LL=>K LL) aq Mf) aq Lg
theorem Aa {X:Cx}{elt:Expr}{ee:E}{D:Addr}{bd:Loc->bf->List Addr->Heap->Prop}
  (NO:∀ {KA:Loc} {st Kw:St} {y:AV} {s1:Shared} {F1:bf} {Kz:List Addr},aa X ee KA st=some (y,Kw)->KD Z F1 Kz st s1.heap->KH F1 Kz KA scope env O s1.heap->Good Z w A (eval elt env) F1 Kz s1 y Kw) :
  Ll Z (gE X ee) scope env O D bd (vB w A elt (.ref D) env):=.mk <|by
 intro KA Kx Ky ys ac F1 Kz s1 arr k K e R1 L1 _ pD nD hD V hl hK;unfold gE at e;unfold vB
 cases P5:aa X ee KA Kx with
 |none=>rw[P5]at e;cases e
 |some p=>
  obtain⟨y,Me⟩:=p;rw[P5]at e;cases e;refine NO P5 R1 L1 _ λF5 L7 y' h5 Mg S5 R5 V5=>?_;have P6:=pD.kept S5 (λm=>by cases m) hD;have QN:KI F5 L7 ac arr.toList:=V.mono S5.le S5.pre;have Mk:=QN.size;refine wpAny_list_append_plain (s:=⟨h5,s1.gens,s1.drawn,Mg,s1.os⟩) ⟨k,P6⟩ (λh6 QO k6=>?_) (by rw[sizeLine_eq];simp only[length_cons,length_nil]at hl;lia);refine aw QO ?_;clear QO;intro k' QP;have Pw:=pD.step S5;have S6:Step F5 L7 [D] h5 F5 L7 h6:=Step.own1 (.head _) k6 ⟨_,QP⟩;have R6:KD Z F5 L7 Ky h6:=R5.own1 Pw.f Pw.p Pw.t1 Pw.t2 k6;have L6:KH F5 L7 KA scope env O h6:=(L1.step S5).keep λb m o e=>(k6.2 b λz=>nD (z▸m)).trans e;refine hK F5 L7 h6 (arr.push y') k' Mg (S5.addr.trans (S6.own λx m=>by cases m with |head=>exact .head _ |tail _ m=>cases m)) R6 L6 QP ?_;rw[Array.toList_push];exact QN.snoc V5
theorem Ab {X:Cx}{elt:Expr}{ifs:List C}{cs:List Expr}{ee:E}{D:Addr}{bd:Loc->bf->List Addr->Heap->Prop}
  (P7:∀ {KA:Loc} {st Kw:St} {b:Bool} {s1:Shared} {F1:bf} {Kz:List Addr},dF X ifs KA st=some (b,Kw)->KD Z F1 Kz st s1.heap->KH F1 Kz KA scope env O s1.heap->dL Z w A (fK cs env) F1 Kz s1 b Kw)
  (NO:∀ {KA:Loc} {st Kw:St} {y:AV} {s1:Shared} {F1:bf} {Kz:List Addr},aa X ee KA st=some (y,Kw)->KD Z F1 Kz st s1.heap->KH F1 Kz KA scope env O s1.heap->Good Z w A (eval elt env) F1 Kz s1 y Kw) :
  Ll Z (g1 X ifs ee) scope env O D bd (vz w A cs elt (.ref D) env):=.mk <|by
 intro KA Kx Ky ys ac F1 Kz s1 arr k K e R1 L1 hb pD nD hD V hl hK;unfold g1 at e;unfold vz
 cases P8:dF X ifs KA Kx with
 |none=>rw[P8]at e;cases e
 |some p=>
  obtain⟨b,K4⟩:=p;rw[P8]at e;refine P7 P8 R1 L1 _ λF4 NN h4 LS S4 R4=>?_;have L4:=L1.step S4;have P9:=pD.step S4;have Ou:=pD.kept S4 (λm=>by cases m) hD
  cases b with
  |false=>
   cases e;rw[if_neg LU];exact hK F4 NN h4 arr k LS S4.addr R4 L4 Ou (by rw[append_nil];exact V.mono S4.le S4.pre)
  |true=>
   rw[if_pos rfl]
   exact(Aa (bd:=λ_ _ _ _=>True) NO).run (s1:=⟨h4,s1.gens,s1.drawn,LS,s1.os⟩) e R4 L4 trivial P9 nD Ou (V.mono S4.le S4.pre) hl λF5 L7 h5 Lz k2 Mg S5 R5 L5 P6 V5=>
    hK F5 L7 h5 Lz k2 Mg (S4.addr.trans S5) R5 L5 P6 V5
theorem Step.back (S:Step F φ own h F' KJ h')(e:h'.get? a=none):h.get? a=none:=by
 cases q:h.get? a with
 |none=>rfl
 |some o=>refine aw (S.dom a o q) λo' z=>?_;rw[z]at e;cases e
theorem Step.shed (S:Step F φ own h F' KJ h')(n:∀ b∈own,h.get? b=none):Step F φ [] h F' KJ h':=
 ⟨S.le,S.fnew,S.pre,S.pnew,S.dom,λb o e n1 n2 n3 _=>S.kept b o e n1 n2 n3 λm=>by rw[n b m]at e;cases e⟩
theorem i8 {tg:Tg}{t it elt:Expr}{cs:List Expr}{rest:List Comprehension}{g:Loc->St->Option (List AV×St)}{v:AV}{xs:List AV}{out:List AV}{use:Option (Value->Sem Unit)}{Q:Value->Shared->Prop}{p p2:Pos}
  {OO:Value->Env->(Shared->Prop)->Shared->Prop}
  (hh:A.handled=none) (ok:Mo sc scope cap) (ct:gT scope tg t=true) (ns:fh it=true) (e1:aF Kx v=some xs)
  (NP:Good Z w A (eval it env) F φ s v Kx)
  (rule:∀ {Ov acc:Value} {env:Env},fu w A (.compLoop (.ListComp elt (⟨t,it,cs,0⟩::rest) scope p) 0 Ov acc env) t Ov env (OO acc env))
  (body:∀ {D:Addr} {KG:Env} {O':List Addr},Ll Z g scope KG O' D (λKA _ _ _=>∃ x,aQ (aX σ cap) tg x=some KA) (OO (.ref D) KG))
  (R0:KD Z F φ st s.heap) (L0:KH F φ σ sc env O s.heap)
  (e:aU (λst=>an st v xs) (fX (aX σ cap) tg g) xs Kx=some (out,Kw)) (KL:out.length<=1000000)
  (hK:∀ F' KJ h' D C Ls n' tk,Step F φ [] s.heap F' KJ h'->KD Z F' KJ Kw h'->h'.get? D=some { cls:=.type "list",data:=.seq Ls n' }->KI F' KJ out Ls.toList->K0 F' KJ h' D->K0 F' KJ h' C->D≠C ->
   s.heap.get? D=none->s.heap.get? C=none->(∃ m,h'.Ns C m)->compPost (model aM w) A aq use Q (.ref D) C (.ok .next) ⟨h',s.gens,s.drawn,tk,s.os⟩) :
  aA w A (comprehension (.ListComp elt (⟨t,it,cs,0⟩::rest) scope p) scope env p2 (newList []) false (eval it env) use) Q aq s:=by
 have Nk:∀ n,(n,NameKind.free)∈scope.names->∃ c,env.cells.lookup n=some c:=λn m=>(L0.free_cell ok m).2
 have hs:∀ x,foldedSetIterable it env x=Pure.pure x:=by
  intro x;unfold foldedSetIterable;cases it<;>first |rfl |cases ns
 refine wpAny_comprehension_free (g:=⟨t,it,cs,0⟩) (gs:=rest) rfl hs (gj Nk) ok.kind (λx m e=>by rw[dN ok.nd (k:=x.2) m,e]) (NP _ λF1 Kz v' h1 Ln S1 R1 V1=>?_);have L1:=L0.step S1;refine ib (s:=sw s h1 Ln) e1 R1 V1 λh2 I KR k2 nI T2=>?_;have S2:Step F1 Kz [] h1 F1 Kz h2:=Step.ext k2;have R2:=R1.ext k2;have L2:=L1.step S2;refine wpAny_newList (s:=sw s h2 KR) ?_ (by simp);have S3:Step F1 Kz [] h2 F1 Kz (h2.push { cls:=.type "list",data:=.seq ([]:List Value).toArray }):=Step.ext aC;have R3:=R2.ext (h':=h2.push { cls:=.type "list",data:=.seq ([]:List Value).toArray }) aC;have L3:=L2.step S3;have gD:=get?_push_size h2 (o:={ cls:=.type "list",data:=.seq ([]:List Value).toArray }) rfl;have nD:=cD h2;generalize hD:h2.objs.size=D at gD nD;generalize hH:h2.push { cls:=.type "list",data:=.seq ([]:List Value).toArray }=h3 at S3 R3 L3 gD;show aA w A (newFunctionEnv scope env.globals (cF env.cells scope.names []) [] env.qual none .none (some env)) _ aq ⟨h3,s.gens,s.drawn,KR,s.os⟩;have sI:s.heap.get? I=none:=S1.back nI;have sD:s.heap.get? D=none:=S1.back (S2.back nD);refine dh T2.at_ λoI _ gI _=>?_;have QQ:=S3.kept I oI gI (K0.new R1 nI k2 ⟨_,gI⟩).p (K0.new R1 nI k2 ⟨_,gI⟩).t1 (K0.new R1 nI k2 ⟨_,gI⟩).t2 (by simp);have Oq:K0 F1 Kz h3 I:=(K0.new R1 nI k2 ⟨_,gI⟩).step S3
 have Ot:K0 F1 Kz h3 D:=by
  refine gS (R2.absent nD) λn1 n2 n3 n4=>?_;exact⟨⟨_,gD⟩,n1,n2,n3,n4⟩
 have Ob:I≠D:=λz=>by rw[z]at gI;rw[gI]at nD;cases nD
 refine oY (s:=sw s h3 KR) ok L3 R3 λh4 KG O' k4 nO cells L4=>?_;have S4:Step F1 Kz [] h3 F1 Kz h4:=Step.ext k4;have S04:Step F φ [] s.heap F1 Kz h4:=((S1.trans S2).trans S3).trans S4;have R4:=R3.ext k4;have pI4:=Oq.step S4;have P9:=Ot.step S4;have Nm:∀ b∈env.cells.map (·.2),∃ o,s.heap.get? b=some o:=λb m=>L0.ex b (.tail _ m)
 have nIc:I∉KG.locals::KG.cells.map (·.2):=λm=>by
  rcases cells I m with m |m
  ·have:=nO I m;rw[show h3.get? I=none from this]at QQ;cases QQ
  ·refine aw (Nm I m) λo z=>?_;rw[z]at sI;cases sI
 have QR:D∉KG.locals::KG.cells.map (·.2):=λm=>by
  rcases cells D m with m |m
  ·have:=nO D m;rw[show h3.get? D=none from this]at gD;cases gD
  ·refine aw (Nm D m) λo z=>?_;rw[z]at sD;cases sD
 have bO:∀ b∈O',s.heap.get? b=none:=λb m=>S1.back (S2.back (S3.back (nO b m)));have T4:MF F1 Kz h4 I 0 v:=(T2.mono (Lp.refl _) (prefix_refl _) λo z=>(K0.new R1 nI k2 ⟨_,gI⟩).kept S3 (by simp) z).mono (Lp.refl _) (prefix_refl _) λo z=>k4 I o z;have Ou:=k4 D _ gD;have sC:s.heap.get? KG.locals=none:=bO _ L4.loO
 have absent:∀ b∈([]:List Addr)++(D::O'),s.heap.get? b=none:=λb m=>by
  cases m with
  |head=>exact sD
  |tail _ m=>exact bO b m
 have loop:codeAny (model aM w) A (.compLoop (.ListComp elt (⟨t,it,cs,0⟩::rest) scope p) 0 (.ref I) (.ref D) { KG with scope:=relabel scope env })
   (compPost (model aM w) A aq use Q (.ref D) KG.locals) ⟨h4,s.gens,s.drawn,KR,s.os⟩:=
  o4 (own:=[]) (s:=sw s h4 KR) hh ct (λv KA eb=>keep_bind ok ct eb) e1 rule body (λeb _=>⟨_,eb⟩) R4 L4 T4 pI4 P9 Ob nIc QR Ou .nil e (by simpa using KL) S04.addr sI λF' KJ h' Ls n' tk S R L g V P1=>
   hK F' KJ h' D KG.locals Ls n' tk (S.shed absent) R g V P1 (L.privA (.head _)) (λz=>QR (z▸.head _)) sD sC L.ns
 refine codeAny_compStart_list loop ?_;exact o0 (mj (s:=sw s h4 KR) T4 loop)
theorem o5 {tg:Tg}{t it elt:Expr}{cs:List Expr}{rest:List Comprehension}{g:Loc->St->Option (List AV×St)}{v:AV}{xs:List AV}{out:List AV}{p:Pos}{OO:Value->Env->(Shared->Prop)->Shared->Prop}
  (hh:A.handled=none) (ok:Mo sc scope cap) (ct:gT scope tg t=true) (ns:fh it=true) (e1:aF Kx v=some xs)
  (NP:Good Z w A (eval it env) F φ s v Kx)
  (rule:∀ {Ov acc:Value} {env:Env},fu w A (.compLoop (.ListComp elt (⟨t,it,cs,0⟩::rest) scope p) 0 Ov acc env) t Ov env (OO acc env))
  (body:∀ {D:Addr} {KG:Env} {O':List Addr},Ll Z g scope KG O' D (λKA _ _ _=>∃ x,aQ (aX σ cap) tg x=some KA) (OO (.ref D) KG))
  (R0:KD Z F φ st s.heap) (L0:KH F φ σ sc env O s.heap)
  (e:aU (λst=>an st v xs) (fX (aX σ cap) tg g) xs Kx=some (out,Kw)) (KL:out.length<=1000000) :
  KN Z w A (eval (.ListComp elt (⟨t,it,cs,0⟩::rest) scope p) env) F φ s out Kw:=λQ hQ=>by
 rw[eval_ListComp];refine i8 (use:=none) hh ok ct ns e1 NP rule body R0 L0 e KL λF' KJ h' D C Ls n' tk S R g V P1 P2 ne sD sC N=>?_;refine aw N ?_;clear N;intro m N;refine⟨m,N,λNy k=>?_⟩;have kb:∀ b o,b≠C->h'.get? b=some o->Ny.get? b=some o:=λb o z e=>(k.2 b z).trans e;exact hQ F' KJ Ny D Ls n' tk (S.hide' kb sC) (R.but P2 kb) (kb D _ ne g) sD P1.f P1.p V
theorem tM {X:Cx}{tg:Tg}{t it elt:Expr}{ifs:List C}{cs:List Expr}{ee:E}{v:AV}{xs:List AV}{out:List AV}{p:Pos}
  (hh:A.handled=none) (ok:Mo sc scope cap) (ct:gT scope tg t=true) (ns:fh it=true) (e1:aF Kx v=some xs) (KL:xs.length<=1000000)
  (NP:Good Z w A (eval it env) F φ s v Kx)
  (P7:∀ {KA:Loc} {st Kw:St} {b:Bool} {s1:Shared} {F1:bf} {Kz:List Addr} {KG:Env} {O1:List Addr},dF X ifs KA st=some (b,Kw)->KD Z F1 Kz st s1.heap->KH F1 Kz KA scope KG O1 s1.heap ->
   dL Z w A (fK cs KG) F1 Kz s1 b Kw)
  (NO:∀ {KA:Loc} {st Kw:St} {y:AV} {s1:Shared} {F1:bf} {Kz:List Addr} {KG:Env} {O1:List Addr},aa X ee KA st=some (y,Kw)->KD Z F1 Kz st s1.heap->KH F1 Kz KA scope KG O1 s1.heap ->
   Good Z w A (eval elt KG) F1 Kz s1 y Kw)
  (R0:KD Z F φ st s.heap) (L0:KH F φ σ sc env O s.heap)
  (e:aU (λst=>an st v xs) (fX (aX σ cap) tg (g1 X ifs ee)) xs Kx=some (out,Kw)) :
  KN Z w A (eval (.ListComp elt [⟨t,it,cs,0⟩] scope p) env) F φ s out Kw:=
 o5 hh ok ct ns e1 NP z9 (λ{_ _ _}=>Ab P7 NO) R0 L0 e (le_trans (kO (λx st ys Kw e=>by
  unfold fX at e;split at e
  ·exact vA e
  ·cases e) e) KL)
noncomputable def vC (w:World)(A:Around)(e:Expr)(Lh:Expr)(acc:Value)(env:Env)(K:Shared->Prop):Shared->Prop:=λKV=>
 aA w A (eval Lh env) (λx Lg=>aA w A (pyIter x) (λi2 Mf=>
  codeAny (model aM w) A (.compStart e 1 i2 acc env) (λr LL=>match r with |.ok _=>K LL |.error _=>False) Mf) aq Lg) aq KV
theorem no (elt target iter t2 Lh:Expr)(scope:Scope)(pos:Pos)(it acc:Value)(env:Env) :
  compTurn (.ListComp elt [⟨target,iter,[],0⟩,⟨t2,Lh,[],0⟩] scope pos) 0 it acc env=(do
   standAt iter.pos
   match ← pyNext it with
   |none=>pure (.done .next)
   |some v=>
    letOwnedTupleGo target it v
    assign target env v
    let x ← eval Lh env
    standAt Lh.pos
    let x ← foldedSetIterable Lh env x;let i2 ← holding [x] (pyIter x);let _ ← runOwn (.compStart (.ListComp elt [⟨target,iter,[],0⟩,⟨t2,Lh,[],0⟩] scope pos) 1 i2 acc env) env
    again (.compLoop (.ListComp elt [⟨target,iter,[],0⟩,⟨t2,Lh,[],0⟩] scope pos) 0 it acc env)):=by rfl
theorem o6 (elt target iter t2 Lh:Expr)(scope:Scope)(pos:Pos)(it acc:Value)(env:Env) :
  compTurn (.ListComp elt [⟨target,iter,[],0⟩,⟨t2,Lh,[],0⟩] scope pos) 1 it acc env=(do
   standAt Lh.pos
   match ← pyNext it with
   |none=>pure (.done .next)
   |some v=>
    letOwnedTupleGo t2 it v
    assign t2 env v
    (do let _ ← call (.builtin "list.append") [acc,← eval elt env])
    again (.compLoop (.ListComp elt [⟨target,iter,[],0⟩,⟨t2,Lh,[],0⟩] scope pos) 1 it acc env)):=by rfl
theorem yK {elt target iter t2 Lh:Expr}{p:Pos}{it acc:Value}{env:Env} :
  fu w A (.compLoop (.ListComp elt [⟨target,iter,[],0⟩,⟨t2,Lh,[],0⟩] scope p) 1 it acc env) t2 it env (vB w A elt acc env):=
 λR I bW n s h=>by
  refine codeAny_loop rfl I (λn s hI=>?_) n h;show wpAny _ A ((compTurn (.ListComp elt [⟨target,iter,[],0⟩,⟨t2,Lh,[],0⟩] scope p) 1 it acc env).onRaise (λx=>do noteFrame x env;theTreesLotGoes x)) _ _ s;refine wpAny_noted ?_;rw[o6];refine wpAny_bind (wpAny_standAt (wpAny_bind (wpAny_mono (bW n s hI) (λr KQ Lj=>?_) λ_ _ f=>f.elim)))
  cases r with
  |none=>exact wpAny_pure Lj
  |some v=>
   refine wpAny_bind (wpAny_mono Lj (λ_ LD LZ=>?_) λ_ _ f=>f.elim);refine wpAny_bind (wpAny_mono LZ (λ_ KV Lq=>?_) λ_ _ f=>f.elim);exact wpAny_bind (wpAny_bind (wpAny_mono Lq (λx Mf Nl=>wpAny_bind (wpAny_mono Nl (λ_ LL M4=>wpAny_pure (wpAny_pure ⟨rfl,M4⟩)) λ_ _ f=>f.elim)) λ_ _ f=>f.elim))
theorem Ac {elt target iter t2 Lh:Expr}{p:Pos}{it acc:Value}{env:Env}(ns:fh Lh=true) :
  fu w A (.compLoop (.ListComp elt [⟨target,iter,[],0⟩,⟨t2,Lh,[],0⟩] scope p) 0 it acc env) target it env (vC w A (.ListComp elt [⟨target,iter,[],0⟩,⟨t2,Lh,[],0⟩] scope p) Lh acc env):=
 λR I bW n s h=>by
  refine codeAny_loop rfl I (λn s hI=>?_) n h;show wpAny _ A ((compTurn (.ListComp elt [⟨target,iter,[],0⟩,⟨t2,Lh,[],0⟩] scope p) 0 it acc env).onRaise (λx=>do noteFrame x env;theTreesLotGoes x)) _ _ s;refine wpAny_noted ?_;rw[no];refine wpAny_bind (wpAny_standAt (wpAny_bind (wpAny_mono (bW n s hI) (λr KQ Lj=>?_) λ_ _ f=>f.elim)))
  cases r with
  |none=>exact wpAny_pure Lj
  |some v=>
   refine wpAny_bind (wpAny_mono Lj (λ_ LD LZ=>?_) λ_ _ f=>f.elim);refine wpAny_bind (wpAny_mono LZ (λ_ KV Lq=>?_) λ_ _ f=>f.elim)
   have hs:∀ x,foldedSetIterable Lh env x=Pure.pure x:=by
    intro x;unfold foldedSetIterable;cases Lh<;>first |rfl |cases ns
   refine wpAny_bind (wpAny_mono Lq (λx Lg LJ=>wpAny_bind (wpAny_standAt (wpAny_bind (wpAny_of_eq (hs x) (wpAny_bind (wpAny_holding (wpAny_mono LJ (λi2 Mf Nl=>?_) λ_ _ f=>f.elim))))))) λ_ _ f=>f.elim);refine wpAny_bind (wpAny_runOwn (h:=none) ?_);have ha:A.mark none=A:=by cases A;rfl
   rw[ha];refine codeAny_mono Nl λr LL M4=>?_
   cases r with
   |ok f=>exact wpAny_pure ⟨rfl,M4⟩
   |error x=>exact M4.elim
theorem gk {R:Result->Shared->Prop}{elt target iter t2 Lh:Expr}{p:Pos}{it acc:Value}{env:Env}
  (h0:codeAny (model aM w) A (.compLoop (.ListComp elt [⟨target,iter,[],0⟩,⟨t2,Lh,[],0⟩] scope p) 1 it acc env) R s)
  (h:aA w A (pyIter it) (λOv s'=>codeAny (model aM w) A (.compLoop (.ListComp elt [⟨target,iter,[],0⟩,⟨t2,Lh,[],0⟩] scope p) 1 Ov acc env) R s') aq s) :
  codeAny (model aM w) A (.compStart (.ListComp elt [⟨target,iter,[],0⟩,⟨t2,Lh,[],0⟩] scope p) 1 it acc env) R s:=by
 refine codeAny_of_tree ?_;show wpAny _ _ ((compStart (.ListComp elt [⟨target,iter,[],0⟩,⟨t2,Lh,[],0⟩] scope p) 1 it acc env).onRaise (λx=>do noteFrame x env;standAt theWindowsPlace)) _ _ s;refine wpAny_notedAt ?_;unfold compStart;show wpAny _ _ (ask>>=_) _ _ s;refine wpAny_bind (wpAny_askSetting (wpAny_ite ?_));split
 ·first
   |exact wpAny_bind (wpAny_pure (wpAny_pure (And.intro rfl h0)))
   |exact wpAny_pure (And.intro rfl h0)
 ·refine wpAny_bind (wpAny_rule ?_);show wpAny _ _ (standAt Lh.pos>>=_) _ _ s;exact wpAny_bind (wpAny_standAt (wpAny_bind (wpAny_mono h (λOv s' h'=>wpAny_pure (And.intro rfl h')) λ_ _ x=>x.elim)))
noncomputable def g2 (X:Cx)(LV:Tg)(Lr ee:E)(KA:Loc)(st:St):Option (List AV×St):=match aa X Lr KA st with
 |some (v2,Ky)=>match aF Ky v2 with
  |some ys=>aU (λst=>an st v2 ys) (fX KA LV (gE X ee)) ys Ky
  |none=>none
 |none=>none
theorem Ad {X:Cx}{elt target iter t2 Lh:Expr}{tg LV:Tg}{Lr ee:E}{p:Pos}{D:Addr}
  (hh:A.handled=none) (ok:Mo sc scope cap) (NY:gT scope LV t2=true) (dj:(dZ LV).all (λy=>!(dZ tg).contains y)=true)
  (NP:∀ {KA:Loc} {st Kw:St} {y:AV} {s1:Shared} {F1:bf} {Kz:List Addr},aa X Lr KA st=some (y,Kw)->KD Z F1 Kz st s1.heap->KH F1 Kz KA scope env O s1.heap->Good Z w A (eval Lh env) F1 Kz s1 y Kw)
  (NO:∀ {KA:Loc} {st Kw:St} {y:AV} {s1:Shared} {F1:bf} {Kz:List Addr},aa X ee KA st=some (y,Kw)->KD Z F1 Kz st s1.heap->KH F1 Kz KA scope env O s1.heap->Good Z w A (eval elt env) F1 Kz s1 y Kw) :
  Ll Z (g2 X LV Lr ee) scope env O D (λKA _ _ _=>∃ x,aQ (aX σ cap) tg x=some KA) (vC w A (.ListComp elt [⟨target,iter,[],0⟩,⟨t2,Lh,[],0⟩] scope p) Lh (.ref D) env):=.mk <|by
 intro KA Kx Ky ys ac F1 Kz s1 arr k K e R1 L1 hb pD nD hD V hl hK;refine aw hb ?_;clear hb;intro x hb;unfold g2 at e;unfold vC
 cases ev:aa X Lr KA Kx with
 |none=>rw[ev]at e;cases e
 |some q=>
  obtain⟨v2,K4⟩:=q;rw[ev]at e;dsimp only at e
  cases ei:aF K4 v2 with
  |none=>rw[ei]at e;cases e
  |some xs=>
   rw[ei]at e;dsimp only at e;refine NP ev R1 L1 _ λF2 K3 v' h2 KR S2 R2 V2=>?_;have L2:=L1.step S2;refine ib (s:=⟨h2,s1.gens,s1.drawn,KR,s1.os⟩) ei R2 V2 λh3 I Lc k3 nI T3=>?_;have S3:Step F2 K3 [] h2 F2 K3 h3:=Step.ext k3;have R3:=R2.ext k3;have L3:=L2.step S3;refine dh T3.at_ λoI _ gI _=>?_;have Oq:K0 F2 K3 h3 I:=K0.new R2 nI k3 ⟨_,gI⟩;have Ot:=(pD.step S2).step S3;have P4:=(pD.step S2).kept S3 (λm=>by cases m) (pD.kept S2 (λm=>by cases m) hD);have sI:s1.heap.get? I=none:=S2.back nI;have Ob:I≠D:=λz=>by rw[z]at sI;rw[sI]at hD;cases hD
   have nIe:I∉env.locals::env.cells.map (·.2):=λm=>by
    refine aw (L1.ex I m) λo z=>?_;rw[z]at sI;cases sI
   have keep2:∀ v LW,aQ KA LV v=some LW->∀ y u,af KA y=some u->af LW y=some u:=by
    intro v LW eb y u hu;refine Eq.trans (iZ eb y λm=>?_) ?_;rotate_left
    ·exact hu
    ·have h1:=all_eq_true.mp dj y m;have h2:y∉dZ tg:=by simpa using h1
     rw[iZ hb y h2]at hu;refine av (ic hu) λ_ m2=>?_;have:=ok.cap y m2;rcases kM NY y m with z |z<;>rw[z]at this<;>cases this
   have loop:codeAny (model aM w) A (.compLoop (.ListComp elt [⟨target,iter,[],0⟩,⟨t2,Lh,[],0⟩] scope p) 1 (.ref I) (.ref D) env)
     (λr LL=>match r with |.ok _=>K LL |.error _=>False) ⟨h3,s1.gens,s1.drawn,Lc,s1.os⟩:=
    o4 (own:=[]) (F0:=F1) (φ0:=Kz) (hb:=s1.heap) (s:=⟨h3,s1.gens,s1.drawn,Lc,s1.os⟩) hh NY keep2 ei yK (Aa (bd:=λ_ _ _ _=>True) NO) (λ_ _=>trivial) R3 L3 T3 Oq Ot Ob nIe nD P4 (V.mono S2.le S2.pre) e hl
     (S2.trans S3).addr sI λF' KJ h' Ls n' tk S R L g V _=>hK F' KJ h' Ls n' tk S R L g V
   refine gk loop ?_;exact mj (s:=⟨h3,s1.gens,s1.drawn,Lc,s1.os⟩) T3 loop
theorem qL {X:Cx}{tg LV:Tg}{t it t2 Lh elt:Expr}{Lr ee:E}{v:AV}{xs:List AV}{out:List AV}{p:Pos}
  (hh:A.handled=none) (ok:Mo sc scope cap) (ct:gT scope tg t=true) (NY:gT scope LV t2=true) (ns:fh it=true) (ns2:fh Lh=true) (dj:(dZ LV).all (λy=>!(dZ tg).contains y)=true) (e1:aF Kx v=some xs)
  (ih0:Good Z w A (eval it env) F φ s v Kx)
  (NP:∀ {KA:Loc} {st Kw:St} {y:AV} {s1:Shared} {F1:bf} {Kz:List Addr} {KG:Env} {O1:List Addr},aa X Lr KA st=some (y,Kw)->KD Z F1 Kz st s1.heap->KH F1 Kz KA scope KG O1 s1.heap->Good Z w A (eval Lh KG) F1 Kz s1 y Kw)
  (NO:∀ {KA:Loc} {st Kw:St} {y:AV} {s1:Shared} {F1:bf} {Kz:List Addr} {KG:Env} {O1:List Addr},aa X ee KA st=some (y,Kw)->KD Z F1 Kz st s1.heap->KH F1 Kz KA scope KG O1 s1.heap->Good Z w A (eval elt KG) F1 Kz s1 y Kw)
  (R0:KD Z F φ st s.heap) (L0:KH F φ σ sc env O s.heap)
  (e:aU (λst=>an st v xs) (fX (aX σ cap) tg (g2 X LV Lr ee)) xs Kx=some (out,Kw)) (KL:out.length<=1000000) :
  KN Z w A (eval (.ListComp elt [⟨t,it,[],0⟩,⟨t2,Lh,[],0⟩] scope p) env) F φ s out Kw:=
 o5 hh ok ct ns e1 ih0 (Ac ns2) (λ{_ _ _}=>Ad hh ok NY dj NP NO) R0 L0 e KL
end
theorem Bt:∀ f,f<23->z7 f≠131:=by decide
section
variable {p:Pos}{a:Addr}
noncomputable def i9 (Z:KX)(w:World)(A:Around)(t:Sem Value)(F:bf)(φ:List Addr)(s:Shared)(env:Env)(st:St)(v:AV)(Kw:St):Prop:=
 ∀ F1 Kz h1 tk,Step F φ [] s.heap F1 Kz h1->KD Z F1 Kz st h1->Good Z w A t F1 Kz ⟨h1,s.gens,s.drawn,tk,s.os⟩ v Kw
theorem Good.two {t u:Sem Value}{x y v:AV}{op:Value->Value->Sem Value}{Q:Value->Shared->Prop}(g1:Good Z w A t F φ s x Kx)(g2:i9 Z w A u F φ s env Kx y Ky)
  (g3:∀ F2 K3 h2 tk vx vy,Step F φ [] s.heap F2 K3 h2->KD Z F2 K3 Ky h2->VR F2 K3 x vx->VR F2 K3 y vy->Good Z w A (op vx vy) F2 K3 ⟨h2,s.gens,s.drawn,tk,s.os⟩ v Kw)
  (hQ:KW Z F φ s v Kw Q):aA w A t (λa KQ=>aA w A u (λb KV=>aA w A (op a b) Q aq KV) aq KQ) aq s:=
 g1 _ λF1 Kz vx h1 Ln S1 R1 V1=>g2 F1 Kz h1 Ln S1 R1 _ λF2 K3 vy h2 KR S2 R2 V2=>
  g3 F2 K3 h2 KR vx vy (S1.trans S2) R2 (V1.mono S2.le S2.pre) V2 Q (KW.step hQ (S1.trans S2))
theorem ja {l r:Expr}{op:Operator}{x y v:AV}(g1:Good Z w A (eval l env) F φ s x Kx)(g2:i9 Z w A (eval r env) F φ s env Kx y Ky)(rm:KP 1 A)(e:aK op x y=some v) :
  Good Z w A (eval (.BinOp l op r p) env) F φ s v Ky:=λQ hQ=>
 wpAny_BinOp (Good.two (op:=binaryOp op) g1 g2 (λF2 K3 h2 tk vx vy S R V1 V2=>ty e R rm V1 V2) hQ)
theorem tN {l r:Expr}{op:CmpOp}{x y:AV}{b:Bool}{Q:Value->Shared->Prop}(g1:Good Z w A (eval l env) F φ s x Kx)(g2:i9 Z w A (eval r env) F φ s env Kx y Ky)(rm:KP 1 A)(e:bJ Ky op x y=some b)
  (hQ:KW Z F φ s (.bool b) Ky Q) :
  aA w A (eval l env) (λa KQ=>aA w A (eval r env) (λb KV=>aA w A (compareOp op a b) Q aq KV) aq KQ) aq s:=
 Good.two (op:=compareOp op) g1 g2 (λF2 K3 h2 tk vx vy S R V1 V2=>tA e R rm V1 V2) hQ
theorem tO {l r:Expr}{x y v:AV}(g1:Good Z w A (eval l env) F φ s x Kx)(g2:i9 Z w A (eval r env) F φ s env Kx y Ky)(ns:ga r=true)(e:cB Ky x y=some v) :
  Good Z w A (eval (.Subscript l r p) env) F φ s v Ky:=λQ hQ=>
 m9 ns (g1 _ λF1 Kz vx h1 Ln S1 R1 V1=>g2 F1 Kz h1 Ln S1 R1 _ λF2 K3 vy h2 KR S2 R2 V2=>
  ⟨VR.sub (s:=sw s h2 KR) e R2 (V1.mono S2.le S2.pre),l9 (s:=sw s h2 KR) e R2 (V1.mono S2.le S2.pre) V2 Q (KW.step hQ (S1.trans S2))⟩)
theorem mr {es:List Expr}{k:Nat}{vs:List AV}(g:fW Z w A (spliced (backTo p (starEach es env))) F φ s vs Kw)(hl:es.length<=100)(hv:vs.length=es.length) :
  Good Z w A (eval (.Tuple es k p) env) F φ s (.tup vs) Kw:=λQ hQ=>
 wpAny_Tuple (g _ λF1 Kz KO h1 tk S R V=>by
  have:=V.length;refine gS R.size_new λn1 n2 n3 n4=>?_;refine⟨by rw[sizeLine_eq];exact Q3 0x46112561116421511010000007141104 [_,_,_] hl hv this rfl,?_⟩;have:=(R.newF (o:={ cls:=.type "tuple",data:=.seq KO.toArray }) rfl)
  exact hQ _ Kz _ _ tk (S.trans (this.2 _)) this.1 (.tup bP (by simpa using V.mono (cW n1) (prefix_refl _))))
theorem qM {es:List Expr}{vs:List AV}(g:fW Z w A (spliced (backTo p (starEach es env))) F φ s vs Kw)(hl:es.length<=100)(hv:vs.length=es.length) :
  KN Z w A (eval (.List es p) env) F φ s vs Kw:=λQ hQ=>
 wpAny_List (g _ λF1 Kz KO h1 tk S R V=>by
  have:=V.length;refine⟨by rw[sizeLine_eq];exact Q3 0x46112561116421511010000007141104 [_,_,_] hl hv this rfl,?_⟩
  exact K6.push (s:=sw s h1 tk) (K6.step hQ S) R (by simpa using V))
theorem o7 {id:Nat}{args:List Expr}{vs:List AV}{b:Bi}{v:AV}(G:Glob Z)(g:fW Z w A (spliced (backTo p (starEach args env))) F φ s vs Kx)(h0:args=[]->vs=[]/\Kx=st)
  (R:KD Z F φ st s.heap) (L:KH F φ σ sc env O s.heap) (rm:KP 1 A) (hg:gl sc (nm (yF b))=true) (hs:args.all aB=true) (e:gA Kx b vs=some (v,Kw)) :
  Good Z w A (eval (.Call (.Name (nm (yF b)) pos) args [] p) env) F φ s v Kw:=λQ hQ=>
 PySem.wpAny_Call_NameR (iB R L hg (by cases b<;>decide) (G.bi b) (ow hs R (by cases b<;>first |exact .inl ⟨_,rfl⟩ |exact .inr ⟨_,rfl⟩) h0 g (λF1 Kz KO h1 tk S1 R1 V1=>vb e R1 rm V1) Q hQ))
theorem vD {X:Cx}{k:Nat}{args:List Expr}{vs:List AV}{f:Nat}{v:AV}(hC:cx Z w k X.C)(G:Glob Z)(g:fW Z w A (spliced (backTo p (starEach args env))) F φ s vs Kx)(h0:args=[]->vs=[]/\Kx=st)
  (R:KD Z F φ st s.heap) (L:KH F φ σ sc env O s.heap) (rm:KP k A) (hf:f<23) (hg:gl sc (nm (z7 f))=true) (hs:args.all aB=true) (e:X.C f vs Kx=some (v,Kw)) :
  Good Z w A (eval (.Call (.Name (nm (z7 f)) pos) args [] p) env) F φ s v Kw:=λQ hQ=>by
 refine PySem.wpAny_Call_NameR (iz R L hg (Bt f hf) (G.fn f hf) (jr hs R (G.keep f (by exact bN)) h0 g (λF1 Kz KO h1 tk S1 R1 V1=>?_) Q hQ));have:=hC f vs Kx v Kw e A F1 Kz ⟨h1,s.gens,s.drawn,tk,s.os⟩ KO rm R1 V1;rw[if_neg (by exact J1)]at this;exact this
theorem qN {X:Cx}{k:Nat}{o:Expr}{args:List Expr}{vs:List AV}{f:Nat}{x v:AV}{apos:Pos}(hC:cx Z w k X.C)(G:Glob Z)(go:Good Z w A (eval o env) F φ s x Kx)(hr:dt Kx f x=true)
  (g:∀ F1 Kz h1 tk,Step F φ [] s.heap F1 Kz h1->KD Z F1 Kz Kx h1->fW Z w A (spliced (backTo p (starEach args env))) F1 Kz ⟨h1,s.gens,s.drawn,tk,s.os⟩ vs Ky) (h0:args=[]->vs=[]/\Ky=Kx)
  (rm:KP k A) (h1:30<=f) (h2:f<37) (h3:f≠35) (cb:eY o=true) (KY:(apos.endLine==p.line)=true) (hs:args.all aB=true) (hl:args.length<10) (e:X.C f (x::vs) Ky=some (v,Kw)) :
  Good Z w A (eval (.Call (.Attribute o (nm (tq f)) apos) args [] p) env) F φ s v Kw:=λQ hQ=>by
 refine me cb (qA hs hl) KY (go _ λF1 Kz vx My Ln S1 R1 V1=>λpl=>?_);refine oU (s:=sw s My Ln) G h1 h2 hr R1 V1 ?_;refine jr (s:=sw s My Ln) (first:=[vx]) hs R1 (G.keep f h2) h0 (g F1 Kz My Ln S1 R1) (λF2 K3 KO MV KR S2 R2 V2=>?_) Q (KW.step hQ S1);have:=hC f (x::vs) Ky v Kw e A F2 K3 ⟨MV,s.gens,s.drawn,KR,s.os⟩ (vx::KO) rm R2 (.cons (V1.mono S2.le S2.pre) V2);rw[if_neg h3]at this;exact this
theorem qO {o:Expr}{x v:AV}{i:Nat}(G:Glob Z)(go:Good Z w A (eval o env) F φ s x Kx)(hi:i<6)(cb:eY o=true)(e:jn Kx x i=some v) :
  Good Z w A (eval (.Attribute o (nm i) p) env) F φ s v Kx:=λQ hQ=>
 iu cb (go _ λF1 Kz vx h1 Ln S1 R1 V1=>tL (s:=sw s h1 Ln) G hi e R1 V1 Q (KW.step hQ S1))
theorem tP {o:Expr}{m:Sm}{x v:AV}{apos:Pos}(go:Good Z w A (eval o env) F φ s x Kx)(cb:eY o=true)(KY:(apos.endLine==p.line)=true)(e:jM Kx m x []=some (v,Kw)) :
  Good Z w A (eval (.Call (.Attribute o (ky m) apos) [] [] p) env) F φ s v Kw:=λQ hQ=>
 PySem.Call_method0 (cX cb) KY (go _ λF1 Kz vx h1 Ln S1 R1 V1=>tI (s:=sw s h1 Ln) e R1 V1 (KW.step hQ S1))
theorem tR {o a:Expr}{m:Sm}{x y v:AV}{apos:Pos}(go:Good Z w A (eval o env) F φ s x Kx)(pr:jp Kx x=true)(g:i9 Z w A (eval a env) F φ s env Kx y Ky)(ns:aB a=true)(rm:KP 1 A)
  (cb:eY o=true) (KY:(apos.endLine==p.line)=true) (e:jM Ky m x [y]=some (v,Kw)) :
  Good Z w A (eval (.Call (.Attribute o (ky m) apos) [a] [] p) env) F φ s v Kw:=λQ hQ=>
 PySem.Call_method1 (cX cb) (by rw[dJ ns];rfl) KY (go _ λF1 Kz vx h1 Ln S1 R1 V1=>tK (s:=sw s h1 Ln) pr e R1 rm V1 (g F1 Kz h1 Ln S1 R1) (KW.step hQ S1))
theorem nq {u v:Value}{neg:Bool}{Q:Value->Shared->Prop}(hp:plainIs u v=true)(hQ:Q (.bool ((u==v) != neg)) s):aA w A (compareOp (iV neg) u v) Q aq s:=by
 cases neg
 ·exact wpAny_is_plain hp (by simpa using hQ)
 ·exact wpAny_isNot_plain hp (by simpa using hQ)
theorem o8 {l r:Expr}{neg:Bool}{x:AV}{k:Nat}{p2:Pos}{Q:Value->Shared->Prop}(G:Glob Z)(g:Good Z w A (eval l env) F φ s x Kx)
  (hQ:KW Z F φ s (.bool (mW x != neg)) Kx Q) :
  aA w A (eval l env) (λa KQ=>aA w A (eval (.Constant .none k p2) env) (λb KV=>aA w A (compareOp (iV neg) a b) Q aq KV) aq KQ) aq s:=
 g _ λF1 Kz vx h1 tk S1 R1 V1=>wpAny_Constant_none (by
  refine nq (s:=sw s h1 tk) ?_ ?_
  ·cases V1<;>rfl
  ·have:(vx==Value.none)=mW x:=by
    cases V1<;>rfl
   rw[this]
   exact hQ F1 Kz _ h1 tk S1 R1 (.bool _))
theorem o9 {l:Expr}{neg b:Bool}{k:Nat}{p2:Pos}{Q:Value->Shared->Prop}(g:Good Z w A (eval l env) F φ s (.bool b) Kx)(hQ:KW Z F φ s (.bool (b != neg)) Kx Q) :
  aA w A (eval l env) (λa KQ=>aA w A (eval (.Constant (.bool true) k p2) env) (λb KV=>aA w A (compareOp (iV neg) a b) Q aq KV) aq KQ) aq s:=
 g _ λF1 Kz vx h1 tk S1 R1 V1=>wpAny_Constant_bool (by
  cases V1;refine nq (s:=sw s h1 tk) rfl ?_;have:(Value.bool b==Value.bool true)=b:=by cases b<;>rfl
  rw[this]
  exact hQ F1 Kz _ h1 tk S1 R1 (.bool _))
theorem qP (G:Glob Z)(R:KD Z F φ st s.heap)(L:KH F φ σ sc env O s.heap)(hg:gl sc (nm 52)=true):Good Z w A (eval (.Name (nm 52) p) env) F φ s (.int 4000) st:=by
 refine aw G.lim λt e=>?_;exact Good.val R λQ hQ=>iz R L hg (by decide) e (hQ _ s.toks (.int _ _))
theorem tS {b:Bool}(G:Glob Z)(R:KD Z F φ st s.heap)(L:KH F φ σ sc env O s.heap)(hg:gl sc (nm (if b then 33 else 34))=true):Good Z w A (eval (.Name (nm (if b then 33 else 34)) p) env) F φ s (.rx b) st:=
 Good.val R λQ hQ=>iz R L hg (by cases b<;>decide) (G.rx b) (hQ _ s.toks (.rx _))
theorem tT {i:Int}{k:Nat}(R:KD Z F φ st s.heap):Good Z w A (eval (.Constant (.int i) k p) env) F φ s (.int i) st:=Good.val R λQ hQ=>wpAny_Constant_int (hQ _ _ (.int _ _))
theorem tU {l:List Nat}{k:Nat}(R:KD Z F φ st s.heap):Good Z w A (eval (.Constant (.str ⟨l.toArray⟩) k p) env) F φ s (.str l) st:=Good.val R λQ hQ=>wpAny_Constant_str (hQ _ _ (.str _ _))
theorem qQ {b:Bool}{k:Nat}(R:KD Z F φ st s.heap):Good Z w A (eval (.Constant (.bool b) k p) env) F φ s (.bool b) st:=Good.val R λQ hQ=>wpAny_Constant_bool (hQ _ s.toks (.bool _))
theorem tV {k:Nat}(R:KD Z F φ st s.heap):Good Z w A (eval (.Constant .none k p) env) F φ s .none st:=Good.val R λQ hQ=>wpAny_Constant_none (hQ _ s.toks .none)
theorem Bu {t:Ty}{x:AV}{b:Bool}{v:Value}(e:DI st t x=some b)(R:KD Z F φ st s.heap)(hx:VR F φ x v):b=true/\s.TypeIs v (Hr t):=by
 have y {b:Bool} (e:some true=some b):b=true:=(K7 e).symm
 cases t with
 |int=>exact cu (P:=λv=>b=true/\s.TypeIs v "int") hx e λa t e=>⟨y e,typeIs_int _ _ _⟩
 |str=>exact hZ (P:=λv=>b=true/\s.TypeIs v "str") hx e λa t e=>⟨y e,typeIs_str _ _ _⟩
 |bool=>exact uV (P:=λx=>VR F φ x v->b=true/\s.TypeIs v "bool") (λa e=>VR.boolR (P:=λv=>b=true/\s.TypeIs v "bool") ⟨y e,rfl⟩) e hx
 |list=>
  refine z5 (P:=λv=>b=true/\s.TypeIs v "list") hx e (λxs a arr e f _=>⟨y e,(f.isList R.frz).typeIs⟩) λe=>?_;exact jm (P:=λv=>b=true/\s.TypeIs v "list") hx e λi a e hi=>oV e λxs q e=>let ⟨arr,hl,_⟩:=R.list q hi;⟨y e,(aP hl).typeIs⟩
theorem qR {a:Expr}{t:Ty}{neg b:Bool}{x:AV}{p1 p2 p3:Pos}{Q:Value->Shared->Prop}(G:Glob Z)(R:KD Z F φ st s.heap)(L:KH F φ σ sc env O s.heap)(h1:gl sc (nm 184)=true)(h2:gl sc (nm (yG t))=true)(ns:aB a=true)
  (g:Good Z w A (eval a env) F φ s x Kx) (e:DI Kx t x=some b) (hQ:KW Z F φ s (.bool (b != neg)) Kx Q) :
  aA w A (eval (.Call (.Name (nm 184) p1) [a] [] p2) env) (λa KQ=>aA w A (eval (.Name (nm (yG t)) p3) env) (λb KV=>aA w A (compareOp (iV neg) a b) Q aq KV) aq KQ) aq s:=by
 refine PySem.wpAny_Call_NameR (iB R L h1 (by decide) G.typ ?_);rw[bk ns];refine PySem.callWith_type1 (t:=eval a env) (g _ λF1 Kz vx My tk S1 R1 V1=>?_);refine av (Bu (s:=sw s My tk) e R1 V1) ?_;rintro rfl ht;refine call_type_of ht (by cases t<;>decide) ?_;refine iB (s:=sw s My tk) R1 (L.step S1) h2 (by cases t<;>decide) (G.tys t) ?_;refine nq (by cases t<;>rfl) ?_;rw[beq_self_eq_true];exact hQ F1 Kz _ My tk S1 R1 (.bool _)
theorem tW {l r:Expr}{x y:AV}{xs ys:List AV}(g1:Good Z w A (eval l env) F φ s x Kx)(g2:i9 Z w A (eval r env) F φ s env Kx y Ky)(e1:cN Ky x=some xs)(e2:cN Ky y=some ys)
  (hl:xs.length+ys.length<=1000000):KN Z w A (eval (.BinOp l .Add r p) env) F φ s (xs++ys) Ky:=λQ hQ=>
 wpAny_BinOp (g1 _ λF1 Kz vx h1 Ln S1 R1 V1=>g2 F1 Kz h1 Ln S1 R1 _ λF2 K3 vy h2 KR S2 R2 V2=>by
  refine cP (R2.lstOf e1 (V1.mono S2.le S2.pre)) ?_;rintro a arr rfl ⟨n,ha⟩ d1;refine cP (R2.lstOf e2 V2) ?_;rintro b Lz rfl ⟨m,hb⟩ d2;have l1:=d1.size;have l2:=d2.size
  refine concat_meets (s:=sw s h2 KR) ⟨_,ha,rfl⟩ ⟨_,hb,rfl⟩ noFill_list_add seq_list_add PySem.F.slot_list_add PySem.F.entry_list_add (PySem.F.args_list_add_2 _ _)
   (list_addW a b arr Lz n m none none #[] #[] (by rw[sizeLine_eq];exact Q3 0x5711246112f4240517601101000000715401104 [_,_,_,_] hl l1 l2 rfl)) ⟨ha,hb,?_⟩
  exact K6.push (s:=sw s h2 KR) (K6.step hQ (S1.trans S2)) R2 (by rw[toList_append];exact d1.append d2))
theorem tX {a r:Expr}{x:AV}{k:Int}{p2:Pos}(R0:KD Z F φ st s.heap)(ns:aB a=true)(g1:Good Z w A (eval a env) F φ s x Kx)(g2:i9 Z w A (eval r env) F φ s env Kx (.int k) Ky)
  (hk:k<2^20/\-(2^20)<k):KN Z w A (eval (.BinOp (.List [a] p2) .Mult r p) env) F φ s (replicate k.toNat x) Ky:=λQ hQ=>by
 refine wpAny_BinOp (wpAny_List ?_);rw[bk ns];refine Calls.spliced_cons (g1 _ λF1 Kz vx h1 Ln S1 R1 V1=>Calls.spliced_nil ⟨by simp[sizeLine_eq],?_⟩);refine gS R1.size_new λn1 n2 n3 n4=>?_;have RN:=R1.newF (o:={ cls:=.type "list",data:=.seq ([vx]:List Value).toArray }) rfl;have gD:ia F1 h1.objs.size { cls:=.type "list",data:=.seq ([vx]:List Value).toArray } h1.objs.size=some { cls:=.type "list",data:=.seq ([vx]:List Value).toArray }:=bP;have Px:=S1.trans (RN.2 []);refine g2 _ Kz _ Ln Px RN.1 _ λF2 K3 vy h2 KR S2 R2 V2=>?_
 cases V2 with
 |int _ u=>
  have g3:=R2.frz _ _ (S2.le _ _ gD);have vx2:VR F2 K3 x vx:=(V1.mono (cW n1) (prefix_refl _)).mono S2.le S2.pre
  refine wpAny_binaryOp_repeat_ref (s:=sw s h2 KR) (T:="list") (U:="int") (by decide) ⟨_,g3,rfl⟩ (λs'=>typeIs_int s' k u) noFill_list_mul PySem.F.fills_int_mul slot_int_rmul repeat_list PySem.F.slot_int_index.lookup
   (call_meets slot_int_rmul (typeIs_int _ k u) PySem.F.entry_int_rmul (PySem.F.args_int_rmul_2 _ _) (int___rmul___int_list k u _ _ _)
    ⟨g3,rfl,⟨_,g3,rfl⟩,call_meets PySem.F.slot_list_mul ⟨_,g3,rfl⟩ PySem.F.entry_list_mul (PySem.F.args_list_mul_2 _ _)
     (AutoListH.list___mul___list_int_3 _ _ _ k u (by simp[Builtin.List.listFitsIndex];exact JH (by assumption)) (by simp;lia) (by simp[Builtin.List.listTooLong,sizeLine];lia))
     ⟨g3,?_⟩⟩)
  refine K6.push (s:=sw s h2 KR) (K6.step hQ (Px.trans S2)) R2 ?_;have:(if ([vx]:List Value).toArray.isEmpty=true then 0 else k.toNat)=k.toNat:=by simp
  rw[this];rw[foldl_rep vx k.toNat #[]];exact KI.replicate vx2 _
end
theorem jP (sl:Expr)(o i:Value):∃ l,subscripted sl false o i=operate l (getItem o i):=by
 cases sl with
 |Slice a b c p=>cases c<;>exact⟨_,rfl⟩
 |_=>exact⟨_,rfl⟩
section
variable {p:Pos}{a:Addr}
theorem gX {value slice:Expr}{Q:Value->Shared->Prop}
  (h:aA w A (eval value env) (λo KQ=>aA w A (eval slice env) (λi KV=>KV.TypeIs o "list"/\aA w A (getItem o i) Q aq KV) aq KQ) aq s) :
  aA w A (eval (.Subscript value slice pos) env) Q aq s:=by
 rw[arm_eval_Subscript];refine wpAny_bind (wpAny_mono h (λo KQ Lj=>wpAny_bind (wpAny_holding (wpAny_mono Lj (λi KV Lq=>wpAny_bind (wpAny_standAt ?_)) λ_ _ x=>x))) λ_ _ x=>x);refine av Lq ?_;clear Lq;intro hT hg;refine wpAny_bind ?_;rw[getitemInPython_of_ne hT.not_modules];refine wpAny_bind (wpAny_specialOf hT PySem.F.slot_list_getitem.lookup ?_);refine aw (jP slice o i) λl e=>?_;refine wpAny_pure (wpAny_bind ?_);rw[e];exact wpAny_operating (wpAny_mono hg (λr Lg LJ=>wpAny_bind (wpAny_letTemporaryGo (wpAny_pure LJ))) λ_ _ x=>x)
theorem pb {x:AV}{xs ys:List AV}{vx vl vu vs:Value}{lo hi sp:Option Int}{Q:Value->Shared->Prop}(e:cN st x=some xs)(KL:xs.length<=1000000)(R:KD Z F φ st s.heap)(V:VR F φ x vx)
  (pl:IsPart vl lo) (pu:IsPart vu hi) (ps:IsPart vs sp) (h0:sp≠some 0)
  (hp:∀ arr:Array Value,KI F φ xs arr.toList->KI F φ ys (slicePick arr lo hi sp).toList) (hQ:K6 Z F φ s ys st Q) :
  (⟨s.heap.push { cls:=.type "slice",data:=.fields #[vl,vu,vs] },s.gens,s.drawn,s.toks,s.os⟩:Shared).TypeIs vx "list" /\
   aA w A (getItem vx (.ref s.heap.objs.size)) Q aq ⟨s.heap.push { cls:=.type "slice",data:=.fields #[vl,vu,vs] },s.gens,s.drawn,s.toks,s.os⟩:=by
 have S1:Step F φ [] s.heap F φ (s.heap.push { cls:=.type "slice",data:=.fields #[vl,vu,vs] }):=Step.ext aC;have R1:=R.ext (h':=s.heap.push { cls:=.type "slice",data:=.fields #[vl,vu,vs] }) aC;refine cP (R1.lstOf e V) ?_;rintro b arr rfl ⟨n,hb⟩ d;have hL:(s.heap.push { cls:=.type "slice",data:=.fields #[vl,vu,vs] }).IsList b arr:=⟨_,hb,rfl,_,rfl⟩;refine⟨⟨_,hb,rfl⟩,?_⟩;have l1:=d.size;refine wpAny_getItem_list_slice (s:=⟨s.heap.push { cls:=.type "slice",data:=.fields #[vl,vu,vs] },s.gens,s.drawn,s.toks,s.os⟩) hL (Heap.IsSliceOf.new s.heap vl vu vs) pl pu ps h0 ?_ (by rw[sizeLine_eq];exact Q2 0x45112f424051511010000007141103 [_,_] KL l1 rfl);exact K6.push (s:=⟨s.heap.push { cls:=.type "slice",data:=.fields #[vl,vu,vs] },s.gens,s.drawn,s.toks,s.os⟩) (K6.step hQ S1) R1 (hp arr d)
theorem qS {v l:Expr}{x:AV}{k:Int}{xs:List AV}{p2:Pos}(g1:Good Z w A (eval v env) F φ s x Kx)(g2:i9 Z w A (eval l env) F φ s env Kx (.int k) Ky)(e:cN Ky x=some xs)(hk:0<=k)(KL:xs.length<=1000000) :
  KN Z w A (eval (.Subscript v (.Slice (some l) none none p2) p) env) F φ s (xs.drop k.toNat) Ky:=λQ hQ=>by
 refine gX (g1 _ λF1 Kz vx h1 Ln S1 R1 V1=>wpAny_Slice ?_);rw[evalPart_some];refine g2 F1 Kz h1 Ln S1 R1 _ λF2 K3 vy h2 KR S2 R2 V2=>?_;rw[evalPart_none];refine wpAny_pure (wpAny_pure ?_)
 cases V2 with
 |int _ t=>
  refine pb (s:=sw s h2 KR) (lo:=some k) (hi:=none) (sp:=none) e KL R2 (V1.mono S2.le S2.pre) (.int k t) .none .none (by decide) (λarr d=>?_) (K6.step hQ (S1.trans S2));have:=slicePick_from' arr k.toNat;rw[Int.toNat_of_nonneg hk]at this;rw[this];exact d.drop _
theorem tY {v:Expr}{x:AV}{xs:List AV}{k:Nat}{p2 p3 p4:Pos}(g1:Good Z w A (eval v env) F φ s x Kx)(e:cN Kx x=some xs)(KL:xs.length<=1000000) :
  KN Z w A (eval (.Subscript v (.Slice none none (some (.UnaryOp .USub (.Constant (.int 1) k p4) p3)) p2) p) env) F φ s xs.reverse Kx:=λQ hQ=>by
 refine gX (g1 _ λF1 Kz vx h1 Ln S1 R1 V1=>wpAny_Slice ?_);rw[evalPart_none,evalPart_some];refine wpAny_pure (wpAny_pure (wpAny_UnaryOp (wpAny_Constant_int (P.neg_int ?_))));refine pb (s:=sw s h1 _) (lo:=none) (hi:=none) (sp:=some (-1)) e KL R1 V1 .none .none (.int (-1) _) (by decide) (λarr d=>?_) (K6.step hQ S1);rw[krv_pick];exact d.reverse
end
theorem pc (x y:Int)(r:List Int):aO x (y::r)=if x<y then x::y::r else y::aO x r:=rfl
theorem pe (x:Int):∀ l:List Int,(aO x l).Perm (x::l):=by
 intro l
 induction l with
 |nil=>
  exact .refl _
 |cons y r ih=>
  rw[pc];split
  ·exact .refl _
  ·exact((ih).cons y).trans (.swap ..)
theorem tZ:∀ l:List Int,(l.foldr aO []).Perm l:=by
 intro l
 induction l with
 |nil=>
  exact .refl _
 |cons x r ih=>
  exact(pe x _).trans ((ih).cons x)
theorem qT (x:Int):∀ l:List Int,l.Pairwise (·<=·)->(aO x l).Pairwise (·<=·):=by
 intro l
 induction l with
 |nil=>
  intro _;exact List.pairwise_singleton ..
 |cons y r ih=>
  intro h;rw[pc];rw[pairwise_cons]at h;split
  ·rename_i q;rw[pairwise_cons,pairwise_cons];refine⟨λz m=>?_,h⟩
   cases m with
   |head=>lia
   |tail _ m=>have:=h.1 z m;lia
  ·rename_i q;rw[pairwise_cons];refine⟨λz m=>?_,ih h.2⟩;have:=(pe x r).mem_iff.mp m
   cases this with
   |head=>lia
   |tail _ m=>exact h.1 z m
theorem pg:∀ l:List Int,(l.foldr aO []).Pairwise (·<=·):=by
 intro l
 induction l with
 |nil=>
  exact .nil
 |cons x r ih=>
  exact qT x _ (ih)
theorem ph {l m:List Int}(h:m.Perm l)(s:m.Pairwise (·<=·)):m=l.foldr aO []:=
 List.Perm.eq_of_pairwise (le:=(·<=·)) (λa b _ _ h1 h2=>Int.le_antisymm h1 h2) s (pg l) (h.trans (tZ l).symm)
section
variable {p:Pos}{a:Addr}
theorem KI.ofInts {vs:List Value}{ns:List Int}(h:IntsAre vs ns):KI F φ (ns.map .int) vs:=by
 induction h with
 |nil=>exact .nil
 |cons a b c d=>exact .cons (.int _ _) d
theorem pi {vs:List Value}{ns:List Int}(h:IntsAre vs ns):vs.length=ns.length:=by
 induction h with
 |nil=>rfl
 |cons a b c d=>exact congrArg Nat.succ d
set_option tactic.hygienic true in
theorem nr {x:Expr}{xs:List AV}{l:List Int}{p1:Pos}(G:Glob Z)(R:KD Z F φ st s.heap)(L:KH F φ σ sc env O s.heap)(hg:gl sc (nm 181)=true)(ns:aB x=true)
  (g:Good Z w A (eval x env) F φ s (.lst xs) Kx) (e:allInts xs=some l) (hl:l.length<64) :
  KN Z w A (eval (.Call (.Name (nm 181) p1) [x] [] p) env) F φ s ((l.foldr aO []).map .int) Kx:=λQ hQ=>by
 refine PySem.wpAny_Call_NameR (iB R L hg (by decide) G.srt ?_);refine Calls.callWith_builtin (cM (by simp[ns])) ?_;rw[bk ns];refine Calls.evalArgs_plain (Calls.spliced_cons (g _ λF1 Kz vx h1 Ln S1 R1 V1=>Calls.spliced_nil ?_))
 cases V1 with
 |lst e1 d=>
  rename_i b arr;have hI:IntsAre arr.toList l:=KI.intsAre e d;have KL:arr.toList.length<64:=by rw[pi hI];exact hl
  refine sorted_ints (s:=sw s h1 Ln) (vs:=arr.toList) (by simpa using e1.isList R1.frz) hI KL λout ns' a1 a2 a3=>?_;refine aw (sortedAll_at h1 arr.toList out) λk he=>?_;have old:∀ b o,h1.get? b=some o->(sortedAll h1 arr.toList out).get? b=some o:=λ_ _ z=>sortedAll_old z
  have nz:h1.get? (h1.objs.size+1)=none:=by
   cases q:h1.get? (h1.objs.size+1) with
   |none=>rfl
   |some o=>exact absurd (lt_size q) (not_lt.mpr (le_succ _))
  refine gS (R1.absent nz) λn1 n2 n3 n4=>?_;have:=ph a2 a3;subst this
  exact hQ F1 Kz _ _ out k Ln (S1.trans (Step.ext old)) (R1.ext old) he (by
   cases q:s.heap.get? (h1.objs.size+1) with
   |none=>rfl
   |some o=>refine aw (S1.dom _ o q) λo' z=>?_;rw[z]at nz;cases nz) n1 n2 (KI.ofInts a1)
theorem KI.ofStrs:∀ (l:List (Str×Tok)),KI F φ (l.map λq=>.str q.1.cps.toList) (strValues l):=by
 intro l
 induction l with
 |nil=>
  exact .nil
 |cons LK l ih=>
  obtain⟨x,t⟩:=LK;exact .cons (.str _ t) (ih)
theorem pj {o x:Expr}{q z:List Nat}{apos:Pos}(go:Good Z w A (eval o env) F φ s (.str q) Kx)(g:i9 Z w A (eval x env) F φ s env Kx (.str z) Ky)(ns:aB x=true)
  (cb:eY o=true) (KY:(apos.endLine==p.line)=true) (h1:z.isEmpty=false) (h2:q.length<=1000) (h3:(Txt.split ⟨q.toArray⟩ ⟨z.toArray⟩).length<=1000) :
  KN Z w A (eval (.Call (.Attribute o (nm 159) apos) [x] [] p) env) F φ s ((Txt.split ⟨q.toArray⟩ ⟨z.toArray⟩).map λx=>.str x.cps.toList) Ky:=λQ hQ=>by
 have hn:nm 159=ofString "split":=by decide +kernel
 rw[hn];refine PySem.Call_method1 (cX cb) (by rw[dJ ns];rfl) KY (go _ λF1 Kz vx My Ln S1 R1 V1=>?_)
 cases V1 with
 |str _ t=>
 refine⟨"str",_,PySem.F.plainAttrs_str,PySem.F.slot_str_split,PySem.F.type_str_split,typeIs_str _ _ _,(λ_ e=>nomatch e),
  method1_meets PySem.F.slot_str_split PySem.F.entry_str_split (g F1 Kz My Ln S1 R1 _ λF2 K3 vy MV KR S2 R2 V2=>?_)⟩
 cases V2 with
 |str _ u=>
 refine⟨typeIs_str _ _ _,PySem.F.args_str_split_2 _ _,?_⟩
 have hy:((⟨z.toArray⟩:Str).length==0)=false:=by
  cases z with
  |nil=>cases h1
  |cons a b=>rfl
 have hx:(⟨q.toArray⟩:Str).length<=sizeLine:=by
  have:(⟨q.toArray⟩:Str).length=q.length:=by simp[Str.length]
  rw[this,sizeLine_eq];exact bN
 have fin:∀ (l:List (Str×Tok)) (k:Nat),l.map (·.1)=Txt.split ⟨q.toArray⟩ ⟨z.toArray⟩->Q (.ref MV.objs.size) ⟨MV.push { cls:=.type "list",data:=.seq (strValues l).toArray },s.gens,s.drawn,k,s.os⟩:=λl k hl=>by
  refine K6.push (s:=sw s MV k) (K6.step hQ (S1.trans S2)) R2 ?_;have:=KI.ofStrs (F:=F2) (φ:=K3) l;rw[← hl,map_map];simpa [Function.comp_def] using this
 have hs:∀ a:Bool,a=true->¬ a=false:=by decide
 cases c1:(decide ((⟨q.toArray⟩:Str).length<(⟨z.toArray⟩:Str).length)||decide (Builtin.Str.strKind ⟨q.toArray⟩<Builtin.Str.strKind ⟨z.toArray⟩))
 ·cases hf:(Builtin.Str.occurrences ⟨q.toArray⟩ ⟨z.toArray⟩ 0 (⟨q.toArray⟩:Str).length ((⟨q.toArray⟩:Str).length+1)).isEmpty
  ·have e3:Txt.split ⟨q.toArray⟩ ⟨z.toArray⟩=_:=(if_neg (ne_true_of_eq_false c1)).trans (if_neg (ne_true_of_eq_false hf));refine⟨_,meets_str_split_sep _ _ t u c1 hy hf hx (by rw[← e3,sizeLine_eq];exact bN),?_⟩;show Q _ { (⟨MV,s.gens,s.drawn,KR,s.os⟩:Shared) with toks:=_,heap:=MV.push { cls:=.type "list",data:=.seq (strsFrom KR (Builtin.Str.partsBetween ⟨q.toArray⟩ (Builtin.Str.occurrences ⟨q.toArray⟩ ⟨z.toArray⟩ 0 (⟨q.toArray⟩:Str).length ((⟨q.toArray⟩:Str).length+1)) (⟨z.toArray⟩:Str).length)).toArray } };rw[strsFrom_eq];exact fin (numbered KR _) _ ((numbered_texts _ _).trans e3.symm)
  ·exact⟨_,meets_str_split_not_found _ _ t u c1 hy hf,fin [(⟨q.toArray⟩,t)] KR ((if_neg (ne_true_of_eq_false c1)).trans (if_pos hf)).symm⟩
 ·exact⟨_,meets_str_split_cannot_occur _ _ t u c1,fin [(⟨q.toArray⟩,t)] KR (if_pos c1).symm⟩
theorem t8 (R:KD Z F φ st s.heap):Good Z w A (eval (.Name (nm 131) p) env) F φ s (.bool true) st:=Good.val R λQ hQ=>by
 rw[arm_eval_Name,vn];refine wpAny_bind (wpAny_standAt ?_);rw[if_pos (by rfl)];exact wpAny_bind (wpAny_rule (wpAny_pure (hQ _ s.toks (.bool _))))
theorem pk {b:Bool}{p1:Pos}(G:Glob Z)(R:KD Z F φ st s.heap)(L:KH F φ σ sc env O s.heap)(hg:gl sc (nm 17)=true) :
  Good Z w A (eval (.Attribute (.Name (nm 17) p1) (nm (if b then 153 else 152)) p) env) F φ s (.str [if b then 9 else 32]) st:=Good.val R λQ hQ=>by
 refine ak G.wst λmc h1 h2=>?_;refine aw (h2 b) λt h3=>?_;refine iu rfl (iz R L hg (by decide) G.wsc ?_);exact cls_value (R.base.inK R.frz) h1 h3 rfl (hQ _ (s.toks+1) (.str _ t))
theorem qU {x:Nat}{i:Int}{l:List Nat}{p1 p2 p3 p4 p5 apos:Pos}(G:Glob Z)(R:KD Z F φ st s.heap)(L:KH F φ σ sc env O s.heap)(rm:KP 1 A)(h1:gl sc (nm 54)=true)(h2:gl sc (nm 187)=true)(hx:x≠131)
  (KY:(apos.endLine==p.line)=true) (ex:af σ x=some (.int i)) (e:n9 i=some l) :
  Good Z w A (eval (.Call (.Attribute (.Name (nm 54) p1) (nm 43) apos) [.Name (nm x) p2,.Call (.Name (nm 187) p3) [.Name (nm x) p4] [] p5] [] p) env) F φ s (.str l) st:=λQ hQ=>by
 refine oI (P:=aA w A _ Q aq s) e λKL e=>?_
 ·cases e;obtain⟨d,o,es,ep,g1,g2,g3,g4,g5,g6,g7⟩:=G.flg;have hn:nm 43=ofString "get":=by decide +kernel
  rw[hn];have od:=R.base.inK R.frz _ _ g3;refine PySem.Call_method2 (cX rfl) rfl KY (iz R L h1 (by decide) g1 ?_)
  refine⟨"dict","dict.get",PySem.F.plainAttrs_dict,PySem.F.slot_dict_get,PySem.F.type_dict_get,⟨o,od,g4.1⟩,(λa z=>?_),
   wpAny_dict_get2 (knd:=intKind aM w) g2 (gi L ex hx λv' hv=>?_)⟩
  ·cases z;exact⟨o,od,g4.2.1⟩
  cases hv with
  |int _ t1=>
  have gh:fW Z w A (spliced (backTo p5 (starEach [.Name (nm x) p4] env))) F φ s [.int i] st:=λQ hQ=>by
   rw[bk rfl];refine Calls.spliced_cons (gi L ex hx λv' hv=>Calls.spliced_nil ?_);exact hQ F φ _ s.heap s.toks (Step.refl ..) R (.cons hv .nil)
  refine o7 (id:=0) (b:=.hex) (vs:=[.int i]) (st:=st) G gh (λz=>by cases z) R L rm h2 rfl (v:=.str (lM i)) (Kw:=st) (if_pos KL) _ λF1 Kz v2 My Ln S1 R1 V1=>?_;refine⟨i,findBy Value.isInt es,by simp[intKind,Value.isInt],⟨o,es,ep,R1.base.inK R1.frz _ _ g3,g4,g5,λe he=>g6 e he,λk=>rfl⟩,?_⟩;rcases g7 i with ⟨q,t,e1,e2⟩ |⟨e1,e2⟩
  ·rw[e2];have:=hQ F1 Kz (.str ⟨q.2.toArray⟩ t) My (Ln+1) S1 R1 (by rw[e1];exact .str _ t);exact this
  ·rw[e2];exact hQ F1 Kz v2 My (Ln+1) S1 R1 (by rw[e1];exact V1)
theorem qV {X:Cx}{k:Nat}{o x:Expr}{rx ax v:AV}{b:Bool}{ck:Nat}{apos p1 p2:Pos}(hC:cx Z w k X.C)(G:Glob Z)(go:Good Z w A (eval o env) F φ s rx Kx)(hr:dt Kx 35 rx=true)
  (g:i9 Z w A (eval x env) F φ s env Kx ax Ky) (rm:KP k A) (cb:eY o=true) (KY:(apos.endLine==p.line)=true) (ns:aB x=true) (e:X.C 35 [rx,ax,.bool b] Ky=some (v,Kw)) :
  Good Z w A (eval (.Call (.Attribute o (nm 36) apos) [x] [⟨some (nm 110),.Constant (.bool b) ck p2,p1⟩] p) env) F φ s v Kw:=λQ hQ=>by
 have hn:nm 110=ofString "name":=by decide +kernel
 have Nj:methodCallForm (([x]:List Expr).length+([⟨some (nm 110),.Constant (.bool b) ck p2,p1⟩]:List Keyword).length) (backTo p (starEach [x] env)) (backToKw p (keywordEach [⟨some (nm 110),.Constant (.bool b) ck p2,p1⟩] env))=true:=by
  rw[bk ns];rfl
 refine me cb Nj KY (go _ λF1 Kz vx My Ln S1 R1 V1=>λpl=>?_);have hm:tq 35=36:=rfl;refine hm▸oU (s:=sw s My Ln) G (by decide) (by decide) hr R1 V1 ?_;have Mx:starEach [x] env=(false,eval x env)::starEach [] env:=dJ ns;refine PySem.W.callWith_of (P:=λh=>Z.K.In h) (by rw[bk ns];rfl) (keeps_K (G.keep 35 (by decide))) ?_;refine evalArgs_kw2 rfl ?_ Mx;rw[bk ns];refine Calls.spliced_cons (g F1 Kz My Ln S1 R1 _ λF2 K3 vy MV KR S2 R2 V2=>Calls.spliced_nil ?_);refine kwAll_cons (wpAny_Constant_bool (kwAll_nil ?_));refine⟨R2.base.inK R2.frz,?_⟩;have:=hC 35 [rx,ax,.bool b] Ky v Kw e A F2 K3 ⟨MV,s.gens,s.drawn,KR,s.os⟩ [vx,vy,.bool b] rm R2 (.cons (V1.mono S2.le S2.pre) (.cons V2 (.cons (.bool b) .nil)));rw[if_pos rfl,← hn]at this;exact this Q (KW.step hQ (S1.trans S2))
structure K1 (Z:KX)(w:World)(A:Around)(ex:Expr)(env:Env)(F:bf)(φ:List Addr)(s:Shared)(v:AV)(Kw:St):Prop where
 good:Good Z w A (eval ex env) F φ s v Kw
 cmp:nf ex=false->∀ whole,∃ b,v=.bool b/\dL Z w A (isTrue ex env whole) F φ s b Kw
theorem K1.of {ex:Expr}{v:AV}(n:nf ex=true)(g:Good Z w A (eval ex env) F φ s v Kw):K1 Z w A ex env F φ s v Kw:=⟨g,λq=>by rw[n]at q;cases q⟩
theorem K1.cmpOf {l r:Expr}{op:CmpOp}{b:Bool}(hm:behindInMarks op r=false)
  (g:∀ Q,KW Z F φ s (.bool b) Kw Q->aA w A (eval l env) (λa KQ=>aA w A (eval r env) (λb KV=>aA w A (compareOp op a b) Q aq KV) aq KQ) aq s) :
  K1 Z w A (.Compare l [op] [r] p) env F φ s (.bool b) Kw:=
 ⟨λQ hQ=>wpAny_Compare1 (g Q hQ) hm,λ_ whole=>⟨b,rfl,λQ hQ=>wpAny_isTrue_Compare1 (g _ λF1 Kz v' h1 tk S R V=>by
  cases V
  exact wpAny_truthy_bool (hQ F1 Kz h1 tk S R)) hm⟩⟩
variable (Z w)
structure SE (k:Nat)(X:Cx)(e:E):Prop where
 run:∀ {ex:Expr} {sc:Scope} {σ:Loc} {st Kw:St} {v:AV} {A:Around} {F:bf} {φ:List Addr} {s:Shared} {env:Env} {O:List Addr},
 aW sc e ex=true->aa X e σ st=some (v,Kw)->KP (k+1) A->KD Z F φ st s.heap->KH F φ σ sc env O s.heap->K1 Z w A ex env F φ s v Kw
structure SL (k:Nat)(X:Cx)(l:L):Prop where
 run:∀ {ex:Expr} {sc:Scope} {σ:Loc} {st Kw:St} {vs:List AV} {A:Around} {F:bf} {φ:List Addr} {s:Shared} {env:Env} {O:List Addr},
 Bs sc l ex=true->du X l σ st=some (vs,Kw)->KP (k+1) A->KD Z F φ st s.heap->KH F φ σ sc env O s.heap->KN Z w A (eval ex env) F φ s vs Kw
structure SC (k:Nat)(X:Cx)(c:C):Prop where
 run:∀ {ex:Expr} {sc:Scope} {σ:Loc} {st Kw:St} {b:Bool} {A:Around} {F:bf} {φ:List Addr} {s:Shared} {env:Env} {O:List Addr},
 LA sc c ex=true->aJ X c σ st=some (b,Kw)->KP (k+1) A->KD Z F φ st s.heap->KH F φ σ sc env O s.heap->dL Z w A (isTrue ex env (eval ex env)) F φ s b Kw
structure Ng (k:Nat)(X:Cx)(es:List E):Prop where
 run:∀ {L8:List Expr} {sc:Scope} {σ:Loc} {st Kw:St} {vs:List AV} {A:Around} {F:bf} {φ:List Addr} {s:Shared} {env:Env} {O:List Addr} {pos:Pos},
 eZ sc es L8=true->L8.all aB=true->aN X es σ st=some (vs,Kw)->KP (k+1) A->KD Z F φ st s.heap->KH F φ σ sc env O s.heap ->
  fW Z w A (spliced (backTo pos (starEach L8 env))) F φ s vs Kw
structure N6 (k:Nat)(X:Cx)(cs:List C):Prop where
 run:∀ {L8:List Expr} {sc:Scope} {σ:Loc} {st Kw:St} {b:Bool} {A:Around} {F:bf} {φ:List Addr} {s:Shared} {env:Env} {O:List Addr},
 vm sc cs L8=true->dF X cs σ st=some (b,Kw)->KP (k+1) A->KD Z F φ st s.heap->KH F φ σ sc env O s.heap->dL Z w A (fK L8 env) F φ s b Kw
variable {Z w}
theorem fL {X:Cx}{es:List E}{L8:List Expr}{vs:List AV}(c:eZ sc es L8=true)(e:aN X es σ st=some (vs,Kw)):L8=[]->vs=[]/\Kw=st:=by
 rintro rfl
 cases es with
 |nil=>exact oP (P:=λvs Kw=>vs=[]/\Kw=st) e ⟨rfl,rfl⟩
 |cons _ _=>cases(show false=true from c)
theorem fM {X:Cx}:∀ {es:List E} {L8:List Expr} {vs:List AV} {st Kw:St},eZ sc es L8=true->aN X es σ st=some (vs,Kw)->vs.length=L8.length:=by
 intro es
 induction es with
 |nil=>
  intro L8 _ _ _ c e;exact oP (P:=λvs _=>vs.length=L8.length) e (isEmpty_iff.mp c▸rfl)
 |cons e0 es ih=>
  intro L8 vs st Kw c e;exact bD (P:=λL8=>vs.length=L8.length) (λx xs c=>bV c λ_ c=>oE e λv Kx _ e=>oL e λws Ky q e=>oP (P:=λvs _=>vs.length=xs.length+1) e (congrArg (·+1) (ih c q))) c
theorem oA {γ:Type}{o:Option AV}{k:AV->Option γ}{r:γ}{P:Prop}(e:(match o with
 |some x=>k x
 |none=>none)=some r) (f:∀ x,o=some x->k x=some r->P):P:=by
 cases o with
 |none=>exact absurd e bg
 |some z=>exact f _ rfl e
theorem KP.one {k:Nat}(rm:KP (k+1) A):KP 1 A:=rm.less (succ_le_succ (zero_le k))
theorem KP.pre {k:Nat}(rm:KP (k+1) A):KP k A:=rm.less (le_succ k)
theorem SE.then {k:Nat}{X:Cx}{e:E}{ex:Expr}{v:AV}(g:SE Z w k X e)(c:aW sc e ex=true)(ev:aa X e σ Kx=some (v,Ky))(rm:KP (k+1) A)(L:KH F φ σ sc env O s.heap) :
  i9 Z w A (eval ex env) F φ s env Kx v Ky:=λF1 Kz h1 tk S R=>(g.run (s:=sw s h1 tk) c ev rm R (L.step S)).good
theorem vE {ex:Expr}{env:Env}(c:kD ex=true):isTrue ex env (eval ex env)=(do let v ← eval ex env;standAt ex.pos;holding [v] (truthy v)):=by
 cases ex<;>first |rfl |cases c
theorem vF:∀ (xs:List Expr) (s:Shared) (Q:Bool->Shared->Prop),Q false s->aA w A (forIn xs false λc r=>if r=true then do let ok ← isTrue c env (eval c env);Pure.pure (ForInStep.yield ok) else Pure.pure (ForInStep.yield r)) Q aq s:=by
 intro xs
 induction xs with
 |nil=>
  intro s Q h;exact wpAny_pure h
 |cons y ys ih=>
  intro s Q h;rw[forIn_cons];refine wpAny_bind ?_;rw[if_neg LU];exact wpAny_pure (ih s Q h)
section
variable {X:Cx}{k:Nat}
variable (hk:1<=k)(hC:cx Z w k X.C)(G:Glob Z)
include hC G
theorem DM {x:Nat}:SE Z w k X (.l x):=.mk <|by
 intro ex sc σ st Kw v A F φ s env O c e rm R L;exact bn (P:=λex=>K1 Z w A ex env F φ s v Kw) (λp c=>yd (P:=λv t=>K1 Z w A _ env F φ s v t) e λu e=>.of rfl (vt R L e (bne_iff_ne.mp c))) c
theorem DN {i:Int}:SE Z w k X (.int i):=.mk <|by
 intro ex sc σ st Kw v A F φ s env O c e rm R L;exact ju (P:=λex=>K1 Z w A ex env F φ s v Kw) (λq p _=>oP (P:=λv t=>K1 Z w A _ env F φ s v t) e (.of rfl (tT R))) c
theorem DO {l:List Nat}:SE Z w k X (.str l):=.mk <|by
 intro ex sc σ st Kw v A F φ s env O c e rm R L;exact ju (P:=λex=>K1 Z w A ex env F φ s v Kw) (λq p _=>oP (P:=λv t=>K1 Z w A _ env F φ s v t) e (.of rfl (tU R))) c
theorem Ae {b:Bool}:SE Z w k X (.bool b):=.mk <|by
 intro ex sc σ st Kw v A F φ s env O c e rm R L;exact ju (P:=λex=>K1 Z w A ex env F φ s v Kw) (λq p _=>oP (P:=λv t=>K1 Z w A _ env F φ s v t) e (.of rfl (qQ R))) c
theorem DP:SE Z w k X .non:=.mk <|by
 intro ex sc σ st Kw v A F φ s env O c e rm R L;exact ju (P:=λex=>K1 Z w A ex env F φ s v Kw) (λq p _=>oP (P:=λv t=>K1 Z w A _ env F φ s v t) e (.of rfl (tV R))) c
theorem DQ {op:Operator}{a b:E}(ha:SE Z w k X a)(hb:SE Z w k X b):SE Z w k X (.b op a b):=.mk <|by
 intro ex sc σ st Kw v A F φ s env O c e rm R L;refine iy (P:=λex=>K1 Z w A ex env F φ s v Kw) (λl r p c=>bV c λc1 c2=>?_) c;exact oE e λx Kx e1 e=>oE e λy Ky e2 e=>yd (P:=λv t=>K1 Z w A _ env F φ s v t) e λu e3=>.of rfl (ja (ha.run c1 e1 rm R L).good (hb.then c2 e2 rm L) rm.one e3)
theorem DR {op:CmpOp}{a b:E}(ha:SE Z w k X a)(hb:SE Z w k X b):SE Z w k X (.cmp op a b):=.mk <|by
 intro ex sc σ st Kw v A F φ s env O c e rm R L;refine j4 (P:=λex=>K1 Z w A ex env F φ s v Kw) (λl r p c=>fZ c λhm c1 c2=>?_) c;exact oE e λx Kx e1 e=>oE e λy Ky e2 e=>yd (P:=λv t=>K1 Z w A _ env F φ s v t) e λu e3=>K1.cmpOf (dk hm) λQ hQ=>tN (ha.run c1 e1 rm R L).good (hb.then c2 e2 rm L) rm.one e3 hQ
theorem DS {t:C}{a b:E}(ht:SC Z w k X t)(ha:SE Z w k X a)(hb:SE Z w k X b):SE Z w k X (.ite t a b):=.mk <|by
 intro ex sc σ st Kw v A F φ s env O c e rm R L;refine vf (P:=λex=>K1 Z w A ex env F φ s v Kw) (λt' x y p c=>fZ c λc0 c1 c2=>.of rfl λQ hQ=>wpAny_IfExp ?_) c
 exact oC e (λKx e0 e=>ht.run c0 e0 rm R L _ λF1 Kz h1 tk S1 R1=>(ha.run (s:=sw s h1 tk) c1 e rm R1 (L.step S1)).good Q (KW.step hQ S1))
  λKx e0 e=>ht.run c0 e0 rm R L _ λF1 Kz h1 tk S1 R1=>(hb.run (s:=sw s h1 tk) c2 e rm R1 (L.step S1)).good Q (KW.step hQ S1)
theorem DT {es:List E}(he:Ng Z w k X es):SE Z w k X (.tup es):=.mk <|by
 intro ex sc σ st Kw v A F φ s env O c e rm R L;refine gF (P:=λex=>K1 Z w A ex env F φ s v Kw) (λxs q p c=>fZ c λc0 c1 c2=>?_) c;exact oL e λvs Kx e1 e=>oP (P:=λv t=>K1 Z w A _ env F φ s v t) e (.of rfl (mr (he.run c2 c1 e1 rm R L) (of_decide_eq_true c0) (fM c2 e1)))
theorem DU {m:Bool}{l:L}(hl:SL Z w k X l):SE Z w k X (.new m l):=.mk <|by
 intro ex sc σ st Kw v A F φ s env O c e rm R L;refine bV c λc0 c1=>.of c0 ?_;cases m
 ·exact oL e λvs Kx e1 e=>oP (P:=λv t=>Good Z w A _ F φ s v t) e ((hl.run c1 e1 rm R L).frozen R)
 ·exact oL e λvs Kx e1 e=>oP (P:=λv t=>Good Z w A _ F φ s v t) e ((hl.run c1 e1 rm R L).stored R)
theorem DV {a i:E}(ha:SE Z w k X a)(hb:SE Z w k X i):SE Z w k X (.sub a i):=.mk <|by
 intro ex sc σ st Kw v A F φ s env O c e rm R L;refine fJ (P:=λex=>K1 Z w A ex env F φ s v Kw) (λl r p c=>fZ c λc0 c1 c2=>?_) c;exact oE e λx Kx e1 e=>oE e λy Ky e2 e=>yd (P:=λv t=>K1 Z w A _ env F φ s v t) e λu e3=>.of rfl (tO (ha.run c1 e1 rm R L).good (hb.then c2 e2 rm L) c0 e3)
theorem Af {f:Nat}{args:List E}(he:Ng Z w k X args):SE Z w k X (.call f args):=.mk <|by
 intro ex sc σ st Kw v A F φ s env O c e rm R L;refine bZ (P:=λex=>K1 Z w A ex env F φ s v Kw) (λg as p c=>bn (P:=λg=>K1 Z w A (.Call g as [] p) env F φ s v Kw) (λp1 c=>oJ c λc0 c1 c2 c3=>?_) c) c;exact oL e λvs Kx e1 e=>.of rfl (vD hC G (he.run c3 c2 e1 rm R L) (fL c3 e1) R L rm.pre (of_decide_eq_true c0) c1 c2 e)
theorem vG {x:Nat}{args:List E}:SE Z w k X (.lcall x args):=.mk <|by
 intro ex sc σ st Kw v A F φ s env O c e rm R L;exact absurd c LU
theorem DW {e:E}:SE Z w k X (.frz e):=.mk <|by
 intro ex sc σ st Kw v A F φ s env O c e rm R L;exact absurd c LU
theorem Ag {f:Nat}{a:E}{args:List E}(ha:SE Z w k X a)(he:Ng Z w k X args):SE Z w k X (.meth f a args):=.mk <|by
 intro ex sc σ st Kw v A F φ s env O c e rm R L;refine bZ (P:=λex=>K1 Z w A ex env F φ s v Kw) (λg as p c=>dA (P:=λg=>K1 Z w A (.Call g as [] p) env F φ s v Kw) (λo ap c=>Bq c λh1 h2 h3 cb KY c1 c2 hl c3=>?_) c) c
 exact oE e λx Kx e1 e=>oI e λhr e=>oL e λvs Ky e2 e=>.of rfl (qN hC G (ha.run c1 e1 rm R L).good hr (λF1 Kz h1 tk S1 R1=>he.run (s:=sw s h1 tk) c3 c2 e2 rm R1 (L.step S1)) (fL c3 e2) rm.pre
  (of_decide_eq_true h1) (of_decide_eq_true h2) (bne_iff_ne.mp h3) cb KY c2 (of_decide_eq_true hl) e)
theorem Ah {a b:E}{m:Bool}(ha:SE Z w k X a)(hb:SE Z w k X b):SE Z w k X (.conv a b m):=.mk <|by
 intro ex sc σ st Kw v A F φ s env O c e rm R L
 refine mh (P:=λex=>K1 Z w A ex env F φ s v Kw) (λg as ks p c=>dA (P:=λg=>K1 Z w A (.Call g as ks p) env F φ s v Kw) (λo ap c=>dz (P:=λas=>K1 Z w A (.Call (.Attribute o (nm 36) ap) as ks p) env F φ s v Kw) (λx c=>
  Br (P:=λks=>K1 Z w A (.Call (.Attribute o (nm 36) ap) [x] ks p) env F φ s v Kw) (λy kp c=>ju (P:=λy=>K1 Z w A (.Call (.Attribute o (nm 36) ap) [x] [⟨some (nm 110),y,kp⟩] p) env F φ s v Kw) (λq p2 c=>qF c λcb KY c1 ns c2=>?_) c) c) c) c) c
 exact oE e λx' Kx e1 e=>oI e λhr e=>oE e λy Ky e2 e=>.of rfl (qV hC G (ha.run c1 e1 rm R L).good hr (hb.then c2 e2 rm L) rm.pre cb KY ns e)
theorem Je {b:Bi}{args:List E}(he:Ng Z w k X args):SE Z w k X (.bi b args):=.mk <|by
 intro ex sc σ st Kw v A F φ s env O c e rm R L;refine bZ (P:=λex=>K1 Z w A ex env F φ s v Kw) (λg as p c=>bn (P:=λg=>K1 Z w A (.Call g as [] p) env F φ s v Kw) (λp1 c=>fZ c λc1 c2 c3=>?_) c) c;exact oL e λvs Kx e1 e=>.of rfl (o7 (id:=0) G (he.run c3 c2 e1 rm R L) (fL c3 e1) R L rm.one c1 c2 e)
theorem Jf {m:Sm}{a:E}{args:List E}(ha:SE Z w k X a)(he:∀ b,b∈args->SE Z w k X b):SE Z w k X (.sm m a args):=.mk <|by
 intro ex sc σ st Kw v A F φ s env O c e rm R L;refine bZ (P:=λex=>K1 Z w A ex env F φ s v Kw) (λg as p c=>dA (P:=λg=>K1 Z w A (.Call g as [] p) env F φ s v Kw) (λo ap c=>yI c λcb KY c1 c2 hl c3=>?_) c) c;refine oE e λx Kx e1 e=>oI e λhr e=>oL e λvs Ky e2 e4=>?_
 cases args with
 |nil=>
  cases isEmpty_iff.mp c3;exact oP (P:=λvs Ky=>jM Ky m x vs=some (v,Kw)->_) e2 (λe=>.of rfl (tP (ha.run c1 e1 rm R L).good cb KY e)) e4
 |cons b bs=>
  revert hl c2;refine bD (P:=λas=>as.all aB=true->decide (as.length<2)=true->K1 Z w A (.Call (.Attribute o (ky m) ap) as [] p) env F φ s v Kw) (λy ys c3 c2 hl=>bV c3 λd3 d4=>?_) c3
  cases ys with
  |cons _ _=>exact absurd (of_decide_eq_true hl) (λh=>Nat.not_lt_zero _ (Nat.lt_of_succ_lt_succ (Nat.lt_of_succ_lt_succ h)))
  |nil=>
   cases bs with
   |cons _ _=>exact absurd d4 LU
   |nil=>
    refine oE e2 λz K4 e3 e2=>?_;exact oP (P:=λvs Ky=>jM Ky m x vs=some (v,Kw)->_) e2 (λe=>.of rfl (tR (ha.run c1 e1 rm R L).good hr ((he b List.mem_cons_self).then d3 e3 rm L) (bC c2).1 rm.one cb KY e)) e4
theorem Ai {a:E}{i:Nat}(ha:SE Z w k X a):SE Z w k X (.attr a i):=.mk <|by
 intro ex sc σ st Kw v A F φ s env O c e rm R L;refine dA (P:=λex=>K1 Z w A ex env F φ s v Kw) (λo p c=>fZ c λhi cb c1=>?_) c;exact oE e λx Kx e1 e=>yd (P:=λv t=>K1 Z w A _ env F φ s v t) e λu e3=>.of rfl (qO G (ha.run c1 e1 rm R L).good (of_decide_eq_true hi) cb e3)
theorem vH {b:Bool}:SE Z w k X (.cattr b):=.mk <|by
 intro ex sc σ st Kw v A F φ s env O c e rm R L;exact dA (P:=λex=>K1 Z w A ex env F φ s v Kw) (λo p c=>bn (P:=λo=>K1 Z w A (.Attribute o _ p) env F φ s v Kw) (λp1 c=>oP (P:=λv t=>K1 Z w A _ env F φ s v t) e (.of rfl (pk G R L c))) c) c
theorem Aj {a:E}{t:Ty}{neg:Bool}(ha:SE Z w k X a):SE Z w k X (.isTy a t neg):=.mk <|by
 intro ex sc σ st Kw v A F φ s env O c e rm R L
 refine j4 (P:=λex=>K1 Z w A ex env F φ s v Kw) (λl y p c=>bZ (P:=λl=>K1 Z w A (.Compare l [iV neg] [y] p) env F φ s v Kw) (λg as p2 c=>bn (P:=λg=>K1 Z w A (.Compare (.Call g as [] p2) [iV neg] [y] p) env F φ s v Kw) (λp1 c=>
  dz (P:=λas=>K1 Z w A (.Compare (.Call (.Name (nm 184) p1) as [] p2) [iV neg] [y] p) env F φ s v Kw) (λx c=>bn (P:=λy=>K1 Z w A (.Compare (.Call (.Name (nm 184) p1) [x] [] p2) [iV neg] [y] p) env F φ s v Kw) (λp3 c=>oJ c λc1 c2 ns c3=>?_) c) c) c) c) c
 exact oE e λy Kx e1 e=>yd (P:=λv t=>K1 Z w A _ env F φ s v t) e λu e3=>K1.cmpOf (by cases neg<;>rfl) λQ hQ=>qR G R L c1 c2 ns (ha.run c3 e1 rm R L).good e3 hQ
theorem vI {a:E}{neg:Bool}(ha:SE Z w k X a):SE Z w k X (.isNon a neg):=.mk <|by
 intro ex sc σ st Kw v A F φ s env O c e rm R L;refine j4 (P:=λex=>K1 Z w A ex env F φ s v Kw) (λl y p c=>ju (P:=λy=>K1 Z w A (.Compare l [iV neg] [y] p) env F φ s v Kw) (λq p3 c=>?_) c) c;exact oE e λy Kx e1 e=>oP (P:=λv t=>K1 Z w A _ env F φ s v t) e (K1.cmpOf (by cases neg<;>rfl) λQ hQ=>o8 (r:=l) G (ha.run c e1 rm R L).good hQ)
theorem vJ {a:E}{neg:Bool}(ha:SE Z w k X a):SE Z w k X (.isTru a neg):=.mk <|by
 intro ex sc σ st Kw v A F φ s env O c e rm R L;refine j4 (P:=λex=>K1 Z w A ex env F φ s v Kw) (λl y p c=>ju (P:=λy=>K1 Z w A (.Compare l [iV neg] [y] p) env F φ s v Kw) (λq p3 c=>?_) c) c;exact oE e λy Kx e1 e=>uV (P:=λy=>aa X a σ st=some (y,Kx)->_) (λb e e1=>oP (P:=λv t=>K1 Z w A _ env F φ s v t) e (K1.cmpOf (by cases neg<;>rfl) λQ hQ=>o9 (ha.run c e1 rm R L).good hQ)) e e1
theorem DX {b:Bool}:SE Z w k X (.rxg b):=.mk <|by
 intro ex sc σ st Kw v A F φ s env O c e rm R L;exact bn (P:=λex=>K1 Z w A ex env F φ s v Kw) (λp c=>oP (P:=λv t=>K1 Z w A _ env F φ s v t) e (.of rfl (tS G R L c))) c
theorem DY:SE Z w k X .dbg:=.mk <|by
 intro ex sc σ st Kw v A F φ s env O c e rm R L;exact bn (P:=λex=>K1 Z w A ex env F φ s v Kw) (λp c=>oP (P:=λv t=>K1 Z w A _ env F φ s v t) e (.of rfl (t8 R))) c
theorem Ak {x:Nat}:SE Z w k X (.flag x):=.mk <|by
 intro ex sc σ st Kw v A F φ s env O c e rm R L
 refine bZ (P:=λex=>K1 Z w A ex env F φ s v Kw) (λg as p c=>dA (P:=λg=>K1 Z w A (.Call g as [] p) env F φ s v Kw) (λo ap c=>bn (P:=λo=>K1 Z w A (.Call (.Attribute o (nm 43) ap) as [] p) env F φ s v Kw) (λp1 c=>
  kG (P:=λas=>K1 Z w A (.Call (.Attribute (.Name (nm 54) p1) (nm 43) ap) as [] p) env F φ s v Kw) (λy z c=>bn (P:=λy=>K1 Z w A (.Call (.Attribute (.Name (nm 54) p1) (nm 43) ap) [y,z] [] p) env F φ s v Kw) (λp2 c=>
  bZ (P:=λz=>K1 Z w A (.Call (.Attribute (.Name (nm 54) p1) (nm 43) ap) [.Name (nm x) p2,z] [] p) env F φ s v Kw) (λg2 Pq p5 c=>bn (P:=λg2=>K1 Z w A (.Call (.Attribute (.Name (nm 54) p1) (nm 43) ap) [.Name (nm x) p2,.Call g2 Pq [] p5] [] p) env F φ s v Kw) (λp3 c=>
  dz (P:=λPq=>K1 Z w A (.Call (.Attribute (.Name (nm 54) p1) (nm 43) ap) [.Name (nm x) p2,.Call (.Name (nm 187) p3) Pq [] p5] [] p) env F φ s v Kw) (λu c=>bn (P:=λu=>K1 Z w A (.Call (.Attribute (.Name (nm 54) p1) (nm 43) ap) [.Name (nm x) p2,.Call (.Name (nm 187) p3) [u] [] p5] [] p) env F φ s v Kw) (λp4 c=>
  oJ c λc1 KY c2 hx=>?_) c) c) c) c) c) c) c) c) c
 exact oA e λy e1 e=>eV (P:=λy=>af σ x=some y->_) (λi e e1=>yd (P:=λv t=>K1 Z w A _ env F φ s v t) e λu e3=>.of rfl (qU G R L rm.one c1 c2 (bne_iff_ne.mp hx) KY e1 e3)) e e1
theorem Al:SE Z w k X .dlim:=.mk <|by
 intro ex sc σ st Kw v A F φ s env O c e rm R L;exact bn (P:=λex=>K1 Z w A ex env F φ s v Kw) (λp c=>oP (P:=λv t=>K1 Z w A _ env F φ s v t) e (.of rfl (qP G R L c))) c
theorem Am {es:List E}(he:Ng Z w k X es):SL Z w k X (.list es):=.mk <|by
 intro ex sc σ st Kw vs A F φ s env O c e rm R L;exact oO (P:=λex=>KN Z w A (eval ex env) F φ s vs Kw) (λxs p c=>fZ c λc0 c1 c2=>qM (he.run c2 c1 e rm R L) (of_decide_eq_true c0) (fM c2 e)) c
theorem DZ {a b:E}(ha:SE Z w k X a)(hb:SE Z w k X b):SL Z w k X (.cat a b):=.mk <|by
 intro ex sc σ st Kw vs A F φ s env O c e rm R L;refine iy (P:=λex=>KN Z w A (eval ex env) F φ s vs Kw) (λl r p c=>bV c λc1 c2=>?_) c;exact oE e λx Kx e1 e=>oE e λy Ky e2 e=>oV e λxs q1 e=>oV e λys q2 e=>oI e λhl e=>oP (P:=λv t=>KN Z w A _ F φ s v t) e (tW (ha.run c1 e1 rm R L).good (hb.then c2 e2 rm L) q1 q2 hl)
theorem D0 {a n:E}(ha:SE Z w k X a)(hb:SE Z w k X n):SL Z w k X (.rep a n):=.mk <|by
 intro ex sc σ st Kw vs A F φ s env O c e rm R L;refine iy (P:=λex=>KN Z w A (eval ex env) F φ s vs Kw) (λl r p c=>oO (P:=λl=>KN Z w A (eval (.BinOp l .Mult r p) env) F φ s vs Kw) (λxs p2 c=>dz (P:=λxs=>KN Z w A (eval (.BinOp (.List xs p2) .Mult r p) env) F φ s vs Kw) (λx c=>fZ c λns c1 c2=>?_) c) c) c;exact oE e λy Kx e1 e=>oE e λz Ky e2 e=>eV (P:=λz=>aa X n σ Kx=some (z,Ky)->_) (λi e e2=>oI e λhl e=>oP (P:=λv t=>KN Z w A _ F φ s v t) e (tX R ns (ha.run c1 e1 rm R L).good (hb.then c2 e2 rm L) hl)) e e2
theorem An {a b:E}{tg:Tg}{ifs:List C}{cap:List Nat}(ha:SE Z w k X a)(hb:SE Z w k X b)(hi:N6 Z w k X ifs):SL Z w k X (.comp a tg b ifs cap):=.mk <|by
 intro ex sc σ st Kw vs A F φ s env O c e rm R L;refine oQ (P:=λex=>KN Z w A (eval ex env) F φ s vs Kw) (λx gs scope p c=>dz (P:=λgs=>KN Z w A (eval (.ListComp x gs scope p) env) F φ s vs Kw) (λg c=>gG (P:=λg=>KN Z w A (eval (.ListComp x [g] scope p) env) F φ s vs Kw) (λt it cs c=>yI c λc0 c1 c2 c3 c4 c5=>?_) c) c) c
 exact oE e λv Kx e1 e=>oV e λxs q1 e=>oI e λhl e=>tM rm.hd (iE c0) c2 c1 q1 hl (hb.run c3 e1 rm R L).good
  (λ{KA} {st} {Kw} {b} {s1} {F1} {Kz} {KG} {O1} e R1 L1=>hi.run c5 e rm R1 L1) (λ{KA} {st} {Kw} {y} {s1} {F1} {Kz} {KG} {O1} e R1 L1=>(ha.run c4 e rm R1 L1).good) R L e
theorem vK {a b d:E}{tg LV:Tg}{cap:List Nat}(ha:SE Z w k X a)(hb:SE Z w k X b)(hd:SE Z w k X d):SL Z w k X (.comp2 a tg b LV d cap):=.mk <|by
 intro ex sc σ st Kw vs A F φ s env O c e rm R L
 refine oQ (P:=λex=>KN Z w A (eval ex env) F φ s vs Kw) (λx gs scope p c=>kG (P:=λgs=>KN Z w A (eval (.ListComp x gs scope p) env) F φ s vs Kw) (λg g2 c=>gG (P:=λg=>KN Z w A (eval (.ListComp x [g,g2] scope p) env) F φ s vs Kw) (λt it cs c=>
  kE (P:=λcs=>KN Z w A (eval (.ListComp x [⟨t,it,cs,0⟩,g2] scope p) env) F φ s vs Kw) (λc=>gG (P:=λg2=>KN Z w A (eval (.ListComp x [⟨t,it,[],0⟩,g2] scope p) env) F φ s vs Kw) (λt2 Lh Oa c=>
  kE (P:=λOa=>KN Z w A (eval (.ListComp x [⟨t,it,[],0⟩,⟨t2,Lh,Oa,0⟩] scope p) env) F φ s vs Kw) (λc=>Bq c λc0 n1 n2 Qa NY dj c3 c4 c5=>?_) c) c) c) c) c) c
 exact oE e λv Kx e1 e=>oV e λxs q1 e=>oL e λzs Me q2 e=>oI e λhl e=>oP (P:=λv t=>KN Z w A _ F φ s v t) e (qL rm.hd (iE c0) Qa NY n1 n2 dj q1 (hb.run c3 e1 rm R L).good
  (λ{KA} {st} {Kw} {y} {s1} {F1} {Kz} {KG} {O1} e R1 L1=>(hd.run c4 e rm R1 L1).good) (λ{KA} {st} {Kw} {y} {s1} {F1} {Kz} {KG} {O1} e R1 L1=>(ha.run c5 e rm R1 L1).good) R L q2 hl)
theorem D1 {a:E}(ha:SE Z w k X a):SL Z w k X (.rev a):=.mk <|by
 intro ex sc σ st Kw vs A F φ s env O c e rm R L
 refine fJ (P:=λex=>KN Z w A (eval ex env) F φ s vs Kw) (λv sl p c=>iX (P:=λsl=>KN Z w A (eval (.Subscript v sl p) env) F φ s vs Kw) (λl u t p2 c=>dM (P:=λl=>KN Z w A (eval (.Subscript v (.Slice l u t p2) p) env) F φ s vs Kw) (λc=>
  dM (P:=λu=>KN Z w A (eval (.Subscript v (.Slice none u t p2) p) env) F φ s vs Kw) (λc=>gf (P:=λt=>KN Z w A (eval (.Subscript v (.Slice none none t p2) p) env) F φ s vs Kw) (λy c=>
  vg (P:=λy=>KN Z w A (eval (.Subscript v (.Slice none none (some y) p2) p) env) F φ s vs Kw) (λz p3 c=>ju (P:=λz=>KN Z w A (eval (.Subscript v (.Slice none none (some (.UnaryOp .USub z p3)) p2) p) env) F φ s vs Kw) (λq p4 c=>?_) c) c) c) c) c) c) c
 exact oE e λx Kx e1 e=>oV e λxs q1 e=>oI e λhl e=>oP (P:=λv t=>KN Z w A _ F φ s v t) e (tY (ha.run c e1 rm R L).good q1 hl)
theorem Ao {a b:E}(ha:SE Z w k X a)(hb:SE Z w k X b):SL Z w k X (.drop a b):=.mk <|by
 intro ex sc σ st Kw vs A F φ s env O c e rm R L
 refine fJ (P:=λex=>KN Z w A (eval ex env) F φ s vs Kw) (λv sl p c=>iX (P:=λsl=>KN Z w A (eval (.Subscript v sl p) env) F φ s vs Kw) (λl u t p2 c=>gf (P:=λl=>KN Z w A (eval (.Subscript v (.Slice l u t p2) p) env) F φ s vs Kw) (λy c=>
  dM (P:=λu=>KN Z w A (eval (.Subscript v (.Slice (some y) u t p2) p) env) F φ s vs Kw) (λc=>dM (P:=λt=>KN Z w A (eval (.Subscript v (.Slice (some y) none t p2) p) env) F φ s vs Kw) (λc=>bV c λc1 c2=>?_) c) c) c) c) c
 exact oE e λx Kx e1 e=>oE e λz Ky e2 e=>eV (P:=λz=>aa X b σ Kx=some (z,Ky)->_) (λi e e2=>oV e λxs q1 e=>oI e λhl e=>oP (P:=λv t=>KN Z w A _ F φ s v t) e (bV hl λh1 h2=>qS (ha.run c1 e1 rm R L).good (hb.then c2 e2 rm L) q1 (of_decide_eq_true h1).1 (of_decide_eq_true h2))) e e2
theorem r5 {a:E}(ha:SE Z w k X a):SL Z w k X (.sorted a):=.mk <|by
 intro ex sc σ st Kw vs A F φ s env O c e rm R L;refine bZ (P:=λex=>KN Z w A (eval ex env) F φ s vs Kw) (λg as p c=>bn (P:=λg=>KN Z w A (eval (.Call g as [] p) env) F φ s vs Kw) (λp1 c=>dz (P:=λas=>KN Z w A (eval (.Call (.Name (nm 181) p1) as [] p) env) F φ s vs Kw) (λx c=>fZ c λc1 ns c2=>?_) c) c) c;exact oE e λy Kx e1 e=>uU (P:=λy=>aa X a σ st=some (y,Kx)->_) (λxs e e1=>oN e λl q1 e=>oI e λhl e=>oP (P:=λv t=>KN Z w A _ F φ s v t) e (nr G R L c1 ns (ha.run c2 e1 rm R L).good q1 hl)) e e1
theorem vL {a b:E}(ha:SE Z w k X a)(hb:SE Z w k X b):SL Z w k X (.split a b):=.mk <|by
 intro ex sc σ st Kw vs A F φ s env O c e rm R L;refine bZ (P:=λex=>KN Z w A (eval ex env) F φ s vs Kw) (λg as p c=>dA (P:=λg=>KN Z w A (eval (.Call g as [] p) env) F φ s vs Kw) (λo ap c=>dz (P:=λas=>KN Z w A (eval (.Call (.Attribute o (nm 159) ap) as [] p) env) F φ s vs Kw) (λx c=>qF c λcb KY ns c1 c2=>?_) c) c) c;refine oE e λy Kx e1 e=>mU (P:=λy=>aa X a σ st=some (y,Kx)->_) (λq e e1=>oE e λy Ky e2 e=>mU (P:=λy=>aa X b σ Kx=some (y,Ky)->_) (λz e e2=>?_) e e2) e e1;split at e
 ·exact absurd e bg
 ·rename_i hl;simp only[Bool.or_eq_true,decide_eq_true_eq,not_or,not_lt,Bool.not_eq_true]at hl;exact oP (P:=λv t=>KN Z w A _ F φ s v t) e (pj (ha.run c1 e1 rm R L).good (hb.then c2 e2 rm L) ns cb KY hl.1.1 hl.1.2 hl.2)
theorem D2 {t:E}(ha:SE Z w k X t):SC Z w k X (.val t):=.mk <|by
 intro ex sc σ st Kw b A F φ s env O c e rm R L;refine bV c λc0 c1=>oE e λv Kx e1 e=>yd (P:=λv t=>dL Z w A _ F φ s v t) e λu e3=>?_;have g:=ha.run c1 e1 rm R L
 cases hn:nf ex with
 |true=>
  rw[hn,Bool.not_true,Bool.or_false]at c0;exact λQ hQ=>wpAny_isTrue_value (g.good _ λF1 Kz v' h1 tk S1 R1 V1=>oi (s:=sw s h1 tk) e3 R1 V1 λKR=>hQ F1 Kz h1 KR S1 R1) (vE c0)
 |false=>
  refine ak (g.cmp hn (eval ex env)) λb hb gb=>?_;subst hb;exact K7 e3▸gb
theorem D3 {a b:C}(ha:SC Z w k X a)(hb:SC Z w k X b):SC Z w k X (.and a b):=.mk <|by
 intro ex sc σ st Kw b A F φ s env O c e rm R L;refine oR (P:=λex=>dL Z w A (isTrue ex env (eval ex env)) F φ s b Kw) (λxs p c=>kG (P:=λxs=>dL Z w A (isTrue (.BoolOp .And xs p) env (eval (.BoolOp .And xs p) env)) F φ s b Kw) (λx y c=>bV c λc1 c2=>?_) c) c;refine oC e (λKx e1 e=>λQ hQ=>wpAny_isTrue_BoolOp (wpAny_allTrue_And_cons (ha.run c1 e1 rm R L _ λF1 Kz h1 tk S1 R1=>wpAny_allTrue_And_cons (hb.run (s:=sw s h1 tk) c2 e rm R1 (L.step S1) _ λF2 K3 h2 KR S2 R2=>?_)))) (λKx e1 e=>oP (P:=λb Kw=>dL Z w A (isTrue (.BoolOp .And [x,y] p) env (eval (.BoolOp .And [x,y] p) env)) F φ s b Kw) e λQ hQ=>wpAny_isTrue_BoolOp (wpAny_allTrue_And_cons (ha.run c1 e1 rm R L _ λF1 Kz h1 tk S1 R1=>hQ F1 Kz h1 tk S1 R1)));cases b
 ·exact hQ F2 K3 h2 KR (S1.trans S2) R2
 ·exact wpAny_allTrue_And_nil (hQ F2 K3 h2 KR (S1.trans S2) R2)
theorem Jg {a b:C}(ha:SC Z w k X a)(hb:SC Z w k X b):SC Z w k X (.or a b):=.mk <|by
 intro ex sc σ st Kw b A F φ s env O c e rm R L;refine oR (P:=λex=>dL Z w A (isTrue ex env (eval ex env)) F φ s b Kw) (λxs p c=>kG (P:=λxs=>dL Z w A (isTrue (.BoolOp .Or xs p) env (eval (.BoolOp .Or xs p) env)) F φ s b Kw) (λx y c=>bV c λc1 c2=>?_) c) c;refine oC e (λKx e1 e=>oP (P:=λb Kw=>dL Z w A (isTrue (.BoolOp .Or [x,y] p) env (eval (.BoolOp .Or [x,y] p) env)) F φ s b Kw) e λQ hQ=>wpAny_isTrue_BoolOp (wpAny_allTrue_Or_cons (ha.run c1 e1 rm R L _ λF1 Kz h1 tk S1 R1=>hQ F1 Kz h1 tk S1 R1))) (λKx e1 e=>λQ hQ=>wpAny_isTrue_BoolOp (wpAny_allTrue_Or_cons (ha.run c1 e1 rm R L _ λF1 Kz h1 tk S1 R1=>wpAny_allTrue_Or_cons (hb.run (s:=sw s h1 tk) c2 e rm R1 (L.step S1) _ λF2 K3 h2 KR S2 R2=>?_))));cases b
 ·exact wpAny_allTrue_Or_nil (hQ F2 K3 h2 KR (S1.trans S2) R2)
 ·exact hQ F2 K3 h2 KR (S1.trans S2) R2
theorem D4 {a:C}(ha:SC Z w k X a):SC Z w k X (.not a):=.mk <|by
 intro ex sc σ st Kw b A F φ s env O c e rm R L;refine vg (P:=λex=>dL Z w A (isTrue ex env (eval ex env)) F φ s b Kw) (λx p c=>?_) c;exact oB e λb Kx e1 e=>oP (P:=λv t=>dL Z w A _ F φ s v t) e λQ hQ=>wpAny_isTrue_Not (ha.run c e1 rm R L _ λF1 Kz h1 tk S1 R1=>hQ F1 Kz h1 tk S1 R1)
theorem Bv:Ng Z w k X []:=.mk <|by
 intro L8 sc σ st Kw vs A F φ s env O pos c hs e rm R L;exact isEmpty_iff.mp c▸oP (P:=λv t=>fW Z w A _ F φ s v t) e λQ hQ=>Calls.spliced_nil (hQ F φ [] s.heap s.toks (Step.refl ..) R .nil)
theorem qW {a:E}{es:List E}(ha:SE Z w k X a)(he:Ng Z w k X es):Ng Z w k X (a::es):=.mk <|by
 intro L8 sc σ st Kw vs A F φ s env O pos c hs e rm R L;revert hs;refine bD (P:=λL8=>L8.all aB=true->fW Z w A (spliced (backTo pos (starEach L8 env))) F φ s vs Kw) (λx xs c hs=>bV c λc1 c2=>bV hs λhs1 Py=>?_) c;refine oE e λv Kx e1 e=>oL e λws Ky e2 e=>oP e λQ hQ=>?_;rw[bk hs1];exact Calls.spliced_cons ((ha.run c1 e1 rm R L).good _ λF1 Kz v' h1 tk S1 R1 V1=>he.run (s:=sw s h1 tk) c2 Py e2 rm R1 (L.step S1) _ λF2 K3 KO h2 KR S2 R2 V2=>hQ F2 K3 _ h2 KR (S1.trans S2) R2 (.cons (V1.mono S2.le S2.pre) V2))
theorem vM:N6 Z w k X []:=.mk <|by
 intro L8 sc σ st Kw b A F φ s env O c e rm R L;exact isEmpty_iff.mp c▸oP (P:=λv t=>dL Z w A _ F φ s v t) e λQ hQ=>wpAny_pure (hQ F φ s.heap s.toks (Step.refl ..) R)
theorem qX {a:C}{cs:List C}(ha:SC Z w k X a)(he:N6 Z w k X cs):N6 Z w k X (a::cs):=.mk <|by
 intro L8 sc σ st Kw b A F φ s env O c e rm R L;refine bD (P:=λL8=>dL Z w A (fK L8 env) F φ s b Kw) (λx xs c=>bV c λc1 c2=>λQ hQ=>?_) c;unfold fK;rw[forIn_cons];refine wpAny_bind ?_;rw[if_pos rfl];refine wpAny_bind (oC e (λKx e1 e=>ha.run c1 e1 rm R L _ λF1 Kz h1 tk S1 R1=>wpAny_pure ?_) λKx e1 e=>ha.run c1 e1 rm R L _ λF1 Kz h1 tk S1 R1=>wpAny_pure ?_)
 ·exact he.run (s:=sw s h1 tk) c2 e rm R1 (L.step S1) Q λF2 K3 h2 KR S2 R2=>hQ F2 K3 h2 KR (S1.trans S2) R2
 ·exact vF xs _ Q (oP (P:=λb Kw=>(∀ F' KJ h' tk,Step F φ [] s.heap F' KJ h'->KD Z F' KJ Kw h'->Q b ⟨h',s.gens,s.drawn,tk,s.os⟩)->Q false ⟨h1,s.gens,s.drawn,tk,s.os⟩) e (λhQ=>hQ F1 Kz h1 tk S1 R1) hQ)
theorem Ap:∀ b,b∈([]:List E)->SE Z w k X b:=λ_ m=>absurd m not_mem_nil
theorem vN {a:E}{es:List E}(ha:SE Z w k X a)(he:∀ b,b∈es->SE Z w k X b):∀ b,b∈a::es->SE Z w k X b:=λb m=>(mem_cons.mp m).elim (λq=>q▸ha) (he b)
include hk hC G
theorem dG (e:E):SE Z w k X e:=e.rec (motive_1:=SE Z w k X) (motive_2:=SL Z w k X) (motive_3:=SC Z w k X) (motive_4:=λes=>Ng Z w k X es/\∀ b,b∈es->SE Z w k X b) (motive_5:=N6 Z w k X)
 (λ_ =>DM hC G )
 (λ_ =>DN hC G )
 (λ_ =>DO hC G )
 (λ_ =>Ae hC G )
 (DP hC G)
 (λ_ _ _ a b=>DQ hC G a b)
 (λ_ _ _ a b=>DR hC G a b)
 (λ_ _ _ c a b=>DS hC G c a b)
 (λ_ e=>DT hC G e.1)
 (λ_ _ a=>DU hC G a)
 (λ_ _ a b=>DV hC G a b)
 (λ_ _ e=>Af hC G e.1)
 (λ_ _ _=>vG hC G)
 (λ_ _ _ a e=>Ag hC G a e.1)
 (λ_ _ _ a b=>Ah hC G a b)
 (λ_ _ e=>Je hC G e.1)
 (λ_ _ _ a e=>Jf hC G a e.2)
 (λ_ _ a=>Ai hC G a)
 (λ_ =>vH hC G )
 (λ_ _=>DW hC G)
 (λ_ _ _ a=>Aj hC G a)
 (λ_ _ a=>vI hC G a)
 (λ_ _ a=>vJ hC G a)
 (λ_ =>DX hC G )
 (DY hC G)
 (λ_ =>Ak hC G )
 (Al hC G)
 (λ_ e=>Am hC G e.1)
 (λ_ _ a b=>DZ hC G a b)
 (λ_ _ a b=>D0 hC G a b)
 (λ_ _ _ _ _ a b i=>An hC G a b i)
 (λ_ _ _ _ _ _ a b d=>vK hC G a b d)
 (λ_ a=>D1 hC G a)
 (λ_ _ a b=>Ao hC G a b)
 (λ_ a=>r5 hC G a)
 (λ_ _ a b=>vL hC G a b)
 (λ_ a=>D2 hC G a)
 (λ_ _ a b=>D3 hC G a b)
 (λ_ _ a b=>Jg hC G a b)
 (λ_ a=>D4 hC G a)
 ⟨Bv hC G,Ap hC G⟩
 (λ_ _ a e=>⟨qW hC G a e.1,vN hC G a e.2⟩)
 (vM hC G)
 (λ_ _ a e=>qX hC G a e)
theorem t9 (e:C):SC Z w k X e:=e.rec (motive_1:=SE Z w k X) (motive_2:=SL Z w k X) (motive_3:=SC Z w k X) (motive_4:=λes=>Ng Z w k X es/\∀ b,b∈es->SE Z w k X b) (motive_5:=N6 Z w k X)
 (λ_ =>DM hC G )
 (λ_ =>DN hC G )
 (λ_ =>DO hC G )
 (λ_ =>Ae hC G )
 (DP hC G)
 (λ_ _ _ a b=>DQ hC G a b)
 (λ_ _ _ a b=>DR hC G a b)
 (λ_ _ _ c a b=>DS hC G c a b)
 (λ_ e=>DT hC G e.1)
 (λ_ _ a=>DU hC G a)
 (λ_ _ a b=>DV hC G a b)
 (λ_ _ e=>Af hC G e.1)
 (λ_ _ _=>vG hC G)
 (λ_ _ _ a e=>Ag hC G a e.1)
 (λ_ _ _ a b=>Ah hC G a b)
 (λ_ _ e=>Je hC G e.1)
 (λ_ _ _ a e=>Jf hC G a e.2)
 (λ_ _ a=>Ai hC G a)
 (λ_ =>vH hC G )
 (λ_ _=>DW hC G)
 (λ_ _ _ a=>Aj hC G a)
 (λ_ _ a=>vI hC G a)
 (λ_ _ a=>vJ hC G a)
 (λ_ =>DX hC G )
 (DY hC G)
 (λ_ =>Ak hC G )
 (Al hC G)
 (λ_ e=>Am hC G e.1)
 (λ_ _ a b=>DZ hC G a b)
 (λ_ _ a b=>D0 hC G a b)
 (λ_ _ _ _ _ a b i=>An hC G a b i)
 (λ_ _ _ _ _ _ a b d=>vK hC G a b d)
 (λ_ a=>D1 hC G a)
 (λ_ _ a b=>Ao hC G a b)
 (λ_ a=>r5 hC G a)
 (λ_ _ a b=>vL hC G a b)
 (λ_ a=>D2 hC G a)
 (λ_ _ a b=>D3 hC G a b)
 (λ_ _ a b=>Jg hC G a b)
 (λ_ a=>D4 hC G a)
 ⟨Bv hC G,Ap hC G⟩
 (λ_ _ a e=>⟨qW hC G a e.1,vN hC G a e.2⟩)
 (vM hC G)
 (λ_ _ a e=>qX hC G a e)
theorem D5:∀ cs:List C,N6 Z w k X cs:=by
 intro cs
 induction cs with
 |nil=>
  exact vM hC G
 |cons c cs ih=>
  exact qX hC G (t9 hk hC G c) (ih)
theorem Aq:∀ es:List E,Ng Z w k X es:=by
 intro es
 induction es with
 |nil=>
  exact Bv hC G
 |cons e es ih=>
  exact qW hC G (dG hk hC G e) (ih)
end
end
section
variable {p:Pos}{a:Addr}
theorem D6 {op:Operator}{i a b:Int}{t u:Tok}(R:KD Z F φ st s.heap)(f:∀ Q E,(∀ tk Mj,Q (.int i tk) { s with toks:=Mj })->aA w A (inplaceOp op (.int a t) (.int b u)) Q E s) :
  Good Z w A (inplaceOp op (.int a t) (.int b u)) F φ s (.int i) st:=Good.val R λQ h=>f Q aq λtk Mj=>h _ _ (.int _ _)
theorem ua {op:Operator}{a b r:Int}{t u:Tok}(e:augI op a b=some r)(R:KD Z F φ st s.heap):Good Z w A (inplaceOp op (.int a t) (.int b u)) F φ s (.int r) st:=by
 refine D6 R ?_;intro Q E h;have k {x:Int} {W:Prop} (e:some x=some r) (f:(∀ tk Mj,Q (.int x tk) { s with toks:=Mj })->W):W:=f (K7 e▸h)
 cases op with
 |Add=>exact k e λh=>P.iadd_int (h _ _)
 |Sub=>exact k e λh=>P.isub_int (h _ _)
 |Mult=>exact oI e λhm e=>k e λh=>P.imul_int (h _ _) (ku hm)
 |FloorDiv=>exact oI e λhm e=>k e λh=>PyProof.Rows.ifloordiv_int hm.1 (h _ _) (.inl hm.2)
 |LShift=>exact oI e λhm e=>k e λh=>PyProof.Rows.ilshift_int hm.1 hm.2 (h _ _)
 |RShift=>exact oI e λhm e=>k e λh=>PyProof.Rows.irshift_int hm.1 (h _ _)
 |BitOr=>exact k e λh=>PyProof.Rows.ior_int (h _ _)
 |BitXor=>exact k e λh=>PyProof.Rows.ixor_int (h _ _)
 |_=>exact absurd e bg
theorem mv {op:Operator}{x y v:AV}{vx vy:Value}(e:lN op x y=some v)(R:KD Z F φ st s.heap)(hx:VR F φ x vx)(hy:VR F φ y vy) :
  Good Z w A (inplaceOp op vx vy) F φ s v st:=
 cu (P:=λvx=>Good Z w A (inplaceOp op vx vy) F φ s v st) hx e λa t e=>cu (P:=λvy=>Good Z w A (inplaceOp op (.int a t) vy) F φ s v st) hy e λb u e=>
  oM (P:=λv=>Good Z w A (inplaceOp op (.int a t) (.int b u)) F φ s v st) e λr e=>ua e R
theorem qY {E:Value->Shared->Prop}{l:Addr}{items:Array Value}{n:Nat}{k:Int}{t:Tok}{v:Value}{Q:Unit->Shared->Prop}(ho:s.heap.get? l=some { cls:=.type "list",data:=.seq items n })
  (h0:0<=k) (OP:k<2^63) (hn:k<items.size)
  (hQ:∀ h' n',h'.get? l=some { cls:=.type "list",data:=.seq (items.setIfInBounds k.toNat v) n' }->Heap.SameBut l s.heap h'->Q () { s with heap:=h' }) :
  aA w A (setItem (.ref l) (.int k t) v) Q E s:=by
 have hT:s.TypeIs (.ref l) "list":=⟨_,ho,rfl⟩;unfold setItem;try with_reducible refine wpAny_holding ?_
 first |refine wpAny_bind (wpAny_pure ?_) |skip
 refine wpAny_bind (wpAny_sequenceKey hT (by decide) ?_)
 refine wpAny_bind (wpAny_callSpecial?_slot (name:=ofString "__setitem__") hT slot_list_setitem
  (wpAny_call_entry slot_list_setitem hT entry_list_setitem ?_ (args_list_setitem _ _ _)))
 show wpAny _ _ (Builtin.List.listSubscript? (.int k t)>>=_) _ _ s;refine wpAny_bind (wpAny_listSubscript_int (fitsIndex_of h0 OP) ?_);clear OP;refine aw (Int.eq_ofNat_of_zero_le h0) ?_;rintro j rfl;have hj:j<items.size:=by lia
 have hx':items[j]?=some items[j]:=Array.getElem?_eq_getElem hj;show wpAny _ _ ((seqItemAt l j>>=λr=>pure (r.map (j,·)))>>=_) _ _ s;refine wpAny_bind (wpAny_bind (wpAny_seqItemAt ho rfl (wpAny_pure ?_)));rw[hx'];show wpAny _ _ (setSeqItemAt l j v>>=_) _ _ s;have Nn:=get?_update_seq (h:=s.heap) (a:=l) (c:="list") (xs:=items) (n:=n) ho (·.setIfInBounds j v);refine wpAny_bind (wpAny_setSeqItemAt ho rfl ?_)
 first
  |exact wpAny_bind (wpAny_pure (wpAny_pure ⟨.none,rfl,wpAny_pure (hQ _ _ Nn (Heap.SameBut.update ..))⟩))
  |exact wpAny_pure ⟨.none,rfl,wpAny_pure (hQ _ _ Nn (Heap.SameBut.update ..))⟩
theorem pn {E:Value->Shared->Prop}{l sl lv:Addr}{arr items:Array Value}{n:Nat}{Q:Unit->Shared->Prop}(ho:s.heap.get? l=some { cls:=.type "list",data:=.seq arr n })(hv:s.heap.IsList lv items)(LO:l≠lv)
  (hs:s.heap.IsSliceOf sl .none .none .none) (Mk:items.size+arr.size<=1000000)
  (hQ:∀ h' n',h'.get? l=some { cls:=.type "list",data:=.seq items n' }->Heap.SameBut l s.heap h'->Q () { s with heap:=h' }) :
  aA w A (setItem (.ref l) (.ref sl) (.ref lv)) Q E s:=by
 have hT:s.TypeIs (.ref l) "list":=⟨_,ho,rfl⟩;refine cV (id hs) λos Pz LP Mz=>?_;obtain⟨ov,QS,OQ,nv,hdv⟩:=id hv;have QT:s.TypeIs (.ref sl) "slice":=⟨os,Pz,LP⟩;unfold setItem;try with_reducible refine wpAny_holding ?_
 first |refine wpAny_bind (wpAny_pure ?_) |skip
 refine wpAny_bind (wpAny_sequenceKey hT (by decide) ?_)
 refine wpAny_bind (wpAny_callSpecial?_slot (name:=ofString "__setitem__") hT slot_list_setitem
  (wpAny_call_entry slot_list_setitem hT entry_list_setitem ?_ (args_list_setitem _ _ _)))
 show wpAny _ _ (Builtin.List.listSubscript? (.ref sl)>>=_) _ _ s;refine wpAny_bind ?_;unfold Builtin.List.listSubscript?;refine wpAny_bind (wpAny_specialOf QT slice_no_index ?_);simp only[Option.isNone_none,if_true];refine wpAny_pure ?_;show wpAny _ _ (typeOf (.ref sl)>>=_) _ _ s;refine wpAny_bind (wpAny_typeOf QT ?_);rw[if_neg (by decide)];rw[listSliceParts_eq];refine wpAny_bind (wpAny_bind (wpAny_field Pz Mz (x:=.none) rfl (wpAny_bind (wpAny_listPart .none ?_))));rw[if_neg (show ¬ ((rawPart none==rawInt 0)=true) from LU)];refine wpAny_bind (wpAny_field Pz Mz (x:=.none) rfl (wpAny_bind (wpAny_listPart .none ?_)));refine wpAny_bind (wpAny_field Pz Mz (x:=.none) rfl (wpAny_bind (wpAny_listPart .none (wpAny_pure ?_))))
 have hsame:Builtin.List.listSameRef (.ref l) (.ref lv)=false:=by
  show(l==lv)=false;exact beq_eq_false_iff_ne.mpr LO
 dsimp only;rw[hsame,if_neg LU];refine wpAny_bind (m:=Builtin.List.listAllItems (.ref lv) _) ?_
 ·unfold Builtin.List.listAllItems;refine wpAny_bind (wpAny_typeOf ⟨ov,QS,OQ⟩ ?_);rw[if_pos (by decide)];refine listItems_at QS hdv ?_;refine wpAny_bind (m:=Builtin.List.listItems (.ref l)) (listItems_at ho rfl ?_);refine wpAny_bind (wpAny_of_eq (sliceIndices_raw none none none arr.size (by decide)) ?_);have hb:sliceBounds none none none arr.size=(0,(arr.size:Int),1):=rfl;rw[hb];dsimp only;rw[if_pos (by decide)];refine wpAny_bind (wpAny_rule ?_)
  have QU:Builtin.List.listTooLong (arr.size+items.size)=false:=by
   unfold Builtin.List.listTooLong;rw[sizeLine_eq];simp only[decide_eq_false_iff_not];exact not_lt.mpr (Q1 0xf4240514501101000000715401102 [_,_] Mk rfl)
  rw[QU,if_neg LU]
  have hf:arr.extract 0 (0:Int).toNat++items++arr.extract (max (0:Int) (arr.size:Int)).toNat arr.size=items:=by
   have:(max (0:Int) (arr.size:Int)).toNat=arr.size:=by exact Kd
   rw[this];simp
  have Nn:=get?_update_seq (h:=s.heap) (a:=l) (c:="list") (xs:=arr) (n:=n) ho (λxs=>xs.extract 0 (0:Int).toNat++items++xs.extract (max (0:Int) (arr.size:Int)).toNat xs.size);rw[hf]at Nn;refine wpAny_bind (listUpdate_at ho rfl ?_ (by rw[sizeLine_eq];exact Q1 0xf42405145011010000007141102 [_,_] Mk rfl) (by rw[hf,sizeLine_eq];exact Q1 0xf42405154011010000017141102 [_,_] Mk rfl));refine wpAny_bind (wpAny_letGo ?_);exact wpAny_bind (wpAny_pure (wpAny_pure ⟨.none,rfl,wpAny_pure (hQ _ _ Nn (Heap.SameBut.update ..))⟩))
theorem eA (y x:Str)(t:Tok)(h:Int)(v:Value)(r:List DictEntry):getL y (⟨h,.str x t,v⟩::r)=if y=x then some (some v) else getL y r:=by
 have k:∀ b:Bool,(x==y)=b->getL y (⟨h,.str x t,v⟩::r)=cond b (some (some v)) (getL y r):=λb e=>by
  show(match (match (x==y) with |true=>some (⟨h,.str x t,v⟩:DictEntry) |false=>r.find? (·.key.isStr y)) with |some e=>some (some e.val) |none=>if (false||r.any (·.refKey))=true then none else some none)=_;rw[e];cases b<;>rfl
 by_cases q:y=x
 ·exact(k true (beq_iff_eq.mpr q.symm)).trans (if_pos q).symm
 ·exact(k false (beq_eq_false_iff_ne.mpr λz=>q z.symm)).trans (if_neg q).symm
theorem po (name:Str)(K8:Int)(tok:Tok)(v:Value):∀ (es:List DictEntry),(∀ e∈es,∃ x t,e.key=.str x t)->∀ y,getL y (putL name K8 (.str name tok) v es)=if y=name then some (some v) else getL y es:=by
 intro es
 induction es with
 |nil=>
  intro _ y;exact eA ..
 |cons LK r ih=>
  obtain⟨h,k,w⟩:=LK;intro hk y;refine n6 (hk _ (.head _)) λx t ek=>?_;cases ek;by_cases q:x=name
  ·cases q;refine(congrArg (getL y) (if_pos (beq_self_eq_true _))).trans ((eA ..).trans ?_);rw[eA];by_cases z:y=name
   ·rw[if_pos z,if_pos z]
   ·rw[if_neg z,if_neg z,if_neg z]
  ·refine(congrArg (getL y) (if_neg λz=>q (beq_iff_eq.mp z))).trans ((eA ..).trans ?_);rw[ih (λe m=>hk e (.tail _ m)) y,eA];by_cases z:y=x
   ·rw[if_pos z,if_pos z,if_neg λz'=>q (z.symm.trans z')]
   ·rw[if_neg z,if_neg z]
theorem pq (name:Str)(K8:Int)(key v:Value):∀ es:List DictEntry,(putL name K8 key v es).length<=es.length+1:=by
 intro es
 induction es with
 |nil=>
  exact le_refl _
 |cons e r ih=>
  unfold putL;split
  ·simp
  ·have:=ih;simp only[length_cons];exact G7
theorem ub (name:Str)(K8:Int)(tok:Tok)(v:Value):∀ (es:List DictEntry),(∀ e∈es,∃ x t,e.key=.str x t)->∀ e∈putL name K8 (.str name tok) v es,∃ x t,e.key=.str x t:=by
 intro es
 induction es with
 |nil=>
  intro _;exact λe m=>mem_singleton.mp m▸⟨_,_,rfl⟩
 |cons e0 r ih=>
  intro hk;have h:=List.forall_mem_cons.mp hk;unfold putL;by_cases q:e0.key.isStr name=true
  ·rw[if_pos q];exact List.forall_mem_cons.mpr h
  ·rw[if_neg q];exact List.forall_mem_cons.mpr ⟨h.1,ih h.2⟩
set_option tactic.hygienic true in
theorem Bw {x C dx:Addr}{sl:Array (Option Value)}{es:List DictEntry}{n:Nat}{name:Str}{tk:Tok}{v:Value}{R:Result->Shared->Prop}(X:Z.K.In s.heap)(I:InstAt s.heap x ⟨.ref C,some dx,.plain,sl⟩ C (some (dictOf es n)))(D:s.heap.get? dx=some (dictOf es n))
  (hp:plainOver Z.K C=true) (ht:takerIn Z.K C name=some none) (hh:hasDictIn Z.K C=true) (hl:(getL name es).isSome=true) (hz:es.length<=900)
  (h:∀ h' n' K8 tok,h'.get? dx=some (dictOf (putL name K8 (.str name tok) v es) n')->Heap.SameBut dx s.heap h'->∀ tk,R (.ok (.ret .none)) ⟨h',s.gens,s.drawn,tk,s.os⟩) :
  codeAny (model aM w) A (.call (.builtin "object.__setattr__") ⟨[.ref x,.str name tk,v],[]⟩) R s:=by
 refine osa_open X I hp ht λb=>?_;refine ak (any_some (show(clsIn Z.K C).any (·.hasDict)=true from hh)) λcd hc hd'=>?_;obtain⟨hx,NZ,hn,-⟩:=I;refine wpAny_bind (wpAny_pure (wpAny_bind (wpAny_bind (wpAny_loadPart hx (wpAny_bind ((looks_clsIn X hc).here ?_))))));rw[hd'];refine wpAny_pure (a:=some dx) (wpAny_bind (wpAny_pure (wpAny_bind ?_)));unfold nsSet;refine wpAny_bind (wpAny_bind (wpAny_askSetting (wpAny_pure (wpAny_bind (wpAny_mkText (wpAny_bind (wpAny_loadPart D ?_)))))))
 have c:(!es.toArray.any (·.key.isStr name)&&es.toArray.any (·.refKey))=false:=by
  rw[← any_toList,← any_toList];unfold getL at hl;split at hl
  ·rename_i en he;rw[List.any_eq_true.mpr ⟨en,List.mem_of_find?_eq_some he,List.find?_some he⟩];rfl
  ·split at hl
   ·cases hl
   ·rename_i z;rw[Bool.not_eq_true]at z;rw[z,Bool.and_false]
 dsimp only[dictOf];rw[aRefKeyMayBeTheName_at,c];refine wpAny_updatePart D ?_
 have D':(s.heap.update dx (Obj.putName name (PyData.keyHash w.params name) (.str name s.toks) v)).get? dx=some (dictOf (putL name (PyData.keyHash w.params name) (.str name s.toks) v es) (putN name es n)):=by
  have h1:=((Heap.get?_eq_some s.heap dx _).mp D).1;exact(Heap.get?_eq_some _ _ _).mpr ⟨by rw[Heap.objs_update_self,h1,← putName_dict];rfl,rfl⟩
 refine wpAny_bind (wpAny_lookBehind D' (pastItsLine_dict (by
  have:=pq name (PyData.keyHash w.params name) (.str name s.toks) v es
  rw[size_toArray,sizeLine_eq];exact Q2 0x11150411038431511010000017141103 [_,_] hz this rfl)) ?_)
 exact wpAny_pure (h _ _ _ _ D' (Heap.SameBut.update ..) _)
theorem qZ {x C dx:Addr}{sl:Array (Option Value)}{es:List DictEntry}{n:Nat}{name:Str}{v:Value}{Q:Unit->Shared->Prop}(X:Z.K.In s.heap)(I:InstAt s.heap x ⟨.ref C,some dx,.plain,sl⟩ C (some (dictOf es n)))(D:s.heap.get? dx=some (dictOf es n))
  (hs:findIn Z.K (.ref C) "__setattr__"=some (some (.builtin "object.__setattr__"))) (hp:plainOver Z.K C=true) (ht:takerIn Z.K C name=some none) (hh:hasDictIn Z.K C=true) (hl:(getL name es).isSome=true) (hz:es.length<=900)
  (h:∀ h' n' K8 tok,h'.get? dx=some (dictOf (putL name K8 (.str name tok) v es) n')->Heap.SameBut dx s.heap h'->∀ tk,Q () ⟨h',s.gens,s.drawn,tk,s.os⟩) :
  aA w A (setAttr (.ref x) name v) Q aq s:=
 set_plain X I hs (Bw (s:={ s with toks:=s.toks+1 }) X I D hp ht hh hl hz h)
end
inductive FR (F:bf)(φ:List Addr):Fw->Flow->Prop
 |next:FR F φ .next .next
 |brk:FR F φ .brk .brk
 |ret {v:AV} {u:Value}:VR F φ v u->FR F φ (.ret v) (.ret u)
section
variable (Z:KX)(w:World)
noncomputable def Le (sc:Scope)(env:Env)(O:List Addr)(F:bf)(φ:List Addr)(s:Shared)(fl:Fw)(KA:Loc)(Kw:St)(Q:Flow->Shared->Prop):Prop:=
 ∀ F' KJ Lv h' tk,Step F φ O s.heap F' KJ h'->KD Z F' KJ Kw h'->KH F' KJ KA sc env O h'->FR F' KJ fl Lv->Q Lv ⟨h',s.gens,s.drawn,tk,s.os⟩
noncomputable def az (A:Around)(t:Sem Flow)(sc:Scope)(env:Env)(O:List Addr)(F:bf)(φ:List Addr)(s:Shared)(fl:Fw)(KA:Loc)(Kw:St):Prop:=
 ∀ Q:Flow->Shared->Prop,Le Z sc env O F φ s fl KA Kw Q->aA w A t Q aq s
structure Nh (A:Around)(I:Addr)(ys:List AV)(ok:St->Bool)(P:bf->List Addr->Heap->Nat->Prop):Prop where
 item:∀ {i:Nat} {x:AV} {F:bf} {φ:List Addr} {st:St} {s:Shared} {Q:Option Value->Shared->Prop},P F φ s.heap i->ys[i]?=some x->ok st=true->KD Z F φ st s.heap ->
  (∀ v' h1 tk,Heap.SameBut I s.heap h1->VR F φ x v'->P F φ h1 (i+1)->Q (some v') ⟨h1,s.gens,s.drawn,tk,s.os⟩)->aA w A (pyNext (.ref I)) Q aq s
 done:∀ {F:bf} {φ:List Addr} {st:St} {s:Shared} {Q:Option Value->Shared->Prop},P F φ s.heap ys.length->ok st=true->KD Z F φ st s.heap ->
  (∀ h1 tk,(∀ b o,b≠I->s.heap.get? b=some o->h1.get? b=some o)->Q none ⟨h1,s.gens,s.drawn,tk,s.os⟩)->aA w A (pyNext (.ref I)) Q aq s
 mono:∀ {i:Nat} {F F':bf} {φ KJ:List Addr} {h h':Heap},P F φ h i->Lp F F'->φ <+: KJ->(∀ o,h.get? I=some o->h'.get? I=some o)->P F' KJ h' i
 at_:∀ {i:Nat} {F:bf} {φ:List Addr} {h:Heap},P F φ h i->∃ o T,h.get? I=some o/\o.cls=.type T/\["enumerate","zip","dict_itemiterator","dict_reverseitemiterator","odict_iterator","itertools.zip_longest","itertools.pairwise"].contains T=false
end
section
variable {p:Pos}{a:Addr}
theorem Le.step {fl:Fw}{Q:Flow->Shared->Prop}{F1:bf}{Kz:List Addr}{h1:Heap}{tk:Nat}(hQ:Le Z sc env O F φ s fl KA Kw Q)(S:Step F φ O s.heap F1 Kz h1) :
  Le Z sc env O F1 Kz ⟨h1,s.gens,s.drawn,tk,s.os⟩ fl KA Kw Q:=λF' KJ Lv h' Mj S' R' L' f=>hQ F' KJ Lv h' Mj (S.trans S') R' L' f
theorem q0 {v:AV}{xs:List AV}(hh:A.handled=none)(e1:aF L9 v=some xs):Nh Z w A I xs (λst=>an st v xs) (λF φ h i=>MF F φ h I i v) where
 item:=λT hx hs R hQ=>ml (st:=_) e1 hs hx R T hQ
 done:=λT hs R hQ=>mn (st:=_) hh e1 hs rfl R T hQ
 mono:=λT hF hp k=>T.mono hF hp k
 at_:=λT=>T.at_
theorem kP {R:Result->Shared->Prop}{target:Expr}{it:Value}{body orelse:List Stmt}(Iv:Nat->Shared->Prop)
  (bW:∀ n s,Iv n s->aA w A (pyNext it) (λr KQ=>match r with
   |none=>aA w A (execs orelse env) (λf Lg=>R (.ok f) Lg) aq KQ
   |some v=>aA w A (letOwnedTupleGo target it v) (λ_ LD=>aA w A (assign target env v) (λ_ KV=>aA w A (execs body env) (λf Lg=>match f with
     |.next |.cont=>∃ m,m<n/\Iv m Lg
     |.brk=>R (.ok .next) Lg
     |.ret v=>R (.ok (.ret v)) Lg) aq KV) aq LD) aq KQ) aq s)
  (n:Nat) (h:Iv n s):codeAny (model aM w) A (.forLoop target it body orelse env) R s:=by
 refine codeAny_loop' rfl Iv (λn s hI=>?_) n h;show wpAny _ _ ((forTurn target it body orelse env).onRaise (λx=>do noteFrame x env;theTreesLotGoes x)) _ _ s;refine wpAny_noted ?_;simp only[forTurn];refine wpAny_bind (wpAny_standAt (wpAny_bind (wpAny_onRaise (wpAny_mono (bW n s hI) (λr KQ Lj=>?_) λ_ _ h'=>h'.elim))))
 cases r with
 |none=>exact wpAny_pure (.inr ⟨rfl,codeAny_block (o0 Lj)⟩)
 |some v=>
  refine wpAny_bind (wpAny_mono Lj (λ_ LD LZ=>?_) λ_ _ f=>f.elim);refine wpAny_bind (wpAny_mono LZ (λ_ KV Lq=>wpAny_bind (wpAny_mono Lq (λf Lg LJ=>?_) λ_ _ h'=>h'.elim)) λ_ _ h'=>h'.elim)
  cases f with
  |next=>exact wpAny_pure (.inl ⟨rfl,LJ⟩)
  |cont=>exact wpAny_pure (.inl ⟨rfl,LJ⟩)
  |brk=>exact wpAny_pure LJ
  |ret v=>exact wpAny_pure LJ
theorem oF {o:Rs}{kn kb:Loc->St->Rs}{kr:AV->Loc->St->Rs}{r:Fw×Loc×St}{P:Prop}(e:(match o with
 |some (.next,a,b)=>kn a b
 |some (.brk,a,b)=>kb a b
 |some (.ret u,a,b)=>kr u a b
 |none=>none)=some r) (f:∀ a b,o=some (.next,a,b)->kn a b=some r->P) (g:∀ a b,o=some (.brk,a,b)->kb a b=some r->P) (h:∀ u a b,o=some (.ret u,a,b)->kr u a b=some r->P):P:=
 match o,e,f,g,h with
 |some (.next,_,_),e,f,_,_=>f _ _ rfl e
 |some (.brk,_,_),e,_,g,_=>g _ _ rfl e
 |some (.ret _,_,_),e,_,_,h=>h _ _ _ rfl e
 |none,e,_,_,_=>absurd e bg
noncomputable def FK (ok:St->Bool)(f:AV->Loc->St->Rs)(r:List AV)(e:Rs)(OS:Fw)(KC:Loc)(Kx:St):Prop:=match OS with
 |.next=>bc ok f r KC Kx=e
 |.brk=>some (.brk,KC,Kx)=e
 |.ret u=>some (.ret u,KC,Kx)=e
theorem q6 {ok:St->Bool}{f:AV->Loc->St->Rs}{v:AV}{r:List AV}{fl:Fw}{P:Prop}(e:bc ok f (v::r) σ st=some (fl,KA,Kw))(k:ok st=true->∀ OS KC Kx,f v σ st=some (OS,KC,Kx)->FK ok f r (some (fl,KA,Kw)) OS KC Kx->P):P:=
 oI e λh e=>oF e (λa b q e=>k h _ a b q e) (λa b q e=>k h _ a b q e) (λu a b q e=>k h _ a b q e)
inductive OT (Z:KX)(sc:Scope)(env:Env)(O:List Addr)(I:Addr)(hb:Heap)(F0:bf)(φ0:List Addr)(s0:Shared)(ys:List AV)(P:bf->List Addr->Heap->Nat->Prop)(go:List AV->Loc->St->Prop):Nat->Shared->Prop
 |mk {i:Nat} {F1:bf} {Kz:List Addr} {KC:Loc} {Kx:St} {h1:Heap} {tk:Nat}:i<=ys.length->Step F0 φ0 O hb F1 Kz h1->K0 F1 Kz h1 I->KD Z F1 Kz Kx h1->KH F1 Kz KC sc env O h1->P F1 Kz h1 i->go (ys.drop i) KC Kx->OT Z sc env O I hb F0 φ0 s0 ys P go (ys.length-i) ⟨h1,s0.gens,s0.drawn,tk,s0.os⟩
inductive OU (Z:KX)(sc:Scope)(env:Env)(O:List Addr)(hb:Heap)(F0:bf)(φ0:List Addr)(s0:Shared)(go:Nat->Loc->St->Prop):Nat->Shared->Prop
 |mk {n:Nat} {F1:bf} {Kz:List Addr} {KC:Loc} {Kx:St} {h1:Heap} {tk:Nat}:Step F0 φ0 O hb F1 Kz h1->KD Z F1 Kz Kx h1->KH F1 Kz KC sc env O h1->go n KC Kx->OU Z sc env O hb F0 φ0 s0 go n ⟨h1,s0.gens,s0.drawn,tk,s0.os⟩
theorem r6 {t:Expr}{body orelse:List Stmt}{ys:List AV}{ok:St->Bool}{P:bf->List Addr->Heap->Nat->Prop}{f:AV->Loc->St->Rs}{fl:Fw}{R:Result->Shared->Prop}
  (it:Nh Z w A I ys ok P)
  (K2:∀ {x:AV} {KC:Loc} {Kx:St} {fl:Fw} {K5:Loc} {Ky:St} {F1:bf} {Kz:List Addr} {s1:Shared} {Q:Flow->Shared->Prop} {v':Value},f x KC Kx=some (fl,K5,Ky)->KD Z F1 Kz Kx s1.heap->KH F1 Kz KC sc env O s1.heap->VR F1 Kz x v' ->
   Le Z sc env O F1 Kz s1 fl K5 Ky Q->aA w A (assign t env v') (λ_ KV=>aA w A (execs body env) Q aq KV) aq s1)
  (R0:KD Z F φ st s.heap) (L0:KH F φ σ sc env O s.heap) (T0:P F φ s.heap 0) (pI:K0 F φ s.heap I) (nI:I∉env.locals::env.cells.map (·.2))
  (e:bc ok f ys σ st=some (fl,KA,Kw)) (S0:Step F0 φ0 O hb F φ s.heap) (bI:hb.get? I=none)
  (hR:∀ F' KJ Lv h' tk,Step F0 φ0 O hb F' KJ h'->KD Z F' KJ Kw h'->KH F' KJ KA sc env O h'->FR F' KJ fl Lv ->
   match fl with
   |.next=>aA w A (execs orelse env) (λf Lg=>R (.ok f) Lg) aq ⟨h',s.gens,s.drawn,tk,s.os⟩
   |.brk=>R (.ok .next) ⟨h',s.gens,s.drawn,tk,s.os⟩
   |.ret _=>R (.ok Lv) ⟨h',s.gens,s.drawn,tk,s.os⟩) :
  codeAny (model aM w) A (.forLoop t (.ref I) body orelse env) R s:=by
 refine kP (OT Z sc env O I hb F0 φ0 s ys P (λr KC Kx=>bc ok f r KC Kx=some (fl,KA,Kw))) ?_ ys.length (.mk (i:=0) (zero_le _) S0 pI R0 L0 T0 e);intro n s' inv
 cases inv with
 |@mk i F1 Kz KC Kx h1 tk hi S1 M5 R1 L1 T1 ec=>
 by_cases LC:i<ys.length
 ·rw[List.drop_eq_getElem_cons LC]at ec;refine q6 ec λhok OS K5 Ky ef OM=>?_;refine it.item (s:=sw s h1 tk) T1 (getElem?_eq_getElem LC) hok R1 λv' h2 KR k2 hv T2=>?_;refine cP (it.at_ T2) λo T q1 q2 q3=>?_;have S2:Step F1 Kz [I] h1 F1 Kz h2:=Step.own1 (.head _) k2 ⟨o,q1⟩;have ON:=M5.step S2;have Ma:Step F0 φ0 O hb F1 Kz h2:=S1.hide S2 λb m=>by cases m with |head=>exact bI |tail _ m=>cases m
  refine gW (s:=sw s h2 KR) q1 q2 q3 ?_;refine K2 (s1:=⟨h2,s.gens,s.drawn,KR,s.os⟩) ef (R1.own1 M5.f M5.p M5.t1 M5.t2 k2) (L1.keep λb m o e=>(k2.2 b λz=>nI (z▸m)).trans e) hv λF3 Ms fl3 h3 Lc S3 R3 L3 f3=>?_;have NA:=Ma.trans S3
  cases f3 with
  |next=>exact⟨_,Nat.sub_lt_sub_left LC (lt_succ_self i),.mk LC NA (ON.step S3) R3 L3 (it.mono T2 S3.le S3.pre λo e=>ON.kept S3 (λm=>nI (L3.subO I m)) e) OM⟩
  |brk=>
   cases OM;exact hR F3 Ms .brk h3 Lc NA R3 L3 .brk
  |ret Qb=>
   cases OM;exact hR F3 Ms _ h3 Lc NA R3 L3 (.ret Qb)
 ·cases le_antisymm hi (Nat.le_of_not_lt LC);rw[List.drop_eq_nil_of_le (le_refl _)]at ec;refine oI ec λhok ec=>?_;cases ec
  exact it.done (s:=sw s h1 tk) T1 hok R1 λh2 KR k2=>
   hR F1 Kz .next h2 KR (S1.hide' k2 bI) (R1.but M5 k2) (L1.keep λb m o e=>k2 b o (λz=>nI (z▸m)) e) .next
theorem yL {test:Expr}{body:List Stmt}{c:Loc->St->Option (Bool×St)}{b:Loc->St->Rs}{n:Nat}{fl:Fw}{R:Result->Shared->Prop}
  (hc:∀ {KC:Loc} {Kx Ky:St} {r:Bool} {F1:bf} {Kz:List Addr} {s1:Shared},c KC Kx=some (r,Ky)->KD Z F1 Kz Kx s1.heap->KH F1 Kz KC sc env O s1.heap->dL Z w A (isTrue test env (eval test env)) F1 Kz s1 r Ky)
  (K2:∀ {KC:Loc} {Kx:St} {fl:Fw} {K5:Loc} {Ky:St} {F1:bf} {Kz:List Addr} {s1:Shared},b KC Kx=some (fl,K5,Ky)->KD Z F1 Kz Kx s1.heap->KH F1 Kz KC sc env O s1.heap->az Z w A (execs body env) sc env O F1 Kz s1 fl K5 Ky)
  (R0:KD Z F φ st s.heap) (L0:KH F φ σ sc env O s.heap) (e:f7 c b n σ st=some (fl,KA,Kw)) (S0:Step F0 φ0 O hb F φ s.heap)
  (hR:∀ F' KJ Lv h' tk,Step F0 φ0 O hb F' KJ h'->KD Z F' KJ Kw h'->KH F' KJ KA sc env O h'->FR F' KJ fl Lv->R (.ok Lv) ⟨h',s.gens,s.drawn,tk,s.os⟩) :
  codeAny (model aM w) A (.whileLoop test body [] env) R s:=by
 refine codeAny_whileLoop (OU Z sc env O hb F0 φ0 s (λn KC Kx=>f7 c b n KC Kx=some (fl,KA,Kw))) ?_ n (.mk S0 R0 L0 e);intro n s' inv
 cases inv with
 |@mk F1 Kz KC Kx h1 tk S1 R1 L1 ec=>
 refine o0 ?_
 cases n with
 |zero=>exact absurd ec bg
 |succ n=>
  refine oC ec (λKy Qc ec=>hc (s1:=⟨h1,s.gens,s.drawn,tk,s.os⟩) Qc R1 L1 _ λF2 K3 h2 KR S2 R2=>?_) λKy Qc ec=>hc (s1:=⟨h1,s.gens,s.drawn,tk,s.os⟩) Qc R1 L1 _ λF2 K3 h2 KR S2 R2=>?_
  ·have Ma:=S1.trans (S2.own (own':=O) λx m=>absurd m not_mem_nil);rw[if_pos rfl];refine oF ec (λPW K4 eb ec=>?_) (λPW K4 eb ec=>?_) (λu PW K4 eb ec=>?_)
   ·refine o0 (K2 (s1:=⟨h2,s.gens,s.drawn,KR,s.os⟩) eb R2 (L1.step S2) _ λF3 Ms Lv h3 Lc S3 R3 L3 f3=>?_);cases f3;exact⟨n,lt_succ_self n,.mk (Ma.trans S3) R3 L3 ec⟩
   ·refine o0 (K2 (s1:=⟨h2,s.gens,s.drawn,KR,s.os⟩) eb R2 (L1.step S2) _ λF3 Ms Lv h3 Lc S3 R3 L3 f3=>?_);cases f3;cases ec;exact hR F3 Ms .next h3 Lc (Ma.trans S3) R3 L3 .next
   ·refine o0 (K2 (s1:=⟨h2,s.gens,s.drawn,KR,s.os⟩) eb R2 (L1.step S2) _ λF3 Ms Lv h3 Lc S3 R3 L3 f3=>?_);cases ec
    cases f3 with
    |ret hv=>exact hR F3 Ms _ h3 Lc (Ma.trans S3) R3 L3 (.ret hv)
  ·have Ma:=S1.trans (S2.own (own':=O) λx m=>absurd m not_mem_nil);cases ec;rw[if_neg LU];exact o0 (wpAny_execs_nil (hR F2 K3 .next h2 KR Ma R2 (L1.step S2) .next))
theorem q7 (xs:List Nat)(vs:List AV)(KO:List Value){σ KA:Loc}{s:Shared}{Q:Unit->Shared->Prop}(c:∀ x∈xs,sc.names.lookup (nm x)=some .local\/sc.names.lookup (nm x)=some .cell)(e:bA σ xs vs=some KA):KI F φ vs KO ->
  KH F φ σ sc env O s.heap->KD Z F φ st s.heap ->
  (∀ h1 tk,Step F φ O s.heap F φ h1->KD Z F φ st h1->KH F φ KA sc env O h1->Q () ⟨h1,s.gens,s.drawn,tk,s.os⟩) ->
  aA w A (assignInOrder (xs.map λx=>bindName env (nm x)) KO) Q aq s:=by
 refine eF (P:=λσ xs vs=>∀ KO s,(∀ x∈xs,sc.names.lookup (nm x)=some .local\/sc.names.lookup (nm x)=some .cell)->KI F φ vs KO->KH F φ σ sc env O s.heap->KD Z F φ st s.heap ->
  (∀ h1 tk,Step F φ O s.heap F φ h1->KD Z F φ st h1->KH F φ KA sc env O h1->Q () ⟨h1,s.gens,s.drawn,tk,s.os⟩) ->
  aA w A (assignInOrder (xs.map λx=>bindName env (nm x)) KO) Q aq s) (λKO s c hv L R hQ=>KI.nilR (Q:=λKO=>aA w A (assignInOrder [] KO) Q aq s) (wpAny_pure (hQ s.heap s.toks (Step.refl ..) R L)) hv) ?_ xs vs σ e KO s c
 intro σ x xs v vs ih KO s c hv L R hQ;refine KI.consR (Q:=λKO=>aA w A (assignInOrder ((x::xs).map λx=>bindName env (nm x)) KO) Q aq s) (λv' KO hv OK=>?_) hv
 exact wpAny_bind (wpAny_holding (wpAny_bindName (bQ L R (c x (.head _)) hv λh1 tk S1 R1 L1=>
  ih KO ⟨h1,s.gens,s.drawn,tk,s.os⟩ (λy m=>c y (.tail _ m)) OK L1 R1 λh2 KR S2 R2 L2=>hQ h2 KR (S1.trans S2) R2 L2)))
theorem uc {x:Nat}{v:AV}{Q:Value->Shared->Prop}(L:KH F φ σ sc env O s.heap)(e:af σ x=some v)(hQ:∀ v',VR F φ v v'->Q v' s):aA w A (loadName env (nm x)) Q aq s:=by
 refine ak (L.val x v e) λv' hv n=>?_;rcases n with ⟨k,m,a,b⟩ |⟨k,c,a,b⟩
 ·exact wpAny_loadName_local L.kind k a b (hQ v' hv)
 ·rcases k with k |k
  ·exact wpAny_loadName_cell L.kind k a b (hQ v' hv)
  ·exact wpAny_loadName_free L.kind k a b (hQ v' hv) (z8 x)
theorem KD.setList {i:Nat}{a:Addr}{arr:Array Value}{n:Nat}{xs:List AV}(R:KD Z F φ st h)(hi:φ[i]?=some a)(e:h'.get? a=some { cls:=.type "list",data:=.seq arr n })(k:Heap.SameBut a h h')(V:KI F φ xs arr.toList) :
  KD Z F φ (st.set i (.list xs)) h'/\∀ own,Step F φ own h F φ h':=
 ⟨R.upd hi k ⟨arr,⟨n,e⟩,V⟩ ⟨_,e⟩,λown=>Step.upd (mem_of_getElem? hi) k ⟨_,e⟩⟩
theorem kQ {ov iv v:AV}{vo vi u:Value}{Q:Unit->Shared->Prop}(e:jo st ov iv v=some Kw)(R:KD Z F φ st s.heap)(h1:VR F φ ov vo)(h2:VR F φ iv vi)(h3:VR F φ v u)
  (hQ:∀ h1 tk,Step F φ [] s.heap F φ h1->KD Z F φ Kw h1->Q () ⟨h1,s.gens,s.drawn,tk,s.os⟩):aA w A (setItem vo vi u) Q aq s:=by
 refine jm (P:=λvo=>aA w A (setItem vo vi u) Q aq s) h1 e λi a e hi=>cu (P:=λvi=>aA w A (setItem (.ref a) vi u) Q aq s) h2 e λk t e=>oV e λxs q e=>oI e λhb e=>?_;refine ak (R.list q hi) ?_;rintro arr ⟨n,ha⟩ d;have Mk:=d.size;refine qY ha hb.1 (Int.lt_trans hb.2.2 (by decide)) (Mk▸hb.2.1) λh1 n1 e1 k1=>?_;refine hQ h1 s.toks (Step.upd (mem_of_getElem? hi) k1 ⟨_,e1⟩) (K7 e▸(R.setList hi e1 k1 ?_).1);rw[Array.toList_setIfInBounds];exact d.set _ h3
theorem pv {ov v:AV}{vo u:Value}{sl:Addr}{Q:Unit->Shared->Prop}(e:qu st ov v=some Kw)(R:KD Z F φ st s.heap)(h1:VR F φ ov vo)(h3:VR F φ v u)(hs:s.heap.IsSliceOf sl .none .none .none)
  (hQ:∀ h1 tk,Step F φ [] s.heap F φ h1->KD Z F φ Kw h1->Q () ⟨h1,s.gens,s.drawn,tk,s.os⟩):aA w A (setItem vo (.ref sl) u) Q aq s:=by
 refine jm (P:=λvo=>aA w A (setItem vo (.ref sl) u) Q aq s) h1 e λi a e hi=>oV e λys q e=>rR (P:=λu=>aA w A (setItem (.ref a) (.ref sl) u) Q aq s) h3 e λxs b Lz e e1 d1=>oI e λhb e=>?_;refine ak (R.list q hi) ?_;rintro arr ⟨n,ha⟩ d;have Mk:=d.size;have hsz2:=d1.size;refine pn ha (e1.isList R.frz) (λz=>?_) hs (by exact Q3 0x4611257112f424051760110f4240515401104 [_,_,_,_] hb Mk hsz2 rfl) λh1 n1 e2 k1=>?_
 ·refine aw e1 ?_;clear e1;intro n z';exact bg ((R.new _ (mem_of_getElem? hi)).symm.trans (z▸z'))
 ·refine av (R.setList hi e2 k1 d1) λR1 S1=>?_;exact hQ h1 s.toks (S1 []) (K7 e▸R1)
theorem vO:∀ (fs:List (Nat×AV)) (x:Nat) (v:AV),(ai fs x v).length=if (af fs x).isSome then fs.length else fs.length+1:=by
 intro fs
 induction fs with
 |nil=>
  intro x v;exact rfl
 |cons LK r ih=>
  obtain⟨y,u⟩:=LK;intro x v;unfold ai af;split
  ·rfl
  ·have:=ih x v;rw[length_cons,this];split<;>rfl
theorem ud (name:Str)(K8:Int)(key v:Value):∀ (es:List DictEntry),(∀ e∈es,∃ x t,e.key=.str x t)->∀ (u:Value),getL name es=some (some u)->(putL name K8 key v es).length=es.length:=by
 intro es
 induction es with
 |nil=>
  intro _ u h;cases h
 |cons LK r ih=>
  obtain⟨hs,k,w⟩:=LK;intro hk u h;refine n6 (hk _ (.head _)) λx t ek=>?_;cases ek;by_cases q:x=name
  ·exact(congrArg List.length (if_pos (beq_iff_eq.mpr q))).trans rfl
  ·rw[eA,if_neg λz=>q z.symm]at h;exact(congrArg List.length (if_neg λz=>q (beq_iff_eq.mp z))).trans (congrArg Nat.succ (ih (λe m=>hk e (.tail _ m)) u h))
theorem lR {ov v:AV}{i:Nat}{vo u:Value}{Q:Unit->Shared->Prop}(G:Glob Z)(hi6:i<6)(e:f4 st ov i v=some Kw)(R:KD Z F φ st s.heap)(h1:VR F φ ov vo)(h3:VR F φ v u)
  (hQ:∀ h1 tk,Step F φ [] s.heap F φ h1->KD Z F φ Kw h1->Q () ⟨h1,s.gens,s.drawn,tk,s.os⟩):aA w A (setAttr vo (nm i) u) Q aq s:=by
 refine jm (P:=λvo=>aA w A (setAttr vo (nm i) u) Q aq s) h1 e λj a e hi=>qr e λc d fs q q2 e=>oI e λhl e=>?_;refine dh (R.obj _ _ _ hi q) λdx sl e1 e2=>?_;refine yo (R.obj _ _ _ e2 q2) λes n e3 l3 g1 g2 g3=>?_;refine mR (G.sets _ (rW c)) λs1 s2 s3=>?_;refine mR (G.cls _ (rW c)) λc1 c2 _=>?_
 have hg:(getL (nm i) es).isSome=true:=by
  cases z:af fs i with
  |none=>rw[g2 i z];rfl
  |some w=>refine ak (g1 i w z) λw' z' _=>?_;rw[z'];rfl
 refine qZ (R.base.inK R.frz) ⟨e1,rfl,rfl,e3⟩ e3 s1 s2 (s3 i hi6) c2 hg (le_trans l3 (le_trans hl (by decide))) λh1 n1 K8 tok e4 k1 tk=>?_
 have len:(putL (nm i) K8 (.str (nm i) tok) u es).length<=(ai fs i v).length:=by
  rw[vO]
  cases z:af fs i with
  |none=>exact le_trans (pq ..) (succ_le_succ l3)
  |some w=>refine ak (g1 i w z) λw' z' _=>?_;rw[ud _ _ _ _ _ g3 _ z'];exact l3
 have off:∀ x,x≠i->af (ai fs i v) x=af fs x/\getL (nm x) (putL (nm i) K8 (.str (nm i) tok) u es)=getL (nm x) es:=λx n=>⟨(ez ..).trans (if_neg n),(po _ _ _ _ _ g3 _).trans (if_neg λz=>n (nm_inj z))⟩;have on:af (ai fs i v) i=some v/\getL (nm i) (putL (nm i) K8 (.str (nm i) tok) u es)=some (some u):=⟨(ez ..).trans (if_pos rfl),(po _ _ _ _ _ g3 _).trans (if_pos rfl)⟩;refine hQ h1 tk (Step.upd (mem_of_getElem? e2) k1 ⟨_,e4⟩) (K7 e▸R.upd e2 k1 ⟨_,n1,e4,len,λx w hx=>?_,λx hx=>?_,ub _ _ _ _ _ g3⟩ ⟨_,e4⟩)
 ·by_cases n:x=i
  ·exact⟨u,(congrArg (λx=>getL (nm x) _) n).trans on.2,K7 (on.1.symm.trans ((congrArg (af (ai fs i v)) n).symm.trans hx))▸h3⟩
  ·refine ak (g1 x w ((off x n).1.symm.trans hx)) λw' z r=>?_;exact⟨w',(off x n).2.trans z,r⟩
 ·by_cases n:x=i
  ·exact absurd (hx.symm.trans ((congrArg (af (ai fs i v)) n).trans on.1)) bg
  ·exact(off x n).2.trans (g2 x ((off x n).1.symm.trans hx))
theorem q8 {X:Cx}{k:Nat}{ov iv r:AV}{vo vi:Value}{Q:Unit->Shared->Prop}(hC:cx Z w k X.C)(G:Glob Z)(rm:KP k A)(hr:dt st 31 ov=true)(e:X.C 31 [ov,iv] st=some (r,Kw))(R:KD Z F φ st s.heap)(h1:VR F φ ov vo)(h2:VR F φ iv vi)
  (hQ:∀ F' KJ h1 tk,Step F φ [] s.heap F' KJ h1->KD Z F' KJ Kw h1->Q () ⟨h1,s.gens,s.drawn,tk,s.os⟩):aA w A (delItem vo vi) Q aq s:=by
 refine oS (P:=λvo=>VR F φ ov vo->aA w A (delItem vo vi) Q aq s) hr h1 (λi b c d fs hi q q2 hc hn h1=>?_) h1;refine dh (R.obj _ _ _ hi q) λdx sl e1 e2=>?_;refine dh (R.obj _ _ _ e2 q2) λes n e3 _=>?_;refine aw (G.refs 31) λf hf=>?_;refine av (G.met 31 (by decide) (by decide)) λg1 g2=>?_;have this:=hC 31 [ov,iv] st r Kw e A F φ s [.ref b,vi] rm R (.cons h1 (.cons h2 .nil));rw[if_neg (by decide),hf]at g1 this;rw[hf]at g2;rw[hc]at e1;have I:InstAt s.heap _ ⟨.ref fm,some dx,.plain,sl⟩ fm (some (dictOf es n)):=⟨e1,rfl,rfl,e3⟩;have X':=R.base.inK R.frz;unfold delItem sequenceKey;refine wpAny_holding (wpAny_bind (wpAny_bind (I.type.here ?_)));refine wpAny_bind ((anyM_none X' G.noq).here ?_);rw[if_pos (show(!false)=true from rfl)];rw[show nm (tq 31)=ofString "__delitem__" by decide +kernel]at g1;exact wpAny_pure (wpAny_bind (special_fn X' I g1 (beq_iff_eq.mp g2) (this _ λF' KJ v' h1 tk S R V=>wpAny_pure (hQ F' KJ h1 tk S R))))
end
structure SelS where
 as:List Expr->Expr->Pos->Bool:=λ_ _ _=>false
 au:Expr->Operator->Expr->Bool:=λ_ _ _=>false
 iff:Expr->List Stmt->List Stmt->Bool:=λ_ _ _=>false
 wh:Expr->List Stmt->List Stmt->Bool:=λ_ _ _=>false
 fo:Expr->Expr->List Stmt->List Stmt->Bool:=λ_ _ _ _=>false
 re:Option Expr->Bool:=λ_=>false
 ex:Expr->Bool:=λ_=>false
 de:List Expr->Bool:=λ_=>false
 br:Bool:=false
noncomputable def nw (s:Stmt)(f:SelS):Bool:=match s with
 |.Assign ts v p=>f.as ts v p
 |.AugAssign t o v _=>f.au t o v
 |.If t a b _=>f.iff t a b
 |.While t a b _=>f.wh t a b
 |.For t i a b _=>f.fo t i a b
 |.Return v _=>f.re v
 |.Expr e _=>f.ex e
 |.Delete ts _=>f.de ts
 |.Break _=>f.br
 |_=>false
noncomputable def q9 (s:Stmt)(k:List Expr->Expr->Pos->Bool):Bool:=nw s { as:=k }
noncomputable def vP (s:Stmt)(op:Operator)(k:Expr->Expr->Bool):Bool:=nw s { au:=λt o v=>o==op&&k t v }
noncomputable def vQ (s:Stmt)(k:Expr->List Stmt->List Stmt->Bool):Bool:=nw s { iff:=k }
noncomputable def D7 (s:Stmt)(k:Expr->List Stmt->Bool):Bool:=nw s { wh:=λt a b=>iw b (k t a) }
noncomputable def r7 (s:Stmt)(k:Expr->Expr->List Stmt->List Stmt->Bool):Bool:=nw s { fo:=k }
noncomputable def pw (s:Stmt)(k:Option Expr->Bool):Bool:=nw s { re:=k }
noncomputable def Bx (s:Stmt)(k:Expr->Bool):Bool:=nw s { ex:=k }
noncomputable def Ar (s:Stmt)(k:List Expr->Bool):Bool:=nw s { de:=k }
noncomputable def As (s:Stmt):Bool:=nw s { br:=true }
section
variable {s:Stmt}{P:Stmt->Prop}
theorem jb {f:List Expr->Expr->Pos->Bool}(k:∀ ts v p,f ts v p=true->P (.Assign ts v p)):q9 s f=true->P s:=by
 cases s<;>first |exact LG |exact k _ _ _
theorem r8 {op:Operator}{f:Expr->Expr->Bool}(k:∀ t v p,f t v=true->P (.AugAssign t op v p)):vP s op f=true->P s:=by
 cases s<;>first |exact LG |exact yf (P:=λz=>P (.AugAssign _ z _ _)) (k _ _ _)
theorem r9 {f:Expr->List Stmt->List Stmt->Bool}(k:∀ t a b p,f t a b=true->P (.If t a b p)):vQ s f=true->P s:=by
 cases s<;>first |exact LG |exact k _ _ _ _
theorem By {f:Expr->List Stmt->Bool}(k:∀ t a p,f t a=true->P (.While t a [] p)):D7 s f=true->P s:=by
 cases s<;>first |exact LG |exact kE (P:=λz=>P (.While _ _ z _)) (k _ _ _)
theorem nx {f:Expr->Expr->List Stmt->List Stmt->Bool}(k:∀ t i a b p,f t i a b=true->P (.For t i a b p)):r7 s f=true->P s:=by
 cases s<;>first |exact LG |exact k _ _ _ _ _
theorem j5 {f:Option Expr->Bool}(k:∀ o p,f o=true->P (.Return o p)):pw s f=true->P s:=by
 cases s<;>first |exact LG |exact k _ _
theorem vR {f:Expr->Bool}(k:∀ e p,f e=true->P (.Expr e p)):Bx s f=true->P s:=by
 cases s<;>first |exact LG |exact k _ _
theorem yM {f:List Expr->Bool}(k:∀ ts p,f ts=true->P (.Delete ts p)):Ar s f=true->P s:=by
 cases s<;>first |exact LG |exact k _ _
theorem yN (k:∀ p,P (.Break p)):As s=true->P s:=by
 cases s<;>first |exact LG |exact λ_=>k _
end
noncomputable def j6 (e:Expr):Bool:=!(Nat.ble 8 e.ctorIdx&&Nat.ble e.ctorIdx 10)
noncomputable def sa:E->Bool
 |.new _ (.comp ..)=>true
 |.new _ (.comp2 ..)=>true
 |_=>false
noncomputable def ny (sc:Scope)(line:Nat):Expr->Option Str
 |.Name id pos=>if sc.names.lookup id==some .local&&pos.line==line then some id else none
 |_=>none
noncomputable def iF (sc:Scope)(line:Nat)(ts:List Expr):List Str:=ts.filterMap (ny sc line)
noncomputable def vS:List Str->Bool
 |[]=>true
 |x::r=>!r.contains x&&vS r
mutual
noncomputable def D8 (sc:Scope):S->Stmt->Bool
 |.asg tg e,s=>q9 s λts v _=>ng ts λt=>gT sc tg t&&((ni t||!vd v)&&(((j6 v||vd t)||(ni t&&(sa e&&qE v)))&&aW sc e v))
 |.asg2 xs es,s=>q9 s λts v _=>ng ts λt=>oy t λts=>oy v λvs=>
   (iF sc ((ts.head?.map (·.pos.line)).getD 0) ts==xs.map nm&&(ts.length==xs.length&&((ts.length==2||ts.length==3)&&(vs.length==ts.length&&vS (xs.map nm))))) &&
    (vs.all aB&&(!vs.all (foldedForSure 8)&&(!vs.all (constantsAlone 8)&&(decide (vs.length<=100)&&eZ sc es vs))))
 |.asgs xs e,s=>q9 s λts v _=>(xs.length==3)&&(nj sc xs ts&&aW sc e v)
 |.aug x op e,s=>vP s op λt v=>eS t (nm x) (vk sc (nm x)&&aW sc e v)
 |.setI o i e,s=>q9 s λts v _=>ng ts λt=>jt t λa j=>aW sc e v&&(aW sc o a&&aW sc i j)
 |.augI o i op e,s=>vP s op λt v=>jt t λa j=>ga j&&(aW sc e v&&(aW sc o a&&aW sc i j))
 |.setSl o e,s=>q9 s λts v _=>ng ts λt=>jt t λa sl=>j2 sl λl u t=>fI l (fI u (fI t (aW sc e v&&aW sc o a)))
 |.setA o a e,s=>q9 s λts v _=>ng ts λt=>fi t (nm a) λq _=>decide (a<6)&&(aW sc e v&&aW sc o q)
 |.expr e,s=>Bx s λx=>ve x&&aW sc e x
 |.iff c a b,s=>vQ s λt x y=>LA sc c t&&(cY sc a x&&cY sc b y)
 |.whl c a,s=>D7 s λt x=>LA sc c t&&cY sc a x
 |.for tg src body orelse,s=>r7 s λt i a b=>gT sc tg t&&(fh i&&(aW sc src i&&(cY sc body a&&cY sc orelse b)))
 |.forR x src body,s=>r7 s λt i a b=>iw b (dw i λf as _=>eS f (nm 145) (ng as λy=>gl sc (nm 145)&&(aB y&&(gT sc (.nm x) t&&(aW sc src y&&cY sc body a)))))
 |.ret e,s=>pw s λr=>iW r λx=>aW sc e x
 |.retN,s=>pw s λr=>fI r true
 |.brk,s=>As s
 |.del o i,s=>Ar s λts=>ng ts λt=>jt t λa j=>aW sc o a&&aW sc i j
 |.bad,_=>true
noncomputable def cY (sc:Scope):List S->List Stmt->Bool
 |[],xs=>xs.isEmpty
 |s::r,xs=>eH xs λx xs=>D8 sc s x&&cY sc r xs
end
section
variable {p:Pos}{a:Addr}
theorem vT {value:Expr}{t:Option Expr}{line:Nat}(c:j6 value=true):swapsWith value t line env=pure false:=by
 cases value<;>first |rfl |cases c
theorem ue {value:Expr}{ts:List Expr}{k line:Nat}:swapsWith value (some (.Tuple ts k p)) line env=pure false:=by cases value<;>rfl
theorem mw {value a b:Expr}{line:Nat}:swapsWithSole [.Subscript a b p] value line env=pure false:=by cases value<;>rfl
theorem ra {value a:Expr}{n:Str}{line:Nat}:swapsWithSole [.Attribute a n p] value line env=pure false:=by cases value<;>rfl
theorem kR {value a b:Expr}:swappedStores [.Subscript a b p] value env=pure none:=by cases value<;>rfl
theorem px {value a:Expr}{n:Str}:swappedStores [.Attribute a n p] value env=pure none:=by cases value<;>rfl
theorem jw {value:Expr}{n:Str}:swappedStores [.Name n p] value env=pure none:=by cases value<;>rfl
theorem rb {value:Expr}{ts:List Expr}{k:Nat}(c:vd value=false):swappedStores [.Tuple ts k p] value env=pure none:=by cases value<;>first |rfl |cases c
theorem ed {targets:List Expr}{value:Expr}{v:AV}{Q:Flow->Shared->Prop}(g:Good Z w A (eval value env) F φ s v Kx)(hs:swapsWithSole targets value p.line env=pure false)(hw:swappedStores targets value env=pure none)
  (hQ:∀ F1 Kz v' h1 tk,Step F φ [] s.heap F1 Kz h1->KD Z F1 Kz Kx h1->VR F1 Kz v v'->aA w A (assignAll v' ((assignEach targets env).map (·.2))) (λ_=>Q .next) aq ⟨h1,s.gens,s.drawn,tk,s.os⟩) :
  aA w A (exec (.Assign targets value p) env) Q aq s:=
 wpAny_Assign_stores (g _ λF1 Kz v' h1 tk S R V=>hQ F1 Kz v' h1 tk S R V) hs hw
theorem yO {α β:Type}{f g:α->Option β}:∀ {l:List α},(l.filterMap f).length=l.length->(∀ x y,f x=some y->g x=some y)->l.filterMap g=l.filterMap f:=by
 intro l
 induction l with
 |nil=>
  intro _ _;exact rfl
 |cons x l ih=>
  intro h k;rw[filterMap_cons]at h
  cases q:f x with
  |none=>
   rw[q]at h;have:=List.length_filterMap_le f l;simp only[length_cons]at h;lia
  |some y=>
   rw[q]at h;simp only[length_cons,succ_eq_add_one,Nat.add_right_cancel_iff]at h;rw[filterMap_cons,filterMap_cons,q,k x y q];simp only[ih h k]
theorem rc:∀ {l:List Str},vS l=true->l.eraseDups=l:=by
 intro l
 induction l with
 |nil=>
  intro _;simp
 |cons x r ih=>
  intro h;refine av (bC (show(!r.contains x&&vS r)=true from h)) λh1 h2=>?_;rw[List.eraseDups_cons]
  have:r.filter (λb=>!b==x)=r:=by
   rw[List.filter_eq_self];intro a m;have h1:r.contains x=false:=by simpa using h1
   have:a≠x:=λz=>by subst z;rw[List.contains_eq_mem]at h1;simp[m]at h1
   simp[this]
  rw[this,ih h2]
theorem rf {xs:List Nat}{ts vs:List Expr}{k1 k2:Nat}{p1 p2:Pos}(L:KH F φ σ sc env O h)(c1:iF sc ((ts.head?.map (·.pos.line)).getD 0) ts=xs.map nm)(c2:ts.length=xs.length)(c3:(ts.length==2||ts.length==3)=true)(c4:vs.length=ts.length)
  (c5:vs.all aB=true) (c6:vS (xs.map nm)=true) (c7:vs.all (foldedForSure 8)=false) (c8:vs.all (constantsAlone 8)=false) :
  swappedStores [.Tuple ts k1 p1] (.Tuple vs k2 p2) env=pure (some (xs.map nm)):=by
 delta swappedStores;have hb:env.blockKind=.function:=by unfold Env.blockKind;rw[L.kind];rfl
 have Mx:(vs.any fun |.Starred ..=>true |_=>false)=false:=by
  rw[List.any_eq_false];intro x m;have:=all_eq_true.mp c5 x m;cases x<;>first |exact LU |cases this
 have hn:(ts.filterMap fun |.Name id pos=>if env.kindOf id==some .local&&pos.line==(ts.head?.map (·.pos.line)).getD 0 then some id else none |_=>none)=xs.map nm:=by
  rw[← c1];unfold iF
  refine yO (f:=ny sc _) (by
   have:=congrArg List.length c1;rw[length_map]at this
   exact this.trans c2.symm) λx y e=>?_
  cases x<;>first |exact absurd e bg |skip
  refine oI e λq e=>(if_pos ?_).trans e;exact bV q λq1 q2=>by rw[L.lc _ (dk q1),q2];rfl
 have KL:(xs.map nm).length=ts.length:=by rw[length_map,c2]
 have he:(xs.map nm).eraseDups=xs.map nm:=rc c6;simp only[c3,c4,hb,c7,c8,bne_self_eq_false,Bool.not_true,Bool.or_self,false_eq_true,if_false];refine(if_neg λz=>LU (Mx.symm.trans z)).trans ?_;refine Eq.trans (b:=if ((xs.map nm).length != ts.length||(xs.map nm).eraseDups.length != (xs.map nm).length)=true then pure none else pure (some (xs.map nm))) ?_ ?_
 ·rw[← hn];rfl
 ·simp only[he,KL,bne_self_eq_false,Bool.or_self,false_eq_true,if_false]
theorem sd {x:Nat}{py:Pos}{v:AV}{D C:Addr}{tk:Nat}{Q:Flow->Shared->Prop}{F2:bf}{K3:List Addr}(L:KH F φ σ sc env O s.heap)(hx:sc.names.lookup (nm x)=some .local\/sc.names.lookup (nm x)=some .cell)
  (S:Step F φ [] s.heap F2 K3 h') (R:KD Z F2 K3 Kw h') (V:VR F2 K3 v (.ref D)) (PC:K0 F2 K3 h' C) (sC:s.heap.get? C=none) (N:∃ m,h'.Ns C m)
  (hQ:Le Z sc env O F φ s .next (ai σ x v) Kw Q) :
  compPost (model aM w) A aq (some (assign (.Name (nm x) py) env)) (λ_ s'=>Q .next s') (.ref D) C (.ok .next) ⟨h',s.gens,s.drawn,tk,s.os⟩:=by
 have L':=L.step S;have nC:C∉env.locals::env.cells.map (·.2):=λm=>by refine aw (L.ex C m) λo z=>?_;rw[sC]at z;cases z
 refine wpAny_assign_Name (bQ (s:=sw s h' tk) L' R hx V λh1 Ln S1 R1 L1=>?_);refine Dr N ?_;clear N;intro m o es ep hn NB;have hC1:h1.get? C=some o:=PC.kept S1 (λz=>nC (L1.subO C z)) hn;refine⟨m,⟨o,es,ep,hC1,NB⟩,λh2 k=>?_⟩;have kb:∀ b o,b≠C->h1.get? b=some o->h2.get? b=some o:=λb o z e=>(k.2 b z).trans e;exact hQ F2 K3 .next h2 Ln ((S.any.trans S1).hide' kb sC) (R1.but (PC.step S1) kb) (L1.keep λb m o e=>kb b o (λz=>nC (z▸m)) e) .next
theorem my {X:Cx}{k:Nat}(hk:1<=k)(hC:cx Z w k X.C)(G:Glob Z){l:L}{elt:Expr}{gens:List Comprehension}{vs:List AV}{use:Option (Value->Sem Unit)}{Q:Value->Shared->Prop}{p2:Pos}{m:Bool}
  (hl:sa (.new m l)=true) (c:Bs sc l (.ListComp elt gens scope p)=true) (e:du X l σ st=some (vs,Kw)) (rm:KP (k+1) A) (R:KD Z F φ st s.heap) (L:KH F φ σ sc env O s.heap)
  (hK:∀ F' KJ h' D C Ls n' tk,Step F φ [] s.heap F' KJ h'->KD Z F' KJ Kw h'->h'.get? D=some { cls:=.type "list",data:=.seq Ls n' }->KI F' KJ vs Ls.toList->K0 F' KJ h' D->K0 F' KJ h' C->D≠C ->
   s.heap.get? D=none->s.heap.get? C=none->(∃ m,h'.Ns C m)->compPost (model aM w) A aq use Q (.ref D) C (.ok .next) ⟨h',s.gens,s.drawn,tk,s.os⟩) :
  aA w A (comprehension (.ListComp elt gens scope p) scope env p2 (newList []) (firstAsync gens) (firstIter gens env) use) Q aq s:=by
 cases l with
 |comp ee tg src ifs cap=>
  refine dz (P:=λgens=>aA w A (comprehension (.ListComp elt gens scope p) scope env p2 (newList []) (firstAsync gens) (firstIter gens env) use) Q aq s) (λg c=>gG (P:=λg=>aA w A (comprehension (.ListComp elt [g] scope p) scope env p2 (newList []) (firstAsync [g]) (firstIter [g] env) use) Q aq s) (λt it cs c=>yI c λc0 c1 c2 c3 c4 c5=>?_) c) c;refine oE e λv Kx e1 e=>oV e λxs q1 e=>oI e λhl e=>?_;have e:aU (λst=>an st v xs) (fX (aX σ cap) tg (g1 X ifs ee)) xs Kx=some (vs,Kw):=e
  exact i8 rm.hd (iE c0) c2 c1 q1 ((dG hk hC G src).run c3 e1 rm R L).good z9
   (λ{_ _ _}=>Ab (λ{KA} {st} {Kw} {b} {s1} {F1} {Kz} e R1 L1=>(D5 hk hC G ifs).run c5 e rm R1 L1) (λ{KA} {st} {Kw} {y} {s1} {F1} {Kz} e R1 L1=>((dG hk hC G ee).run c4 e rm R1 L1).good))
   R L e (le_trans (kO (λx st ys Kw e=>by
    unfold fX at e;split at e
    ·exact vA e
    ·cases e) e) hl) hK
 |comp2 ee tg src LV Lr cap=>
  refine kG (P:=λgens=>aA w A (comprehension (.ListComp elt gens scope p) scope env p2 (newList []) (firstAsync gens) (firstIter gens env) use) Q aq s) (λg d c=>gG (P:=λg=>aA w A (comprehension (.ListComp elt [g,d] scope p) scope env p2 (newList []) (firstAsync [g,d]) (firstIter [g,d] env) use) Q aq s) (λt it cs c=>kE (P:=λcs=>aA w A (comprehension (.ListComp elt [⟨t,it,cs,0⟩,d] scope p) scope env p2 (newList []) (firstAsync [⟨t,it,cs,0⟩,d]) (firstIter [⟨t,it,cs,0⟩,d] env) use) Q aq s) (λc=>
   gG (P:=λd=>aA w A (comprehension (.ListComp elt [⟨t,it,[],0⟩,d] scope p) scope env p2 (newList []) (firstAsync [⟨t,it,[],0⟩,d]) (firstIter [⟨t,it,[],0⟩,d] env) use) Q aq s) (λt2 Lh Oa c=>kE (P:=λOa=>aA w A (comprehension (.ListComp elt [⟨t,it,[],0⟩,⟨t2,Lh,Oa,0⟩] scope p) scope env p2 (newList []) (firstAsync [⟨t,it,[],0⟩,⟨t2,Lh,Oa,0⟩]) (firstIter [⟨t,it,[],0⟩,⟨t2,Lh,Oa,0⟩] env) use) Q aq s) (λc=>Bq c λc0 n1 n2 Qa NY dj c3 c4 c5=>?_) c) c) c) c) c
  refine oE e λv Kx e1 e=>oV e λxs q1 e=>oL e λzs Me q2 e=>oI e λhl e=>?_;cases e;have q2:aU (λst=>an st v xs) (fX (aX σ cap) tg (g2 X LV Lr ee)) xs Kx=some (vs,Kw):=q2
  exact i8 rm.hd (iE c0) Qa n1 q1 ((dG hk hC G src).run c3 e1 rm R L).good (Ac n2)
   (λ{_ _ _}=>Ad rm.hd (iE c0) NY dj (λ{KA} {st} {Kw} {y} {s1} {F1} {Kz} e R1 L1=>((dG hk hC G Lr).run c4 e rm R1 L1).good) (λ{KA} {st} {Kw} {y} {s1} {F1} {Kz} e R1 L1=>((dG hk hC G ee).run c5 e rm R1 L1).good))
   R L q2 hl hK
 |_=>cases hl
theorem vU {X:Cx}{k:Nat}(hk:1<=k)(hC:cx Z w k X.C)(G:Glob Z){e:E}{elt:Expr}{gens:List Comprehension}{v:AV}{Q:Flow->Shared->Prop}{x:Nat}{py OV:Pos}
  (hl:sa e=true) (hx:sc.names.lookup (nm x)=some .local\/sc.names.lookup (nm x)=some .cell) (Qd:swapsWith (.ListComp elt gens scope p) (some (.Name (nm x) py)) OV.line env=pure true)
  (c:aW sc e (.ListComp elt gens scope p)=true) (ev:aa X e σ st=some (v,Kw)) (rm:KP (k+1) A) (R:KD Z F φ st s.heap) (L:KH F φ σ sc env O s.heap)
  (hQ:Le Z sc env O F φ s .next (ai σ x v) Kw Q) :
  aA w A (exec (.Assign [.Name (nm x) py] (.ListComp elt gens scope p) OV) env) Q aq s:=by
 rw[exec_Assign_Name_used _ _ _ _ Qd];refine wpAny_bind (wpAny_standAt (wpAny_bind ?_));show wpAny _ A (do let _ ← comprehension (.ListComp elt gens scope p) scope env _ (newList []) (firstAsync gens) (firstIter gens env) (some (assign (.Name (nm x) py) env))) _ _ s
 cases e with
 |new m l=>
  refine av (bC c) λ_ c=>?_
  cases m with
  |false=>
   refine oL ev λvs Kx e1 ev=>?_
   ·cases ev;refine wpAny_bind (wpAny_mono (my (Q:=λ_ s'=>Q .next s') hk hC G hl c e1 rm R L ?_) (λ_ s' hq=>wpAny_pure (wpAny_pure hq)) λ_ _ e=>e);intro F' KJ h' D C Ls n' tk S R' g V P1 P2 ne sD sC N;have R2:=R'.freeze P1.f P1.p P1.t1 P1.t2 g;have S2:=S.putNew (o:={ cls:=.type "list",data:=.seq Ls n' }) sD P1.f;have PC:K0 (ia F' D { cls:=.type "list",data:=.seq Ls n' }) KJ h' C:=⟨P2.ex,by unfold ia;rw[if_neg (Ne.symm ne)];exact P2.f,P2.p,P2.t1,P2.t2⟩;exact sd L hx S2 R2 (.lst ⟨n',bP⟩ (V.mono (cW P1.f) (prefix_refl _))) PC sC N hQ
  |true=>
   refine oL ev λvs Kx e1 ev=>?_
   ·cases ev;refine wpAny_bind (wpAny_mono (my (Q:=λ_ s'=>Q .next s') hk hC G hl c e1 rm R L ?_) (λ_ s' hq=>wpAny_pure (wpAny_pure hq)) λ_ _ e=>e);intro F' KJ h' D C Ls n' tk S R' g V P1 P2 ne sD sC N;have R2:=R'.grow (ao:=.list vs) P1.f P1.p P1.t1 P1.t2 g ⟨Ls,⟨n',g⟩,V.mono (Lp.refl _) (prefix_append _ _)⟩;have S2:=S.growNew sD
    have PC:K0 F' (KJ++[D]) h' C:=⟨P2.ex,P2.f,λm=>by
     rcases mem_append.mp m with m |m
     ·exact P2.p m
     ·simp at m;exact ne m.symm,P2.t1,P2.t2⟩
    exact sd L hx S2 R2 (.obj (by rw[← R'.len];simp)) PC sC N hQ
 |_=>cases hl
variable (Z w)
structure XG (k:Nat)(X:Cx)(t:S):Prop where
 run:∀ {Ld:Stmt} {sc:Scope} {σ KA:Loc} {st Kw:St} {fl:Fw} {A:Around} {F:bf} {φ:List Addr} {s:Shared} {env:Env} {O:List Addr},
 D8 sc t Ld=true->xS X t σ st=some (fl,KA,Kw)->KP (k+1) A->KD Z F φ st s.heap->KH F φ σ sc env O s.heap->az Z w A (exec Ld env) sc env O F φ s fl KA Kw
structure Nf (k:Nat)(X:Cx)(t:List S):Prop where
 run:∀ {Np:List Stmt} {sc:Scope} {σ KA:Loc} {st Kw:St} {fl:Fw} {A:Around} {F:bf} {φ:List Addr} {s:Shared} {env:Env} {O:List Addr},
 cY sc t Np=true->cw X t σ st=some (fl,KA,Kw)->KP (k+1) A->KD Z F φ st s.heap->KH F φ σ sc env O s.heap->az Z w A (execs Np env) sc env O F φ s fl KA Kw
variable {Z w}
theorem Le.fin {Q:Flow->Shared->Prop}{F1:bf}{Kz:List Addr}{h1:Heap}{tk:Nat}(hQ:Le Z sc env O F φ s .next σ Kw Q)(L:KH F φ σ sc env O s.heap)(S:Step F φ [] s.heap F1 Kz h1)(R:KD Z F1 Kz Kw h1):Q .next ⟨h1,s.gens,s.drawn,tk,s.os⟩:=
 hQ F1 Kz .next h1 tk S.any R (L.step S) .next
theorem oG {γ:Type}{o:Option Loc}{k:Loc->Option γ}{r:γ}{P:Prop}(e:(match o with
 |some x=>k x
 |none=>none)=some r) (f:∀ x,o=some x->k x=some r->P):P:=by
 cases o with
 |none=>exact absurd e bg
 |some z=>exact f _ rfl e
theorem rg {b:Bool}(h:(!b)=true):b=false:=by cases b<;>first |rfl |cases h
theorem rh {line:Nat}{y:Expr}{n:Str}(h:ny sc line y=some n):sc.names.lookup n=some .local:=by
 cases y<;>first |exact absurd h bg |exact oI h λq e=>K7 e▸dk (bC q).1
theorem jc {x:Nat}{xs:List Nat}{ts:List Expr}{P:List Expr->Prop}(k:∀ p es,vk sc (nm x)=true->nj sc xs es=true->P (.Name (nm x) p::es))(c:nj sc (x::xs) ts=true):P ts:=
 bD (λe es c=>bn (P:=λe=>P (e::es)) (λp c=>bV c (k p es)) c) c
theorem uf {i:Expr}(c:ga i=true)(ov iv new:Value):augStore i ov iv new=(do holding [new,ov,iv] (setItem ov iv new);release [new,ov,iv] [];pure .next):=by
 cases i<;>first |rfl |cases c
noncomputable def D9 (φ:List Addr)(h:Heap)(I:Addr)(k n i:Nat):Prop:=∃ a,φ[k]?=some a/\h.IsRevIter I a ((n:Int)-1-i)
theorem vV {i:Nat}{xs:List AV}(hh:A.handled=none):Nh Z w A I xs.reverse (λst=>an st (.obj i) xs) (λF φ h j=>D9 φ h I i xs.length j) where
 item:=λ{j x F φ st s Q} T hx hs R hQ=>by
  refine ak T ?_;clear T;intro a e1 y;refine ak (R.list (stands_obj hs) e1) λarr hl d=>?_
  have hj:j<xs.length:=by
   have:=(List.getElem?_eq_some_iff.mp hx).1
   rwa [length_reverse]at this
  rw[List.getElem?_reverse hj]at hx;refine ak (d.get hx) λv' e2 hv=>?_;have e3:(xs.length:Int)-1-j=((xs.length-1-j:Nat):Int):=Gz hj;rw[e3]at y;refine wpAny_pyNext_rev_item y (aP hl) (by simpa using e2) λh' y' k=>hQ _ _ _ k hv ⟨a,e1,?_⟩;have e4:((xs.length-1-j:Nat):Int)-1=(xs.length:Int)-1-((j+1:Nat):Int):=(congrArg (·-1) e3.symm).trans (Int.sub_sub ..);rw[← e4];exact y'
 done:=λ{F φ st s Q} T hs R hQ=>by
  refine ak T ?_;clear T;intro a e1 y;rw[length_reverse]at y;have e3:(xs.length:Int)-1-(xs.length:Nat)=-1:=by lia
  rw[e3]at y;exact wpAny_pyNext_rev_end hh y λh' k=>hQ _ _ k
 mono:=λT hF hp k=>by obtain⟨a,e1,o,e2,r⟩:=T;exact⟨a,eU hp e1,o,k _ e2,r⟩
 at_:=λT=>by obtain⟨a,e1,o,e2,r,_⟩:=T;exact⟨o,_,e2,r,by decide +kernel⟩
section
variable {X:Cx}{k:Nat}(hk:1<=k)(hC:cx Z w k X.C)(G:Glob Z)
include hk hC G
theorem Ht {tg:Tg}{e:E}:XG Z w k X (.asg tg e):=.mk <|by
 intro Ld sc σ KA st Kw fl A F φ s env O c ev rm R L;refine jb (P:=λLd=>az Z w A (exec Ld env) sc env O F φ s fl KA Kw) (λts value pos c=>dz (P:=λts=>az Z w A (exec (.Assign ts value pos) env) sc env O F φ s fl KA Kw) (λt c=>oJ c λct c1 c2 c3=>?_) c) c;refine oE ev λv Kx e1 ev=>Bj (P:=λa b c=>az Z w A _ sc env O F φ s a b c) ev λKC eb=>λQ hQ=>?_
 have plain:(assignEach [t] env).map (·.2)=[assign t env]->swapsWith value (some t) pos.line env=pure false->swappedStores [t] value env=pure none->aA w A (exec (.Assign [t] value pos) env) Q aq s:=λha hs hw=>
  ed ((dG hk hC G e).run c3 e1 rm R L).good hs hw λF1 Kz v' h1 tk S1 R1 V1=>by
   rw[ha];exact fb (s:=sw s h1 tk) rm.hd ct eb (L.step S1) R1 V1 λh2 KR S2 R2 L2=>hQ F1 Kz .next h2 KR (S1.any.trans S2) R2 L2 .next
 cases tg with
 |tup xs=>
  revert plain c1
  exact gF (P:=λt=>(ni t||!vd value)=true->((assignEach [t] env).map (·.2)=[assign t env]->swapsWith value (some t) pos.line env=pure false->swappedStores [t] value env=pure none->aA w A (exec (.Assign [t] value pos) env) Q aq s)->aA w A (exec (.Assign [t] value pos) env) Q aq s)
   (λts k p _ c1 plain=>plain rfl ue (rb (rg c1))) ct
 |nm x=>
  revert plain c2
  refine bn (P:=λt=>((j6 value||vd t)||(ni t&&(sa e&&qE value)))=true->((assignEach [t] env).map (·.2)=[assign t env]->swapsWith value (some t) pos.line env=pure false->swappedStores [t] value env=pure none->aA w A (exec (.Assign [t] value pos) env) Q aq s)->aA w A (exec (.Assign [t] value pos) env) Q aq s)
   (λp hx c2 plain=>?_) ct
  cases hn:j6 value with
  |true=>exact plain rfl (vT hn) jw
  |false=>
   rw[hn]at c2;revert c3 plain;refine bV c2 λz2 z3=>vh (P:=λvalue=>aW sc e value=true->((assignEach [.Name (nm x) p] env).map (·.2)=[assign (.Name (nm x) p) env]->swapsWith value (some (.Name (nm x) p)) pos.line env=pure false->swappedStores [.Name (nm x) p] value env=pure none->aA w A (exec (.Assign [.Name (nm x) p] value pos) env) Q aq s)->aA w A (exec (.Assign [.Name (nm x) p] value pos) env) Q aq s) (λelt gens scope p2 c3 plain=>?_) z3;have hb:∃ b,swapsWith (.ListComp elt gens scope p2) (some (.Name (nm x) p)) pos.line env=pure b:=⟨_,rfl⟩;refine aw hb ?_;clear hb;intro b hb
   cases b with
   |false=>exact plain rfl hb jw
   |true=>exact vU hk hC G z2 (d9 hx) hb c3 e1 rm R L (K7 eb▸hQ)
theorem Ea {xs:List Nat}{es:List E}:XG Z w k X (.asg2 xs es):=.mk <|by
 intro Ld sc σ KA st Kw fl A F φ s env O c ev rm R L;refine jb (P:=λLd=>az Z w A (exec Ld env) sc env O F φ s fl KA Kw) (λts value pos c=>dz (P:=λts=>az Z w A (exec (.Assign ts value pos) env) sc env O F φ s fl KA Kw) (λt c=>gF (P:=λt=>az Z w A (exec (.Assign [t] value pos) env) sc env O F φ s fl KA Kw) (λts k1 p1 c=>gF (P:=λvalue=>az Z w A (exec (.Assign [.Tuple ts k1 p1] value pos) env) sc env O F φ s fl KA Kw) (λvs k2 p2 c=>?_) c) c) c) c;refine bV c λc c'=>qF c λc1 c2 c3 c4 c6=>qF c' λc5 c7 c8 c9 Qe=>oL ev λus Kx e1 ev=>Bj (P:=λa b c=>az Z w A _ sc env O F φ s a b c) ev λKC eb=>λQ hQ=>?_;have Qd:=rf (k1:=k1) (k2:=k2) (p1:=p1) (p2:=p2) L (dk c1) (dk c2) c3 (dk c4) c5 c6 (rg c7) (rg c8);rw[exec_Assign_arm];refine wpAny_bind (wpAny_standAt (wpAny_bind (wpAny_pure ?_)));rw[if_neg LU];refine wpAny_bind (mr (p:=p2) (k:=k2) ((Aq hk hC G es).run (pos:=p2) Qe c5 e1 rm R L) (of_decide_eq_true c9) (fM Qe e1) _ λF1 Kz v' h1 tk S1 R1 V1=>wpAny_bind (wpAny_of_eq Qd ?_));unfold assignStores;refine kg V1.inv ?_;rintro a arr n rfl e2 d;have KL:(xs.map nm).length=arr.size:=(length_map ..).trans ((dk c2).symm.trans ((dk c4).symm.trans ((fM Qe e1).symm.trans (d.length.trans length_toList))));refine wpAny_bind (wpAny_rule ?_);rw[KL];refine wpAny_bind (wpAny_unpackItems_tuple (s:=sw s h1 tk) rm.hd ⟨_,R1.frz _ _ e2,rfl,n,rfl⟩ λh2 k2=>?_);have kk:∀ b o,h1.get? b=some o->h2.get? b=some o:=λb o q=>k2 b o (ne_of_lt (lt_size q)) q;have S2:Step F1 Kz [] h1 F1 Kz h2:=Step.ext kk
 have hloc:∀ x∈xs,sc.names.lookup (nm x)=some .local\/sc.names.lookup (nm x)=some .cell:=λx m=>
  (List.mem_filterMap.mp (show nm x∈iF sc ((ts.head?.map (·.pos.line)).getD 0) ts from dk c1▸mem_map.mpr ⟨x,m,rfl⟩)).elim λy h=>.inl (rh h.2)
 have hmap:(xs.map nm).reverse.map (λn=>bindName env n)=xs.reverse.map λx=>bindName env (nm x):=by
  rw[← List.map_reverse,map_map];rfl
 rw[hmap]
 exact wpAny_bind (q7 (s:=sw s h2 tk) xs.reverse us.reverse arr.toList.reverse (λx m=>hloc x (mem_reverse.mp m)) eb d.reverse ((L.step S1).step S2) (R1.ext kk) λh3 Lc S3 R3 L3=>
  wpAny_pure (hQ F1 Kz .next h3 Lc ((S1.trans S2).any.trans S3) R3 L3 .next))
theorem Eb {xs:List Nat}{e:E}:XG Z w k X (.asgs xs e):=.mk <|by
 intro Ld sc σ KA st Kw fl A F φ s env O c ev rm R L;refine jb (P:=λLd=>az Z w A (exec Ld env) sc env O F φ s fl KA Kw) (λts value pos c=>fZ c λc1 c3 c4=>?_) c;revert c3 ev;refine A9 (dk c1) λx y z ev c3=>?_;refine jc (P:=λts=>az Z w A (exec (.Assign ts value pos) env) sc env O F φ s fl KA Kw) (λp1 r1 d2 c3=>jc (P:=λr=>az Z w A (exec (.Assign (.Name (nm x) p1::r) value pos) env) sc env O F φ s fl KA Kw) (λp2 r2 d4 c3=>jc (P:=λr=>az Z w A (exec (.Assign (.Name (nm x) p1::.Name (nm y) p2::r) value pos) env) sc env O F φ s fl KA Kw) (λp3 r3 d6 c3=>?_) c3) c3) c3;refine isEmpty_iff.mp c3▸oE ev λv Kx e1 ev=>to (P:=λa b c=>az Z w A _ sc env O F φ s a b c) ev λQ hQ=>wpAny_Assign_three (((dG hk hC G e).run c4 e1 rm R L).good _ λF1 Kz v' h1 tk S1 R1 V1=>?_);refine wpAny_assign_Name (bQ (s:=sw s h1 tk) (L.step S1) R1 (d9 d2) V1 λh2 KR S2 R2 L2=>?_);refine wpAny_assign_Name (bQ (s:=sw s h2 KR) L2 R2 (d9 d4) V1 λh3 Lc S3 R3 L3=>?_);refine wpAny_assign_Name (bQ (s:=sw s h3 Lc) L3 R3 (d9 d6) V1 λh4 LS S4 R4 L4=>?_);exact hQ F1 Kz .next h4 LS (((S1.any.trans S2).trans S3).trans S4) R4 L4 .next
theorem Hu {x:Nat}{op:Operator}{e:E}:XG Z w k X (.aug x op e):=.mk <|by
 intro Ld sc σ KA st Kw fl A F φ s env O c ev rm R L;refine r8 (P:=λLd=>az Z w A (exec Ld env) sc env O F φ s fl KA Kw) (λt value p c=>bn (P:=λt=>az Z w A (exec (.AugAssign t op value p) env) sc env O F φ s fl KA Kw) (λp1 c=>bV c λhx c3=>?_) c) c;refine oA ev λu eu ev=>oE ev λv Kx e1 ev=>Bj (P:=λa b c=>az Z w A _ sc env O F φ s a b c) ev λr er=>λQ hQ=>?_;refine wpAny_AugAssign_Name (uc L eu λu' hu=>?_);refine((dG hk hC G e).run c3 e1 rm R L).good _ λF1 Kz v' h1 tk S1 R1 V1=>?_;refine mv (s:=sw s h1 tk) er R1 (hu.mono S1.le S1.pre) V1 _ λF2 K3 r' h2 KR S2 R2 V2=>?_;exact bQ (s:=sw s h2 KR) ((L.step S1).step S2) R2 (d9 hx) V2 λh3 Lc S3 R3 L3=>hQ F2 K3 .next h3 Lc ((S1.trans S2).any.trans S3) R3 L3 .next
theorem Ec {o i e:E}:XG Z w k X (.setI o i e):=.mk <|by
 intro Ld sc σ KA st Kw fl A F φ s env O c ev rm R L;refine jb (P:=λLd=>az Z w A (exec Ld env) sc env O F φ s fl KA Kw) (λts value pos c=>dz (P:=λts=>az Z w A (exec (.Assign ts value pos) env) sc env O F φ s fl KA Kw) (λt c=>fJ (P:=λt=>az Z w A (exec (.Assign [t] value pos) env) sc env O F φ s fl KA Kw) (λoe ie ps c=>fZ c λc3 c4 c5=>?_) c) c) c;refine oE ev λv Kx e1 ev=>oE ev λov Ky e2 ev=>oE ev λiv K4 e3 ev=>Bj (P:=λa b c=>az Z w A _ sc env O F φ s a b c) ev λMe e4=>λQ hQ=>?_;refine ed ((dG hk hC G e).run c3 e1 rm R L).good mw kR λF1 Kz v' h1 tk S1 R1 V1=>?_;show wpAny _ _ (assign (.Subscript oe ie ps) env v') _ _ _;rw[arm_assign_Subscript];have L1:=L.step S1;refine wpAny_bind (wpAny_holding (((dG hk hC G o).run (s:=sw s h1 tk) c4 e2 rm R1 L1).good _ λF2 K3 vo h2 KR S2 R2 V2=>?_));refine wpAny_bind (wpAny_holding (((dG hk hC G i).run (s:=sw s h2 KR) c5 e3 rm R2 (L1.step S2)).good _ λF3 Ms vi h3 Lc S3 R3 V3=>?_));exact wpAny_bind (wpAny_standAt (wpAny_bind (wpAny_holding (kQ (s:=sw s h3 Lc) e4 R3 (V2.mono S3.le S3.pre) V3 ((V1.mono S2.le S2.pre).mono S3.le S3.pre) λh4 LS S4 R4=>wpAny_release (hQ.fin L (((S1.trans S2).trans S3).trans S4) R4)))))
theorem Ed {o i e:E}{op:Operator}:XG Z w k X (.augI o i op e):=.mk <|by
 intro Ld sc σ KA st Kw fl A F φ s env O c ev rm R L;refine r8 (P:=λLd=>az Z w A (exec Ld env) sc env O F φ s fl KA Kw) (λt value p c=>fJ (P:=λt=>az Z w A (exec (.AugAssign t op value p) env) sc env O F φ s fl KA Kw) (λoe ie ps c=>oJ c λc1 c3 c4 c5=>?_) c) c;refine oE ev λov Kx e1 ev=>oE ev λiv Ky e2 ev=>oA ev λold e3 ev=>oE ev λv K4 e4 ev=>oA ev λr e5 ev=>Bj (P:=λa b c=>az Z w A _ sc env O F φ s a b c) ev λMe e6=>λQ hQ=>?_;refine wpAny_AugAssign_SubscriptAny (((dG hk hC G o).run c4 e1 rm R L).good _ λF1 Kz vo h1 tk S1 R1 V1=>?_) (λov iv new=>uf c1 ov iv new);have L1:=L.step S1;refine((dG hk hC G i).run (s:=sw s h1 tk) c5 e2 rm R1 L1).good _ λF2 K3 vi h2 KR S2 R2 V2=>?_;have V1:=V1.mono S2.le S2.pre;refine l9 (s:=sw s h2 KR) e3 R2 V1 V2 _ λF3 Ms vold h3 Lc S3 R3 V3=>?_;refine((dG hk hC G e).run (s:=sw s h3 Lc) c3 e4 rm R3 ((L1.step S2).step S3)).good _ λF4 NN vv h4 LS S4 R4 V4=>?_;refine mv (s:=sw s h4 LS) e5 R4 (V3.mono S4.le S4.pre) V4 _ λF5 L7 vr h5 Mg S5 R5 V5=>?_;have OW:=(S3.trans S4).trans S5;exact kQ (s:=sw s h5 Mg) e6 R5 (V1.mono OW.le OW.pre) (V2.mono OW.le OW.pre) V5 λh6 QV S6 R6=>hQ.fin L (((S1.trans S2).trans OW).trans S6) R6
theorem Bz {o e:E}:XG Z w k X (.setSl o e):=.mk <|by
 intro Ld sc σ KA st Kw fl A F φ s env O c ev rm R L
 refine jb (P:=λLd=>az Z w A (exec Ld env) sc env O F φ s fl KA Kw) (λts value pos c=>dz (P:=λts=>az Z w A (exec (.Assign ts value pos) env) sc env O F φ s fl KA Kw) (λt c=>fJ (P:=λt=>az Z w A (exec (.Assign [t] value pos) env) sc env O F φ s fl KA Kw) (λoe sl ps c=>iX (P:=λsl=>az Z w A (exec (.Assign [.Subscript oe sl ps] value pos) env) sc env O F φ s fl KA Kw) (λl u t PA c=>
  dM (P:=λl=>az Z w A (exec (.Assign [.Subscript oe (.Slice l u t PA) ps] value pos) env) sc env O F φ s fl KA Kw) (λc=>dM (P:=λu=>az Z w A (exec (.Assign [.Subscript oe (.Slice none u t PA) ps] value pos) env) sc env O F φ s fl KA Kw) (λc=>dM (P:=λt=>az Z w A (exec (.Assign [.Subscript oe (.Slice none none t PA) ps] value pos) env) sc env O F φ s fl KA Kw) (λc=>bV c λc3 c4=>?_) c) c) c) c) c) c) c
 refine oE ev λv Kx e1 ev=>oE ev λov Ky e2 ev=>Bj (P:=λa b c=>az Z w A _ sc env O F φ s a b c) ev λK4 e4=>λQ hQ=>?_;refine ed ((dG hk hC G e).run c3 e1 rm R L).good mw kR λF1 Kz v' h1 tk S1 R1 V1=>?_;show wpAny _ _ (assign (.Subscript oe (.Slice none none none PA) ps) env v') _ _ _;rw[arm_assign_Subscript];refine wpAny_bind (wpAny_holding (((dG hk hC G o).run (s:=sw s h1 tk) c4 e2 rm R1 (L.step S1)).good _ λF2 K3 vo h2 KR S2 R2 V2=>?_));refine wpAny_bind (wpAny_holding (wpAny_Slice ?_));rw[evalPart_none];have S3:Step F2 K3 [] h2 F2 K3 (h2.push { cls:=.type "slice",data:=.fields #[.none,.none,.none] }):=Step.ext aC;exact wpAny_pure (wpAny_pure (wpAny_pure (wpAny_bind (wpAny_standAt (wpAny_bind (wpAny_holding (pv (s:=⟨h2.push _,s.gens,s.drawn,KR,s.os⟩) e4 (R2.ext aC) V2 (V1.mono S2.le S2.pre) (Heap.IsSliceOf.new h2 _ _ _) λh4 LS S4 R4=>wpAny_release (hQ.fin L (((S1.trans S2).trans S3).trans S4) R4))))))))
theorem Ee {o e:E}{i:Nat}:XG Z w k X (.setA o i e):=.mk <|by
 intro Ld sc σ KA st Kw fl A F φ s env O c ev rm R L;refine jb (P:=λLd=>az Z w A (exec Ld env) sc env O F φ s fl KA Kw) (λts value pos c=>dz (P:=λts=>az Z w A (exec (.Assign ts value pos) env) sc env O F φ s fl KA Kw) (λt c=>dA (P:=λt=>az Z w A (exec (.Assign [t] value pos) env) sc env O F φ s fl KA Kw) (λoe pa c=>fZ c λc1 c3 c4=>?_) c) c) c;refine oE ev λv Kx e1 ev=>oE ev λov Ky e2 ev=>Bj (P:=λa b c=>az Z w A _ sc env O F φ s a b c) ev λK4 e4=>λQ hQ=>?_;refine ed ((dG hk hC G e).run c3 e1 rm R L).good ra px λF1 Kz v' h1 tk S1 R1 V1=>?_;show wpAny _ _ (assign (.Attribute oe (nm i) pa) env v') _ _ _;rw[arm_assign_Attribute];refine wpAny_bind (wpAny_holding (((dG hk hC G o).run (s:=sw s h1 tk) c4 e2 rm R1 (L.step S1)).good _ λF2 K3 vo h2 KR S2 R2 V2=>?_));exact wpAny_bind (wpAny_standAt (wpAny_bind (wpAny_holding (lR (s:=sw s h2 KR) G (of_decide_eq_true c1) e4 R2 V2 (V1.mono S2.le S2.pre) λh4 LS S4 R4=>wpAny_release (hQ.fin L ((S1.trans S2).trans S4) R4)))))
theorem Ef {e:E}:XG Z w k X (.expr e):=.mk <|by
 intro Ld sc σ KA st Kw fl A F φ s env O c ev rm R L;refine vR (P:=λLd=>az Z w A (exec Ld env) sc env O F φ s fl KA Kw) (λx p c=>bV c λc1 c2=>oE ev λv Kx e1 ev=>oI ev λhp ev=>to (P:=λa b c=>az Z w A _ sc env O F φ s a b c) ev λQ hQ=>?_) c;revert c2;refine vj (P:=λx=>aW sc e x=true->aA w A (exec (.Expr x p) env) Q aq s) (λg as ks p c2=>?_) c1;refine wpAny_Expr (((dG hk hC G e).run c2 e1 rm R L).good _ λF1 Kz v' h1 tk S1 R1 V1=>?_) (by unfold interactive;rw[L.kind];rfl) rfl;have fin:Q .next ⟨h1,s.gens,s.drawn,tk,s.os⟩:=hQ.fin L S1 R1;cases V1<;>first |exact fin |cases hp
theorem Hv {t:C}{a b:List S}(ha:Nf Z w k X a)(hb:Nf Z w k X b):XG Z w k X (.iff t a b):=.mk <|by
 intro Ld sc σ KA st Kw fl A F φ s env O c ev rm R L;refine r9 (P:=λLd=>az Z w A (exec Ld env) sc env O F φ s fl KA Kw) (λtest body orelse p c=>fZ c λc1 c2 c3=>λQ hQ=>wpAny_If ?_) c
 exact oC ev (λKx e1 ev=>(t9 hk hC G t).run c1 e1 rm R L _ λF1 Kz h1 tk S1 R1=>ha.run (s:=sw s h1 tk) c2 ev rm R1 (L.step S1) Q (hQ.step S1.any))
  λKx e1 ev=>(t9 hk hC G t).run c1 e1 rm R L _ λF1 Kz h1 tk S1 R1=>hb.run (s:=sw s h1 tk) c3 ev rm R1 (L.step S1) Q (hQ.step S1.any)
theorem Hw {t:C}{a:List S}(ha:Nf Z w k X a):XG Z w k X (.whl t a):=.mk <|by
 intro Ld sc σ KA st Kw fl A F φ s env O c ev rm R L;exact By (P:=λLd=>az Z w A (exec Ld env) sc env O F φ s fl KA Kw) (λtest body p c=>bV c λc1 c2=>λQ hQ=>wpAny_While (yL (F0:=F) (φ0:=φ) (hb:=s.heap) (λe R1 L1=>(t9 hk hC G t).run c1 e rm R1 L1) (λe R1 L1=>ha.run c2 e rm R1 L1) R L ev (Step.refl ..) λF' KJ Lv h' tk S R L f=>hQ F' KJ Lv h' tk S R L f)) c
theorem Hx {tg:Tg}{src:E}{body orelse:List S}(ha:Nf Z w k X body)(hb:Nf Z w k X orelse):XG Z w k X (.for tg src body orelse):=.mk <|by
 intro Ld sc σ KA st Kw fl A F φ s env O c ev rm R L;refine nx (P:=λLd=>az Z w A (exec Ld env) sc env O F φ s fl KA Kw) (λt it bd oe p c=>qF c λct ns c1 c2 c3=>oE ev λv Kx e1 ev=>oV ev λxs q1 ev=>λQ hQ=>?_) c
 have hs:∀ x,foldedSetIterable it env x=Pure.pure x:=by
  intro x;unfold foldedSetIterable;cases it<;>first |rfl |exact absurd ns LU
 refine wpAny_For (((dG hk hC G src).run c1 e1 rm R L).good _ λF1 Kz v' h1 Ln S1 R1 V1=>?_) hs;have L1:=L.step S1;refine ib (s:=sw s h1 Ln) q1 R1 V1 λh2 I KR k2 nI T2=>?_;have S2:Step F1 Kz [] h1 F1 Kz h2:=Step.ext k2;refine dh T2.at_ λoI _ gI _=>?_;have sI:s.heap.get? I=none:=S1.back nI
 have K2:∀ {x1:AV} {KC:Loc} {Kx:St} {fl:Fw} {K5:Loc} {Ky:St} {F1:bf} {Kz:List Addr} {s1:Shared} {Q:Flow->Shared->Prop} {v':Value},(match aQ KC tg x1 with |some KA=>cw X body KA Kx |none=>none)=some (fl,K5,Ky)->KD Z F1 Kz Kx s1.heap ->
   KH F1 Kz KC sc env O s1.heap->VR F1 Kz x1 v'->Le Z sc env O F1 Kz s1 fl K5 Ky Q->aA w A (assign t env v') (λ_ KV=>aA w A (execs bd env) Q aq KV) aq s1:=
  λef R1 L1 hv hQ=>oG ef λPW eb ef=>fb rm.hd ct eb L1 R1 hv λh2 KR S2 R2 L2=>ha.run (s:=⟨h2,_,_,KR,_⟩) c2 ef rm R2 L2 _ (hQ.step S2)
 have go {fl:Fw} {K5:Loc} {Ky:St} (q2:bc (λst=>an st v xs) (λx σ st=>match aQ σ tg x with |some KA=>cw X body KA st |none=>none) xs σ Kx=some (fl,K5,Ky)) {Rr:Result->Shared->Prop} hR:=
  r6 (R:=Rr) (orelse:=oe) (s:=sw s h2 KR) (q0 rm.hd q1) K2 (R1.ext k2) (L1.step S2) T2 (K0.new R1 nI k2 ⟨_,gI⟩) (λm=>by refine aw (L.ex I m) λo z=>?_;exact bg (sI.symm.trans z)) q2 (S1.trans S2).any sI hR
 exact oF ev (λK5 Ky q2 ev=>go q2 λF' KJ Lv h' tk S R L f=>hb.run (s:=sw s h' tk) c3 ev rm R L _ (hQ.step S))
  (λK5 Ky q2 ev=>go q2 λF' KJ Lv h' tk S R L f=>to (P:=λa b c=>Le Z sc env O F φ s a b c Q->Q .next ⟨h',s.gens,s.drawn,tk,s.os⟩) ev (λhQ=>hQ F' KJ .next h' tk S R L .next) hQ)
  (λu K5 Ky q2 ev=>go q2 λF' KJ Lv h' tk S R L f=>to (P:=λa b c=>Le Z sc env O F φ s a b c Q->Q Lv ⟨h',s.gens,s.drawn,tk,s.os⟩) ev (λhQ=>hQ F' KJ Lv h' tk S R L f) hQ)
theorem Eg {x:Nat}{src:E}{body:List S}(ha:Nf Z w k X body):XG Z w k X (.forR x src body):=.mk <|by
 intro Ld sc σ KA st Kw fl A F φ s env O c ev rm R L
 refine nx (P:=λLd=>az Z w A (exec Ld env) sc env O F φ s fl KA Kw) (λt it bd oe p c=>kE (P:=λoe=>az Z w A (exec (.For t it bd oe p) env) sc env O F φ s fl KA Kw) (λc=>bZ (P:=λit=>az Z w A (exec (.For t it bd [] p) env) sc env O F φ s fl KA Kw) (λfn as p2 c=>bn (P:=λfn=>az Z w A (exec (.For t (.Call fn as [] p2) bd [] p) env) sc env O F φ s fl KA Kw) (λp1 c=>
  dz (P:=λas=>az Z w A (exec (.For t (.Call (.Name (nm 145) p1) as [] p2) bd [] p) env) sc env O F φ s fl KA Kw) (λy c=>qF c λcg ns ct c1 c2=>?_) c) c) c) c) c
 refine oE ev λv0 Kx e1 ev=>kh (P:=λv0=>aa X src σ st=some (v0,Kx)->_) (λi ev e1=>oV ev λxs q1 ev=>λQ hQ=>?_) ev e1;refine wpAny_For (PySem.wpAny_Call_NameR (iB R L cg (by decide) G.rev ?_)) (λ_=>rfl);rw[bk ns];refine PyProof.Rows.callWith_type rfl (Calls.evalArgs_plain (Calls.spliced_cons (((dG hk hC G src).run c1 e1 rm R L).good _ λF1 Kz v' h1 Ln S1 R1 V1=>Calls.spliced_nil ?_)));have L1:=L.step S1;refine ak V1.inv ?_;rintro b rfl hi;refine ak (R1.list q1 hi) λarr hl d=>?_;refine call_reversed_list (s:=sw s h1 Ln) (aP hl) ?_;have nI:=cD h1;generalize hI:h1.objs.size=I at nI;generalize hO:revObj b ((arr.size:Int)-1)=o;have gI:(h1.push o).get? I=some o:=hI▸get?_push_size _ (hO▸rfl);have S2:Step F1 Kz [] h1 F1 Kz (h1.push o):=Step.ext aC;have sI:s.heap.get? I=none:=S1.back nI
 have T2:D9 Kz (h1.push o) I i xs.length 0:=⟨b,hi,_,gI,hO▸rfl,by
  rw[← hO];show Data.fields #[.ref b,rawInt ((arr.size:Int)-1)]=Data.fields #[.ref b,rawInt ((xs.length:Int)-1-(0:Nat))]
  rw[d.size];simp⟩
 refine wpAny_pyIter_revIter (i:=(arr.size:Int)-1) (by subst hO;exact⟨_,gI,rfl,rfl⟩) ?_
 have K2:∀ {x1:AV} {KC:Loc} {Kx:St} {fl:Fw} {K5:Loc} {Ky:St} {F1:bf} {Kz:List Addr} {s1:Shared} {Q:Flow->Shared->Prop} {v':Value},cw X body (ai KC x x1) Kx=some (fl,K5,Ky)->KD Z F1 Kz Kx s1.heap ->
   KH F1 Kz KC sc env O s1.heap->VR F1 Kz x1 v'->Le Z sc env O F1 Kz s1 fl K5 Ky Q->aA w A (assign t env v') (λ_ KV=>aA w A (execs bd env) Q aq KV) aq s1:=
  λef R1 L1 hv hQ=>fb (tg:=.nm x) rm.hd ct rfl L1 R1 hv λh2 KR S2 R2 L2=>ha.run (s:=⟨h2,_,_,KR,_⟩) c2 ef rm R2 L2 _ (hQ.step S2)
 have go {fl:Fw} {K5:Loc} {Ky:St} (q2:bc (λst=>an st (.obj i) xs) (λv σ st=>cw X body (ai σ x v) st) xs.reverse σ Kx=some (fl,K5,Ky)) {Rr:Result->Shared->Prop} hR:=
  r6 (f:=λv σ st=>cw X body (ai σ x v) st) (R:=Rr) (orelse:=[]) (s:=sw s _ Ln) (vV rm.hd) K2 (R1.ext aC) (L1.step S2) T2 (K0.new R1 nI aC ⟨_,gI⟩) (λm=>by refine aw (L.ex I m) λo z=>?_;exact bg (sI.symm.trans z)) q2 (S1.trans S2).any sI hR
 exact oF ev (λK5 Ky q2 ev=>go q2 λF' KJ Lv h' tk S R L f=>wpAny_execs_nil (to (P:=λa b c=>Le Z sc env O F φ s a b c Q->Q .next ⟨h',s.gens,s.drawn,tk,s.os⟩) ev (λhQ=>hQ F' KJ .next h' tk S R L .next) hQ))
  (λK5 Ky q2 ev=>go q2 λF' KJ Lv h' tk S R L f=>to (P:=λa b c=>Le Z sc env O F φ s a b c Q->Q .next ⟨h',s.gens,s.drawn,tk,s.os⟩) ev (λhQ=>hQ F' KJ .next h' tk S R L .next) hQ)
  (λu K5 Ky q2 ev=>go q2 λF' KJ Lv h' tk S R L f=>to (P:=λa b c=>Le Z sc env O F φ s a b c Q->Q Lv ⟨h',s.gens,s.drawn,tk,s.os⟩) ev (λhQ=>hQ F' KJ Lv h' tk S R L f) hQ)
theorem Hy {e:E}:XG Z w k X (.ret e):=.mk <|by
 intro Ld sc σ KA st Kw fl A F φ s env O c ev rm R L;refine j5 (P:=λLd=>az Z w A (exec Ld env) sc env O F φ s fl KA Kw) (λo p c=>gf (P:=λo=>az Z w A (exec (.Return o p) env) sc env O F φ s fl KA Kw) (λx c=>?_) c) c;exact oE ev λv Kx e1 ev=>to (P:=λa b c=>az Z w A _ sc env O F φ s a b c) ev λQ hQ=>wpAny_Return_some (((dG hk hC G e).run c e1 rm R L).good _ λF1 Kz v' h1 tk S1 R1 V1=>hQ F1 Kz _ h1 tk S1.any R1 (L.step S1) (.ret V1))
theorem Eh:XG Z w k X .retN:=.mk <|by
 intro Ld sc σ KA st Kw fl A F φ s env O c ev rm R L;exact j5 (P:=λLd=>az Z w A (exec Ld env) sc env O F φ s fl KA Kw) (λo p c=>dM (P:=λo=>az Z w A (exec (.Return o p) env) sc env O F φ s fl KA Kw) (λ_=>to (P:=λa b c=>az Z w A _ sc env O F φ s a b c) ev λQ hQ=>wpAny_Return_none (hQ F φ _ s.heap s.toks (Step.refl ..) R L (.ret .none))) c) c
theorem Hz:XG Z w k X .brk:=.mk <|by
 intro Ld sc σ KA st Kw fl A F φ s env O c ev rm R L;exact yN (P:=λLd=>az Z w A (exec Ld env) sc env O F φ s fl KA Kw) (λp=>to (P:=λa b c=>az Z w A _ sc env O F φ s a b c) ev λQ hQ=>wpAny_Break (hQ F φ _ s.heap s.toks (Step.refl ..) R L .brk)) c
theorem HA {o i:E}:XG Z w k X (.del o i):=.mk <|by
 intro Ld sc σ KA st Kw fl A F φ s env O c ev rm R L;refine yM (P:=λLd=>az Z w A (exec Ld env) sc env O F φ s fl KA Kw) (λts p c=>dz (P:=λts=>az Z w A (exec (.Delete ts p) env) sc env O F φ s fl KA Kw) (λt c=>fJ (P:=λt=>az Z w A (exec (.Delete [t] p) env) sc env O F φ s fl KA Kw) (λoe ie ps c=>bV c λc1 c2=>?_) c) c) c;refine oE ev λov Kx e1 ev=>oE ev λiv Ky e2 ev=>oI ev λhr ev=>oE ev λr K4 e3 ev=>to (P:=λa b c=>az Z w A _ sc env O F φ s a b c) ev λQ hQ=>wpAny_Delete (wpAny_deleteEach_cons (wpAny_delete_Subscript ?_));refine((dG hk hC G o).run c1 e1 rm R L).good _ λF1 Kz vo h1 tk S1 R1 V1=>?_;refine((dG hk hC G i).run (s:=sw s h1 tk) c2 e2 rm R1 (L.step S1)).good _ λF2 K3 vi h2 KR S2 R2 V2=>?_;exact q8 (s:=sw s h2 KR) hC G rm.pre hr e3 R2 (V1.mono S2.le S2.pre) V2 λF3 Ms h3 Lc S3 R3=>wpAny_deleteEach_nil (hQ.fin L ((S1.trans S2).trans S3) R3)
theorem HB:XG Z w k X .bad:=.mk <|by
 intro Ld sc σ KA st Kw fl A F φ s env O c ev rm R L;exact absurd ev bg
theorem Ei:Nf Z w k X []:=.mk <|by
 intro Np sc σ KA st Kw fl A F φ s env O c ev rm R L;exact isEmpty_iff.mp c▸to (P:=λa b c=>az Z w A _ sc env O F φ s a b c) ev λQ hQ=>wpAny_execs_nil (hQ F φ .next s.heap s.toks (Step.refl ..) R L .next)
theorem At {t:S}{r:List S}(ht:XG Z w k X t)(hr:Nf Z w k X r):Nf Z w k X (t::r):=.mk <|by
 intro Np sc σ KA st Kw fl A F φ s env O c ev rm R L;refine bD (P:=λNp=>az Z w A (execs Np env) sc env O F φ s fl KA Kw) (λx xs c=>bV c λc1 c2=>λQ hQ=>wpAny_execs_cons ?_) c;refine oF ev (λKC Kx e1 ev=>ht.run c1 e1 rm R L _ λF1 Kz Lv h1 tk S1 R1 L1 f1=>?_) (λKC Kx e1 ev=>ht.run c1 e1 rm R L _ λF1 Kz Lv h1 tk S1 R1 L1 f1=>?_) (λu KC Kx e1 ev=>ht.run c1 e1 rm R L _ λF1 Kz Lv h1 tk S1 R1 L1 f1=>?_)
 ·cases f1;exact hr.run (s:=sw s h1 tk) c2 ev rm R1 L1 Q (hQ.step S1)
 ·cases ev;cases f1;exact hQ F1 Kz .brk h1 tk S1 R1 L1 .brk
 ·cases ev
  cases f1 with
  |ret hv=>exact hQ F1 Kz _ h1 tk S1 R1 L1 (.ret hv)
theorem ug (t:S):XG Z w k X t:=t.rec (motive_1:=XG Z w k X) (motive_2:=Nf Z w k X)
 (λ_ _=>Ht hk hC G)
 (λ_ _=>Ea hk hC G)
 (λ_ _=>Eb hk hC G)
 (λ_ _ _=>Hu hk hC G)
 (λ_ _ _=>Ec hk hC G)
 (λ_ _ _ _=>Ed hk hC G)
 (λ_ _=>Bz hk hC G)
 (λ_ _ _=>Ee hk hC G)
 (λ_=>Ef hk hC G)
 (λ_ _ _ a b=>Hv hk hC G a b)
 (λ_ _ a=>Hw hk hC G a)
 (λ_ _ _ _ a b=>Hx hk hC G a b)
 (λ_ _ _ a=>Eg hk hC G a)
 (λ_=>Hy hk hC G)
 (Eh hk hC G)
 (Hz hk hC G)
 (λ_ _=>HA hk hC G)
 (HB hk hC G)
 (Ei hk hC G)
 (λ_ _ a b=>At hk hC G a b)
theorem vW:∀ t:List S,Nf Z w k X t:=by
 intro t
 induction t with
 |nil=>
  exact Ei hk hC G
 |cons t r ih=>
  exact At hk hC G (ug hk hC G t) (ih)
end
end
section
variable {p:Pos}{a:Addr}
theorem pz (f:Str×Value->PUnit->Sem (ForInStep PUnit))(hf:∀ n v u,f (n,v) u=(do storeName env n v;pure (.yield ⟨⟩)))(ps:List Nat)(vs:List AV)(KO:List Value){σ KA:Loc}{s:Shared}{Q:PUnit->Shared->Prop}
  (c:∀ x∈ps,sc.names.lookup (nm x)=some .local\/sc.names.lookup (nm x)=some .cell) (e:bA σ ps vs=some KA):KI F φ vs KO->KH F φ σ sc env O s.heap->KD Z F φ st s.heap ->
  (∀ h1 tk,Step F φ O s.heap F φ h1->KD Z F φ st h1->KH F φ KA sc env O h1->Q ⟨⟩ ⟨h1,s.gens,s.drawn,tk,s.os⟩) ->
  aA w A (forIn ((ps.map nm).zip KO) ⟨⟩ f) Q aq s:=by
 refine eF (P:=λσ ps vs=>∀ KO s,(∀ x∈ps,sc.names.lookup (nm x)=some .local\/sc.names.lookup (nm x)=some .cell)->KI F φ vs KO->KH F φ σ sc env O s.heap->KD Z F φ st s.heap ->
  (∀ h1 tk,Step F φ O s.heap F φ h1->KD Z F φ st h1->KH F φ KA sc env O h1->Q ⟨⟩ ⟨h1,s.gens,s.drawn,tk,s.os⟩) ->
  aA w A (forIn ((ps.map nm).zip KO) ⟨⟩ f) Q aq s) (λKO s c hv L R hQ=>wpAny_pure (hQ s.heap s.toks (Step.refl ..) R L)) ?_ ps vs σ e KO s c
 intro σ x xs v vs ih KO s c hv L R hQ;refine KI.consR (Q:=λKO=>aA w A (forIn (((x::xs).map nm).zip KO) ⟨⟩ f) Q aq s) (λv' KO hv OK=>?_) hv;rw[map_cons,List.zip_cons_cons,forIn_cons,hf];refine wpAny_bind (wpAny_bind (bQ L R (c x (.head _)) hv λh1 tk S1 R1 L1=>wpAny_pure ?_));exact ih KO ⟨h1,s.gens,s.drawn,tk,s.os⟩ (λy m=>c y (.tail _ m)) OK L1 R1 λh2 KR S2 R2 L2=>hQ h2 KR (S1.trans S2) R2 L2
structure Lu (F:bf)(φ:List Addr)(Lm:Loc)(scope:Scope)(cl:List (Str×Addr))(h:Heap):Prop where
 ex:∀ x c,(x,c)∈cl->(∃ v,h.IsCell c v)/\F c=none/\c∉φ/\c≠cQ/\c≠dr
 apart:∀ x y c,(x,c)∈cl->(y,c)∈cl->x=y
 free:∀ x,scope.names.lookup x=some .free->∃ c,cl.lookup x=some c
 only:∀ x c,(x,c)∈cl->scope.names.lookup x=some .free
 val:∀ x v,af Lm x=some v->∃ v' c,VR F φ v v'/\cl.lookup (nm x)=some c/\h.IsCell c (some v')
theorem iG {cl:List (Str×Addr)}{ps:List Nat}{vs:List AV}{KO:List Value}{qual:Str}{func:Option Addr}{code:Value}{Q:Env->Shared->Prop}(R:KD Z F φ st s.heap)(hk:scope.kind=.function)(nd:(scope.names.map (·.1)).Nodup)
  (C:Lu F φ Lm scope cl s.heap) (OX:∀ x∈ps,scope.names.lookup (nm x)=some .local\/scope.names.lookup (nm x)=some .cell) (hs:bA Lm ps vs=some σ) (V:KI F φ vs KO)
  (hQ:∀ h1 KG O' tk,Step F φ [] s.heap F φ h1->KD Z F φ st h1->(∀ a∈O',s.heap.get? a=none)->KH F φ σ scope KG O' h1->KG.scope=scope->KG.code=code->KG.qual=qual->(∀ x c,scope.names.lookup x=some .free->cl.lookup x=some c->KG.cells.lookup x=some c)->Q KG ⟨h1,s.gens,s.drawn,tk,s.os⟩) :
  aA w A (newFunctionEnv scope mainGlobals cl ((ps.map nm).zip KO) qual func code none builtinsNs) Q aq s:=by
 unfold newFunctionEnv;refine wpAny_bind (wpAny_alloc ?_);refine wpAny_bind (wpAny_layCells _ (λname kind cells=>by cases PY:kind==NameKind.cell<;>simp[PY]) _ _ _ _ ?_);generalize hB:s.heap.push { cls:=Value.type (if (none:Option Env).isSome=true then "dict" else "frame"),data:=Data.dict #[] }=B;have sB:B.objs.size=s.heap.objs.size+1:=by rw[← hB,size_push]
 have kB:∀ b o,s.heap.get? b=some o->B.get? b=some o:=λb o e=>hB▸aC b o e;have kC:∀ b o,B.get? b=some o->(pushCells B scope.names).get? b=some o:=pushCells_keeps _ _;have kk:∀ b o,s.heap.get? b=some o->(pushCells B scope.names).get? b=some o:=λb o e=>kC b o (kB b o e);have ex:∀ {x:Str} {c:Addr},(x,c)∈cl->∃ o,s.heap.get? c=some o:=λm=>let ⟨⟨v,o,e,_⟩,_⟩:=C.ex _ _ m;⟨o,e⟩
 refine av (vw scope.names B cl (λx c m=>by
  refine aw (ex m) λo e=>?_
  rw[sB];exact lt_succ_of_lt (lt_size e)) C.apart) λa1 a2=>?_
 have PZ:B.Ns s.heap.objs.size (λ_=>none):=by rw[← hB];exact Heap.Ns.new s.heap _
 have absent:∀ c,s.heap.objs.size<=c->s.heap.get? c=none:=λc hc=>by
  cases q:s.heap.get? c with
  |none=>rfl
  |some o=>exact absurd (lt_size q) (not_lt.mpr hc)
 have Mp:∀ x,scope.names.lookup x=some .free->(x,NameKind.cell)∉scope.names:=λx e m=>by rw[dN nd m]at e;cases e
 have split:∀ x c,(x,c)∈cellsFrom B.objs.size scope.names cl->(x,c)∈cl\/(s.heap.objs.size<c/\(pushCells B scope.names).IsCell c none):=λx c m=>by
  rcases a1 x c m with m |⟨m1,_,m3⟩
  ·exact .inl m
  ·exact .inr ⟨by rw[sB]at m1;exact m1,m3⟩
 have M3:∀ x c,scope.names.lookup x=some .free->cl.lookup x=some c->(cellsFrom B.objs.size scope.names cl).lookup x=some c:=λx c e e2=>by rw[rY _ _ _ _ (Mp x e)];exact e2
 have L0:KH F φ Lm scope { scope:=scope,locals:=s.heap.objs.size,globals:=mainGlobals,cells:=cellsFrom B.objs.size scope.names cl,qual:=qual,func:=func,code:=code,frame:=some s.heap.objs.size,builtins:=builtinsNs }
   (s.heap.objs.size::((cellsFrom B.objs.size scope.names cl).map (·.2)).filter λc=>decide (s.heap.objs.size<=c)) (pushCells B scope.names):=by
  refine⟨hk,rfl,rfl,λx e=>e,λx e=>e,λx e=>⟨e,?_⟩,λx e=>⟨.inr e,?_⟩,⟨_,PZ.keeps kC⟩,λx v e=>?_,λx y c e1 e2=>?_,λm=>?_,λa m=>?_,λc m=>?_,.head _,λa m=>?_⟩
  ·refine aw (rZ scope.names B.objs.size cl x (.inl (cR e))) λc hc=>?_;refine⟨c,hc,.tail _ (mem_filter.mpr ⟨mem_map.mpr ⟨(x,c),KS.kept.lookup_mem hc,rfl⟩,?_⟩)⟩;rcases a1 x c (KS.kept.lookup_mem hc) with m |⟨m,_⟩
   ·have:=C.only x c m;rw[e]at this;cases this
   ·rw[sB]at m;exact decide_eq_true (le_of_succ_le m)
  ·refine aw (C.free x e) λc hc=>?_;exact⟨c,M3 x c e hc⟩
  ·refine cP (C.val x v e) λv' c hv h1 h2=>?_;have ef:=C.only _ _ (KS.kept.lookup_mem h1);exact⟨v',hv,.inr ⟨.inr ef,c,M3 _ c ef h1,h2.keeps kk⟩⟩
  ·exact a2 x y c (KS.kept.lookup_mem e1) (KS.kept.lookup_mem e2)
  ·refine ak (mem_map.mp m) ?_;rintro⟨x,c⟩ m1 m2;simp only at m2;subst m2;rcases split x _ m1 with q |⟨q,_⟩
   ·refine aw (ex q) λo e=>?_;exact absurd (lt_size e) (lt_irrefl _)
   ·exact absurd q (lt_irrefl _)
  ·cases m with
   |head=>exact R.absent (absent _ (le_refl _))
   |tail _ m=>
    refine ak (mem_map.mp m) ?_;rintro⟨x,c⟩ m1 m2;simp only at m2;subst m2;rcases split x _ m1 with q |⟨q,_⟩
    ·exact(C.ex _ _ q).2
    ·exact R.absent (absent _ (le_of_lt q))
  ·refine ak (mem_map.mp m) ?_;rintro⟨x,c'⟩ m1 m2;simp only at m2;subst m2;rcases split x _ m1 with q |⟨_,q⟩
   ·refine av (C.ex _ _ q) ?_;rintro⟨v,hv⟩ _;exact⟨v,hv.keeps kk⟩
   ·exact⟨_,q⟩
  ·cases m with
   |head=>exact .head _
   |tail _ m=>exact .tail _ (mem_filter.mp m).1
 refine wpAny_bind (pz (s:=⟨pushCells B scope.names,s.gens,s.drawn,s.toks,s.os⟩) _ (λ_ _ _=>rfl) ps vs KO OX hs V L0 (R.ext kk) λh1 tk S1 R1 L1=>?_)
 have hO:∀ a∈(s.heap.objs.size::((cellsFrom B.objs.size scope.names cl).map (·.2)).filter λc=>decide (s.heap.objs.size<=c)),s.heap.get? a=none:=λa m=>by
  cases m with
  |head=>exact absent _ (le_refl _)
  |tail _ m=>exact absent a (of_decide_eq_true (mem_filter.mp m).2)
 exact wpAny_pure (hQ h1 _ _ tk ((Step.ext (own:=[]) kk).hide S1 hO) R1 hO L1 rfl rfl rfl M3)
noncomputable def recOk (K:Frag)(cd:Value)(q:Str):Bool:=match cd with
 |.ref c=>(K.lookup c).any λo=>match o.data with
  |.fields vs=>(vs[1]?).any λv=>match v with
   |.str y _=>y==q
   |_=>false
  |_=>false
 |_=>false
noncomputable def fj (K:Frag)(a:Addr)(ps:List Nat)(b:List S):Bool:=(K.lookup a).any λo=>match o.data with
 |.func fd=>(match fd.body with |.stmts l=>cY fd.scope b l |_=>false)&&(fd.scope.kind==.function&&(!fd.scope.isCoroutine&&(!fd.scope.isGenerator&&(decide ((fd.scope.names.map (·.1)).Nodup)&&(fd.scope.names.all (λy=>y.2 != .free)&&(fd.globals==mainGlobals&&(fd.builtins==builtinsNs &&
   (fd.closure.isEmpty&&(recOk K fd.code fd.qualname&&ps.all λx=>fd.scope.names.lookup (nm x)==some .local||fd.scope.names.lookup (nm x)==some .cell)))))))))
 |_=>false
structure FnAt (K:Frag)(a:Addr)(ps:List Nat)(b:List S)(o:Obj)(fd:FuncData)(l:List Stmt):Prop where
 at_:K.lookup a=some o
 data:o.data=.func fd
 body:fd.body=.stmts l
 chk:cY fd.scope b l=true
 kind:fd.scope.kind=.function
 co:fd.scope.isCoroutine=false
 gen:fd.scope.isGenerator=false
 nd:(fd.scope.names.map (·.1)).Nodup
 nofree:∀ x,fd.scope.names.lookup x≠some .free
 glob:fd.globals=mainGlobals
 blt:fd.builtins=builtinsNs
 clo:fd.closure=[]
 code:recOk K fd.code fd.qualname=true
 ps:∀ x∈ps,fd.scope.names.lookup (nm x)=some .local\/fd.scope.names.lookup (nm x)=some .cell
theorem iH {K:Frag}{a:Addr}{ps:List Nat}{b:List S}(h:fj K a ps b=true):∃ o fd l,FnAt K a ps b o fd l:=by
 refine ak (oz h) λo h0 h=>?_;split at h
 ·rename_i fd hd;refine av (bC h) λh1 h=>?_;refine av (bC h) λh2 h=>?_;refine av (bC h) λh3 h=>?_;refine av (bC h) λh4 h=>?_;refine av (bC h) λh5 h=>?_;refine av (bC h) λh6 h=>?_;refine av (bC h) λh7 h=>?_;refine av (bC h) λh8 h=>?_;refine av (bC h) λh9 h=>?_;refine av (bC h) λOw Qf=>?_;split at h1
  ·rename_i l hl;refine⟨o,fd,l,h0,hd,hl,h1,dk h2,by simpa using h3,by simpa using h4,of_decide_eq_true h5,λx hx=>?_,dk h7,dk h8,isEmpty_iff.mp h9,Ow,λx m=>?_⟩
   ·have:=all_eq_true.mp h6 _ (KS.kept.lookup_mem hx);simp at this
   ·have:=all_eq_true.mp Qf x m
    cases q:fd.scope.names.lookup (nm x)==some .local with
    |true=>exact .inl (dk q)
    |false=>rw[q]at this;exact .inr (dk this)
  ·cases h1
 ·cases h
set_option tactic.hygienic true in
theorem codeRec_of {K:Frag}{cd:Value}{q:Str}(X:K.In h)(r:recOk K cd q=true):h.CodeRec cd q:=by
 unfold recOk at r;split at r
 ·rename_i c;refine ak (oz r) λo h0 r=>?_;split at r
  ·rename_i vs hd;refine ak (oz r) λv hv r=>?_;split at r
   ·rename_i y t;exact⟨c,o,vs,t,rfl,X _ _ h0,hd,by rw[hv,dk r]⟩
   ·cases r
  ·cases r
 ·cases r
noncomputable def vX:Fw->AV
 |.ret v=>v
 |_=>.none
theorem uh {X:Cx}{k:Nat}(hk:1<=k)(hC:cx Z w k X.C)(G:Glob Z){b:List S}{l:List Stmt}{fl:Fw}{KG:Env}{O':List Addr}{R:Result->Shared->Prop}{s0:Shared}
  (c:cY sc b l=true) (e:cw X b σ st=some (fl,KA,Kw)) (hb:fl≠.brk) (rm:KP (k+2) A) (Rl:KD Z F φ st s.heap) (L:KH F φ σ sc KG O' s.heap)
  (hR:∀ F' KJ v' h' tk,Step F φ O' s.heap F' KJ h'->KD Z F' KJ Kw h'->VR F' KJ (vX fl) v'->R (.ok (.ret v')) ⟨h',s.gens,s.drawn,tk,s.os⟩) :
  codeAny (model aM w) A (.func l KG) R s:=by
 refine codeAny_func (o0 ((vW hk hC G b).run c e (rm.deeper KG) Rl L _ λF1 Kz Lv h1 tk S R1 L1 f=>?_))
 cases f with
 |next=>exact hR F1 Kz _ h1 tk S R1 .none
 |brk=>exact(hb rfl).elim
 |ret hv=>exact hR F1 Kz _ h1 tk S R1 hv
theorem pA {X:Cx}{k:Nat}(hk:1<=k)(hC:cx Z w k X.C)(G:Glob Z){a:Addr}{ps:List Nat}{b:List S}{o:Obj}{fd:FuncData}{l:List Stmt}{vs:List AV}{KO:List Value}{args:Args}{fl:Fw}{R:Result->Shared->Prop}
  (fa:FnAt Z.K a ps b o fd l) (hb:BindsTo s fd args ((ps.map nm).zip KO)) (hs:bA [] ps vs=some σ) (e:cw X b σ st=some (fl,KA,Kw)) (hbrk:fl≠.brk) (rm:KP (k+2) A) (Rl:KD Z F φ st s.heap) (V:KI F φ vs KO)
  (hR:∀ F' KJ v' h' tk,Step F φ [] s.heap F' KJ h'->KD Z F' KJ Kw h'->VR F' KJ (vX fl) v'->R (.ok (.ret v')) ⟨h',s.gens,s.drawn,tk,s.os⟩) :
  codeAny (model aM w) A (.call (.ref a) args) R s:=by
 have X':=Rl.base.inK Rl.frz;refine codeAny_call_function rm.depth (X' _ _ fa.at_) fa.data fa.co fa.gen fa.body (codeRec_of X' fa.code) (hb _ _ _ _ ?_);rw[fa.glob,fa.blt,fa.clo];have C:Lu F φ [] fd.scope [] s.heap:=⟨λx c m=>(by cases m),λx y c m=>(by cases m),λx e=>(fa.nofree x e).elim,λx c m=>(by cases m),λx v e=>(by cases e)⟩;refine o0 (iG Rl fa.kind fa.nd C fa.ps hs V λh1 KG O' tk S1 R1 hO L1 _ _ _ _=>⟨R1.base.noLimit R1.frz,?_⟩);refine uh (s:=sw s h1 tk) (s0:=s) hk hC G fa.chk e hbrk rm R1 L1 λF2 K3 v' h2 KR S2 R2 V2=>?_;exact hR F2 K3 v' h2 KR (S1.hide S2 hO) R2 V2
end
theorem vY {α β:Type}{f g:α->Option β}:∀ {l:List α},(∀ x∈l,f x=g x)->l.filterMap f=l.filterMap g:=by
 intro l
 induction l with
 |nil=>
  intro _;exact rfl
 |cons x l ih=>
  intro h;rw[filterMap_cons,filterMap_cons,h x (.head _),ih λy m=>h y (.tail _ m)]
theorem kS:∀ {ns:List Str} {vs:List Value},ns.Nodup->vs.length=ns.length->ns.filterMap (λn=>((ns.zip vs).lookup n).map (n,·))=ns.zip vs/\ns.filter (λn=>((ns.zip vs).lookup n).isNone)=[]
 |[],vs,_,h=>by cases vs<;>first |exact⟨rfl,rfl⟩ |cases h
 |n::ns,[],_,h=>by cases h
 |n::ns,v::vs,nd,h=>by
  refine av (nodup_cons.mp nd) λh1 h2=>?_;refine av (kS (ns:=ns) (vs:=vs) h2 (by simpa using h)) λe1 e2=>?_;have ne:∀ m∈ns,(m==n)=false:=λm hm=>beq_eq_false_iff_ne.mpr λz=>h1 (z▸hm)
  have f1:ns.filterMap (λm=>(((n::ns).zip (v::vs)).lookup m).map (m,·))=ns.filterMap (λm=>((ns.zip vs).lookup m).map (m,·)):=by
   refine vY λm hm=>?_;rw[List.zip_cons_cons,lookup_cons,ne m hm]
  have f2:ns.filter (λm=>(((n::ns).zip (v::vs)).lookup m).isNone)=ns.filter (λm=>((ns.zip vs).lookup m).isNone):=by
   apply filter_congr;intro m hm;rw[List.zip_cons_cons,lookup_cons,ne m hm]
  refine⟨?_,?_⟩
  ·rw[filterMap_cons,f1,e1];simp
  ·rw[filter_cons,f2,e2];simp
@[elab_as_elim] theorem HC {A1 A2 A3 A4 A5 A6:Type}{a1 b1:A1}{a2 b2:A2}{a3 b3:A3}{a4 b4:A4}{a5 b5:A5}{a6 b6:A6}{P:A1->A2->A3->A4->A5->A6->Prop}(h:P b1 b2 b3 b4 b5 b6)(h1:a1=b1)(h2:a2=b2)(h3:a3=b3)(h4:a4=b4)(h5:a5=b5)(h6:a6=b6):P a1 a2 a3 a4 a5 a6:=h1▸h2▸h3▸h4▸h5▸h6▸h
@[elab_as_elim] theorem HD {A1:Type}{a1 b1:A1}{P:A1->Prop}(h:P b1)(h1:a1=b1):P a1:=h1▸h
@[elab_as_elim] theorem HE {A1 A2:Type}{a1 b1:A1}{a2 b2:A2}{P:A1->A2->Prop}(h:P b1 b2)(h1:a1=b1)(h2:a2=b2):P a1 a2:=h1▸h2▸h
theorem kT {fd:FuncData}{ns:List Str}{vs:List Value}(h1:fd.params.posonlyargs=[])(h2:fd.params.kwonlyargs=[])(h3:fd.params.vararg=none)(h4:fd.params.kwarg=none)(h5:fd.defaults=.none)(h6:fd.params.args.map (·.arg)=ns)(nd:ns.Nodup)
  (hl:vs.length=ns.length):bindArgs fd ⟨vs,[]⟩=pure (ns.zip vs):=by
 refine av (kS nd hl) λe1 e2=>?_;unfold bindArgs;dsimp only;refine HC ?_ h1 h2 h3 h4 h5 h6;have h0:¬ ((decide (vs.length>ns.length)&&true)=true):=λh=>absurd ((and_eq_true ..).mp h).1 (decide_eq_false (not_lt_of_le (le_of_eq hl))▸LU);refine Eq.trans (if_neg h0) ?_;refine HD ?_ (List.drop_nil (i:=0-ns.length));refine HE ?_ ((congrArg _ (List.take_length ..)).trans e2:(ns.take ns.length).filter (λn=>((ns.zip vs).lookup n).isNone)=[]) (List.zip_nil_right (l:=ns.drop ns.length));exact congrArg (pure (f:=Sem)) ((congrArg _ (append_nil ns)).trans e1:List.filterMap (λn=>Option.map (λx=>(n,x)) ((ns.zip vs).lookup n)) (ns++[])=_)
noncomputable def Ej:List S:=[.asg (.nm 130) (.ite (.val (.isNon (.l 130) true)) (.l 130) (.new false (.list []))),.iff (.val (.isTy (.l 130) .list true)) [.bad] [],.setA (.l 129) 5 (.l 130),.iff (.val (.bool true)) [.for (.tup [61,175]) (.l 130) [.expr (.conv (.l 129) (.l 61) true),.expr (.conv (.l 129) (.l 175) false)] []] []]
noncomputable def Gp:List S:=[.iff (.val (.isTy (.l 64) .str false)) [.asg (.nm 170) (.ite (.val (.l 110)) (.rxg true) (.rxg false)),.iff (.val (.sm .search (.l 170) [.l 64])) [.bad] [],.ret (.l 64)] [],.bad]
noncomputable def Jh:List S:=[.asg (.nm 110) (.conv (.l 129) (.sm .lower (.l 110) []) true),.setSl (.attr (.l 129) 5) (.new false (.comp (.l 174) (.nm 174) (.attr (.l 129) 5) [.val (.cmp .NotEq (.sm .lower (.sub (.l 174) (.int 0)) []) (.l 110))] [110]))]
noncomputable def Ji:List S:=[.asg (.nm 110) (.conv (.l 129) (.sm .lower (.l 110) []) true),.ret (.new false (.comp (.sub (.l 174) (.int 1)) (.nm 174) (.attr (.l 129) 5) [.val (.cmp .Eq (.sm .lower (.sub (.l 174) (.int 0)) []) (.l 110))] [110]))]
noncomputable def Ek:List S:=[.asg (.nm 110) (.conv (.l 129) (.sm .lower (.l 110) []) true),.for (.tup [61,175]) (.attr (.l 129) 5) [.iff (.val (.cmp .Eq (.sm .lower (.l 61) []) (.l 110))) [.ret (.l 175)] []] [],.ret (.l 132)]
noncomputable def Jj:List S:=[.ret (.new false (.comp (.l 175) (.tup [61,175]) (.attr (.l 129) 5) [] []))]
noncomputable def yP:List S:=[.asg (.nm 125) (.new true (.list [])),.iff (.val (.isNon (.l 134) true)) [.asg (.nm 134) (.conv (.l 129) (.l 134) false),.expr (.sm .append (.l 125) [.l 134])] []]
noncomputable def yQ:List S:=[.expr (.sm .append (.attr (.l 129) 5) [.tup [.conv (.l 129) (.l 133) true,.sm .join (.str [59,32]) [.l 125]]])]
noncomputable def HF:List S:=[.iff (.val (.cmp .LtE (.b .Sub (.sm .bitlen (.l 66) []) (.l 0)) (.dlim))) [.ret (.bi .divmod [.l 66,.l 67])] [],.asg (.nm 68) (.b .BitAnd (.l 0) (.int 1)),.iff (.val (.l 68)) [.aug 66 .LShift (.int 1),.aug 67 .LShift (.int 1),.aug 0 .Add (.int 1)] [],.asg (.nm 69) (.b .RShift (.l 0) (.int 1)),.asg (.nm 70) (.b .Sub (.b .LShift (.int 1) (.l 69)) (.int 1)),.asg2 [73,74] [.b .RShift (.l 67) (.l 69),.b .BitAnd (.l 67) (.l 70)],.asg (.tup [136,75]) (.call 15 [.b .RShift (.l 66) (.l 0),.b .BitAnd (.b .RShift (.l 66) (.l 69)) (.l 70),.l 67,.l 73,.l 74,.l 69]),.asg (.tup [137,75]) (.call 15 [.l 75,.b .BitAnd (.l 66) (.l 70),.l 67,.l 73,.l 74,.l 69]),.iff (.val (.l 68)) [.aug 75 .RShift (.int 1)] [],.ret (.tup [.b .BitOr (.b .LShift (.l 136) (.l 69)) (.l 137),.l 75])]
noncomputable def HG:List S:=[.iff (.val (.cmp .Eq (.b .RShift (.l 71) (.l 0)) (.l 73))) [.asg2 [80,75] [.b .Sub (.b .LShift (.int 1) (.l 0)) (.int 1),.b .Add (.b .Sub (.l 71) (.b .LShift (.l 73) (.l 0))) (.l 73)]] [.asg (.tup [80,75]) (.call 14 [.l 71,.l 73,.l 0])],.asg (.nm 75) (.b .Sub (.b .BitOr (.b .LShift (.l 75) (.l 0)) (.l 72)) (.b .Mult (.l 80) (.l 74))),.whl (.val (.cmp .Lt (.l 75) (.int 0))) [.aug 80 .Sub (.int 1),.aug 75 .Add (.l 67)],.ret (.tup [.l 80,.l 75])]
noncomputable def HH:List S:=[.asg (.nm 0) (.sm .bitlen (.l 67) []),.asg (.nm 76) (.call 16 [.l 66,.l 0]),.asg (.nm 75) (.int 0),.asg (.nm 78) (.new true (.list [])),.forR 79 (.l 76) [.asg (.tup [178,75]) (.call 14 [.b .Add (.b .LShift (.l 75) (.l 0)) (.l 79),.l 67,.l 0]),.expr (.sm .append (.l 78) [.l 178])],.expr (.sm .reverse (.l 78) []),.asg (.nm 80) (.call 17 [.l 78,.l 0]),.ret (.tup [.l 80,.l 75])]
noncomputable def Jk:List S:=[.iff (.val (.cmp .Eq (.l 67) (.int 0))) [.bad] [.iff (.val (.cmp .Lt (.l 67) (.int 0))) [.bad,.bad] [.iff (.val (.cmp .Lt (.l 66) (.int 0))) [.bad,.bad] [.ret (.call 13 [.l 66,.l 67])]]]]
noncomputable def HI:List S:=[.asg (.nm 82) (.new true (.list [])),.for (.nm 83) (.bi .range1 [.int 32]) [.asg (.nm 149) (.b .LShift (.int 1) (.l 83)),.iff (.val (.b .BitAnd (.l 81) (.l 149))) [.expr (.sm .append (.l 82) [.flag 149]),.aug 81 .BitXor (.l 149),.iff (.not (.val (.l 81))) [.brk] []] []] [.expr (.sm .append (.l 82) [.bi .hex [.l 81]])],.ret (.sm .join (.str [44,32]) [.l 82])]
noncomputable def HJ:List S:=[.asg (.nm 67) (.bi .next [.l 84]),.asg (.nm 85) (.b .BitAnd (.l 67) (.int 63)),.whl (.val (.b .BitAnd (.l 67) (.int 64))) [.aug 85 .LShift (.int 6),.asg (.nm 67) (.bi .next [.l 84]),.aug 85 .BitOr (.b .BitAnd (.l 67) (.int 63))],.ret (.l 85)]
noncomputable def El:List S:=[.setA (.l 129) 3 (.l 154),.asg2 [152,153] [.cattr false,.cattr true],.asg (.nm 155) (.new true (.list [])),.asgs [67,0,1] (.int 0),.for (.nm 156) (.attr (.l 129) 3) [.iff (.val (.cmp .Eq (.l 156) (.l 152))) [.asg (.nm 0) (.b .Add (.l 0) (.int 1)),.asg (.nm 67) (.b .Add (.l 67) (.int 1))] [.iff (.val (.cmp .Eq (.l 156) (.l 153))) [.asg (.nm 0) (.b .Add (.l 0) (.int 1)),.asg (.nm 1) (.b .Add (.l 1) (.int 1)),.iff (.val (.cmp .GtE (.l 67) (.bi .len [.l 155]))) [.asg (.nm 155) (.new true (.cat (.l 155) (.new false (.rep (.int 0) (.b .Add (.b .Sub (.l 67) (.bi .len [.l 155])) (.int 1))))))] [],.setI (.l 155) (.l 67) (.b .Add (.sub (.l 155) (.l 67)) (.int 1)),.asg (.nm 67) (.int 0)] [.brk]]] [],.setA (.l 129) 0 (.l 0),.setA (.l 129) 1 (.l 1),.setA (.l 129) 2 (.tup [.bi .tuple [.l 155],.l 67]),.setA (.l 129) 4 (.cmp .LtE (.bi .len [.l 155]) (.int 1))]
noncomputable def Jl:List S:=[.ret (.cmp .Eq (.attr (.l 129) 2) (.attr (.l 158) 2))]
noncomputable def b0:List S:=[.asg (.nm 87) (.new true (.list [.int 0,.int 6,.int 6,.int 4,.int 5])),.for (.nm 61) (.bi .range1 [.bi .len [.l 86]]) [.augI (.l 87) (.b .Mod (.l 61) (.int 5)) .Add (.sub (.l 86) (.l 61))] [],.ret (.l 87)]
noncomputable def b1:List S:=[.asg (.nm 89) (.new false (.split (.str [79,80,84,73,77,73,90,69,68,32,78,69,87,76,79,67,65,76,83,32,86,65,82,65,82,71,83,32,86,65,82,75,69,89,87,79,82,68,83,32,78,69,83,84,69,68,32,71,69,78,69,82,65,84,79,82,32,78,79,70,82,69,69,32,67,79,82,79,85,84,73,78,69,32,73,84,69,82,65,66,76,69,95,67,79,82,79,85,84,73,78,69,32,65,83,89,78,67,95,71,69,78,69,82,65,84,79,82]) (.str [32]))),.ret (.ite (.val (.cmp .Lt (.l 88) (.int 10))) (.sub (.l 89) (.l 88)) (.b .Add (.b .Add (.str [48,120]) (.sub (.str [49,50,52,56]) (.b .Mod (.l 88) (.int 4)))) (.b .Mult (.str [48]) (.b .FloorDiv (.l 88) (.int 4)))))]
noncomputable def b2:List S:=[.asg (.nm 90) (.new true (.list [])),.for (.nm 91) (.bi .range2 [.int 1,.int 4]) [.asg (.nm 80) (.b .Add (.int 2) (.b .Mod (.sub (.l 87) (.b .Sub (.l 91) (.int 1))) (.b .Sub (.int 4) (.l 91)))),.asg (.nm 160) (.new false (.cat (.new false (.list [.l 91])) (.new false (.comp (.sub (.l 162) (.int 2)) (.nm 162) (.l 90) [] [])))),.asg (.nm 94) (.new false (.comp (.l 75) (.nm 75) (.bi .range2 [.int 1,.b .Add (.b .Mult (.l 91) (.l 80)) (.int 1)]) [.and (.val (.cmp .Eq (.b .Mod (.b .Mult (.l 91) (.l 80)) (.l 75)) (.int 0))) (.val (.cmp .NotIn (.l 75) (.l 160)))] [91,80,160])),.asg (.nm 75) (.sub (.l 94) (.b .Mod (.b .FloorDiv (.sub (.l 87) (.b .Sub (.l 91) (.int 1))) (.int 6)) (.bi .len [.l 94]))),.expr (.sm .append (.l 90) [.tup [.l 91,.l 80,.l 75,.b .FloorDiv (.b .Mult (.l 91) (.l 80)) (.l 75)]])] [],.ret (.l 90)]
noncomputable def b3:List S:=[.ret (.bi .min [.new false (.cat (.new false (.comp (.b .Sub (.l 163) (.int 1)) (.tup [91,80,75,163]) (.l 90) [.val (.cmp .Eq (.l 75) (.l 92))] [92])) (.new false (.list [.b .FloorDiv (.int 9) (.l 92)])))])]
noncomputable def b4:List S:=[.asg (.nm 94) (.new false (.comp (.l 162) (.nm 162) (.l 90) [.val (.cmp .GtE (.call 3 [.sub (.l 162) (.int 0),.l 90]) (.sub (.l 162) (.int 1)))] [90])),.asg (.tup [91,80,75,163]) (.sub (.l 94) (.b .Mod (.l 93) (.bi .len [.l 94]))),.asg (.nm 95) (.new true (.rep (.l 91) (.l 80))),.for (.nm 61) (.bi .range1 [.int 3]) [.asg (.nm 92) (.b .Add (.int 1) (.b .FloorDiv (.b .Mod (.b .FloorDiv (.l 93) (.b .Pow (.int 8) (.l 61))) (.int 8)) (.int 2))),.iff (.and (.val (.cmp .LtE (.b .Add (.bi .sum [.l 95]) (.l 92)) (.int 9))) (.val (.cmp .Lt (.sm .count (.l 95) [.l 92]) (.call 3 [.l 92,.l 90])))) [.expr (.sm .append (.l 95) [.l 92])] []] [],.ret (.l 95)]
noncomputable def b5:List S:=[.asg (.nm 96) (.new true (.comp (.sm .count (.l 95) [.l 92]) (.nm 92) (.bi .range1 [.int 7]) [] [95])),.asg (.nm 97) (.new true (.list [.int 0,.int 0,.int 0])),.for (.nm 98) (.bi .range1 [.int 31]) [.asg (.nm 164) (.new false (.comp (.l 61) (.nm 61) (.bi .range1 [.int 3]) [.val (.cmp .GtE (.sub (.l 96) (.sub (.sub (.l 90) (.l 61)) (.int 0))) (.sub (.sub (.l 90) (.l 61)) (.int 1)))] [96,90])),.iff (.val (.cmp .Eq (.l 164) (.new false (.list [])))) [.ret (.tup [.l 96,.l 97])] [],.asg (.tup [91,80,75,163]) (.sub (.l 90) (.sub (.l 164) (.int 0))),.augI (.l 96) (.l 91) .Sub (.l 80),.augI (.l 96) (.l 75) .Add (.l 163),.augI (.l 97) (.sub (.l 164) (.int 0)) .Add (.int 1)] [],.ret (.tup [.l 96,.new false (.list [])])]
noncomputable def b6:List S:=[.ret (.ite (.or (.val (.cmp .Lt (.l 99) (.int 32))) (.val (.cmp .Eq (.l 99) (.int 127)))) (.bi .chr [.b .Add (.l 99) (.int 128)]) (.bi .chr [.l 99]))]
noncomputable def b7:List S:=[.asg (.nm 100) (.call 6 [.b .Mod (.l 93) (.int 64)]),.whl (.val (.cmp .Gt (.l 93) (.int 63))) [.aug 93 .FloorDiv (.int 64),.asg (.nm 100) (.b .Add (.call 6 [.b .Add (.int 64) (.b .Mod (.l 93) (.int 64))]) (.l 100))],.ret (.l 100)]
noncomputable def b8:List S:=[.asg (.nm 104) (.bi .iter [.new false (.comp (.bi .ord [.l 189]) (.nm 189) (.l 102) [] [])]),.asg (.tup [91,80,75,163]) (.new false (.comp (.b .Sub (.call 19 [.l 104]) (.b .Mult (.int 8) (.l 103))) (.nm 61) (.bi .range1 [.int 4]) [] [104,103])),.asg (.nm 105) (.new false (.drop (.meth 30 (.l 101) [.sub (.str [65,66,67,68,69,70]) (.b .Sub (.l 91) (.int 1))]) (.l 80))),.del (.l 101) (.sub (.str [97,98,99,100,101,102]) (.b .Sub (.l 91) (.int 1))),.for (.nm 106) (.l 105) [.expr (.meth 34 (.l 101) [.sub (.str [97,98,99,100,101,102]) (.b .Sub (.l 91) (.int 1)),.l 106])] [],.for (.nm 61) (.bi .range1 [.l 163]) [.expr (.meth 34 (.l 101) [.sub (.str [65,66,67,68,69,70]) (.b .Sub (.l 75) (.int 1)),.b .Add (.b .Mult (.str [32]) (.l 75)) (.str [9])])] []]
noncomputable def b9:List S:=[.ret (.call 21 [.b .Add (.b .Add (.str [9]) (.sm .join (.str []) [.meth 33 (.l 101) []])) (.str [32,32,120,32,9])])]
noncomputable def HK:List S:=[.asg (.nm 82) (.new false (.comp (.call 1 [.b .Add (.l 107) (.l 61)]) (.nm 61) (.bi .range1 [.int 3]) [] [107])),.asg (.nm 109) (.call 20 [.new true (.list [])]),.for (.nm 61) (.bi .range1 [.int 3]) [.asg (.nm 102) (.sm .join (.str []) [.new false (.comp (.call 7 [.b .Add (.l 93) (.b .Mult (.int 8) (.l 103))]) (.nm 93) (.sub (.l 90) (.l 61)) [] [103])]),.iff (.val (.isNon (.meth 34 (.l 109) [.call 18 [.b .LShift (.int 1) (.b .Add (.l 107) (.l 61))],.l 102]) true)) [.ret (.non)] []] [],.for (.nm 110) (.l 82) [.expr (.meth 34 (.l 109) [.sm .lower (.l 110) [],.str []])] [],.asg (.nm 111) (.call 20 [.new true (.list [])]),.asg (.nm 112) (.new false (.list [.new true (.list []),.new true (.list []),.new true (.list [])])),.for (.nm 98) (.bi .range1 [.int 31]) [.asg (.nm 96) (.b .Add (.sub (.attr (.call 9 [.l 101]) 2) (.int 0)) (.b .Mult (.tup [.int 0]) (.int 7))),.asg (.nm 164) (.new false (.comp (.l 61) (.nm 61) (.bi .range1 [.int 3]) [.val (.cmp .GtE (.sub (.l 96) (.sub (.sub (.l 90) (.l 61)) (.int 0))) (.sub (.sub (.l 90) (.l 61)) (.int 1)))] [96,90])),.asg (.nm 89) (.new false (.split (.call 18 [.bi .sum [.new false (.comp (.b .LShift (.int 1) (.b .Add (.l 107) (.l 61))) (.nm 61) (.l 164) [] [107])]]) (.str [44,32]))),.iff (.and (.val (.cmp .Eq (.l 164) (.new false (.list [])))) (.val (.cmp .Eq (.l 89) (.new false (.list [.str [48,120,48]]))))) [.iff (.or (.val (.cmp .NotEq (.new false (.comp (.meth 30 (.l 111) [.sm .lower (.l 110) []]) (.nm 110) (.l 82) [] [111])) (.l 112))) (.val (.cmp .NotEq (.meth 33 (.l 111) []) (.new false (.comp (.bi .str [.l 61]) (.nm 61) (.bi .range1 [.l 98]) [] []))))) [.ret (.non)] [],.ret (.new false (.comp (.bi .len [.l 195]) (.nm 195) (.l 112) [] []))] [],.iff (.val (.cmp .NotEq (.l 89) (.new false (.comp (.sub (.l 82) (.l 61)) (.nm 61) (.l 164) [] [82])))) [.ret (.non)] [],.asg (.nm 166) (.sub (.l 89) (.b .Mod (.b .Mod (.b .FloorDiv (.l 108) (.b .Pow (.int 3) (.l 98))) (.int 3)) (.bi .len [.l 89]))),.expr (.call 8 [.l 101,.meth 32 (.l 109) [.ite (.val (.cmp .Eq (.b .Mod (.l 98) (.int 2)) (.int 0))) (.sm .lower (.l 166) []) (.sm .upper (.l 166) [])],.l 103]),.expr (.meth 34 (.l 111) [.l 166,.bi .str [.l 98]]),.expr (.sm .append (.sub (.l 112) (.sm .index (.l 82) [.l 166])) [.bi .str [.l 98]])] [],.ret (.non)]
noncomputable def HL:List S:=[.asg (.nm 113) (.new false (.cat (.new false (.list [.int 1])) (.new false (.rep (.int 0) (.int 9))))),.for (.nm 92) (.bi .range2 [.int 1,.int 10]) [.asg (.nm 167) (.bi .range1 [.b .Add (.call 3 [.l 92,.l 90]) (.int 1)]),.asg (.nm 113) (.new false (.comp (.bi .sum [.new false (.comp (.sub (.l 113) (.b .Sub (.l 191) (.b .Mult (.l 92) (.l 61)))) (.nm 61) (.l 167) [.val (.cmp .LtE (.b .Mult (.l 92) (.l 61)) (.l 191))] [92,191,113])]) (.nm 191) (.bi .range1 [.int 10]) [] [167,92,113]))] [],.ret (.l 113)]
noncomputable def HM:List S:=[.asg (.nm 87) (.call 0 [.l 86]),.asg (.nm 107) (.b .Mod (.b .FloorDiv (.bi .sum [.l 87]) (.int 5)) (.int 30)),.asg (.nm 103) (.b .Mod (.b .FloorDiv (.bi .sum [.l 87]) (.int 7)) (.int 5000)),.asg (.nm 114) (.call 2 [.l 87]),.asg (.nm 115) (.new false (.comp (.tup [.l 75,.l 163,.l 91,.l 80]) (.tup [91,80,75,163]) (.l 114) [] [])),.asg (.nm 116) (.call 4 [.sub (.l 87) (.int 3),.l 114]),.asg (.tup [96,97]) (.call 5 [.l 116,.l 114]),.asg (.nm 101) (.call 20 [.new true (.list [])]),.for (.nm 61) (.bi .range1 [.bi .len [.l 116]]) [.expr (.meth 34 (.l 101) [.sub (.sub (.new false (.list [.str [97,98,99,100,101,102],.str [65,66,67,68,69,70]])) (.b .Mod (.l 61) (.int 2))) (.b .Sub (.sub (.l 116) (.l 61)) (.int 1)),.b .Add (.b .Mult (.str [32]) (.sub (.l 116) (.l 61))) (.str [9])])] [],.asg (.nm 117) (.call 9 [.l 101]),.asg (.nm 2) (.tup [.bi .tuple [.new false (.cat (.new false (.list [.int 1])) (.new false (.comp (.sm .count (.l 116) [.l 92]) (.nm 92) (.bi .range2 [.int 1,.b .Add (.bi .max [.l 116]) (.int 1)]) [] [116])))],.int 2]),.iff (.val (.cmp .NotEq (.tup [.attr (.l 117) 0,.attr (.l 117) 1,.attr (.l 117) 2]) (.tup [.b .Add (.b .Add (.bi .sum [.l 116]) (.bi .len [.l 116])) (.int 3),.b .Add (.bi .len [.l 116]) (.int 1),.l 2]))) [.ret (.bool false)] [],.iff (.val (.cmp .NotEq (.call 10 [.l 101,.l 114,.l 107,.l 103,.sub (.l 87) (.int 4)]) (.l 97))) [.ret (.bool false)] [],.asg (.nm 118) (.new false (.comp2 (.l 92) (.nm 92) (.bi .range1 [.int 7]) (.nm 61) (.bi .range1 [.sub (.l 96) (.l 92)]) [96])),.iff (.val (.cmp .NotEq (.new false (.sorted (.new false (.comp (.b .Sub (.bi .len [.l 102]) (.int 1)) (.nm 102) (.meth 33 (.l 101) []) [] [])))) (.l 118))) [.ret (.bool false)] [],.asg (.nm 119) (.b .Add (.sm .join (.str []) [.new false (.comp (.b .Add (.b .Mult (.str [32]) (.l 92)) (.str [9])) (.nm 92) (.l 118) [] [])]) (.str [9,32,32])),.asg (.nm 120) (.call 9 [.l 101]),.asg (.nm 121) (.new false (.comp (.meth 36 (.l 120) [.l 106]) (.nm 106) (.tup [.l 117,.call 21 [.l 119],.call 21 [.b .Add (.l 119) (.str [32])]]) [] [120])),.iff (.val (.cmp .NotEq (.new false (.cat (.new false (.comp (.isTy (.l 195) .bool false) (.nm 195) (.l 121) [] [])) (.l 121))) (.new false (.list [.bool true,.bool true,.bool true,.bool false,.bool true,.bool false])))) [.ret (.bool false)] [],.iff (.or (.val (.cmp .NotEq (.call 10 [.l 101,.l 115,.l 107,.l 103,.b .FloorDiv (.sub (.l 87) (.int 4)) (.int 7)]) (.l 97))) (.val (.isTru (.meth 36 (.call 9 [.l 101]) [.l 117]) true))) [.ret (.bool false)] [],.asg (.nm 122) (.b .Add (.int 8) (.b .Mod (.b .FloorDiv (.bi .sum [.l 87]) (.int 20)) (.int 500))),.asg (.nm 123) (.b .LShift (.int 1) (.b .Mult (.l 122) (.b .Sub (.int 54) (.bi .sum [.new false (.comp (.b .Mult (.l 91) (.l 80)) (.tup [91,80,75,163]) (.l 114) [] [])])))),.for (.tup [91,80,75,163]) (.l 114) [.aug 123 .Mult (.b .Sub (.b .LShift (.int 1) (.b .Mult (.b .Mult (.l 122) (.l 91)) (.l 80))) (.int 1))] [],.asg (.nm 124) (.int 1),.for (.nm 61) (.bi .range2 [.int 1,.int 10]) [.aug 124 .Mult (.b .Sub (.b .LShift (.int 1) (.b .Mult (.l 122) (.l 61))) (.int 1))] [],.asg (.nm 125) (.call 12 [.l 123,.l 124]),.iff (.or (.val (.cmp .NotEq (.new false (.comp (.isTy (.l 198) .int false) (.nm 198) (.l 125) [] [])) (.new false (.list [.bool true,.bool true])))) (.val (.cmp .NotEq (.l 125) (.tup [.sub (.l 125) (.int 0),.b .Sub (.l 123) (.b .Mult (.sub (.l 125) (.int 0)) (.l 124))])))) [.ret (.bool false)] [],.asg (.nm 126) (.call 16 [.sub (.l 125) (.int 0),.l 122]),.iff (.or (.val (.cmp .NotEq (.l 126) (.new false (.rev (.call 11 [.l 114]))))) (.val (.cmp .NotEq (.call 16 [.int 0,.l 122]) (.new false (.list []))))) [.ret (.bool false)] [],.asg (.nm 127) (.new false (.comp (.b .Add (.b .FloorDiv (.sub (.l 126) (.l 61)) (.int 2)) (.b .Mult (.b .Mod (.sub (.l 126) (.b .Add (.l 61) (.int 1))) (.int 2)) (.b .LShift (.int 1) (.b .Sub (.l 122) (.int 1))))) (.nm 61) (.bi .range1 [.int 9]) [] [126,122])),.ret (.cmp .Eq (.call 16 [.b .FloorDiv (.sub (.l 125) (.int 0)) (.int 2),.l 122]) (.l 127))]
noncomputable def mz:List (Nat×List Nat×List S):=[(0,[86],b0),(1,[88],b1),(2,[87],b2),(3,[92,90],b3),(4,[93,90],b4),(5,[95,90],b5),(6,[99],b6),(7,[93],b7),(8,[101,102,103],b8),(9,[101],b9),(10,[101,90,107,103,108],HK),(11,[90],HL),(12,[66,67],Jk),(13,[66,67],HH),(14,[66,67,0],HF),(15,[71,72,67,73,74,0],HG),(18,[81],HI),(19,[84],HJ),(22,[86],HM),(30,[129,110],Ji),(31,[129,110],Jh),(33,[129],Jj),(36,[129,158],Jl)]
noncomputable def kU {γ:Type}(o:Rs)(k:Loc->St->Option γ):Option γ:=match o with
 |some (f,σ,st)=>match f with
  |.next=>k σ st
  |_=>none
 |none=>none
theorem kV {γ:Type}{o:Rs}{k:Loc->St->Option γ}{r:γ}{P:Prop}(e:kU o k=some r)(f:∀ σ st,o=some (.next,σ,st)->k σ st=some r->P):P:=
 match o,e,f with
 |some (.next,_,_),e,f=>f _ _ rfl e
 |some (.brk,_,_),e,_=>absurd e bg
 |some (.ret _,_,_),e,_=>absurd e bg
 |none,e,_=>absurd e bg
noncomputable def bE (C:jN)(ps:List Nat)(b:List S)(args:List AV)(st:St):Option (AV×St):=match bA [] ps args with
 |some σ=>match cw ⟨C⟩ b σ st with
  |some (f,_,Kw)=>match f with
   |.ret v=>some (v,Kw)
   |.next=>some (.none,Kw)
   |.brk=>none
  |none=>none
 |none=>none
noncomputable def vZ (C:jN)(c:Nat)(ps:List Nat)(b:List S)(args:List AV)(st:St):Option (AV×St):=match bA [] ps (.obj (st.length+1)::args) with
 |some σ=>kU (cw ⟨C⟩ b σ (st++[.dict []]++[.inst c st.length])) λ_ Kw=>some (.obj (st.length+1),Kw)
 |none=>none
noncomputable def nA (σ:Loc)(st:St):Bool:=(match af σ 135 with
 |some v=>hY v λj=>match st[j]? with
  |some o=>match o with
   |.dict fs=>nil fs (some ())
   |_=>none
  |none=>none
 |none=>none).isSome
theorem wa {σ:Loc}{st:St}(h:nA σ st=true):∃ j,af σ 135=some (.obj j)/\st[j]?=some (.dict []):=by
 refine aw (isSome_iff_exists.mp h) λu h=>?_;refine oA h λv e h=>kh (P:=λv=>af σ 135=some v->_) (λj h e=>?_) h e;refine⟨j,e,?_⟩
 cases q:st[j]? with
 |none=>rw[q]at h;exact absurd h bg
 |some o=>
  rw[q]at h;cases o<;>first |exact absurd h bg |exact DF (P:=λfs=>some (AO.dict fs)=some (.dict [])) (λ_=>rfl) h
noncomputable def wb (C:jN)(args:List AV)(st:St):Option (AV×St):=match bA [] [129,133,134,135] (args++[.obj st.length]) with
 |some σ=>kU (cw ⟨C⟩ yP σ (st++[.dict []])) λKC Kx=>if nA KC Kx then kU (cw ⟨C⟩ yQ KC Kx) λ_ Ky=>some (.none,Ky) else none
 |none=>none
noncomputable def dH (n:Int):Nat->Int->Int->Int->List Int->Option (List Int)
 |0,_,_,_,_=>none
 |k+1,x,l,r,ds=>if l+1=r then (if 0<=l/\l<ds.length then some (ds.set l.toNat x) else none) else
  let mid:=(l+r).fdiv 2;let sh:=(mid-l)*n
  if 0<=sh/\(intBits (x.fdiv (2^sh.toNat)):Int)+sh<=2^27/\sh<2^60/\eE (mid-l) n=true then
   let up:=x.fdiv (2^sh.toNat)
   match dH n k (Builtin.bitXor x (up*2^sh.toNat)) l mid ds with
   |some Mb=>dH n k up mid r Mb
   |none=>none
  else none
noncomputable def ri (args:List AV)(st:St):Option (AV×St):=two args λx y=>ar x λa=>ar y λn=>
  if n≠0/\divisionGoesByPylong ((intBits a:Int)+n-1) n=false then
   let m:=((intBits a:Int)+n-1).fdiv n
   if m<1000/\-1000<m then
    let ds:=replicate m.toNat (0:Int)
    if a=0 then some (.obj st.length,st++[.list (ds.map .int)]) else match dH n 12 a 0 ds.length ds with
     |some Mb=>some (.obj st.length,st++[.list (Mb.map .int)])
     |none=>none
   else none
  else none
noncomputable def eI (n:Int)(ds:List Int):Nat->Int->Int->Option Int
 |0,_,_=>none
 |k+1,l,r=>if l+1=r then (if 0<=l/\l<1000 then ds[l.toNat]? else none) else
  let mid:=(l+r).fdiv 2;let sh:=(mid-l)*n
  match eI n ds k mid r with
  |some u=>if 0<=sh/\(intBits u:Int)+sh<=2^27/\eE (mid-l) n=true then match eI n ds k l mid with
   |some v=>some (u*2^sh.toNat+v)
   |none=>none
   else none
  |none=>none
noncomputable def rj (args:List AV)(st:St):Option (AV×St):=two args λv y=>ar y λn=>match cN st v with
  |some xs=>match allInts xs with
   |some ds=>if ds.length<1000 then (if ds=[] then some (.int 0,st) else match eI n ds 12 0 ds.length with
    |some r=>some (.int r,st)
    |none=>none) else none
   |none=>none
  |none=>none
noncomputable def step (C:jN):jN:=λf args st=>
 if f=20 then vZ C 0 [129,130] Ej args st
 else if f=21 then vZ C 1 [129,154] El args st
 else if f=34 then wb C args st
 else if f=16 then ri args st
 else if f=17 then rj args st
 else if f=32 then bE C [129,110,132] Ek (args++[.none]) st
 else if f=35 then bE C [129,64,110] Gp args st
 else match mz.lookup f with
  |some q=>bE C q.1 q.2 args st
  |none=>none
noncomputable def run:Nat->jN
 |0=>λ_ _ _=>none
 |n+1=>step (run n)
end
namespace P
noncomputable def Kp (W:List Nat)(st Kw:St):Prop:=st.length<=Kw.length/\∀ j,j<st.length->j∉W->Kw[j]?=st[j]?
theorem Kp.refl (W:List Nat)(st:St):Kp W st st:=⟨le_refl _,λ_ _ _=>rfl⟩
theorem Kp.trans {W:List Nat}{a b c:St}(x:Kp W a b)(y:Kp W b c):Kp W a c:=
 ⟨le_trans x.1 y.1,λj h1 h2=>(y.2 j (lt_of_lt_of_le h1 x.1) h2).trans (x.2 j h1 h2)⟩
theorem Kp.app (W:List Nat)(st g:St):Kp W st (st++g):=⟨by simp,λj h _=>getElem?_append_left h⟩
theorem Kp.set {W:List Nat}{i:Nat}(h:i∈W)(st:St)(x:AO):Kp W st (st.set i x):=⟨by simp,λj _ h2=>by
 rw[getElem?_set_ne];rintro rfl;exact h2 h⟩
theorem Kp.more {W V:List Nat}{a b:St}(x:Kp W a b)(h:∀ j∈W,j<a.length->j∈V):Kp V a b:=⟨x.1,λj h1 h2=>x.2 j h1 λh3=>h2 (h j h3 h1)⟩
theorem Kp.get {W:List Nat}{a b:St}(x:Kp W a b){j:Nat}{o:AO}(h:a[j]?=some o)(hj:j∉W):b[j]?=some o:=by
 rw[x.2 j (List.getElem?_eq_some_iff.mp h).1 hj,h]
theorem al {a:St}{j:Nat}{o:AO}(h:a[j]?=some o):j<a.length:=(List.getElem?_eq_some_iff.mp h).1
theorem jE {γ:Type}{o:Option (AV×St)}{k:AV->St->Option γ}{x:AV}{y:St}{r:Option γ}(h:o=some (x,y))(f:k x y=r):(match (generalizing:=false) o with
 |some (x,y)=>k x y
 |none=>none)=r:=by subst h;exact f
theorem jL {γ:Type}{o:Option (List AV×St)}{k:List AV->St->Option γ}{x:List AV}{y:St}{r:Option γ}(h:o=some (x,y))(f:k x y=r):(match (generalizing:=false) o with
 |some (x,y)=>k x y
 |none=>none)=r:=by subst h;exact f
theorem Kf {γ:Type}{o:Option (Bool×St)}{k:Bool->St->Option γ}{x:Bool}{y:St}{r:Option γ}(h:o=some (x,y))(f:k x y=r):(match (generalizing:=false) o with
 |some (x,y)=>k x y
 |none=>none)=r:=by subst h;exact f
theorem jT {γ:Type}{o:Option (Bool×St)}{kt kf:St->Option γ}{y:St}{r:Option γ}(h:o=some (true,y))(f:kt y=r):(match (generalizing:=false) o with
 |some (true,y)=>kt y
 |some (false,y)=>kf y
 |none=>none)=r:=by subst h;exact f
theorem jF {γ:Type}{o:Option (Bool×St)}{kt kf:St->Option γ}{y:St}{r:Option γ}(h:o=some (false,y))(f:kf y=r):(match (generalizing:=false) o with
 |some (true,y)=>kt y
 |some (false,y)=>kf y
 |none=>none)=r:=by subst h;exact f
theorem jA {γ:Type}{o:Option AV}{k:AV->Option γ}{x:AV}{r:Option γ}(h:o=some x)(f:k x=r):(match (generalizing:=false) o with
 |some x=>k x
 |none=>none)=r:=by subst h;exact f
theorem jV {γ:Type}{o:Option (List AV)}{k:List AV->Option γ}{x:List AV}{r:Option γ}(h:o=some x)(f:k x=r):(match (generalizing:=false) o with
 |some x=>k x
 |none=>none)=r:=by subst h;exact f
theorem jG {γ:Type}{o:Option Loc}{k:Loc->Option γ}{x:Loc}{r:Option γ}(h:o=some x)(f:k x=r):(match (generalizing:=false) o with
 |some x=>k x
 |none=>none)=r:=by subst h;exact f
section
variable {o:Rs}{kn kb:Loc->St->Rs}{kr:AV->Loc->St->Rs}{r:Rs}{a:Loc}{b:St}
theorem Db (h:o=some (.next,a,b))(f:kn a b=r):(match (generalizing:=false) o with
 |some (.next,a,b)=>kn a b
 |some (.brk,a,b)=>kb a b
 |some (.ret u,a,b)=>kr u a b
 |none=>none)=r:=by subst h;exact f
theorem HN (h:o=some (.brk,a,b))(f:kb a b=r):(match (generalizing:=false) o with
 |some (.next,a,b)=>kn a b
 |some (.brk,a,b)=>kb a b
 |some (.ret u,a,b)=>kr u a b
 |none=>none)=r:=by subst h;exact f
theorem HO {u:AV}(h:o=some (.ret u,a,b))(f:kr u a b=r):(match (generalizing:=false) o with
 |some (.next,a,b)=>kn a b
 |some (.brk,a,b)=>kb a b
 |some (.ret u,a,b)=>kr u a b
 |none=>none)=r:=by subst h;exact f
end
theorem aD {α:Type}{ok:St->Bool}{f:AV->St->Option (List AV×St)}(i:α->AV)(g:α->AV){st:St}(hk:ok st=true):∀ (xs:List α),(∀ x∈xs,f (i x) st=some ([g x],st))->aU ok f (xs.map i) st=some (xs.map g,st):=by
 intro xs
 induction xs with
 |nil=>
  intro _;exact if_pos hk
 |cons x xs ih=>
  intro h;exact(if_pos hk).trans (jL (h x (.head _)) (jL (ih λy hy=>h y (.tail _ hy)) rfl))
theorem bK {α:Type}{ok:St->Bool}{f:AV->St->Option (List AV×St)}(p:α->Bool)(i g:α->AV){st:St}(hk:ok st=true):∀ (xs:List α),(∀ x∈xs,f (i x) st=some (if p x then [g x] else [],st))->aU ok f (xs.map i) st=some ((xs.filter p).map g,st):=by
 intro xs
 induction xs with
 |nil=>
  intro _;exact if_pos hk
 |cons x xs ih=>
  intro h;exact(if_pos hk).trans (jL (h x (.head _)) (jL (ih λy hy=>h y (.tail _ hy)) (by rw[filter_cons];split<;>rfl)))
theorem allInts_map (l:List Int):allInts (l.map .int)=some l:=by
 induction l with
 |nil=>rfl
 |cons a l ih=>exact congrArg (Option.map (a::·)) ih
theorem pB (l:List (List Nat)):allStrs (l.map .str)=some l:=by
 induction l with
 |nil=>rfl
 |cons a l ih=>exact congrArg (Option.map (a::·)) ih
theorem eg {α:Type}(f:α->List Nat)(l:List α):allStrs (l.map λx=>.str (f x))=some (l.map f):=by
 induction l with
 |nil=>rfl
 |cons a l ih=>exact congrArg (Option.map (f a::·)) ih
theorem fN {α:Type}(f:α->Int)(l:List α):allInts (l.map λx=>.int (f x))=some (l.map f):=by
 induction l with
 |nil=>rfl
 |cons a l ih=>exact congrArg (Option.map (f a::·)) ih
theorem wc {α:Type}{o:Option α}{a:α}{r:List (Option α)}{l:List α}(h:o=some a)(k:aY r=some l):aY (o::r)=some (a::l):=h▸congrArg (Option.map (a::·)) k
theorem kW (lo:Int):∀ n,lX lo n=(List.range n).map λ(k:Nat)=>AV.int (lo+k)
 |0=>rfl
 |n+1=>by
  rw[lX,kW (lo+1) n,List.range_succ_eq_map];simp[Function.comp_def];intro a _;lia
theorem gJ (st:St)(a b:Int):rS st (.int a) (.int b)=some (decide (a=b)):=by
 rfl
theorem kX {l:List Nat}(h:∀ c∈l,c<1114112):PyData.strOk ⟨l.toArray⟩=true:=by
 simp only[PyData.strOk,List.all_toArray,all_eq_true,decide_eq_true_eq];exact h
theorem nB (st:St){a b:List Nat}(ha:∀ c∈a,c<1114112)(hb:∀ c∈b,c<1114112):rS st (.str a) (.str b)=some (decide (a=b)):=by
 refine(if_pos ((and_eq_true ..).mpr ⟨kX ha,kX hb⟩)).trans (congrArg some ?_);exact decide_eq_decide.mpr ⟨λh=>Array.toList_inj.mpr (Str.mk.inj h),λh=>h▸rfl⟩
theorem dB {st:St}{a b:AV}{x:PyData}(h1:ba 6 st a=some x)(h2:ba 6 st b=some x)(h3:x.canLay0=true):rS st a b=some true:=by
 unfold rS;rw[h1,h2];exact(if_pos ((and_eq_true ..).mpr ⟨h3,h3⟩)).trans (congrArg some (PySem.SeqAt.eqv_refl x h3))
theorem canLayAll_ints (l:List Int):PyData.canLayAll0 (l.map .int)=true:=by
 induction l with
 |nil=>rfl
 |cons a l ih=>exact ih
theorem mA (n:Nat)(st:St)(a:Int):ba n st (.int a)=some (.int a):=by cases n<;>rfl
theorem Em {n:Nat}{st:St}{i:Nat}{xs:List AV}(h:st[i]?=some (.list xs)):ba (n+1) st (.obj i)=(aY (xs.map (ba n st))).map .list:=congrArg (λo:Option AO=>match o with
 |some (.list xs)=>(aY (xs.map (ba n st))).map PyData.list
 |_=>none) h
theorem eh (n:Nat)(st:St)(l:List Int):aY ((l.map AV.int).map (ba n st))=some (l.map .int):=by
 induction l with
 |nil=>rfl
 |cons a l ih=>exact wc (mA n st a) ih
theorem mB (n:Nat)(st:St)(l:List Int):ba (n+1) st (.lst (l.map .int))=some (.list (l.map .int)):=congrArg (Option.map PyData.list) (eh n st l)
theorem ui (n:Nat)(st:St)(l:List Int):ba (n+1) st (.tup (l.map .int))=some (.tuple (l.map .int)):=congrArg (Option.map PyData.tuple) (eh n st l)
theorem uj (n:Nat)(st:St)(i:Nat)(l:List Int)(h:st[i]?=some (.list (l.map .int))):ba (n+1) st (.obj i)=some (.list (l.map .int)):=(Em h).trans (congrArg (Option.map PyData.list) (eh n st l))
theorem nE (st:St)(l:List Int):rS st (.lst (l.map .int)) (.lst [])=some (decide (l=[])):=by
 refine(congrArg (λo:Option PyData=>match o with
  |some x=>if x.canLay0&&true then some (PyData.eqv x (.list [])) else none
  |none=>none) (mB 5 st l)).trans ((if_pos ((and_eq_true ..).mpr ⟨canLayAll_ints l,rfl⟩)).trans ?_)
 cases l<;>rfl
section
variable {X:Cx}{σ KC K5:Loc}{st Kx Ky K4 Me:St}
theorem ae {s:S}{r:List S}(h:xS X s σ st=some (.next,KC,Kx)):cw X (s::r) σ st=cw X r KC Kx:=Db h rfl
theorem cy {s:S}{r:List S}{v:AV}(h:xS X s σ st=some (.ret v,KC,Kx)):cw X (s::r) σ st=some (.ret v,KC,Kx):=HO h rfl
theorem uk {s:S}{r:List S}(h:xS X s σ st=some (.brk,KC,Kx)):cw X (s::r) σ st=some (.brk,KC,Kx):=HN h rfl
theorem aE {tg:Tg}{e:E}{v:AV}(h:aa X e σ st=some (v,Kx))(h2:aQ σ tg v=some KC):xS X (.asg tg e) σ st=some (.next,KC,Kx):=jE h (congrArg (Option.map _) h2)
theorem wd {xs:List Nat}{es:List E}{vs:List AV}(h:aN X es σ st=some (vs,Kx))(h2:bA σ xs.reverse vs.reverse=some KC):xS X (.asg2 xs es) σ st=some (.next,KC,Kx):=jL h (congrArg (Option.map _) h2)
theorem jQ {x:Nat}{op:Operator}{e:E}{u v r:AV}(h1:af σ x=some u)(h2:aa X e σ st=some (v,Kx))(h3:lN op u v=some r):xS X (.aug x op e) σ st=some (.next,ai σ x r,Kx):=jA h1 (jE h2 (congrArg (Option.map _) h3))
theorem se {o i e:E}{op:Operator}{ov iv old v r:AV}(h1:aa X o σ st=some (ov,Kx))(h2:aa X i σ Kx=some (iv,Ky))(h3:cB Ky ov iv=some old)(h4:aa X e σ Ky=some (v,K4))(h5:lN op old v=some r)(h6:jo K4 ov iv r=some Me):xS X (.augI o i op e) σ st=some (.next,σ,Me):=jE h1 (jE h2 (jA h3 (jE h4 (jA h5 (congrArg (Option.map _) h6)))))
theorem En {o i e:E}{ov iv v:AV}(h1:aa X e σ st=some (v,Kx))(h2:aa X o σ Kx=some (ov,Ky))(h3:aa X i σ Ky=some (iv,K4))(h4:jo K4 ov iv v=some Me):xS X (.setI o i e) σ st=some (.next,σ,Me):=jE h1 (jE h2 (jE h3 (congrArg (Option.map _) h4)))
theorem BA {o e:E}{ov v:AV}(h1:aa X e σ st=some (v,Kx))(h2:aa X o σ Kx=some (ov,Ky))(h3:qu Ky ov v=some K4):xS X (.setSl o e) σ st=some (.next,σ,K4):=jE h1 (jE h2 (congrArg (Option.map _) h3))
theorem mC {o e:E}{a:Nat}{ov v:AV}(h1:aa X e σ st=some (v,Kx))(h2:aa X o σ Kx=some (ov,Ky))(h3:f4 Ky ov a v=some K4):xS X (.setA o a e) σ st=some (.next,σ,K4):=jE h1 (jE h2 (congrArg (Option.map _) h3))
theorem eJ {e:E}{v:AV}(h:aa X e σ st=some (v,Kx))(h2:qt v=true):xS X (.expr e) σ st=some (.next,σ,Kx):=jE h (if_pos h2)
theorem dO {c:C}{a b:List S}(h:aJ X c σ st=some (true,Kx)):xS X (.iff c a b) σ st=cw X a σ Kx:=jT h rfl
theorem kY {c:C}{a b:List S}(h:aJ X c σ st=some (false,Kx)):xS X (.iff c a b) σ st=cw X b σ Kx:=jF h rfl
theorem bG {c:C}{a:List S}(h:aJ X c σ st=some (false,Kx)):xS X (.iff c a []) σ st=some (.next,σ,Kx):=jF h rfl
theorem BB {c:C}{a:List S}:xS X (.whl c a) σ st=f7 (aJ X c) (cw X a) jq σ st:=rfl
theorem sR {e:E}{v:AV}(h:aa X e σ st=some (v,Kx)):xS X (.ret e) σ st=some (.ret v,σ,Kx):=jE h rfl
noncomputable def bW (X:Cx)(tg:Tg)(body:List S)(x:AV)(σ:Loc)(st:St):Rs:=match aQ σ tg x with
 |some KA=>cw X body KA st
 |none=>none
theorem aR {tg:Tg}{body:List S}{x:AV}(h:aQ σ tg x=some KC):bW X tg body x σ st=cw X body KC st:=jG h rfl
theorem HP {tg:Tg}{src:E}{body orelse:List S}{v:AV}{xs:List AV}(h:aa X src σ st=some (v,Kx))(h2:aF Kx v=some xs)(h3:bc (λst=>an st v xs) (bW X tg body) xs σ Kx=some (.next,K5,Ky)):xS X (.for tg src body orelse) σ st=cw X orelse K5 Ky:=jE h (jV h2 (Db h3 rfl))
theorem fy {tg:Tg}{src:E}{body:List S}{v:AV}{xs:List AV}(h:aa X src σ st=some (v,Kx))(h2:aF Kx v=some xs)(h3:bc (λst=>an st v xs) (bW X tg body) xs σ Kx=some (.next,K5,Ky)):xS X (.for tg src body []) σ st=some (.next,K5,Ky):=jE h (jV h2 (Db h3 rfl))
theorem Au {tg:Tg}{src:E}{body orelse:List S}{v:AV}{xs:List AV}(h:aa X src σ st=some (v,Kx))(h2:aF Kx v=some xs)(h3:bc (λst=>an st v xs) (bW X tg body) xs σ Kx=some (.brk,K5,Ky)):xS X (.for tg src body orelse) σ st=some (.next,K5,Ky):=jE h (jV h2 (HN h3 rfl))
theorem we {tg:Tg}{src:E}{body orelse:List S}{v u:AV}{xs:List AV}(h:aa X src σ st=some (v,Kx))(h2:aF Kx v=some xs)(h3:bc (λst=>an st v xs) (bW X tg body) xs σ Kx=some (.ret u,K5,Ky)):xS X (.for tg src body orelse) σ st=some (.ret u,K5,Ky):=jE h (jV h2 (HO h3 rfl))
theorem ig {ok:St->Bool}{f:AV->Loc->St->Rs}(h:ok st=true):bc ok f [] σ st=some (.next,σ,st):=if_pos h
theorem bR {ok:St->Bool}{f:AV->Loc->St->Rs}{v:AV}{r:List AV}(h:ok st=true)(h2:f v σ st=some (.next,KC,Kx)):bc ok f (v::r) σ st=bc ok f r KC Kx:=(if_pos h).trans (Db h2 rfl)
theorem BC {ok:St->Bool}{f:AV->Loc->St->Rs}{v u:AV}{r:List AV}(h:ok st=true)(h2:f v σ st=some (.ret u,KC,Kx)):bc ok f (v::r) σ st=some (.ret u,KC,Kx):=(if_pos h).trans (HO h2 rfl)
theorem Eo {ok:St->Bool}{f:AV->Loc->St->Rs}{v:AV}{r:List AV}(h:ok st=true)(h2:f v σ st=some (.brk,KC,Kx)):bc ok f (v::r) σ st=some (.brk,KC,Kx):=(if_pos h).trans (HN h2 rfl)
theorem aj {op:Operator}{a b:E}{x y v:AV}(h1:aa X a σ st=some (x,Kx))(h2:aa X b σ Kx=some (y,Ky))(h3:aK op x y=some v):aa X (.b op a b) σ st=some (v,Ky):=jE h1 (jE h2 (congrArg (Option.map _) h3))
theorem yR {op:CmpOp}{a b:E}{x y:AV}{v:Bool}(h1:aa X a σ st=some (x,Kx))(h2:aa X b σ Kx=some (y,Ky))(h3:bJ Ky op x y=some v):aa X (.cmp op a b) σ st=some (.bool v,Ky):=jE h1 (jE h2 (congrArg (Option.map _) h3))
theorem bX {a b:E}{x y v:AV}(h1:aa X a σ st=some (x,Kx))(h2:aa X b σ Kx=some (y,Ky))(h3:cB Ky x y=some v):aa X (.sub a b) σ st=some (v,Ky):=jE h1 (jE h2 (congrArg (Option.map _) h3))
theorem eK {l:L}{vs:List AV}(h:du X l σ st=some (vs,Kx)):aa X (.new true l) σ st=some (.obj Kx.length,Kx++[.list vs]):=jL h rfl
theorem aH {l:L}{vs:List AV}(h:du X l σ st=some (vs,Kx)):aa X (.new false l) σ st=some (.lst vs,Kx):=jL h rfl
theorem kZ {es:List E}{vs:List AV}(h:aN X es σ st=some (vs,Kx)):aa X (.tup es) σ st=some (.tup vs,Kx):=jL h rfl
theorem be {C:jN}{k:Nat}{es:List E}{vs:List AV}{v:AV}(h:aN ⟨C⟩ es σ st=some (vs,Kx))(h2:C k vs Kx=some (v,Ky)):aa ⟨C⟩ (.call k es) σ st=some (v,Ky):=jL h h2
theorem fc {C:jN}{k:Nat}{r:E}{es:List E}{vs:List AV}{x v:AV}(h0:aa ⟨C⟩ r σ st=some (x,Kx))(h1:dt Kx k x=true)(h:aN ⟨C⟩ es σ Kx=some (vs,Ky))(h2:C k (x::vs) Ky=some (v,K4)):aa ⟨C⟩ (.meth k r es) σ st=some (v,K4):=jE h0 ((if_pos h1).trans (jL h h2))
theorem sf {C:jN}{r a:E}{b:Bool}{x y v:AV}(h0:aa ⟨C⟩ r σ st=some (x,Kx))(h1:dt Kx 35 x=true)(h:aa ⟨C⟩ a σ Kx=some (y,Ky))(h2:C 35 [x,y,.bool b] Ky=some (v,K4)):aa ⟨C⟩ (.conv r a b) σ st=some (v,K4):=jE h0 ((if_pos h1).trans (jE h h2))
theorem dq {b:Bi}{es:List E}{vs:List AV}{v:AV}(h:aN X es σ st=some (vs,Kx))(h2:gA Kx b vs=some (v,Ky)):aa X (.bi b es) σ st=some (v,Ky):=jL h h2
theorem gY {m:Sm}{r:E}{es:List E}{vs:List AV}{x v:AV}(h0:aa X r σ st=some (x,Kx))(h1:jp Kx x=true)(h:aN X es σ Kx=some (vs,Ky))(h2:jM Ky m x vs=some (v,K4)):aa X (.sm m r es) σ st=some (v,K4):=jE h0 ((if_pos h1).trans (jL h h2))
theorem fz {r:E}{a:Nat}{x v:AV}(h0:aa X r σ st=some (x,Kx))(h1:jn Kx x a=some v):aa X (.attr r a) σ st=some (v,Kx):=jE h0 (congrArg (Option.map _) h1)
theorem mD {c:C}{a b:E}{v:AV}(h:aJ X c σ st=some (true,Kx))(h2:aa X a σ Kx=some (v,Ky)):aa X (.ite c a b) σ st=some (v,Ky):=jT h h2
theorem sg {c:C}{a b:E}{v:AV}(h:aJ X c σ st=some (false,Kx))(h2:aa X b σ Kx=some (v,Ky)):aa X (.ite c a b) σ st=some (v,Ky):=jF h h2
theorem dn:aN X [] σ st=some ([],st):=rfl
theorem fA {e:E}{r:List E}{v:AV}{vs:List AV}(h1:aa X e σ st=some (v,Kx))(h2:aN X r σ Kx=some (vs,Ky)):aN X (e::r) σ st=some (v::vs,Ky):=jE h1 (jL h2 rfl)
theorem e1 {a:E}{x:AV}(h1:aa X a σ st=some (x,Kx)):aN X [a] σ st=some ([x],Kx):=fA h1 dn
theorem e2 {a b:E}{x y:AV}(h1:aa X a σ st=some (x,Kx))(h2:aa X b σ Kx=some (y,Ky)):aN X [a,b] σ st=some ([x,y],Ky):=fA h1 (e1 h2)
theorem e3 {a b c:E}{x y z:AV}(h1:aa X a σ st=some (x,Kx))(h2:aa X b σ Kx=some (y,Ky))(h3:aa X c σ Ky=some (z,K4)):aN X [a,b,c] σ st=some ([x,y,z],K4):=fA h1 (e2 h2 h3)
theorem fk {e:E}{v:AV}{b:Bool}(h:aa X e σ st=some (v,Kx))(h2:fH Kx v=some b):aJ X (.val e) σ st=some (b,Kx):=jE h (congrArg (Option.map _) h2)
theorem bF {op:CmpOp}{a b:E}{x y:AV}{v:Bool}(h1:aa X a σ st=some (x,Kx))(h2:aa X b σ Kx=some (y,Ky))(h3:bJ Ky op x y=some v):aJ X (.val (.cmp op a b)) σ st=some (v,Ky):=fk (yR h1 h2 h3) rfl
theorem si {a b:C}{v:Bool}(h:aJ X a σ st=some (true,Kx))(h2:aJ X b σ Kx=some (v,Ky)):aJ X (.and a b) σ st=some (v,Ky):=jT h h2
theorem wf {a b:C}(h:aJ X a σ st=some (false,Kx)):aJ X (.and a b) σ st=some (false,Kx):=jF h rfl
theorem um {a b:C}{v:Bool}(h:aJ X a σ st=some (false,Kx))(h2:aJ X b σ Kx=some (v,Ky)):aJ X (.or a b) σ st=some (v,Ky):=jF h h2
theorem HQ {a b:C}(h:aJ X a σ st=some (true,Kx)):aJ X (.or a b) σ st=some (true,Kx):=jT h rfl
theorem Ep {a:C}{v:Bool}(h:aJ X a σ st=some (v,Kx)):aJ X (.not a) σ st=some (!v,Kx):=Kf h rfl
theorem Kg:dF X [] σ st=some (true,st):=rfl
theorem uO {c:C}{b:Bool}(h:aJ X c σ st=some (b,Kx)):dF X [c] σ st=some (b,Kx):=by cases b<;>first |exact jT h rfl |exact jF h rfl
theorem wg {a b:E}{x y:AV}{xs ys:List AV}(h1:aa X a σ st=some (x,Kx))(h2:aa X b σ Kx=some (y,Ky))(h3:cN Ky x=some xs)(h4:cN Ky y=some ys)(h5:xs.length+ys.length<=1000000):du X (.cat a b) σ st=some (xs++ys,Ky):=jE h1 (jE h2 (jV h3 (jV h4 (if_pos h5))))
theorem BD {a n:E}{x:AV}{k:Int}(h1:aa X a σ st=some (x,Kx))(h2:aa X n σ Kx=some (.int k,Ky))(h3:k<1000000)(h4:-1000000<k):du X (.rep a n) σ st=some (replicate k.toNat x,Ky):=jE h1 (jE h2 (if_pos ⟨Int.lt_trans h3 (by decide),Int.lt_trans (by decide) h4⟩))
theorem cK {es:List E}{vs:List AV}(h:aN X es σ st=some (vs,Kx)):du X (.list es) σ st=some (vs,Kx):=h
noncomputable def jx (X:Cx)(elt:E)(tg:Tg)(ifs:List C)(σ:Loc)(x:AV)(st:St):Option (List AV×St):=match aQ σ tg x with
 |some KA=>match dF X ifs KA st with
  |some (true,Kw)=>match aa X elt KA Kw with
   |some (y,MI)=>some ([y],MI)
   |none=>none
  |some (false,Kw)=>some ([],Kw)
  |none=>none
 |none=>none
theorem bS {elt:E}{tg:Tg}{src:E}{ifs:List C}{cap:List Nat}{v:AV}{xs ys:List AV}(h:aa X src σ st=some (v,Kx))(h2:aF Kx v=some xs)(h3:xs.length<=1000000)(h4:aU (λst=>an st v xs) (jx X elt tg ifs (aX σ cap)) xs Kx=some (ys,Ky)):du X (.comp elt tg src ifs cap) σ st=some (ys,Ky):=jE h (jV h2 ((if_pos h3).trans h4))
theorem Dc {elt:E}{tg:Tg}{x y:AV}{ifs:List C}(h:aQ σ tg x=some KC)(h2:dF X ifs KC st=some (true,Kx))(h3:aa X elt KC Kx=some (y,Ky)):jx X elt tg ifs σ x st=some ([y],Ky):=jG h (jT h2 (jE h3 rfl))
theorem Dd {elt:E}{tg:Tg}{x:AV}{ifs:List C}(h:aQ σ tg x=some KC)(h2:dF X ifs KC st=some (false,Kx)):jx X elt tg ifs σ x st=some ([],Kx):=jG h (jF h2 rfl)
theorem lK {elt:E}{tg:Tg}{x y:AV}(h:aQ σ tg x=some KC)(h3:aa X elt KC st=some (y,Ky)):jx X elt tg [] σ x st=some ([y],Ky):=Dc h Kg h3
noncomputable def sj (o:Rs):Option (AV×St):=match o with
 |some (f,_,Kw)=>match f with
  |.ret v=>some (v,Kw)
  |.next=>some (.none,Kw)
  |.brk=>none
 |none=>none
theorem bT {C:jN}{ps:List Nat}{b:List S}{args:List AV}{v:AV}(h:bA [] ps args=some σ)(h2:cw ⟨C⟩ b σ st=some (.ret v,KC,Kx)):bE C ps b args st=some (v,Kx):=jG h ((congrArg sj h2:sj _=_))
theorem wi {C:jN}{ps:List Nat}{b:List S}{args:List AV}(h:bA [] ps args=some σ)(h2:cw ⟨C⟩ b σ st=some (.next,KC,Kx)):bE C ps b args st=some (.none,Kx):=jG h ((congrArg sj h2:sj _=_))
theorem cC {op:Operator}{a b c:Int}(h:augI op a b=some c):lN op (.int a) (.int b)=some (.int c):=congrArg (Option.map AV.int) h
theorem yS {a b:Int}(h:b≠0/\divisionGoesByPylong a b=false):augI .FloorDiv a b=some (a.fdiv b):=if_pos h
theorem fO {a b:Int}(h:b≠0/\divisionGoesByPylong a b=false):aK .FloorDiv (.int a) (.int b)=some (.int (a.fdiv b)):=if_pos h
theorem dV {a b:Int}(h:b≠0):aK .Mod (.int a) (.int b)=some (.int (a.fmod b)):=if_pos h
theorem sk {a b:Int}(h:eE a b=true):aK .Mult (.int a) (.int b)=some (.int (a*b)):=if_pos h
theorem sn {a b:Int}(h:0<=b/\b<2^60):aK .RShift (.int a) (.int b)=some (.int (a.fdiv (2^b.toNat))):=if_pos h
theorem Kh (a:Int):aK .RShift (.int a) (.int 1)=some (.int (a.fdiv 2)):=sn (by decide)
theorem bB:cw X [] σ st=some (.next,σ,st):=rfl
end
theorem ii {c:Loc->St->Option (Bool×St)}{b:Loc->St->Rs}{n:Nat}{σ:Loc}{st Kx:St}(h:c σ st=some (true,Kx)){K5:Loc}{Ky:St}(h2:b σ Kx=some (.next,K5,Ky)):f7 c b (n+1) σ st=f7 c b n K5 Ky:=by
 exact jT h (Db h2 rfl)
theorem fB {c:Loc->St->Option (Bool×St)}{b:Loc->St->Rs}{n:Nat}{σ:Loc}{st Kx:St}(h:c σ st=some (false,Kx)):f7 c b (n+1) σ st=some (.next,σ,Kx):=by
 exact jF h rfl
theorem la {a b:Int}(h:b.natAbs<2^64):divisionGoesByPylong a b=false:=by
 have:Nat->(Nat.log2 b.natAbs)/30+1<=300:=λ_=>by
  by_cases q:b.natAbs=0
  ·simp[q]
  ·have:=(log2_lt q).mpr h;exact JX
 unfold divisionGoesByPylong;simp only[];by_cases q:b=0
 ·simp[q]
 ·have:=this 0;simp[q];intro h;lia
theorem Er (n:Nat)(a:List AV)(st:St):run (n+1) 6 a st=bE (run n) [99] b6 a st:=rfl
theorem Es (n:Nat)(c:Nat)(st:St)(h1:c<128):run (n+1) 6 [.int c] st=some (.str [if c<32\/c=127 then c+128 else c],st):=by
 rw[Er];have lt:aJ ⟨run n⟩ (.val (.cmp .Lt (.l 99) (.int 32))) [(99,.int c)] st=some (decide ((c:Int)<32),st):=bF rfl rfl rfl;have eq:aJ ⟨run n⟩ (.val (.cmp .Eq (.l 99) (.int 127))) [(99,.int c)] st=some (decide ((c:Int)=127),st):=bF rfl rfl (gJ st _ _);have hi:aa ⟨run n⟩ (.bi .chr [.b .Add (.l 99) (.int 128)]) [(99,.int c)] st=some (.str [c+128],st):=dq (e1 (aj rfl rfl rfl)) (if_pos (show(0:Int)<=(c:Int)+128/\(c:Int)+128<256 from JN (by assumption)));by_cases h:c<32
 ·rw[if_pos (.inl h)];exact bT rfl (cy (sR (mD (HQ (lt.trans (congrArg (λb=>some (b,st)) (decide_eq_true (ofNat_lt.mpr h))))) hi)))
 ·have h2:=lt.trans (congrArg (λb=>some (b,st)) (decide_eq_false λe=>h (ofNat_lt.mp e)));by_cases q:c=127
  ·rw[if_pos (.inr q)];exact bT rfl (cy (sR (mD (um h2 (eq.trans (congrArg (λb=>some (b,st)) (decide_eq_true (by omega))))) hi)))
  ·rw[if_neg (λz=>z.elim h q)];exact bT rfl (cy (sR (sg (um h2 (eq.trans (congrArg (λb=>some (b,st)) (decide_eq_false (by omega))))) (dq (e1 rfl) (if_pos (show(0:Int)<=(c:Int)/\(c:Int)<256 by exact JZ))))))
end P
section
variable {Z:KX}{w:World}{A:Around}{F F' F0:bf}{φ KJ φ0 own:List Addr}{st L9 Kx Ky Kw:St}{s:Shared}{h h' hb:Heap}{env:Env}{pos:Pos}{σ KA Lm:Loc}{sc scope sI:Scope}{cap ps caps:List Nat}{O:List Addr}{I:Addr}
noncomputable def bL (K:Frag)(a:Nat):Option FuncData:=(K.lookup a).bind λo=>match o.data with
 |.func fd=>some fd
 |_=>none
noncomputable def lb (K:Frag)(a:Addr)(ps:List Nat):Bool:=(bL K a).any λfd=>fd.params.posonlyargs.isEmpty&&(fd.params.kwonlyargs.isEmpty&&(fd.params.vararg.isNone&&(fd.params.kwarg.isNone&&(fd.defaults==.none&&(fd.params.args.map (·.arg)==ps.map nm&&decide ps.Nodup)))))
noncomputable def Et (s:Stmt):Bool:=r7 s λ_ i _ b=>iw b (dw i λf as p2=>fi f (nm 46) λo ap=>eS o (nm 135) (iw as (ap.endLine==p2.line)))
noncomputable def wj (K:Frag)(a:Nat)(k:FuncData->Bool):Bool:=match bL K a with
 |some fd=>k fd
 |none=>false
noncomputable def lf (fd:FuncData)(k:List Stmt->Bool):Bool:=match fd.body with
 |.stmts l=>k l
 |_=>false
noncomputable def Eu {α:Type}(l:List α)(k:α->α->α->α->Bool):Bool:=eH l λa r=>eH r λb r=>Bn r (k a b)
theorem rk {K:Frag}{a:Nat}{k:FuncData->Bool}{fd:FuncData}(h:wj K a k=true)(e:bL K a=some fd):k fd=true:=by unfold wj at h;rw[e]at h;exact h
theorem lg {fd:FuncData}{k:List Stmt->Bool}{l:List Stmt}(h:lf fd k=true)(e:fd.body=.stmts l):k l=true:=by unfold lf at h;rw[e]at h;exact h
theorem so {α:Type}{l:List α}{f:α->α->α->α->Bool}{P:List α->Prop}(k:∀ x y z u,f x y z u=true->P [x,y,z,u]):Eu l f=true->P l:=
 bD λa r=>bD (P:=λr=>P (a::r)) λb r=>kG (P:=λr=>P (a::b::r)) (k a b)
noncomputable def Ev (K:Frag)(a:Addr):Bool:=wj K a λfd=>lf fd λl=>Eu l λs1 s2 s3 s4=>cY fd.scope yP [s1,s2]&&(Et s3&&cY fd.scope yQ [s4])
structure Mu (Z:KX):Prop where
 fva:∀ f,f<37->fv f=.ref (cr f)
 tab:mz.all (λe=>fj Z.K (cr e.1) e.2.1 e.2.2&&lb Z.K (cr e.1) e.2.1)=true
 f32:fj Z.K (cr 32) [129,110,132] Ek=true
 d32:∀ fd,bL Z.K (cr 32)=some fd->∀ s,Z.K.In s.heap->∀ v1 v2,BindsTo s fd ⟨[v1,v2],[]⟩ (([129,110,132].map nm).zip [v1,v2,.none])
 f20:fj Z.K 76 [129,130] Ej=true
 d20:∀ fd,bL Z.K 76=some fd->∀ s,Z.K.In s.heap->∀ v1 v2,BindsTo s fd ⟨[v1,v2],[]⟩ (([129,130].map nm).zip [v1,v2])
 f21:fj Z.K 260 [129,154] El=true
 p21:lb Z.K 260 [129,154]=true
 mks:∀ c:Nat,makesIn Z.K (ca c)=true/\findIn Z.K (.ref (ca c)) "__init__"=some (some (.ref (if c=0 then 76 else 260)))/\typeIn Z.K (.ref (if c=0 then 76 else 260))=some (.type "function")
 sysm:∃ o,Z.K.lookup sysModules=some o
 f34:fj Z.K (cr 34) [129,133,134,135] [.bad,.bad,.bad,.bad]=true
 a34:Ev Z.K (cr 34)=true
 d34:∀ fd,bL Z.K (cr 34)=some fd->∀ v1 v2 v3,bindArgs fd ⟨[v1,v2,v3],[]⟩=(alloc emptyDict>>=λd=>pure (([129,133,134,135].map nm).zip [v1,v2,v3,.ref d]))
 f35:fj Z.K (cr 35) [129,64,110] Gp=true
 d35:∀ fd,bL Z.K (cr 35)=some fd->∀ v1 v2 v3,bindArgs fd ⟨[v1,v2],[(ofString "name",v3)]⟩=pure (([129,64,110].map nm).zip [v1,v2,v3])
section
variable {p:Pos}{a:Addr}
theorem FnAt.funcAt {K:Frag}{ps:List Nat}{b:List S}{o:Obj}{fd:FuncData}{l:List Stmt}(x:FnAt K a ps b o fd l):bL K a=some fd:=by
 unfold Mine.Internal.bL;rw[x.at_,Option.bind_some,x.data]
theorem FnAt.cloOk {K:Frag}{ps:List Nat}{b:List S}{o:Obj}{fd:FuncData}{l:List Stmt}(fa:FnAt K a ps b o fd l)(h:Heap):Lu F φ [] fd.scope [] h:=
 ⟨λx c m=>absurd m not_mem_nil,λx y c m=>absurd m not_mem_nil,λx e=>(fa.nofree x e).elim,λx c m=>absurd m not_mem_nil,λx v e=>absurd e bg⟩
theorem oT {γ:Type}{c:Prop}[d:Decidable c]{a b:γ}{r:γ}{P:Prop}(e:(if c then a else b)=r)(f:c->a=r->P)(g:¬ c->b=r->P):P:=by
 cases d with
 |isTrue h=>exact f h e
 |isFalse h=>exact g h e
theorem gK {P:Nat->AV->Prop}{y x:Nat}{u v:AV}{r:Loc}(f:P y u)(g:af r x=some v->P x v)(e:af ((y,u)::r) x=some v):P x v:=by
 unfold af at e
 cases q:Nat.beq y x with
 |true=>rw[q]at e;exact Nat.eq_of_beq_eq_true q▸K7 e▸f
 |false=>rw[q]at e;exact g e
theorem gL {C:jN}{ps:List Nat}{b:List S}{args:List AV}{v:AV}(e:bE C ps b args st=some (v,Kw)):∃ σ fl KA,bA [] ps args=some σ/\cw ⟨C⟩ b σ st=some (fl,KA,Kw)/\fl≠.brk/\vX fl=v:=by
 refine oG e λσ h1 e=>?_
 cases h2:cw ⟨C⟩ b σ st with
 |none=>rw[h2]at e;exact absurd e bg
 |some q=>
  obtain⟨f,KA,Kx⟩:=q;rw[h2]at e
  cases f with
  |next=>exact oP (P:=λv Kw=>∃ σ fl KA,bA [] ps args=some σ/\cw ⟨C⟩ b σ st=some (fl,KA,Kw)/\fl≠.brk/\vX fl=v) e ⟨σ,_,_,h1,h2,nofun,rfl⟩
  |brk=>exact absurd e bg
  |ret u=>exact oP (P:=λv Kw=>∃ σ fl KA,bA [] ps args=some σ/\cw ⟨C⟩ b σ st=some (fl,KA,Kw)/\fl≠.brk/\vX fl=v) e ⟨σ,_,_,h1,h2,nofun,rfl⟩
theorem ij {C:jN}{k:Nat}(hk:1<=k)(hC:cx Z w k C)(G:Glob Z){ps:List Nat}{b:List S}{args:List AV}{v:AV}{KO vv:List Value}{kw:List (Str×Value)}
  (Qg:fj Z.K a ps b=true) (Nq:∀ fd,bL Z.K a=some fd->BindsTo s fd ⟨vv,kw⟩ ((ps.map nm).zip KO)) (e:bE C ps b args st=some (v,Kw)) (rm:KP (k+2) A) (R:KD Z F φ st s.heap) (V:KI F φ args KO) :
  Good Z w A (call (.ref a) vv kw) F φ s v Kw:=λQ hQ=>by
 refine mS (gL e) ?_;rintro σ fl KA h1 h2 h3 rfl;refine tn (iH Qg) λo fd l fa=>?_;exact wpAny_call (pA (X:=⟨C⟩) hk hC G fa (Nq fd fa.funcAt) h1 h2 h3 rm R V λF' KJ v' h' tk S R' V'=>hQ F' KJ v' h' tk S R' V')
theorem wk:∀ {ps:List Nat},ps.Nodup->(ps.map nm).Nodup:=by
 intro ps
 induction ps with
 |nil=>
  intro _;exact nodup_nil
 |cons x r ih=>
  intro h;refine av (nodup_cons.mp h) λh1 h2=>?_;rw[map_cons];exact nodup_cons.mpr ⟨λm=>by refine ak (mem_map.mp m) λy m e=>?_;exact h1 (nm_inj e▸m),ih h2⟩
theorem fe {ps:List Nat}{KO:List Value}(h:lb Z.K a ps=true)(hl:KO.length=ps.length):∀ fd,bL Z.K a=some fd->BindsTo s fd ⟨KO,[]⟩ ((ps.map nm).zip KO):=λfd hf=>by
 refine ak (oz h) λfd' e h=>?_;rw[hf]at e;cases e;refine av (bC h) λh1 h=>?_;refine av (bC h) λh2 h=>?_;refine av (bC h) λh3 h=>?_;refine av (bC h) λh4 h=>?_;refine av (bC h) λh5 h=>?_;refine av (bC h) λh6 h7=>?_;have nd:(ps.map nm).Nodup:=wk (of_decide_eq_true h7);exact BindsTo.of_eq (kT (isEmpty_iff.mp h1) (isEmpty_iff.mp h2) (isNone_iff_eq_none.mp h3) (isNone_iff_eq_none.mp h4) (by cases q:fd.defaults<;>rw[q]at h5<;>first |rfl |cases h5) (dk h6) nd (by rw[hl,length_map]))
theorem mE {α:Type}:∀ {l:List (Nat×α)} {f:Nat} {q:α},l.lookup f=some q->(f,q)∈l
 |(n,x)::r,f,q,h=>by
  rw[lookup_cons]at h
  cases z:f==n with
  |true=>rw[z]at h;cases h;rw[eq_of_beq z];exact .head _
  |false=>rw[z]at h;exact .tail _ (mE h)
theorem wl {C:jN}{k:Nat}(hk:1<=k)(hC:cx Z w k C)(G:Glob Z)(P:Mu Z){f:Nat}{q:List Nat×List S}{args:List AV}{v:AV}{KO:List Value}(hq:mz.lookup f=some q)
  (e:bE C q.1 q.2 args st=some (v,Kw)) (rm:KP (k+2) A) (R:KD Z F φ st s.heap) (V:KI F φ args KO):Good Z w A (call (fv f) KO) F φ s v Kw:=by
 have m:=mE hq
 have hf:f<37:=by
  have:=mem_map_of_mem (f:=Prod.fst) m
  have hh:∀ x∈mz.map Prod.fst,x<37:=by
   show ∀ x∈[0,1,2,3,4,5,6,7,8,9,10,11,12,13,14,15,18,19,22,30,31,33,36],x<37;decide
  exact hh _ this
 have h:=all_eq_true.mp P.tab _ m;refine av (bC h) λh1 h2=>?_;rw[P.fva f hf];refine ym (gL e) λσ _ _ hs _=>?_;have hl:=cJ hs;have MT:=V.length;exact ij hk hC G h1 (fe h2 (MT.symm.trans hl)) e rm R V
theorem KP.creation {k:Nat}(rm:KP (k+3) A)(C:Addr)(rest:List Value)(kw:List (Str×Value)):KP (k+2) (A.under (.builtin "type.__call__" ⟨.ref C::rest,kw⟩)):=by
 have h1:Code.weight (.builtin "type.__call__" ⟨.ref C::rest,kw⟩)=1:=by first |rfl |kernel_rfl
 have h2:Code.cUnits (.builtin "type.__call__" ⟨.ref C::rest,kw⟩)=1:=by first |rfl |kernel_rfl
 refine⟨rm.hd,?_,?_⟩
 ·have:=rm.dp;show A.depth+Code.weight _+2*(k+2)<=900;rw[h1];exact Q1 0x38431311502124011038431211502121114001102 [_,_] this rfl
 ·have:=rm.un;show A.units+Code.cUnits _+20*(k+2)<=9000;rw[h2];exact Q1 0x232841311501422401102328412115014221114001102 [_,_] this rfl
theorem sq {C:jN}{k c:Nat}(hk:1<=k)(hC:cx Z w k C)(G:Glob Z){ps:List Nat}{b:List S}{args:List AV}{v:AV}{KO:List Value}
  (hm:makesIn Z.K (ca c)=true) (hi:findIn Z.K (.ref (ca c)) "__init__"=some (some (.ref a))) (hf:typeIn Z.K (.ref a)=some (.type "function"))
  (Qg:fj Z.K a ps b=true) (Nq:∀ fd,bL Z.K a=some fd->∀ s,Z.K.In s.heap->∀ x,BindsTo s fd ⟨x::KO,[]⟩ ((ps.map nm).zip (x::KO))) (e:vZ C c ps b args st=some (v,Kw)) (rm:KP (k+3) A)
  (R:KD Z F φ st s.heap) (V:KI F φ args KO):Good Z w A (call (.ref (ca c)) KO) F φ s v Kw:=λQ hQ=>by
 obtain⟨hh,g,d,t,os⟩:=s;refine oG e λσ h1 e=>kV e λKA Kx h2 e=>?_;have X':=R.base.inK R.frz;refine av (R.newM (o:=emptyDict) (ao:=.dict []) rfl ⟨[],0,get?_push_size _ rfl,le_refl _,λx v e=>absurd e bg,λx e=>rfl,λe m=>absurd m not_mem_nil⟩) λR1 S1=>?_;have hd:(φ++[hh.objs.size])[st.length]?=some hh.objs.size:=by rw[← R.len];simp
 refine av (R1.newM (o:=instObj (ca c) hh.objs.size) (ao:=.inst c st.length) rfl ⟨hh.objs.size,#[],get?_push_size _ rfl,eU (prefix_append _ _) hd⟩) λR2 S2=>?_;have sz:(hh.push emptyDict).objs.size=hh.objs.size+1:=size_push ..;rw[sz]at R2 S2
 have hx:(φ++[hh.objs.size]++[hh.objs.size+1])[st.length+1]?=some (hh.objs.size+1):=by
  rw[← R.len];simp
 have Ma:=(S1 []).trans (S2 []);refine tn (iH Qg) λo fd l fa=>?_;refine wpAny_call (make_core (makes_of X' hm) (looks_findIn X' hi) (λself=>bind_fn X' self hf) (.inl rfl) ?_);refine pA (X:=⟨C⟩) (s:=⟨(hh.push emptyDict).push (instObj (ca c) hh.objs.size),g,d,t,os⟩) hk hC G fa (Nq fd fa.funcAt _ (R2.base.inK R2.frz) _) h1 h2 nofun (rm.creation _ _ _) R2 (.cons (.obj hx) (V.mono Ma.le Ma.pre)) λF' KJ v' h' tk S R' V'=>?_;exact VR.noneR (P:=λv'=>v'=.none/\_) ⟨rfl,oP (P:=λv Kw=>KW Z F φ ⟨hh,g,d,t,os⟩ v Kw Q->Q _ _) e (λhQ=>hQ F' KJ _ h' tk (Ma.trans S) R' (.obj (eU S.pre hx))) hQ⟩ V'
theorem wm {t:Expr}{body:List Stmt}{d:Addr}{n:Nat}{p1 p2 apos:Pos}{Q:Flow->Shared->Prop}(hh:A.handled=none)(KY:(apos.endLine==p2.line)=true)(ld:∀ Q:Value->Shared->Prop,Q (.ref d) s->aA w A (eval (.Name (nm 135) p1) env) Q aq s)
  (hd:s.heap.get? d=some (dictOf [] n)) (hs:(d==sysModules)=false) (hQ:∀ h' tk,(∀ b o,s.heap.get? b=some o->h'.get? b=some o)->Q .next ⟨h',s.gens,s.drawn,tk,s.os⟩) :
  aA w A (exec (.For t (.Call (.Attribute (.Name (nm 135) p1) (nm 46) apos) [] [] p2) body [] p) env) Q aq s:=by
 have hn:nm 46=ofString "items":=by decide +kernel
 have QW:∀ h':Heap,h'.get? d=some (dictOf [] n)->h'.DictAt (intKind aM w) d [] n:=λh' e=>⟨_,#[],e,⟨rfl,rfl,rfl⟩,rfl,λe m=>(by simp at m),.nil,nodup_nil⟩;rw[hn];refine wpAny_For (PySem.Call_method0 (cX rfl) KY (ld _ ?_)) (λ_=>rfl);refine⟨"dict","dict.items",PySem.F.plainAttrs_dict,PySem.F.slot_dict_items,PySem.F.type_dict_items,⟨_,hd,rfl⟩,λa z=>?_,?_⟩
 ·cases z;exact⟨_,hd,rfl⟩
 refine method_meetsIn PySem.F.slot_dict_items PySem.F.entry_dict_items rfl (PySem.evalArgs_none ⟨rfl,⟨_,hd,rfl⟩,PySem.F.args_dict_items_1 _,_,meets_dict_items (intKind aM w) d hs,⟨[],_,#[],n,hd,⟨rfl,rfl,rfl⟩,rfl,λe m=>(by simp at m),.nil,nodup_nil⟩,?_⟩);have e1:(s.heap.push { cls:=.type "dict_items",data:=.fields #[.ref d] }).get? d=some (dictOf [] n):=aC _ _ hd;refine wpAny_pyIter_items (knd:=intKind aM w) (kvs:=[]) (ep:=n) ⟨_,get?_push_size _ rfl,rfl,rfl⟩ (QW _ e1) ?_;refine kP (λm s'=>s'={ s with heap:=(s.heap.push { cls:=.type "dict_items",data:=.fields #[.ref d] }).push { cls:=.type "dict_itemiterator",data:=.fields #[.none,.bool false,.ref d,.int 0 0,.int (([]:List (Int×Value)).length:Nat) 0,.int n 0,.none,.none] } }) (λm s' hI=>?_) 0 rfl;subst hI;refine wpAny_pyNext_items_end (knd:=intKind aM w) (kvs:=[]) (i:=0) (ep:=n) hh (get?_push_size _ rfl) (QW _ (aC _ _ e1)) rfl λh1 k1=>?_;refine wpAny_execs_nil (hQ h1 _ λb o e=>k1 b o (λz=>?_) (aC _ _ (aC _ _ e)));have:=lt_size e;rw[z]at this;rw[size_push]at this;exact absurd this (not_lt.mpr (le_succ _))
theorem lh {X:Cx}{t:S}{r:List S}{P:Prop}(e:cw X (t::r) σ st=some (.next,KA,Kw))(k:∀ KC Kx,xS X t σ st=some (.next,KC,Kx)->cw X r KC Kx=some (.next,KA,Kw)->P):P:=
 oF e k (λ_ _ _ e=>nomatch e) (λ_ _ _ _ e=>nomatch e)
theorem yT {d:Addr}(R:KD Z F φ st h)(hm:d∈φ)(hk:∃ o,F sysModules=some o):(d==sysModules)=false:=by
 rw[beq_eq_false_iff_ne];rintro rfl;refine aw hk ?_;clear hk;intro o e;rw[R.new _ hm]at e;cases e
theorem yU {C:jN}{k:Nat}(hk:1<=k)(hC:cx Z w k C)(G:Glob Z)(P:Mu Z){args:List AV}{v:AV}{KO:List Value}(e:wb C args st=some (v,Kw))(rm:KP (k+2) A)
  (R:KD Z F φ st s.heap) (V:KI F φ args KO):Good Z w A (call (.ref (cr 34)) KO) F φ s v Kw:=λQ hQ=>by
 refine oG e λσ h1 e=>kV e λKC Kx h2 e=>oI e λhn e=>kV e λK5 Ky h3 e=>oP (P:=λv Kw=>KW Z F φ s v Kw Q->aA w A (call (.ref (cr 34)) KO) Q aq s) e (λhQ=>?_) hQ;have X':=R.base.inK R.frz;refine tn (iH P.f34) λo fd l fa=>?_;have K2:=fa.body;revert K2;refine so (P:=λl=>fd.body=.stmts l->_) (λs1 s2 s3 s4 ha K2=>fZ ha λc1 c2 c3=>?_) (lg (rk P.a34 fa.funcAt) fa.body);have hl3:KO.length=3:=V.length.symm.trans (Nat.add_right_cancel ((length_append (bs:=[AV.obj st.length])).symm.trans (cJ h1)));revert V;refine A9 hl3 λv1 v2 v3 V=>?_;refine av (R.newM (o:=emptyDict) (ao:=.dict []) rfl ⟨[],0,get?_push_size _ rfl,le_refl _,λx v e=>absurd e bg,λx e=>rfl,λe m=>absurd m not_mem_nil⟩) λR1 S1=>?_;have hd:(φ++[s.heap.objs.size])[st.length]?=some s.heap.objs.size:=by rw[← R.len];simp
 have V1:KI F (φ++[s.heap.objs.size]) (args++[.obj st.length]) [v1,v2,v3,.ref s.heap.objs.size]:=KI.append (V.mono (Lp.refl _) (prefix_append _ _)) (.cons (.obj hd) .nil);refine wpAny_call (codeAny_call_function rm.depth (X' _ _ fa.at_) fa.data fa.co fa.gen K2 (codeRec_of X' fa.code) ?_);rw[P.d34 fd fa.funcAt,fa.glob,fa.blt,fa.clo];refine wpAny_bind (wpAny_alloc (wpAny_pure ?_));have Cl:=fa.cloOk (F:=F) (φ:=φ++[s.heap.objs.size]) (s.heap.push emptyDict);refine o0 (iG (s:=⟨s.heap.push emptyDict,s.gens,s.drawn,s.toks,s.os⟩) R1 fa.kind fa.nd Cl fa.ps h1 V1 λMV KG O' tk S2 R2 hO L2 _ _ _ _=>⟨R2.base.noLimit R2.frz,?_⟩);have MK:KP (k+1) (A.deeper KG):=rm.deeper KG;refine codeAny_func (o0 ?_);refine n6 (show ∃ x1 x2,yP=[x1,x2] from ⟨_,_,rfl⟩) λx1 x2 hb=>?_;rw[hb]at c1 h2;refine lh h2 λσm Ld g1 g2=>lh g2 λσn stn g3 g4=>bV c1 λd1 d2=>bV d2 λd2 _=>?_;cases g4;refine wpAny_execs_cons ((ug (X:=⟨C⟩) hk hC G x1).run (s:=sw s MV tk) d1 g1 MK R2 L2 _ λF2 K3 OY h2'' KR S2' R2' L2' f2=>?_);cases f2;refine wpAny_execs_cons ((ug (X:=⟨C⟩) hk hC G x2).run (s:=sw s h2'' KR) d2 g3 MK R2' L2' _ λF3 Ms fl3 NC Lc S3' R3 L3 f3=>?_);cases f3;refine wpAny_execs_cons ?_;clear K2 ha
 refine nx (P:=λs3=>wpAny (model aM w) (A.deeper KG) (exec s3 KG) _ aq ⟨NC,s.gens,s.drawn,Lc,s.os⟩) (λt it bd oe pf c=>kE (P:=λoe=>wpAny (model aM w) (A.deeper KG) (exec (.For t it bd oe pf) KG) _ aq ⟨NC,s.gens,s.drawn,Lc,s.os⟩) (λc=>
  bZ (P:=λit=>wpAny (model aM w) (A.deeper KG) (exec (.For t it bd [] pf) KG) _ aq ⟨NC,s.gens,s.drawn,Lc,s.os⟩) (λfn as p2 c=>dA (P:=λfn=>wpAny (model aM w) (A.deeper KG) (exec (.For t (.Call fn as [] p2) bd [] pf) KG) _ aq ⟨NC,s.gens,s.drawn,Lc,s.os⟩) (λo2 ap c=>
  bn (P:=λo2=>wpAny (model aM w) (A.deeper KG) (exec (.For t (.Call (.Attribute o2 (nm 46) ap) as [] p2) bd [] pf) KG) _ aq ⟨NC,s.gens,s.drawn,Lc,s.os⟩) (λp1 c=>kE (P:=λas=>wpAny (model aM w) (A.deeper KG) (exec (.For t (.Call (.Attribute (.Name (nm 135) p1) (nm 46) ap) as [] p2) bd [] pf) KG) _ aq ⟨NC,s.gens,s.drawn,Lc,s.os⟩) (λq5=>?_) c) c) c) c) c) c2
 refine ak (wa hn) λj hj hj2=>?_;refine ak (L3.val 135 _ hj) λu hu nu=>?_;refine ak hu.inv ?_;rintro d rfl hi;refine cP (R3.obj _ _ _ hi hj2) λes n e3 l3 _=>?_;cases List.length_eq_zero_iff.mp (Nat.le_zero.mp l3);have Mz:(d==sysModules)=false:=yT R3 (mem_of_getElem? hi) (P.sysm.elim λo e=>⟨o,R3.base.X _ _ e⟩);refine wm (s:=sw s NC Lc) MK.hd q5 (λQ hq=>gi (s:=sw s NC Lc) L3 hj (by decide) λv' hv=>?_) e3 Mz λh4 LS k4=>?_
 ·exact VR.objR (P:=λv'=>Q v' _) (λa M0=>K7 (hi.symm.trans M0)▸hq) hv
 refine(vW (X:=⟨C⟩) hk hC G yQ).run (s:=sw s h4 LS) c3 h3 MK (R3.ext k4) (L3.step (Step.ext k4)) _ λF5 L7 fl5 h5 Mg S5 R5 L5 f5=>?_;cases f5;exact hQ F5 L7 .none h5 Mg ((S1 []).trans (S2.hide (((S2'.trans S3').trans (Step.ext k4)).trans S5) hO)) R5 .none
end
section
variable {p:Pos}{a P:Addr}
noncomputable def wn (Z:KX)(P:Addr):Pos:=if P=cQ then Z.pos1 else Z.pos2
noncomputable def tQ (Z:KX)(P:Addr):Str:=if P=cQ then Z.q1 else Z.q2
theorem KD.tab (hP:P=cQ\/P=dr)(R:KD Z F φ st h):Mv F h P (wn Z P) (tQ Z P)/\F P=none/\P∉φ:=by
 rcases hP with rfl |rfl
 ·exact⟨R.t1,R.n1⟩
 ·exact⟨R.t2,R.n2⟩
theorem Step.tab (hP:P=cQ\/P=dr)(k:Heap.ExtBut P h h')(hd:∃ o,h'.get? P=some o):Step F φ own h F φ h':=
 ⟨Lp.refl F,λ_ _ e=>.inl e,prefix_refl φ,λ_ m=>.inl m,λb o e=>by
  by_cases z:b=P
  ·subst z;exact hd
  ·exact⟨o,k b o z e⟩,λb o e _ n1 n2 _=>k b o (by rcases hP with rfl |rfl<;>assumption) e⟩
theorem uo {c:Addr}{name:Str}{params:Arguments}{body:List Stmt}{Lk:List (Str×Addr)}{qual:Str}{fl:Nat}{Q:Value->Shared->Prop}(hP:P=cQ\/P=dr)(R:KD Z F φ st s.heap)(L:KH F φ σ sc env O s.heap)
  (hq:qual=tQ Z P) (MW:env.code=.ref c) (Ox:codeHdIn Z.K c P=true) (NZ:closureFor scope env=pure Lk) (Qh:mainGlobals≠P)
  (hb:∃ bm ob,Z.mg "__builtins__"=some (.ref bm)/\bm≠builtinsNs/\bm≠mainGlobals/\bm≠P/\Z.K.lookup bm=some ob/\ob.cls=.type "module"/\ob.dict=some builtinsNs/\ob.data=.plain)
  (hQ:∀ F' h' f c' oc vs t doc ML tk,Step F φ [] s.heap F' φ h'->KD Z F' φ st h'->F' f=some (fnMade name qual params body scope Lk doc ((Z.mg "__name__").getD .none) c' ML)->F' c'=some oc->oc.data=.fields vs->vs[1]?=some (.str qual t) ->
   Q (.ref f) ⟨h',s.gens,s.drawn,tk,s.os⟩) :
  aA w A (makeFunction name qual params (.stmts body) scope env [] [] [] (wn Z P) fl) Q aq s:=by
 refine G0 hb ?_;clear hb;intro bm ob b1 b2 b3 b4 b5 b6 b7 b8;have X:=R.base.inK R.frz;have hB:s.heap.BuiltinsAt Z.mg P:=⟨bm,ob,b1,b2,b3,b4,X _ _ b5,b6,b7,b8⟩;refine mR (R.tab hP) ?_;rintro⟨ps,OX,PB,hc⟩ nF nφ
 have fresh:∀ {h':Heap},(∀ b o,b≠P->s.heap.get? b=some o->h'.get? b=some o)->s.heap.objs.size<=h'.objs.size->∀ b,s.heap.objs.size<=b->s.heap.get? b=none:=λ_ _ b hb=>by
  cases q:s.heap.get? b with
  |none=>rfl
  |some o=>exact absurd (lt_size q) (not_lt.mpr hb)
 rcases hc with QX |⟨c',oc,vs,t,hf,PD,hd,hv⟩
 ·refine makeFunction_K NZ L.glob (R.base.g.ns R.frz) MW (codeHd_of_K X Ox) OX PB QX Qh hB λc' ML doc h' tk hx Oy LC OZ QY=>?_;refine GY OZ ?_;clear OZ;intro c2 oc vs t e2 PD hd hv;cases e2
  have new:∀ b,s.heap.objs.size<=b->s.heap.get? b=none:=λb hb=>by
   cases q:s.heap.get? b with
   |none=>rfl
   |some o=>exact absurd (lt_size q) (not_lt.mpr hb)
  have nc:=new c' Oy;refine gS (R.absent nc) λm1 m2 m3 m4=>?_;have S1:Step F φ [] s.heap F φ h':=Step.tab hP hx ⟨_,QY⟩
  have tF:Mv (ia F c' oc) h' P (wn Z P) (tQ Z P):=⟨_,QY,by
   rw[toList_append]
   exact TriplesOk_snoc _ _ _ _ PB,.inr ⟨c',oc,vs,t,by
    rw[toList_append]
    exact codeAmong_snoc _ PB QX,bP,hd,by rw[hv,hq]⟩⟩
  have nPc:P≠c':=λz=>by rw[← z,OX]at nc;cases nc
  have R1:KD Z (ia F c' oc) φ st h':=by
   have R0:KD Z (ia F c' oc) φ st s.heap\/True:=.inr trivial;have kF:∀ b o,F b=some o->h'.get? b=some o:=λb o e=>hx b o (λz=>by rw[z,nF]at e;cases e) (R.frz b o e);have QZ:∀ b∈φ,∀ o,s.heap.get? b=some o->h'.get? b=some o:=λb m o e=>hx b o (λz=>nφ (z▸m)) e;have le:Lp F (ia F c' oc):=cW m1;refine⟨R.base.mono le,λb o e=>?_,R.len,R.nod,λb m=>?_,λb m=>let ⟨o,e⟩:=R.dom b m;⟨o,QZ b m o e⟩,λi b o e1 e2=>(R.obj i b o e1 e2).mono le (prefix_refl φ) λo' e'=>QZ b (mem_of_getElem? e1) o' e',?_,?_,?_,?_⟩
   ·unfold ia at e;by_cases z:b=c'
    ·rw[if_pos z]at e;cases e;rw[z];exact PD
    ·rw[if_neg z]at e;exact kF b o e
   ·have:b≠c':=λz=>m2 (z▸m);unfold ia;rw[if_neg this];exact R.new b m
   ·rcases hP with rfl |rfl
    ·exact tF
    ·exact R.t1.mono le λo e=>hx _ o (by decide) e
   ·rcases hP with rfl |rfl
    ·exact R.t2.mono le λo e=>hx _ o (by decide) e
    ·exact tF
   ·exact⟨by unfold ia;rw[if_neg (Ne.symm m3)];exact R.n1.1,R.n1.2⟩
   ·exact⟨by unfold ia;rw[if_neg (Ne.symm m4)];exact R.n2.1,R.n2.2⟩
  have Px:Step F φ [] s.heap (ia F c' oc) φ h':=⟨cW m1,λx o e=>by
   unfold ia at e;by_cases z:x=c'
   ·subst z;exact .inr (.inl nc)
   ·rw[if_neg z]at e;exact .inl e,S1.pre,S1.pnew,S1.dom,S1.kept⟩
  refine av (R1.newF (o:=fnMade name qual params body scope Lk doc ((Z.mg "__name__").getD .none) c' ML) rfl) λR2 S2=>?_;have Qi:c'≠h'.objs.size:=ne_of_lt LC;exact hQ _ _ _ c' oc vs t doc ML tk (Px.trans (S2 [])) R2 bP (by unfold ia;rw[if_neg Qi];exact bP) hd hv
 ·refine makeFunction_hit NZ L.glob (R.base.g.ns R.frz) MW (codeHd_of_K X Ox) OX PB hf hB λML doc h' tk hk Mk=>?_;refine av ((R.ext hk).newF (o:=fnMade name qual params body scope Lk doc ((Z.mg "__name__").getD .none) c' ML) rfl) λR2 S2=>?_;have Qi:c'≠h'.objs.size:=ne_of_lt (lt_of_lt_of_le (lt_size (R.frz _ _ PD)) Mk);exact hQ _ _ _ c' oc vs t doc ML tk ((Step.ext hk).trans (S2 [])) R2 bP (by unfold ia;rw[if_neg Qi];exact PD) hd (by rw[hv,hq])
end
noncomputable def X0:Cx:=⟨λ_ _ _=>none⟩
section
variable {p:Pos}{a P:Addr}
theorem eL:cx Z w 1 X0.C:=λf args st v Kw e=>by cases e
theorem Lu.step {cl:List (Str×Addr)}(C:Lu F φ Lm scope cl h)(S:Step F φ [] h F' KJ h'):Lu F' KJ Lm scope cl h':=by
 have kp:∀ x c,(x,c)∈cl->∀ v,h.IsCell c v->h'.IsCell c v:=λx c m v=>by
  rintro⟨o,e,d⟩;refine Dp (C.ex x c m) λ_ _ n2 n3 n4=>?_;exact⟨o,S.kept c o e n2 n3 n4 (λz=>by cases z),d⟩
 refine⟨λx c m=>?_,C.apart,C.free,C.only,λx v e=>?_⟩
 ·refine Dp (C.ex x c m) ?_;rintro⟨v,hv⟩ n1 n2 n3 n4;refine ak (id hv) λo e _=>?_;have:=(K0.mk ⟨o,e⟩ n1 n2 n3 n4:K0 F φ h c).step S;exact⟨⟨v,kp x c m v hv⟩,this.f,this.p,n3,n4⟩
 ·refine cP (C.val x v e) λv' c hv h1 h2=>?_;exact⟨v',c,hv.mono S.le S.pre,h1,kp _ c (KS.kept.lookup_mem h1) _ h2⟩
theorem lj {es:List E}{as:List Expr}{us:List AV}{f:Addr}{fo:Obj}{fd:FuncData}{v:AV}{p1:Pos}(G:Glob Z)(R:KD Z F φ st s.heap)(L:KH F φ σ sc env O s.heap)(hf:af σ 53=some (.fn f))(MM:F f=some fo)(MN:fo.data=.func fd)
  (c:eZ sc es as=true) (hs:as.all aB=true) (e:aN X0 es σ st=some (us,Kx)) (rm:KP 2 A)
  (hc:∀ F1 Kz KO h1 tk,Step F φ [] s.heap F1 Kz h1->KD Z F1 Kz Kx h1->KI F1 Kz us KO->Good Z w A (call (.ref f) KO) F1 Kz ⟨h1,s.gens,s.drawn,tk,s.os⟩ v Kw) :
  Good Z w A (eval (.Call (.Name (nm 53) p1) as [] p) env) F φ s v Kw:=λQ hQ=>by
 refine PySem.wpAny_Call_NameR (gi L hf (by decide) λv' hv=>?_);cases hv;refine PySem.W.callWith_of (P:=λh=>PySem.W.FnAt f h) (by rw[cM hs];rfl) (λh x=>PySem.W.keeps_F h x) ?_;refine fg hs R (fL c e) ((Aq (le_refl 1) eL G es).run c hs e rm R L) λF1 Kz KO h1 tk S1 R1 V1=>?_;refine⟨?_,hc F1 Kz KO h1 tk S1 R1 V1 Q (KW.step hQ S1)⟩;obtain⟨oc,od,da,sl⟩:=fo;cases MN;exact⟨oc,od,fd,sl,R1.frz _ _ (S1.le _ _ MM)⟩
structure Lf (F:bf)(f:Addr)(ps:List Nat)(body:List Stmt)(scope:Scope)(Lk:List (Str×Addr)):Prop where
 fn:∃ name qual params doc pm c' ML oc vs t,F f=some (fnMade name qual params body scope Lk doc pm c' ML)/\F c'=some oc/\oc.data=.fields vs/\vs[1]?=some (.str qual t) /\
  params.posonlyargs=[]/\params.kwonlyargs=[]/\params.vararg=none/\params.kwarg=none/\params.args.map (·.arg)=ps.map nm
 kind:scope.kind=.function
 co:scope.isCoroutine=false
 gen:scope.isGenerator=false
 nd:(scope.names.map (·.1)).Nodup
 psd:ps.Nodup
 ps:∀ x∈ps,scope.names.lookup (nm x)=some .local\/scope.names.lookup (nm x)=some .cell
theorem Lf.mono {f:Addr}{ps:List Nat}{body:List Stmt}{Lk:List (Str×Addr)}(x:Lf F f ps body scope Lk)(hF:Lp F F'):Lf F' f ps body scope Lk:=by
 obtain⟨⟨name,qual,params,doc,pm,c',ML,oc,vs,t,e1,e2,r⟩,k⟩:=x;exact⟨⟨name,qual,params,doc,pm,c',ML,oc,vs,t,hF _ _ e1,hF _ _ e2,r⟩,by assumption,by assumption,by assumption,by assumption,by assumption,by assumption⟩
theorem jy {f:Addr}{ps:List Nat}{body:List Stmt}{Lk:List (Str×Addr)}{us:List AV}{KO:List Value}{Q:Value->Shared->Prop}(In:Lf F f ps body scope Lk)(R:KD Z F φ st s.heap)(C:Lu F φ Lm scope Lk s.heap)
  (hs:bA Lm ps us=some σ) (V:KI F φ us KO) (hd:A.depth<recursionLimit)
  (hQ:∀ h1 KG O' tk,Step F φ [] s.heap F φ h1->KD Z F φ st h1->(∀ a∈O',s.heap.get? a=none)->KH F φ σ scope KG O' h1 ->
   wpAny (model aM w) (A.deeper KG) (execs body KG) (λf s'=>Q (match f with |.ret v=>v |_=>.none) s') aq ⟨h1,s.gens,s.drawn,tk,s.os⟩) :
  aA w A (call (.ref f) KO) Q aq s:=by
 obtain⟨name,qual,params,doc,pm,c',ML,oc,vs,t,e1,e2,e3,e4,p1,p2,p3,p4,p5⟩:=In.fn;have hl:=cJ hs;have MT:=V.length;have nd:(ps.map nm).Nodup:=wk In.psd;have hb:=kT (fd:=fnX name qual params body scope Lk .none .none doc pm none (.ref c') ML) (vs:=KO) p1 p2 p3 p4 rfl p5 nd (by rw[length_map];exact MT.symm.trans hl);refine wpAny_call (codeAny_call_function hd (R.frz _ _ e1) rfl In.co In.gen rfl ⟨c',oc,vs,t,rfl,R.frz _ _ e2,e3,e4⟩ ?_);rw[hb];refine wpAny_pure ?_;refine o0 (iG R In.kind In.nd C In.ps hs V λh1 KG O' tk S1 R1 hO L1 _ _ _ _=>⟨R1.base.noLimit R1.frz,?_⟩);exact codeAny_func (o0 (hQ h1 KG O' tk S1 R1 hO L1))
theorem gm {X:Cx}{k:Nat}(hk:1<=k)(hC:cx Z w k X.C)(G:Glob Z){l2:List Stmt}{Q:Flow->Shared->Prop}:∀ (b:List S) {l1:List Stmt} {σ KA:Loc} {st Kw:St} {fl:Fw} {F:bf} {φ:List Addr} {s:Shared},
  cY sc b l1=true->cw X b σ st=some (fl,KA,Kw)->KP (k+1) A->KD Z F φ st s.heap->KH F φ σ sc env O s.heap ->
  (∀ F' KJ Lv h' tk,Step F φ O s.heap F' KJ h'->KD Z F' KJ Kw h'->KH F' KJ KA sc env O h'->FR F' KJ fl Lv ->
   match fl with |.next=>aA w A (execs l2 env) Q aq ⟨h',s.gens,s.drawn,tk,s.os⟩ |_=>Q Lv ⟨h',s.gens,s.drawn,tk,s.os⟩) ->
  aA w A (execs (l1++l2) env) Q aq s:=by
 intro b
 induction b with
 |nil=>
  intro l1 σ KA st Kw fl F φ s c e rm R L hQ;cases isEmpty_iff.mp c;cases e;exact hQ F φ .next s.heap s.toks (Step.refl ..) R L .next
 |cons t r ih=>
  intro l1 σ KA st Kw fl F φ s c e rm R L hQ;revert hQ;refine bD (P:=λl1=>_->aA w A (execs (l1++l2) env) Q aq s) (λx xs c hQ=>bV c λc1 c2=>wpAny_execs_cons ?_) c;refine oF e (λKC Kx e1 e=>(ug hk hC G t).run c1 e1 rm R L _ λF1 Kz Lv h1 tk S1 R1 L1 f1=>?_) (λKC Kx e1 e=>(ug hk hC G t).run c1 e1 rm R L _ λF1 Kz Lv h1 tk S1 R1 L1 f1=>?_) (λu KC Kx e1 e=>(ug hk hC G t).run c1 e1 rm R L _ λF1 Kz Lv h1 tk S1 R1 L1 f1=>?_)
  ·cases f1;exact ih (s:=sw s h1 tk) c2 e rm R1 L1 λF' KJ Lv h' tk S R L f=>hQ F' KJ Lv h' tk (S1.trans S) R L f
  ·cases e;cases f1;exact hQ F1 Kz .brk h1 tk S1 R1 L1 .brk
  ·cases e
   cases f1 with
   |ret hv=>exact hQ F1 Kz _ h1 tk S1 R1 L1 (.ret hv)
noncomputable def jd (sc:Scope)(es:List E)(s:Stmt):Bool:=Bx s λx=>dw x λf as _=>eS f (nm 53) (as.all aB&&eZ sc es as)
theorem ik {es:List E}{Ld:Stmt}{us:List AV}{f:Addr}{fo:Obj}{fd:FuncData}{v:AV}{Q:Flow->Shared->Prop}(G:Glob Z)(R:KD Z F φ st s.heap)(L:KH F φ σ sc env O s.heap)(hf:af σ 53=some (.fn f))(MM:F f=some fo)(MN:fo.data=.func fd)
  (c:jd sc es Ld=true) (e:aN X0 es σ st=some (us,Kx)) (rm:KP 2 A) (hp:qt v=true)
  (hc:∀ F1 Kz KO h1 tk,Step F φ [] s.heap F1 Kz h1->KD Z F1 Kz Kx h1->KI F1 Kz us KO->Good Z w A (call (.ref f) KO) F1 Kz ⟨h1,s.gens,s.drawn,tk,s.os⟩ v Kw)
  (hQ:∀ F' KJ h' tk,Step F φ [] s.heap F' KJ h'->KD Z F' KJ Kw h'->Q .next ⟨h',s.gens,s.drawn,tk,s.os⟩):aA w A (exec Ld env) Q aq s:=by
 refine vR (P:=λLd=>aA w A (exec Ld env) Q aq s) (λx p c=>bZ (P:=λx=>aA w A (exec (.Expr x p) env) Q aq s) (λfn as p2 c=>bn (P:=λfn=>aA w A (exec (.Expr (.Call fn as [] p2) p) env) Q aq s) (λp1 c=>bV c λc1 c2=>?_) c) c) c;refine wpAny_Expr (lj G R L hf MM MN c2 c1 e rm hc _ λF1 Kz v' h1 tk S1 R1 V1=>?_) (by unfold interactive;rw[L.kind];rfl) rfl;have fin:Q .next ⟨h1,s.gens,s.drawn,tk,s.os⟩:=hQ F1 Kz h1 tk S1 R1;cases V1<;>first |exact fin |cases hp
end
noncomputable def uq:List S:=[.iff (.val (.cmp .Eq (.b .Add (.l 139) (.int 1)) (.l 140))) [.setI (.l 76) (.l 139) (.l 138),.retN] [],
 .asg (.nm 141) (.b .RShift (.b .Add (.l 139) (.l 140)) (.int 1)),.asg (.nm 103) (.b .Mult (.b .Sub (.l 141) (.l 139)) (.l 0)),
 .asg (.nm 142) (.b .RShift (.l 138) (.l 103)),.asg (.nm 143) (.b .BitXor (.l 138) (.b .LShift (.l 142) (.l 103)))]
noncomputable def Ew (i:Nat)(n:Int)(f:Nat)(x l r:Int):Loc:=[(76,.obj i),(0,.int n),(53,.fn f),(138,.int x),(139,.int l),(140,.int r)]
theorem BE {i f:Nat}{n x l r:Int}{ds:List Int}{st:St}(h:l+1=r)(h0:0<=l)(h1:l<ds.length)(h2:ds.length<1000)(MA:st[i]?=some (.list (ds.map .int))) :
  cw X0 uq (Ew i n f x l r) st=some (.ret .none,Ew i n f x l r,st.set i (.list ((ds.set l.toNat x).map .int))):=by
 have hset:jo st (.obj i) (.int l) (.int x)=some (st.set i (.list ((ds.set l.toNat x).map .int))):=by
  unfold jo hY ar listAt;simp only[MA];rw[if_pos ⟨h0,by rw[length_map];exact h1,GQ h1 (by assumption)⟩,map_set]
 refine P.cy (Eq.trans (P.dO (P.bF (P.aj rfl rfl rfl) rfl ?_)) (Eq.trans (P.ae (P.En rfl rfl rfl hset)) (P.cy rfl)));exact(P.gJ st _ _).trans (congrArg some (decide_eq_true h))
theorem BF {i f:Nat}{n x l r:Int}{st:St}(h:l+1≠r)(h1:0<=((l+r).fdiv 2-l)*n)(h2:(intBits (x.fdiv (2^(((l+r).fdiv 2-l)*n).toNat)):Int)+((l+r).fdiv 2-l)*n<=2^27)(h3:((l+r).fdiv 2-l)*n<2^60)(h4:eE ((l+r).fdiv 2-l) n=true) :
  cw X0 uq (Ew i n f x l r) st=some (.next,Ew i n f x l r++[(141,.int ((l+r).fdiv 2)),(103,.int (((l+r).fdiv 2-l)*n)),(142,.int (x.fdiv (2^(((l+r).fdiv 2-l)*n).toNat))),
   (143,.int (Builtin.bitXor x (x.fdiv (2^(((l+r).fdiv 2-l)*n).toNat)*2^(((l+r).fdiv 2-l)*n).toNat)))],st):=by
 refine Eq.trans (P.ae (P.bG (P.bF (P.aj rfl rfl rfl) rfl ?_))) ?_
 ·exact(P.gJ st _ _).trans (congrArg some (decide_eq_false h))
 refine Eq.trans (P.ae (P.aE (P.aj (P.aj rfl rfl rfl) rfl (P.Kh _)) rfl)) ?_;refine Eq.trans (P.ae (P.aE (P.aj (P.aj rfl rfl rfl) rfl (if_pos h4)) rfl)) ?_;refine Eq.trans (P.ae (P.aE (P.aj rfl rfl (if_pos ⟨h1,h3⟩)) rfl)) ?_;exact Eq.trans (P.ae (P.aE (P.aj rfl (P.aj rfl rfl (if_pos ⟨h1,h2⟩)) rfl) rfl)) P.bB
noncomputable def wo (sc:Scope)(body:List Stmt):Bool:=eH body λt1 r=>eH r λt2 r=>eH r λt3 r=>Eu r λt4 t5 t6 t7=>cY sc uq [t1,t2,t3,t4,t5]&&(jd sc [.l 143,.l 139,.l 141] t6&&jd sc [.l 142,.l 141,.l 140] t7)
structure M6 (sc:Scope)(body l1:List Stmt)(t6 t7:Stmt):Prop where
 eq:body=l1++[t6,t7]
 c1:cY sc uq l1=true
 c2:jd sc [.l 143,.l 139,.l 141] t6=true
 c3:jd sc [.l 142,.l 141,.l 140] t7=true
theorem yV {sc:Scope}{body:List Stmt}:wo sc body=true->∃ l1 t6 t7,M6 sc body l1 t6 t7:=
 bD (P:=λbody=>∃ l1 t6 t7,M6 sc body l1 t6 t7) λt1 r=>bD (P:=λr=>∃ l1 t6 t7,M6 sc (t1::r) l1 t6 t7) λt2 r=>bD (P:=λr=>∃ l1 t6 t7,M6 sc (t1::t2::r) l1 t6 t7) λt3 r=>
  so (P:=λr=>∃ l1 t6 t7,M6 sc (t1::t2::t3::r) l1 t6 t7) λt4 t5 t6 t7 ok=>fZ ok λc1 c2 c3=>⟨[t1,t2,t3,t4,t5],t6,t7,rfl,c1,c2,c3⟩
theorem rl {n:Int}:∀ (k:Nat) {x l r:Int} {ds Mb:List Int},dH n k x l r ds=some Mb->Mb.length=ds.length:=by
 intro k
 induction k with
 |zero=>
  intro _ _ _ _ _ e;exact absurd e bg
 |succ k ih=>
  intro x l r ds Mb e;exact oT e (λ_ e=>oI e λ_ e=>K7 e▸length_set ..) λ_ e=>oI e λ_ e=>oN e λPE h2 e=>(ih e).trans (ih h2)
section
variable {p:Pos}{a P:Addr}
theorem Lf.data {f:Addr}{ps:List Nat}{body:List Stmt}{Lk:List (Str×Addr)}(x:Lf F f ps body scope Lk):∃ fo fd,F f=some fo/\fo.data=.func fd:=by
 obtain⟨⟨name,qual,params,doc,pm,c',ML,oc,vs,t,e1,_⟩,_⟩:=x;exact⟨_,_,e1,rfl⟩
theorem yW (G:Glob Z){f i:Nat}{n:Int}{body l1:List Stmt}{t6 t7:Stmt}{Lk:List (Str×Addr)}(ok:M6 scope body l1 t6 t7):∀ (k:Nat) {x l r:Int} {ds Mb:List Int} {A:Around} {F:bf} {φ:List Addr} {s:Shared} {st:St} {KO:List Value},dH n k x l r ds=some Mb->ds.length<1000->KP (2*k+2) A ->
  KD Z F φ st s.heap->Lu F φ [(76,.obj i),(0,.int n),(53,.fn f)] scope Lk s.heap->Lf F f [138,139,140] body scope Lk->st[i]?=some (.list (ds.map .int))->KI F φ [.int x,.int l,.int r] KO ->
  Good Z w A (call (.ref f) KO) F φ s .none (st.set i (.list (Mb.map .int))):=by
 intro k
 induction k with
 |zero=>intro x l r ds Mb A F φ s st KO e _ _ _ _ _ _ _;exact absurd e bg
 |succ k ih=>
  intro x l r ds Mb A F φ s st KO e Mz rm R C In MA V Q hQ;have Qj:=rm.depth;refine jy In R C (σ:=Ew i n f x l r) rfl V Qj λh1 KG O' tk S1 R1 hO L1=>?_;have ND:KP (2*k+3) (A.deeper KG):=rm.deeper KG;rw[ok.eq];refine oT e (λO0 e=>oI e λhb e=>?_) λO0 e=>oI e λhb e=>oN e λPE h2 e=>?_
  ·have ex:=BE (f:=f) (n:=n) (x:=x) O0 hb.1 hb.2 Mz MA;refine gm (X:=X0) (le_refl 1) eL G uq (s:=sw s h1 tk) ok.c1 ex (ND.less (by exact Q0 0x311421202111101 [_] rfl)) R1 L1 λF2 K3 OY h2 KR S2 R2 L2 f2=>?_;cases K7 e
   cases f2 with
   |ret hv=>
    cases hv;exact hQ F2 K3 .none h2 KR (S1.hide S2 hO) R2 .none
  ·have ex:=BF (i:=i) (f:=f) (st:=st) O0 hb.1 hb.2.1 hb.2.2.1 hb.2.2.2;refine gm (X:=X0) (le_refl 1) eL G uq (s:=sw s h1 tk) ok.c1 ex (ND.less (by exact Q0 0x311421202111101 [_] rfl)) R1 L1 λF2 K3 OY MV KR S2 R2 L2 f2=>?_;cases f2;have Ma:=S1.hide S2 hO;have Oc:=In.mono Ma.le;refine dh Oc.data λfo fd MM MN=>?_
   refine wpAny_execs_cons (ik (s:=sw s MV KR) (us:=[.int _,.int l,.int _]) (Kx:=st) (v:=.none) (Kw:=st.set i (.list (PE.map .int))) G R2 L2 rfl MM MN ok.c2 rfl (ND.less (by exact Q0 0x311421202111101 [_] rfl)) rfl (λF3 Ms vs3 h3 Lc S3 R3 V3=>
    ih (s:=sw s h3 Lc) h2 Mz (ND.less (by exact Q0 0x31142120211421201101 [_] rfl)) R3 ((C.step Ma).step S3) (Oc.mono S3.le) MA V3) λF3 Ms h3 Lc S3 R3=>?_)
   have hst3:(st.set i (.list (PE.map .int)))[i]?=some (.list (PE.map .int)):=getElem?_set_self (List.getElem?_eq_some_iff.mp MA).1;have hss:(st.set i (.list (PE.map .int))).set i (.list (Mb.map .int))=st.set i (.list (Mb.map .int)):=set_set ..
   refine wpAny_execs_cons (ik (s:=sw s h3 Lc) (us:=[.int _,.int _,.int r]) (Kx:=st.set i (.list (PE.map .int))) (v:=.none) (Kw:=st.set i (.list (Mb.map .int))) G R3 (L2.step S3) rfl (S3.le _ _ MM) MN ok.c3 rfl (ND.less (by exact Q0 0x311421202111101 [_] rfl)) rfl (λF4 NN vs4 h4 LS S4 R4 V4=>
    hss▸ih (s:=sw s h4 LS) e ((rl k h2).symm▸Mz) (ND.less (by exact Q0 0x31142120211421201101 [_] rfl)) R4 (((C.step Ma).step S3).step S4) ((Oc.mono S3.le).mono S4.le) hst3 V4) λF4 NN h4 LS S4 R4=>?_)
   exact wpAny_execs_nil (hQ F4 NN .none h4 LS ((Ma.trans S3).trans S4) R4 .none)
end
noncomputable def BG:Stmt->Option (Str×Arguments×List Stmt×Scope×Pos)
 |.FunctionDef n ps b ds r tp sI t n2 p=>if ds.isEmpty&&(r.isNone&&(tp.isEmpty&&(t.isNone&&n==n2))) then some (n,ps,b,sI,p) else none
 |_=>none
theorem yX {Ld:Stmt}{r}:BG Ld=some r->Ld=.FunctionDef r.1 r.2.1 r.2.2.1 [] none [] r.2.2.2.1 none r.1 r.2.2.2.2:=by
 cases Ld with
 |FunctionDef n ps b ds r tp sI t n2 p=>
  refine λh=>oI h λc h=>?_;refine av (bC c) λc1 c=>?_;refine av (bC c) λc2 c=>?_;refine av (bC c) λc3 c=>?_;refine av (bC c) λc4 c5=>?_;cases h;cases isEmpty_iff.mp c1;cases isNone_iff_eq_none.mp c2;cases isEmpty_iff.mp c3;cases isNone_iff_eq_none.mp c4;have c5:=dk c5;exact c5▸rfl
 |_=>exact λh=>absurd h bg
noncomputable def argsOk (ps:List Nat)(q:Arguments):Bool:=q.posonlyargs.isEmpty&&(q.kwonlyargs.isEmpty&&(q.vararg.isNone&&(q.kwarg.isNone&&(q.defaults.isEmpty&&(q.kw_defaults.isEmpty&&(q.args.all (λx=>x.annotation.isNone)&&(q.args.map (·.arg)==ps.map nm&&decide ps.Nodup)))))))
structure MO (ps:List Nat)(q:Arguments):Prop where
 a1:q.posonlyargs=[]
 a2:q.kwonlyargs=[]
 a3:q.vararg=none
 a4:q.kwarg=none
 a5:q.defaults=[]
 a6:q.kw_defaults=[]
 a7:∀ x∈q.args,x.annotation=none
 a8:q.args.map (·.arg)=ps.map nm
 a9:ps.Nodup
theorem ur {ps:List Nat}{q:Arguments}(h:argsOk ps q=true):MO ps q:=by
 refine av (bC h) λh1 h=>?_;refine av (bC h) λh2 h=>?_;refine av (bC h) λh3 h=>?_;refine av (bC h) λh4 h=>?_;refine av (bC h) λh5 h=>?_;refine av (bC h) λh6 h=>?_;refine av (bC h) λh7 h=>?_;refine av (bC h) λh8 h9=>?_;exact⟨isEmpty_iff.mp h1,isEmpty_iff.mp h2,isNone_iff_eq_none.mp h3,isNone_iff_eq_none.mp h4,isEmpty_iff.mp h5,isEmpty_iff.mp h6,λx m=>isNone_iff_eq_none.mp (all_eq_true.mp h7 x m),dk h8,of_decide_eq_true h9⟩
theorem Av {env:Env}:∀ (l:List Arg),(∀ x∈l,x.annotation=none)->annotationsOf l env=[]
 |[],_=>rfl
 |⟨n,none,p⟩::r,h=>Av r λx m=>h x (.tail _ m)
 |⟨n,some a,p⟩::r,h=>nomatch h _ (.head _)
theorem MO.ann {ps:List Nat}{q:Arguments}(h:MO ps q)(env:Env):annTrees q none env=[]:=by
 obtain⟨a,b,c,d,e,f,g⟩:=q;have h1:=h.a1;have h2:=h.a2;have h3:=h.a3;have h4:=h.a4;have h7:=h.a7;simp only at h1 h2 h3 h4 h7;subst h1 h2 h3 h4;simp only[annTrees,append_nil,Option.toList_none];rw[Av b h7];rfl
noncomputable def sr (sc sI:Scope)(ps caps:List Nat):Bool:=sI.kind==.function&&(!sI.isCoroutine&&(!sI.isGenerator&&(decide ((sI.names.map (·.1)).Nodup)&&(ps.all (λx=>sI.names.lookup (nm x)==some .local||sI.names.lookup (nm x)==some .cell) &&
 (sI.names.all (λy=>y.2 != .free||sc.names.lookup y.1==some .cell)&&(caps.all (λx=>sI.names.lookup (nm x)==some .free)&&sc.names.lookup (nm 53)==some .cell))))))
structure Mq (sc sI:Scope)(ps caps:List Nat):Prop where
 kind:sI.kind=.function
 co:sI.isCoroutine=false
 gen:sI.isGenerator=false
 nd:(sI.names.map (·.1)).Nodup
 ps:∀ x∈ps,sI.names.lookup (nm x)=some .local\/sI.names.lookup (nm x)=some .cell
 fr:∀ x,(x,NameKind.free)∈sI.names->sc.names.lookup x=some .cell
 caps:∀ x∈caps,sI.names.lookup (nm x)=some .free
 inn:sc.names.lookup (nm 53)=some .cell
theorem rn {sc sI:Scope}{ps caps:List Nat}(h:sr sc sI ps caps=true):Mq sc sI ps caps:=by
 refine av (bC h) λh1 h=>?_;refine av (bC h) λh2 h=>?_;refine av (bC h) λh3 h=>?_;refine av (bC h) λh4 h=>?_;refine av (bC h) λh5 h=>?_;refine av (bC h) λh6 h=>?_;refine av (bC h) λh7 h8=>?_;refine⟨dk h1,by simpa using h2,by simpa using h3,of_decide_eq_true h4,λx m=>?_,λx m=>?_,λx m=>dk (all_eq_true.mp h7 x m),dk h8⟩
 ·have:=all_eq_true.mp h5 x m
  cases q:sI.names.lookup (nm x)==some .local with
  |true=>exact .inl (dk q)
  |false=>rw[q]at this;exact .inr (dk this)
 ·have:=all_eq_true.mp h6 _ m;exact dk this
noncomputable def ro (Z:KX)(P:Addr)(fd:FuncData)(ps caps:List Nat)(inn:Scope->List Stmt->Bool)(Ld:Stmt):Bool:=(BG Ld).any λq=>q.1==nm 53&&(q.2.2.2.2==wn Z P&&(argsOk ps q.2.1&&(sr fd.scope q.2.2.2.1 ps caps&&(inn q.2.2.2.1 q.2.2.1 &&
 (fd.qualname++ofString ".<locals>."++nm 53==tQ Z P&&(match fd.code with |.ref c=>codeHdIn Z.K c P |_=>false))))))
section
variable {p:Pos}{a P:Addr}
theorem wp (S:Mq sc sI ps caps)(L:KH F φ σ sc env O h)(h0:∀ x v,af Lm x=some v->x∈caps/\af σ x=some v):Lu F φ Lm sI (cF env.cells sI.names []) h:=by
 have cells:∀ n,(n,NameKind.free)∈sI.names->∃ c,env.cells.lookup n=some c:=λn m=>let ⟨_,c,e,_⟩:=L.cl n (S.fr n m);⟨c,e⟩
 have mem:∀ {x c},(x,c)∈cF env.cells sI.names []->env.cells.lookup x=some c:=λm=>by
  rcases rX _ _ cells _ _ m with m |e
  ·cases m
  ·exact e
 refine⟨λx c m=>?_,λx y c m1 m2=>L.apart x y c (mem m1) (mem m2),λx e=>?_,λx c m=>?_,λx v e=>?_⟩
 ·have e:=mem m;have hc:c∈env.cells.map (·.2):=mem_map.mpr ⟨(x,c),KS.kept.lookup_mem e,rfl⟩;exact⟨L.cel c hc,L.own c (.tail _ hc)⟩
 ·have m:=KS.kept.lookup_mem e;refine aw (cells x m) λc ec=>?_;exact⟨c,kK _ _ x c ec (.inr ⟨rfl,m⟩)⟩
 ·rcases oX _ _ x c m with m |m
  ·cases m
  ·exact dN S.nd m
 ·refine av (h0 x v e) λhx e=>?_;refine ak (L.val x v e) λv' hv n=>?_;have ef:=S.caps x hx;have m:=KS.kept.lookup_mem ef;obtain⟨kc,c,ec,_⟩:=L.cl _ (S.fr _ m);refine⟨v',c,hv,kK _ _ _ c ec (.inr ⟨rfl,m⟩),?_⟩;rcases n with ⟨k,_⟩ |⟨_,c',e',hc⟩
  ·rw[kc]at k;cases k
  ·rw[ec]at e';cases e';exact hc
structure MS (Z:KX):Prop where
 bmn:∃ bm ob,Z.mg "__builtins__"=some (.ref bm)/\bm≠builtinsNs/\bm≠mainGlobals/\bm≠cQ/\bm≠dr/\Z.K.lookup bm=some ob/\ob.cls=.type "module"/\ob.dict=some builtinsNs/\ob.data=.plain
theorem mF {fd:FuncData}{inn:Scope->List Stmt->Bool}{Ld:Stmt}{Q:Flow->Shared->Prop}(N:MS Z)(hP:P=cQ\/P=dr)(c:ro Z P fd ps caps inn Ld=true)(MW:env.code=fd.code)(hqual:env.qual=fd.qualname++ofString ".<locals>.")
  (R:KD Z F φ st s.heap) (L:KH F φ σ fd.scope env O s.heap)
  (hQ:∀ F' f body sI h' tk,inn sI body=true->Mq fd.scope sI ps caps->Step F φ O s.heap F' φ h'->KD Z F' φ st h'->KH F' φ (ai σ 53 (.fn f)) fd.scope env O h'->Lf F' f ps body sI (cF env.cells sI.names [])->Q .next ⟨h',s.gens,s.drawn,tk,s.os⟩) :
  aA w A (exec Ld env) Q aq s:=by
 replace c:=oz c
 refine ak c ?_;clear c;rintro⟨name,params,body,sI,pos⟩ hw c;cases yX hw
 replace c:=bC c
 refine av c ?_;clear c;intro c1 c;have c1:name=nm 53:=dk c1;subst c1
 replace c:=bC c
 refine av c ?_;clear c;intro c2 c;have c2:pos=wn Z P:=dk c2;subst c2
 replace c:=bC c
 refine av c ?_;clear c;intro c3 c;have c3:=ur c3
 replace c:=bC c
 refine av c ?_;clear c;intro c4 c;have c4:=rn c4
 replace c:=bC c
 refine av c ?_;clear c;intro c5 c
 replace c:=bC c
 refine av c ?_;clear c;intro c6 c7;have c6:fd.qualname++ofString ".<locals>."++nm 53=tQ Z P:=dk c6;obtain⟨k53,_,_,_⟩:=L.cl _ c4.inn
 have hq:qualnameIn env (nm 53) (nm 53)=tQ Z P:=by
  unfold qualnameIn;rw[k53,hqual];exact c6
 have cells:∀ n,(n,NameKind.free)∈sI.names->∃ c,env.cells.lookup n=some c:=λn m=>let ⟨_,c,e,_⟩:=L.cl n (c4.fr n m);⟨c,e⟩
 cases Ox:fd.code with
 |ref cc=>
  simp only[Ox]at c7;obtain⟨bm,ob,b1,b2,b3,b4,b5,b6,b7,b8,b9⟩:=N.bmn;have hbP:bm≠P:=by rcases hP with rfl |rfl<;>assumption
  have Qh:mainGlobals≠P:=by rcases hP with rfl |rfl<;>decide
  refine nestDef_K c3.a5 c3.a6 (c3.ann env) (uo hP R L hq (MW.trans Ox) c7 (gj cells) Qh ⟨bm,ob,b1,b2,b3,hbP,b6,b7,b8,b9⟩ λF1 h1 f c' oc vs t doc ML tk S1 R1 e1 e2 e3 e4=>?_);have L1:=L.step S1;refine bQ (s:=sw s h1 tk) L1 R1 (.inr c4.inn) (.fn f) λh2 KR S2 R2 L2=>?_;refine hQ F1 f body sI h2 KR c5 c4 (S1.any.trans S2) R2 L2 ⟨⟨_,_,params,doc,_,c',ML,oc,vs,t,e1,e2,e3,by rw[hq];rw[hq]at e4;exact e4,c3.a1,c3.a2,c3.a3,c3.a4,c3.a8⟩,c4.kind,c4.co,c4.gen,c4.nd,c3.a9,c4.ps⟩
 |_=>rw[Ox]at c7;cases c7
end
noncomputable def o16:List S:=[.asg (.nm 76) (.new true (.rep (.int 0) (.b .FloorDiv (.b .Sub (.b .Add (.sm .bitlen (.l 66) []) (.l 0)) (.int 1)) (.l 0))))]
noncomputable def HR:C:=.val (.l 66)
noncomputable def Jm:List E:=[.l 66,.int 0,.bi .len [.l 76]]
noncomputable def nG (Z:KX):Bool:=wj Z.K 207 λfd=>lf fd λl=>Eu l λs1 s2 s3 s4=>cY fd.scope o16 [s1]&&(ro Z cQ fd [138,139,140] [76,0,53] wo s2&&(vQ s3 (λt b oe=>iw oe (ng b λx=>LA fd.scope HR t&&jd fd.scope Jm x))&&cY fd.scope [.ret (.l 76)] [s4]))
theorem rp (st:St)(i:Int):fH st (.int i)=some (i != 0):=by unfold fH;rfl
section
variable {p:Pos}{a P:Addr}
theorem lS (m:Nat):(replicate m (0:Int)).map AV.int=replicate m (.int 0):=by simp
theorem BH {x n:Int}{st:St}(h1:n≠0)(h2:divisionGoesByPylong ((intBits x:Int)+n-1) n=false)(h3:((intBits x:Int)+n-1).fdiv n<1000)(h4:-1000<((intBits x:Int)+n-1).fdiv n) :
  cw X0 o16 [(66,.int x),(0,.int n)] st=some (.next,[(66,.int x),(0,.int n),(76,.obj st.length)],st++[.list ((replicate (((intBits x:Int)+n-1).fdiv n).toNat (0:Int)).map .int)]):=by
 rw[lS];exact Eq.trans (P.ae (P.aE (P.eK (P.BD rfl (P.aj (P.aj (P.aj (P.gY rfl rfl rfl rfl) rfl rfl) rfl rfl) rfl (if_pos ⟨h1,h2⟩)) (Int.lt_trans h3 (by decide)) (Int.lt_trans (by decide) h4))) rfl)) P.bB
theorem wq (G:Glob Z)(N:MS Z)(H:fj Z.K 207 [66,0] [.bad,.bad,.bad,.bad]=true)(Hp:lb Z.K 207 [66,0]=true)(Ho:nG Z=true){args:List AV}{v:AV}{KO:List Value}(e:ri args st=some (v,Kw))(rm:KP 30 A)
  (R:KD Z F φ st s.heap) (V:KI F φ args KO):Good Z w A (call (.ref 207) KO) F φ s v Kw:=λQ hQ=>by
 refine two_r (P:=λargs=>KI F φ args KO->aA w A (call (.ref 207) KO) Q aq s) (λx y e=>eV (P:=λx=>KI F φ [x,y] KO->aA w A (call (.ref 207) KO) Q aq s) (λx e=>eV (P:=λy=>KI F φ [.int x,y] KO->aA w A (call (.ref 207) KO) Q aq s) (λn e V=>oI e λhn e=>oI e λhm e=>?_) e) e) e V
 have Mz:(replicate (((intBits x:Int)+n-1).fdiv n).toNat (0:Int)).length<1000:=by
  rw[length_replicate];exact Gv (by decide) (by first |exact hm.1 |exact hm.2.1 |exact hm.2.2.1)
 have ex:=BH (st:=st) hn.1 hn.2 hm.1 hm.2;dsimp only at e;generalize hD:replicate (((intBits x:Int)+n-1).fdiv n).toNat (0:Int)=ds at *;have X':=R.base.inK R.frz;refine tn (iH H) λo fd l fa=>?_;have K2:=fa.body;revert K2;refine so (P:=λl=>fd.body=.stmts l->_) (λs1 s2 s3 s4 ha K2=>oJ ha λc1 c2 c3 c4=>?_) (lg (rk Ho fa.funcAt) fa.body);have hb:=fe (s:=s) Hp (KO:=KO) V.length.symm fd fa.funcAt;refine wpAny_call (codeAny_call_function rm.depth (X' _ _ fa.at_) fa.data fa.co fa.gen K2 (codeRec_of X' fa.code) (hb _ _ _ _ ?_));rw[fa.glob,fa.blt,fa.clo];refine o0 (iG R fa.kind fa.nd (fa.cloOk s.heap) fa.ps (σ:=[(66,.int x),(0,.int n)]) rfl V λh1 KG O' tk S1 R1 hO L1 q1 q2 q3 _=>⟨R1.base.noLimit R1.frz,?_⟩);have MK:KP 29 (A.deeper KG):=rm.deeper KG;refine codeAny_func (o0 ?_);refine gm (X:=X0) (le_refl 1) eL G (l1:=[s1]) (l2:=[s2,s3,s4]) o16 (s:=sw s h1 tk) c1 ex (MK.less (by decide)) R1 L1 λF2 K3 OY h2 KR S2 R2 L2 f2=>?_;cases f2;refine wpAny_execs_cons (mF (s:=sw s h2 KR) N (.inl rfl) c2 q2 q3 R2 L2 λF3 f body sI h3 Lc cI SI S3 R3 L3 Qk=>?_);have MA:(st++[AO.list (ds.map .int)])[st.length]?=some (.list (ds.map .int)):=by simp
 have Co:Lu F3 K3 [(76,.obj st.length),(0,.int n),(53,.fn f)] sI (cF KG.cells sI.names []) h3:=wp SI L3 λy v e=>
  gK (P:=λy v=>y∈[76,0,53]/\af (ai [(66,.int x),(0,.int n),(76,.obj st.length)] 53 (.fn f)) y=some v) ⟨by decide,rfl⟩ (gK (P:=λy v=>y∈[76,0,53]/\af (ai [(66,.int x),(0,.int n),(76,.obj st.length)] 53 (.fn f)) y=some v) ⟨by decide,rfl⟩ (gK (r:=[]) (P:=λy v=>y∈[76,0,53]/\af (ai [(66,.int x),(0,.int n),(76,.obj st.length)] 53 (.fn f)) y=some v) ⟨by decide,rfl⟩ (λe=>absurd e bg))) e
 have NA:=(S1.hide (S2.trans S3) hO);clear K2 ha;refine wpAny_execs_cons (r9 (P:=λs3=>wpAny (model aM w) (A.deeper KG) (exec s3 KG) _ aq ⟨h3,s.gens,s.drawn,Lc,s.os⟩) (λtest bd oe pf c=>kE (P:=λoe=>wpAny (model aM w) (A.deeper KG) (exec (.If test bd oe pf) KG) _ aq ⟨h3,s.gens,s.drawn,Lc,s.os⟩) (λc=>dz (P:=λbd=>wpAny (model aM w) (A.deeper KG) (exec (.If test bd [] pf) KG) _ aq ⟨h3,s.gens,s.drawn,Lc,s.os⟩) (λy c=>bV c λd1 d3=>?_) c) c) c3);have hC:aJ X0 HR (ai [(66,.int x),(0,.int n),(76,.obj st.length)] 53 (.fn f)) (st++[.list (ds.map .int)])=some (x != 0,st++[.list (ds.map .int)]):=P.fk (v:=.int x) rfl (rp ..);refine wpAny_If ((t9 (X:=X0) (le_refl 1) eL G HR).run (s:=sw s h3 Lc) d1 hC (MK.less (by decide)) R3 L3 _ λF4 NN h4 LS S4 R4=>?_);have L4:=L3.step S4
 have fin:∀ {F5:bf} {L7:List Addr} {h5:Heap} {Mg:Nat} {N0:St},Step F φ [] s.heap F5 L7 h5->KD Z F5 L7 N0 h5->KH F5 L7 (ai [(66,.int x),(0,.int n),(76,.obj st.length)] 53 (.fn f)) fd.scope KG O' h5->some (AV.obj st.length,N0)=some (v,Kw) ->
   wpAny (model aM w) (A.deeper KG) (execs [s4] KG) (λf s'=>Q (match f with |.ret v=>v |_=>.none) s') aq ⟨h5,s.gens,s.drawn,Mg,s.os⟩:=by
  intro F5 L7 h5 Mg N0 S5 R5 L5 ee;cases ee;refine(vW (X:=X0) (le_refl 1) eL G _).run (s:=sw s h5 Mg) c4 (P.cy (P.sR rfl)) (MK.less (by decide)) R5 L5 _ λF6 φ6 fl6 h6 QV S6 R6 L6 f6=>?_
  cases f6 with
  |ret hv=>exact hQ F6 φ6 _ h6 QV (S5.hide S6 hO) R6 hv
 have O2:=NA.trans S4;refine oT e (λhx e=>?_) λhx e=>oN e λMb hi e=>?_
 ·rw[if_neg (by rw[hx];decide)];exact wpAny_execs_nil (fin O2 R4 L4 e)
 ·rw[if_pos (bne_iff_ne.mpr hx)];have O3:=Qk.mono S4.le;refine dh O3.data λfo fd4 MM MN=>?_
  have Nr:aN X0 Jm (ai [(66,.int x),(0,.int n),(76,.obj st.length)] 53 (.fn f)) (st++[.list (ds.map .int)])=some ([.int x,.int 0,.int ds.length],st++[.list (ds.map .int)]):=by
   refine P.e3 rfl rfl (P.dq (P.e1 rfl) ?_);show(match listAt _ _ with |some xs=>if xs.length<=2^24 then some (AV.int xs.length,_) else none |none=>none)=_;unfold listAt;rw[MA];show(if (ds.map AV.int).length<=2^24 then _ else none)=_;rw[length_map,if_pos (by exact Q1 0x3e8311114011010000007141102 [_] Mz rfl)]
  refine tn (yV cI) λl1 t6 t7 cI=>?_
  refine wpAny_execs_cons (ik (s:=sw s h4 LS) (v:=.none) (Kw:=(st++[AO.list (ds.map .int)]).set st.length (.list (Mb.map .int))) G R4 L4 rfl MM MN d3 Nr (MK.less (by decide)) rfl (λF5 L7 vs5 h5 Mg S5 R5 V5=>
   yW G cI 12 (s:=sw s h5 Mg) hi Mz (MK.less (by decide)) R5 ((Co.step S4).step S5) (O3.mono S5.le) MA V5) λF5 L7 h5 Mg S5 R5=>?_)
  refine wpAny_execs_nil (fin (O2.trans S5) R5 (L4.step S5) (Eq.trans ?_ e));rw[List.set_append_right _ _ (le_refl _),sub_self];rfl
end
noncomputable def ut:List S:=[.iff (.val (.cmp .Eq (.b .Add (.l 139) (.int 1)) (.l 140))) [.ret (.sub (.l 77) (.l 139))] [],
 .asg (.nm 141) (.b .RShift (.b .Add (.l 139) (.l 140)) (.int 1)),.asg (.nm 103) (.b .Mult (.b .Sub (.l 141) (.l 139)) (.l 0))]
noncomputable def mG (sc:Scope)(es:List E)(e:Expr):Bool:=dw e λf as _=>eS f (nm 53) (as.all aB&&eZ sc es as)
noncomputable def Ex (sc:Scope)(s:Stmt):Bool:=pw s λo=>iW o λx=>mf x .Add λl r=>mf l .LShift λa b=>mG sc [.l 139,.l 141] r&&(mG sc [.l 141,.l 140] a&&aW sc (.l 103) b)
noncomputable def wr (sc:Scope)(body:List Stmt):Bool:=Eu body λt1 t2 t3 t4=>cY sc ut [t1,t2,t3]&&Ex sc t4
noncomputable def HS:C:=.val (.l 77)
noncomputable def Ki:List E:=[.int 0,.bi .len [.l 77]]
noncomputable def nH (Z:KX):Bool:=wj Z.K 214 λfd=>lf fd λl=>Bn l λs1 s2=>ro Z dr fd [139,140] [77,0,53] wr s1&&pw s2 λo=>iW o λx=>Bo x λt a b=>LA fd.scope HS t&&(mG fd.scope Ki a&&aW fd.scope (.int 0) b)
structure MP (sc:Scope)(body l1:List Stmt)(a b c:Expr)(p1 p2 p3:Pos):Prop where
 eq:body=l1++[.Return (some (.BinOp (.BinOp a .LShift b p1) .Add c p2)) p3]
 c1:cY sc ut l1=true
 c2:mG sc [.l 139,.l 141] c=true
 c3:mG sc [.l 141,.l 140] a=true
 c4:aW sc (.l 103) b=true
theorem yY {sc:Scope}{body:List Stmt}:wr sc body=true->∃ l1 a b c p1 p2 p3,MP sc body l1 a b c p1 p2 p3:=
 so (P:=λbody=>∃ l1 a b c p1 p2 p3,MP sc body l1 a b c p1 p2 p3) λt1 t2 t3 t4 ok=>bV ok λc1 c2=>j5 (P:=λt4=>∃ l1 a b c p1 p2 p3,MP sc [t1,t2,t3,t4] l1 a b c p1 p2 p3) (λo q3 c=>gf (P:=λo=>∃ l1 a b c p1 p2 p3,MP sc [t1,t2,t3,.Return o q3] l1 a b c p1 p2 p3) (λx c=>
  iy (P:=λx=>∃ l1 a b c p1 p2 p3,MP sc [t1,t2,t3,.Return (some x) q3] l1 a b c p1 p2 p3) (λl r q2 c=>iy (P:=λl=>∃ l1 a b c p1 p2 p3,MP sc [t1,t2,t3,.Return (some (.BinOp l .Add r q2)) q3] l1 a b c p1 p2 p3) (λa b q1 c=>fZ c λd1 d2 d3=>⟨[t1,t2,t3],a,b,r,q1,q2,q3,rfl,c1,d1,d2,d3⟩) c) c) c) c2
noncomputable def Ey (v:AV)(n:Int)(f:Nat)(l r:Int):Loc:=[(77,v),(0,.int n),(53,.fn f),(139,.int l),(140,.int r)]
theorem wt {st:St}{v:AV}{xs:List AV}{i:Int}(h:cN st v=some xs)(h0:0<=i)(h1:i<2^62):cB st v (.int i)=xs[i.toNat]?:=
 jZ (P:=λv=>cB st v (.int i)=xs[i.toNat]?) (if_pos ⟨h0,h1⟩) (λj h=>(show cB st (.obj j) (.int i)=(match listAt st j with |some xs=>if 0<=i/\i<2^62 then xs[i.toNat]? else none |none=>none) from rfl).trans (by rw[h];exact if_pos ⟨h0,h1⟩)) h
theorem allInts_map:∀ {xs:List AV} {ds:List Int},allInts xs=some ds->xs=ds.map .int:=by
 intro xs
 induction xs with
 |nil=>
  intro _ e;exact K7 e▸rfl
 |cons x xs ih=>
  intro ds e;cases x<;>first |exact absurd e bg |exact oM (P:=λds=>_=ds.map AV.int) e λl e=>congrArg (_::·) (ih e)
theorem BI {v:AV}{f:Nat}{n l r u:Int}{ds:List Int}{st:St}(h:l+1=r)(h0:0<=l)(h1:l<1000)(hu:ds[l.toNat]?=some u)(MA:cN st v=some (ds.map .int)) :
  cw X0 ut (Ey v n f l r) st=some (.ret (.int u),Ey v n f l r,st):=by
 refine P.cy (Eq.trans (P.dO (P.bF (P.aj rfl rfl rfl) rfl ?_)) (P.cy (P.sR (P.bX rfl rfl ?_))))
 ·exact(P.gJ st _ _).trans (congrArg some (decide_eq_true h))
 ·rw[wt MA h0 (Int.lt_trans h1 (by decide)),getElem?_map,hu];rfl
theorem BJ {v:AV}{f:Nat}{n l r:Int}{st:St}(h:l+1≠r)(h4:eE ((l+r).fdiv 2-l) n=true) :
  cw X0 ut (Ey v n f l r) st=some (.next,Ey v n f l r++[(141,.int ((l+r).fdiv 2)),(103,.int (((l+r).fdiv 2-l)*n))],st):=by
 refine Eq.trans (P.ae (P.bG (P.bF (P.aj rfl rfl rfl) rfl ?_))) ?_
 ·exact(P.gJ st _ _).trans (congrArg some (decide_eq_false h))
 refine Eq.trans (P.ae (P.aE (P.aj (P.aj rfl rfl rfl) rfl (P.Kh _)) rfl)) ?_;exact Eq.trans (P.ae (P.aE (P.aj (P.aj rfl rfl rfl) rfl (if_pos h4)) rfl)) P.bB
section
variable {p:Pos}{a P:Addr}
theorem il {es:List E}{ex:Expr}{us:List AV}{f:Addr}{fo:Obj}{fd:FuncData}{v:AV}(G:Glob Z)(R:KD Z F φ st s.heap)(L:KH F φ σ sc env O s.heap)(hf:af σ 53=some (.fn f))(MM:F f=some fo)(MN:fo.data=.func fd)
  (c:mG sc es ex=true) (e:aN X0 es σ st=some (us,Kx)) (rm:KP 2 A)
  (hc:∀ F1 Kz KO h1 tk,Step F φ [] s.heap F1 Kz h1->KD Z F1 Kz Kx h1->KI F1 Kz us KO->Good Z w A (call (.ref f) KO) F1 Kz ⟨h1,s.gens,s.drawn,tk,s.os⟩ v Kw) :
  Good Z w A (eval ex env) F φ s v Kw:=by
 exact bZ (P:=λex=>Good Z w A (eval ex env) F φ s v Kw) (λfn as p2 c=>bn (P:=λfn=>Good Z w A (eval (.Call fn as [] p2) env) F φ s v Kw) (λp1 c=>bV c λc1 c2=>lj G R L hf MM MN c2 c1 e rm hc) c) c
theorem oZ {γ:Type}{o:Option Int}{k:Int->Option γ}{r:γ}{P:Prop}(e:(match o with
 |some x=>k x
 |none=>none)=some r) (f:∀ x,o=some x->k x=some r->P):P:=by
 cases o with
 |none=>exact absurd e bg
 |some z=>exact f _ rfl e
theorem yZ (G:Glob Z){f:Nat}{n:Int}{v:AV}{ds:List Int}{body l1:List Stmt}{ea ec eb:Expr}{p1 p2 p3:Pos}{Lk:List (Str×Addr)}(ok:MP scope body l1 ea ec eb p1 p2 p3)(MA:cN st v=some (ds.map .int)):∀ (k:Nat) {l r u:Int} {A:Around} {F:bf} {φ:List Addr} {s:Shared} {KO:List Value},eI n ds k l r=some u->KP (2*k+2) A ->
  KD Z F φ st s.heap->Lu F φ [(77,v),(0,.int n),(53,.fn f)] scope Lk s.heap->Lf F f [139,140] body scope Lk->KI F φ [.int l,.int r] KO ->
  Good Z w A (call (.ref f) KO) F φ s (.int u) st:=by
 intro k
 induction k with
 |zero=>intro l r u A F φ s KO e _ _ _ _ _;exact absurd e bg
 |succ k ih=>
  intro l r u A F φ s KO e rm R C In V Q hQ;have Qj:=rm.depth;refine jy In R C (σ:=Ey v n f l r) rfl V Qj λh1 KG O' tk S1 R1 hO L1=>?_;have ND:KP (2*k+3) (A.deeper KG):=rm.deeper KG;rw[ok.eq];refine oT e (λO0 e=>oI e λhb e=>?_) λO0 e=>oZ e λu1 OJ e=>oI e λhb e=>oZ e λv1 hv1 e=>?_
  ·have ex:=BI (f:=f) (n:=n) O0 hb.1 hb.2 e MA;refine gm (X:=X0) (le_refl 1) eL G ut (s:=sw s h1 tk) ok.c1 ex (ND.less (by exact Q0 0x311421202111101 [_] rfl)) R1 L1 λF2 K3 OY h2 KR S2 R2 L2 f2=>?_
   cases f2 with
   |ret hv=>exact hQ F2 K3 _ h2 KR (S1.hide S2 hO) R2 hv
  ·have ex:=BJ (v:=v) (f:=f) (st:=st) O0 hb.2.2;refine gm (X:=X0) (le_refl 1) eL G ut (s:=sw s h1 tk) ok.c1 ex (ND.less (by exact Q0 0x311421202111101 [_] rfl)) R1 L1 λF2 K3 OY h2 KR S2 R2 L2 f2=>?_;cases f2;have Ma:=S1.hide S2 hO;have Oc:=In.mono Ma.le;have C2:=C.step Ma;have Ql:KP (2*k+2) (A.deeper KG):=ND.less (by exact Q0 0x31142120211421201101 [_] rfl);have PF:KP 2 (A.deeper KG):=Ql.less (by exact Q0 0x211421202111101 [_] rfl);have Q7:KP 1 (A.deeper KG):=PF.less (by decide);refine dh Oc.data λfo fd MM MN=>?_
   have g1:Good Z w (A.deeper KG) (eval ea KG) F2 K3 ⟨h2,s.gens,s.drawn,KR,s.os⟩ (.int u1) st:=il (s:=sw s h2 KR) (us:=[.int _,.int r]) (Kx:=st) G R2 L2 rfl MM MN ok.c3
    (P.e2 rfl rfl) PF λF3 Ms vs3 h3 Lc S3 R3 V3=>ih (s:=sw s h3 Lc) OJ Ql R3 (C2.step S3) (Oc.mono S3.le) V3
   have g2:i9 Z w (A.deeper KG) (eval ec KG) F2 K3 ⟨h2,s.gens,s.drawn,KR,s.os⟩ KG st (.int (((l+r).fdiv 2-l)*n)) st:=SE.then (dG (X:=X0) (le_refl 1) eL G (.l 103)) ok.c4 rfl PF L2
   have g4:i9 Z w (A.deeper KG) (eval eb KG) F2 K3 ⟨h2,s.gens,s.drawn,KR,s.os⟩ KG st (.int v1) st:=λF3 Ms h3 Lc S3 R3=>
    il (s:=sw s h3 Lc) (us:=[.int l,.int _]) (Kx:=st) G R3 (L2.step S3) rfl (S3.le _ _ MM) MN ok.c2
    (P.e2 rfl rfl) PF λF4 NN vs4 h4 LS S4 R4 V4=>ih (s:=sw s h4 LS) hv1 Ql R4 ((C2.step S3).step S4) ((Oc.mono S3.le).mono S4.le) V4
   have g5:=ja (p:=p2) (op:=.Add) (ja (p:=p1) (op:=.LShift) g1 g2 Q7 (if_pos ⟨hb.1,hb.2.1⟩)) g4 Q7 (v:=.int (u1*2^(((l+r).fdiv 2-l)*n).toNat+v1)) rfl;exact wpAny_execs_cons (wpAny_Return_some (g5 _ λF3 Ms v3 h3 Lc S3 R3 V3=>hQ F3 Ms _ h3 Lc (Ma.trans S3) R3 (K7 e▸V3)))
theorem wu (G:Glob Z)(N:MS Z)(H:fj Z.K 214 [77,0] [.bad,.bad]=true)(Hp:lb Z.K 214 [77,0]=true)(Ho:nH Z=true){args:List AV}{v:AV}{KO:List Value}(e:rj args st=some (v,Kw))(rm:KP 30 A)
  (R:KD Z F φ st s.heap) (V:KI F φ args KO):Good Z w A (call (.ref 214) KO) F φ s v Kw:=λQ hQ=>by
 refine two_r (P:=λargs=>KI F φ args KO->aA w A (call (.ref 214) KO) Q aq s) (λv0 y e=>eV (P:=λy=>KI F φ [v0,y] KO->aA w A (call (.ref 214) KO) Q aq s) (λn e V=>oV e λxs NJ e=>oN e λds hds0 e=>oI e λMz e=>?_) e) e V;have NJ:=NJ.trans (congrArg some (allInts_map hds0));have X':=R.base.inK R.frz;refine tn (iH H) λo fd l fa=>?_;have K2:=fa.body;revert K2;refine kG (P:=λl=>fd.body=.stmts l->_) (λs1 s2 ha K2=>bV ha λc2 c3=>?_) (lg (rk Ho fa.funcAt) fa.body);have hb:=fe (s:=s) Hp (KO:=KO) V.length.symm fd fa.funcAt;refine wpAny_call (codeAny_call_function rm.depth (X' _ _ fa.at_) fa.data fa.co fa.gen K2 (codeRec_of X' fa.code) (hb _ _ _ _ ?_));rw[fa.glob,fa.blt,fa.clo];refine o0 (iG R fa.kind fa.nd (fa.cloOk s.heap) fa.ps (σ:=[(77,v0),(0,.int n)]) rfl V λh1 KG O' tk S1 R1 hO L1 q1 q2 q3 _=>⟨R1.base.noLimit R1.frz,?_⟩);have MK:KP 29 (A.deeper KG):=rm.deeper KG;refine codeAny_func (o0 ?_);refine wpAny_execs_cons (mF (s:=sw s h1 tk) N (.inr rfl) c2 q2 q3 R1 L1 λF3 f body sI h3 Lc cI SI S3 R3 L3 Qk=>?_)
 have Co:Lu F3 φ [(77,v0),(0,.int n),(53,.fn f)] sI (cF KG.cells sI.names []) h3:=wp SI L3 λy v e=>
  gK (P:=λy v=>y∈[77,0,53]/\af (ai [(77,v0),(0,.int n)] 53 (.fn f)) y=some v) ⟨by decide,rfl⟩ (gK (P:=λy v=>y∈[77,0,53]/\af (ai [(77,v0),(0,.int n)] 53 (.fn f)) y=some v) ⟨by decide,rfl⟩ (gK (r:=[]) (P:=λy v=>y∈[77,0,53]/\af (ai [(77,v0),(0,.int n)] 53 (.fn f)) y=some v) ⟨by decide,rfl⟩ (λe=>absurd e bg))) e
 have NA:=(S1.hide S3 hO);clear K2 ha;refine wpAny_execs_cons (j5 (P:=λs2=>wpAny (model aM w) (A.deeper KG) (exec s2 KG) _ aq ⟨h3,s.gens,s.drawn,Lc,s.os⟩) (λo p c=>gf (P:=λo=>wpAny (model aM w) (A.deeper KG) (exec (.Return o p) KG) _ aq ⟨h3,s.gens,s.drawn,Lc,s.os⟩) (λx c=>vf (P:=λx=>wpAny (model aM w) (A.deeper KG) (exec (.Return (some x) p) KG) _ aq ⟨h3,s.gens,s.drawn,Lc,s.os⟩) (λet ea eb p2 c=>fZ c λd1 d2 d3=>?_) c) c) c3);have LC:(ds.map AV.int).length<=1000000:=by rw[length_map];exact Q1 0x3e83111140110f42405141102 [_] Mz rfl
 have hC:aJ X0 HS (ai [(77,v0),(0,.int n)] 53 (.fn f)) st=some (!(ds.map AV.int).isEmpty,st):=
  P.fk (v:=v0) rfl (jZ (P:=λv0=>fH st v0=some (!(ds.map AV.int).isEmpty)) (if_pos LC) (λj h=>(show fH st (.obj j)=(match listAt st j with |some xs=>if xs.length<=1000000 then some (!xs.isEmpty) else none |none=>none) from rfl).trans (by rw[h];exact if_pos LC)) NJ)
 refine wpAny_Return_some (wpAny_IfExp ((t9 (X:=X0) (le_refl 1) eL G HS).run (s:=sw s h3 Lc) d1 hC (MK.less (by decide)) R3 L3 _ λF4 NN h4 LS S4 R4=>?_));have L4:=L3.step S4;have O2:=NA.trans S4;refine oT e (λhx e=>?_) λhx e=>oZ e λu hi e=>?_
 ·subst hx;refine oP (P:=λv Kw=>KW Z F φ s v Kw Q->_) e (λhQ=>?_) hQ;exact((dG (X:=X0) (le_refl 1) eL G (.int 0)).run (s:=sw s h4 LS) (σ:=ai [(77,v0),(0,.int n)] 53 (.fn f)) (st:=st) (v:=.int 0) (Kw:=st) d3 rfl (MK.less (by decide)) R4 L4).good _ λF5 L7 v5 h5 Mg S5 R5 V5=>hQ F5 L7 v5 h5 Mg (O2.trans S5) R5 V5
 ·rw[if_pos (by simpa using hx)];refine oP (P:=λv Kw=>KW Z F φ s v Kw Q->_) e (λhQ=>?_) hQ;have O3:=Qk.mono S4.le;refine dh O3.data λfo fd4 MM MN=>?_;have Q8:(ds.map AV.int).length<=2^24:=le_trans LC (by decide)
  have hle:gA st .len [v0]=some (.int (ds.map AV.int).length,st):=
   jZ (P:=λv0=>gA st .len [v0]=some (.int (ds.map AV.int).length,st)) (if_pos Q8) (λj h=>(show gA st .len [.obj j]=(match listAt st j with |some xs=>if xs.length<=2^24 then some (.int xs.length,st) else none |none=>none) from rfl).trans (by rw[h];exact if_pos Q8)) NJ
  rw[length_map]at hle;obtain⟨l1,a,b,c,p1,p2,p3,cI⟩:=yY cI
  exact il (s:=sw s h4 LS) G R4 L4 rfl MM MN d2 (P.e2 rfl (P.dq (P.e1 rfl) hle)) (MK.less (by decide)) (λF5 L7 vs5 h5 Mg S5 R5 V5=>
   yZ G cI NJ 12 (s:=sw s h5 Mg) hi (MK.less (by decide)) R5 ((Co.step S4).step S5) (O3.mono S5.le) V5) _ λF5 L7 v5 h5 Mg S5 R5 V5=>hQ F5 L7 v5 h5 Mg (O2.trans S5) R5 V5
end
structure N7 (Z:KX):Prop where
 N:MS Z
 h16:fj Z.K 207 [66,0] [.bad,.bad,.bad,.bad]=true
 p16:lb Z.K 207 [66,0]=true
 o16:nG Z=true
 h17:fj Z.K 214 [77,0] [.bad,.bad]=true
 p17:lb Z.K 214 [77,0]=true
 o17:nH Z=true
section
variable {p:Pos}{a P:Addr}
theorem rq (G:Glob Z)(P:Mu Z)(D:N7 Z){C:jN}{k:Nat}(hk:30<=k)(hC:cx Z w k C):cx Z w (k+3) (step C):=by
 intro f args st v Kw e A F φ s vs rm R V;have Nt:1<=k:=by exact Q1 0x41e2111041111102 [_] hk rfl
 refine oT e (λh e=>?_) λ_ e=>oT e (λh e=>?_) λ_ e=>oT e (λh e=>?_) λ_ e=>oT e (λh e=>?_) λ_ e=>oT e (λh e=>?_) λ_ e=>oT e (λh e=>?_) λ_ e=>oT e (λh e=>?_) λn35 e=>?_
 ·subst h;show Good Z w A (call (fv 20) vs) F φ s v Kw;rw[P.fva 20 (by decide)];refine mR (P.mks 0) λm1 m2 m3=>?_;have hl:vs.length=1:=oG e λσ h1 _=>V.length.symm.trans (Nat.succ.inj (cJ h1));revert V;refine N8 hl λv2 V=>?_;exact sq (c:=0) Nt hC G m1 m2 m3 P.f20 (λfd hf s X x=>P.d20 fd hf s X x v2) e rm R V
 ·subst h;show Good Z w A (call (fv 21) vs) F φ s v Kw;rw[P.fva 21 (by decide)];refine mR (P.mks 1) λm1 m2 m3=>?_;have hl:vs.length=1:=oG e λσ h1 _=>V.length.symm.trans (Nat.succ.inj (cJ h1));exact sq (c:=1) Nt hC G m1 m2 m3 P.f21 (λfd hf s X x=>fe P.p21 (congrArg (·+1) hl) fd hf) e rm R V
 ·subst h;show Good Z w A (call (fv 34) vs) F φ s v Kw;rw[P.fva 34 (by decide)];exact yU Nt hC G P e (rm.less (le_succ _)) R V
 ·subst h;show Good Z w A (call (fv 16) vs) F φ s v Kw;rw[P.fva 16 (by decide)];exact wq G D.N D.h16 D.p16 D.o16 e (rm.less (le_trans hk (le_add_right ..))) R V
 ·subst h;show Good Z w A (call (fv 17) vs) F φ s v Kw;rw[P.fva 17 (by decide)];exact wu G D.N D.h17 D.p17 D.o17 e (rm.less (le_trans hk (le_add_right ..))) R V
 ·subst h;show Good Z w A (call (fv 32) vs) F φ s v Kw;rw[P.fva 32 (by decide)];refine ym (gL e) λ_ _ _ h1 _=>?_;have hl:vs.length=2:=V.length.symm.trans (Nat.succ.inj ((length_append (bs:=[AV.none])).symm.trans (cJ h1)));revert V;refine N9 hl λv1 v2 V=>?_;exact ij Nt hC G P.f32 (λfd hf=>P.d32 fd hf s (R.base.inK R.frz) v1 v2) e (rm.less (le_succ _)) R (KI.append V (.cons .none .nil))
 ·subst h;show Good Z w A (call (fv 35) (vs.take 2) [((ofString "name"),vs.getD 2 .none)]) F φ s v Kw;rw[P.fva 35 (by decide)];refine ym (gL e) λ_ _ _ h1 _=>?_;have hl:vs.length=3:=V.length.symm.trans (cJ h1);revert V;refine A9 hl λv1 v2 v3 V=>?_;exact ij Nt hC G P.f35 (λfd hf=>BindsTo.of_eq (P.d35 fd hf v1 v2 v3)) e (rm.less (le_succ _)) R V
 rw[if_neg n35]
 cases hq:mz.lookup f with
 |none=>rw[hq]at e;exact absurd e bg
 |some q=>rw[hq]at e;exact wl Nt hC G P hq e (rm.less (le_succ _)) R V
theorem uv (G:Glob Z)(P:Mu Z)(D:N7 Z):∀ n,cx Z w (3*n+30) (run n):=by
 intro n
 induction n with
 |zero=>
  exact λf args st v Kw e=>by cases e
 |succ n ih=>
  exact rq G P D (by exact Q0 0x1b211114031201e211101 [_] rfl) (ih)
end
end
namespace P
section
variable {X:Cx}{σ KC K5:Loc}{st Kx Ky K4 Me:St}
theorem HT {elt:E}{tg:Tg}{x y:AV}{ifs:List C}{b:Bool}(h:aQ σ tg x=some KC)(h2:dF X ifs KC st=some (b,st))(h3:aa X elt KC st=some (y,st)):jx X elt tg ifs σ x st=some (if b then [y] else [],st):=by
 cases b
 ·exact Dd h h2
 ·exact Dc h h2 h3
theorem jI {γ:Type}{o:Option (List Int)}{k:List Int->Option γ}{x:List Int}{r:Option γ}(h:o=some x)(f:k x=r):(match (generalizing:=false) o with
 |some x=>k x
 |none=>none)=r:=by subst h;exact f
theorem jW {γ:Type}{o:Option (List (List Nat))}{k:List (List Nat)->Option γ}{x:List (List Nat)}{r:Option γ}(h:o=some x)(f:k x=r):(match (generalizing:=false) o with
 |some x=>k x
 |none=>none)=r:=by subst h;exact f
theorem Ez {x:Nat}{v:AV}(h:af σ x=some v):aa X (.l x) σ st=some (v,st):=congrArg (Option.map λv=>(v,st)) h
theorem pC {γ:Type}{i c d:Nat}{fs:Loc}(h:st[i]?=some (.inst c d))(h2:st[d]?=some (.dict fs))(f:Nat->Nat->Loc->Option γ):qp st i f=f c d fs:=by
 unfold qp;rw[h];dsimp only;rw[h2]
theorem mH {i:Nat}{xs:List AV}(h:st[i]?=some (.list xs)):listAt st i=some xs:=by unfold listAt;rw[h]
theorem ss {i c d k:Nat}{fs:Loc}(h:st[i]?=some (.inst c d))(h2:st[d]?=some (.dict fs))(h3:c=if k=36 then 1 else 0)(h4:af fs (tq k)=none):dt st k (.obj i)=true:=congrArg isSome ((pC (γ:=Unit) h h2 λc _ fs=>if c=(if k=36 then 1 else 0)/\af fs (tq k)=none then some () else none).trans (if_pos ⟨h3,h4⟩))
end
theorem lk (x:Nat):¬ (0<=Builtin.bitNot (x:Int)):=by unfold Builtin.bitNot;lia
theorem rr (x:Nat):(Builtin.bitNot (Builtin.bitNot (x:Int)))=x:=by unfold Builtin.bitNot;lia
theorem dI (a b:Nat):Builtin.bitAnd a b=((a &&& b:Nat):Int):=by
 simp[Builtin.bitAnd]
theorem je (a b:Nat):Builtin.bitOr a b=((a ||| b:Nat):Int):=by
 simp only[Builtin.bitOr,Builtin.bitAnd,decide_eq_false (lk a),decide_eq_false (lk b),rr,toNat_natCast]
noncomputable def wv:Nat->Nat->List Nat
 |0,_=>[]
 |f+1,m=>if m<64 then [] else wv f (m/64)++[64+m/64%64]
noncomputable def pE (m:Nat):List Nat:=wv m m
theorem pF {m:Nat}(h:¬ m<64):m/64<m:=Nat.div_lt_self (lt_of_lt_of_le (by decide) (not_lt.mp h)) (by decide)
theorem iI {f m:Nat}(h:m<64):wv f m=[]:=by
 cases f with
 |zero=>rfl
 |succ f=>exact if_pos h
theorem sv:∀ (f g m:Nat),m<=f->m<=g->wv f m=wv g m
 |0,g,m,h,_=>(iI (lt_of_le_of_lt h (by decide))).symm
 |f+1,0,m,_,h=>iI (lt_of_le_of_lt h (by decide))
 |f+1,g+1,m,h,k=>by
  by_cases q:m<64
  ·exact(iI q).trans (iI q).symm
  ·exact(if_neg q).trans ((congrArg (·++_) (sv f g (m/64) (le_of_lt_succ (lt_of_lt_of_le (pF q) h)) (le_of_lt_succ (lt_of_lt_of_le (pF q) k)))).trans (if_neg q).symm)
theorem gM {m:Nat}(h:m<64):pE m=[]:=iI h
theorem j7 {m:Nat}(h:¬ m<64):pE m=pE (m/64)++[64+m/64%64]:=by
 cases m with
 |zero=>exact absurd (by decide) h
 |succ f=>exact(if_neg h).trans (congrArg (·++_) (sv _ _ _ (le_of_lt_succ (pF h)) (le_refl _)))
noncomputable def bM (m:Nat):List Nat:=pE m++[m%64]
noncomputable def iQ (c:Nat):Nat:=if c<32\/c=127 then c+128 else c
theorem y7 (m:Nat):∀ c∈pE m,64<=c/\c<128:=by
 induction m using Nat.strongRecOn with
 |_ m ih=>
  intro c hc;by_cases q:m<64
  ·rw[gM q]at hc;cases hc
  ·rw[j7 q]at hc
   cases mem_append.mp hc with
   |inl h=>exact ih (m/64) (pF q) c h
   |inr h=>rw[mem_singleton.mp h];exact⟨le_add_right _ _,add_lt_add_left (mod_lt _ (by decide)) _⟩
theorem nJ (m:Nat):∀ c∈bM m,c<128:=by
 intro c hc;simp only[bM,mem_append,mem_singleton]at hc
 cases hc with
 |inl h=>exact(y7 m c h).2
 |inr h=>exact Q2 0x402111150110541118021111401103 [_,_] h (mod_lt _ (by decide)) rfl
noncomputable def vp (v:Nat):List Nat->Nat×List Nat
 |[]=>(v,[])
 |x::r=>if x<64 then (v*64+x%64,r) else vp (v*64+x%64) r
theorem iJ (v x:Nat)(r:List Nat):vp v (x::r)=if x<64 then (v*64+x%64,r) else vp (v*64+x%64) r:=rfl
theorem y8 (m:Nat):∀ (y:Nat) (ys:List Nat),vp 0 (pE m++y::ys)=vp (m/64) (y::ys):=by
 induction m using Nat.strongRecOn with
 |_ m ih=>
  intro y ys;by_cases q:m<64
  ·rw[gM q,div_eq_of_lt q];rfl
  ·rw[j7 q,append_assoc,List.singleton_append,ih (m/64) (pF q),iJ];rw[if_neg (by exact not_lt.mpr (Q0 0x44021040211101 [_] rfl))];congr 1;exact GK _
theorem y9 (m:Nat)(ys:List Nat):vp 0 (bM m++ys)=(m,ys):=by
 rw[bM,append_assoc,List.singleton_append,y8,iJ,if_pos (by exact Ha)];congr 1;exact Dj _
theorem EA (n:Nat)(a:List AV)(st:St):run (n+1) 7 a st=bE (run n) [93] b7 a st:=rfl
noncomputable def c7:C:=.val (.cmp .Gt (.l 93) (.int 63))
noncomputable def w7:List S:=[.aug 93 .FloorDiv (.int 64),.asg (.nm 100) (.b .Add (.call 6 [.b .Add (.int 64) (.b .Mod (.l 93) (.int 64))]) (.l 100))]
theorem wx (C:jN)(m:Nat)(s:AV)(st:St):aJ ⟨C⟩ c7 [(93,.int m),(100,s)] st=some (decide (63<m),st):=by
 have:(63<(m:Int))↔63<m:=ofNat_lt (n:=63);exact(bF rfl rfl rfl).trans (congrArg (λb=>some (b,st)) (decide_eq_decide.mpr this))
theorem BK (m:Nat):(m:Int).fmod 64=((m%64:Nat):Int):=by
 rw[Int.fmod_eq_emod_of_nonneg _ (by exact jY)];lia
theorem BL (m:Nat):(m:Int).fdiv 64=((m/64:Nat):Int):=by
 rw[fdiv_eq_ediv_of_nonneg _ (by exact jY)];lia
theorem Aw (m:Nat):aK .Mod (.int m) (.int 64)=some (.int ((m%64:Nat):Int)):=(dV (by decide)).trans (congrArg (λx=>some (AV.int x)) (BK m))
theorem EB (n:Nat)(m:Nat)(s:List Nat)(st:St)(hs:s.length<=1000):cw ⟨run (n+1)⟩ w7 [(93,.int m),(100,.str s)] st=some (.next,[(93,.int ((m/64:Nat):Int)),(100,.str (iQ (64+m/64%64)::s))],st):=by
 have h1:divisionGoesByPylong m 64=false:=la (by decide);have h2:=Es n (64+m/64%64) st (by exact Q1 0x402111140110802111144021001102 [_] (mod_lt _ (by decide)) rfl);have h4:(64:Int)+((m/64%64:Nat):Int)=((64+m/64%64:Nat):Int):=by lia
 have h5:1+s.length<=1000000:=by exact Du
 have h6:augI .FloorDiv m 64=some ((m/64:Nat):Int):=(yS ⟨by decide,h1⟩).trans (congrArg some (BL m));refine Eq.trans (ae (jQ rfl rfl (cC h6))) (Eq.trans (ae (aE (aj (be (e1 (aj rfl (aj rfl rfl (Aw _)) (congrArg (λx=>some (AV.int x)) h4))) h2) rfl (if_pos h5)) rfl)) bB)
theorem l7 (n:Nat)(st:St):∀ (d m:Nat) (s:List Nat) (fuel:Nat),m<64^(d+1)->s.length+d<=1000->d<fuel->∃ m',f7 (aJ ⟨run (n+1)⟩ c7) (cw ⟨run (n+1)⟩ w7) fuel [(93,.int m),(100,.str s)] st=some (.next,[(93,.int m'),(100,.str ((pE m).map iQ++s))],st)
 |0,m,s,f+1,h,hs,_=>by
  refine⟨m,?_⟩;rw[gM (by exact bz)];exact fB (by rw[wx,decide_eq_false (by exact G5)])
 |d+1,m,s,f+1,h,hs,hf=>by
  by_cases q:m<64
  ·refine⟨m,?_⟩;rw[gM q];exact fB (by rw[wx,decide_eq_false (by exact G5)])
  ·refine aw (l7 n st d (m/64) (iQ (64+m/64%64)::s) f (by rw[pow_succ]at h;exact Q2 0x67440220111540231116011051114040203 [_,_,_,_] h (div_add_mod _ _) rfl) (by simp;exact Q1 0x3e83111150401103e83151114001102 [_,_] hs rfl) (by exact Dz)) λm' e=>?_;refine⟨m',?_⟩;rw[ii (by rw[wx,decide_eq_true (by exact zY)]) (EB n m s st (by exact uN)),e,j7 q];simp
theorem HU (n m:Nat)(st:St)(hm:m<262144):run (n+2) 7 [.int m] st=some (.str ((bM m).map iQ),st):=by
 have h2:=Es n (m%64) st (by exact yr);refine aw (l7 n st 2 m [iQ (m%64)] jq (by exact bz) (by simp) (by simp[jq])) λm' e=>?_;rw[EA];refine bT rfl (Eq.trans (ae (aE (be (e1 (aj rfl rfl (Aw m))) h2) rfl)) (Eq.trans (ae (BB.trans e)) (cy (sR ?_))));exact congrArg (λx=>some (AV.str x,st)) (by simp[bM])
theorem BM (n:Nat)(a:List AV)(st:St):run (n+1) 19 a st=bE (run n) [84] HJ a st:=rfl
noncomputable def HV:C:=.val (.b .BitAnd (.l 67) (.int 64))
noncomputable def Gq:List S:=[.aug 85 .LShift (.int 6),.asg (.nm 67) (.bi .next [.l 84]),.aug 85 .BitOr (.b .BitAnd (.l 67) (.int 63))]
theorem BN:HJ=[.asg (.nm 67) (.bi .next [.l 84]),.asg (.nm 85) (.b .BitAnd (.l 67) (.int 63)),.whl HV Gq,.ret (.l 85)]:=rfl
theorem EC:∀ c:Fin 128,(iQ c.val) &&& 63=c.val%64:=by decide +kernel
theorem ED:∀ c:Fin 128,(iQ c.val) &&& 64=if c.val<64 then 0 else 64:=by decide +kernel
theorem rt (c:Nat)(h:c<128):Builtin.bitAnd ((iQ c:Nat):Int) 63=((c%64:Nat):Int)/\Builtin.bitAnd ((iQ c:Nat):Int) 64=((if c<64 then 0 else 64:Nat):Int):=
 ⟨by have:=dI (iQ c) 63;rw[EC ⟨c,h⟩]at this;exact this,by have:=dI (iQ c) 64;rw[ED ⟨c,h⟩]at this;exact this⟩
theorem wy (C:jN)(i:Nat)(c v:Nat)(h:c<128)(st:St):aJ ⟨C⟩ HV [(84,.obj i),(67,.int ((iQ c:Nat):Int)),(85,.int v)] st=some (decide (64<=c),st):=by
 refine Eq.trans (fk (aj rfl rfl (congrArg (λx=>some (AV.int x)) (rt c h).2)) rfl) (congrArg (λb=>some (b,st)) ?_);by_cases q:c<64
 ·simp[q]
 ·simp[q];exact zY
theorem EE:∀ (xs:List Nat) (v:Nat),v<=(vp v xs).1:=by
 intro xs
 induction xs with
 |nil=>
  intro v;exact le_refl _
 |cons x r ih=>
  intro v;rw[iJ];split
  ·show v<=v*64+x%64;exact Q0 0x544023041101 [_,_] rfl
  ·exact le_trans (by exact Q0 0x544023041101 [_,_] rfl) (ih (v*64+x%64))
theorem intBits_le {a:Int}{k:Nat}(h:a.natAbs<2^k):intBits a<=k:=by
 unfold intBits;split
 ·exact C7
 ·rename_i q;have:=(log2_lt (n:=a.natAbs) (k:=k) (by simpa using q)).mpr h;exact bz
noncomputable def cf (xs:List Nat):List AV:=xs.map λc=>.int ((iQ c:Nat):Int)
theorem EF:(2:Int)^27=134217728:=rfl
theorem pG {a b:Int}(h0:0<=b)(h:(intBits a:Int)+b<=134217728):augI .LShift a b=some (a*2^b.toNat):=by
 unfold augI;rw[EF];simp only[h0,h,and_self,if_true]
theorem za (a b:Int):augI .BitOr a b=some (Builtin.bitOr a b):=rfl
theorem sy {st:St}{i:Nat}{v:AV}{vs:List AV}(h:st[i]?=some (.iter (v::vs))):gA st .next [.obj i]=some (v,st.set i (.iter vs)):=by
 show(match st[i]? with |some (.iter (x::xs))=>some (x,st.set i (.iter xs)) |_=>none)=_;rw[h]
theorem BO (C:jN)(i:Nat)(c v x:Nat)(xs:List Nat)(st:St)(hi:st[i]?=some (.iter (cf (x::xs))))(hx:x<128)(hv:v<1048576):cw ⟨C⟩ Gq [(84,.obj i),(67,.int c),(85,.int v)] st=some (.next,[(84,.obj i),(67,.int ((iQ x:Nat):Int)),(85,.int ((v*64+x%64:Nat):Int))],st.set i (.iter (cf xs))):=by
 have h1:intBits (v:Int)<=20:=intBits_le (by rw[natAbs_natCast];exact hv);have h2:augI .LShift v 6=some ((v:Int)*2^(6:Int).toNat):=pG (by exact jY) (by exact Dw)
 have h3:Builtin.bitOr ((v:Int)*2^(6:Int).toNat) ((x%64:Nat):Int)=((v*64+x%64:Nat):Int):=by
  have:((v:Int)*2^(6:Int).toNat)=((v*64:Nat):Int):=by simp
  rw[this,je,mul_comm,← Nat.two_pow_add_eq_or_of_lt (i:=6) (by exact Ha)]
 have h4:gA st .next [.obj i]=some (.int ((iQ x:Nat):Int),st.set i (.iter (cf xs))):=by
  exact sy hi
 have h5:aK .BitAnd (.int ((iQ x:Nat):Int)) (.int 63)=some (.int ((x%64:Nat):Int)):=congrArg (λx=>some (AV.int x)) (rt x hx).1;rw[Gq,ae (jQ rfl rfl (cC h2)),ae (aE (dq rfl h4) rfl),ae (jQ rfl (aj rfl rfl h5) (cC (za _ _))),h3];rfl
theorem Jn (C:jN)(i:Nat):∀ (xs:List Nat) (c v0 m:Nat) (rest:List Nat) (st:St) (fuel:Nat),(∀ x∈c::xs,x<128)->(∃ x∈c::xs,x<64)->vp v0 (c::xs)=(m,rest)->m<1048576->xs.length<fuel->st[i]?=some (.iter (cf xs)) ->
  ∃ c',f7 (aJ ⟨C⟩ HV) (cw ⟨C⟩ Gq) fuel [(84,.obj i),(67,.int ((iQ c:Nat):Int)),(85,.int ((v0*64+c%64:Nat):Int))] st=some (.next,[(84,.obj i),(67,c'),(85,.int m)],st.set i (.iter (cf rest)))
 |xs,c,v0,m,rest,st,0,_,_,_,_,h,_=>absurd h (Nat.not_lt_zero _)
 |xs,c,v0,m,rest,st,f+1,hl,ht,hv,hm,hf,hi=>by
  by_cases q:c<64
  ·rw[iJ,if_pos q]at hv;cases hv
   have:st.set i (.iter (cf xs))=st:=by
    apply ext_getElem? ;intro j;by_cases hj:i=j
    ·subst hj;rw[hi,getElem?_set_self (al hi)]
    ·rw[getElem?_set_ne hj]
   exact⟨_,by rw[fB (by rw[wy _ _ _ _ (by exact bN),decide_eq_false (by exact G5)]),this]⟩
  ·cases xs with
   |nil=>refine ak ht ?_;clear ht;intro x hx hx2;simp at hx;exact absurd (hx▸hx2) q
   |cons x xs=>
    rw[iJ,if_neg q]at hv;have Oy:=EE (x::xs) (v0*64+c%64);rw[hv]at Oy;have hx:x<128:=hl x (by simp)
    refine aw (Jn C i xs x (v0*64+c%64) m rest (st.set i (.iter (cf xs))) f (λy hy=>hl y (by simp at hy ⊢;exact .inr hy)) (by
     refine ak ht ?_;clear ht;intro y hy PG;simp at hy
     cases hy with
     |inl h=>exact absurd (h▸PG) q
     |inr h=>exact⟨y,by simpa using h,PG⟩) hv hm (by simp at hf;exact bz) (by rw[getElem?_set_self (al hi)])) λc' e=>?_
    refine⟨c',?_⟩;rw[ii (by rw[wy _ _ _ _ (hl c (by simp)),decide_eq_true (by exact zY)]) (BO C i _ _ x xs st hi hx (lt_of_le_of_lt Oy hm)),e,set_set]
theorem EG (n i:Nat)(xs:List Nat)(m:Nat)(rest:List Nat)(st:St)(hl:∀ x∈xs,x<128)(ht:∃ x∈xs,x<64)(hv:vp 0 xs=(m,rest))(hm:m<1048576)(KL:xs.length<1000)(hi:st[i]?=some (.iter (cf xs))) :
  run (n+1) 19 [.obj i] st=some (.int m,st.set i (.iter (cf rest))):=by
 cases xs with
 |nil=>refine ak ht ?_;clear ht;intro x hx _;simp at hx
 |cons c xs=>
  refine aw (Jn (run n) i xs c 0 m rest (st.set i (.iter (cf xs))) jq hl ht hv hm (by simp[jq]at KL ⊢;exact Gj) (by rw[getElem?_set_self (al hi)])) λc' e=>?_;rw[set_set,zero_mul,zero_add]at e;rw[BM]
  have h4:gA st .next [.obj i]=some (.int ((iQ c:Nat):Int),st.set i (.iter (cf xs))):=by
   exact sy hi
  have h5:aK .BitAnd (.int ((iQ c:Nat):Int)) (.int 63)=some (.int ((c%64:Nat):Int)):=congrArg (λx=>some (AV.int x)) (rt c (hl c (by simp))).1
  exact bT rfl (by
   rw[BN,ae (aE (dq rfl h4) rfl),ae (aE (aj rfl rfl h5) rfl)]
   exact(ae (BB.trans e)).trans (cy (sR rfl)))
abbrev Pr:=List Nat×List Nat
noncomputable def gZ (p:Pr):AV:=.tup [.str p.1,.str p.2]
structure Hd (st:St)(i d l:Nat)(xs:List Pr):Prop where
 a:st[i]?=some (.inst 0 d)
 b:st[d]?=some (.dict [(5,.obj l)])
 c:st[l]?=some (.list (xs.map gZ))
noncomputable def pH (s:List Nat):Prop:=eW s=true/\s.length<=1000/\d8 true s=true/\d8 true (s.map qo)=true
noncomputable def BP (xs:List Pr):Prop:=xs.length<=10000/\∀ p∈xs,pH p.1
noncomputable def aG (s:List Nat):List Nat:=s.map qo
theorem Hd.ne {st:St}{i d l:Nat}{xs:List Pr}(h:Hd st i d l xs):i≠l/\d≠l/\i≠d:=by
 refine⟨?_,?_,?_⟩<;>rintro rfl
 ·have:=h.a.symm.trans h.c;simp at this
 ·have:=h.b.symm.trans h.c;simp at this
 ·have:=h.a.symm.trans h.b;simp at this
theorem Hd.mono {st Kw:St}{i d l:Nat}{xs:List Pr}(h:Hd st i d l xs){W:List Nat}(k:Kp W st Kw)(hi:i∉W)(hd:d∉W)(hl:l∉W):Hd Kw i d l xs:=
 ⟨k.get h.a hi,k.get h.b hd,k.get h.c hl⟩
theorem Hd.setL {st:St}{i d l:Nat}{xs ys:List Pr}(h:Hd st i d l xs):Hd (st.set l (.list (ys.map gZ))) i d l ys:=by
 refine⟨?_,?_,?_⟩
 ·rw[getElem?_set_ne (λe=>h.ne.1 e.symm)];exact h.a
 ·rw[getElem?_set_ne (λe=>h.ne.2.1 e.symm)];exact h.b
 ·rw[getElem?_set_self (al h.c)]
theorem Hd.recv {st:St}{i d l:Nat}{xs:List Pr}(h:Hd st i d l xs)(k:Nat)(hk:(k==36)=false)(h2:Nat.beq 5 (tq k)=false):dt st k (.obj i)=true:=by
 refine ss h.a h.b (if_neg (of_decide_eq_false hk)).symm ?_;unfold af;rw[h2];rfl
theorem Hd.attr {st:St}{i d l:Nat}{xs:List Pr}(h:Hd st i d l xs):jn st (.obj i) 5=some (.obj l):=pC h.a h.b _
theorem stands_obj {st:St}{l:Nat}{xs:List AV}(h:st[l]?=some (.list xs)):an st (.obj l) xs=true:=@decide_eq_true _ (_) (mH h)
theorem eB {st:St}{l:Nat}{xs:List AV}(h:st[l]?=some (.list xs)):aF st (.obj l)=some xs:=mH h
theorem pJ {s:List Nat}(h:eW s=true):∀ c∈s,c<1114112:=λc hc=>by
 have:=(all_eq_true.mp h) c hc;simp at this;exact bN
theorem j8 {s:List Nat}(h:eW s=true):∀ c∈aG s,c<1114112:=λc hc=>by
 simp only[aG,mem_map]at hc;refine ak hc ?_;clear hc;rintro x hx rfl;have:=pJ h x hx;unfold qo;split<;>(first |exact DC |exact bz)
theorem dP {st:St}{s:List Nat}(h:pH s):jM st .lower (.str s) []=some (.str (aG s),st):=by
 have:(eW s&&decide (s.length<=1000000))=true:=(and_eq_true ..).mpr ⟨h.1,decide_eq_true (le_trans h.2.1 (by decide))⟩;exact if_pos this
theorem wz {st:St}{s:List Nat}(h:pH s):jM st .upper (.str s) []=some (.str (s.map ye),st):=by
 have:(eW s&&decide (s.length<=1000000))=true:=(and_eq_true ..).mpr ⟨h.1,decide_eq_true (le_trans h.2.1 (by decide))⟩;exact if_pos this
theorem BQ (n:Nat)(a:List AV)(st:St):run (n+1) 35 a st=bE (run n) [129,64,110] Gp a st:=rfl
theorem sL (n:Nat)(x:AV)(s:List Nat)(b:Bool)(st:St)(h:d8 b s=true)(h2:s.length<=1000000):run (n+1) 35 [x,.str s,.bool b] st=some (.str s,st):=by
 rw[BQ];have h3:jM st .search (.rx b) [.str s]=some (.none,st):=if_pos ((and_eq_true ..).mpr ⟨h,decide_eq_true h2⟩);refine bT rfl (cy (KC:=[(129,x),(64,.str s),(110,.bool b),(170,.rx b)]) ?_);refine(dO (fk rfl rfl)).trans ?_;refine(ae (aE (v:=.rx b) (Kx:=st) ?_ rfl)).trans ?_
 ·cases b
  ·exact sg (fk rfl rfl) rfl
  ·exact mD (fk rfl rfl) rfl
 refine(ae (bG (fk (gY rfl rfl (e1 rfl) h3) rfl))).trans ?_;exact cy (sR rfl)
section
variable {n i d l:Nat}{xs:List Pr}{st:St}{s:List Nat}
theorem sM (h:Hd st i d l xs)(hs:pH s):xS ⟨run (n+1)⟩ (.asg (.nm 110) (.conv (.l 129) (.sm .lower (.l 110) []) true)) [(129,.obj i),(110,.str s)] st=some (.next,[(129,.obj i),(110,.str (aG s))],st):=
 aE (sf rfl (h.recv 35 rfl rfl) (gY rfl rfl dn (dP hs)) (sL n _ _ true st hs.2.2.2 (by rw[aG,length_map];exact le_trans hs.2.1 (by decide)))) rfl
theorem Ax (op:CmpOp)(b:Bool){X:Cx}{p:Pr}(hp:pH p.1)(hs:pH s)(hop:(op=.Eq/\b=decide (aG p.1=aG s))\/(op=.NotEq/\b=!decide (aG p.1=aG s))):aJ X (.val (.cmp op (.sm .lower (.sub (.l 174) (.int 0)) []) (.l 110))) [(110,.str (aG s)),(174,gZ p)] st=some (b,st):=by
 have e:rS st (.str (aG p.1)) (.str (aG s))=some (decide (aG p.1=aG s)):=nB st (j8 hp.1) (j8 hs.1);refine bF (gY (bX rfl rfl rfl) rfl dn (dP hp)) rfl ?_;rcases hop with ⟨rfl,rfl⟩ |⟨rfl,rfl⟩
 ·exact e
 ·exact congrArg (Option.map (!·)) e
theorem BR (a:List AV):run (n+1) 30 a st=bE (run n) [129,110] Ji a st:=rfl
theorem Ay (h:Hd st i d l xs)(hx:BP xs)(hs:pH s):run (n+2) 30 [.obj i,.str s] st=some (.lst ((xs.filter λp=>decide (aG p.1=aG s)).map λp=>.str p.2),st):=by
 rw[BR];refine bT rfl ((ae (sM h hs)).trans (cy (sR (aH (bS (fz rfl h.attr) (eB h.c) (by rw[length_map];exact le_trans hx.1 (by decide)) ?_)))));exact bK _ gZ _ (stands_obj h.c) xs λp hp=>HT rfl (uO (Ax .Eq _ (hx.2 p hp) hs (.inl ⟨rfl,rfl⟩))) rfl
theorem BS (a:List AV):run (n+1) 31 a st=bE (run n) [129,110] Jh a st:=rfl
theorem EH (h:Hd st i d l xs)(hx:BP xs)(hs:pH s):run (n+2) 31 [.obj i,.str s] st=some (.none,st.set l (.list ((xs.filter λp=>!decide (aG p.1=aG s)).map gZ))):=by
 rw[BS];have hl:(xs.map gZ).length<=10000:=by rw[length_map];exact hx.1
 have hf:((xs.filter λp=>!decide (aG p.1=aG s)).map gZ).length<=10000:=by rw[length_map];exact le_trans (length_filter_le _ _) hx.1
 refine wi (KC:=[(129,.obj i),(110,.str (aG s))]) rfl ((ae (sM h hs)).trans ((ae (BA (aH (bS (ys:=(xs.filter λp=>!decide (aG p.1=aG s)).map gZ) (fz rfl h.attr) (eB h.c) (le_trans hl (by decide)) ?_)) (fz rfl h.attr) ?_)).trans bB))
 ·exact bK _ gZ _ (stands_obj h.c) xs λp hp=>HT rfl (uO (Ax .NotEq _ (hx.2 p hp) hs (.inr ⟨rfl,rfl⟩))) rfl
 ·exact jV (mH h.c) (if_pos Dy)
theorem BU (a:List AV):run (n+1) 33 a st=bE (run n) [129] Jj a st:=rfl
theorem wA (h:Hd st i d l xs)(hx:BP xs):run (n+1) 33 [.obj i] st=some (.lst (xs.map λp=>.str p.2),st):=by
 rw[BU];refine bT rfl (cy (sR (aH (bS (fz rfl h.attr) (eB h.c) (by rw[length_map];exact le_trans hx.1 (by decide)) ?_))));exact aD gZ _ (stands_obj h.c) xs λp hp=>lK rfl rfl
theorem BV (a:List AV):run (n+1) 32 a st=bE (run n) [129,110,132] Ek (a++[.none]) st:=rfl
noncomputable def Jo:List S:=[.iff (.val (.cmp .Eq (.sm .lower (.l 61) []) (.l 110))) [.ret (.l 175)] []]
theorem BW:Ek=[.asg (.nm 110) (.conv (.l 129) (.sm .lower (.l 110) []) true),.for (.tup [61,175]) (.attr (.l 129) 5) Jo [],.ret (.l 132)]:=rfl
theorem Kj {X:Cx}(hs:pH s)(ok:St->Bool)(hk:ok st=true){p:Pr}:∀ (xs:List Pr),(∀ p∈xs,pH p.1)->xs.find? (λp=>decide (aG p.1=aG s))=some p->∀ (τ:Loc),(τ=[]\/∃ u v,τ=[(61,u),(175,v)])->∃ K5,bc ok (bW X (.tup [61,175]) Jo) (xs.map gZ) ([(129,.obj i),(110,.str (aG s)),(132,.none)]++τ) st=some (.ret (.str p.2),K5,st):=by
 intro xs
 induction xs with
 |nil=>
  intro _ h _ _;simp at h
 |cons x xs ih=>
  intro hx h τ MB;have hp:=hx x (by simp);have e:rS st (.str (aG x.1)) (.str (aG s))=some (decide (aG x.1=aG s)):=nB st (j8 hp.1) (j8 hs.1)
  have hb:aQ ([(129,.obj i),(110,.str (aG s)),(132,.none)]++τ) (.tup [61,175]) (gZ x)=some ([(129,.obj i),(110,.str (aG s)),(132,.none)]++[(61,.str x.1),(175,.str x.2)]):=by
   rcases MB with rfl |⟨u,v,rfl⟩<;>rfl
  by_cases q:aG x.1=aG s
  ·rw[find?_cons_of_pos (by simpa using q)]at h;cases h;refine⟨_,BC hk ((aR hb).trans (cy ((dO (bF (gY rfl rfl dn (dP hp)) rfl ?_)).trans (cy (sR rfl)))))⟩;rw[decide_eq_true q]at e;exact e
  ·rw[find?_cons_of_neg (by simpa using q)]at h;refine aw (ih (λp hp=>hx p (by simp[hp])) h [(61,.str x.1),(175,.str x.2)] (.inr ⟨_,_,rfl⟩)) λK5 r=>?_;refine⟨K5,(bR hk ((aR hb).trans ((ae (bG (bF (gY rfl rfl dn (dP hp)) rfl ?_))).trans bB))).trans r⟩;rw[decide_eq_false q]at e;exact e
theorem EI (h:Hd st i d l xs)(hx:BP xs)(hs:pH s){p:Pr}(hf:xs.find? (λp=>decide (aG p.1=aG s))=some p):run (n+2) 32 [.obj i,.str s] st=some (.str p.2,st):=by
 rw[BV];refine aw (Kj (i:=i) (X:=⟨run (n+1)⟩) hs (λst=>an st (.obj l) (xs.map gZ)) (stands_obj h.c) xs hx.2 hf [] (.inl rfl)) λK5 r=>?_
 have e:xS ⟨run (n+1)⟩ (.asg (.nm 110) (.conv (.l 129) (.sm .lower (.l 110) []) true)) [(129,.obj i),(110,.str s),(132,.none)] st=some (.next,[(129,.obj i),(110,.str (aG s)),(132,.none)],st):=
  aE (sf rfl (h.recv 35 rfl rfl) (gY rfl rfl dn (dP hs)) (sL n _ _ true st hs.2.2.2 (by rw[aG,length_map];exact le_trans hs.2.1 (by decide)))) rfl
 rw[BW];exact bT rfl ((ae e).trans (cy (we (fz rfl h.attr) (eB h.c) r)))
end
theorem cz {st g:St}{j:Nat}{o:AO}(h:st[j]?=some o):(st++g)[j]?=some o:=by
 rw[getElem?_append_left (al h)];exact h
theorem aS (st:St)(o:AO):(st++[o])[st.length]?=some o:=by simp
theorem Az {X:Cx}{σ:Loc}{st:St}{e:E}{v:AV}(h:aa X e σ st=some (v,st))(hv:mW v=false)(b:Bool):aa X (.isNon e b) σ st=some (.bool (false != b),st):=jE h (by rw[hv])
theorem wC {X:Cx}{σ:Loc}{st Kx:St}{e:E}{v:AV}{t:Ty}{b:Bool}(h:aa X e σ st=some (v,Kx))(ht:DI Kx t v=some b)(neg:Bool):aa X (.isTy e t neg) σ st=some (.bool (b != neg),Kx):=jE h (congrArg (Option.map _) ht)
theorem sN {γ:Type}{o:Rs}{k:Loc->St->Option γ}{a:Loc}{b:St}(h:o=some (.next,a,b)):kU o k=k a b:=by subst h;rfl
noncomputable def Kk:List S:=[.expr (.conv (.l 129) (.l 61) true),.expr (.conv (.l 129) (.l 175) false)]
theorem BX:Ej=[.asg (.nm 130) (.ite (.val (.isNon (.l 130) true)) (.l 130) (.new false (.list []))),.iff (.val (.isTy (.l 130) .list true)) [.bad] [],.setA (.l 129) 5 (.l 130),.iff (.val (.bool true)) [.for (.tup [61,175]) (.l 130) Kk []] []]:=rfl
theorem EJ (n h:Nat)(st:St)(hh:st[h]?=some (.list [])):∃ Kw,run (n+1) 20 [.obj h] st=some (.obj (st.length+1),Kw)/\Kp [] st Kw/\Hd Kw (st.length+1) st.length h []/\Kw.length=st.length+2:=by
 have LC:=al hh;refine⟨((st++[AO.dict []])++[AO.inst 0 st.length]).set st.length (AO.dict [(5,.obj h)]),?_,?_,⟨?_,?_,?_⟩,?_⟩
 ·have h1:((st++[AO.dict []])++[AO.inst 0 st.length])[h]?=some (.list []):=cz (cz hh)
  have h2:((st++[AO.dict []])++[AO.inst 0 st.length])[st.length+1]?=some (.inst 0 st.length):=by
   simp[getElem?_append]
  have h3:((st++[AO.dict []])++[AO.inst 0 st.length])[st.length]?=some (.dict []):=by
   simp[getElem?_append]
  have h4:(((st++[AO.dict []])++[AO.inst 0 st.length]).set st.length (AO.dict [(5,.obj h)]))[h]?=some (.list []):=by
   rw[getElem?_set_ne (by exact qi)];exact h1
  have ht:DI ((st++[AO.dict []])++[AO.inst 0 st.length]) .list (.obj h)=some true:=jV (mH h1) rfl;have hs:f4 ((st++[AO.dict []])++[AO.inst 0 st.length]) (.obj (st.length+1)) 5 (.obj h)=some (((st++[AO.dict []])++[AO.inst 0 st.length]).set st.length (AO.dict [(5,.obj h)])):=Eq.trans (pC h2 h3 _) (if_pos (by decide))
  have hx:cw ⟨run n⟩ Ej [(129,.obj (st.length+1)),(130,.obj h)] ((st++[AO.dict []])++[AO.inst 0 st.length])=some (.next,[(129,.obj (st.length+1)),(130,.obj h)],((st++[AO.dict []])++[AO.inst 0 st.length]).set st.length (AO.dict [(5,.obj h)])):=by
   rw[BX];refine(ae (aE (mD (fk (Az rfl rfl _) rfl) rfl) rfl)).trans ?_;refine(ae (bG (fk (wC rfl ht true) rfl))).trans ?_;refine(ae (mC rfl rfl hs)).trans ?_;refine(ae (KC:=[(129,.obj (st.length+1)),(130,.obj h)]) (Kx:=((st++[AO.dict []])++[AO.inst 0 st.length]).set st.length (AO.dict [(5,.obj h)])) ((dO rfl).trans ((ae (fy (v:=.obj h) (xs:=[]) rfl (eB h4) (ig (stands_obj h4)))).trans bB))).trans bB
  exact sN hx
 ·refine⟨by simp,λj hj _=>?_⟩;rw[getElem?_set_ne (by exact qi),getElem?_append_left (by simp;exact G9),getElem?_append_left hj]
 ·rw[getElem?_set_ne (by exact zZ)];simp[getElem?_append]
 ·rw[getElem?_set_self (by simp)]
 ·rw[getElem?_set_ne (by exact qi)];exact cz (cz hh)
 ·simp
theorem cZ {st:St}{i:Nat}{xs:List AV}{v:AV}(h:st[i]?=some (.list xs))(h2:xs.length<1000000):jM st .append (.obj i) [v]=some (.none,st.set i (.list (xs++[v]))):=jV (mH h) (if_pos h2)
theorem cT {st:St}{i:Nat}{xs:List AV}(h:st[i]?=some (.list xs)):jp st (.obj i)=true:=congrArg isSome (mH h)
theorem sO (n:Nat){i d l:Nat}{xs:List Pr}{st:St}(h:Hd st i d l xs)(hx:xs.length<=10000){k v:List Nat}(hk:pH k)(hv:d8 false v=true)(Q9:v.length<=1000) :
  ∃ Kw,run (n+2) 34 [.obj i,.str k,.str v] st=some (.none,Kw)/\Kp [l] st Kw/\Hd Kw i d l (xs++[(k,v)]):=by
 have hl:=al h.c;have hi:=al h.a;have hd:=al h.b;have Qb:v.length<=1000000:=le_trans Q9 (by decide);have hv4:k.length<=1000000:=le_trans hk.2.1 (by decide);let m:=st.length;let s1:St:=st++[.dict []];let s2:St:=s1++[.list []];let s3:St:=s2.set (m+1) (.list [.str v]);have l1:s1.length=m+1:=by simp[s1,m]
 have k2:Kp [] st s2:=(Kp.app [] st _).trans (Kp.app [] s1 _)
 have k3:Kp [] st s3:=⟨by simp[s3,s2,s1],λj hj _=>by
  show(s2.set (m+1) _)[j]?=_
  rw[getElem?_set_ne (by simp only[m];exact ne_of_gt (Q1 0x51114011011150111401102 [_,_] hj rfl))];exact k2.2 j hj (by simp)⟩
 have g2:s2[m+1]?=some (.list []):=by rw[← l1];exact aS s1 _
 have g3:s3[m+1]?=some (.list [.str v]):=getElem?_set_self (al g2)
 have d3:s3[m]?=some (.dict []):=by
  show(s2.set (m+1) _)[m]?=_;rw[getElem?_set_ne (by exact J3)];exact cz (aS st _)
 have h2:Hd s2 i d l xs:=h.mono k2 (by simp) (by simp) (by simp);have h3:Hd s3 i d l xs:=h.mono k3 (by simp) (by simp) (by simp);have a2:jM s2 .append (.obj (m+1)) [.str v]=some (.none,s3):=cZ g2 (by decide)
 have a3:jM s3 .append (.obj l) [gZ (k,v)]=some (.none,s3.set l (.list ((xs++[(k,v)]).map gZ))):=by
  rw[cZ h3.c (by rw[length_map];exact dW),map_append];rfl
 have j3:jM s3 .join (.str [59,32]) [.obj (m+1)]=some (.str v,s3):=jV (mH g3) (if_pos (show v.length+0+1*2<=1000000 by exact Q1 0x3e8314110f424051211014001102 [_] Q9 rfl));let Lm:Loc:=[(129,.obj i),(133,.str k),(134,.str v),(135,.obj m)];let KC:Loc:=[(129,.obj i),(133,.str k),(134,.str v),(135,.obj m),(125,.obj (m+1))]
 have e1:aa ⟨run (n+1)⟩ (.new true (.list [])) Lm s1=some (.obj (m+1),s2):=by
  rw[← l1];exact eK (cK dn)
 have x1:cw ⟨run (n+1)⟩ yP Lm s1=some (.next,KC,s3):=by
  refine(ae (aE e1 rfl)).trans ?_;refine(ae (KC:=KC) (Kx:=s3) ((dO (fk (Az rfl rfl _) rfl)).trans ?_)).trans bB;refine(ae (aE (sf rfl (h2.recv 35 rfl rfl) rfl (sL n _ v false s2 hv Qb)) rfl)).trans ?_;exact(ae (eJ (gY rfl (cT g2) (P.e1 rfl) a2) rfl)).trans bB
 have x2:cw ⟨run (n+1)⟩ yQ KC s3=some (.next,KC,s3.set l (.list ((xs++[(k,v)]).map gZ))):=by
  refine(ae (eJ (gY (fz rfl h3.attr) (cT h3.c) (P.e1 (kZ (e2 (sf rfl (h3.recv 35 rfl rfl) rfl (sL n _ k true s3 hk.2.2.1 hv4)) (gY rfl rfl (P.e1 rfl) j3)))) a3) rfl)).trans bB
 refine⟨s3.set l (.list ((xs++[(k,v)]).map gZ)),?_,(k3.more (by simp)).trans (Kp.set (by simp) _ _),h3.setL⟩;show wb (run (n+1)) [.obj i,.str k,.str v] st=_
 have np:nA KC s3=true:=by
  unfold nA;show isSome (match s3[m]? with |some o=>_ |none=>_)=true;rw[d3];rfl
 exact(sN x1).trans ((if_pos np).trans (sN x2))
theorem iK {st:St}{i:Nat}{xs:List AV}(h:st[i]?=some (.list xs))(h2:xs.length<=100000):gA st .len [.obj i]=some (.int xs.length,st):=jV (mH h) (if_pos (le_trans h2 (by decide)))
theorem j9 {st:St}{xs:List AV}(h2:xs.length<=100000):gA st .len [.lst xs]=some (.int xs.length,st):=if_pos (le_trans h2 (by decide))
theorem ix {k:Nat}(h:k<1000000):(0:Int)<=(k:Int)/\(k:Int)<2^62:=⟨by exact jY,by exact yp⟩
theorem cG {st:St}{i:Nat}{xs:List AV}{v:AV}{k:Nat}(h:st[i]?=some (.list xs))(h2:xs[k]?=some v)(h3:k<1000000):cB st (.obj i) (.int k)=some v:=jV (mH h) ((if_pos (ix h3)).trans h2)
theorem wD {γ:Type}{x:AV}{f:List Nat->Option γ}{z:Option γ}(h:∀ s,x≠.str s):isStr x f z=z:=by
 cases x<;>first |rfl |exact absurd rfl (h _)
theorem sP {st:St}{x:AV}{xs:List AV}{v:AV}{k:Nat}(h:lY st x=some xs)(hs:∀ s,x≠.str s)(h2:xs[k]?=some v)(h3:k<1000000):cB st x (.int k)=some v:=by
 unfold cB;show isStr x _ _=_;rw[wD hs];exact jV h ((if_pos (ix h3)).trans h2)
theorem fP {st:St}{xs:List AV}{v:AV}{k:Nat}(h2:xs[k]?=some v)(h3:k<1000000):cB st (.lst xs) (.int k)=some v:=sP rfl nofun h2 h3
theorem zb {st:St}{xs:List AV}{v:AV}{k:Nat}(h2:xs[k]?=some v)(h3:k<1000000):cB st (.tup xs) (.int k)=some v:=sP rfl nofun h2 h3
theorem gn {st:St}{i:Nat}{xs:List AV}{v:AV}{k:Nat}(h:st[i]?=some (.list xs))(h2:k<xs.length)(h3:k<1000000):jo st (.obj i) (.int k) v=some (st.set i (.list (xs.set k v))):=
 jV (mH h) (if_pos (show(0:Int)<=(k:Int)/\(k:Int)<xs.length/\(k:Int)<2^62 from ⟨by exact jY,by exact uM,by exact yp⟩))
noncomputable def eT (cs:List Int)(z:Nat):List Int:=if z<cs.length then cs else cs++replicate (z-cs.length+1) 0
noncomputable def bump (cs:List Int)(z:Nat):List Int:=(eT cs z).set z ((eT cs z).getD z 0+1)
theorem pK (cs:List Int)(z:Nat):z<(eT cs z).length:=by
 unfold eT;split
 ·assumption
 ·simp;exact Q1 0x56041101116050111401102 [_,_,_] Gx rfl
theorem wE (cs:List Int)(z:Nat):(bump cs z).length=max cs.length (z+1):=by
 unfold bump eT;split<;>simp<;>first |exact GG (by assumption) |exact(Nat.max_eq_left (by assumption)).symm
noncomputable def HW:List S:=[.asg (.nm 0) (.b .Add (.l 0) (.int 1)),.asg (.nm 1) (.b .Add (.l 1) (.int 1)),.iff (.val (.cmp .GtE (.l 67) (.bi .len [.l 155]))) [.asg (.nm 155) (.new true (.cat (.l 155) (.new false (.rep (.int 0) (.b .Add (.b .Sub (.l 67) (.bi .len [.l 155])) (.int 1))))))] [],.setI (.l 155) (.l 67) (.b .Add (.sub (.l 155) (.l 67)) (.int 1)),.asg (.nm 67) (.int 0)]
noncomputable def HX:List S:=[.asg (.nm 0) (.b .Add (.l 0) (.int 1)),.asg (.nm 67) (.b .Add (.l 67) (.int 1))]
noncomputable def yg:List S:=[.iff (.val (.cmp .Eq (.l 156) (.l 152))) HX [.iff (.val (.cmp .Eq (.l 156) (.l 153))) HW [.brk]]]
theorem BY:El=[.setA (.l 129) 3 (.l 154),.asg2 [152,153] [.cattr false,.cattr true],.asg (.nm 155) (.new true (.list [])),.asgs [67,0,1] (.int 0),.for (.nm 156) (.attr (.l 129) 3) yg [],.setA (.l 129) 0 (.l 0),.setA (.l 129) 1 (.l 1),.setA (.l 129) 2 (.tup [.bi .tuple [.l 155],.l 67]),.setA (.l 129) 4 (.cmp .LtE (.bi .len [.l 155]) (.int 1))]:=rfl
section
variable {X:Cx}{i:Nat}{s:List Nat}
noncomputable def LN (i:Nat)(s:List Nat)(c b n nt:Nat)(τ:Loc):Loc:=(129,.obj i)::(154,.str s)::(153,.str [9])::(152,.str [32])::(155,.obj c)::(67,.int b)::(0,.int n)::(1,.int nt)::τ
noncomputable def MC (τ:Loc):Prop:=τ=[]\/∃ v,τ=[(156,v)]
theorem EK (st:St)(a b:Nat)(ha:a<256)(hb:b<256):bJ st .Eq (.str [a]) (.str [b])=some (decide (a=b)):=by
 refine(nB st (λc h=>mem_singleton.mp h▸lt_trans ha (by decide)) (λc h=>mem_singleton.mp h▸lt_trans hb (by decide))).trans (congrArg some ?_);exact decide_eq_decide.mpr ⟨λh=>List.head_eq_of_cons_eq h,λh=>h▸rfl⟩
theorem wF {c b n nt:Nat}{τ:Loc}(h:MC τ)(v:AV):aQ (LN i s c b n nt τ) (.nm 156) v=some (LN i s c b n nt [(156,v)]):=by
 rcases h with rfl |⟨u,rfl⟩<;>rfl
theorem BZ (c b n nt:Nat){τ:Loc}(h:MC τ)(st:St):bW X (.nm 156) yg (.str [32]) (LN i s c b n nt τ) st=some (.next,LN i s c (b+1) (n+1) nt [(156,.str [32])],st):=by
 refine(aR (wF h _)).trans ((ae ((dO (bF rfl rfl (EK st 32 32 (by decide) (by decide)))).trans ?_)).trans bB);refine(ae (aE (aj rfl rfl rfl) rfl)).trans ?_;refine(ae (aE (aj rfl rfl rfl) rfl)).trans ?_;rw[bB];rfl
theorem B3 (c b n nt x:Nat)(hx:x<256)(h1:x≠32)(h2:x≠9){τ:Loc}(h:MC τ)(st:St):bW X (.nm 156) yg (.str [x]) (LN i s c b n nt τ) st=some (.brk,LN i s c b n nt [(156,.str [x])],st):=by
 have e1:=EK st x 32 hx (by decide);have e2:=EK st x 9 hx (by decide);rw[decide_eq_false h1]at e1;rw[decide_eq_false h2]at e2;refine(aR (wF h _)).trans (uk ((kY (bF rfl rfl e1)).trans (uk ((kY (bF rfl rfl e2)).trans (uk rfl)))))
theorem HY (c b n nt:Nat)(cs:List Int){τ:Loc}(h:MC τ)(st:St)(hc:st[c]?=some (.list (cs.map .int)))(hl:cs.length<=1000)(hb:b<=1000) :
  ∃ c' Kw,bW X (.nm 156) yg (.str [9]) (LN i s c b n nt τ) st=some (.next,LN i s c' 0 (n+1) (nt+1) [(156,.str [9])],Kw)/\Kp [c] st Kw/\Kw[c']?=some (.list ((bump cs b).map .int))/\(c'=c\/c'=st.length):=by
 have e1:=EK st 9 32 (by decide) (by decide);have e2:=EK st 9 9 (by decide) (by decide)
 have KL:gA st .len [.obj c]=some (.int cs.length,st):=by
  have:=iK hc (by rw[length_map];exact bN)
  rwa [length_map]at this
 have key:∀ (c':Nat) (Kx:St),Kx[c']?=some (.list ((eT cs b).map .int)) ->
   cw X [.setI (.l 155) (.l 67) (.b .Add (.sub (.l 155) (.l 67)) (.int 1)),.asg (.nm 67) (.int 0)] (LN i s c' b (n+1) (nt+1) [(156,.str [9])]) Kx=some (.next,LN i s c' 0 (n+1) (nt+1) [(156,.str [9])],Kx.set c' (.list ((bump cs b).map .int))):=by
  intro c' Kx h1;have hx:=pK cs b
  have g:((eT cs b).map AV.int)[b]?=some (.int ((eT cs b).getD b 0)):=by
   rw[getElem?_map,getElem?_eq_getElem hx];simp[List.getD,getElem?_eq_getElem hx]
  refine(ae (En (aj (bX rfl rfl (cG h1 g (by exact dW))) rfl rfl) rfl rfl (gn h1 (by rw[length_map];exact hx) (by exact dW)))).trans ?_;refine(ae (aE rfl rfl)).trans ?_;rw[bB,show(bump cs b).map AV.int=((eT cs b).map AV.int).set b (.int ((eT cs b).getD b 0+1)) by rw[bump,map_set]];rfl
 have go:∀ {c':Nat} {Kx Ky:St},xS X (.iff (.val (.cmp .GtE (.l 67) (.bi .len [.l 155]))) [.asg (.nm 155) (.new true (.cat (.l 155) (.new false (.rep (.int 0) (.b .Add (.b .Sub (.l 67) (.bi .len [.l 155])) (.int 1))))))] []) (LN i s c b (n+1) (nt+1) [(156,.str [9])]) st=some (.next,LN i s c' b (n+1) (nt+1) [(156,.str [9])],Kx) ->
   cw X [.setI (.l 155) (.l 67) (.b .Add (.sub (.l 155) (.l 67)) (.int 1)),.asg (.nm 67) (.int 0)] (LN i s c' b (n+1) (nt+1) [(156,.str [9])]) Kx=some (.next,LN i s c' 0 (n+1) (nt+1) [(156,.str [9])],Ky)->bW X (.nm 156) yg (.str [9]) (LN i s c b n nt τ) st=some (.next,LN i s c' 0 (n+1) (nt+1) [(156,.str [9])],Ky):=by
  intro c' Kx Ky h1 h2;refine(aR (wF h _)).trans ((ae ((kY (bF rfl rfl e1)).trans ((ae ((dO (bF rfl rfl e2)).trans ?_)).trans bB))).trans bB);refine(ae (aE (aj rfl rfl rfl) rfl)).trans ?_;refine(ae (aE (aj rfl rfl rfl) rfl)).trans ?_;exact(ae h1).trans h2
 by_cases q:b<cs.length
 ·have hg:bJ st .GtE (.int b) (.int cs.length)=some false:=by
   refine congrArg some ?_;simp;exact bz
  have hE:eT cs b=cs:=by rw[eT,if_pos q]
  refine⟨c,_,go (bG (bF rfl (dq (P.e1 rfl) KL) hg)) (key c st (by rw[hE];exact hc)),Kp.set (by simp) _ _,getElem?_set_self (al hc),.inl rfl⟩
 ·have hg:bJ st .GtE (.int b) (.int cs.length)=some true:=by
   refine congrArg some ?_;simp;exact zY
  have hE:(eT cs b).map AV.int=cs.map AV.int++replicate ((b:Int)-(cs.length:Int)+1).toNat (.int 0):=by
   rw[eT,if_neg q,map_append,List.map_replicate];congr 2;exact GB q
  have hr:du X (.cat (.l 155) (.new false (.rep (.int 0) (.b .Add (.b .Sub (.l 67) (.bi .len [.l 155])) (.int 1))))) (LN i s c b (n+1) (nt+1) [(156,.str [9])]) st=some ((eT cs b).map .int,st):=by
   rw[hE];exact wg rfl (aH (BD rfl (aj (aj rfl (dq (P.e1 rfl) KL) rfl) rfl rfl) (by lia) (by lia))) (mH hc) rfl (by simp;lia)
  refine⟨st.length,_,go (c':=st.length) (Kx:=st++[.list ((eT cs b).map .int)]) ((dO (bF rfl (dq (P.e1 rfl) KL) hg)).trans ((ae (aE (eK hr) rfl)).trans bB)) (key st.length _ (aS _ _)),?_,getElem?_set_self (by simp),.inr rfl⟩;refine⟨by simp,λj hj _=>?_⟩;rw[getElem?_set_ne (by exact qi),getElem?_append_left hj]
end
noncomputable def Kb (m:Nat)(a b:St):Prop:=a.length<=b.length/\∀ j,j<m->b[j]?=a[j]?
theorem Kb.refl (m:Nat)(a:St):Kb m a a:=⟨le_refl _,λ_ _=>rfl⟩
theorem Kb.trans {m:Nat}{a b c:St}(x:Kb m a b)(y:Kb m b c):Kb m a c:=⟨le_trans x.1 y.1,λj h=>(y.2 j h).trans (x.2 j h)⟩
noncomputable def jR (l:List Nat):List AV:=l.map λc=>.str [c]
theorem nK (a b:List Nat):jR (a++b)=jR a++jR b:=by simp[jR]
noncomputable def bH (z:Nat):List Nat:=replicate z 32++[9]
noncomputable def cH (L:List Nat):List Nat:=(L.map bH).flatten
theorem jf (z:Nat)(L:List Nat):cH (z::L)=replicate z 32++9::cH L:=by simp[cH,bH]
theorem pL (L M:List Nat):cH (L++M)=cH L++cH M:=by simp[cH]
section
variable {X:Cx}{i:Nat}{s:List Nat}
theorem sQ (c nt:Nat)(st:St)(rest:List AV){ok:St->Bool}(hk:∀ st,ok st=true):∀ (z b n:Nat) (τ:Loc),MC τ->∃ KU,MC KU/\bc ok (bW X (.nm 156) yg) (jR (replicate z 32)++rest) (LN i s c b n nt τ) st=bc ok (bW X (.nm 156) yg) rest (LN i s c (b+z) (n+z) nt KU) st:=by
 intro z
 induction z with
 |zero=>
  intro b n τ h;exact⟨τ,h,by simp[jR]⟩
 |succ z ih=>
  intro b n τ h;refine ak (ih (b+1) (n+1) [(156,.str [32])] (.inr ⟨_,rfl⟩)) λKU h' e=>?_;refine⟨KU,h',?_⟩;rw[replicate_succ,jR,map_cons,cons_append,bR (hk _) (BZ c b n nt h st)];rw[show b+(z+1)=b+1+z by exact le_antisymm (Q0 0x511140011150401101 [_,_] rfl) (Q0 0x111504051114001101 [_,_] rfl),show n+(z+1)=n+1+z by exact le_antisymm (Q0 0x511140011150401101 [_,_] rfl) (Q0 0x111504051114001101 [_,_] rfl)];exact e
theorem EL {ok:St->Bool}(hk:∀ st,ok st=true)(m:Nat)(rest:List AV):∀ (L:List Nat) (c n nt:Nat) (cs:List Int) (τ:Loc) (st:St),MC τ->st[c]?=some (.list (cs.map .int))->(∀ z∈L,z<=100)->cs.length<=200->m<=c->m<=st.length ->
  ∃ c' KU Kw,MC KU/\bc ok (bW X (.nm 156) yg) (jR (cH L)++rest) (LN i s c 0 n nt τ) st=bc ok (bW X (.nm 156) yg) rest (LN i s c' 0 (n+L.sum+L.length) (nt+L.length) KU) Kw/\Kb m st Kw/\Kw[c']?=some (.list ((L.foldl bump cs).map .int))/\(L.foldl bump cs).length<=200/\m<=c':=by
 intro L
 induction L with
 |nil=>
  intro c n nt cs τ st h hc hz hl hm Ra;exact⟨c,τ,st,h,by simp[jR,cH],Kb.refl _ _,hc,hl,hm⟩
 |cons z L ih=>
  intro c n nt cs τ st h hc hz hl hm Ra;have O4:z<=100:=hz z (by simp);refine ak (sQ (X:=X) (i:=i) (s:=s) c nt st (jR (9::cH L)++rest) hk z 0 n τ h) λKZ h1 e1=>?_;refine yn (HY (X:=X) (i:=i) (s:=s) c (0+z) (n+z) nt cs h1 st hc (by exact bN) (by exact Du)) λc2 Ky e2 k2 g2 d2=>?_;have hb:(bump cs z).length<=200:=by rw[wE];exact max_le.mpr ⟨by assumption,le_trans (succ_le_succ (by assumption:z<=100)) (by decide)⟩
  rw[zero_add]at g2;refine uS (ih c2 (n+z+1) (nt+1) (bump cs z) [(156,.str [9])] Ky (.inr ⟨_,rfl⟩) g2 (λy hy=>hz y (by simp[hy])) hb (by rcases d2 with rfl |rfl<;>exact bz) (le_trans Ra k2.1)) λc3 Lw K4 h3 e3 k3 g3 q3 m3=>?_;refine⟨c3,Lw,K4,h3,?_,Kb.trans ⟨k2.1,λj hj=>k2.2 j (by exact A7) (by simp;exact Hh)⟩ k3,g3,q3,m3⟩;rw[jf,nK,append_assoc,e1,jR,map_cons,cons_append,bR (hk _) e2];rw[show n+(z::L).sum+(z::L).length=n+z+1+L.sum+L.length by simp;exact le_antisymm (Q0 0x76111540000111706504001101 [_,_,_,_] rfl) (Q0 0x11170650400761115400001101 [_,_,_,_] rfl),show nt+(z::L).length=nt+1+L.length by simp;exact le_antisymm (Q0 0x511140011150401101 [_,_] rfl) (Q0 0x111504051114001101 [_,_] rfl)];exact e3
end
structure Ws (st:St)(i n nt b:Nat)(cs:List Int):Prop where
 h:∃ d s q,st[i]?=some (.inst 1 d)/\st[d]?=some (.dict [(3,.str s),(0,.int n),(1,.int nt),(2,.tup [.tup (cs.map .int),.int b]),(4,.bool q)])
theorem Ws.mono {st Kw:St}{i n nt b:Nat}{cs:List Int}(h:Ws st i n nt b cs){W:List Nat}(k:Kp W st Kw)(hl:∀ j∈W,∃ xs,st[j]?=some (.list xs)):Ws Kw i n nt b cs:=by
 obtain⟨d,s,q,h1,h2⟩:=h;refine⟨d,s,q,k.get h1 λhi=>?_,k.get h2 λhi=>?_⟩
 ·refine aw (hl _ hi) λxs e=>?_;rw[h1]at e;simp at e
 ·refine aw (hl _ hi) λxs e=>?_;rw[h2]at e;simp at e
theorem Ws.n {st:St}{i n nt b:Nat}{cs:List Int}(h:Ws st i n nt b cs):jn st (.obj i) 0=some (.int n):=by
 obtain⟨d,s,q,h1,h2⟩:=h;exact Eq.trans (pC h1 h2 _) rfl
theorem Ws.nt {st:St}{i n nt b:Nat}{cs:List Int}(h:Ws st i n nt b cs):jn st (.obj i) 1=some (.int nt):=by
 obtain⟨d,s,q,h1,h2⟩:=h;exact Eq.trans (pC h1 h2 _) rfl
theorem Ws.norm {st:St}{i n nt b:Nat}{cs:List Int}(h:Ws st i n nt b cs):jn st (.obj i) 2=some (.tup [.tup (cs.map .int),.int b]):=by
 obtain⟨d,s,q,h1,h2⟩:=h;exact Eq.trans (pC h1 h2 _) rfl
theorem Ws.recv {st:St}{i n nt b:Nat}{cs:List Int}(h:Ws st i n nt b cs):dt st 36 (.obj i)=true:=by
 obtain⟨d,s,q,h1,h2⟩:=h;exact ss h1 h2 rfl rfl
noncomputable def B4 (t:List Nat):Prop:=t=[]\/∃ x r,t=x::r/\x<256/\x≠32/\x≠9
theorem eM {st:St}{i k d:Nat}{fs:List (Nat×AV)}{v:AV}(a:Nat)(h1:st[i]?=some (.inst k d))(h2:st[d]?=some (.dict fs))(h3:fs.length<=100):f4 st (.obj i) a v=some (st.set d (.dict (ai fs a v))):=Eq.trans (pC h1 h2 _) (if_pos h3)
theorem wG (n:Nat)(st:St)(L:List Nat)(t:Nat)(tail:List Nat)(hL:∀ z∈L,z<=100)(ht:B4 tail) :
  ∃ Kw,run (n+1) 21 [.str (cH L++(replicate t 32++tail))] st=some (.obj (st.length+1),Kw)/\Kp [] st Kw/\Ws Kw (st.length+1) (L.sum+L.length+t) L.length t (L.foldl bump []):=by
 let m:=st.length;let s:=cH L++(replicate t 32++tail);let s0:St:=(st++[AO.dict []])++[AO.inst 1 m];let s1:St:=s0.set m (AO.dict [(3,.str s)]);let s2:St:=s1++[AO.list []];have l0:s0.length=m+2:=by simp[s0,m]
 have l1:s1.length=m+2:=by simp[s1,l0]
 have l2:s2.length=m+3:=by simp[s2,l1]
 have i0:s0[m+1]?=some (.inst 1 m):=by simp[s0,m,getElem?_append]
 have d0:s0[m]?=some (.dict []):=by simp[s0,m,getElem?_append]
 have i1:s1[m+1]?=some (.inst 1 m):=by
  show(s0.set m _)[m+1]?=_;rw[getElem?_set_ne (by exact zZ)];exact i0
 have d1:s1[m]?=some (.dict [(3,.str s)]):=getElem?_set_self (al d0);have i2:s2[m+1]?=some (.inst 1 m):=cz i1;have d2:s2[m]?=some (.dict [(3,.str s)]):=cz d1;have c2:s2[m+2]?=some (.list (([]:List Int).map .int)):=by rw[← l1];exact aS s1 _
 let Lm:Loc:=[(129,.obj (m+1)),(154,.str s)];let X:Cx:=⟨run n⟩;have hk:∀ Kw,(λst=>an st (.str s) (jR s)) Kw=true:=λ_=>rfl;refine uS (EL (X:=X) (i:=m+1) (s:=s) hk (m+2) (jR (replicate t 32)++jR tail) L (m+2) 0 0 [] [] s2 (.inl rfl) c2 hL (by simp) (by exact Hf) (by exact Q1 0x3114051125211401102 [_,_] l2 rfl)) λc3 Lw s3 t3 e3 k3 g3 q3 m3=>?_;refine ak (sQ (X:=X) (i:=m+1) (s:=s) c3 (0+L.length) s3 (jR tail) hk t 0 (0+L.sum+L.length) Lw t3) λLF t4 e4=>?_;rw[e4]at e3;have i3:s3[m+1]?=some (.inst 1 m):=by rw[k3.2 _ (by exact Hf)];exact i2
 have d3:s3[m]?=some (.dict [(3,.str s)]):=by rw[k3.2 _ (by exact A0)];exact d2
 have lp:∃ LH ,xS X (.for (.nm 156) (.attr (.l 129) 3) yg []) (LN (m+1) s (m+2) 0 0 0 []) s2=some (.next,LN (m+1) s c3 (0+t) (0+L.sum+L.length+t) (0+L.length) LH,s3):=by
  have ha:aa X (.attr (.l 129) 3) (LN (m+1) s (m+2) 0 0 0 []) s2=some (.str s,s2):=fz (x:=.obj (m+1)) rfl (Eq.trans (pC i2 d2 _) rfl);have hs:jR s=jR (cH L)++(jR (replicate t 32)++jR tail):=by rw[← nK,← nK]
  rw[← hs]at e3;rcases ht with ht |⟨x,r,ht,hx,h1,h2⟩
  ·refine⟨LF,fy ha rfl ?_⟩;show bc (λst=>an st (.str s) (jR s)) _ (jR s) _ _=_;rw[e3,ht];exact ig (hk _)
  ·refine⟨[(156,.str [x])],Au ha rfl ?_⟩;show bc (λst=>an st (.str s) (jR s)) _ (jR s) _ _=_;rw[e3,ht];exact Eo (hk _) (B3 _ _ _ _ x hx h1 h2 t4 s3)
 refine aw lp ?_;clear lp;intro LH lp;let nn:=0+L.sum+L.length+t;let kk:=0+L.length;let bb:=0+t;let MG:=LN (m+1) s c3 bb nn kk LH;let cs:=L.foldl bump [];let s4:St:=s3.set m (AO.dict [(3,.str s),(0,.int nn)]);let s5:St:=s4.set m (AO.dict [(3,.str s),(0,.int nn),(1,.int kk)]);let s6:St:=s5.set m (AO.dict [(3,.str s),(0,.int nn),(1,.int kk),(2,.tup [.tup (cs.map .int),.int bb])]);let s7:St:=s6.set m (AO.dict [(3,.str s),(0,.int nn),(1,.int kk),(2,.tup [.tup (cs.map .int),.int bb]),(4,.bool (decide (((cs.map AV.int).length:Int)<=1)))]);have hm3:m<s3.length:=al d3
 have i4:s4[m+1]?=some (.inst 1 m):=by
  show(s3.set m _)[m+1]?=_;rw[getElem?_set_ne (by exact zZ)];exact i3
 have d4:s4[m]?=some (.dict [(3,.str s),(0,.int nn)]):=getElem?_set_self hm3
 have i5:s5[m+1]?=some (.inst 1 m):=by
  show(s4.set m _)[m+1]?=_;rw[getElem?_set_ne (by exact zZ)];exact i4
 have d5:s5[m]?=some (.dict [(3,.str s),(0,.int nn),(1,.int kk)]):=getElem?_set_self (al d4)
 have i6:s6[m+1]?=some (.inst 1 m):=by
  show(s5.set m _)[m+1]?=_;rw[getElem?_set_ne (by exact zZ)];exact i5
 have d6:s6[m]?=some (.dict [(3,.str s),(0,.int nn),(1,.int kk),(2,.tup [.tup (cs.map .int),.int bb])]):=getElem?_set_self (al d5)
 have i7:s7[m+1]?=some (.inst 1 m):=by
  show(s6.set m _)[m+1]?=_;rw[getElem?_set_ne (by exact zZ)];exact i6
 have d7:s7[m]?=some (.dict [(3,.str s),(0,.int nn),(1,.int kk),(2,.tup [.tup (cs.map .int),.int bb]),(4,.bool (decide (((cs.map AV.int).length:Int)<=1)))]):=getElem?_set_self (al d6)
 have cc:∀ (u:St) (o:AO),u[c3]?=some (.list (cs.map .int))->(u.set m o)[c3]?=some (.list (cs.map .int)):=λu o h=>by
  rw[getElem?_set_ne (by exact ne_of_lt (Q1 0x5211401105111401102 [_,_] m3 rfl))];exact h
 have g5:s5[c3]?=some (.list (cs.map .int)):=cc _ _ (cc _ _ g3);have g6:s6[c3]?=some (.list (cs.map .int)):=cc _ _ g5;have NZ:(cs.map AV.int).length<=200:=by rw[length_map];exact q3
 have tup5:gA s5 .tuple [.obj c3]=some (.tup (cs.map .int),s5):=jV (mH g5) (if_pos (le_trans NZ (by decide)))
 have body:cw X El Lm s0=some (.next,MG,s7):=by
  rw[BY];refine(ae (mC rfl rfl (eM 3 i0 d0 (by simp)))).trans ?_;refine(ae (Kx:=s1) (wd rfl rfl)).trans ?_;refine(ae (Kx:=s2) (aE (v:=.obj (m+2)) (by rw[← l1];exact eK (cK dn)) rfl)).trans ?_;refine(ae (KC:=LN (m+1) s (m+2) 0 0 0 []) (Kx:=s2) rfl).trans ?_;refine(ae lp).trans ?_;refine(ae (Kx:=s4) (mC rfl rfl (eM 0 i3 d3 (by simp)))).trans ?_;refine(ae (Kx:=s5) (mC rfl rfl (eM 1 i4 d4 (by simp)))).trans ?_;refine(ae (Kx:=s6) (mC (kZ (e2 (dq (P.e1 rfl) tup5) rfl)) rfl (eM 2 i5 d5 (by simp)))).trans ?_;refine(ae (Kx:=s7) (mC (yR (dq (P.e1 rfl) (iK g6 (by exact bN))) rfl rfl) rfl (eM 4 i6 d6 (by simp)))).trans bB
 refine⟨s7,?_,⟨?_,λj hj _=>?_⟩,⟨m,s,decide (((cs.map AV.int).length:Int)<=1),i7,?_⟩⟩
 ·exact sN body
 ·have:s7.length=s3.length:=by simp[s7,s6,s5,s4]
  have this2:=k3.1;exact le_trans (le_trans (le_add_right _ 3) (le_of_eq l2.symm)) (le_trans this2 (le_of_eq this.symm))
 ·have M7:m≠j:=by simp only[m];exact qi
  show((((s3.set m _).set m _).set m _).set m _)[j]?=_;rw[getElem?_set_ne M7,getElem?_set_ne M7,getElem?_set_ne M7,getElem?_set_ne M7,k3.2 _ (by simp only[m]at *;exact Ja)];show((s0.set m _)++_)[j]?=_;rw[getElem?_append_left (by simp[s0];exact Ja),getElem?_set_ne M7];show((st++_)++_)[j]?=_;rw[getElem?_append_left (by simp;exact G9),getElem?_append_left hj]
 ·rw[d7];simp only[nn,kk,bb,cs,zero_add]
theorem jz:∀ (a b:List Int),PyData.eqvAll (a.map .int) (b.map .int)=decide (a=b)
 |[],[]=>by simp[PyData.eqvAll]
 |[],_::_=>by simp[PyData.eqvAll]
 |_::_,[]=>by simp[PyData.eqvAll]
 |x::a,y::b=>by
  rw[map_cons,map_cons,PyData.eqvAll,jz a b,PyData.eqv];by_cases h:x=y<;>simp[h]
theorem ll (st:St)(cs:List Int)(b:Nat):ba 6 st (.tup [.tup (cs.map .int),.int b])=some (.tuple [.tuple (cs.map .int),.int b]):=by
 exact congrArg (Option.map PyData.tuple) (wc (ui 4 st cs) (wc (mA 5 st b) rfl))
theorem pM (cs:List Int)(b:Nat):(PyData.tuple [.tuple (cs.map .int),.int b]).canLay0=true:=by
 exact(and_eq_true ..).mpr ⟨canLayAll_ints cs,rfl⟩
theorem wJ (st:St)(cs MX:List Int)(b b':Nat):rS st (.tup [.tup (cs.map .int),.int b]) (.tup [.tup (MX.map .int),.int b'])=some (decide (cs=MX/\b=b')):=by
 unfold rS;rw[ll,ll];refine(if_pos ((and_eq_true ..).mpr ⟨pM cs b,pM MX b'⟩)).trans (congrArg some ?_);show(PyData.eqvAll (cs.map .int) (MX.map .int)&&(decide ((b:Int)=b')&&true))=_;rw[jz];by_cases h:cs=MX<;>by_cases q:b=b'<;>simp[h,q]
 exact Dv
theorem B5 (n:Nat)(a:List AV)(st:St):run (n+1) 36 a st=bE (run n) [129,158] Jl a st:=rfl
theorem sS (n:Nat){st:St}{i j n1 t1 c1 n2 t2 c2:Nat}{cs MX:List Int}(h:Ws st i n1 t1 c1 cs)(h':Ws st j n2 t2 c2 MX):run (n+1) 36 [.obj i,.obj j] st=some (.bool (decide (cs=MX/\c1=c2)),st):=by
 rw[B5];exact bT rfl (cy (sR (yR (fz rfl h.norm) (fz rfl h'.norm) (wJ st cs MX c1 c2))))
noncomputable def mx (L:List Nat):Nat:=L.foldr max 0
theorem B6 (L:List Nat)(z:Nat):mx (L++[z])=max (mx L) z:=by
 induction L with
 |nil=>simp[mx]
 |cons a L ih=>simp only[mx,cons_append,foldr_cons]at ih ⊢;rw[ih];exact(Nat.max_assoc ..).symm
theorem AA {L:List Nat}{z:Nat}(h:z∈L):z<=mx L:=by
 induction L with
 |nil=>simp at h
 |cons a L ih=>
  simp only[mx,foldr_cons]at ih ⊢;simp only[mem_cons]at h;rcases h with rfl |h
  ·exact Ka
  ·exact le_trans (ih h) (Nat.le_max_right ..)
noncomputable def aI (L:List Nat):List Int:=(List.range (mx L+1)).map λk=>(L.count k:Int)
theorem cE (L:List Nat):(aI L).length=mx L+1:=by simp[aI]
theorem db (L:List Nat)(k:Nat):(aI L)[k]?=if k<=mx L then some (L.count k:Int) else none:=by
 rw[aI,getElem?_map];split
 ·rw[getElem?_range (by exact Gn)];rfl
 ·rw[List.getElem?_eq_none (by simp;exact Gl)];rfl
theorem eN {L:List Nat}{k:Nat}(h:¬ k<=mx L):L.count k=0:=count_eq_zero.mpr λhm=>h (AA hm)
theorem uw (L:List Nat)(z:Nat):bump (aI L) z=aI (L++[z]):=by
 apply ext_getElem?;intro k
 have hz:((eT (aI L) z).getD z 0)=(L.count z:Int):=by
  unfold eT;rw[cE];split
  ·rw[getD_eq_getElem?_getD,db,if_pos (by exact Dz)];rfl
  ·rw[getD_eq_getElem?_getD,getElem?_append_right (by rw[cE];exact zY),getElem?_replicate,eN (by lia)];split<;>rfl
 have hk:(eT (aI L) z)[k]?=if k<=max (mx L) z then some (L.count k:Int) else none:=by
  unfold eT;rw[cE];split
  ·rw[db];congr 1;simp;exact GC (by assumption)
  ·by_cases q:k<=mx L
   ·rw[getElem?_append_left (by rw[cE];exact Gn),db,if_pos q,if_pos (GF q)]
   ·rw[getElem?_append_right (by rw[cE];exact Gl),getElem?_replicate,cE,eN q];by_cases q2:k<=max (mx L) z
    ·rw[if_pos (GD (by assumption) q2),if_pos q2];rfl
    ·rw[if_neg (GE (by assumption) q2),if_neg q2]
 unfold bump;rw[hz,db,B6,count_append];by_cases q:z=k
 ·subst q;rw[getElem?_set_self (pK _ _),if_pos (by exact Kc)];simp
 ·rw[getElem?_set_ne q,hk];have:List.count k [z]=0:=count_eq_zero.mpr (by simp;lia);rw[this];rfl
theorem mI:∀ (M L:List Nat),M.foldl bump (aI L)=aI (L++M):=by
 intro M
 induction M with
 |nil=>
  intro L;simp
 |cons z M ih=>
  intro L;rw[foldl_cons,uw,ih (L++[z])];simp
theorem ru (M:List Nat):(0::M).foldl bump []=aI (0::M):=by
 have:bump [] 0=aI [0]:=by decide
 rw[foldl_cons,this,mI];rfl
theorem pN {L M:List Nat}(h:∀ k,L.count k=M.count k):aI L=aI M:=by
 have hm:∀ {A B:List Nat},(∀ k,A.count k=B.count k)->mx A<=mx B:=by
  intro A B h
  have:∀ C:List Nat,(∀ z∈C,z∈B)->mx C<=mx B:=by
   intro C
   induction C with
   |nil=>intro _;simp[mx]
   |cons a C ih=>
    intro hC;have:=ih λz hz=>hC z (by simp[hz]);have:=AA (hC a (by simp));simp only[mx,foldr_cons]at *;exact Hg
  exact this A λz hz=>by
   have:=List.count_pos_iff.mpr hz;rw[h]at this;exact List.count_pos_iff.mp this
 have e:mx L=mx M:=le_antisymm (hm h) (hm λk=>(h k).symm);unfold aI;rw[e];congr 1;funext k;rw[h]
theorem ux {L M:List Nat}(h:aI L=aI M)(k:Nat):L.count k=M.count k:=by
 have e:(aI L)[k]?=(aI M)[k]?:=by rw[h]
 rw[db,db]at e;split at e<;>split at e
 ·simp at e;lia
 ·simp at e
 ·simp at e
 ·rw[eN ‹_›,eN ‹_›]
theorem gN:∀ (l:List (List Nat)),eX [] l=l.flatten
 |[]=>rfl
 |[x]=>(append_nil x).symm
 |x::y::r=>(congrArg (x++[]++·) (gN (y::r))).trans (by rw[append_nil];rfl)
abbrev dK:=List (Bool×Nat)
noncomputable def fC (p:Bool×Nat):List Nat:=[if p.1 then 64+p.2 else 96+p.2]
noncomputable def bY (B:dK):List Pr:=B.map λp=>(fC p,bH p.2)
noncomputable def cj (B:dK):List Nat:=B.map (·.2)
noncomputable def lL (B:dK):Prop:=B.length<=1000/\∀ p∈B,1<=p.2/\p.2<=6
theorem gO (b:Bool)(z:Nat)(h:1<=z/\z<=6):pH (fC (b,z))/\aG (fC (b,z))=[96+z]:=by
 have:z=1\/z=2\/z=3\/z=4\/z=5\/z=6:=by exact uP
 rcases this with rfl |rfl |rfl |rfl |rfl |rfl<;>cases b<;>exact⟨⟨by decide,by decide,by decide,by decide⟩,by decide⟩
theorem nL {B:dK}(h:lL B):BP (bY B):=by
 refine⟨by rw[bY,length_map];exact le_trans h.1 (by decide),λp hp=>?_⟩;simp only[bY,mem_map]at hp;refine ak hp ?_;clear hp;rintro x hx rfl;exact(gO x.1 x.2 (h.2 x hx)).1
theorem chunk_len (z:Nat):(bH z).length=z+1:=by simp[bH]
theorem iL:∀ (L:List Nat),(cH L).length=L.sum+L.length:=by
 intro L
 induction L with
 |nil=>
  exact rfl
 |cons z L ih=>
  rw[jf];simp[ih];exact le_antisymm (Q0 0x1116054001116500401101 [_,_,_] rfl) (Q0 0x1116500401116054001101 [_,_,_] rfl)
theorem ry {L:List Nat}{m:Nat}(h:∀ z∈L,z<=m):L.sum<=m*L.length:=by
 induction L with
 |nil=>simp
 |cons a L ih=>
  have h1:=h a (by simp);have:=ih λz hz=>h z (by simp[hz]);simp only[sum_cons,length_cons,mul_add];exact Q2 0x65110741107113605401103 [_,_,_,_] h1 this rfl
theorem pO (B:dK):((bY B).map (·.2)).flatten=cH (cj B):=by
 simp[bY,cH,cj,Function.comp_def]
theorem EM (n:Nat)(a:List AV)(st:St):run (n+1) 9 a st=bE (run n) [101] b9 a st:=rfl
theorem uy (M:List Nat):[9]++cH M++[32,32,120,32,9]=cH (0::M)++(replicate 2 32++[120,32,9]):=by
 rw[jf];simp[replicate]
theorem zc (n:Nat){i d l:Nat}{B:dK}{st:St}(h:Hd st i d l (bY B))(hB:lL B) :
  ∃ Kw,run (n+2) 9 [.obj i] st=some (.obj (st.length+1),Kw)/\Kp [] st Kw/\Ws Kw (st.length+1) ((cj B).sum+(cj B).length+3) ((cj B).length+1) 2 (aI (0::cj B)):=by
 have hz:∀ z∈cj B,z<=6:=λz hz=>by
  simp only[cj,mem_map]at hz;refine ak hz ?_;clear hz;rintro p hp rfl;exact(hB.2 p hp).2
 have KL:(cj B).length<=1000:=by rw[cj,length_map];exact hB.1
 have M8:=ry hz
 refine cV (wG n st (0::cj B) 2 [120,32,9] (λz Nz=>by
  simp only[mem_cons]at Nz;rcases Nz with rfl |h
  ·exact C7
  ·have:=hz z h;exact bN) (.inr ⟨120,[32,9],rfl,by decide,by decide,by decide⟩)) λKw e k w=>?_
 rw[ru]at w
 refine⟨Kw,?_,k,by
  have e1:(0::cj B).sum+(0::cj B).length+2=(cj B).sum+(cj B).length+3:=by simp;exact Hc
  rw[e1]at w
  exact w⟩
 rw[EM];have hv:=wA (n:=n) h (nL hB)
 have hj:jM st .join (.str []) [.lst ((bY B).map λp=>.str p.2)]=some (.str (cH (cj B)),st):=by
  have:(((bY B).map λp=>p.2).map List.length).sum+((bY B).map λp=>p.2).length*0<=1000000:=by
   rw[← List.length_flatten,pO,iL];exact Q2 0x561241103e8315710f42405160354001103 [_,_,_] KL M8 rfl
  refine(jW (eg (λp:Pr=>p.2) (bY B)) (if_pos this)).trans ?_;rw[gN,pO]
 have a1:aK .Add (.str [9]) (.str (cH (cj B)))=some (.str ([9]++cH (cj B))):=by
  have:[9].length+(cH (cj B)).length<=1000000:=by rw[iL];simp;exact Q2 0x561241103e8315710f42405154011101103 [_,_] KL M8 rfl
  exact if_pos this
 have a2:aK .Add (.str ([9]++cH (cj B))) (.str [32,32,120,32,9])=some (.str (cH (0::cj B)++(replicate 2 32++[120,32,9]))):=by
  have:([9]++cH (cj B)).length+[32,32,120,32,9].length<=1000000:=by rw[length_append,iL];simp;exact Q2 0x561241103e8315710f423b5154011101103 [_,_] KL M8 rfl
  exact(if_pos this).trans (by rw[uy])
 exact bT rfl (cy (sR (be (P.e1 (aj (aj rfl (gY rfl rfl (P.e1 (fc rfl (h.recv 33 rfl rfl) dn hv)) hj) a1) rfl a2)) e)))
theorem gq {a b:Int}(h:a.natAbs<2^60):eE a b=true:=by
 have:=intBits_le h;have h2:shortFactorBits=64:=rfl;have h3:¬ (intBits a>shortFactorBits):=by rw[h2];exact J2
 simp only[eE,decide_eq_false h3,Bool.false_and,Bool.not_false]
theorem mul_int {a b:Int}(h:a.natAbs<2^60):aK .Mult (.int a) (.int b)=some (.int (a*b)):=sk (gq h)
theorem fQ {ok:St->Bool}{f:AV->St->Option (List AV×St)}{v:AV}{r ys zs:List AV}{st Kx Ky:St}(h:ok st=true)(h1:f v st=some (ys,Kx))(h2:aU ok f r Kx=some (zs,Ky)):aU ok f (v::r) st=some (ys++zs,Ky):=(if_pos h).trans (jL h1 (jL h2 rfl))
theorem wK {ok:St->Bool}{f:AV->St->Option (List AV×St)}{st:St}(h:ok st=true):aU ok f [] st=some ([],st):=if_pos h
theorem EN {X:Cx}{σ:Loc}{st Kx Ky:St}{a i:E}{x:AV}{k:Nat}{xs:List AV}(h1:aa X a σ st=some (x,Kx))(h2:aa X i σ Kx=some (.int k,Ky))(h3:cN Ky x=some xs)(h4:k<1000000)(h5:xs.length<=1000000):du X (.drop a i) σ st=some (xs.drop k,Ky):=by
 have:(mV (k:Int)&&decide (xs.length<=1000000))=true:=by
  simp only[mV,and_eq_true,decide_eq_true_eq];exact⟨⟨by exact jY,by exact yp⟩,h5⟩
 exact jE h1 (jE h2 (jV h3 (if_pos this)))
theorem aZ {st:St}(n:Nat)(h:n<1000000):gA st .range1 [.int n]=some (.rng 0 n,st):=by
 have:(n:Int).natAbs<2^62:=by rw[natAbs_natCast];exact bN
 exact if_pos this
theorem aL {st:St}(n:Nat)(h:n<1000000):aF st (.rng 0 n)=some ((List.range n).map λk:Nat=>AV.int k):=by
 have:(0:Int).natAbs<2^61/\(n:Int).natAbs<2^61:=⟨by decide,by rw[natAbs_natCast];exact bN⟩;exact(if_pos this).trans (by rw[kW];simp)
theorem wL (st:St)(z:Nat)(h:1<=z/\z<=6){X:Cx}{σ:Loc}{x:Nat}(hx:af σ x=some (.int z)):aa X (.sub (.str [65,66,67,68,69,70]) (.b .Sub (.l x) (.int 1))) σ st=some (.str (fC (true,z)),st):=by
 refine bX rfl (aj (v:=.int ((z:Int)-1)) (Ez hx) rfl rfl) ?_;have:z=1\/z=2\/z=3\/z=4\/z=5\/z=6:=by exact uP
 rcases this with rfl |rfl |rfl |rfl |rfl |rfl<;>rfl
theorem wM (st:St)(z:Nat)(h:1<=z/\z<=6){X:Cx}{σ:Loc}{x:Nat}(hx:af σ x=some (.int z)):aa X (.sub (.str [97,98,99,100,101,102]) (.b .Sub (.l x) (.int 1))) σ st=some (.str (fC (false,z)),st):=by
 refine bX rfl (aj (v:=.int ((z:Int)-1)) (Ez hx) rfl rfl) ?_;have:z=1\/z=2\/z=3\/z=4\/z=5\/z=6:=by exact uP
 rcases this with rfl |rfl |rfl |rfl |rfl |rfl<;>rfl
theorem wN (z:Nat):d8 false (bH z)=true:=by
 simp only[d8,bH,List.all_append,and_eq_true];refine⟨?_,by decide⟩;rw[all_eq_true];intro c hc;rw[eq_of_mem_replicate hc];decide
theorem B7 (n:Nat){i d l:Nat}{B:dK}{st:St}(h:Hd st i d l (bY B))(hl:B.length<=1000)(b:Bool)(z:Nat)(hz:1<=z/\z<=6) :
  ∃ Kw,run (n+2) 34 [.obj i,.str (fC (b,z)),.str (bH z)] st=some (.none,Kw)/\Kp [l] st Kw/\Hd Kw i d l (bY (B++[(b,z)])):=by
 refine cV (sO n h (by rw[bY,length_map];exact bN) (gO b z hz).1 (wN z) (by rw[chunk_len];exact mT)) λKw e k h'=>?_;exact⟨Kw,e,k,by simpa [bY] using h'⟩
noncomputable def MQ (i l:Nat)(T:List Nat)(sh p q r s it:Nat)(stay:List AV)(τ:Loc):Loc:=(101,.obj i)::(102,.str T)::(103,.int sh)::(104,.obj it)::(91,.int p)::(80,.int q)::(75,.int r)::(163,.int s)::(105,.lst stay)::τ
noncomputable def Jp:List S:=[.expr (.meth 34 (.l 101) [.sub (.str [97,98,99,100,101,102]) (.b .Sub (.l 91) (.int 1)),.l 106])]
noncomputable def Jq:List S:=[.expr (.meth 34 (.l 101) [.sub (.str [65,66,67,68,69,70]) (.b .Sub (.l 75) (.int 1)),.b .Add (.b .Mult (.str [32]) (.l 75)) (.str [9])])]
theorem EO:b8=[.asg (.nm 104) (.bi .iter [.new false (.comp (.bi .ord [.l 189]) (.nm 189) (.l 102) [] [])]),.asg (.tup [91,80,75,163]) (.new false (.comp (.b .Sub (.call 19 [.l 104]) (.b .Mult (.int 8) (.l 103))) (.nm 61) (.bi .range1 [.int 4]) [] [104,103])),.asg (.nm 105) (.new false (.drop (.meth 30 (.l 101) [.sub (.str [65,66,67,68,69,70]) (.b .Sub (.l 91) (.int 1))]) (.l 80))),.del (.l 101) (.sub (.str [97,98,99,100,101,102]) (.b .Sub (.l 91) (.int 1))),.for (.nm 106) (.l 105) Jp [],.for (.nm 61) (.bi .range1 [.l 163]) Jq []]:=rfl
section
variable {i d l:Nat}{T:List Nat}{sh p q r s it:Nat}{stay:List AV}
theorem Kl (n:Nat)(hp:1<=p/\p<=6){ok:St->Bool}(hk:∀ st,ok st=true):∀ (k:Nat) (B:dK) (τ:Loc) (st:St),Hd st i d l (bY B)->B.length+k<=1000->(τ=[]\/∃ v,τ=[(106,v)]) ->
  ∃ KU Kw,bc ok (bW ⟨run (n+2)⟩ (.nm 106) Jp) (replicate k (.str (bH p))) (MQ i l T sh p q r s it stay τ) st=some (.next,MQ i l T sh p q r s it stay KU,Kw)/\Kp [l] st Kw/\Hd Kw i d l (bY (B++replicate k (false,p)))/\(KU=[]\/∃ v,KU=[(106,v)]):=by
 intro k
 induction k with
 |zero=>
  intro B τ st h _ MB;exact⟨τ,st,ig (hk _),Kp.refl _ _,by simpa using h,MB⟩
 |succ k ih=>
  intro B τ st h hl MB;refine cV (B7 n h (by exact uN) false p hp) λKx e1 k1 h1=>?_;refine yn (ih (B++[(false,p)]) [(106,.str (bH p))] Kx h1 (by simp;exact Q1 0x3e83111150401103e83151114001102 [_,_] hl rfl) (.inr ⟨_,rfl⟩)) λKU Kw e k' h' t'=>?_;refine⟨KU,Kw,?_,k1.trans k',by simpa [replicate_succ] using h',t'⟩
  have hb:aQ (MQ i l T sh p q r s it stay τ) (.nm 106) (.str (bH p))=some (MQ i l T sh p q r s it stay [(106,.str (bH p))]):=by
   rcases MB with rfl |⟨v,rfl⟩<;>rfl
  rw[replicate_succ];exact(bR (hk _) ((aR hb).trans ((ae (eJ (fc rfl (h.recv 34 rfl rfl) (e2 (wM st p hp rfl) rfl) e1) rfl)).trans bB))).trans e
theorem Km (n:Nat)(hr:1<=r/\r<=6){ok:St->Bool}(hk:∀ st,ok st=true):∀ (xs:List AV) (B:dK) (τ NQ:Loc) (st:St),Hd st i d l (bY B)->B.length+xs.length<=1000->(NQ=[]\/∃ v,NQ=[(106,v)])->(τ=NQ\/∃ v,τ=NQ++[(61,v)]) ->
  ∃ KU Kw,bc ok (bW ⟨run (n+2)⟩ (.nm 61) Jq) xs (MQ i l T sh p q r s it stay τ) st=some (.next,MQ i l T sh p q r s it stay KU,Kw)/\Kp [l] st Kw/\Hd Kw i d l (bY (B++replicate xs.length (true,r))):=by
 intro xs
 induction xs with
 |nil=>
  intro B τ NQ st h _ _ MB;exact⟨τ,st,ig (hk _),Kp.refl _ _,by simpa using h⟩
 |cons x xs ih=>
  intro B τ NQ st h hl h0 MB;simp only[length_cons]at hl;refine cV (B7 n h (by exact uN) true r hr) λKx e1 k1 h1=>?_;refine cP (ih (B++[(true,r)]) (NQ++[(61,x)]) NQ Kx h1 (by simp;exact Q1 0x3e83111150401103e83151114001102 [_,_] hl rfl) h0 (.inr ⟨_,rfl⟩)) λKU Kw e k' h'=>?_;refine⟨KU,Kw,?_,k1.trans k',by simpa [replicate_succ] using h'⟩
  have hb:aQ (MQ i l T sh p q r s it stay τ) (.nm 61) x=some (MQ i l T sh p q r s it stay (NQ++[(61,x)])):=by
   rcases h0 with rfl |⟨v,rfl⟩<;>rcases MB with rfl |⟨v,rfl⟩<;>rfl
  have m1:aK .Mult (.str [32]) (.int r)=some (.str (replicate r 32)):=by
   have:-1000<=(r:Int)/\(r:Int)<=1000:=JQ (by first |exact hr.2 |exact And.right (by assumption));exact if_pos this
  have m2:aK .Add (.str (replicate r 32)) (.str [9])=some (.str (bH r)):=by
   have:(replicate r 32).length+[9].length<=1000000:=by simp;exact uT
   exact if_pos this
  exact(bR (hk _) ((aR hb).trans ((ae (eJ (fc rfl (h.recv 34 rfl rfl) (e2 (wL st r hr rfl) (aj (aj rfl rfl m1) rfl m2)) e1) rfl)).trans bB))).trans e
end
noncomputable def cnt (B:dK)(z:Nat):Nat:=(cj B).count z
noncomputable def hG (B:dK)(p q r s:Nat):dK:=(B.filter λx=>!decide (x.2=p))++replicate (cnt B p-q) (false,p)++replicate s (true,r)
theorem wO (B:dK)(p:Nat):(B.filter λx=>decide (x.2=p)).map (λx=>AV.str (bH x.2))=replicate (cnt B p) (.str (bH p)):=by
 induction B with
 |nil=>rfl
 |cons x B ih=>
  by_cases h:x.2=p
  ·rw[filter_cons_of_pos (by simpa using h),map_cons,ih,h];simp[cnt,cj,h,replicate_succ]
  ·rw[filter_cons_of_neg (by simpa using h),ih];simp[cnt,cj,h]
theorem pP {B:dK}(hB:lL B)(p:Nat)(hp:1<=p/\p<=6)(b:Bool)(c:Bool):((bY B).filter λx=>(c ^^ decide (aG x.1=aG (fC (b,p)))))=bY (B.filter λx=>(c ^^ decide (x.2=p))):=by
 rw[bY,List.filter_map,bY];congr 1;apply filter_congr;intro x hx;simp only[Function.comp];rw[(gO x.1 x.2 (hB.2 x hx)).2,(gO b p hp).2];congr 2;simp
theorem B8 (B:dK)(p:Nat):cnt B p<=B.length:=by
 have:=List.count_le_length (a:=p) (l:=cj B);simpa [cnt,cj] using this
theorem im (B:dK)(p:Nat):(B.filter λx=>!decide (x.2=p)).length+cnt B p=B.length:=by
 induction B with
 |nil=>rfl
 |cons x B ih=>
  by_cases h:x.2=p
  ·rw[filter_cons_of_neg (by simpa using h)];simp only[cnt,cj,map_cons,length_cons,h,count_cons_self]at ih ⊢;exact le_antisymm (Q1 0x65401111116011150401102 [_,_,_] ih rfl) (Q1 0x46501121116050111401102 [_,_,_] ih rfl)
  ·rw[filter_cons_of_pos (by simpa using h)];have:List.count p (x.2::cj B)=List.count p (cj B):=count_cons_of_ne h;simp only[cnt,cj,map_cons,length_cons]at ih this ⊢;exact le_antisymm (Q2 0x7511167401111116051114001103 [_,_,_,_] ih this rfl) (Q2 0x7611247501126111500111401103 [_,_,_,_] ih this rfl)
theorem uz {B:dK}(hB:lL B){p q r s:Nat}(hp:1<=p/\p<=6)(hr:1<=r/\r<=6)(h:B.length+s<=1000):lL (hG B p q r s):=by
 have hf:=im B p;refine⟨by simp only[hG,length_append,length_replicate];exact Q3 0x8511078401113e8316701103e831654001104 [_,_,_,_,_] h hf (sub_le _ _) rfl,λx hx=>?_⟩;simp only[hG,mem_append,mem_filter]at hx;rcases hx with (hx |hx) |hx
 ·exact hB.2 x hx.1
 ·rw[eq_of_mem_replicate hx];exact hp
 ·rw[eq_of_mem_replicate hx];exact hr
theorem uA (B:dK)(p q r s:Nat)(hq:q<=cnt B p):(hG B p q r s).length+q=B.length+s:=by
 have hf:=im B p;simp only[hG,length_append,length_replicate];exact le_antisymm (Q2 0x9750111894011168076540001103 [_,_,_,_,_,_] hf (sub_add_cancel (Q1 0x54110541102 [_,_] hq rfl)) rfl) (Q2 0x9870112496011285760005401103 [_,_,_,_,_,_] hf (sub_add_cancel (Q1 0x54110541102 [_,_] hq rfl)) rfl)
theorem uB (B:dK)(p q r s:Nat)(k:Nat):cnt (hG B p q r s) k=(if k=p then cnt B p-q else cnt B k)+(if k=r then s else 0):=by
 have h1:cnt (B.filter λx=>!decide (x.2=p)) k=if k=p then 0 else cnt B k:=by
  induction B with
  |nil=>simp[cnt,cj]
  |cons x B ih=>
   by_cases h:x.2=p
   ·rw[filter_cons_of_neg (by simpa using h),ih];split
    ·rfl
    ·rename_i q;simp only[cnt,cj,map_cons];rw[count_cons_of_ne (by lia)]
   ·rw[filter_cons_of_pos (by simpa using h)];simp only[cnt,cj,map_cons,count_cons]at ih ⊢;rw[ih];by_cases hk:k=p
    ·subst hk;simp[h]
    ·simp[hk]
 have h2:∀ (n z:Nat) (b:Bool),(cj (replicate n (b,z))).count k=if k=z then n else 0:=by
  intro n z b;simp only[cj,List.map_replicate,List.count_replicate];by_cases h:k=z
  ·subst h;simp
  ·have:¬ z=k:=λe=>h e.symm;simp[h,this]
 simp only[cnt,hG,cj,map_append,count_append]at h1 h2 ⊢;rw[h1,h2,h2];by_cases h:k=p
 ·subst h;simp
 ·simp[h]
theorem EP (n:Nat)(a:List AV)(st:St):run (n+1) 8 a st=bE (run n) [101,102,103] b8 a st:=rfl
noncomputable def io (p q r s sh:Nat):List Nat:=bM (p+8*sh)++(bM (q+8*sh)++(bM (r+8*sh)++bM (s+8*sh)))
theorem wP (m:Nat):∃ x∈bM m,x<64:=⟨m%64,by simp[bM],by exact Ha⟩
theorem wQ:∀ (d m:Nat),m<64^(d+1)->(pE m).length<=d:=by
 intro d
 induction d with
 |zero=>
  intro m h;exact le_of_eq (congrArg List.length (gM h))
 |succ d ih=>
  intro m h;by_cases q:m<64
  ·rw[gM q];exact zero_le _
  ·rw[j7 q,length_append];exact succ_le_succ (ih (m/64) (by rw[pow_succ]at h;exact Q2 0x67440220111540231116011051114040203 [_,_,_,_] h (div_add_mod _ _) rfl))
theorem eO {m:Nat}(h:m<262144):(bM m).length<=3:=by
 have:=wQ 2 m (by exact bz);simp[bM];exact bz
theorem HZ (n it m:Nat)(rest:List Nat){st:St}(hi:st[it]?=some (.iter (cf (bM m++rest))))(hm:m<262144)(hr:rest.length<900)(Nc:∀ x∈rest,x<128):run (n+1) 19 [.obj it] st=some (.int m,st.set it (.iter (cf rest))):=by
 have:=eO hm;refine EG n it (bM m++rest) m rest st ?_ ?_ (y9 m rest) (by exact bN) (by simp;exact J4) hi
 ·intro x hx;simp only[mem_append]at hx;rcases hx with h |h
  ·exact nJ m x h
  ·exact Nc x h
 ·refine ak (wP m) λx h1 h2=>?_;exact⟨x,by simp[h1],h2⟩
theorem H0 {C:jN}{σ:Loc}{st Kx Ky K4:St}{o i:E}{ov iv v:AV}(h1:aa ⟨C⟩ o σ st=some (ov,Kx))(h2:aa ⟨C⟩ i σ Kx=some (iv,Ky))(h3:dt Ky 31 ov=true)(h4:C 31 [ov,iv] Ky=some (v,K4)):xS ⟨C⟩ (.del o i) σ st=some (.next,σ,K4):=jE h1 (jE h2 ((if_pos h3).trans (jE h4 rfl)))
theorem nM (p q r s sh:Nat):∀ x∈io p q r s sh,x<128:=by
 intro x hx;simp only[io,mem_append]at hx;rcases hx with h |h |h |h<;>exact nJ _ x h
theorem EQ {B:dK}(hB:lL B)(p:Nat)(hp:1<=p/\p<=6)(b:Bool):((bY B).filter λx=>decide (aG x.1=aG (fC (b,p))))=bY (B.filter λx=>decide (x.2=p)):=by
 have:=pP hB p hp b false;simpa using this
theorem ER {B:dK}(hB:lL B)(p:Nat)(hp:1<=p/\p<=6)(b:Bool):((bY B).filter λx=>!decide (aG x.1=aG (fC (b,p))))=bY (B.filter λx=>!decide (x.2=p)):=by
 have:=pP hB p hp b true;simpa using this
theorem sT (n it sh:Nat){X:Cx}(hX:X=⟨run (n+1)⟩)(K8:sh<5000)(p:Nat)(hp:p<=100)(rest:List Nat){st:St}(k:AV)(hi:st[it]?=some (.iter (cf (bM (p+8*sh)++rest))))(hr:rest.length<900)(Nc:∀ x∈rest,x<128){σ:Loc}(hσ:aX σ [104,103]=[(103,.int sh),(104,.obj it)]) :
  jx X (.b .Sub (.call 19 [.l 104]) (.b .Mult (.int 8) (.l 103))) (.nm 61) [] (aX σ [104,103]) k st=some ([.int p],st.set it (.iter (cf rest))):=by
 subst hX;rw[hσ];have e:=HZ n it (p+8*sh) rest hi (by exact DA) hr Nc;have m:aK .Mult (.int 8) (.int sh)=some (.int (8*sh)):=mul_int (by decide)
 have s:aK .Sub (.int ((p+8*sh:Nat):Int)) (.int (8*sh))=some (.int p):=by
  refine congrArg (λx=>some (AV.int x)) ?_;lia
 exact lK rfl (aj (be (P.e1 rfl) e) (aj rfl rfl m) s)
theorem H1 (n:Nat){i d l:Nat}{B:dK}{st:St}(h:Hd st i d l (bY B))(hB:lL B)(hl:B.length<=300){p q r s sh:Nat}(hp:1<=p/\p<=6)(hr:1<=r/\r<=6)(hq:q<=100)(hs:s<=100)(K8:sh<5000)(hc:q<=cnt B p) :
  ∃ Kw,run (n+3) 8 [.obj i,.str ((io p q r s sh).map iQ),.int sh] st=some (.none,Kw)/\Kp [l] st Kw/\Hd Kw i d l (bY (hG B p q r s)):=by
 let X:Cx:=⟨run (n+2)⟩;let T:=(io p q r s sh).map iQ;let it:=st.length;have lw:(bM (p+8*sh)).length<=3:=eO (by exact Q2 0x138841111508106114110400005111158124001103 [_,_] hp.2 K8 rfl);have lq:(bM (q+8*sh)).length<=3:=eO (by exact Q2 0x1388411115081064214110400005111158124001103 [_,_] hq K8 rfl);have lr:(bM (r+8*sh)).length<=3:=eO (by exact Q2 0x138841111508106114110400005111158124001103 [_,_] hr.2 K8 rfl);have ls:(bM (s+8*sh)).length<=3:=eO (by exact DA);have lT:T.length<=12:=by simp only[T,io,length_map,length_append];exact Q4 0x3117110311611031151103114110c1176050401105 [_,_,_,_] lw lq lr ls rfl
 let KC:Loc:=[(101,.obj i),(102,.str T),(103,.int sh),(104,.obj it)];let s1:St:=st++[.iter (cf (io p q r s sh))]
 have x1:aa X (.bi .iter [.new false (.comp (.bi .ord [.l 189]) (.nm 189) (.l 102) [] [])]) [(101,.obj i),(102,.str T),(103,.int sh)] st=some (.obj it,s1):=by
  refine dq (vs:=[.lst (cf (io p q r s sh))]) (Kx:=st) (P.e1 (aH (bS (v:=.str T) (xs:=jR T) rfl rfl (by simp only[jR,length_map];exact bN) ?_))) rfl;rw[show cf (io p q r s sh)=T.map λc:Nat=>AV.int c by simp[cf,T,Function.comp_def]];exact aD (λc=>.str [c]) (λc:Nat=>.int c) rfl T λc _=>lK rfl (dq (P.e1 rfl) rfl)
 have g1:s1[it]?=some (.iter (cf (io p q r s sh))):=aS _ _;have k1:Kp [] st s1:=Kp.app _ _ _;let s2:St:=s1.set it (.iter (cf (bM (q+8*sh)++(bM (r+8*sh)++bM (s+8*sh)))));let s3:St:=s2.set it (.iter (cf (bM (r+8*sh)++bM (s+8*sh))));let s4:St:=s3.set it (.iter (cf (bM (s+8*sh)++[])));let s5:St:=s4.set it (.iter (cf []));have g2:s2[it]?=some (.iter (cf (bM (q+8*sh)++(bM (r+8*sh)++bM (s+8*sh))))):=getElem?_set_self (al g1);have g3:s3[it]?=some (.iter (cf (bM (r+8*sh)++bM (s+8*sh)))):=getElem?_set_self (al g2);have g4:s4[it]?=some (.iter (cf (bM (s+8*sh)++[]))):=getElem?_set_self (al g3)
 have k5:Kp [] st s5:=⟨by simp[s5,s4,s3,s2,s1],λj hj _=>by
  have LO:it≠j:=by simp only[it];exact qi
  show((((s1.set it _).set it _).set it _).set it _)[j]?=_;rw[getElem?_set_ne LO,getElem?_set_ne LO,getElem?_set_ne LO,getElem?_set_ne LO]
  exact getElem?_append_left hj⟩
 have x2:aa X (.new false (.comp (.b .Sub (.call 19 [.l 104]) (.b .Mult (.int 8) (.l 103))) (.nm 61) (.bi .range1 [.int 4]) [] [104,103])) KC s1=some (.lst [.int p,.int q,.int r,.int s],s5):=by
  refine aH (bS (dq (P.e1 rfl) (aZ 4 (by decide))) (aL 4 (by decide)) (by decide) ?_);have ok:∀ t,an t (.rng 0 (4:Nat)) ((List.range 4).map λk:Nat=>AV.int k)=true:=λ_=>rfl;refine fQ (ys:=[.int p]) (ok _) (sT (n+1) it sh rfl K8 p (by exact uT) (bM (q+8*sh)++(bM (r+8*sh)++bM (s+8*sh))) _ g1 (by simp only[length_append];exact Q3 0x311611031151103114110384311116504001104 [_,_,_] lq lr ls rfl) (λx hx=>?_) rfl) ?_
  ·exact nM p q r s sh x (by rw[io];exact mem_append_right _ hx)
  refine fQ (ys:=[.int q]) (ok _) (sT (n+1) it sh rfl K8 q (by exact bz) (bM (r+8*sh)++bM (s+8*sh)) _ g2 (by simp only[length_append];exact G8) (λx hx=>?_) rfl) ?_
  ·exact nM p q r s sh x (by rw[io];exact mem_append_right _ (mem_append_right _ hx))
  refine fQ (ys:=[.int r]) (ok _) (sT (n+1) it sh rfl K8 r (by exact uT) (bM (s+8*sh)++[]) _ (by rw[append_nil];exact g3) (by simp only[length_append,length_nil];exact dW) (λx hx=>?_) rfl) ?_
  ·exact nJ _ x (by simpa using hx)
  exact fQ (ys:=[.int s]) (ok _) (sT (n+1) it sh rfl K8 s (by exact bz) [] _ g4 (by decide) (by simp) rfl) (wK (ok _))
 have h5:Hd s5 i d l (bY B):=h.mono k5 (by simp) (by simp) (by simp);have oH:=nL hB;let stay:List AV:=replicate (cnt B p-q) (.str (bH p))
 have v3:run (n+2) 30 [.obj i,.str (fC (true,p))] s5=some (.lst (replicate (cnt B p) (.str (bH p))),s5):=by
  rw[Ay (n:=n) h5 oH (gO true p hp).1,EQ hB p hp true,← wO B p];simp[bY];rfl
 have NZ:=B8 B p
 have v4:run (n+2) 31 [.obj i,.str (fC (false,p))] s5=some (.none,s5.set l (.list ((bY (B.filter λx=>!decide (x.2=p))).map gZ))):=by
  rw[EH (n:=n) h5 oH (gO false p hp).1,ER hB p hp false]
 let s6:St:=s5.set l (.list ((bY (B.filter λx=>!decide (x.2=p))).map gZ));have h6:Hd s6 i d l (bY (B.filter λx=>!decide (x.2=p))):=h5.setL;have Rb:=im B p;refine yn (Kl (T:=T) (sh:=sh) (q:=q) (r:=r) (s:=s) (it:=it) (stay:=stay) n hp (ok:=λst=>an st (.lst stay) stay) (λ_=>rfl) (cnt B p-q) (B.filter λx=>!decide (x.2=p)) [] s6 h6 (by exact Q3 0x75110674011112c3161103e8315401104 [_,_,_,_] hl Rb (sub_le _ _) rfl) (.inl rfl)) λOz s7 e7 k7 h7 t7=>?_;refine cP (Km (T:=T) (sh:=sh) (p:=p) (q:=q) (s:=s) (it:=it) (stay:=stay) n hr (ok:=λst=>an st (.rng 0 s) ((List.range s).map λk:Nat=>AV.int k)) (λ_=>rfl) ((List.range s).map λk:Nat=>AV.int k) _ Oz Oz s7 h7 (by simp;exact Q4 0x8511078401116421611012c3171103e831654001105 [_,_,_,_,_] hl hs Rb (sub_le _ _) rfl) t7 (.inl rfl)) λτ8 s8 e8 k8 h8=>?_;refine⟨s8,?_,((k5.more (by simp)).trans (Kp.set (by simp) _ _)).trans (k7.trans k8),by simpa [hG] using h8⟩;rw[EP];refine wi rfl (KC:=MQ i l T sh p q r s it stay τ8) ?_;rw[EO];refine(ae (aE x1 rfl)).trans ?_;refine(ae (aE x2 rfl)).trans ?_;refine(ae (aE (v:=.lst stay) (Kx:=s5) (aH ?_) rfl)).trans ?_
 ·rw[show stay=(replicate (cnt B p) (AV.str (bH p))).drop q by simp[stay]];exact EN (fc rfl (h5.recv 30 rfl rfl) (P.e1 (wL s5 p hp rfl)) v3) rfl rfl (by exact Q1 0x64214110f424051111401102 [_] hq rfl) (by simp;exact yt)
 refine(ae (Kx:=s6) (H0 rfl (wM s5 p hp rfl) (h5.recv 31 rfl rfl) v4)).trans ?_;refine(ae (fy (v:=.lst stay) (xs:=stay) rfl rfl e7)).trans ?_;exact(ae (fy (dq (P.e1 rfl) (aZ s (by exact dW))) (aL s (by exact dW)) e8)).trans bB
noncomputable def fl (i:Nat):Int:=(1:Int)*2^i
noncomputable def bv (i:Nat):List Nat:=(n9 (fl i)).getD []
noncomputable def pQ:List Nat->Int->List (List Nat)->Option (List (List Nat))
 |[],_,_=>none
 |i::is,f,ns=>if Builtin.bitAnd f (fl i)=0 then pQ is f ns else if Builtin.bitXor f (fl i)=0 then some (ns++[bv i]) else pQ is (Builtin.bitXor f (fl i)) (ns++[bv i])
theorem wR:∀ i:Fin 32,n9 (fl i.val)=some (bv i.val):=by decide +kernel
noncomputable def uC (low:Nat)(js:List Nat):Int:=(js.map λk=>fl (low+k)).sum
noncomputable def gU:List (List Nat):=[[0],[1],[2],[0,1],[0,2],[1,2],[0,1,2]]
theorem AB:∀ low:Fin 30,∀ js∈gU,pQ (List.range 32) (uC low.val js) []=some (js.map λk=>bv (low.val+k)):=by decide +kernel
abbrev ej (low:Nat)(js:List Nat):Prop:=(Txt.split ⟨(eX [44,32] (js.map λk=>bv (low+k))).toArray⟩ ⟨[44,32].toArray⟩).map (λx=>x.cps.toList)=js.map λk=>bv (low+k)
theorem zd:∀ r:Fin 5,∀ js∈gU,ej (r.val+5*0) js:=by decide +kernel
theorem ze:∀ r:Fin 5,∀ js∈gU,ej (r.val+5*1) js:=by decide +kernel
theorem zf:∀ r:Fin 5,∀ js∈gU,ej (r.val+5*2) js:=by decide +kernel
theorem zg:∀ r:Fin 5,∀ js∈gU,ej (r.val+5*3) js:=by decide +kernel
theorem zh:∀ r:Fin 5,∀ js∈gU,ej (r.val+5*4) js:=by decide +kernel
theorem zi:∀ r:Fin 5,∀ js∈gU,ej (r.val+5*5) js:=by decide +kernel
theorem zj:∀ q:Nat,q<6->∀ r:Fin 5,∀ js∈gU,ej (r.val+5*q) js
 |0,_=>zd
 |1,_=>ze
 |2,_=>zf
 |3,_=>zg
 |4,_=>zh
 |5,_=>zi
 |n+6,h=>absurd h (not_lt_of_le (le_add_left 6 n))
theorem wS (low:Fin 30)(js:List Nat)(h:js∈gU):ej low.val js:=
 Eq.subst (motive:=λn=>ej n js) (Nat.mod_add_div low.val 5) (zj (low.val/5) (Nat.div_lt_of_lt_mul low.isLt) ⟨low.val%5,mod_lt _ (by decide)⟩ js h)
theorem H2:lM 0=[48,120,48]:=by decide +kernel
noncomputable def AC:List Nat:=[79,80,84,73,77,73,90,69,68,32,78,69,87,76,79,67,65,76,83,32,86,65,82,65,82,71,83,32,86,65,82,75,69,89,87,79,82,68,83,32,78,69,83,84,69,68,32,71,69,78,69,82,65,84,79,82,32,78,79,70,82,69,69,32,67,79,82,79,85,84,73,78,69,32,73,84,69,82,65,66,76,69,95,67,79,82,79,85,84,73,78,69,32,65,83,89,78,67,95,71,69,78,69,82,65,84,79,82]
theorem B9:(Txt.split ⟨AC.toArray⟩ ⟨[32].toArray⟩).map (λx=>x.cps.toList)=(List.range 10).map bv:=by decide +kernel
noncomputable def Kn (k:Nat):List Nat:=[48,120]++[([49,50,52,56]:List Nat).getD (k%4) 0]++replicate (k/4) 48
theorem ES:∀ k:Fin 32,10<=k.val->Kn k.val=bv k.val:=by decide +kernel
theorem ff:∀ k:Fin 32,eW (bv k.val)=true/\(bv k.val).length<=100/\d8 true (bv k.val)=true/\d8 true (aG (bv k.val))=true/\eW ((bv k.val).map ye)=true/\d8 true ((bv k.val).map ye)=true/\aG ((bv k.val).map ye)=aG (bv k.val)/\aG (aG (bv k.val))=aG (bv k.val)/\eW (aG (bv k.val))=true:=by decide +kernel
theorem nm_inj:∀ a b:Fin 32,aG (bv a.val)=aG (bv b.val)->a.val=b.val:=by decide +kernel
theorem zk (i:Nat)(h:i<32):aK .LShift (.int 1) (.int i)=some (.int (fl i)):=by
 have h1:intBits 1=1:=rfl;have:0<=(i:Int)/\(intBits 1:Int)+i<=134217728:=by rw[h1];lia
 have e:aK .LShift (.int 1) (.int i)=if 0<=(i:Int)/\(intBits 1:Int)+i<=2^27 then some (.int (1*2^(i:Int).toNat)) else none:=rfl
 rw[e,EF,if_pos this];rfl
theorem ET {X:Cx}{σ:Loc}{st:St}{x:Nat}{i:Int}{s:List Nat}(h:af σ x=some (.int i))(h2:n9 i=some s):aa X (.flag x) σ st=some (.str s,st):=jA h (congrArg (Option.map λs=>(AV.str s,st)) h2)
theorem pR {st:St}{c:Nat}{ns:List (List Nat)}{sep:List Nat}(h:st[c]?=some (.list (ns.map .str)))(h2:(ns.map List.length).sum+ns.length*sep.length<=1000000):jM st .join (.str sep) [.obj c]=some (.str (eX sep ns),st):=jV (mH h) (jW (pB _) (if_pos h2))
theorem wT (n:Nat)(a:List AV)(st:St):run (n+1) 18 a st=bE (run n) [81] HI a st:=rfl
noncomputable def H3:List S:=[.expr (.sm .append (.l 82) [.flag 149]),.aug 81 .BitXor (.l 149),.iff (.not (.val (.l 81))) [.brk] []]
noncomputable def H4:List S:=[.asg (.nm 149) (.b .LShift (.int 1) (.l 83)),.iff (.val (.b .BitAnd (.l 81) (.l 149))) H3 []]
theorem wU:HI=[.asg (.nm 82) (.new true (.list [])),.for (.nm 83) (.bi .range1 [.int 32]) H4 [.expr (.sm .append (.l 82) [.bi .hex [.l 81]])],.ret (.sm .join (.str [44,32]) [.l 82])]:=rfl
noncomputable def LQ (f:Int)(c:Nat)(τ:Loc):Loc:=(81,.int f)::(82,.obj c)::τ
noncomputable def Rc (τ:Loc):Prop:=τ=[]\/∃ u v,τ=[(83,u),(149,v)]
theorem fD (st:St)(i:Int):fH st (.int i)=some (!(i==0)):=rfl
theorem Ko (n:Nat){ok:St->Bool}(hk:∀ st,ok st=true)(c:Nat)(res:List (List Nat)):∀ (is:List Nat) (f:Int) (ns:List (List Nat)) (τ:Loc) (st:St),(∀ i∈is,i<32)->Rc τ->st[c]?=some (.list (ns.map .str))->ns.length+is.length<=1000->pQ is f ns=some res ->
  ∃ f' KU,bc ok (bW ⟨run n⟩ (.nm 83) H4) (is.map λk:Nat=>AV.int k) (LQ f c τ) st=some (.brk,LQ f' c KU,st.set c (.list (res.map .str))):=by
 intro is
 induction is with
 |nil=>
  intro f ns τ st _ _ _ _ h;exact absurd h bg
 |cons i is ih=>
  intro f ns τ st hi MB hc hl h;have PH:i<32:=hi i (by simp);have hb:aQ (LQ f c τ) (.nm 83) (.int i)=some (LQ f c (ai τ 83 (.int i))):=rfl
  have O5:∃ KZ,aQ (LQ f c (ai τ 83 (.int i))) (.nm 149) (.int (fl i))=some (LQ f c [(83,.int i),(149,.int (fl i))])/\KZ=ai τ 83 (.int i)/\af (LQ f c (ai τ 83 (.int i))) 83=some (.int i):=by
   rcases MB with rfl |⟨u,v,rfl⟩<;>exact⟨_,rfl,rfl,rfl⟩
  refine cV O5 ?_;clear O5;rintro _ Nu-hg
  have a1:xS ⟨run n⟩ (.asg (.nm 149) (.b .LShift (.int 1) (.l 83))) (LQ f c (ai τ 83 (.int i))) st=some (.next,LQ f c [(83,.int i),(149,.int (fl i))],st):=
   aE (aj rfl (Ez hg) (zk i PH)) Nu
  rw[show pQ (i::is) f ns=if Builtin.bitAnd f (fl i)=0 then pQ is f ns else if Builtin.bitXor f (fl i)=0 then some (ns++[bv i]) else pQ is (Builtin.bitXor f (fl i)) (ns++[bv i]) from rfl]at h;have hand:aa ⟨run n⟩ (.b .BitAnd (.l 81) (.l 149)) (LQ f c [(83,.int i),(149,.int (fl i))]) st=some (.int (Builtin.bitAnd f (fl i)),st):=aj rfl rfl rfl;by_cases q:Builtin.bitAnd f (fl i)=0
  ·rw[if_pos q]at h;refine n6 (ih f ns [(83,.int i),(149,.int (fl i))] st (λx hx=>hi x (by simp[hx])) (.inr ⟨_,_,rfl⟩) hc (by simp at hl;exact Gj) h) λf' KU e=>?_;refine⟨f',KU,?_⟩;rw[map_cons];refine(bR (hk _) ((aR hb).trans ((ae a1).trans ((ae (bG (fk hand ?_))).trans bB)))).trans e;rw[fD,q];rfl
  ·rw[if_neg q]at h
   have ht:fH st (.int (Builtin.bitAnd f (fl i)))=some true:=by
    rw[fD];simp[q]
   have a2:jM st .append (.obj c) [.str (bv i)]=some (.none,st.set c (.list ((ns++[bv i]).map .str))):=by
    rw[cZ hc (by rw[length_map];exact Q1 0x3e831540110f424051111401102 [_,_] hl rfl),map_append];rfl
   have NR:(st.set c (.list ((ns++[bv i]).map .str)))[c]?=some (.list ((ns++[bv i]).map .str)):=getElem?_set_self (al hc)
   have x2:xS ⟨run n⟩ (.expr (.sm .append (.l 82) [.flag 149])) (LQ f c [(83,.int i),(149,.int (fl i))]) st=some (.next,LQ f c [(83,.int i),(149,.int (fl i))],st.set c (.list ((ns++[bv i]).map .str))):=
    eJ (gY rfl (cT hc) (P.e1 (ET rfl (wR ⟨i,PH⟩))) a2) rfl
   have x3:xS ⟨run n⟩ (.aug 81 .BitXor (.l 149)) (LQ f c [(83,.int i),(149,.int (fl i))]) (st.set c (.list ((ns++[bv i]).map .str)))=some (.next,LQ (Builtin.bitXor f (fl i)) c [(83,.int i),(149,.int (fl i))],st.set c (.list ((ns++[bv i]).map .str))):=
    jQ rfl rfl (cC rfl)
   by_cases q2:Builtin.bitXor f (fl i)=0
   ·rw[if_pos q2]at h;cases h;refine⟨Builtin.bitXor f (fl i),[(83,.int i),(149,.int (fl i))],?_⟩;rw[map_cons];refine Eo (hk _) ((aR hb).trans ((ae a1).trans (uk ((dO (fk hand ht)).trans ((ae x2).trans ((ae x3).trans (uk ((dO (c:=.not (.val (.l 81))) (Ep (v:=false) (fk rfl ?_))).trans (uk ?_)))))))))
    ·rw[fD,q2];rfl
    ·rfl
   ·rw[if_neg q2]at h;refine n6 (ih (Builtin.bitXor f (fl i)) (ns++[bv i]) [(83,.int i),(149,.int (fl i))] (st.set c (.list ((ns++[bv i]).map .str))) (λx hx=>hi x (by simp[hx])) (.inr ⟨_,_,rfl⟩) NR (by simp at hl ⊢;exact Q1 0x3e83111150401103e83151114001102 [_,_] hl rfl) h) λf' KU e=>?_;refine⟨f',KU,?_⟩;rw[set_set]at e;rw[map_cons];refine(bR (hk _) ((aR hb).trans ((ae a1).trans ((ae ((dO (fk hand ht)).trans ((ae x2).trans ((ae x3).trans ((ae (bG (Ep (v:=true) (fk rfl ?_)))).trans bB))))).trans bB)))).trans e;rw[fD];simp[q2]
theorem H5 (n:Nat){ok:St->Bool}(hk:∀ st,ok st=true)(c:Nat)(st:St):∀ (is:List Nat) (τ:Loc),(∀ i∈is,i<32)->Rc τ ->
  ∃ KU,bc ok (bW ⟨run n⟩ (.nm 83) H4) (is.map λk:Nat=>AV.int k) (LQ 0 c τ) st=some (.next,LQ 0 c KU,st):=by
 intro is
 induction is with
 |nil=>
  intro τ _ _;exact⟨τ,ig (hk _)⟩
 |cons i is ih=>
  intro τ hi MB;have PH:i<32:=hi i (by simp);have hb:aQ (LQ 0 c τ) (.nm 83) (.int i)=some (LQ 0 c (ai τ 83 (.int i))):=rfl
  have O5:aQ (LQ 0 c (ai τ 83 (.int i))) (.nm 149) (.int (fl i))=some (LQ 0 c [(83,.int i),(149,.int (fl i))])/\af (LQ 0 c (ai τ 83 (.int i))) 83=some (.int i):=by
   rcases MB with rfl |⟨u,v,rfl⟩<;>exact⟨rfl,rfl⟩
  refine av O5 ?_;clear O5;intro Nu hg
  have a1:xS ⟨run n⟩ (.asg (.nm 149) (.b .LShift (.int 1) (.l 83))) (LQ 0 c (ai τ 83 (.int i))) st=some (.next,LQ 0 c [(83,.int i),(149,.int (fl i))],st):=
   aE (aj rfl (Ez hg) (zk i PH)) Nu
  have hand:aa ⟨run n⟩ (.b .BitAnd (.l 81) (.l 149)) (LQ 0 c [(83,.int i),(149,.int (fl i))]) st=some (.int (Builtin.bitAnd 0 (fl i)),st):=aj rfl rfl rfl;refine aw (ih [(83,.int i),(149,.int (fl i))] (λx hx=>hi x (by simp[hx])) (.inr ⟨_,_,rfl⟩)) λKU e=>?_;refine⟨KU,?_⟩;rw[map_cons];refine(bR (hk _) ((aR hb).trans ((ae a1).trans ((ae (bG (fk hand ?_))).trans bB)))).trans e
  have:Builtin.bitAnd 0 (fl i)=0:=by
   have e:fl i=((2^i:Nat):Int):=by simp[fl]
   rw[e];have:=dI 0 (2^i);simpa using this
  rw[fD,this];rfl
theorem AD (n:Nat)(f:Int)(res:List (List Nat))(st:St)(h:pQ (List.range 32) f []=some res)(hl:(res.map List.length).sum+res.length*2<=1000000):∃ Kw,run (n+1) 18 [.int f] st=some (.str (eX [44,32] res),Kw)/\Kp [] st Kw:=by
 have hc:(st++[AO.list []])[st.length]?=some (.list (([]:List (List Nat)).map .str)):=aS _ _;refine n6 (Ko n (ok:=λst=>an st (.rng 0 (32:Nat)) ((List.range 32).map λk:Nat=>AV.int k)) (λ_=>rfl) st.length res (List.range 32) f [] [] (st++[.list []]) (λi hi=>mem_range.mp hi) (.inl rfl) hc (by simp) h) λf' KU e=>?_;have NR:((st++[AO.list []]).set st.length (.list (res.map .str)))[st.length]?=some (.list (res.map .str)):=getElem?_set_self (by simp);refine⟨(st++[AO.list []]).set st.length (.list (res.map .str)),?_,⟨by simp,λj hj _=>by rw[getElem?_set_ne (by exact qi),getElem?_append_left hj]⟩⟩;rw[wT,wU];refine bT rfl ((ae (aE (eK (cK dn)) rfl)).trans ((ae (Au (dq (P.e1 rfl) (aZ 32 (by decide))) (aL 32 (by decide)) e)).trans (cy (sR (gY rfl rfl (P.e1 rfl) (pR NR hl))))))
theorem Ca (n:Nat)(st:St):∃ Kw,run (n+1) 18 [.int 0] st=some (.str [48,120,48],Kw)/\Kp [] st Kw:=by
 have hc:(st++[AO.list []])[st.length]?=some (.list []):=aS _ _;refine aw (H5 n (ok:=λst=>an st (.rng 0 (32:Nat)) ((List.range 32).map λk:Nat=>AV.int k)) (λ_=>rfl) st.length (st++[.list []]) (List.range 32) [] (λi hi=>mem_range.mp hi) (.inl rfl)) λKU e=>?_;have NR:((st++[AO.list []]).set st.length (.list ([[48,120,48]].map .str)))[st.length]?=some (.list ([[48,120,48]].map .str)):=getElem?_set_self (by simp)
 have hx:gA (st++[.list []]) .hex [.int 0]=some (.str [48,120,48],st++[.list []]):=by
  show(if (lM 0).length<=1000 then some (AV.str (lM 0),_) else none)=_;rw[H2];rfl
 refine⟨(st++[AO.list []]).set st.length (.list ([[48,120,48]].map .str)),?_,⟨by simp,λj hj _=>by rw[getElem?_set_ne (by exact qi),getElem?_append_left hj]⟩⟩;rw[wT,wU];refine bT (σ:=[(81,.int 0)]) rfl ((ae (aE (eK (cK dn)) rfl)).trans ((ae ((HP (dq (P.e1 rfl) (aZ 32 (by decide))) (aL 32 (by decide)) e).trans ((ae (eJ (gY rfl (cT hc) (P.e1 (dq (P.e1 rfl) hx)) (cZ hc (by decide))) rfl)).trans bB))).trans (cy (sR (gY rfl rfl (P.e1 rfl) (pR NR (by decide)))))))
theorem EU (n:Nat)(a:List AV)(st:St):run (n+1) 1 a st=bE (run n) [88] b1 a st:=rfl
theorem rz {X:Cx}{σ:Loc}{st Kx Ky:St}{a b:E}{s p:List Nat}(h1:aa X a σ st=some (.str s,Kx))(h2:aa X b σ Kx=some (.str p,Ky))(h3:p.isEmpty=false)(h4:s.length<=1000){res:List (List Nat)}(h5:(Txt.split ⟨s.toArray⟩ ⟨p.toArray⟩).map (λx=>x.cps.toList)=res)(h6:res.length<=1000):du X (.split a b) σ st=some (res.map .str,Ky):=by
 have h7:(Txt.split ⟨s.toArray⟩ ⟨p.toArray⟩).length<=1000:=by rw[← h5,length_map]at h6;exact h6
 have:(p.isEmpty||decide (s.length>1000)||decide ((Txt.split ⟨s.toArray⟩ ⟨p.toArray⟩).length>1000))=false:=by
  rw[h3,decide_eq_false (by exact I7),decide_eq_false (by exact I7)];rfl
 exact jE h1 (jE h2 ((if_neg (λz=>LU (this.symm.trans z))).trans (by rw[← h5,map_map];rfl)))
theorem H6 (n k:Nat)(hk:k<32)(st:St):run (n+1) 1 [.int k] st=some (.str (bv k),st):=by
 rw[EU];refine bT (KC:=[(88,.int k),(89,.lst (((List.range 10).map bv).map .str))]) rfl ((ae (aE (aH (rz (s:=AC) rfl rfl rfl (by decide) B9 (by decide))) rfl)).trans ?_);by_cases q:k<10
 ·have hq:bJ st .Lt (.int k) (.int 10)=some true:=congrArg some (decide_eq_true (show(k:Int)<10 by omega))
  have hs:cB st (.lst (((List.range 10).map bv).map .str)) (.int k)=some (.str (bv k)):=by
   refine fP ?_ (by exact C8);rw[getElem?_map,getElem?_map,getElem?_range q];rfl
  exact cy (sR (mD (bF rfl rfl hq) (bX rfl rfl hs)))
 ·have hq:bJ st .Lt (.int k) (.int 10)=some false:=congrArg some (decide_eq_false (show ¬ (k:Int)<10 by lia))
  have m1:aK .Mod (.int k) (.int 4)=some (.int ((k%4:Nat):Int)):=by
   rw[dV (by decide),Int.fmod_eq_emod_of_nonneg _ (by exact jY)];rfl
  have d1:aK .FloorDiv (.int k) (.int 4)=some (.int ((k/4:Nat):Int)):=by
   rw[fO ⟨by decide,la (by decide)⟩,fdiv_eq_ediv_of_nonneg _ (by exact jY)];rfl
  have s1:cB st (.str [49,50,52,56]) (.int ((k%4:Nat):Int))=some (.str [([49,50,52,56]:List Nat).getD (k%4) 0]):=by
   have:k%4=0\/k%4=1\/k%4=2\/k%4=3:=by exact Gy
   rcases this with e |e |e |e<;>rw[e]<;>rfl
  have a1:aK .Add (.str [48,120]) (.str [([49,50,52,56]:List Nat).getD (k%4) 0])=some (.str ([48,120]++[([49,50,52,56]:List Nat).getD (k%4) 0])):=rfl
  have r1:aK .Mult (.str [48]) (.int ((k/4:Nat):Int))=some (.str (replicate (k/4) 48)):=by
   have:-1000<=((k/4:Nat):Int)/\((k/4:Nat):Int)<=1000:=⟨Int.le_trans (by decide) (natCast_nonneg _),ofNat_le.mpr (le_trans (div_le_self _ _) (le_trans (le_of_lt (by assumption:k<32)) (by decide)))⟩;exact if_pos this
  have a2:aK .Add (.str ([48,120]++[([49,50,52,56]:List Nat).getD (k%4) 0])) (.str (replicate (k/4) 48))=some (.str (bv k)):=by
   have:([48,120]++[([49,50,52,56]:List Nat).getD (k%4) 0]).length+(replicate (k/4) 48).length<=1000000:=by simp;exact Q2 0x5644120111202111150110f424051431104103 [_,_,_] hk (div_add_mod _ _) rfl
   have hn:=ES ⟨k,hk⟩ (show 10<=k by exact zY);exact Eq.trans (if_pos this) (by rw[← hn];rfl)
  exact cy (sR (sg (bF rfl rfl hq) (aj (aj rfl (bX rfl (aj rfl rfl m1) s1) a1) (aj rfl (aj rfl rfl d1) r1) a2)))
theorem wV {x y:Nat}(h:x≠y):Nat.beq x y=false:=by
 cases e:Nat.beq x y
 ·rfl
 ·exact absurd (Nat.eq_of_beq_eq_true e) h
theorem wW (x:Nat):Nat.beq x x=true:=Nat.beq_refl x
theorem ab (x:Nat)(v:AV):∀ (σ:Loc),af (ai σ x v) x=some v:=by
 intro σ
 induction σ with
 |nil=>
  simp[ai,af,wW]
 |cons LK r ih=>
  obtain⟨y,w⟩:=LK;rw[ai];by_cases h:Nat.beq y x=true
  ·simp[h,af]
  ·have h':Nat.beq y x=false:=eq_false_iff.mpr h;simp[h',af,ih]
theorem ag {x y:Nat}(v:AV)(h:y≠x):∀ (σ:Loc),af (ai σ y v) x=af σ x:=by
 intro σ
 induction σ with
 |nil=>
  simp[ai,af,wV h]
 |cons LK r ih=>
  obtain⟨z,w⟩:=LK;rw[ai];by_cases hz:Nat.beq z y=true
  ·have:=Nat.eq_of_beq_eq_true hz;subst this;simp[hz,af,wV h]
  ·have h':Nat.beq z y=false:=eq_false_iff.mpr hz;simp[h',af,ih]
theorem eC {x:Nat}{cap:List Nat}(h:cap.contains x=true):∀ (σ:Loc),af (aX σ cap) x=af σ x:=by
 intro σ
 induction σ with
 |nil=>
  exact rfl
 |cons LK r ih=>
  obtain⟨z,w⟩:=LK;unfold aX;by_cases hz:Nat.beq z x=true
  ·have:=Nat.eq_of_beq_eq_true hz;subst this;rw[filter_cons_of_pos (by simpa using h)];simp[af,hz]
  ·have h':Nat.beq z x=false:=eq_false_iff.mpr hz;have ih:=ih;unfold aX at ih;by_cases hc:cap.contains z=true
   ·rw[filter_cons_of_pos (by simpa using hc)];simp only[af,h',ih,if_false,reduceCtorEq]
   ·rw[filter_cons_of_neg (by simpa using hc),ih];simp only[af,h',if_false,reduceCtorEq]
theorem ay {X:Cx}{σ:Loc}{st:St}{x:Nat}{v:AV}(h:af σ x=some v):aa X (.l x) σ st=some (v,st):=Ez h
theorem gt {X:Cx}{σ:Loc}{st:St}{x y:Nat}{v w:AV}{cap:List Nat}(h:af σ x=some v)(hc:cap.contains x=true)(hn:y≠x):aa X (.l x) (ai (aX σ cap) y w) st=some (v,st):=
 ay (by rw[ag _ hn,eC hc,h])
theorem lU {X:Cx}{σ:Loc}{st:St}{y:Nat}{w:AV}{cap:List Nat}:aa X (.l y) (ai (aX σ cap) y w) st=some (w,st):=ay (ab _ _ _)
structure Ru where
 p:Nat
 q:Nat
 r:Nat
 s:Nat
noncomputable def aV (x:Ru):AV:=.tup [.int x.p,.int x.q,.int x.r,.int x.s]
abbrev bU:=List Ru
noncomputable def R (rs:bU)(k:Nat):Ru:=rs.getD k ⟨1,1,1,1⟩
noncomputable def De (x:Ru):Prop:=(1<=x.p/\x.p<=6)/\(1<=x.r/\x.r<=6)/\(1<=x.q/\x.q<=6)/\(1<=x.s/\x.s<=6)
noncomputable def Li (rs:bU):Prop:=rs.length=3/\∀ x∈rs,De x
theorem Li.get {rs:bU}(h:Li rs){k:Nat}(hk:k<3):De (R rs k)/\rs[k]?=some (R rs k):=by
 have hl:k<rs.length:=by rw[h.1];exact hk
 have e:rs[k]?=some (R rs k):=by
  rw[R,getD_eq_getElem?_getD,getElem?_eq_getElem hl];rfl
 exact⟨h.2 _ (mem_of_getElem? e),e⟩
noncomputable def RV (st:St)(rv:AV)(rs:bU):Prop:=rv=.lst (rs.map aV)\/∃ j,rv=.obj j/\st[j]?=some (.list (rs.map aV))
theorem RV.mono {st Kw:St}{rv:AV}{rs:bU}(h:RV st rv rs){W:List Nat}(k:Kp W st Kw)(hw:∀ j∈W,rv≠.obj j):RV Kw rv rs:=by
 rcases h with rfl |⟨j,rfl,e⟩
 ·exact .inl rfl
 ·exact .inr ⟨j,rfl,k.get e λhj=>hw j hj rfl⟩
theorem RV.sub {st:St}{rv:AV}{rs:bU}(h:RV st rv rs)(ho:Li rs){k:Nat}(hk:k<3):cB st rv (.int k)=some (aV (R rs k)):=by
 have e:(rs.map aV)[k]?=some (aV (R rs k)):=by rw[getElem?_map,(ho.get hk).2];rfl
 rcases h with rfl |⟨j,rfl,e2⟩
 ·exact fP e (by exact C8)
 ·exact cG e2 e (by exact C8)
theorem Jr {st:St}(x:Ru):cB st (aV x) (.int 0)=some (.int x.p):=rfl
theorem Js {st:St}(x:Ru):cB st (aV x) (.int 1)=some (.int x.q):=rfl
section
variable {σ:Loc}{st:St}{rs:bU}{rv:AV}{low sh:Nat}{B:dK}
theorem cU (a b:Nat):aK .Add (.int a) (.int b)=some (.int ((a+b:Nat):Int)):=rfl
theorem Cb (n:Nat)(h:af σ 107=some (.int low))(hl:low<30):aa ⟨run (n+1)⟩ (.new false (.comp (.call 1 [.b .Add (.l 107) (.l 61)]) (.nm 61) (.bi .range1 [.int 3]) [] [107])) σ st=some (.lst ((List.range 3).map λk=>.str (bv (low+k))),st):=by
 refine aH (bS (dq (P.e1 rfl) (aZ 3 (by decide))) (aL 3 (by decide)) (by decide) ?_);refine aD (λk:Nat=>AV.int k) (λk=>.str (bv (low+k))) rfl (List.range 3) λk hk=>?_;have M9:=mem_range.mp hk;exact lK rfl (be (P.e1 (aj (gt h rfl (by decide)) lU (cU low k))) (H6 n (low+k) (by exact dU) st))
noncomputable def a0 (x:Ru)(sh:Nat):List Nat:=(io x.p x.q x.r x.s sh).map iQ
theorem EV (n:Nat){k:Nat}(hk:k<3)(h:RV st rv rs)(ho:Li rs)(h1:af σ 90=some rv)(h2:af σ 61=some (.int k))(h3:af σ 103=some (.int sh))(K8:sh<5000) :
  aa ⟨run (n+2)⟩ (.sm .join (.str []) [.new false (.comp (.call 7 [.b .Add (.l 93) (.b .Mult (.int 8) (.l 103))]) (.nm 93) (.sub (.l 90) (.l 61)) [] [103])]) σ st=some (.str (a0 (R rs k) sh),st):=by
 have hR:=(ho.get hk).1
 have hc:∀ x:Nat,x<=6->jx ⟨run (n+2)⟩ (.call 7 [.b .Add (.l 93) (.b .Mult (.int 8) (.l 103))]) (.nm 93) [] (aX σ [103]) (.int x) st=some ([.str ((bM (x+8*sh)).map iQ)],st):=λx hx=>
  lK rfl (be (P.e1 (aj lU (aj rfl (gt h3 rfl (by decide)) (mul_int (by decide))) (by
   show aK .Add (.int x) (.int (8*(sh:Int)))=some (.int ((x+8*sh:Nat):Int))
   show some _=some _;congr 2))) (HU n (x+8*sh) st (by exact DA)))
 refine gY rfl rfl (P.e1 (aH (bS (v:=aV (R rs k)) (bX (ay h1) (ay h2) (h.sub ho hk)) rfl (by simp) (aD (λx:Nat=>AV.int x) (λx=>.str ((bM (x+8*sh)).map iQ)) rfl [(R rs k).p,(R rs k).q,(R rs k).r,(R rs k).s] λx hx=>hc x ?_)))) ?_
 ·simp only[mem_cons,not_mem_nil,or_false]at hx;rcases hx with rfl |rfl |rfl |rfl
  ·exact hR.1.2
  ·exact hR.2.2.1.2
  ·exact hR.2.1.2
  ·exact hR.2.2.2.2
 ·have hl:∀ x:Nat,x<=6->(bM (x+8*sh)).length<=3:=λx hx=>eO (by exact DA);have l1:=hl _ hR.1.2;have l2:=hl _ hR.2.2.1.2;have l3:=hl _ hR.2.1.2;have l4:=hl _ hR.2.2.2.2
  have hs:(([(R rs k).p,(R rs k).q,(R rs k).r,(R rs k).s].map λx=>(bM (x+8*sh)).map iQ).map List.length).sum+([(R rs k).p,(R rs k).q,(R rs k).r,(R rs k).s].map λx=>(bM (x+8*sh)).map iQ).length*([]:List Nat).length<=1000000:=by
   simp only[map_cons,map_nil,sum_cons,sum_nil,length_map,length_nil,mul_zero];exact Q4 0x3117110311611031151103114110f42405101017060504001105 [_,_,_,_] l1 l2 l3 l4 rfl
  refine(jW (k:=λl=>if (l.map List.length).sum+l.length*([]:List Nat).length<=1000000 then some (AV.str (eX [] l),st) else none) (eg (λx=>(bM (x+8*sh)).map iQ) [(R rs k).p,(R rs k).q,(R rs k).r,(R rs k).s]) (if_pos hs)).trans ?_;rw[gN];simp[a0,io]
theorem EW (n:Nat){k:Nat}(hk:k<3)(h1:af σ 107=some (.int low))(h2:af σ 61=some (.int k))(hl:low<30) :
  ∃ Kw,aa ⟨run (n+1)⟩ (.call 18 [.b .LShift (.int 1) (.b .Add (.l 107) (.l 61))]) σ st=some (.str (bv (low+k)),Kw)/\Kp [] st Kw:=by
 have hj:[k]∈gU:=by
  have:k=0\/k=1\/k=2:=by exact yi
  rcases this with rfl |rfl |rfl<;>decide
 have hp:=AB ⟨low,hl⟩ [k] hj;have hs:uC low [k]=fl (low+k):=by simp[uC]
 simp only[hs,map_cons,map_nil]at hp;have KL:=(ff ⟨low+k,by exact dU⟩).2.1;refine ak (AD n (fl (low+k)) [bv (low+k)] st hp (by simp at KL ⊢;exact bN)) λKw e kk=>?_;exact⟨Kw,be (P.e1 (aj rfl (aj (ay h1) (ay h2) (cU low k)) (zk (low+k) (by exact Q2 0x1e211114011031111150110202111154001103 [_,_] hk hl rfl)))) e,kk⟩
noncomputable def cv (B:dK):List AV:=(aI (0::cj B)).map .int++replicate 7 (.int 0)
theorem Cc {B:dK}{k:Nat}(h1:1<=k)(h:k<=6):(cv B)[k]?=some (.int (cnt B k)):=by
 have hc:(0::cj B).count k=cnt B k:=by rw[count_cons_of_ne (by exact Dx)];rfl
 by_cases q:k<=mx (0::cj B)
 ·rw[cv,getElem?_append_left (by rw[length_map,cE];exact Gn),getElem?_map,db,if_pos q,hc];rfl
 ·rw[cv,getElem?_append_right (by rw[length_map,cE];exact Gl),getElem?_replicate,if_pos (by exact Q2 0x541106115110711111401103 [_,_] h (sub_le _ _) rfl)];rw[← hc,eN q];rfl
theorem wX {k:Nat}(h1:1<=k)(h:k<=6):cB st (.tup (cv B)) (.int k)=some (.int (cnt B k)):=by
 exact zb (Cc h1 h) (by exact dW)
theorem sU (n:Nat){i d l:Nat}(h:Hd st i d l (bY B))(hB:lL B)(h1:af σ 101=some (.obj i)) :
  ∃ Kw,aa ⟨run (n+2)⟩ (.b .Add (.sub (.attr (.call 9 [.l 101]) 2) (.int 0)) (.b .Mult (.tup [.int 0]) (.int 7))) σ st=some (.tup (cv B),Kw)/\Kp [] st Kw:=by
 refine cV (zc n h hB) λKw e k w=>?_
 have hm:mx (0::cj B)<=6:=by
  have:∀ L:List Nat,(∀ z∈L,z<=6)->mx L<=6:=by
   intro L
   induction L with
   |nil=>intro _;simp[mx]
   |cons a L ih=>
    intro hL;have:=ih λz hz=>hL z (by simp[hz]);have:=hL a (by simp);simp only[mx,foldr_cons]at *;exact Hg
  apply this;intro z hz;simp only[mem_cons,cj,mem_map]at hz;rcases hz with rfl |⟨x,hx,rfl⟩
  ·exact C7
  ·exact(hB.2 x hx).2
 have hl:((aI (0::cj B)).map AV.int).length<=7:=by rw[length_map,cE];exact dW
 have PI:((aI (0::cj B)).map AV.int).length≠0:=by rw[length_map,cE];exact ne_of_gt (Q0 0x111401110101101 [_] rfl)
 have ha:aK .Add (.tup ((aI (0::cj B)).map .int)) (.tup (replicate 7 (.int 0)))=some (.tup (cv B)):=by
  have:(!((aI (0::cj B)).map AV.int).isEmpty)=true/\(!(replicate 7 (AV.int 0)).isEmpty)=true/\((aI (0::cj B)).map AV.int).length+(replicate 7 (AV.int 0)).length<=1000000:=by
   refine⟨?_,rfl,by simp at hl ⊢;exact bN⟩
   cases e:(aI (0::cj B)).map AV.int with
   |nil=>rw[e]at PI;exact absurd rfl PI
   |cons=>rfl
  exact if_pos this
 exact⟨Kw,aj (bX (fz (be (P.e1 (ay h1)) e) w.norm) rfl rfl) rfl ha,k⟩
noncomputable def H7 (rs:bU)(g:Nat->Nat):List Nat:=(List.range 3).filter λk=>decide ((R rs k).q<=g (R rs k).p)
noncomputable def lV (rs:bU)(B:dK):List Nat:=(List.range 3).filter λk=>decide ((R rs k).q<=cnt B (R rs k).p)
noncomputable def lm:E:=.new false (.comp (.l 61) (.nm 61) (.bi .range1 [.int 3]) [.val (.cmp .GtE (.sub (.l 96) (.sub (.sub (.l 90) (.l 61)) (.int 0))) (.sub (.sub (.l 90) (.l 61)) (.int 1)))] [96,90])
theorem sV {X:Cx}(h:RV st rv rs)(ho:Li rs){cvv:AV}{g:Nat->Nat}(OQ:∀ k:Nat,1<=k->k<=6->cB st cvv (.int k)=some (.int (g k)))(h1:af σ 90=some rv)(h2:af σ 96=some cvv):aa X lm σ st=some (.lst ((H7 rs g).map λk:Nat=>.int k),st):=by
 refine aH (bS (dq (P.e1 rfl) (aZ 3 (by decide))) (aL 3 (by decide)) (by decide) ?_);refine bK _ (λk:Nat=>AV.int k) (λk:Nat=>AV.int k) rfl (List.range 3) λk hk=>?_;have M9:=mem_range.mp hk;have hR:=(ho.get M9).1
 have Nr:aJ X (.val (.cmp .GtE (.sub (.l 96) (.sub (.sub (.l 90) (.l 61)) (.int 0))) (.sub (.sub (.l 90) (.l 61)) (.int 1)))) (ai (aX σ [96,90]) 61 (.int k)) st=some (decide ((R rs k).q<=g (R rs k).p),st):=by
  refine bF (bX (gt h2 rfl (by decide)) (bX (bX (gt h1 rfl (by decide)) lU (h.sub ho M9)) rfl (Jr _)) (OQ _ hR.1.1 hR.1.2)) (bX (bX (gt h1 rfl (by decide)) lU (h.sub ho M9)) rfl (Js _)) ?_;show some _=some _;congr 1;simp
 by_cases q:(R rs k).q<=g (R rs k).p
 ·rw[decide_eq_true q]at Nr ⊢;exact Dc rfl (uO Nr) lU
 ·rw[decide_eq_false q]at Nr ⊢;exact Dd rfl (uO Nr)
theorem wY {X:Cx}(h:RV st rv rs)(ho:Li rs){cvv:AV}(OQ:∀ k:Nat,1<=k->k<=6->cB st cvv (.int k)=some (.int (cnt B k)))(h1:af σ 90=some rv)(h2:af σ 96=some cvv):aa X lm σ st=some (.lst ((lV rs B).map λk:Nat=>.int k),st):=
 sV h ho OQ h1 h2
theorem wZ (rs:bU)(B:dK):lV rs B=[]\/lV rs B∈gU:=by
 unfold lV;simp only[show List.range 3=[0,1,2] from rfl,filter_cons,List.filter_nil];cases decide ((R rs 0).q<=cnt B (R rs 0).p)<;>cases decide ((R rs 1).q<=cnt B (R rs 1).p)<;>cases decide ((R rs 2).q<=cnt B (R rs 2).p)<;>simp[gU]
end
theorem gw:∀ (l:List (List Nat)),(∀ s∈l,∀ c∈s,c<1114112)->PyData.canLayAll0 (l.map λs=>PyData.str ⟨s.toArray⟩)=true:=by
 intro l
 induction l with
 |nil=>
  intro _;exact rfl
 |cons a l ih=>
  intro h;rw[map_cons,PyData.canLayAll0,PyData.canLay0,kX (h a (by simp)),ih λs hs=>h s (by simp[hs])];rfl
theorem fR (n:Nat)(st:St)(l:List (List Nat)):aY ((l.map AV.str).map (ba n st))=some (l.map λs=>PyData.str ⟨s.toArray⟩):=by
 induction l with
 |nil=>rfl
 |cons a l ih=>
  have e:ba n st (.str a)=some (.str ⟨a.toArray⟩):=by cases n<;>rfl
  rw[map_cons,map_cons,e];exact congrArg (Option.map (_::·)) ih
theorem lu (n:Nat)(st:St)(l:List (List Nat)):ba (n+1) st (.lst (l.map .str))=some (.list (l.map λs=>PyData.str ⟨s.toArray⟩)):=by
 exact congrArg (Option.map PyData.list) (fR n st l)
theorem rA {st:St}{l:List (List Nat)}(h:∀ s∈l,∀ c∈s,c<1114112):rS st (.lst (l.map .str)) (.lst (l.map .str))=some true:=
 dB (lu 5 st l) (lu 5 st l) (by rw[PyData.canLay0];exact gw l h)
theorem nm_lt (k:Nat)(h:k<32):∀ c∈bv k,c<1114112:=pJ (ff ⟨k,h⟩).1
theorem jB (k:Nat)(h:k<32):pH (bv k):=by
 have:=ff ⟨k,h⟩;exact⟨this.1,le_trans this.2.1 (by decide),this.2.2.1,this.2.2.2.1⟩
theorem nN (k:Nat)(h:k<32):pH (aG (bv k)):=by
 have:=ff ⟨k,h⟩
 exact⟨this.2.2.2.2.2.2.2.2,by rw[aG,length_map];exact le_trans this.2.1 (by decide),this.2.2.2.1,by
  have e:=this.2.2.2.2.2.2.2.1;unfold aG at e ⊢
  rw[e];exact this.2.2.2.1⟩
theorem Cd (k:Nat)(h:k<32):pH ((bv k).map ye):=by
 have:=ff ⟨k,h⟩
 exact⟨this.2.2.2.2.1,by rw[length_map];exact le_trans this.2.1 (by decide),this.2.2.2.2.2.1,by
  have e:=this.2.2.2.2.2.2.1;unfold aG at e
  rw[e];exact this.2.2.2.1⟩
theorem zl (k:Nat)(h:k<32):aG ((bv k).map ye)=aG (bv k):=(ff ⟨k,h⟩).2.2.2.2.2.2.1
theorem sW (k:Nat)(h:k<32):aG (aG (bv k))=aG (bv k):=(ff ⟨k,h⟩).2.2.2.2.2.2.2.1
theorem AE {a b:Nat}(ha:a<32)(hb:b<32)(h:a≠b):aG (bv a)≠aG (bv b):=λe=>h (nm_inj ⟨a,ha⟩ ⟨b,hb⟩ e)
theorem rB {a b:Nat}(ha:a<32)(hb:b<32)(h:a≠b):bv a≠bv b:=λe=>AE ha hb h (by rw[e])
noncomputable def wordsOf (low:Nat)(js:List Nat):List (List Nat):=if js=[] then [[48,120,48]] else js.map λk=>bv (low+k)
section
variable {σ:Loc}{st:St}{rs:bU}{rv:AV}{low sh:Nat}{B:dK}
theorem pS:∀ js∈gU,js.length<=3:=by decide
theorem Ce:(Txt.split ⟨([48,120,48]:List Nat).toArray⟩ ⟨([44,32]:List Nat).toArray⟩).map (λx=>x.cps.toList)=[[48,120,48]]:=by decide +kernel
theorem sX:∀ js∈gU,∀ k∈js,k<3:=by decide
noncomputable def w6:E:=.new false (.split (.call 18 [.bi .sum [.new false (.comp (.b .LShift (.int 1) (.b .Add (.l 107) (.l 61))) (.nm 61) (.l 164) [] [107])]]) (.str [44,32]))
theorem w8 (n:Nat){js:List Nat}(hj:js=[]\/js∈gU)(hl:low<30)(h1:af σ 107=some (.int low))(h2:af σ 164=some (.lst (js.map λk:Nat=>.int k))) :
  ∃ Kw,aa ⟨run (n+1)⟩ w6 σ st=some (.lst ((wordsOf low js).map .str),Kw)/\Kp [] st Kw:=by
 have Mc:∀ k∈js,k<3:=by
  rcases hj with rfl |hj
  ·simp
  ·exact sX js hj
 have KL:js.length<=3:=by
  rcases hj with rfl |hj
  ·simp
  ·exact pS js hj
 have hs:aa ⟨run (n+1)⟩ (.bi .sum [.new false (.comp (.b .LShift (.int 1) (.b .Add (.l 107) (.l 61))) (.nm 61) (.l 164) [] [107])]) σ st=some (.int (uC low js),st):=by
  refine dq (vs:=[.lst (js.map λk=>.int (fl (low+k)))]) (P.e1 (aH (bS (ay h2) rfl (by rw[length_map];exact bN) (aD (λk:Nat=>AV.int k) (λk=>.int (fl (low+k))) rfl js λk hk=>?_)))) ?_
  ·have:=Mc k hk;exact lK rfl (aj rfl (aj (gt h1 rfl (by decide)) lU (cU low k)) (zk (low+k) (by exact dU)))
  ·exact jI (fN (λk=>fl (low+k)) js) rfl
 rcases hj with rfl |hj
 ·obtain⟨Kw,e,k⟩:∃ Kw,run (n+1) 18 [.int (uC low [])] st=some (.str [48,120,48],Kw)/\Kp [] st Kw:=Ca n st;rw[show wordsOf low []=[[48,120,48]] from if_pos rfl];have e3:aa ⟨run (n+1)⟩ (.call 18 [.bi .sum [.new false (.comp (.b .LShift (.int 1) (.b .Add (.l 107) (.l 61))) (.nm 61) (.l 164) [] [107])]]) σ st=some (.str [48,120,48],Kw):=be (P.e1 hs) e
  have e4:du ⟨run (n+1)⟩ (.split (.call 18 [.bi .sum [.new false (.comp (.b .LShift (.int 1) (.b .Add (.l 107) (.l 61))) (.nm 61) (.l 164) [] [107])]]) (.str [44,32])) σ st=some ([[48,120,48]].map .str,Kw):=
   rz (s:=[48,120,48]) (p:=[44,32]) (Ky:=Kw) e3 rfl rfl (by simp) Ce (by simp)
  exact⟨Kw,aH e4,k⟩
 ·have LO:js≠[]:=by rintro rfl;revert hj;decide
  have hw:∀ s∈js.map (λk=>bv (low+k)),s.length<=100:=λs hs=>by
   simp only[mem_map]at hs;refine ak hs ?_;clear hs;rintro k hk rfl;exact(ff ⟨low+k,by have:=Mc k hk;exact dU⟩).2.1
  have M8:((js.map λk=>bv (low+k)).map List.length).sum<=100*js.length:=by
   have:=ry (L:=(js.map λk=>bv (low+k)).map List.length) (m:=100) (by
    intro z hz;simp only[mem_map]at hz;refine ak hz ?_;clear hz;rintro s ⟨k,hk,rfl⟩ rfl
    exact hw _ (mem_map_of_mem hk))
   simpa using this
  refine ak (AD n (uC low js) (js.map λk=>bv (low+k)) st (AB ⟨low,hl⟩ js hj) (by rw[length_map];exact Q2 0x56422411031156620f4240515213401103 [_,_] KL M8 rfl)) λKw e k=>?_;refine⟨Kw,aH (rz (p:=[44,32]) (be (P.e1 hs) e) rfl rfl ?_ ?_ ?_),k⟩
  ·have:∀ l:List (List Nat),(eX [44,32] l).length<=(l.map List.length).sum+2*l.length:=by
    intro l
    induction l with
    |nil=>exact zero_le _
    |cons a l ih=>
     cases l with
     |nil=>exact le_add_right a.length _
     |cons b l=>
      show(a++[44,32]++eX [44,32] (b::l)).length<=a.length+((b::l).map List.length).sum+2*((b::l).length+1);rw[length_append,length_append,show[44,32].length=2 from rfl];exact JP ih
   have:=this (js.map λk=>bv (low+k));rw[length_map]at this;exact Q3 0x5212604110564226110311566203e83141104 [_,_,_] KL M8 this rfl
  ·rw[wordsOf,if_neg LO];exact wS ⟨low,hl⟩ js hj
  ·rw[wordsOf,if_neg LO,length_map];exact bN
theorem H8 (t:Nat)(h:t<=31):aK .Pow (.int 3) (.int t)=some (.int ((3:Int)^t)):=by
 have:(2:Int)<=3/\(3:Int)<=8/\(0:Int)<=(t:Int)/\(t:Int)<=100:=⟨by decide,by decide,natCast_nonneg _,ofNat_le.mpr (le_trans (by assumption) (by decide:31<=100))⟩;exact if_pos this
theorem zm (t:Nat)(h:t<=31):((3:Int)^t).natAbs<2^64/\(3:Int)^t≠0:=by
 have e:(3:Int)^t=((3^t:Nat):Int):=by simp
 rw[e,natAbs_natCast];have h1:3^t<=3^31:=pow_le_pow_right (by decide) h;have h2:0<3^t:=pow_pos (by decide);have h3:(3:Nat)^31<2^64:=by decide
 exact⟨lt_of_le_of_lt h1 h3,by exact yq⟩
noncomputable def AF:E:=.sub (.l 89) (.b .Mod (.b .Mod (.b .FloorDiv (.l 108) (.b .Pow (.int 3) (.l 98))) (.int 3)) (.bi .len [.l 89]))
theorem EX {X:Cx}{js:List Nat}(LO:js≠[])(KL:js.length<=3){t:Nat}(ht:t<=31){c:Int}(h1:af σ 89=some (.lst ((wordsOf low js).map .str)))(h2:af σ 108=some (.int c))(h3:af σ 98=some (.int t)) :
  ∃ j∈js,aa X AF σ st=some (.str (bv (low+j)),st):=by
 have hp:=zm t ht;have hl0:0<js.length:=length_pos_iff.mpr LO;let a:=(c.fdiv (3^t)).fmod 3;have b0:0<=a.fmod (js.length:Int):=fmod_nonneg_of_pos _ (by exact uM);have b1:a.fmod (js.length:Int)<(js.length:Int):=fmod_lt_of_pos _ (by exact uM);let k:=(a.fmod (js.length:Int)).toNat;have hk:k<js.length:=C6 b0 b1;have hkk:a.fmod (js.length:Int)=(k:Int):=(zR b0).symm;refine⟨js[k],getElem_mem hk,?_⟩
 have d1:aK .FloorDiv (.int c) (.int ((3:Int)^t))=some (.int (c.fdiv (3^t))):=by
  exact fO ⟨hp.2,la hp.1⟩
 have m1:aK .Mod (.int (c.fdiv (3^t))) (.int 3)=some (.int a):=by
  exact dV (by decide)
 have m2:aK .Mod (.int a) (.int (js.length:Int))=some (.int k):=by
  refine Eq.trans (dV (by exact yq)) ?_;rw[hkk]
 have hw:((wordsOf low js).map AV.str).length=js.length:=by rw[wordsOf,if_neg LO];simp
 have Qm:gA st .len [.lst ((wordsOf low js).map .str)]=some (.int (js.length:Int),st):=by
  rw[j9 (by rw[hw];exact bN),hw]
 refine bX (ay h1) (aj (aj (aj (ay h2) (aj rfl (ay h3) (H8 t ht)) d1) rfl m1) (dq (P.e1 (ay h1)) Qm) m2) ?_;refine fP ?_ (by exact Q2 0x5111401103115110f424051111401103 [_,_] KL hk rfl);rw[wordsOf,if_neg LO];simp[getElem?_eq_getElem hk]
noncomputable def iM (rs:bU)(low sh:Nat):List Pr:=((List.range 3).map λk=>(bv (low+k),a0 (R rs k) sh))++(List.range 3).map λk=>(aG (bv (low+k)),[])
theorem uD (hl:low<30){k:Nat}(hk:k<3){s:List Nat}(hs:aG s=aG (bv (low+k))):(iM rs low sh).find? (λp=>decide (aG p.1=aG s))=some (bv (low+k),a0 (R rs k) sh):=by
 have LO:∀ a b:Nat,a<3->b<3->a≠b->¬ (aG (bv (low+a))=aG (bv (low+b))):=λa b ha hb h=>AE (by exact dU) (by exact dU) (by exact J6);rw[hs];have:k=0\/k=1\/k=2:=by exact yi
 simp only[iM,show List.range 3=[0,1,2] from rfl,map_cons,map_nil,cons_append,nil_append];rcases this with rfl |rfl |rfl
 ·rw[find?_cons_of_pos (by simp)]
 ·rw[find?_cons_of_neg (by simpa using LO 0 1 (by decide) (by decide) (by decide)),find?_cons_of_pos (by simp)]
 ·rw[find?_cons_of_neg (by simpa using LO 0 2 (by decide) (by decide) (by decide)),find?_cons_of_neg (by simpa using LO 1 2 (by decide) (by decide) (by decide)),find?_cons_of_pos (by simp)]
theorem zn (hl:low<30):BP (iM rs low sh):=by
 refine⟨by simp[iM],λp hp=>?_⟩;simp only[iM,mem_append,mem_map,mem_range]at hp;rcases hp with ⟨k,hk,rfl⟩ |⟨k,hk,rfl⟩
 ·exact jB _ (by exact dU)
 ·exact nN _ (by exact dU)
theorem uE {x:Ru}(hx:De x)(K8:sh<5000):d8 false (a0 x sh)=true/\(a0 x sh).length<=1000:=by
 constructor
 ·simp only[d8,a0,all_eq_true,mem_map];rintro c ⟨y,hy,rfl⟩;have:=nM _ _ _ _ _ y hy;unfold iQ;split
  ·simp
  ·simp;exact zy (by assumption)
 ·have hl:∀ x:Nat,x<=6->(bM (x+8*sh)).length<=3:=λx hx=>eO (by exact DA);have l1:=hl _ hx.1.2;have l2:=hl _ hx.2.2.1.2;have l3:=hl _ hx.2.1.2;have l4:=hl _ hx.2.2.2.2;simp only[a0,io,length_map,length_append];exact Q4 0x31171103116110311511031141103e83176050401105 [_,_,_,_] l1 l2 l3 l4 rfl
noncomputable def Cf:E:=.meth 32 (.l 109) [.ite (.val (.cmp .Eq (.b .Mod (.l 98) (.int 2)) (.int 0))) (.sm .lower (.l 166) []) (.sm .upper (.l 166) [])]
theorem H9 (n:Nat){i2 d2 l2:Nat}(h:Hd st i2 d2 l2 (iM rs low sh))(hl:low<30){k t:Nat}(hk:k<3)(h1:af σ 109=some (.obj i2))(h2:af σ 98=some (.int t))(h3:af σ 166=some (.str (bv (low+k)))) :
  aa ⟨run (n+2)⟩ Cf σ st=some (.str (a0 (R rs k) sh),st):=by
 have m1:aK .Mod (.int t) (.int 2)=some (.int ((t%2:Nat):Int)):=by
  rw[dV (by decide),Int.fmod_eq_emod_of_nonneg _ (by exact jY)];rfl
 have c1:bJ st .Eq (.int ((t%2:Nat):Int)) (.int 0)=some (decide (t%2=0)):=by
  exact(gJ st _ _).trans (congrArg some (decide_eq_decide.mpr ⟨λh=>ofNat.inj h,λh=>congrArg ofNat h⟩))
 have Nr:∃ s,pH s/\aG s=aG (bv (low+k))/\aa ⟨run (n+2)⟩ (.ite (.val (.cmp .Eq (.b .Mod (.l 98) (.int 2)) (.int 0))) (.sm .lower (.l 166) []) (.sm .upper (.l 166) [])) σ st=some (.str s,st):=by
  by_cases q:t%2=0
  ·rw[decide_eq_true q]at c1;exact⟨_,nN _ (by exact dU),sW _ (by exact dU),mD (bF (aj (ay h2) rfl m1) rfl c1) (gY (ay h3) rfl dn (dP (jB _ (by exact dU))))⟩
  ·rw[decide_eq_false q]at c1;exact⟨_,Cd _ (by exact dU),zl _ (by exact dU),sg (bF (aj (ay h2) rfl m1) rfl c1) (gY (ay h3) rfl dn (wz (jB _ (by exact dU))))⟩
 refine cV Nr ?_;clear Nr;intro s o e Nr;exact fc (ay h1) (h.recv 32 rfl rfl) (P.e1 Nr) (EI (n:=n) h (zn hl) o (uD hl hk e))
end
theorem lx:∀ t:Fin 32,d8 false (bj t.val)=true/\(bj t.val).length<=1000/\(bj t.val).all (·<1114112)=true:=by decide +kernel
noncomputable def jS (low:Nat)(js:List Nat):List Pr:=js.zipIdx.map λp=>(bv (low+p.1),bj p.2)
noncomputable def aT (js:List Nat)(k:Nat):List (List Nat):=(js.zipIdx.filter λp=>decide (p.1=k)).map λp=>bj p.2
theorem xa (low:Nat)(js:List Nat)(j:Nat):jS low (js++[j])=jS low js++[(bv (low+j),bj js.length)]:=by
 simp[jS,List.zipIdx_append]
theorem jC (js:List Nat)(j k:Nat):aT (js++[j]) k=aT js k++(if j=k then [bj js.length] else []):=by
 simp only[aT,List.zipIdx_append,List.filter_append,map_append];congr 1;by_cases h:j=k<;>simp[h]
theorem gx (js:List Nat)(k:Nat):(aT js k).length=js.count k:=by
 have:∀ (js:List Nat) (n:Nat),((js.zipIdx n).filter λp=>decide (p.1=k)).length=js.count k:=by
  intro js
  induction js with
  |nil=>intro n;rfl
  |cons a js ih=>
   intro n;rw[List.zipIdx_cons];by_cases h:a=k
   ·rw[filter_cons_of_pos (by simpa using h)];simp[ih,h]
   ·rw[filter_cons_of_neg (by simpa using h),count_cons_of_ne h,ih]
 rw[aT,length_map,this]
theorem rC {js:List Nat}{p:Nat×Nat}(h:p∈js.zipIdx):p.1∈js/\p.2<js.length:=by
 obtain⟨a,b⟩:=p;have:=List.mem_zipIdx h;simp at this;refine⟨?_,this.1⟩;refine av this ?_;clear this;intro h1 h2;simp only;rw[h2];exact getElem_mem _
set_option maxHeartbeats 2000000 in
theorem rD {low:Nat}(hl:low<30){js:List Nat}(hj:∀ j∈js,j<3){k:Nat}(hk:k<3):((jS low js).filter λp=>decide (aG p.1=aG (aG (bv (low+k))))).map (λp=>AV.str p.2)=(aT js k).map .str:=by
 rw[jS,List.filter_map,map_map,aT,map_map];congr 1;apply filter_congr;intro p hp;have h3:=hj _ (rC hp).1;simp only[Function.comp];rw[sW _ (by exact dU)];refine decide_eq_decide.mpr ⟨λe=>?_,λe=>by rw[e]⟩;have:=nm_inj ⟨low+p.1,by exact dU⟩ ⟨low+k,by exact dU⟩ e;simp only at this;exact le_antisymm (Q1 0x560460111541102 [_,_,_] this rfl) (Q1 0x460560112541102 [_,_,_] this rfl)
theorem Cg {low:Nat}(hl:low<30){js:List Nat}(hj:∀ j∈js,j<3)(KL:js.length<=100):BP (jS low js):=by
 refine⟨by simp[jS];exact bN,λp hp=>?_⟩;simp only[jS,mem_map]at hp;refine ak hp ?_;clear hp;rintro x hx rfl;have h3:=hj _ (rC hx).1;exact jB _ (by exact dU)
theorem xb (low:Nat)(js:List Nat):(jS low js).map (λp=>AV.str p.2)=(List.range js.length).map λk:Nat=>.str (bj k):=by
 have:∀ (js:List Nat) (n:Nat),(js.zipIdx n).map (λp=>AV.str (bj p.2))=(range' n js.length).map λk:Nat=>.str (bj k):=by
  intro js
  induction js with
  |nil=>intro n;rfl
  |cons a js ih=>intro n;rw[List.zipIdx_cons,map_cons,ih];rfl
 rw[jS,map_map];have:=this js 0;rw[range_eq_range'];exact this
theorem zo {js:List Nat}(h:js.length<=32)(k:Nat):∀ s∈aT js k,∀ c∈s,c<1114112:=by
 intro s hs c hc;simp only[aT,mem_map,mem_filter]at hs;refine ak hs ?_;clear hs;rintro p ⟨hp,_⟩ rfl;have h2:=(rC hp).2;have:=(lx ⟨p.2,by exact A7⟩).2.2;simpa using (all_eq_true.mp this) c hc
structure PS (st:St)(i d l i2 d2 l2 i3 d3 l3:Nat)(t:Nat->Nat)(rv:AV)(rs:bU)(low sh:Nat)(B:dK)(js:List Nat):Prop where
 hb:Hd st i d l (bY B)
 hk:Hd st i2 d2 l2 (iM rs low sh)
 hg:Hd st i3 d3 l3 (jS low js)
 ht:∀ k,k<3->st[t k]?=some (.list ((aT js k).map .str))
 hr:RV st rv rs
structure Ds (l l2 l3:Nat)(t:Nat->Nat)(rv:AV):Prop where
 a:l≠l2
 b:l≠l3
 c:l2≠l3
 d:∀ k,k<3->t k≠l/\t k≠l2/\t k≠l3
 e:∀ k m,k<3->m<3->t k=t m->k=m
 f:rv≠.obj l/\rv≠.obj l3/\∀ k,k<3->rv≠.obj (t k)
theorem Hd.keep {st Kw:St}{i d l:Nat}{xs:List Pr}(h:Hd st i d l xs){l':Nat}(k:Kp [l'] st Kw){ys:List AV}(hl:st[l']?=some (.list ys))(LO:l'≠l):Hd Kw i d l xs:=by
 refine h.mono k ?_ ?_ ?_
 ·simp only[mem_singleton];rintro rfl;have:=h.a.symm.trans hl;simp at this
 ·simp only[mem_singleton];rintro rfl;have:=h.b.symm.trans hl;simp at this
 ·simp only[mem_singleton];exact λe=>LO e.symm
section
variable {i d l i2 d2 l2 i3 d3 l3:Nat}{t:Nat->Nat}{rv:AV}{rs:bU}{low sh:Nat}{c:Int}
theorem PS.kp {st Kw:St}{B:dK}{js:List Nat}(h:PS st i d l i2 d2 l2 i3 d3 l3 t rv rs low sh B js)(k:Kp [] st Kw):PS Kw i d l i2 d2 l2 i3 d3 l3 t rv rs low sh B js:=
 ⟨h.hb.mono k (by simp) (by simp) (by simp),h.hk.mono k (by simp) (by simp) (by simp),h.hg.mono k (by simp) (by simp) (by simp),λm hm=>k.get (h.ht m hm) (by simp),h.hr.mono k (by simp)⟩
noncomputable def Gr:List S:=[.asg (.nm 96) (.b .Add (.sub (.attr (.call 9 [.l 101]) 2) (.int 0)) (.b .Mult (.tup [.int 0]) (.int 7))),.asg (.nm 164) lm,.asg (.nm 89) w6,.iff (.and (.val (.cmp .Eq (.l 164) (.new false (.list [])))) (.val (.cmp .Eq (.l 89) (.new false (.list [.str [48,120,48]]))))) [.iff (.or (.val (.cmp .NotEq (.new false (.comp (.meth 30 (.l 111) [.sm .lower (.l 110) []]) (.nm 110) (.l 82) [] [111])) (.l 112))) (.val (.cmp .NotEq (.meth 33 (.l 111) []) (.new false (.comp (.bi .str [.l 61]) (.nm 61) (.bi .range1 [.l 98]) [] []))))) [.ret (.non)] [],.ret (.new false (.comp (.bi .len [.l 195]) (.nm 195) (.l 112) [] []))] [],.iff (.val (.cmp .NotEq (.l 89) (.new false (.comp (.sub (.l 82) (.l 61)) (.nm 61) (.l 164) [] [82])))) [.ret (.non)] [],.asg (.nm 166) AF,.expr (.call 8 [.l 101,Cf,.l 103]),.expr (.meth 34 (.l 111) [.l 166,.bi .str [.l 98]]),.expr (.sm .append (.sub (.l 112) (.sm .index (.l 82) [.l 166])) [.bi .str [.l 98]])]
noncomputable def Ch:List S:=[.asg (.nm 102) (.sm .join (.str []) [.new false (.comp (.call 7 [.b .Add (.l 93) (.b .Mult (.int 8) (.l 103))]) (.nm 93) (.sub (.l 90) (.l 61)) [] [103])]),.iff (.val (.isNon (.meth 34 (.l 109) [.call 18 [.b .LShift (.int 1) (.b .Add (.l 107) (.l 61))],.l 102]) true)) [.ret (.non)] []]
noncomputable def Ci:List S:=[.expr (.meth 34 (.l 109) [.sm .lower (.l 110) [],.str []])]
theorem Cj:HK=[.asg (.nm 82) (.new false (.comp (.call 1 [.b .Add (.l 107) (.l 61)]) (.nm 61) (.bi .range1 [.int 3]) [] [107])),.asg (.nm 109) (.call 20 [.new true (.list [])]),.for (.nm 61) (.bi .range1 [.int 3]) Ch [],.for (.nm 110) (.l 82) Ci [],.asg (.nm 111) (.call 20 [.new true (.list [])]),.asg (.nm 112) (.new false (.list [.new true (.list []),.new true (.list []),.new true (.list [])])),.for (.nm 98) (.bi .range1 [.int 31]) Gr [],.ret (.non)]:=rfl
noncomputable def fS (low:Nat):AV:=.lst ((List.range 3).map λk=>.str (bv (low+k)))
noncomputable def zp (t:Nat->Nat):AV:=.lst [.obj (t 0),.obj (t 1),.obj (t 2)]
noncomputable def Nv (i:Nat)(rv:AV)(low sh:Nat)(c:Int)(i2 i3:Nat)(t:Nat->Nat)(u v w:AV)(τ:Loc):Loc:=(101,.obj i)::(90,rv)::(107,.int low)::(103,.int sh)::(108,.int c)::(82,fS low)::(109,.obj i2)::(61,u)::(102,v)::(110,w)::(111,.obj i3)::(112,zp t)::τ
noncomputable def AG:List Nat:=[101,90,107,103,108,82,109,61,102,110,111,112]
theorem gp {i:Nat}{rv:AV}{low sh:Nat}{c:Int}{i2 i3:Nat}{t:Nat->Nat}{u v w:AV}{τ:Loc}(x:Nat)(h:AG.all (λy=>!Nat.beq y x)=true):af (Nv i rv low sh c i2 i3 t u v w τ) x=af τ x:=by
 simp only[AG,all_cons,all_nil,Bool.and_true,and_eq_true,not_eq_true']at h;obtain⟨h1,h2,h3,h4,h5,h6,h7,h8,h9,Ow,Qf,Qn⟩:=h;simp only[Nv,af,h1,h2,h3,h4,h5,h6,h7,h8,h9,Ow,Qf,Qn,if_false,reduceCtorEq]
theorem nP {st:St}(k:Nat)(h:k<1000):gA st .str [.int k]=some (.str (bj k),st):=by
 have:(k:Int).natAbs<10^10:=by rw[natAbs_natCast];exact bN
 exact if_pos this
theorem EY {st:St}{js:List Nat}(ht:∀ k,k<3->st[t k]?=some (.list ((aT js k).map .str)))(h:js.length<=32):rS st (.lst ((List.range 3).map λk=>.lst ((aT js k).map .str))) (zp t)=some true:=by
 have v1:ba 6 st (.lst ((List.range 3).map λk=>.lst ((aT js k).map .str)))=some (.list ((List.range 3).map λk=>.list ((aT js k).map λs=>PyData.str ⟨s.toArray⟩))):=by
  simp only[ba,show List.range 3=[0,1,2] from rfl,map_cons,map_nil,aY,fR,Option.map]
 have v2:ba 6 st (zp t)=some (.list ((List.range 3).map λk=>.list ((aT js k).map λs=>PyData.str ⟨s.toArray⟩))):=by
  simp only[zp,ba,ht 0 (by decide),ht 1 (by decide),ht 2 (by decide),show List.range 3=[0,1,2] from rfl,map_cons,map_nil,aY,fR,Option.map]
 refine dB v1 v2 ?_;have e:=λk=>gw (aT js k) (zo h k);simp only[show List.range 3=[0,1,2] from rfl,map_cons,map_nil,PyData.canLay0,PyData.canLayAll0,e,Bool.and_self]
theorem EZ (n:Nat){ok:Bool}{st:St}{B:dK}{js:List Nat}(h:PS st i d l i2 d2 l2 i3 d3 l3 t rv rs low sh B js)(ho:Li rs)(hB:lL B)(hl:low<30)(hj:∀ j∈js,j<3)(KL:js.length<=31)(hr:lV rs B=[]){u v w:AV}{τ:Loc} :
  ∃ KA Kw,bW ⟨run (n+3)⟩ (.nm 98) Gr (.int (js.length:Nat)) (Nv i rv low sh c i2 i3 t u v w τ) st=some (.ret (.lst ((List.range 3).map λk=>.int (js.count k:Nat))),KA,Kw)/\Kp [] st Kw/\PS Kw i d l i2 d2 l2 i3 d3 l3 t rv rs low sh B js:=by
 have X:Cx:=⟨run (n+3)⟩;have e0:∀ (σ:Loc) (st:St),bJ st .Eq (.lst (([]:List Nat).map λk:Nat=>AV.int k)) (.lst [])=some true:=λ_ st=>nE st []
 have fin:∀ (σ:Loc) (Ky:St),PS Ky i d l i2 d2 l2 i3 d3 l3 t rv rs low sh B js->af σ 164=some (.lst (([]:List Nat).map λk:Nat=>AV.int k))->af σ 89=some (.lst ((wordsOf low []).map .str))->af σ 111=some (.obj i3)->af σ 82=some (fS low)->af σ 112=some (zp t)->af σ 98=some (.int (js.length:Nat)) ->
   xS ⟨run (n+3)⟩ (.iff (.and (.val (.cmp .Eq (.l 164) (.new false (.list [])))) (.val (.cmp .Eq (.l 89) (.new false (.list [.str [48,120,48]]))))) [.iff (.or (.val (.cmp .NotEq (.new false (.comp (.meth 30 (.l 111) [.sm .lower (.l 110) []]) (.nm 110) (.l 82) [] [111])) (.l 112))) (.val (.cmp .NotEq (.meth 33 (.l 111) []) (.new false (.comp (.bi .str [.l 61]) (.nm 61) (.bi .range1 [.l 98]) [] []))))) [.ret (.non)] [],.ret (.new false (.comp (.bi .len [.l 195]) (.nm 195) (.l 112) [] []))] []) σ Ky=some (.ret (.lst ((List.range 3).map λk=>.int (js.count k:Nat))),σ,Ky):=by
  intro σ Ky h g1 g2 g3 g4 g5 g6
  have e1:bJ Ky .Eq (.lst ((wordsOf low []).map .str)) (.lst [.str [48,120,48]])=some true:=by
   rw[show wordsOf low []=[[48,120,48]] from if_pos rfl];exact rA (st:=Ky) (l:=[[48,120,48]]) (by decide)
  refine(dO (si (bF (ay g1) (aH (cK dn)) (e0 [] Ky)) (bF (ay g2) (aH (cK (P.e1 rfl))) e1))).trans ?_;have N1:=Cg hl hj (le_trans KL (by decide))
  have x1:aa ⟨run (n+3)⟩ (.new false (.comp (.meth 30 (.l 111) [.sm .lower (.l 110) []]) (.nm 110) (.l 82) [] [111])) σ Ky=some (.lst ((List.range 3).map λk=>.lst ((aT js k).map .str)),Ky):=by
   refine aH (bS (ay g4) rfl (by simp) (aD (λk=>.str (bv (low+k))) (λk=>.lst ((aT js k).map .str)) rfl (List.range 3) λk hk=>?_));have M9:=mem_range.mp hk;have:=Ay (n:=n+1) h.hg N1 (nN (low+k) (by exact dU));rw[rD hl hj M9]at this;exact lK rfl (fc (gt g3 rfl (by decide)) (h.hg.recv 30 rfl rfl) (P.e1 (gY lU rfl dn (dP (jB (low+k) (by exact dU))))) this)
  have x2:aa ⟨run (n+3)⟩ (.new false (.comp (.bi .str [.l 61]) (.nm 61) (.bi .range1 [.l 98]) [] [])) σ Ky=some (.lst ((List.range js.length).map λk:Nat=>.str (bj k)),Ky):=by
   refine aH (bS (dq (P.e1 (ay g6)) (aZ _ (by exact dW))) (aL _ (by exact dW)) (by simp;exact bN) (aD (λk:Nat=>AV.int k) (λk:Nat=>.str (bj k)) rfl (List.range js.length) λk hk=>?_));have M9:=mem_range.mp hk;exact lK rfl (dq (P.e1 lU) (nP k (by exact A8)))
  have x3:=wA (n:=n+2) h.hg N1;rw[xb]at x3
  have n1:bJ Ky .NotEq (.lst ((List.range 3).map λk=>.lst ((aT js k).map .str))) (zp t)=some false:=by
   exact congrArg (Option.map (!·)) (EY h.ht (by exact bN))
  have n2:bJ Ky .NotEq (.lst ((List.range js.length).map λk:Nat=>.str (bj k))) (.lst ((List.range js.length).map λk:Nat=>.str (bj k)))=some false:=by
   have:((List.range js.length).map λk:Nat=>AV.str (bj k))=((List.range js.length).map λk:Nat=>bj k).map .str:=by rw[map_map];rfl
   rw[this];refine congrArg (Option.map (!·)) (rA ?_);intro s hs c hc;simp only[mem_map,mem_range]at hs;refine ak hs ?_;clear hs;rintro k hk rfl;have:=(lx ⟨k,by exact A8⟩).2.2;simpa using (all_eq_true.mp this) c hc
  refine(ae (bG (um (bF x1 (ay g5) n1) (bF (fc (ay g3) (h.hg.recv 33 rfl rfl) dn x3) x2 n2)))).trans ?_
  have hlen3:∀ k,k<3->gA Ky .len [.obj (t k)]=some (.int (js.count k:Nat),Ky):=λk hk=>by
   have hc:js.count k<=js.length:=List.count_le_length;rw[iK (h.ht k hk) (by rw[length_map,gx];exact yt),length_map,gx]
  refine cy (sR (aH (bS (ay g5) rfl (by simp[zp]) ?_)));exact aD (λk=>AV.obj (t k)) (λk=>.int (js.count k:Nat)) rfl (List.range 3) λk hk=>lK rfl (dq (P.e1 lU) (hlen3 k (mem_range.mp hk)))
 let KC:=Nv i rv low sh c i2 i3 t u v w (ai τ 98 (.int (js.length:Nat)));let K5:=Nv i rv low sh c i2 i3 t u v w (ai (ai τ 98 (.int (js.length:Nat))) 96 (.tup (cv B)));let PW:=Nv i rv low sh c i2 i3 t u v w (ai (ai (ai τ 98 (.int (js.length:Nat))) 96 (.tup (cv B))) 164 (.lst (([]:List Nat).map λk:Nat=>AV.int k)));let Qo:=Nv i rv low sh c i2 i3 t u v w (ai (ai (ai (ai τ 98 (.int (js.length:Nat))) 96 (.tup (cv B))) 164 (.lst (([]:List Nat).map λk:Nat=>AV.int k))) 89 (.lst ((wordsOf low []).map .str)));refine ak (sU (σ:=KC) (n+1) h.hb hB rfl) λKx x1 k1=>?_;have p1:=h.kp k1;have x2:=wY (X:=⟨run (n+3)⟩) (σ:=K5) (B:=B) p1.hr ho (cvv:=.tup (cv B)) (λk h1 h2=>wX h1 h2) rfl ((gp _ (by decide)).trans (ab _ _ _));rw[hr]at x2;refine ak (w8 (σ:=PW) (st:=Kx) (js:=[]) (n+2) (.inl rfl) hl rfl ((gp _ (by decide)).trans (ab _ _ _))) λKy x3 k2=>?_;have p2:=p1.kp k2;refine⟨Qo,Ky,?_,k1.trans k2,p2⟩;refine(aR (KC:=KC) rfl).trans ?_;refine(ae (KC:=K5) (aE x1 rfl)).trans ?_;refine(ae (KC:=PW) (aE x2 rfl)).trans ?_;refine(ae (KC:=Qo) (aE x3 rfl)).trans ?_;exact cy (fin Qo Ky p2 ((gp _ (by decide)).trans ((ag _ (by decide) _).trans (ab _ _ _))) ((gp _ (by decide)).trans (ab _ _ _)) rfl rfl rfl ((gp _ (by decide)).trans ((ag _ (by decide) _).trans ((ag _ (by decide) _).trans ((ag _ (by decide) _).trans (ab _ _ _))))))
end
noncomputable def jg (B:dK)(x:Ru):dK:=hG B x.p x.q x.r x.s
theorem Ck {st:St}{low:Nat}(hl:low<30){j:Nat}(hj:j<3):jM st .index (fS low) [.str (bv (low+j))]=some (.int j,st):=by
 have h1:allStrs ((List.range 3).map λk=>AV.str (bv (low+k)))=some ((List.range 3).map λk=>bv (low+k)):=eg _ _
 have h2:((List.range 3).map λk=>bv (low+k)).findIdx? (·==bv (low+j))=some j:=by
  have:j=0\/j=1\/j=2:=by exact yi
  simp only[show List.range 3=[0,1,2] from rfl,map_cons,map_nil];rcases this with rfl |rfl |rfl
  ·simp[findIdx?_cons]
  ·have h01:bv low≠bv (low+1):=rB (a:=low) (b:=low+1) (by exact bN) (by exact dW) (by exact zZ);simp[findIdx?_cons,h01]
  ·have h02:bv low≠bv (low+2):=rB (a:=low) (b:=low+2) (by exact bN) (by exact I5) (by exact zZ);have Qn:bv (low+1)≠bv (low+2):=rB (a:=low+1) (b:=low+2) (by exact dW) (by exact I5) (by exact ne_of_lt (Q0 0x211401111114001101 [_] rfl));simp[findIdx?_cons,h02,Qn]
 have h3:j<1000000:=by exact bN
 exact jW (k:=λl=>match l.findIdx? (·==bv (low+j)) with |some j=>if j<1000000 then some (AV.int j,st) else none |none=>none) h1 (by rw[h2];exact if_pos h3)
section
variable {i d l i2 d2 l2 i3 d3 l3:Nat}{t:Nat->Nat}{rv:AV}{rs:bU}{low sh:Nat}{c:Int}
theorem E0 (n:Nat){st:St}{B:dK}{js:List Nat}(h:PS st i d l i2 d2 l2 i3 d3 l3 t rv rs low sh B js)(D:Ds l l2 l3 t rv)(ho:Li rs)(hB:lL B)(NF:B.length<=300)(hl:low<30)(K8:sh<5000)(hj:∀ j∈js,j<3)(KL:js.length<=30)(hr:lV rs B≠[]){u v w:AV}{τ:Loc} :
  ∃ j∈lV rs B,∃ KU Kw,bW ⟨run (n+3)⟩ (.nm 98) Gr (.int (js.length:Nat)) (Nv i rv low sh c i2 i3 t u v w τ) st=some (.next,Nv i rv low sh c i2 i3 t u v w KU,Kw)/\Kp [l,l3,t 0,t 1,t 2] st Kw/\PS Kw i d l i2 d2 l2 i3 d3 l3 t rv rs low sh (jg B (R rs j)) (js++[j]):=by
 have Od:lV rs B∈gU:=by
  rcases wZ rs B with h |h
  ·exact absurd h hr
  ·exact h
 have Oe:∀ k∈lV rs B,k<3:=sX _ Od;have OA:(lV rs B).length<=3:=pS _ Od;let rd:List AV:=(lV rs B).map λk:Nat=>.int k;let ws:List AV:=(wordsOf low (lV rs B)).map .str;let KZ:=ai τ 98 (.int (js.length:Nat));let Lb:=ai KZ 96 (.tup (cv B));let Lw:=ai Lb 164 (.lst rd);let LF:=ai Lw 89 (.lst ws);let S:=Nv i rv low sh c i2 i3 t u v w;refine ak (sU (σ:=S KZ) (n+1) h.hb hB rfl) λKx x1 k1=>?_;have p1:=h.kp k1;have x2:=wY (X:=⟨run (n+3)⟩) (σ:=S Lb) (B:=B) p1.hr ho (cvv:=.tup (cv B)) (λk h1 h2=>wX h1 h2) rfl ((gp _ (by decide)).trans (ab _ _ _));refine ak (w8 (σ:=S Lw) (st:=Kx) (js:=lV rs B) (n+2) (.inr Od) hl rfl ((gp _ (by decide)).trans (ab _ _ _))) λKy x3 k2=>?_;have p2:=p1.kp k2;have Nw:af (S LF) 164=some (.lst rd):=(gp _ (by decide)).trans ((ag _ (by decide) _).trans (ab _ _ _));have Rd:af (S LF) 89=some (.lst ws):=(gp _ (by decide)).trans (ab _ _ _);have Rf:af (S LF) 98=some (.int (js.length:Nat)):=(gp _ (by decide)).trans ((ag _ (by decide) _).trans ((ag _ (by decide) _).trans ((ag _ (by decide) _).trans (ab _ _ _))));refine ak (EX (X:=⟨run (n+3)⟩) (σ:=S LF) (st:=Ky) (low:=low) hr OA (t:=js.length) (by exact bN) (c:=c) Rd rfl Rf) λj M7 x5=>?_;have Mc:=Oe j M7;let LH:=ai LF 166 (.str (bv (low+j)));have Of:af (S LH) 166=some (.str (bv (low+j))):=(gp _ (by decide)).trans (ab _ _ _);have Og:af (S LH) 98=some (.int (js.length:Nat)):=(gp _ (by decide)).trans ((ag _ (by decide) _).trans ((gp (i:=i) (rv:=rv) (low:=low) (sh:=sh) (c:=c) (i2:=i2) (i3:=i3) (t:=t) (u:=u) (v:=v) (w:=w) _ (by decide)).symm.trans Rf))
 have e1:bJ Ky .Eq (.lst rd) (.lst [])=some false:=by
  have:rd=((lV rs B).map λk:Nat=>(k:Int)).map .int:=by simp only[rd,map_map];rfl
  rw[bJ,this,nE];congr 1;simp[hr]
 have y1:xS ⟨run (n+3)⟩ (.iff (.and (.val (.cmp .Eq (.l 164) (.new false (.list [])))) (.val (.cmp .Eq (.l 89) (.new false (.list [.str [48,120,48]]))))) [.iff (.or (.val (.cmp .NotEq (.new false (.comp (.meth 30 (.l 111) [.sm .lower (.l 110) []]) (.nm 110) (.l 82) [] [111])) (.l 112))) (.val (.cmp .NotEq (.meth 33 (.l 111) []) (.new false (.comp (.bi .str [.l 61]) (.nm 61) (.bi .range1 [.l 98]) [] []))))) [.ret (.non)] [],.ret (.new false (.comp (.bi .len [.l 195]) (.nm 195) (.l 112) [] []))] []) (S LF) Ky=some (.next,S LF,Ky):=
  bG (wf (bF (ay Nw) (aH (cK dn)) e1))
 have hws:ws=(lV rs B).map λk=>.str (bv (low+k)):=by
  simp only[ws,wordsOf,if_neg hr,map_map];rfl
 have hnm:∀ k:Nat,k<3->cB Ky (fS low) (.int k)=some (.str (bv (low+k))):=λk hk=>by
  have:k=0\/k=1\/k=2:=by exact yi
  rcases this with rfl |rfl |rfl<;>rfl
 have y2:xS ⟨run (n+3)⟩ (.iff (.val (.cmp .NotEq (.l 89) (.new false (.comp (.sub (.l 82) (.l 61)) (.nm 61) (.l 164) [] [82])))) [.ret (.non)] []) (S LF) Ky=some (.next,S LF,Ky):=by
  refine bG (bF (ay Rd) (aH (bS (ay Nw) rfl (by simp only[rd,length_map];exact bN) (aD (λk:Nat=>AV.int k) (λk=>.str (bv (low+k))) rfl (lV rs B) λk hk=>lK rfl (bX (gt (v:=fS low) rfl rfl (by decide)) lU (hnm k (Oe k hk)))))) ?_);rw[bJ,← hws];refine(congrArg _ (rA ?_)).trans rfl;intro s hs cc hc;rw[wordsOf,if_neg hr]at hs;simp only[mem_map]at hs;refine ak hs ?_;clear hs;rintro k hk rfl;have:=Oe k hk;exact nm_lt _ (by exact dU) cc hc
 have hR:=(ho.get Mc).1
 have hq:(R rs j).q<=cnt B (R rs j).p:=by
  have:=M7;simp only[lV,mem_filter,decide_eq_true_eq]at this;exact this.2
 have x6:=H9 (σ:=S LH) (st:=Ky) (rs:=rs) (sh:=sh) (n+1) p2.hk hl Mc rfl Og Of;refine cV (H1 n p2.hb hB NF (sh:=sh) hR.1 hR.2.1 (le_trans hR.2.2.1.2 (by decide)) (le_trans hR.2.2.2.2 (by decide)) K8 hq) λK4 x7 k3 h3=>?_;have N2:∃ ys,Ky[l]?=some (.list ys):=⟨_,p2.hb.c⟩;refine aw N2 ?_;clear N2;intro ys Rg;have kk3:=p2.hk.keep k3 Rg D.a;have PJ:=p2.hg.keep k3 Rg D.b;have kt3:∀ k,k<3->K4[t k]?=some (.list ((aT js k).map .str)):=λk hk=>k3.get (p2.ht k hk) (by simp;exact(D.d k hk).1);have kr3:=p2.hr.mono k3 (by simp;exact D.f.1)
 have ev1:xS ⟨run (n+3)⟩ (.expr (.call 8 [.l 101,Cf,.l 103])) (S LH) Ky=some (.next,S LH,K4):=
  eJ (be (e3 rfl x6 rfl) x7) rfl
 have Rh:=lx ⟨js.length,by exact dW⟩;refine cV (sO (n+1) PJ (by simp[jS];exact bN) (k:=bv (low+j)) (v:=bj (js.length:Nat)) (jB _ (by exact dU)) Rh.1 Rh.2.1) λMe x8 k4 h4=>?_;rw[← xa]at h4
 have ev2:xS ⟨run (n+3)⟩ (.expr (.meth 34 (.l 111) [.l 166,.bi .str [.l 98]])) (S LH) K4=some (.next,S LH,Me):=
  eJ (fc rfl (PJ.recv 34 rfl rfl) (e2 (ay Of) (dq (P.e1 (ay Og)) (nP _ (by exact dW)))) x8) rfl
 have kb4:=h3.keep k4 PJ.c (λe=>D.b e.symm);have kk4:=kk3.keep k4 PJ.c (λe=>D.c e.symm);have Oh:∀ k,k<3->Me[t k]?=some (.list ((aT js k).map .str)):=λk hk=>k4.get (kt3 k hk) (by simp;exact(D.d k hk).2.2);have kr4:=kr3.mono k4 (by simp;exact D.f.2.1)
 have a5:jM Me .append (.obj (t j)) [.str (bj (js.length:Nat))]=some (.none,Me.set (t j) (.list ((aT (js++[j]) j).map .str))):=by
  have hc:js.count j<=js.length:=List.count_le_length;rw[cZ (Oh j Mc) (by rw[length_map,gx];exact DB),jC,if_pos rfl,map_append];rfl
 let N0:St:=Me.set (t j) (.list ((aT (js++[j]) j).map .str))
 have sb:∀ k:Nat,k<3->cB Me (zp t) (.int k)=some (.obj (t k)):=λk hk=>by
  have:k=0\/k=1\/k=2:=by exact yi
  rcases this with rfl |rfl |rfl<;>rfl
 have ev3:xS ⟨run (n+3)⟩ (.expr (.sm .append (.sub (.l 112) (.sm .index (.l 82) [.l 166])) [.bi .str [.l 98]])) (S LH) Me=some (.next,S LH,N0):=
  eJ (gY (bX rfl (gY rfl rfl (P.e1 (ay Of)) (Ck hl Mc)) (sb j Mc)) (cT (Oh j Mc)) (P.e1 (dq (P.e1 (ay Og)) (nP _ (by exact dW)))) a5) rfl
 have k5:Kp [t j] Me N0:=Kp.set (by simp) _ _;refine⟨j,M7,LH,N0,?_,?_,?_⟩
 ·refine(aR (KC:=S KZ) rfl).trans ?_;refine(ae (KC:=S Lb) (aE x1 rfl)).trans ?_;refine(ae (KC:=S Lw) (aE x2 rfl)).trans ?_;refine(ae (KC:=S LF) (aE x3 rfl)).trans ?_;refine(ae y1).trans ?_;refine(ae y2).trans ?_;refine(ae (KC:=S LH) (aE x5 rfl)).trans ?_;refine(ae ev1).trans ?_;refine(ae ev2).trans ?_;exact(ae ev3).trans bB
 ·have hm:∀ k,k<3->t k∈[l,l3,t 0,t 1,t 2]:=λk hk=>by
   have:k=0\/k=1\/k=2:=by exact yi
   rcases this with rfl |rfl |rfl<;>simp
  refine(k1.more (by simp)).trans ((k2.more (by simp)).trans ((k3.more (by simp)).trans ((k4.more (by simp)).trans (k5.more ?_))));intro x hx _;rw[mem_singleton]at hx;rw[hx];exact hm j Mc
 ·refine⟨kb4.keep k5 (Oh j Mc) (D.d j Mc).1,kk4.keep k5 (Oh j Mc) (D.d j Mc).2.1,h4.keep k5 (Oh j Mc) (D.d j Mc).2.2,λk hk=>?_,kr4.mono k5 (by simp;exact D.f.2.2 j Mc)⟩;by_cases q:k=j
  ·subst q;exact getElem?_set_self (al (Oh k hk))
  ·rw[k5.get (Oh k hk) (by simp;exact λe=>q (D.e k j hk Mc e)),jC,if_neg (λe=>q e.symm),append_nil]
noncomputable def dQ (B:dK):List Nat:=(List.range 7).map (cnt B)
noncomputable def gV (c:List Nat)(x:Ru):List Nat:=(List.range 7).map λk=>(if k=x.p then c.getD x.p 0-x.q else c.getD k 0)+(if k=x.r then x.s else 0)
noncomputable def cO (rs:bU)(c:List Nat):List Nat:=(List.range 3).filter λk=>decide ((R rs k).q<=c.getD (R rs k).p 0)
noncomputable def ly (rs:bU)(e v:List Nat):Nat->List Nat->List Nat->Bool
 |0,_,_=>false
 |f+1,c,u=>if cO rs c=[] then c==e&&u==v else (cO rs c).all λk=>ly rs e v f (gV c (R rs k)) (u.set k (u.getD k 0+1))
theorem gy (B:dK){k:Nat}(h:k<7):(dQ B).getD k 0=cnt B k:=by
 rw[dQ,getD_eq_getElem?_getD,getElem?_map,getElem?_range h];rfl
theorem rE (B:dK){x:Ru}(hx:De x):dQ (jg B x)=gV (dQ B) x:=by
 rw[dQ,gV];apply map_congr_left;intro k hk;have Qp:=mem_range.mp hk;rw[jg,uB,gy B Qp,gy B (by have:=hx.1.2;exact dW)]
theorem xc {rs:bU}(ho:Li rs)(B:dK):cO rs (dQ B)=lV rs B:=by
 apply filter_congr;intro k hk;have hR:=(ho.get (mem_range.mp hk)).1;rw[gy B (by have:=hR.1.2;exact dW)]
noncomputable def hJ (js:List Nat):List Nat:=(List.range 3).map λk=>js.count k
theorem uF (js:List Nat){j:Nat}(hj:j<3):hJ (js++[j])=(hJ js).set j ((hJ js).getD j 0+1):=by
 have:j=0\/j=1\/j=2:=by exact yi
 rcases this with rfl |rfl |rfl<;>simp[hJ,show List.range 3=[0,1,2] from rfl]
theorem E1 {ok:St->Bool}(hk:∀ st,ok st=true)(n:Nat)(D:Ds l l2 l3 t rv)(ho:Li rs)(hl:low<30)(K8:sh<5000)(e v:List Nat){uu vv ww:AV}:∀ (f:Nat) (st:St) (B:dK) (js:List Nat) (τ:Loc),PS st i d l i2 d2 l2 i3 d3 l3 t rv rs low sh B js->lL B->B.length+6*f<=300->(∀ j∈js,j<3)->js.length+f=31->ly rs e v f (dQ B) (hJ js)=true ->
  ∃ KA Kw B',bc ok (bW ⟨run (n+3)⟩ (.nm 98) Gr) ((range' js.length f).map λk:Nat=>AV.int k) (Nv i rv low sh c i2 i3 t uu vv ww τ) st=some (.ret (.lst (v.map λk:Nat=>.int k)),KA,Kw)/\Kp [l,l3,t 0,t 1,t 2] st Kw/\Hd Kw i d l (bY B')/\lL B'/\dQ B'=e/\B'.length<=300:=by
 intro f
 induction f with
 |zero=>
  intro st B js τ h hB NF hj KL hg;exact absurd hg LU
 |succ f ih=>
  intro st B js τ h hB NF hj KL hg;rw[show ly rs e v (f+1) (dQ B) (hJ js)=if cO rs (dQ B)=[] then dQ B==e&&hJ js==v else (cO rs (dQ B)).all λk=>ly rs e v f (gV (dQ B) (R rs k)) ((hJ js).set k ((hJ js).getD k 0+1)) from rfl,xc ho]at hg;rw[range'_succ,map_cons];by_cases q:lV rs B=[]
  ·rw[if_pos q]at hg;simp only[and_eq_true,beq_iff_eq]at hg;refine cP (EZ (c:=c) (ok:=true) n h ho hB hl hj (by exact Q1 0x1f2111150401111f2141102 [_,_] KL rfl) q (u:=uu) (v:=vv) (w:=ww) (τ:=τ)) λKA Kw x k p=>?_;refine⟨KA,Kw,B,?_,k.more (by simp),p.hb,hB,hg.1,by exact uN⟩;rw[← hg.2,hJ,map_map];exact BC (hk _) x
  ·rw[if_neg q]at hg;obtain⟨j,M7,KU,Kx,x,k,p⟩:=E0 (c:=c) n h D ho hB (by exact uN) hl K8 hj (by exact Q1 0x1f2111150401111e2141102 [_,_] KL rfl) q (u:=uu) (v:=vv) (w:=ww) (τ:=τ)
   have Mc:j<3:=by
    have:=M7;simp only[lV,mem_filter,mem_range]at this;exact this.1
   have hR:=(ho.get Mc).1
   have hq:(R rs j).q<=cnt B (R rs j).p:=by
    have:=M7;simp only[lV,mem_filter,decide_eq_true_eq]at this;exact this.2
   have N3:=uA B (R rs j).p (R rs j).q (R rs j).r (R rs j).s hq;have Ri:=hR.2.2.2.2;have Rj:=(all_eq_true.mp hg) j M7;rw[← rE B hR,← uF js Mc]at Rj;have hB2:lL (jg B (R rs j)):=uz hB hR.1 hR.2.1 (by exact Q2 0x611511012c3111160612401103e8315401103 [_,_,_] NF Ri rfl)
   obtain⟨KA,Kw,B',x',k',NG,Qq,NS,Nd⟩:=ih Kx (jg B (R rs j)) (js++[j]) KU p hB2 (by simp only[jg]at N3 ⊢;exact Q3 0x611811086074011112c31111506126011012c315612401104 [_,_,_,_,_] NF N3 Ri rfl) (λm hm=>by
    simp only[mem_append,mem_singleton]at hm;rcases hm with hm |rfl
    ·exact hj m hm
    ·exact Mc) (by simp;exact le_antisymm (Q1 0x1f2111150401111f2151114001102 [_,_] KL rfl) (Q1 0x1f21111504011251114001f211102 [_,_] KL rfl)) Rj
   rw[length_append,length_singleton]at x';exact⟨KA,Kw,B',(bR (hk _) x).trans x',k.trans k',NG,Qq,NS,Nd⟩
end
theorem zq {X:Cx}{σ:Loc}{st Kx:St}{e:E}(h:aa X e σ st=some (.none,Kx))(b:Bool):aa X (.isNon e b) σ st=some (.bool (true != b),Kx):=jE h rfl
theorem xd (n:Nat)(σ:Loc)(st:St):∃ Kw,aa ⟨run (n+1)⟩ (.call 20 [.new true (.list [])]) σ st=some (.obj (st.length+2),Kw)/\Kp [] st Kw/\Hd Kw (st.length+2) (st.length+1) st.length []/\Kw.length=st.length+3:=by
 refine yl (EJ n st.length (st++[AO.list []]) (aS st _)) λKw e k h hl=>?_;have l1:(st++[AO.list []]).length=st.length+1:=by simp
 rw[l1]at e h hl;exact⟨Kw,be (P.e1 (eK (cK dn))) e,(Kp.app _ _ _).trans k,h,hl⟩
section
variable {i d l i2 d2 l2:Nat}{rv:AV}{rs:bU}{low sh:Nat}{c:Int}
noncomputable def MH (i:Nat)(rv:AV)(low sh:Nat)(c:Int)(i2:Nat)(τ:Loc):Loc:=(101,.obj i)::(90,rv)::(107,.int low)::(103,.int sh)::(108,.int c)::(82,fS low)::(109,.obj i2)::τ
theorem gb {τ:Loc}(x:Nat)(h:([101,90,107,103,108,82,109]:List Nat).all (λy=>!Nat.beq y x)=true):af (MH i rv low sh c i2 τ) x=af τ x:=by
 simp only[all_cons,all_nil,Bool.and_true,and_eq_true,not_eq_true']at h;refine GW h ?_;clear h;intro h1 h2 h3 h4 h5 h6 h7;simp only[MH,af,h1,h2,h3,h4,h5,h6,h7,if_false,reduceCtorEq]
theorem Ia (n:Nat){k:Nat}(hk:k<3){xs:List Pr}(NJ:xs.length<=100){st:St}(hr:RV st rv rs)(ho:Li rs)(h:Hd st i2 d2 l2 xs)(hl:low<30)(K8:sh<5000)(τ:Loc) :
  ∃ Kw,bW ⟨run (n+3)⟩ (.nm 61) Ch (.int k) (MH i rv low sh c i2 τ) st=some (.next,MH i rv low sh c i2 (ai (ai τ 61 (.int k)) 102 (.str (a0 (R rs k) sh))),Kw)/\Kp [l2] st Kw/\Hd Kw i2 d2 l2 (xs++[(bv (low+k),a0 (R rs k) sh)]):=by
 let KC:=MH i rv low sh c i2 (ai τ 61 (.int k));let K5:=MH i rv low sh c i2 (ai (ai τ 61 (.int k)) 102 (.str (a0 (R rs k) sh)));have NH:af KC 61=some (.int k):=(gb _ (by decide)).trans (ab _ _ _);have g61':af K5 61=some (.int k):=(gb _ (by decide)).trans ((ag _ (by decide) _).trans (ab _ _ _));have g102:af K5 102=some (.str (a0 (R rs k) sh)):=(gb _ (by decide)).trans (ab _ _ _);have x1:=EV (σ:=KC) (n+1) hk hr ho rfl NH rfl K8;refine ak (EW (σ:=K5) (st:=st) (low:=low) (n+2) hk rfl g61' hl) λKx x2 k1=>?_;have bt:=uE (ho.get hk).1 K8;refine cV (sO (n+1) (h.mono k1 (by simp) (by simp) (by simp)) (by exact bN) (k:=bv (low+k)) (jB _ (by exact dU)) bt.1 bt.2) λKy x3 k2 h2=>?_;refine⟨Ky,?_,(k1.more (by simp)).trans k2,h2⟩;refine(aR (KC:=KC) rfl).trans ((ae (KC:=K5) (aE x1 rfl)).trans ((ae (bG (fk (zq (fc rfl (h.recv 34 rfl rfl) (e2 x2 (ay g102)) x3) true) rfl))).trans bB))
theorem Ib (n:Nat){k:Nat}(hk:k<3){xs:List Pr}(NJ:xs.length<=100){st:St}(h:Hd st i2 d2 l2 xs)(hl:low<30)(τ:Loc) :
  ∃ Kw,bW ⟨run (n+3)⟩ (.nm 110) Ci (.str (bv (low+k))) (MH i rv low sh c i2 τ) st=some (.next,MH i rv low sh c i2 (ai τ 110 (.str (bv (low+k)))),Kw)/\Kp [l2] st Kw/\Hd Kw i2 d2 l2 (xs++[(aG (bv (low+k)),[])]):=by
 let KC:=MH i rv low sh c i2 (ai τ 110 (.str (bv (low+k))));have g:af KC 110=some (.str (bv (low+k))):=(gb _ (by decide)).trans (ab _ _ _);refine cV (sO (n+1) h (by exact bN) (k:=aG (bv (low+k))) (v:=[]) (nN _ (by exact dU)) (by decide) (by decide)) λKy x3 k2 h2=>?_;refine⟨Ky,?_,k2,h2⟩;exact(aR (KC:=KC) rfl).trans ((ae (eJ (fc rfl (h.recv 34 rfl rfl) (e2 (gY (ay g) rfl dn (dP (jB _ (by exact dU)))) rfl) x3) rfl)).trans bB)
theorem Cm (n:Nat)(a:List AV)(st:St):run (n+1) 10 a st=bE (run n) [101,90,107,103,108] HK a st:=rfl
theorem AH (n:Nat){B:dK}{st:St}(h:Hd st i d l (bY B))(hr:RV st rv rs)(OA:rv≠.obj l)(ho:Li rs)(hB:lL B)(NF:B.length<=100)(hl:low<30)(K8:sh<5000){e v:List Nat}(hg:ly rs e v 31 (dQ B) [0,0,0]=true) :
  ∃ Kw B',run (n+4) 10 [.obj i,rv,.int low,.int sh,.int c] st=some (.lst (v.map λk:Nat=>.int k),Kw)/\Kp [l] st Kw/\Hd Kw i d l (bY B')/\lL B'/\dQ B'=e/\B'.length<=300:=by
 let X:Cx:=⟨run (n+3)⟩;let m0:=st.length;let Lm:Loc:=[(101,.obj i),(90,rv),(107,.int low),(103,.int sh),(108,.int c)];have Qr:l<m0:=al h.c;have x1:aa X (.new false (.comp (.call 1 [.b .Add (.l 107) (.l 61)]) (.nm 61) (.bi .range1 [.int 3]) [] [107])) Lm st=some (fS low,st):=Cb (n+2) rfl hl;let KC:Loc:=[(101,.obj i),(90,rv),(107,.int low),(103,.int sh),(108,.int c),(82,fS low)];refine yl (xd (n+2) KC st) λs1 x2 k1 Nt PI=>?_;refine cV (Ia (i:=i) (c:=c) n (k:=0) (by decide) (by decide) (hr.mono k1 (by simp)) ho Nt hl K8 []) λs2 y0 k2 PK=>?_
 have r2:RV s2 rv rs:=(hr.mono k1 (by simp)).mono k2 (by
  intro j hj e;rw[mem_singleton]at hj;subst hj;rcases hr with rfl |⟨j,rfl,e2⟩
  ·simp at e
  ·have:=al e2;simp at e;exact not_succ_le_zero 0 (Q2 0x54112511140110011111103 [_,_] this e rfl))
 have PL:∀ j,m0<=j->rv≠.obj j:=by
  intro j hj e;rcases hr with rfl |⟨m,rfl,e2⟩
  ·simp at e
  ·have:=al e2;simp at e;simp only[m0]at hj;exact not_succ_le_zero 0 (Q3 0x5611241116011054110011111104 [_,_,_] hj this e rfl)
 refine cV (Ia (i:=i) (c:=c) n (k:=1) (by decide) (by simp) r2 ho PK hl K8 (ai (ai [] 61 (.int (0:Nat))) 102 (.str (a0 (R rs 0) sh)))) λs3 y1 k3 M9=>?_;have r3:RV s3 rv rs:=r2.mono k3 (by simp;exact PL _ (le_refl _));refine cV (Ia (i:=i) (c:=c) n (k:=2) (by decide) (by simp) r3 ho M9 hl K8 (ai (ai (ai (ai [] 61 (.int (0:Nat))) 102 (.str (a0 (R rs 0) sh))) 61 (.int (1:Nat))) 102 (.str (a0 (R rs 1) sh)))) λs4 y2 k4 hk4=>?_;let LF:Loc:=[(61,.int (2:Nat)),(102,.str (a0 (R rs 2) sh))]
 have lp1:xS X (.for (.nm 61) (.bi .range1 [.int 3]) Ch []) (MH i rv low sh c (m0+2) []) s1=some (.next,MH i rv low sh c (m0+2) LF,s4):=by
  refine fy (dq (P.e1 rfl) (aZ 3 (by decide))) (aL 3 (by decide)) ?_;exact(bR rfl y0).trans ((bR rfl y1).trans ((bR rfl y2).trans (ig rfl)))
 refine cV (Ib (i:=i) (rv:=rv) (sh:=sh) (c:=c) n (k:=0) (by decide) (by simp) hk4 hl LF) λs5 z0 k5 PM=>?_;refine cV (Ib (i:=i) (rv:=rv) (sh:=sh) (c:=c) n (k:=1) (by decide) (by simp) PM hl (ai LF 110 (.str (bv (low+0))))) λs6 z1 k6 hk6=>?_;refine cV (Ib (i:=i) (rv:=rv) (sh:=sh) (c:=c) n (k:=2) (by decide) (by simp) hk6 hl (ai (ai LF 110 (.str (bv (low+0)))) 110 (.str (bv (low+1))))) λs7 z2 k7 Qp=>?_;let Oz:Loc:=[(61,.int (2:Nat)),(102,.str (a0 (R rs 2) sh)),(110,.str (bv (low+2)))]
 have lp2:xS X (.for (.nm 110) (.l 82) Ci []) (MH i rv low sh c (m0+2) LF) s4=some (.next,MH i rv low sh c (m0+2) Oz,s7):=by
  refine fy (v:=fS low) rfl rfl ?_;exact(bR rfl z0).trans ((bR rfl z1).trans ((bR rfl z2).trans (ig rfl)))
 have hbook:Hd s7 (m0+2) (m0+1) m0 (iM rs low sh):=by
  simpa [iM,show List.range 3=[0,1,2] from rfl] using Qp
 refine yl (xd (n+2) (MH i rv low sh c (m0+2) Oz) s7) λs8 x8 k8 hk8 N4=>?_;let l3:=s7.length;let t:Nat->Nat:=λk=>s8.length+k;let s9:St:=((s8++[AO.list []])++[AO.list []])++[AO.list []]
 have x9:aa X (.new false (.list [.new true (.list []),.new true (.list []),.new true (.list [])])) (MH i rv low sh c (m0+2) (ai Oz 111 (.obj (s7.length+2)))) s8=some (zp t,s9):=by
  refine aH (cK (e3 (Kx:=s8++[AO.list []]) (Ky:=(s8++[AO.list []])++[AO.list []]) (eK (cK dn)) ?_ ?_))
  ·rw[show t 1=(s8++[AO.list []]).length by simp[t]];exact eK (cK dn)
  ·rw[show t 2=((s8++[AO.list []])++[AO.list []]).length by simp[t]];exact eK (cK dn)
 have k9:Kp [] s8 s9:=((Kp.app [] s8 _).trans (Kp.app [] _ _)).trans (Kp.app [] _ _);have O6:Kp [m0] s1 s7:=k2.trans (k3.trans (k4.trans (k5.trans (k6.trans k7))));have k07:Kp [m0] st s7:=(k1.more (by simp)).trans O6;have OB:Kp [m0] st s9:=k07.trans ((k8.more (by simp)).trans (k9.more (by simp)));have NT:m0+3<=l3:=by have:=O6.1;simp only[l3];exact Q2 0x561103114061125311401103 [_,_,_] PI this rfl
 have hm8:s8.length=l3+3:=N4
 have w9:∀ k,k<3->s9[t k]?=some (.list ((aT [] k).map .str)):=by
  intro k hk;have:k=0\/k=1\/k=2:=by exact yi
  show(((s8++[AO.list []])++[AO.list []])++[AO.list []])[s8.length+k]?=some (.list []);rcases this with rfl |rfl |rfl<;>simp[getElem?_append]
 have hstart:PS s9 i d l (m0+2) (m0+1) m0 (l3+2) (l3+1) l3 t rv rs low sh B []:=by
  have di:∀ x,x<m0->x∉[m0]:=λx hx=>by simp;exact Dx
  refine⟨h.mono OB (di _ (al h.a)) (di _ (al h.b)) (di _ Qr),?_,?_,w9,hr.mono OB (by simp;exact PL _ (le_refl _))⟩
  ·exact(hbook.mono k8 (by simp) (by simp) (by simp)).mono k9 (by simp) (by simp) (by simp)
  ·exact hk8.mono k9 (by simp) (by simp) (by simp)
 have D:Ds l m0 l3 t rv:=by
  refine⟨by exact Dx,by exact ne_of_lt (Q2 0x5311601106111401105111401103 [_,_,_] Qr NT rfl),by exact ne_of_lt (Q1 0x5311401105111401102 [_,_] NT rfl),λk hk=>⟨by simp only[t];exact ne_of_gt (Q3 0x831170110311805112711140110650111401104 [_,_,_,_,_] Qr N4 NT rfl),by simp only[t];exact ne_of_gt (Q2 0x731140110311705112650111401103 [_,_,_,_] N4 NT rfl),by simp only[t];exact ne_of_gt (Q1 0x311405112650111401102 [_,_,_] N4 rfl)⟩,λk m _ _ e=>by simp only[t]at e;exact le_antisymm (Q1 0x560460111541102 [_,_,_] e rfl) (Q1 0x460560112541102 [_,_,_] e rfl),OA,PL _ (by exact uN),λk hk=>PL _ (by simp only[t];exact Q2 0x73114011031170511265041103 [_,_,_,_] N4 NT rfl)⟩
 refine uS (E1 (c:=c) (ok:=λst=>an st (.rng 0 (31:Nat)) ((List.range 31).map λk:Nat=>AV.int k)) (λ_=>rfl) n D ho hl K8 e v (uu:=.int (2:Nat)) (vv:=.str (a0 (R rs 2) sh)) (ww:=.str (bv (low+2))) 31 s9 B [] [] hstart hB (by exact JU) (by simp) (by simp) hg) λKA Kw B' xl kl NG Qq NS Nd=>?_;refine⟨Kw,B',?_,?_,NG,Qq,NS,Nd⟩
 ·rw[Cm,Cj];refine bT (σ:=Lm) (KC:=KA) rfl ?_;refine(ae (KC:=KC) (aE x1 rfl)).trans ?_;refine(ae (KC:=MH i rv low sh c (m0+2) []) (aE x2 rfl)).trans ?_;refine(ae lp1).trans ?_;refine(ae lp2).trans ?_;refine(ae (aE x8 rfl)).trans ?_;refine(ae (aE x9 rfl)).trans ?_
  exact cy (we (dq (P.e1 rfl) (aZ 31 (by decide))) (aL 31 (by decide)) (by
   rw[range_eq_range'];exact xl))
 ·have a:=OB.more (V:=[l]) (by simp;lia);have hs9:m0<=s9.length:=OB.1;refine⟨le_trans OB.1 kl.1,λj hj Rk=>?_⟩;rw[kl.2 j (lt_of_lt_of_le hj hs9) ?_,OB.2 j hj (by simp;exact Dx)];simp only[mem_cons,not_mem_nil,or_false,not_or,t]at Rk ⊢;refine⟨Rk,by exact ne_of_lt (Q2 0x6111401105311601105111401103 [_,_,_] NT hj rfl),by exact ne_of_lt (Q3 0x7111401106311701103116051120150111401104 [_,_,_,_] N4 NT hj rfl),by exact ne_of_lt (Q3 0x71114011063117011031160511211150111401104 [_,_,_,_] N4 NT hj rfl),by exact ne_of_lt (Q3 0x71114011063117011031160511221150111401104 [_,_,_,_] N4 NT hj rfl)⟩
end
theorem RV.items {st:St}{rv:AV}{rs:bU}(h:RV st rv rs):aF st rv=some (rs.map aV):=by
 rcases h with rfl |⟨j,rfl,e⟩
 ·rfl
 ·simp only[aF,listAt,e]
theorem RV.stands {st:St}{rv:AV}{rs:bU}(h:RV st rv rs):an st rv (rs.map aV)=true:=by
 rcases h with rfl |⟨j,rfl,e⟩
 ·rfl
 ·exact stands_obj e
noncomputable def mJ (z:Nat)(rs:bU):List Int:=(rs.filter λx=>decide (x.r=z)).map (λx=>(x.s:Int)-1)++[(9:Int).fdiv z]
noncomputable def dC (z:Nat)(rs:bU):Int:=(n7 (mJ z rs)).getD 0
theorem mK:∀ (l:List Int),l≠[]->∃ m,n7 l=some m
 |[],h=>absurd rfl h
 |[x],_=>⟨x,rfl⟩
 |x::y::r,_=>by
  refine aw (mK (y::r) (by simp)) λm e=>?_;exact⟨_,by rw[n7,e];rfl⟩
theorem xe (z:Nat)(rs:bU):n7 (mJ z rs)=some (dC z rs):=by
 refine aw (mK (mJ z rs) (by simp[mJ])) λm e=>?_;rw[dC,e];rfl
theorem E2 (n:Nat)(a:List AV)(st:St):run (n+1) 3 a st=bE (run n) [92,90] b3 a st:=rfl
theorem Cn (n:Nat){st:St}{rv:AV}{rs:bU}(h:RV st rv rs)(hl:rs.length<=1000){z:Nat}(hz:1<=z/\z<=9):run (n+1) 3 [.int z,rv] st=some (.int (dC z rs),st):=by
 rw[E2]
 have d1:aK .FloorDiv (.int 9) (.int z)=some (.int ((9:Int).fdiv z)):=by
  exact fO ⟨by exact DD,la (by rw[natAbs_natCast];exact mT)⟩
 have c1:du ⟨run n⟩ (.comp (.b .Sub (.l 163) (.int 1)) (.tup [91,80,75,163]) (.l 90) [.val (.cmp .Eq (.l 75) (.l 92))] [92]) [(92,.int z),(90,rv)] st=some ((rs.filter λx=>decide (x.r=z)).map λx=>.int ((x.s:Int)-1),st):=by
  refine bS rfl h.items (by rw[length_map];exact bN) (bK (λx:Ru=>decide (x.r=z)) aV (λx=>.int ((x.s:Int)-1)) h.stands rs λx _=>?_)
  have e:bJ st .Eq (.int x.r) (.int z)=some (decide (x.r=z)):=by
   rw[bJ,gJ];congr 1;simp;lia
  by_cases q:x.r=z
  ·rw[decide_eq_true q]at e ⊢;exact Dc (KC:=[(92,.int z),(91,.int x.p),(80,.int x.q),(75,.int x.r),(163,.int x.s)]) rfl (uO (bF rfl rfl e)) rfl
  ·rw[decide_eq_false q]at e ⊢;exact Dd (KC:=[(92,.int z),(91,.int x.p),(80,.int x.q),(75,.int x.r),(163,.int x.s)]) rfl (uO (bF rfl rfl e))
 have KL:((rs.filter λx=>decide (x.r=z)).map λx:Ru=>AV.int ((x.s:Int)-1)).length<=1000:=by
  rw[length_map];exact le_trans (length_filter_le _ _) hl
 have b1:gA st .min [.lst (((rs.filter λx=>decide (x.r=z)).map λx:Ru=>AV.int ((x.s:Int)-1))++[.int ((9:Int).fdiv z)])]=some (.int (dC z rs),st):=by
  have:((rs.filter λx=>decide (x.r=z)).map λx:Ru=>AV.int ((x.s:Int)-1))++[.int ((9:Int).fdiv z)]=(mJ z rs).map .int:=by
   simp only[mJ,map_append,map_map];rfl
  rw[this];exact jI (allInts_map _) (congrArg (Option.map λm:Int=>(AV.int m,st)) (xe z rs))
 exact bT rfl (cy (sR (dq (P.e1 (aH (wg (aH c1) (aH (cK (P.e1 (aj rfl rfl d1)))) rfl rfl (by simp at KL ⊢;exact bN)))) b1)))
theorem E3 (n:Nat)(a:List AV)(st:St):run (n+1) 0 a st=bE (run n) [86] b0 a st:=rfl
noncomputable def w0:List S:=[.augI (.l 87) (.b .Mod (.l 61) (.int 5)) .Add (.sub (.l 86) (.l 61))]
theorem E4:b0=[.asg (.nm 87) (.new true (.list [.int 0,.int 6,.int 6,.int 4,.int 5])),.for (.nm 61) (.bi .range1 [.bi .len [.l 86]]) w0 [],.ret (.l 87)]:=rfl
theorem l0 (n:Nat)(l:List Int)(hl:l.length<=1000)(st:St){ok:St->Bool}(hk:∀ st,ok st=true):∀ (ks:List Nat) (cs:List Int) (τ:Loc),(∀ k∈ks,k<l.length)->cs.length=5 ->
  ∃ (MX:List Int) (KU:Loc),MX.length=5/\bc ok (bW ⟨run n⟩ (.nm 61) w0) (ks.map λk:Nat=>AV.int k) ((86,.lst (l.map .int))::(87,.obj st.length)::τ) (st++[.list (cs.map .int)])=some (.next,(86,.lst (l.map .int))::(87,.obj st.length)::KU,st++[.list (MX.map .int)]):=by
 intro ks
 induction ks with
 |nil=>
  intro cs τ _ hc;exact⟨cs,τ,hc,ig (hk _)⟩
 |cons k ks ih=>
  intro cs τ Rn hc;have Nt:=Rn k (by simp);have g:(st++[AO.list (cs.map .int)])[st.length]?=some (.list (cs.map .int)):=aS _ _
  have m1:aK .Mod (.int k) (.int 5)=some (.int ((k%5:Nat):Int)):=by
   rw[dV (by decide),Int.fmod_eq_emod_of_nonneg _ (by exact jY)];rfl
  have PM:k%5<cs.length:=by exact Q2 0x5111114011051151125111401103 [_,_] hc (mod_lt _ (by decide)) rfl
  have s1:cB (st++[AO.list (cs.map .int)]) (.obj st.length) (.int ((k%5:Nat):Int))=some (.int cs[k%5]):=
   cG g (by rw[getElem?_map,getElem?_eq_getElem PM];rfl) (by exact yr)
  have s2:cB (st++[AO.list (cs.map .int)]) (.lst (l.map .int)) (.int k)=some (.int l[k]):=by
   exact fP (by rw[getElem?_map,getElem?_eq_getElem Nt];rfl) (by exact Q2 0x5111401103e8315110f424051111401103 [_,_] hl Nt rfl)
  have s3:=gn (v:=.int (cs[k%5]+l[k])) g (k:=k%5) (by rw[length_map];exact PM) (by exact yr)
  have s4:(st++[AO.list (cs.map .int)]).set st.length (.list ((cs.map AV.int).set (k%5) (.int (cs[k%5]+l[k]))))=st++[.list ((cs.set (k%5) (cs[k%5]+l[k])).map .int)]:=by
   rw[map_set];simp
  rw[s4]at s3;refine dh (ih (cs.set (k%5) (cs[k%5]+l[k])) (ai τ 61 (.int k)) (λx hx=>Rn x (by simp[hx])) (by simpa using hc)) λMX KU NS e=>?_;refine⟨MX,KU,NS,?_⟩;rw[map_cons]
  have NH:af ((86,.lst (l.map .int))::(87,.obj st.length)::ai τ 61 (.int k)) 61=some (.int k):=by
   show af (ai τ 61 (.int k)) 61=_;exact ab _ _ _
  exact(bR (hk _) ((aR (KC:=(86,.lst (l.map .int))::(87,.obj st.length)::ai τ 61 (.int k)) rfl).trans ((ae (se rfl (aj (ay NH) rfl m1) s1 (bX rfl (ay NH) s2) (cC rfl) s3)).trans bB))).trans e
theorem Ic (n:Nat)(l:List Int)(hl:l.length<=1000)(st:St):∃ cs:List Int,cs.length=5/\run (n+1) 0 [.lst (l.map .int)] st=some (.obj st.length,st++[.list (cs.map .int)]):=by
 refine dh (l0 n l hl st (ok:=λst=>an st (.rng 0 (l.length:Nat)) ((List.range l.length).map λk:Nat=>AV.int k)) (λ_=>rfl) (List.range l.length) [0,6,6,4,5] [] (λk hk=>mem_range.mp hk) rfl) λMX KU hc e=>?_;refine⟨MX,hc,?_⟩;rw[E3,E4]
 have KL:∀ Kw,gA Kw .len [.lst (l.map .int)]=some (.int (l.length:Nat),Kw):=λKw=>by
  rw[j9 (by rw[length_map];exact bN),length_map]
 exact bT rfl ((ae (aE (eK (cK rfl)) rfl)).trans ((ae (fy (dq (P.e1 (dq (P.e1 rfl) (KL _))) (aZ _ (by exact dW))) (aL _ (by exact dW)) e)).trans (cy (sR rfl))))
noncomputable def jD (p q:Nat)(rs:bU):List Nat:=(range' 1 (p*q)).filter λr=>decide (p*q%r=0)&&!((p::rs.map (·.r)).contains r)
theorem fE {st:St}(a b:Nat)(ha:a<1000000)(h:b<1000000):gA st .range2 [.int a,.int b]=some (.rng a b,st):=by
 have:(a:Int).natAbs<2^61/\(b:Int).natAbs<2^61:=by rw[natAbs_natCast,natAbs_natCast];exact I3 (by assumption) (by assumption)
 exact if_pos this
theorem eP {st:St}(a n:Nat)(h:a+n<1000000):aF st (.rng a ((a+n:Nat):Int))=some ((range' a n).map λk:Nat=>AV.int k):=by
 have:(a:Int).natAbs<2^61/\((a+n:Nat):Int).natAbs<2^61:=by rw[natAbs_natCast,natAbs_natCast];exact I3 (lt_of_le_of_lt (le_add_right a n) (by assumption)) (by assumption)
 simp only[aF,if_pos this,kW];rw[show(((a+n:Nat):Int)-(a:Int)).toNat=n by exact JE,List.range'_eq_map_range,map_map];congr 1
theorem nQ (st:St)(a b:Nat)(h:b≠0):aK .Mod (.int a) (.int b)=some (.int ((a%b:Nat):Int)):=by
 rw[dV (by exact G3),Int.fmod_eq_emod_of_nonneg _ (by exact jY)];rfl
theorem nR (a b:Nat)(h:b≠0)(h2:b<1000000):aK .FloorDiv (.int a) (.int b)=some (.int ((a/b:Nat):Int)):=by
 rw[fO ⟨by exact G3,la (by rw[natAbs_natCast];exact bN)⟩,fdiv_eq_ediv_of_nonneg _ (by exact jY)];rfl
theorem dD (a b:Nat)(h:a<1000000):aK .Mult (.int a) (.int b)=some (.int ((a*b:Nat):Int)):=by
 rw[mul_int (by rw[natAbs_natCast];exact bN)];simp
theorem rF (l:List Nat)(a:Nat):qm (l.map λk:Nat=>(k:Int)) a=l.contains a:=by
 induction l with
 |nil=>rfl
 |cons x l ih=>
  have e:qm ((x::l).map λk:Nat=>(k:Int)) a=(((x:Int)==(a:Int))||qm (l.map λk:Nat=>(k:Int)) a):=rfl;rw[e,ih,List.contains_cons];congr 1;by_cases h:a=x
  ·subst h;simp
  ·have h1:¬ (x:Int)=(a:Int):=by lia
   rw[beq_eq_false_iff_ne.mpr h1,beq_eq_false_iff_ne.mpr h]
theorem E5 (n:Nat)(a:List AV)(st:St):run (n+1) 2 a st=bE (run n) [87] b2 a st:=rfl
noncomputable def Ie:C:=.val (.cmp .Eq (.b .Mod (.b .Mult (.l 91) (.l 80)) (.l 75)) (.int 0))
noncomputable def Ig:C:=.val (.cmp .NotIn (.l 75) (.l 160))
noncomputable def w2:List S:=[.asg (.nm 80) (.b .Add (.int 2) (.b .Mod (.sub (.l 87) (.b .Sub (.l 91) (.int 1))) (.b .Sub (.int 4) (.l 91)))),.asg (.nm 160) (.new false (.cat (.new false (.list [.l 91])) (.new false (.comp (.sub (.l 162) (.int 2)) (.nm 162) (.l 90) [] [])))),.asg (.nm 94) (.new false (.comp (.l 75) (.nm 75) (.bi .range2 [.int 1,.b .Add (.b .Mult (.l 91) (.l 80)) (.int 1)]) [.and Ie Ig] [91,80,160])),.asg (.nm 75) (.sub (.l 94) (.b .Mod (.b .FloorDiv (.sub (.l 87) (.b .Sub (.l 91) (.int 1))) (.int 6)) (.bi .len [.l 94]))),.expr (.sm .append (.l 90) [.tup [.l 91,.l 80,.l 75,.b .FloorDiv (.b .Mult (.l 91) (.l 80)) (.l 75)]])]
theorem E6:b2=[.asg (.nm 90) (.new true (.list [])),.for (.nm 91) (.bi .range2 [.int 1,.int 4]) w2 [],.ret (.l 90)]:=rfl
noncomputable def LB (a c:Nat)(τ:Loc):Loc:=(87,.obj a)::(90,.obj c)::τ
theorem gr {a c:Nat}{τ:Loc}(x:Nat)(h:Nat.beq 87 x=false)(h2:Nat.beq 90 x=false):af (LB a c τ) x=af τ x:=by
 simp only[LB,af,h,h2,if_false,reduceCtorEq]
theorem t2 (n:Nat){a c:Nat}{st:St}{cs:List Int}{rs:bU}(LP:cs.length=5)(ha:st[a]?=some (.list (cs.map .int)))(hc:st[c]?=some (.list (rs.map aV)))(Ml:rs.length<=3){p:Nat}(hp:1<=p/\p<=3)(hf:∀ q,q<4-p->jD p (2+q) rs≠[])(τ:Loc) :
  ∃ (q r:Nat) (KU:Loc),q<4-p/\r∈jD p (2+q) rs/\bW ⟨run n⟩ (.nm 91) w2 (.int p) (LB a c τ) st=some (.next,LB a c KU,st.set c (.list ((rs++[Ru.mk p (2+q) r (p*(2+q)/r)]).map aV))):=by
 have Ro:p-1<cs.length:=by exact Q3 0x611140111311611051151125111401104 [_,_,_] LP hp.2 (sub_add_cancel (Q1 0x411111041111102 [_] hp.1 rfl)) rfl
 let x:=cs[p-1];have f0:0<=x.fmod ((4:Int)-p):=fmod_nonneg_of_pos _ (GS hp.2);have f1:x.fmod ((4:Int)-p)<(4:Int)-p:=fmod_lt_of_pos _ (GS hp.2);let qq:=(x.fmod ((4:Int)-p)).toNat;have Qs:qq<4-p:=JK hp.2 f0 f1;have hq:((2+qq:Nat):Int)=2+x.fmod ((4:Int)-p):=congrArg ((2:Int)+·) (zR f0);let q:=2+qq;let F:=jD p q rs;have hF:F≠[]:=hf qq Qs;have hF0:0<F.length:=length_pos_iff.mpr hF
 have O7:p*q<=100:=by
  have:q<=5:=by simp only[q];exact Q2 0x411650111511140110511421101103 [_,_,_] Qs (sub_add_cancel (Q1 0x311411041141102 [_] hp.2 rfl)) rfl
  exact le_trans (mul_le_mul hp.2 this) (by decide)
 have Qt:F.length<=100:=le_trans (length_filter_le _ _) (by rw[List.length_range'];exact O7);have j0:0<=(x.fdiv 6).fmod (F.length:Int):=fmod_nonneg_of_pos _ (by exact uM);have j1:(x.fdiv 6).fmod (F.length:Int)<(F.length:Int):=fmod_lt_of_pos _ (by exact uM);let j:=((x.fdiv 6).fmod (F.length:Int)).toNat;have hj:j<F.length:=C6 j0 j1;have Qu:(x.fdiv 6).fmod (F.length:Int)=(j:Int):=(zR j0).symm;let r:=F[j];have hr:r∈F:=getElem_mem hj
 have Nx:1<=r/\r<1000:=by
  have:=(mem_filter.mp hr).1;rw[mem_range']at this;refine ak this ?_;clear this;intro k hk e;exact JL hk O7 e
 let gone:List AV:=(p::rs.map (·.r)).map λk:Nat=>AV.int k;let KZ:=ai τ 91 (.int p);let Lb:=ai KZ 80 (.int q);let Lw:=ai Lb 160 (.lst gone);let LF:=ai Lw 94 (.lst (F.map λk:Nat=>AV.int k));let LH:=ai LF 75 (.int r);have g91_1:af (LB a c KZ) 91=some (.int p):=(gr _ rfl rfl).trans (ab _ _ _);have g91_2:af (LB a c Lb) 91=some (.int p):=(gr _ rfl rfl).trans ((ag _ (by decide) _).trans (ab _ _ _));have g91_3:af (LB a c Lw) 91=some (.int p):=(gr _ rfl rfl).trans ((ag _ (by decide) _).trans ((ag _ (by decide) _).trans (ab _ _ _)));have g80_3:af (LB a c Lw) 80=some (.int q):=(gr _ rfl rfl).trans ((ag _ (by decide) _).trans (ab _ _ _));have g160_3:af (LB a c Lw) 160=some (.lst gone):=(gr _ rfl rfl).trans (ab _ _ _);have g94_4:af (LB a c LF) 94=some (.lst (F.map λk:Nat=>AV.int k)):=(gr _ rfl rfl).trans (ab _ _ _);have g91_4:af (LB a c LF) 91=some (.int p):=(gr _ rfl rfl).trans ((ag _ (by decide) _).trans ((gr (a:=a) (c:=c) _ rfl rfl).symm.trans g91_3));have g91_5:af (LB a c LH) 91=some (.int p):=(gr _ rfl rfl).trans ((ag _ (by decide) _).trans ((gr (a:=a) (c:=c) _ rfl rfl).symm.trans g91_4));have g80_5:af (LB a c LH) 80=some (.int q):=(gr _ rfl rfl).trans ((ag _ (by decide) _).trans ((ag _ (by decide) _).trans ((gr (a:=a) (c:=c) _ rfl rfl).symm.trans g80_3)));have g75_5:af (LB a c LH) 75=some (.int r):=(gr _ rfl rfl).trans (ab _ _ _)
 have sx:∀ Kw,Kw[a]?=some (.list (cs.map .int))->cB Kw (.obj a) (.int ((p:Int)-1))=some (.int x):=λKw h=>by
  rw[show(p:Int)-1=((p-1:Nat):Int) by exact Hl];exact cG h (by rw[getElem?_map,getElem?_eq_getElem Ro];rfl) (by exact Q2 0x5111401105115111f424051111401103 [_,_] LP Ro rfl)
 have x1:aa ⟨run n⟩ (.b .Add (.int 2) (.b .Mod (.sub (.l 87) (.b .Sub (.l 91) (.int 1))) (.b .Sub (.int 4) (.l 91)))) (LB a c KZ) st=some (.int q,st):=by
  refine aj rfl (aj (v:=.int (x.fmod ((4:Int)-p))) (bX rfl (aj (ay g91_1) rfl rfl) (sx st ha)) (aj rfl (ay g91_1) rfl) ?_) ?_
  ·exact dV (Int.ne_of_gt (GS hp.2))
  ·show some _=some _;rw[hq]
 have x2:aa ⟨run n⟩ (.new false (.cat (.new false (.list [.l 91])) (.new false (.comp (.sub (.l 162) (.int 2)) (.nm 162) (.l 90) [] [])))) (LB a c Lb) st=some (.lst gone,st):=by
  have c1:du ⟨run n⟩ (.comp (.sub (.l 162) (.int 2)) (.nm 162) (.l 90) [] []) (LB a c Lb) st=some (rs.map λy=>.int y.r,st):=
   bS rfl (eB hc) (by rw[length_map];exact bN) (aD aV (λy=>.int y.r) (stands_obj hc) rs λy _=>lK rfl (bX lU rfl rfl))
  have:gone=[.int p]++rs.map λy=>AV.int y.r:=by simp only[gone,map_cons,map_map];rfl
  rw[this];exact aH (wg (aH (cK (P.e1 (ay g91_2)))) (aH c1) rfl rfl (by simp;exact Du))
 have x3:aa ⟨run n⟩ (.new false (.comp (.l 75) (.nm 75) (.bi .range2 [.int 1,.b .Add (.b .Mult (.l 91) (.l 80)) (.int 1)]) [.and Ie Ig] [91,80,160])) (LB a c Lw) st=some (.lst (F.map λk:Nat=>AV.int k),st):=by
  have b1:aN ⟨run n⟩ [.int 1,.b .Add (.b .Mult (.l 91) (.l 80)) (.int 1)] (LB a c Lw) st=some ([.int (1:Nat),.int ((1+p*q:Nat):Int)],st):=
   e2 rfl (aj (aj (ay g91_3) (ay g80_3) (dD p q (by exact mT))) rfl (congrArg (λx:Nat=>some (AV.int x)) (add_comm (p*q) 1)))
  refine aH (bS (dq b1 (fE 1 (1+p*q) (by decide) (by exact Gk))) (eP 1 (p*q) (by exact Gk)) (by simp;exact bN) ?_);refine bK (λr=>decide (p*q%r=0)&&!((p::rs.map (·.r)).contains r)) (λk:Nat=>AV.int k) (λk:Nat=>AV.int k) rfl (range' 1 (p*q)) λk hk=>?_
  have hk0:k≠0:=by
   rw[mem_range']at hk;refine ak hk ?_;clear hk;intro i _ e;exact ne_of_gt (Q1 0x51121110411241110101102 [_,_] e rfl)
  have ca:aJ ⟨run n⟩ Ie (ai (aX (LB a c Lw) [91,80,160]) 75 (.int k)) st=some (decide (p*q%k=0),st):=by
   refine bF (aj (aj (gt g91_3 rfl (by decide)) (gt g80_3 rfl (by decide)) (dD p q (by exact mT))) lU (nQ st (p*q) k hk0)) rfl ?_;rw[bJ,gJ];exact congrArg some (decide_eq_decide.mpr Int.natCast_eq_zero)
  have cb:aJ ⟨run n⟩ Ig (ai (aX (LB a c Lw) [91,80,160]) 75 (.int k)) st=some (!((p::rs.map (·.r)).contains k),st):=by
   refine bF lU (gt g160_3 rfl (by decide)) ?_;show Option.map (λl=>!qm l (k:Int)) (allInts ((p::rs.map (·.r)).map λk:Nat=>AV.int k))=_;rw[fN,map_some,rF]
  by_cases q1:p*q%k=0
  ·rw[decide_eq_true q1]at ca ⊢;have cc:=si ca cb;by_cases q2:(p::rs.map (·.r)).contains k=true
   ·rw[q2]at cc ⊢;exact Dd rfl (uO cc)
   ·rw[eq_false_iff.mpr q2]at cc ⊢;exact Dc rfl (uO cc) lU
  ·rw[decide_eq_false q1]at ca ⊢;exact Dd rfl (uO (wf ca))
 have x4:aa ⟨run n⟩ (.sub (.l 94) (.b .Mod (.b .FloorDiv (.sub (.l 87) (.b .Sub (.l 91) (.int 1))) (.int 6)) (.bi .len [.l 94]))) (LB a c LF) st=some (.int r,st):=by
  have d1:aK .FloorDiv (.int x) (.int 6)=some (.int (x.fdiv 6)):=by
   exact fO ⟨by decide,la (by decide)⟩
  have m1:aK .Mod (.int (x.fdiv 6)) (.int (F.length:Nat))=some (.int j):=by
   refine Eq.trans (dV (by exact yq)) ?_;rw[Qu]
  have KL:gA st .len [.lst (F.map λk:Nat=>AV.int k)]=some (.int (F.length:Nat),st):=by
   rw[j9 (by rw[length_map];exact bN),length_map]
  refine bX (ay g94_4) (aj (aj (bX rfl (aj (ay g91_4) rfl rfl) (sx st ha)) rfl d1) (dq (P.e1 (ay g94_4)) KL) m1) ?_;exact fP (by rw[getElem?_map,getElem?_eq_getElem hj];rfl) (by exact Q2 0x51114011064215110f424051111401103 [_,_] Qt hj rfl)
 have x5:xS ⟨run n⟩ (.expr (.sm .append (.l 90) [.tup [.l 91,.l 80,.l 75,.b .FloorDiv (.b .Mult (.l 91) (.l 80)) (.l 75)]])) (LB a c LH) st=some (.next,LB a c LH,st.set c (.list ((rs++[Ru.mk p q r (p*q/r)]).map aV))):=by
  have ap:=cZ (v:=aV (Ru.mk p q r (p*q/r))) hc (by rw[length_map];exact dW);rw[show rs.map aV++[aV (Ru.mk p q r (p*q/r))]=(rs++[Ru.mk p q r (p*q/r)]).map aV by simp]at ap;exact eJ (gY rfl (cT hc) (P.e1 (kZ (fA (ay g91_5) (e3 (ay g80_5) (ay g75_5) (aj (aj (ay g91_5) (ay g80_5) (dD p q (by exact mT))) (ay g75_5) (nR (p*q) r (by exact Hm) (by exact uT))))))) ap) rfl
 refine⟨qq,r,LH,Qs,hr,?_⟩;refine(aR (KC:=LB a c KZ) rfl).trans ?_;refine(ae (KC:=LB a c Lb) (aE x1 rfl)).trans ?_;refine(ae (KC:=LB a c Lw) (aE x2 rfl)).trans ?_;refine(ae (KC:=LB a c LF) (aE x3 rfl)).trans ?_;refine(ae (KC:=LB a c LH) (aE x4 rfl)).trans ?_;exact(ae x5).trans bB
noncomputable def next (p:Nat)(rs:bU):List bU:=(List.range (4-p)).flatMap λq=>(jD p (2+q) rs).map λr=>rs++[Ru.mk p (2+q) r (p*(2+q)/r)]
noncomputable def all1:List bU:=next 1 []
noncomputable def all2:List bU:=all1.flatMap (next 2)
noncomputable def cS:List bU:=all2.flatMap (next 3)
theorem lz {p q r:Nat}{rs:bU}(hq:q<4-p)(hr:r∈jD p (2+q) rs):rs++[Ru.mk p (2+q) r (p*(2+q)/r)]∈next p rs:=by
 rw[next,mem_flatMap];exact⟨q,mem_range.mpr hq,mem_map_of_mem (f:=λr=>rs++[Ru.mk p (2+q) r (p*(2+q)/r)]) hr⟩
theorem E7:∀ q,q<4-1->jD 1 (2+q) []≠[]:=by decide
theorem E8:∀ rs∈all1,∀ q,q<4-2->jD 2 (2+q) rs≠[]:=by decide +kernel
theorem E9:∀ rs∈all2,∀ q,q<4-3->jD 3 (2+q) rs≠[]:=by decide +kernel
theorem N8:∀ rs∈all1,rs.length=1:=by decide +kernel
theorem N9:∀ rs∈all2,rs.length=2:=by decide +kernel
theorem Ih (n:Nat){a:Nat}{st:St}{cs:List Int}(LP:cs.length=5)(ha:st[a]?=some (.list (cs.map .int))):∃ rs∈cS,run (n+1) 2 [.obj a] st=some (.obj st.length,st++[.list (rs.map aV)]):=by
 let c:=st.length;let s1:St:=st++[.list (([]:bU).map aV)];have hac:c≠a:=λe=>by have:=al ha;simp only[c]at e;exact not_succ_le_zero 0 (Q2 0x41115011054111011111103 [_,_] e this rfl)
 have g1:s1[c]?=some (.list (([]:bU).map aV)):=aS _ _;refine kg (t2 n LP (cz ha:s1[a]?=_) g1 (by simp) (p:=1) (by decide) E7 []) λq1 r1 KZ hq1 Nx y1=>?_;let R1:bU:=[]++[Ru.mk 1 (2+q1) r1 (1*(2+q1)/r1)];have m1:R1∈all1:=lz hq1 Nx;have Oi:∀ (A B:bU),(st++[AO.list (A.map aV)]).set c (.list (B.map aV))=st++[.list (B.map aV)]:=λA B=>by simp[c]
 rw[Oi]at y1;refine kg (t2 n LP (cz ha:(st++[AO.list (R1.map aV)])[a]?=_) (aS _ _) (by rw[N8 R1 m1];decide) (p:=2) (by decide) (E8 R1 m1) KZ) λq2 r2 Lb Qv Nc y2=>?_;let R2:bU:=R1++[Ru.mk 2 (2+q2) r2 (2*(2+q2)/r2)];have m2:R2∈all2:=mem_flatMap.mpr ⟨R1,m1,lz Qv Nc⟩;rw[Oi]at y2;refine kg (t2 n LP (cz ha:(st++[AO.list (R2.map aV)])[a]?=_) (aS _ _) (by rw[N9 R2 m2];decide) (p:=3) (by decide) (E9 R2 m2) Lb) λq3 r3 Lw hq3 Oe y3=>?_;let R3:bU:=R2++[Ru.mk 3 (2+q3) r3 (3*(2+q3)/r3)];have m3:R3∈cS:=mem_flatMap.mpr ⟨R2,m2,lz hq3 Oe⟩;rw[Oi]at y3;refine⟨R3,m3,?_⟩;rw[E5,E6];refine bT (KC:=LB a c Lw) rfl ((ae (KC:=LB a c []) (aE (eK (cK dn)) rfl)).trans ((ae (fy (dq (e2 (x:=.int (1:Nat)) (y:=.int (4:Nat)) rfl rfl) (fE 1 4 (by decide) (by decide))) (eP 1 3 (by decide)) ?_)).trans (cy (sR rfl))));exact(bR rfl y1).trans ((bR rfl y2).trans ((bR rfl y3).trans (ig rfl)))
noncomputable def mL (rs:bU):bU:=rs.filter λx=>decide ((x.q:Int)<=dC x.p rs)
noncomputable def iN (rs:bU)(L:List Nat)(z:Nat):List Nat:=if L.sum+z<=9/\(L.count z:Int)<dC z rs then L++[z] else L
noncomputable def nS (rs:bU)(x:Ru)(a b c:Nat):List Nat:=iN rs (iN rs (iN rs (replicate x.q x.p) (1+a)) (1+b)) (1+c)
theorem cL (l:List Nat):allInts (l.map λk:Nat=>AV.int k)=some (l.map λk:Nat=>(k:Int)):=fN _ l
theorem nT (l:List Nat):(l.map λk:Nat=>(k:Int)).sum=(l.sum:Nat):=by
 induction l with
 |nil=>rfl
 |cons a l ih=>rw[map_cons,sum_cons,ih,sum_cons];lia
theorem uG (l:List Nat)(z:Nat):(l.map λk:Nat=>(k:Int)).count (z:Int)=l.count z:=by
 induction l with
 |nil=>rfl
 |cons a l ih=>
  rw[map_cons];by_cases h:a=z
  ·subst h;rw[count_cons_self,count_cons_self,ih]
  ·rw[count_cons_of_ne (by exact Dv),count_cons_of_ne h,ih]
theorem sY {st:St}{i:Nat}{l:List Nat}(h:st[i]?=some (.list (l.map λk:Nat=>.int k))):gA st .sum [.obj i]=some (.int (l.sum:Nat),st):=by
 exact jV (mH h) (jI (cL l) (congrArg (λi=>some (AV.int i,st)) (nT l)))
theorem jh {st:St}{i:Nat}{l:List Nat}(h:st[i]?=some (.list (l.map λk:Nat=>.int k)))(z:Nat):jM st .count (.obj i) [.int z]=some (.int (l.count z:Nat),st):=by
 exact jV (mH h) (jI (cL l) (congrArg (λc:Nat=>some (AV.int c,st)) (uG l z)))
theorem Fa (n:Nat)(a:List AV)(st:St):run (n+1) 4 a st=bE (run n) [93,90] b4 a st:=rfl
noncomputable def w4:List S:=[.asg (.nm 92) (.b .Add (.int 1) (.b .FloorDiv (.b .Mod (.b .FloorDiv (.l 93) (.b .Pow (.int 8) (.l 61))) (.int 8)) (.int 2))),.iff (.and (.val (.cmp .LtE (.b .Add (.bi .sum [.l 95]) (.l 92)) (.int 9))) (.val (.cmp .Lt (.sm .count (.l 95) [.l 92]) (.call 3 [.l 92,.l 90])))) [.expr (.sm .append (.l 95) [.l 92])] []]
theorem Fb:b4=[.asg (.nm 94) (.new false (.comp (.l 162) (.nm 162) (.l 90) [.val (.cmp .GtE (.call 3 [.sub (.l 162) (.int 0),.l 90]) (.sub (.l 162) (.int 1)))] [90])),.asg (.tup [91,80,75,163]) (.sub (.l 94) (.b .Mod (.l 93) (.bi .len [.l 94]))),.asg (.nm 95) (.new true (.rep (.l 91) (.l 80))),.for (.nm 61) (.bi .range1 [.int 3]) w4 [],.ret (.l 95)]:=rfl
noncomputable def σs (num:Int)(rv fr:AV)(x:Ru)(c:Nat)(τ:Loc):Loc:=(93,.int num)::(90,rv)::(94,fr)::(91,.int x.p)::(80,.int x.q)::(75,.int x.r)::(163,.int x.s)::(95,.obj c)::τ
theorem gs {num:Int}{rv fr:AV}{x:Ru}{c:Nat}{τ:Loc}(y:Nat)(h:([93,90,94,91,80,75,163,95]:List Nat).all (λz=>!Nat.beq z y)=true):af (σs num rv fr x c τ) y=af τ y:=by
 simp only[all_cons,all_nil,Bool.and_true,and_eq_true,not_eq_true']at h;refine GX h ?_;clear h;intro h1 h2 h3 h4 h5 h6 h7 h8;simp only[σs,af,h1,h2,h3,h4,h5,h6,h7,h8,if_false,reduceCtorEq]
theorem Ii (k:Nat)(h:k<3):aK .Pow (.int 8) (.int k)=some (.int ((8:Int)^k)):=by
 have:(2:Int)<=8/\(8:Int)<=8/\(0:Int)<=(k:Int)/\(k:Int)<=100:=by lia
 exact if_pos this
theorem t4 (n:Nat){st:St}{num:Int}{rv fr:AV}{rs:bU}{x:Ru}{c:Nat}{L:List Nat}(h:RV st rv rs)(Ml:rs.length<=1000)(hc:st[c]?=some (.list (L.map λk:Nat=>.int k)))(PN:rv≠.obj c)(hL:L.length<=1000){k:Nat}(hk:k<3)(τ:Loc) :
  ∃ (a:Nat) (KU:Loc),a<4/\bW ⟨run (n+1)⟩ (.nm 61) w4 (.int k) (σs num rv fr x c τ) st=some (.next,σs num rv fr x c KU,st.set c (.list ((iN rs L (1+a)).map λk:Nat=>.int k))):=by
 have p8:((8:Int)^k).natAbs<2^64/\(8:Int)^k≠0:=by
  have:k=0\/k=1\/k=2:=by exact yi
  rcases this with rfl |rfl |rfl<;>decide
 let y:=(num.fdiv ((8:Int)^k)).fmod 8;have y0:0<=y:=fmod_nonneg_of_pos _ (by decide);have y1:y<8:=fmod_lt_of_pos _ (by decide)
 have PG:y.fdiv 2=((y.toNat/2:Nat):Int):=by
  exact(fdiv_eq_ediv_of_nonneg _ (by decide)).trans (zS y0)
 let a:=y.toNat/2;have ha:a<4:=Nat.div_lt_of_lt_mul (C6 y0 y1);let KZ:=ai τ 61 (.int k);let Lb:=ai KZ 92 (.int ((1+a:Nat):Int));have NH:af (σs num rv fr x c KZ) 61=some (.int k):=(gs _ (by decide)).trans (ab _ _ _);have OC:af (σs num rv fr x c Lb) 92=some (.int ((1+a:Nat):Int)):=(gs _ (by decide)).trans (ab _ _ _)
 have x1:aa ⟨run (n+1)⟩ (.b .Add (.int 1) (.b .FloorDiv (.b .Mod (.b .FloorDiv (.l 93) (.b .Pow (.int 8) (.l 61))) (.int 8)) (.int 2))) (σs num rv fr x c KZ) st=some (.int ((1+a:Nat):Int),st):=by
  refine aj rfl (aj (v:=.int (a:Int)) (aj (v:=.int y) (aj (v:=.int (num.fdiv ((8:Int)^k))) rfl (aj rfl (ay NH) (Ii k hk)) ?_) rfl ?_) rfl ?_) ?_
  ·exact fO ⟨p8.2,la p8.1⟩
  ·exact dV (by decide)
  ·refine Eq.trans (fO ⟨by decide,la (by decide)⟩) ?_;rw[PG]
  ·exact congrArg (λx=>some (AV.int x)) (show(1:Int)+(a:Int)=((1+a:Nat):Int) from rfl)
 have z1:1<=1+a/\1+a<=9:=⟨le_add_right ..,le_trans (add_le_add_left (le_of_lt ha) 1) (by decide)⟩;refine⟨a,Lb,ha,?_⟩;refine(aR (KC:=σs num rv fr x c KZ) rfl).trans ((ae (KC:=σs num rv fr x c Lb) (aE x1 rfl)).trans ((ae (KC:=σs num rv fr x c Lb) (Kx:=st.set c (.list ((iN rs L (1+a)).map λk:Nat=>.int k))) ?_).trans bB))
 have ca:aJ ⟨run (n+1)⟩ (.val (.cmp .LtE (.b .Add (.bi .sum [.l 95]) (.l 92)) (.int 9))) (σs num rv fr x c Lb) st=some (decide (L.sum+(1+a)<=9),st):=by
  refine bF (aj (dq (P.e1 rfl) (sY hc)) (ay OC) (cU _ _)) rfl ?_;exact congrArg some (decide_eq_decide.mpr (ofNat_le (n:=9)))
 have cb:aJ ⟨run (n+1)⟩ (.val (.cmp .Lt (.sm .count (.l 95) [.l 92]) (.call 3 [.l 92,.l 90]))) (σs num rv fr x c Lb) st=some (decide ((L.count (1+a):Int)<dC (1+a) rs),st):=
  bF (gY rfl (cT hc) (P.e1 (ay OC)) (jh hc (1+a))) (be (e2 (ay OC) rfl) (Cn n h Ml z1)) rfl
 have same:st.set c (.list (L.map λk:Nat=>.int k))=st:=by
  apply ext_getElem? ;intro j;by_cases hj:c=j
  ·subst hj;rw[hc,getElem?_set_self (al hc)]
  ·rw[getElem?_set_ne hj]
 by_cases q1:L.sum+(1+a)<=9
 ·rw[decide_eq_true q1]at ca;by_cases q2:(L.count (1+a):Int)<dC (1+a) rs
  ·rw[decide_eq_true q2]at cb;rw[iN,if_pos ⟨q1,q2⟩];have ap:=cZ (v:=.int ((1+a:Nat):Int)) hc (by rw[length_map];exact dW);rw[show(L.map λk:Nat=>AV.int k)++[.int ((1+a:Nat):Int)]=(L++[1+a]).map λk:Nat=>AV.int k by simp]at ap;exact(dO (si ca cb)).trans ((ae (eJ (gY rfl (cT hc) (P.e1 (ay OC)) ap) rfl)).trans bB)
  ·rw[decide_eq_false q2]at cb;rw[iN,if_neg (λe=>q2 e.2),same];exact bG (si ca cb)
 ·rw[decide_eq_false q1]at ca;rw[iN,if_neg (λe=>q1 e.1),same];exact bG (wf ca)
theorem Ij (n:Nat){st:St}{num:Int}{rv:AV}{rs:bU}(h:RV st rv rs)(ho:Li rs)(hf:mL rs≠[]):∃ (x:Ru) (a b c:Nat),x∈mL rs/\a<4/\b<4/\c<4/\run (n+2) 4 [.int num,rv] st=some (.obj st.length,st++[.list ((nS rs x a b c).map λk:Nat=>.int k)]):=by
 let F:=mL rs;have hF0:0<F.length:=length_pos_iff.mpr hf;have Qt:F.length<=3:=le_trans (length_filter_le _ _) (by rw[ho.1];exact le_refl _);have Ml:rs.length<=1000:=by rw[ho.1];decide
 have j0:0<=num.fmod (F.length:Int):=fmod_nonneg_of_pos _ (by exact uM);have j1:num.fmod (F.length:Int)<(F.length:Int):=fmod_lt_of_pos _ (by exact uM);let j:=(num.fmod (F.length:Int)).toNat;have hj:j<F.length:=C6 j0 j1;have Qu:num.fmod (F.length:Int)=(j:Int):=(zR j0).symm;let x:=F[j];have hx:x∈F:=getElem_mem hj;have hxr:x∈rs:=(mem_filter.mp hx).1;have Rp:=ho.2 x hxr;let c:=st.length
 have PN:rv≠.obj c:=by
  rintro rfl;rcases h with h |⟨m,h,e⟩
  ·simp at h
  ·have:=al e;simp at h;simp only[c]at h;exact not_succ_le_zero 0 (Q2 0x45111511140110011111103 [_,_] this h rfl)
 have x1:aa ⟨run (n+1)⟩ (.new false (.comp (.l 162) (.nm 162) (.l 90) [.val (.cmp .GtE (.call 3 [.sub (.l 162) (.int 0),.l 90]) (.sub (.l 162) (.int 1)))] [90])) [(93,.int num),(90,rv)] st=some (.lst (F.map aV),st):=by
  refine aH (bS rfl h.items (by rw[length_map];exact bN) (bK (λx:Ru=>decide ((x.q:Int)<=dC x.p rs)) aV aV h.stands rs λy hy=>?_));have Rq:=ho.2 y hy;exact HT rfl (uO (bF (be (e2 (bX rfl rfl (Jr y)) rfl) (Cn n h Ml (z:=y.p) ⟨Rq.1.1,by have:=Rq.1.2;exact bN⟩)) (bX rfl rfl (Js y)) rfl)) rfl
 have x2:aa ⟨run (n+1)⟩ (.sub (.l 94) (.b .Mod (.l 93) (.bi .len [.l 94]))) [(93,.int num),(90,rv),(94,.lst (F.map aV))] st=some (aV x,st):=by
  have KL:gA st .len [.lst (F.map aV)]=some (.int (F.length:Nat),st):=by
   rw[j9 (by rw[length_map];exact bN),length_map]
  have m1:aK .Mod (.int num) (.int (F.length:Nat))=some (.int j):=by
   refine Eq.trans (dV (by exact yq)) ?_;rw[Qu]
  refine bX rfl (aj rfl (dq (P.e1 rfl) KL) m1) ?_;exact fP (by rw[getElem?_map,getElem?_eq_getElem hj];rfl) (by exact Q2 0x5111401103115110f424051111401103 [_,_] Qt hj rfl)
 let L0:=replicate x.q x.p
 have x3:aa ⟨run (n+1)⟩ (.new true (.rep (.l 91) (.l 80))) [(93,.int num),(90,rv),(94,.lst (F.map aV)),(91,.int x.p),(80,.int x.q),(75,.int x.r),(163,.int x.s)] st=some (.obj c,st++[.list (L0.map λk:Nat=>.int k)]):=by
  have hq6:=Rp.2.2.1.2;have:=BD (X:=⟨run (n+1)⟩) (σ:=[(93,.int num),(90,rv),(94,.lst (F.map aV)),(91,.int x.p),(80,.int x.q),(75,.int x.r),(163,.int x.s)]) (a:=.l 91) (n:=.l 80) (st:=st) (Kx:=st) (Ky:=st) (x:=.int x.p) (k:=(x.q:Int)) rfl rfl (by exact zX) (by exact jY);rw[toNat_natCast]at this;rw[show(L0.map λk:Nat=>AV.int k)=replicate x.q (.int x.p) by simp[L0]];exact eK this
 have hs:∀ (A B:List AV),(st++[AO.list A]).set c (.list B)=st++[.list B]:=λA B=>by simp[c]
 have Nx:∀ A:List AV,RV (st++[AO.list A]) rv rs:=λA=>h.mono (Kp.app [] st _) (by simp)
 have O8:∀ (L:List Nat) (z:Nat),(iN rs L z).length<=L.length+1:=λL z=>by
  unfold iN;split<;>simp
 have l0:L0.length<=6:=by simp[L0];exact Rp.2.2.1.2
 refine dh (t4 n (num:=num) (fr:=.lst (F.map aV)) (x:=x) (L:=L0) (Nx _) Ml (aS st _) PN (by exact bN) (k:=0) (by decide) []) λa KZ ha y1=>?_;rw[hs]at y1;have l1:=O8 L0 (1+a);refine dh (t4 n (num:=num) (fr:=.lst (F.map aV)) (x:=x) (L:=iN rs L0 (1+a)) (Nx _) Ml (aS st _) PN (by exact Q2 0x11150411061151103e83141103 [_,_] l0 l1 rfl) (k:=1) (by decide) KZ) λb Lb hb y2=>?_;rw[hs]at y2;have l2:=O8 (iN rs L0 (1+a)) (1+b);refine dh (t4 n (num:=num) (fr:=.lst (F.map aV)) (x:=x) (L:=iN rs (iN rs L0 (1+a)) (1+b)) (Nx _) Ml (aS st _) PN (by exact Q3 0x11160411011150611061151103e83141104 [_,_,_] l0 l1 l2 rfl) (k:=2) (by decide) Lb) λd Lw hd y3=>?_;rw[hs]at y3;refine⟨x,a,b,d,hx,ha,hb,hd,?_⟩;rw[Fa,Fb];refine bT (KC:=σs num rv (.lst (F.map aV)) x c Lw) rfl ?_;refine(ae (KC:=[(93,.int num),(90,rv),(94,.lst (F.map aV))]) (aE x1 rfl)).trans ?_;refine(ae (KC:=[(93,.int num),(90,rv),(94,.lst (F.map aV)),(91,.int x.p),(80,.int x.q),(75,.int x.r),(163,.int x.s)]) (aE x2 rfl)).trans ?_;refine(ae (KC:=σs num rv (.lst (F.map aV)) x c []) (aE x3 rfl)).trans ?_;refine(ae (fy (dq (P.e1 rfl) (aZ 3 (by decide))) (aL 3 (by decide)) ?_)).trans (cy (sR rfl));exact(bR rfl y1).trans ((bR rfl y2).trans ((bR rfl y3).trans (ig rfl)))
noncomputable def Mm (rs:bU):Nat->List Nat->List Nat->Option (List Nat×List Nat)
 |0,_,_=>none
 |f+1,c,u=>match cO rs c with
  |[]=>some (c,u)
  |k::_=>Mm rs f (gV c (R rs k)) (u.set k (u.getD k 0+1))
abbrev ah (l:List Nat):List AV:=l.map λk:Nat=>AV.int k
theorem dS {l:List Nat}{k:Nat}(h:k<l.length):(ah l)[k]?=some (.int (l.getD k 0:Nat)):=by
 rw[getElem?_map,getElem?_eq_getElem h,getD_eq_getElem?_getD,getElem?_eq_getElem h];rfl
theorem xf {c:List Nat}(hc:c.length=7){x:Ru}(hx:De x)(hq:x.q<=c.getD x.p 0):(((ah c).set x.p (.int ((c.getD x.p 0:Nat)-(x.q:Int)))).set x.r (.int (((c.set x.p (c.getD x.p 0-x.q)).getD x.r 0:Nat)+(x.s:Int))))=ah (gV c x):=by
 have hp:=hx.1;have hr:=hx.2.1;have e:((c.getD x.p 0:Nat):Int)-(x.q:Int)=((c.getD x.p 0-x.q:Nat):Int):=by exact C9
 have e2:(((c.set x.p (c.getD x.p 0-x.q)).getD x.r 0:Nat):Int)+(x.s:Int)=(((c.set x.p (c.getD x.p 0-x.q)).getD x.r 0+x.s:Nat):Int):=by lia
 rw[e,e2]
 have:(((ah c).set x.p (.int ((c.getD x.p 0-x.q:Nat):Int))).set x.r (.int (((c.set x.p (c.getD x.p 0-x.q)).getD x.r 0+x.s:Nat):Int)))=ah ((c.set x.p (c.getD x.p 0-x.q)).set x.r ((c.set x.p (c.getD x.p 0-x.q)).getD x.r 0+x.s)):=by
  simp only[ah,map_set]
 rw[this];congr 1;apply ext_getElem?;intro k;by_cases hk:k<7
 ·rw[gV,getElem?_map,getElem?_range hk,map_some];have LP:∀ v,(c.set x.p v).length=7:=λv=>by rw[length_set];exact hc
  by_cases q1:x.r=k
  ·subst q1;rw[getElem?_set_self (by rw[LP];exact hk),if_pos rfl];congr 2;rw[getD_eq_getElem?_getD];by_cases q2:x.p=x.r
   ·rw[q2,getElem?_set_self (by exact Da),if_pos rfl];rfl
   ·rw[getElem?_set_ne q2,if_neg (show ¬ x.r=x.p from λe=>q2 e.symm),getD_eq_getElem?_getD]
  ·rw[getElem?_set_ne q1,if_neg (show ¬ k=x.r from λe=>q1 e.symm)];by_cases q2:x.p=k
   ·rw[← q2,getElem?_set_self (by exact Q2 0x611411071151125111401103 [_,_] hc hp.2 rfl),if_pos (show x.p=x.p from rfl)];rfl
   ·rw[getElem?_set_ne q2,if_neg (show ¬ k=x.p from λe=>q2 e.symm),getElem?_eq_getElem (by exact Da),getD_eq_getElem?_getD,getElem?_eq_getElem (by exact Da)];rfl
 ·rw[List.getElem?_eq_none (by simp;exact Q2 0x57111107114111541103 [_,_] hc (not_lt.mp hk) rfl),List.getElem?_eq_none (by simp[gV];exact zY)]
theorem xg (c:List Nat)(x:Ru):(gV c x).length=7:=by simp[gV]
theorem Fc (n:Nat)(a:List AV)(st:St):run (n+1) 5 a st=bE (run n) [95,90] b5 a st:=rfl
noncomputable def w5:List S:=[.asg (.nm 164) lm,.iff (.val (.cmp .Eq (.l 164) (.new false (.list [])))) [.ret (.tup [.l 96,.l 97])] [],.asg (.tup [91,80,75,163]) (.sub (.l 90) (.sub (.l 164) (.int 0))),.augI (.l 96) (.l 91) .Sub (.l 80),.augI (.l 96) (.l 75) .Add (.l 163),.augI (.l 97) (.sub (.l 164) (.int 0)) .Add (.int 1)]
theorem Fd:b5=[.asg (.nm 96) (.new true (.comp (.sm .count (.l 95) [.l 92]) (.nm 92) (.bi .range1 [.int 7]) [] [95])),.asg (.nm 97) (.new true (.list [.int 0,.int 0,.int 0])),.for (.nm 98) (.bi .range1 [.int 31]) w5 [],.ret (.tup [.l 96,.new false (.list [])])]:=rfl
noncomputable def MG (a:Nat)(rv:AV)(m:Nat)(τ:Loc):Loc:=(95,.obj a)::(90,rv)::(96,.obj m)::(97,.obj (m+1))::τ
theorem g5 {a:Nat}{rv:AV}{m:Nat}{τ:Loc}(y:Nat)(h:([95,90,96,97]:List Nat).all (λz=>!Nat.beq z y)=true):af (MG a rv m τ) y=af τ y:=by
 simp only[all_cons,all_nil,Bool.and_true,and_eq_true,not_eq_true']at h;refine gS h ?_;clear h;intro h1 h2 h3 h4;simp only[MG,af,h1,h2,h3,h4,if_false,reduceCtorEq]
theorem l5 (n:Nat){a:Nat}{st:St}{rv:AV}{rs:bU}(h:RV st rv rs)(ho:Li rs){ok:St->Bool}(hk:∀ st,ok st=true)(e v:List Nat):∀ (xs:List AV) (c u:List Nat) (τ:Loc),c.length=7->u.length=3->Mm rs xs.length c u=some (e,v) ->
  ∃ KA,bc ok (bW ⟨run n⟩ (.nm 98) w5) xs (MG a rv st.length τ) ((st++[AO.list (ah c)])++[AO.list (ah u)])=some (.ret (.tup [.obj st.length,.obj (st.length+1)]),KA,(st++[AO.list (ah e)])++[AO.list (ah v)]):=by
 intro xs
 induction xs with
 |nil=>
  intro c u τ _ _ ht;exact absurd ht bg
 |cons x xs ih=>
  intro c u τ hc hu ht;have ht:(match cO rs c with |[]=>some (c,u) |k::_=>Mm rs xs.length (gV c (R rs k)) (u.set k (u.getD k 0+1)))=some (e,v):=ht;let s0:St:=(st++[AO.list (ah c)])++[AO.list (ah u)];have PO:RV s0 rv rs:=(h.mono (Kp.app [] st _) (by simp)).mono (Kp.app [] _ _) (by simp);have gc:s0[st.length]?=some (.list (ah c)):=cz (aS _ _)
  have gu:s0[st.length+1]?=some (.list (ah u)):=by
   have:=aS (st++[AO.list (ah c)]) (AO.list (ah u))
   rwa [length_append,length_singleton]at this
  let KZ:=ai τ 98 x;let Lb:=ai KZ 164 (.lst (ah (cO rs c)))
  have x1:aa ⟨run n⟩ lm (MG a rv st.length KZ) s0=some (.lst (ah (cO rs c)),s0):=
   sV (g:=λk=>c.getD k 0) PO ho (cvv:=.obj st.length) (λk h1 h2=>cG gc (dS (by exact Q2 0x611411071151125111401103 [_,_] hc h2 rfl)) (by exact dW)) rfl rfl
  have Nw:af (MG a rv st.length Lb) 164=some (.lst (ah (cO rs c))):=(g5 _ (by decide)).trans (ab _ _ _)
  have ce:bJ s0 .Eq (.lst (ah (cO rs c))) (.lst [])=some (decide (cO rs c=[])):=by
   have:ah (cO rs c)=((cO rs c).map λk:Nat=>(k:Int)).map .int:=by simp only[ah,map_map];rfl
   rw[bJ,this,nE];congr 1;exact decide_eq_decide.mpr (by simp)
  have y1:aJ ⟨run n⟩ (.val (.cmp .Eq (.l 164) (.new false (.list [])))) (MG a rv st.length Lb) s0=some (decide (cO rs c=[]),s0):=bF (ay Nw) (aH (cK dn)) ce
  cases OD:cO rs c with
  |nil=>
   rw[OD]at ht;cases ht;rw[decide_eq_true OD]at y1;exact⟨MG a rv st.length Lb,BC (hk _) ((aR (KC:=MG a rv st.length KZ) rfl).trans ((ae (KC:=MG a rv st.length Lb) (aE x1 rfl)).trans (cy ((dO y1).trans (cy (sR rfl))))))⟩
  |cons k ks=>
   rw[OD]at ht;simp only at ht;have PQ:k∈cO rs c:=by rw[OD];simp
   have M9:k<3:=by
    simp only[cO,mem_filter,mem_range]at PQ;exact PQ.1
   have hq:(R rs k).q<=c.getD (R rs k).p 0:=by
    simp only[cO,mem_filter,decide_eq_true_eq]at PQ;exact PQ.2
   have hR:=(ho.get M9).1;rw[decide_eq_false (by rw[OD];simp)]at y1;let y:=R rs k;have hyp:y.p<=6:=hR.1.2;have hyq:y.q<=c.getD y.p 0:=hq;have hyr:y.r<=6:=hR.2.1.2;let Lw:=ai (ai (ai (ai Lb 91 (.int y.p)) 80 (.int y.q)) 75 (.int y.r)) 163 (.int y.s);let S3:=MG a rv st.length Lw;have h164:af S3 164=some (.lst (ah (cO rs c))):=(g5 _ (by decide)).trans ((ag _ (by decide) _).trans ((ag _ (by decide) _).trans ((ag _ (by decide) _).trans ((ag _ (by decide) _).trans (ab _ _ _)))));have h91:af S3 91=some (.int y.p):=(g5 _ (by decide)).trans ((ag _ (by decide) _).trans ((ag _ (by decide) _).trans ((ag _ (by decide) _).trans (ab _ _ _))));have h80:af S3 80=some (.int y.q):=(g5 _ (by decide)).trans ((ag _ (by decide) _).trans ((ag _ (by decide) _).trans (ab _ _ _)));have h75:af S3 75=some (.int y.r):=(g5 _ (by decide)).trans ((ag _ (by decide) _).trans (ab _ _ _));have h163:af S3 163=some (.int y.s):=(g5 _ (by decide)).trans (ab _ _ _);have hd:∀ s,cB s (.lst (ah (cO rs c))) (.int 0)=some (.int k):=λs=>by rw[OD];rfl
   have x2:aa ⟨run n⟩ (.sub (.l 90) (.sub (.l 164) (.int 0))) (MG a rv st.length Lb) s0=some (aV y,s0):=
    bX rfl (bX (ay Nw) rfl (hd _)) (PO.sub ho M9)
   let c1:=c.set y.p (c.getD y.p 0-y.q);have lc:(ah c).length=7:=by rw[length_map];exact hc
   let s1:St:=s0.set st.length (.list ((ah c).set y.p (.int ((c.getD y.p 0:Nat)-(y.q:Int)))))
   have x3:xS ⟨run n⟩ (.augI (.l 96) (.l 91) .Sub (.l 80)) S3 s0=some (.next,S3,s1):=
    se rfl (ay h91) (cG gc (dS (by exact Q2 0x611411071151125111401103 [_,_] hc hyp rfl)) (by exact dW)) (ay h80) (cC rfl) (gn gc (by rw[lc];exact dW) (by exact dW))
   have OE:(ah c).set y.p (.int ((c.getD y.p 0:Nat)-(y.q:Int)))=ah c1:=by
    have:((c.getD y.p 0:Nat):Int)-(y.q:Int)=((c.getD y.p 0-y.q:Nat):Int):=by exact C9
    rw[this];simp only[ah,c1,map_set]
   have Rt:s1[st.length]?=some (.list (ah c1)):=by
    rw[← OE];exact getElem?_set_self (al gc)
   have Rv:c1.length=7:=by simp only[c1,length_set];exact hc
   let s2:St:=s1.set st.length (.list ((ah c1).set y.r (.int ((c1.getD y.r 0:Nat)+(y.s:Int)))))
   have x4:xS ⟨run n⟩ (.augI (.l 96) (.l 75) .Add (.l 163)) S3 s1=some (.next,S3,s2):=
    se rfl (ay h75) (cG Rt (dS (by exact Q2 0x711511261141105111401103 [_,_] hyr Rv rfl)) (by exact dW)) (ay h163) (cC rfl) (gn Rt (by rw[length_map,Rv];exact dW) (by exact dW))
   have NR:(ah c1).set y.r (.int ((c1.getD y.r 0:Nat)+(y.s:Int)))=ah (gV c y):=by
    rw[← OE];exact xf hc hR hq
   have PX:s2=(st++[AO.list (ah (gV c y))])++[AO.list (ah u)]:=by
    show(s0.set st.length _).set st.length _=_;rw[NR,set_set];simp[s0,List.set_append]
   have Rw:s2[st.length+1]?=some (.list (ah u)):=by
    rw[PX];have:=aS (st++[AO.list (ah (gV c y))]) (AO.list (ah u))
    rwa [length_append,length_singleton]at this
   have x5:xS ⟨run n⟩ (.augI (.l 97) (.sub (.l 164) (.int 0)) .Add (.int 1)) S3 s2=some (.next,S3,s2.set (st.length+1) (.list ((ah u).set k (.int ((u.getD k 0:Nat)+(1:Int)))))):=
    se rfl (bX (ay h164) rfl (hd _)) (cG Rw (dS (by exact Da)) (by exact bN)) rfl (cC rfl) (gn Rw (by rw[length_map,hu];exact M9) (by exact bN))
   have es3:s2.set (st.length+1) (.list ((ah u).set k (.int ((u.getD k 0:Nat)+(1:Int)))))=(st++[AO.list (ah (gV c y))])++[AO.list (ah (u.set k (u.getD k 0+1)))]:=by
    have:(ah u).set k (.int ((u.getD k 0:Nat)+(1:Int)))=ah (u.set k (u.getD k 0+1)):=by
     simp only[ah,map_set];rfl
    rw[this,PX];simp[List.set_append]
   rw[es3]at x5;obtain⟨KA,r⟩:=ih (gV c y) (u.set k (u.getD k 0+1)) Lw (xg _ _) (by rw[length_set];exact hu) ht;refine⟨KA,(bR (hk _) ((aR (KC:=MG a rv st.length KZ) rfl).trans ((ae (KC:=MG a rv st.length Lb) (aE x1 rfl)).trans ((ae (bG y1)).trans ((ae (KC:=S3) (aE x2 rfl)).trans ((ae x3).trans ((ae x4).trans ((ae x5).trans bB)))))))).trans r⟩
noncomputable def fF (L:List Nat):List Nat:=(List.range 7).map λk=>L.count k
theorem Ik (n:Nat){a:Nat}{st:St}{rv:AV}{rs:bU}(h:RV st rv rs)(ho:Li rs){L:List Nat}(hL:st[a]?=some (.list (ah L))){e v:List Nat}(ht:Mm rs 31 (fF L) [0,0,0]=some (e,v)) :
  run (n+1) 5 [.obj a,rv] st=some (.tup [.obj st.length,.obj (st.length+1)],(st++[AO.list (ah e)])++[AO.list (ah v)]):=by
 have x1:aa ⟨run n⟩ (.new true (.comp (.sm .count (.l 95) [.l 92]) (.nm 92) (.bi .range1 [.int 7]) [] [95])) [(95,.obj a),(90,rv)] st=some (.obj st.length,st++[AO.list (ah (fF L))]):=by
  have:ah (fF L)=(List.range 7).map λk:Nat=>AV.int (L.count k:Nat):=by simp only[ah,fF,map_map];rfl
  rw[this];exact eK (bS (dq (P.e1 rfl) (aZ 7 (by decide))) (aL 7 (by decide)) (by decide) (aD (λk:Nat=>AV.int k) _ rfl (List.range 7) λk _=>lK rfl (gY rfl (cT hL) (P.e1 rfl) (jh hL k))))
 refine aw (l5 (a:=a) n h ho (ok:=λst=>an st (.rng 0 (31:Nat)) ((List.range 31).map λk:Nat=>AV.int k)) (λ_=>rfl) e v ((List.range 31).map λk:Nat=>AV.int k) (fF L) [0,0,0] [] (by simp[fF]) rfl (by rw[length_map,length_range];exact ht)) λKA r=>?_
 have x2:aa ⟨run n⟩ (.new true (.list [.int 0,.int 0,.int 0])) [(95,.obj a),(90,rv),(96,.obj st.length)] (st++[AO.list (ah (fF L))])=some (.obj (st.length+1),(st++[AO.list (ah (fF L))])++[AO.list (ah [0,0,0])]):=by
  have:=eK (X:=⟨run n⟩) (σ:=[(95,.obj a),(90,rv),(96,.obj st.length)]) (st:=st++[AO.list (ah (fF L))]) (cK (es:=[.int 0,.int 0,.int 0]) rfl)
  rwa [length_append,length_singleton]at this
 rw[Fc,Fd];exact bT (KC:=KA) rfl ((ae (KC:=[(95,.obj a),(90,rv),(96,.obj st.length)]) (aE x1 rfl)).trans ((ae (KC:=MG a rv st.length []) (aE x2 rfl)).trans (cy (we (dq (P.e1 rfl) (aZ 31 (by decide))) (aL 31 (by decide)) r))))
noncomputable def dT (W:List Nat)(m z:Nat):List Nat:=(List.range 10).map λt=>(((List.range (m+1)).filter λk=>decide (z*k<=t)).map λk=>W.getD (t-z*k) 0).sum
noncomputable def cq (rs:bU):List Nat:=(range' 1 9).foldl (λW z=>dT W (dC z rs).toNat z) ([1]++replicate 9 0)
theorem Cp (n:Nat)(a:List AV)(st:St):run (n+1) 11 a st=bE (run n) [90] HL a st:=rfl
noncomputable def Jt:E:=.bi .sum [.new false (.comp (.sub (.l 113) (.b .Sub (.l 191) (.b .Mult (.l 92) (.l 61)))) (.nm 61) (.l 167) [.val (.cmp .LtE (.b .Mult (.l 92) (.l 61)) (.l 191))] [92,191,113])]
noncomputable def Ju:List S:=[.asg (.nm 167) (.bi .range1 [.b .Add (.call 3 [.l 92,.l 90]) (.int 1)]),.asg (.nm 113) (.new false (.comp Jt (.nm 191) (.bi .range1 [.int 10]) [] [167,92,113]))]
theorem Cq:HL=[.asg (.nm 113) (.new false (.cat (.new false (.list [.int 1])) (.new false (.rep (.int 0) (.int 9))))),.for (.nm 92) (.bi .range2 [.int 1,.int 10]) Ju [],.ret (.l 113)]:=rfl
theorem Kq (n:Nat){st:St}{rv:AV}{rs:bU}(h:RV st rv rs)(Ml:rs.length<=1000)(hm:∀ z,1<=z->z<=9->0<=dC z rs/\dC z rs<=100){ok:St->Bool}(hk:∀ st,ok st=true):∀ (zs:List Nat) (W:List Nat) (τ:Loc),(∀ z∈zs,1<=z/\z<=9)->W.length=10 ->
  ∃ KU,bc ok (bW ⟨run (n+1)⟩ (.nm 92) Ju) (zs.map λk:Nat=>AV.int k) ((90,rv)::(113,.lst (ah W))::τ) st=some (.next,(90,rv)::(113,.lst (ah (zs.foldl (λW z=>dT W (dC z rs).toNat z) W)))::KU,st):=by
 intro zs
 induction zs with
 |nil=>
  intro W τ _ _;exact⟨τ,ig (hk _)⟩
 |cons z zs ih=>
  intro W τ hz hW;have O4:=hz z (by simp);have O9:=hm z O4.1 O4.2;let m:=(dC z rs).toNat;have em:dC z rs=(m:Int):=(zR O9.1).symm;let KZ:=ai τ 92 (.int z);let Lb:=ai KZ 167 (.rng 0 ((m+1:Nat):Int));let S1:Loc:=(90,rv)::(113,.lst (ah W))::KZ;let S2:Loc:=(90,rv)::(113,.lst (ah W))::Lb
  have gg:∀ (τ:Loc) (y:Nat),Nat.beq 90 y=false->Nat.beq 113 y=false->af ((90,rv)::(113,.lst (ah W))::τ) y=af τ y:=λτ y h1 h2=>by
   simp only[af,h1,h2,if_false,reduceCtorEq]
  have OC:af S1 92=some (.int z):=(gg _ _ rfl rfl).trans (ab _ _ _);have g92':af S2 92=some (.int z):=(gg _ _ rfl rfl).trans ((ag _ (by decide) _).trans (ab _ _ _));have g167:af S2 167=some (.rng 0 ((m+1:Nat):Int)):=(gg _ _ rfl rfl).trans (ab _ _ _);have r3:=Cn n h Ml O4;rw[em]at r3
  have x1:aa ⟨run (n+1)⟩ (.bi .range1 [.b .Add (.call 3 [.l 92,.l 90]) (.int 1)]) S1 st=some (.rng 0 ((m+1:Nat):Int),st):=
   dq (P.e1 (aj (be (e2 (ay OC) rfl) r3) rfl rfl)) (aZ (m+1) (zV O9.2))
  have x2:aa ⟨run (n+1)⟩ (.new false (.comp Jt (.nm 191) (.bi .range1 [.int 10]) [] [167,92,113])) S2 st=some (.lst (ah (dT W m z)),st):=by
   have:ah (dT W m z)=(List.range 10).map λt:Nat=>AV.int ((((List.range (m+1)).filter λk=>decide (z*k<=t)).map λk=>W.getD (t-z*k) 0).sum:Nat):=by
    simp only[ah,dT,map_map];rfl
   rw[this];refine aH (bS (dq (P.e1 rfl) (aZ 10 (by decide))) (aL 10 (by decide)) (by decide) (aD (λk:Nat=>AV.int k) _ rfl (List.range 10) λt ht=>?_));have Pa:=mem_range.mp ht;let MQ:=ai (aX S2 [167,92,113]) 191 (.int t);have Rx:af MQ 92=some (.int z):=by rw[ag _ (by decide),eC rfl,g92']
   have k167:af MQ 167=some (.rng 0 ((m+1:Nat):Int)):=by rw[ag _ (by decide),eC rfl,g167]
   have k113:af MQ 113=some (.lst (ah W)):=by rw[ag _ (by decide),eC rfl];rfl
   have Pb:af MQ 191=some (.int t):=ab _ _ _
   have sm:gA st .sum [.lst (((List.range (m+1)).filter λk=>decide (z*k<=t)).map λk=>AV.int (W.getD (t-z*k) 0:Nat))]=some (.int ((((List.range (m+1)).filter λk=>decide (z*k<=t)).map λk=>W.getD (t-z*k) 0).sum:Nat),st):=by
    have:(((List.range (m+1)).filter λk=>decide (z*k<=t)).map λk=>AV.int (W.getD (t-z*k) 0:Nat))=(((List.range (m+1)).filter λk=>decide (z*k<=t)).map λk=>W.getD (t-z*k) 0).map λk:Nat=>AV.int k:=by
     simp only[map_map];rfl
    rw[this];exact jI (cL _) (congrArg (λi=>some (AV.int i,st)) (nT _))
   refine lK rfl (dq (P.e1 (aH (bS (ay k167) (aL (m+1) (zV O9.2)) (by simp;lia) (bK (λk=>decide (z*k<=t)) (λk:Nat=>AV.int k) (λk=>AV.int (W.getD (t-z*k) 0:Nat)) rfl (List.range (m+1)) λk hk=>?_)))) sm)
   have cc:aJ ⟨run (n+1)⟩ (.val (.cmp .LtE (.b .Mult (.l 92) (.l 61)) (.l 191))) (ai (aX MQ [92,191,113]) 61 (.int k)) st=some (decide (z*k<=t),st):=by
    refine bF (aj (gt Rx rfl (by decide)) lU (dD z k (by exact mT))) (gt Pb rfl (by decide)) ?_;exact congrArg some (decide_eq_decide.mpr ofNat_le)
   by_cases q:z*k<=t
   ·rw[decide_eq_true q]at cc ⊢;refine Dc rfl (uO cc) (bX (gt k113 rfl (by decide)) (aj (v:=.int ((t-z*k:Nat):Int)) (gt Pb rfl (by decide)) (aj (gt Rx rfl (by decide)) lU (dD z k (by exact mT))) ?_) ?_)
    ·refine congrArg (λx=>some (AV.int x)) ?_;exact C9
    ·exact fP (dS (by exact Q3 0x64110a1111160110a1151125111401104 [_,_,_] hW Pa (sub_le _ _) rfl)) (by exact Q2 0x5640111a1111150110f424051111401103 [_,_,_] Pa (sub_add_cancel (Q1 0x54110541102 [_,_] q rfl)) rfl)
   ·rw[decide_eq_false q]at cc ⊢;exact Dd rfl (uO cc)
  refine aw (ih (dT W m z) Lb (λy hy=>hz y (by simp[hy])) (by simp[dT])) λKU r=>?_;refine⟨KU,?_⟩;rw[map_cons,foldl_cons];exact(bR (hk _) ((aR (KC:=S1) rfl).trans ((ae (KC:=S2) (aE x1 rfl)).trans ((ae (KC:=(90,rv)::(113,.lst (ah (dT W m z)))::Lb) (aE x2 rfl)).trans bB)))).trans r
theorem Fe (n:Nat){st:St}{rv:AV}{rs:bU}(h:RV st rv rs)(Ml:rs.length<=1000)(hm:∀ z,1<=z->z<=9->0<=dC z rs/\dC z rs<=100):run (n+2) 11 [rv] st=some (.lst (ah (cq rs)),st):=by
 refine aw (Kq n h Ml hm (ok:=λst=>an st (.rng (1:Nat) ((1+9:Nat):Int)) ((range' 1 9).map λk:Nat=>AV.int k)) (λ_=>rfl) (range' 1 9) ([1]++replicate 9 0) [] (by decide) rfl) λKU r=>?_;rw[Cp,Cq];refine bT (KC:=(90,rv)::(113,.lst (ah (cq rs)))::KU) rfl ((ae (KC:=(90,rv)::(113,.lst (ah ([1]++replicate 9 0)))::[]) (aE (aH (wg rfl (aH (BD (k:=9) rfl rfl (by decide) (by decide))) rfl rfl (by decide))) rfl)).trans ((ae (fy (dq (e2 (x:=.int (1:Nat)) (y:=.int (10:Nat)) rfl rfl) (fE 1 10 (by decide) (by decide))) (eP 1 9 (by decide)) r)).trans (cy (sR rfl))))
noncomputable def bl (a:Nat):Nat:=intBits (a:Int)
theorem sZ (a:Nat):bl a=if a=0 then 0 else a.log2+1:=by
 unfold bl intBits;by_cases h:a=0
 ·simp[h]
 ·have:¬ ((a:Int)==0)=true:=by simp;exact bz
  rw[if_neg this,if_neg h,natAbs_natCast]
theorem fY (a:Nat):a<2^bl a:=by
 rw[sZ];split
 ·exact JS
 ·exact Nat.lt_log2_self
theorem dc {a k:Nat}(h:a<2^k):bl a<=k:=intBits_le (by rw[natAbs_natCast];exact h)
theorem xh {a:Nat}(h:a≠0):2^(bl a-1)<=a:=by
 rw[sZ,if_neg h,Nat.add_sub_cancel];exact Nat.log2_self_le h
theorem lA {a:Nat}(h:a≠0):1<=bl a:=by rw[sZ,if_neg h];exact C7
theorem gP {a k:Nat}(h:bl a+k<=134217728):aK .LShift (.int a) (.int k)=some (.int ((a*2^k:Nat):Int)):=by
 have h2:0<=(k:Int)/\(intBits (a:Int):Int)+k<=134217728:=⟨by exact jY,by have:bl a=intBits (a:Int):=rfl;exact yp⟩;have e:aK .LShift (.int a) (.int k)=if 0<=(k:Int)/\(intBits (a:Int):Int)+k<=2^27 then some (.int (a*2^(k:Int).toNat)) else none:=rfl
 rw[e,EF,if_pos h2,toNat_natCast];simp
theorem gQ {a k:Nat}(h:k<100000000):aK .RShift (.int a) (.int k)=some (.int ((a/2^k:Nat):Int)):=by
 have h2:0<=(k:Int)/\(k:Int)<2^60:=⟨by exact jY,by exact yp⟩;rw[sn h2,toNat_natCast,fdiv_eq_ediv_of_nonneg _ (by exact Int.le_of_lt (Int.pow_pos (by decide)))];simp
theorem lC (a k:Nat):aK .BitAnd (.int a) (.int ((2^k-1:Nat):Int))=some (.int ((a%2^k:Nat):Int)):=by
 refine congrArg (λx=>some (AV.int x)) ?_;rw[dI,Nat.and_two_pow_sub_one_eq_mod]
theorem xi {q r k:Nat}(h:r<2^k):aK .BitOr (.int ((q*2^k:Nat):Int)) (.int r)=some (.int ((q*2^k+r:Nat):Int)):=by
 refine congrArg (λx=>some (AV.int x)) ?_;rw[je,mul_comm,← Nat.two_pow_add_eq_or_of_lt h]
theorem iO (k:Nat):aK .Sub (.int ((1*2^k:Nat):Int)) (.int 1)=some (.int ((2^k-1:Nat):Int)):=by
 have:0<2^k:=pow_pos (by decide);refine congrArg (λx=>some (AV.int x)) ?_;rw[one_mul];exact C9
theorem nU {a b:Nat}(h:bl a+bl b<=134217728):eE a b=true:=by
 have h1:intTooBig ((intBits (a:Int):Int)+(intBits (b:Int):Int))=false:=by
  have e:(intBits (a:Int):Int)+(intBits (b:Int):Int)<=134217728:=by
   have e1:bl a=intBits (a:Int):=rfl;have e2:bl b=intBits (b:Int):=rfl;exact yp
  unfold intTooBig bitsLine
  exact decide_eq_false (by
   have:((2^27:Nat):Int)=134217728:=rfl
   lia)
 simp only[eE,h1,Bool.and_false,Bool.not_false]
theorem Cr:bl 1<=1:=dc (by decide)
theorem Jv (P x:Nat)(h:0<P):(P-1)*x+x=P*x:=by
 have:=succ_mul (P-1) x;rw[succ_eq_add_one,sub_add_cancel h]at this;exact this.symm
theorem gR {k:Nat}(h:k<=1000000):aK .LShift (.int 1) (.int k)=some (.int ((1*2^k:Nat):Int)):=by
 have:=gP (a:=1) (k:=k) (by have:=Cr;exact Du)
 rwa [show((1:Nat):Int)=1 from rfl]at this
theorem Cs (n:Nat)(a:List AV)(st:St):run (n+1) 15 a st=bE (run n) [71,72,67,73,74,0] HG a st:=rfl
noncomputable def Il:List S:=[.aug 80 .Sub (.int 1),.aug 75 .Add (.l 67)]
noncomputable def Im:C:=.val (.cmp .Lt (.l 75) (.int 0))
noncomputable def Jw:S:=.iff (.val (.cmp .Eq (.b .RShift (.l 71) (.l 0)) (.l 73))) [.asg2 [80,75] [.b .Sub (.b .LShift (.int 1) (.l 0)) (.int 1),.b .Add (.b .Sub (.l 71) (.b .LShift (.l 73) (.l 0))) (.l 73)]] [.asg (.tup [80,75]) (.call 14 [.l 71,.l 73,.l 0])]
theorem Ct:HG=[Jw,.asg (.nm 75) (.b .Sub (.b .BitOr (.b .LShift (.l 75) (.l 0)) (.l 72)) (.b .Mult (.l 80) (.l 74))),.whl Im Il,.ret (.tup [.l 80,.l 75])]:=rfl
noncomputable def MY (K9 a3 b b1 b2 n:Nat)(τ:Loc):Loc:=(71,.int K9)::(72,.int a3)::(67,.int b)::(73,.int b1)::(74,.int b2)::(0,.int n)::τ
section
variable {K9 a3 b b1 b2 n:Nat}
theorem gd {τ:Loc}(y:Nat)(h:([71,72,67,73,74,0]:List Nat).all (λz=>!Nat.beq z y)=true):af (MY K9 a3 b b1 b2 n τ) y=af τ y:=by
 simp only[all_cons,all_nil,Bool.and_true,and_eq_true,not_eq_true']at h;refine Dq h ?_;clear h;intro h1 h2 h3 h4 h5 h6;simp only[MY,af,h1,h2,h3,h4,h5,h6,if_false,reduceCtorEq]
theorem rG {X:Cx}{τ:Loc}{st:St}{r:Int}(h:af τ 75=some (.int r)):aJ X Im (MY K9 a3 b b1 b2 n τ) st=some (decide (r<0),st):=
 bF (ay ((gd _ (by decide)).trans h)) rfl rfl
theorem Cu {X:Cx}{τ:Loc}{st:St}{q r:Int}(h:af τ 75=some (.int r))(h2:af τ 80=some (.int q)):∃ KU,cw X Il (MY K9 a3 b b1 b2 n τ) st=some (.next,MY K9 a3 b b1 b2 n KU,st)/\af KU 75=some (.int (r+b))/\af KU 80=some (.int (q-1)):=by
 let KZ:=ai τ 80 (.int (q-1));have Qw:af KZ 75=some (.int r):=(ag _ (by decide) _).trans h;refine⟨ai KZ 75 (.int (r+b)),?_,ab _ _ _,(ag _ (by decide) _).trans (ab _ _ _)⟩;refine(ae (KC:=MY K9 a3 b b1 b2 n KZ) (jQ ((gd _ (by decide)).trans h2) rfl (cC rfl))).trans ?_;exact(ae (KC:=MY K9 a3 b b1 b2 n (ai KZ 75 (.int (r+b)))) (jQ ((gd _ (by decide)).trans Qw) rfl (cC rfl))).trans bB
theorem Jx {X:Cx}{st:St}:∀ (k:Nat) (τ:Loc) (q r:Int) (fuel:Nat),af τ 75=some (.int r)->af τ 80=some (.int q)->r<b->0<=r+k*b->k<fuel ->
  ∃ (KU:Loc) (q' r':Int),f7 (aJ X Im) (cw X Il) fuel (MY K9 a3 b b1 b2 n τ) st=some (.next,MY K9 a3 b b1 b2 n KU,st)/\af KU 75=some (.int r')/\af KU 80=some (.int q')/\0<=r'/\r'<b/\q'*b+r'=q*b+r
 |0,τ,q,r,f+1,h1,h2,hb,hk,_=>⟨τ,q,r,fB (by rw[rG h1,decide_eq_false (by lia)]),h1,h2,by lia,hb,rfl⟩
 |k+1,τ,q,r,f+1,h1,h2,hb,hk,hf=>by
  by_cases hr:r<0
  ·refine cV (Cu (X:=X) (st:=st) (K9:=K9) (a3:=a3) (b:=b) (b1:=b1) (b2:=b2) (n:=n) h1 h2) λKZ e g1 g2=>?_
   refine uS (Jx (X:=X) (st:=st) k KZ (q-1) (r+b) f g1 g2 (by lia) (by
    have:((k+1:Nat):Int)*(b:Int)=(k:Int)*b+b:=by rw[Int.natCast_add,Int.add_mul];simp
    lia) (by exact Dz)) λKU q' r' e' My MV NC h4' h5'=>?_
   refine⟨KU,q',r',?_,My,MV,NC,h4',?_⟩
   ·rw[ii (by rw[rG h1,decide_eq_true hr]) e,e']
   ·rw[h5',Int.sub_mul];lia
  ·exact⟨τ,q,r,fB (by rw[rG h1,decide_eq_false hr]),h1,h2,by lia,hb,rfl⟩
theorem uH {a b:Nat}{q r:Int}(h:q*b+r=a)(h0:0<=r)(h1:r<b):q=((a/b:Nat):Int)/\r=((a%b:Nat):Int):=by
 have hb:0<(b:Int):=Int.lt_of_le_of_lt h0 h1
 have e1:(a:Int)/b=q:=by
  rw[← h,Int.add_comm,Int.add_mul_ediv_right _ _ (by lia),Int.ediv_eq_zero_of_lt h0 h1];lia
 have e2:(a:Int)%b=r:=by
  rw[← h,Int.add_comm,Int.add_mul_emod_self_right,Int.emod_eq_of_lt h0 h1]
 exact⟨by rw[← e1];simp,by rw[← e2];simp⟩
noncomputable def Ff (C:jN)(n:Nat):Prop:=∀ (a b:Nat) (st:St),bl b=n->0<b->a<2^n*b->C 14 [.int a,.int b,.int n] st=some (.tup [.int ((a/b:Nat):Int),.int ((a%b:Nat):Int)],st)
theorem AI (m:Nat)(hD:Ff (run m) n)(hn:n<=100000)(NU:bl b1=n)(MR:0<b1)(hb:b=b1*2^n+b2)(Nu:b2<2^n)(Pc:a3<2^n)(ha:K9<b)(st:St) :
  run (m+1) 15 [.int K9,.int a3,.int b,.int b1,.int b2,.int n] st=some (.tup [.int (((K9*2^n+a3)/b:Nat):Int),.int (((K9*2^n+a3)%b:Nat):Int)],st):=by
 have P0:0<2^n:=pow_pos (by decide);have LC:b1<2^n:=by rw[← NU];exact fY b1
 have Oy:2^(n-1)<=b1:=by rw[← NU];exact xh (by exact qi)
 have MU:1<=n:=by rw[← NU];exact lA (by exact qi)
 have P1:2^n=2*2^(n-1):=by
  have:=pow_succ (n:=2) (m:=n-1);rw[succ_eq_add_one,sub_add_cancel MU]at this;exact le_antisymm (Q1 0x52134111521241102 [_,_] this rfl) (Q1 0x42135112542121102 [_,_] this rfl)
 have Oj:b<2^(n+n):=by
  rw[pow_add,hb]
  have:b1*2^n+2^n<=2^n*2^n:=by
   rw[← succ_mul];exact mul_le_mul_right _ LC
  exact Q2 0x6740110711150110611154001103 [_,_,_,_] Nu this rfl
 have hbla:bl K9<=n+n:=dc (lt_trans ha Oj);let X:Cx:=⟨run m⟩
 have step:∃ (τ:Loc) (q r:Nat),xS X Jw (MY K9 a3 b b1 b2 n []) st=some (.next,MY K9 a3 b b1 b2 n τ,st)/\af τ 80=some (.int q)/\af τ 75=some (.int r)/\K9=q*b1+r/\q<2^n/\(r<b1\/q=2^n-1)/\r<2^(n+1):=by
  have K8:aK .RShift (.int K9) (.int n)=some (.int ((K9/2^n:Nat):Int)):=gQ (by exact dW)
  have hc:bJ st .Eq (.int ((K9/2^n:Nat):Int)) (.int b1)=some (decide (K9/2^n=b1)):=by
   rw[bJ,gJ];exact congrArg some (decide_eq_decide.mpr Int.ofNat_inj)
  by_cases q:K9/2^n=b1
  ·rw[decide_eq_true q]at hc;have Pd:=div_add_mod K9 (2^n);rw[q,mul_comm]at Pd;have hmod:K9%2^n<2^n:=mod_lt _ P0;have s1:aK .LShift (.int 1) (.int n)=some (.int ((1*2^n:Nat):Int)):=gR (by exact bN);have s2:aK .LShift (.int b1) (.int n)=some (.int ((b1*2^n:Nat):Int)):=gP (by exact Q2 0x54111186a05152108000000715401103 [_,_] hn NU rfl)
   have s3:aK .Sub (.int K9) (.int ((b1*2^n:Nat):Int))=some (.int ((K9%2^n:Nat):Int)):=by
    have e:(K9:Int)-((b1*2^n:Nat):Int)=((K9%2^n:Nat):Int):=yh Pd;show some (AV.int ((K9:Int)-((b1*2^n:Nat):Int)))=_;rw[e]
   refine⟨[(75,.int ((K9%2^n+b1:Nat):Int)),(80,.int ((2^n-1:Nat):Int))],2^n-1,K9%2^n+b1,?_,rfl,rfl,?_,by exact Q1 0x5111401115111401102 [_,_] (sub_add_cancel (Q1 0x411101011041111102 [_] P0 rfl)) rfl,.inr rfl,by rw[pow_succ];exact Q5 0xa4801116111501107111a01106111901109807111621311154001106 [_,_,_,_,_,_,_] hb Nu ha LC Pd rfl⟩
   ·refine(dO (bF (aj rfl rfl K8) rfl hc)).trans ((ae (wd (e2 (aj (aj rfl rfl s1) rfl (iO n)) (aj (aj rfl (aj rfl rfl s2) s3) rfl (cU _ _))) rfl)).trans bB)
   ·have:(2^n-1)*b1+b1=b1*2^n:=by
     rw[Jv _ _ P0,mul_comm]
    exact le_antisymm (Q2 0x875011246801127605041103 [_,_,_,_,_] Pd this rfl) (Q2 0x864011175801117650401103 [_,_,_,_,_] Pd this rfl)
  ·rw[decide_eq_false q]at hc
   have hle:K9/2^n<=b1:=by
    have:K9<(b1+1)*2^n:=by rw[add_mul,one_mul];exact Q3 0x7111401106111801108507111650111401104 [_,_,_,_,_] hb Nu ha rfl
    have:=(div_lt_iff_lt_mul P0).mpr this;exact Dz
   have Pe:K9<2^n*b1:=by
    have:K9/2^n<b1:=Nat.lt_of_le_of_ne hle q;have:=(div_lt_iff_lt_mul P0).mp this;rw[mul_comm];exact this
   have e14:=hD K9 b1 st NU MR Pe;refine⟨[(80,.int ((K9/b1:Nat):Int)),(75,.int ((K9%b1:Nat):Int))],K9/b1,K9%b1,?_,rfl,rfl,?_,?_,.inl (mod_lt _ MR),?_⟩
   ·exact(kY (bF (aj rfl rfl K8) rfl hc)).trans ((ae (aE (be (e3 rfl rfl rfl) e14) rfl)).trans bB)
   ·rw[mul_comm];exact(div_add_mod K9 b1).symm
   ·exact(div_lt_iff_lt_mul MR).mpr Pe
   ·have:=mod_lt K9 MR;rw[pow_succ];exact Q2 0x6111401105111601105213111401103 [_,_,_] LC this rfl
 refine G1 step ?_;clear step;intro τ q r x1 OF Qw hqr hq hr OA;have hblr:bl r<=n+1:=dc OA;have s1:aK .LShift (.int r) (.int n)=some (.int ((r*2^n:Nat):Int)):=gP (by exact Q2 0x111504110186a05152108000000715401103 [_,_] hn hblr rfl)
 have s2:aK .Mult (.int q) (.int b2)=some (.int ((q*b2:Nat):Int)):=by
  rw[sk (nU (le_trans (add_le_add (le_trans (dc hq) hn) (le_trans (dc Nu) hn)) (by decide)))];simp
 let r0:Int:=((r*2^n+a3:Nat):Int)-((q*b2:Nat):Int)
 have x2:aa X (.b .Sub (.b .BitOr (.b .LShift (.l 75) (.l 0)) (.l 72)) (.b .Mult (.l 80) (.l 74))) (MY K9 a3 b b1 b2 n τ) st=some (.int r0,st):=
  aj (aj (aj (ay ((gd _ (by decide)).trans Qw)) rfl s1) rfl (xi Pc)) (aj (ay ((gd _ (by decide)).trans OF)) rfl s2) rfl
 have ident:(q:Int)*b+r0=((K9*2^n+a3:Nat):Int):=by
  have:q*b+(r*2^n+a3)=K9*2^n+a3+q*b2:=by
   rw[hqr,hb,mul_add,add_mul,mul_assoc];exact le_antisymm (Q0 0x576400076054001101 [_,_,_,_] rfl) (Q0 0x650740076540001101 [_,_,_,_] rfl)
  have h3:(q:Int)*b=((q*b:Nat):Int):=by simp
  simp only[r0];rw[h3];exact JJ this
 have PO:r0<b:=by
  rcases hr with h |h
  ·have:r*2^n+2^n<=b1*2^n:=by
    rw[← succ_mul];exact mul_le_mul_right _ h
   exact GM (lt_of_lt_of_le (add_lt_add_left Pc _) (le_trans this (qj (le_add_right ..) hb.symm)))
  ·have h4:K9*2^n+a3<2^n*b:=by
    have:K9*2^n+2^n<=b*2^n:=by
     rw[← succ_mul];exact mul_le_mul_right _ ha
    rw[mul_comm (2^n) b];exact Q2 0x6740110711150110611154001103 [_,_,_,_] Pc this rfl
   have h5:(2^n-1)*b+b=2^n*b:=Jv _ _ P0;have h3:(q:Int)*b=((q*b:Nat):Int):=by simp
   rw[h3,h]at ident;exact GN ident h4 h5
 have Na:0<=r0+(2:Nat)*b:=by
  have h1:q*b2<=2^n*2^n:=mul_le_mul (by exact He) (by exact He)
  have h2:2^n*2^n<=2*(b1*2^n):=by
   rw[← mul_assoc];exact mul_le_mul_right _ (by exact Q2 0x6212411156210521241103 [_,_,_] Oy P1 rfl)
  simp only[r0];have:((2:Nat):Int)*(b:Int)=2*b:=by simp
  rw[this];exact Dk (le_trans h1 (le_trans h2 (mul_le_mul_left 2 (qj (le_add_right ..) hb.symm))))
 refine uS (Jx (X:=X) (st:=st) (K9:=K9) (a3:=a3) (b:=b) (b1:=b1) (b2:=b2) (n:=n) 2 (ai τ 75 (.int r0)) q r0 jq (ab _ _ _) ((ag _ (by decide) _).trans OF) PO Na (by simp[jq])) λKU q' r' x3 g75' g80' h0 h1 h5=>?_;refine av (uH (h5.trans ident) h0 h1) λeq er=>?_;rw[Cs,Ct];refine bT (KC:=MY K9 a3 b b1 b2 n KU) rfl ((ae x1).trans ((ae (KC:=MY K9 a3 b b1 b2 n (ai τ 75 (.int r0))) (aE x2 rfl)).trans ((ae (BB.trans x3)).trans (cy (sR (kZ (e2 (ay (((gd _ (by decide)).trans g80').trans (by rw[eq]))) (ay (((gd _ (by decide)).trans g75').trans (by rw[er]))))))))))
end
theorem Cv (n:Nat)(a:List AV)(st:St):run (n+1) 14 a st=bE (run n) [66,67,0] HF a st:=rfl
noncomputable def Jy:S:=.iff (.val (.cmp .LtE (.b .Sub (.sm .bitlen (.l 66) []) (.l 0)) (.dlim))) [.ret (.bi .divmod [.l 66,.l 67])] []
noncomputable def Io:S:=.iff (.val (.l 68)) [.aug 66 .LShift (.int 1),.aug 67 .LShift (.int 1),.aug 0 .Add (.int 1)] []
noncomputable def Ip:List S:=[.asg (.nm 69) (.b .RShift (.l 0) (.int 1)),.asg (.nm 70) (.b .Sub (.b .LShift (.int 1) (.l 69)) (.int 1)),.asg2 [73,74] [.b .RShift (.l 67) (.l 69),.b .BitAnd (.l 67) (.l 70)],.asg (.tup [136,75]) (.call 15 [.b .RShift (.l 66) (.l 0),.b .BitAnd (.b .RShift (.l 66) (.l 69)) (.l 70),.l 67,.l 73,.l 74,.l 69]),.asg (.tup [137,75]) (.call 15 [.l 75,.b .BitAnd (.l 66) (.l 70),.l 67,.l 73,.l 74,.l 69]),.iff (.val (.l 68)) [.aug 75 .RShift (.int 1)] [],.ret (.tup [.b .BitOr (.b .LShift (.l 136) (.l 69)) (.l 137),.l 75])]
theorem rH:HF=Jy::.asg (.nm 68) (.b .BitAnd (.l 0) (.int 1))::Io::Ip:=rfl
noncomputable def Lo (a b n:Nat)(τ:Loc):Loc:=(66,.int a)::(67,.int b)::(0,.int n)::τ
theorem digits_le (x:Nat):(if ((x:Int)==0)=true then 0 else (x:Int).natAbs.log2/30+1)=if x=0 then 0 else (bl x-1)/30+1:=by
 by_cases h:x=0
 ·subst h;rfl
 ·have:¬ ((x:Int)==0)=true:=by simp;exact bz
  rw[if_neg this,if_neg h,sZ,if_neg h,natAbs_natCast,Nat.add_sub_cancel]
theorem Fg {a b:Nat}(h:bl a<=bl b+4000)(hb:b≠0):divisionGoesByPylong a b=false:=by
 unfold divisionGoesByPylong;simp only[digits_le,if_neg hb];have NU:=lA hb;by_cases q:a=0
 ·rw[if_pos q];simp
 ·rw[if_neg q];have:¬ ((bl a-1)/30+1>(bl b-1)/30+1+150):=by exact not_lt.mpr (Q6 0x1e21111b0110ab51e2201127111a01128941e22011168110fa0317061109621111500111401e207 [_,_,_,_,_,_,_,_] h (sub_le _ _) (div_add_mod _ _) (sub_add_cancel (Q1 0x411111041111102 [_] NU rfl)) (div_add_mod _ _) (mod_lt _ (by decide)) rfl)
  rw[decide_eq_false this,Bool.and_false]
theorem pT (a b:Nat):(a:Int).fdiv b=((a/b:Nat):Int):=by
 rw[fdiv_eq_ediv_of_nonneg _ (by exact jY)];rfl
theorem xj (a b:Nat):(a:Int).fmod b=((a%b:Nat):Int):=by
 rw[Int.fmod_eq_emod_of_nonneg _ (by exact jY)];rfl
section
variable {a b h:Nat}
theorem zr (hb:bl b=2*h)(Mh:0<b)(h1:1<=h):bl (b/2^h)=h/\0<b/2^h:=by
 have P:0<2^h:=pow_pos (by decide)
 have u:b<2^h*2^h:=by
  have:=fY b
  rwa [hb,show 2*h=h+h by exact Jc,pow_add]at this
 have l:2^(h-1)*2^h<=b:=by
  have:=xh (a:=b) (by exact qi)
  rwa [hb,show 2*h-1=(h-1)+h by exact le_antisymm (Q2 0x61115011262121114011165041103 [_,_,_] (sub_add_cancel (Q1 0x411111042121111102 [_] h1 rfl)) (sub_add_cancel (Q1 0x411111041111102 [_] h1 rfl)) rfl) (Q2 0x51114011152121116011265401103 [_,_,_] (sub_add_cancel (Q1 0x411111042121111102 [_] h1 rfl)) (sub_add_cancel (Q1 0x411111041111102 [_] h1 rfl)) rfl),pow_add]at this
 have u1:b/2^h<2^h:=(div_lt_iff_lt_mul P).mpr u;have l1:2^(h-1)<=b/2^h:=(Nat.le_div_iff_mul_le P).mpr l;have hp:0<2^(h-1):=pow_pos (by decide);have NK:0<b/2^h:=by exact A7
 refine⟨le_antisymm (dc u1) ?_,NK⟩;have:=fY (b/2^h);have h3:h-1<bl (b/2^h):=(Nat.pow_lt_pow_iff_right (by decide)).mp (lt_of_le_of_lt l1 this);exact Q2 0x411160112511160110541103 [_,_,_] h3 (sub_add_cancel (Q1 0x411111041111102 [_] h1 rfl)) rfl
theorem xk (m:Nat)(hD:Ff (run m) h)(hh:h<=50000)(h1:1<=h)(hb:bl b=2*h)(Mh:0<b)(ha:a<2^(2*h)*b)(hbits:bl a<=400000)(st:St)(pad:Nat)(hpad:pad=0\/pad=1) :
  ∃ KA,cw ⟨run (m+1)⟩ Ip (Lo a b (2*h) [(68,.int pad)]) st=some (.ret (.tup [.int ((a/b:Nat):Int),.int ((if pad=1 then a%b/2 else a%b:Nat):Int)]),KA,st):=by
 have P:0<2^h:=pow_pos (by decide);refine av (zr hb Mh h1) λNU MR=>?_;let b1:=b/2^h;let b2:=b%2^h
 have Ry:b=b1*2^h+b2:=by
  have:=div_add_mod b (2^h);rw[mul_comm]at this;exact this.symm
 have Nu:b2<2^h:=mod_lt _ P;have pp:2^(2*h)=2^h*2^h:=by rw[show 2*h=h+h by exact Jc,pow_add]
 have ha12:a/2^(2*h)<b:=(div_lt_iff_lt_mul (by rw[pp];exact Nat.mul_pos P P)).mpr (by rw[mul_comm];exact ha)
 have hhi:a/2^(2*h)*2^h+a/2^h%2^h=a/2^h:=by
  have:=div_add_mod (a/2^h) (2^h);rw[Nat.div_div_eq_div_mul,← pp,mul_comm]at this;exact this
 let q1:=a/2^h/b;let r1:=a/2^h%b
 have e1:run (m+1) 15 [.int ((a/2^(2*h):Nat):Int),.int ((a/2^h%2^h:Nat):Int),.int b,.int b1,.int b2,.int h] st=some (.tup [.int q1,.int r1],st):=by
  have:=AI m hD (by exact bN) NU MR Ry Nu (mod_lt (a/2^h) P) ha12 st;rw[hhi]at this;exact this
 have Nx:r1<b:=mod_lt _ Mh;let q2:=(r1*2^h+a%2^h)/b;let r2:=(r1*2^h+a%2^h)%b
 have e2':run (m+1) 15 [.int r1,.int ((a%2^h:Nat):Int),.int b,.int b1,.int b2,.int h] st=some (.tup [.int q2,.int r2],st):=
  AI m hD (by exact bN) NU MR Ry Nu (mod_lt a P) Nx st
 have hlo:a%2^h<2^h:=mod_lt _ P
 have Qv:q2<2^h:=by
  refine(div_lt_iff_lt_mul Mh).mpr ?_
  have:r1*2^h+2^h<=b*2^h:=by
   rw[← succ_mul];exact mul_le_mul_right _ Nx
  rw[mul_comm (2^h) b];exact Q2 0x6740110711150110611154001103 [_,_,_,_] hlo this rfl
 have main:(q1*2^h+q2)*b+r2=a:=by
  have d1:=div_add_mod (a/2^h) b;have d2:=div_add_mod (r1*2^h+a%2^h) b;have d3:=div_add_mod a (2^h);have m1:q1*2^h*b=b*q1*2^h:=by rw[mul_comm (q1*2^h) b,mul_assoc]
  have m2:(b*q1+r1)*2^h=b*q1*2^h+r1*2^h:=add_mul _ _ _;have m3:b*q1+r1=a/2^h:=d1;have m4:b*q2+r2=r1*2^h+a%2^h:=d2;rw[m3,mul_comm]at m2;rw[add_mul,m1,mul_comm q2 b];exact le_antisymm (Q3 0x840a11279a01119806501117654001104 [_,_,_,_,_,_,_] d2 d3 m2 rfl) (Q3 0x850a11149a01129807601127650041104 [_,_,_,_,_,_,_] d2 d3 m2 rfl)
 have Nc:r2<b:=mod_lt _ Mh
 have fq:q1*2^h+q2=a/b:=by
  have:=(Nat.div_mod_unique Mh (a:=a) (c:=r2) (d:=q1*2^h+q2)).mpr ⟨by rw[mul_comm b];exact le_antisymm (Q1 0x645011165401102 [_,_,_] main rfl) (Q1 0x456011265041102 [_,_,_] main rfl),Nc⟩;exact this.1.symm
 have fr:r2=a%b:=by
  have:=(Nat.div_mod_unique Mh (a:=a) (c:=r2) (d:=q1*2^h+q2)).mpr ⟨by rw[mul_comm b];exact le_antisymm (Q1 0x645011165401102 [_,_,_] main rfl) (Q1 0x456011265041102 [_,_,_] main rfl),Nc⟩;exact this.2.symm
 have s0:aK .RShift (.int ((2*h:Nat):Int)) (.int 1)=some (.int h):=by
  have:=gQ (a:=2*h) (k:=1) (by decide);rw[show 2*h/2^1=h by exact le_antisymm (Q1 0x5212642120111542102 [_,_,_] (div_add_mod _ _) rfl) (Q2 0x211111601104212652120112542103 [_,_,_] (div_add_mod _ _) (mod_lt _ (by decide)) rfl)]at this;exact this
 have hblq:bl q1<=400000:=dc (lt_of_le_of_lt (le_trans (div_le_self _ _) (div_le_self _ _)) (lt_of_lt_of_le (fY a) (pow_le_pow_right (by decide) hbits)));let KZ:Loc:=[(68,.int pad),(69,.int h)];let Lb:Loc:=[(68,.int pad),(69,.int h),(70,.int ((2^h-1:Nat):Int))];let Lw:Loc:=[(68,.int pad),(69,.int h),(70,.int ((2^h-1:Nat):Int)),(74,.int b2),(73,.int b1)];let LF:Loc:=[(68,.int pad),(69,.int h),(70,.int ((2^h-1:Nat):Int)),(74,.int b2),(73,.int b1),(136,.int q1),(75,.int r1)];let LH:Loc:=[(68,.int pad),(69,.int h),(70,.int ((2^h-1:Nat):Int)),(74,.int b2),(73,.int b1),(136,.int q1),(75,.int r2),(137,.int q2)]
 have v0:aa ⟨run (m+1)⟩ (.b .Sub (.b .LShift (.int 1) (.l 69)) (.int 1)) (Lo a b (2*h) KZ) st=some (.int ((2^h-1:Nat):Int),st):=
  aj (x:=.int ((1*2^h:Nat):Int)) (y:=.int 1) (aj (x:=.int 1) (y:=.int h) rfl rfl (gR (by exact bN))) rfl (iO h)
 have v6:aa ⟨run (m+1)⟩ (.b .RShift (.l 67) (.l 69)) (Lo a b (2*h) Lb) st=some (.int b1,st):=aj rfl rfl (gQ (by exact dW));have v7:aa ⟨run (m+1)⟩ (.b .BitAnd (.l 67) (.l 70)) (Lo a b (2*h) Lb) st=some (.int b2,st):=aj rfl rfl (lC b h);have v8:aa ⟨run (m+1)⟩ (.b .RShift (.l 0) (.int 1)) (Lo a b (2*h) [(68,.int pad)]) st=some (.int h,st):=aj rfl rfl s0;have v1:aa ⟨run (m+1)⟩ (.b .RShift (.l 66) (.l 0)) (Lo a b (2*h) Lw) st=some (.int ((a/2^(2*h):Nat):Int),st):=aj rfl rfl (gQ (by exact Q1 0xc3504142105f5e10071111421201102 [_] hh rfl));have v2:aa ⟨run (m+1)⟩ (.b .BitAnd (.b .RShift (.l 66) (.l 69)) (.l 70)) (Lo a b (2*h) Lw) st=some (.int ((a/2^h%2^h:Nat):Int),st):=aj (aj rfl rfl (gQ (by exact dW))) rfl (lC _ h);have v3:aN ⟨run (m+1)⟩ [.l 67,.l 73,.l 74,.l 69] (Lo a b (2*h) Lw) st=some ([.int b,.int b1,.int b2,.int h],st):=rfl;have v4:aa ⟨run (m+1)⟩ (.b .BitAnd (.l 66) (.l 70)) (Lo a b (2*h) LF) st=some (.int ((a%2^h:Nat):Int),st):=aj rfl rfl (lC a h);have v5:aN ⟨run (m+1)⟩ [.l 67,.l 73,.l 74,.l 69] (Lo a b (2*h) LF) st=some ([.int b,.int b1,.int b2,.int h],st):=rfl
 have w1:aa ⟨run (m+1)⟩ (.call 15 [.b .RShift (.l 66) (.l 0),.b .BitAnd (.b .RShift (.l 66) (.l 69)) (.l 70),.l 67,.l 73,.l 74,.l 69]) (Lo a b (2*h) Lw) st=some (.tup [.int q1,.int r1],st):=by
  refine be (fA v1 (fA v2 v3)) ?_;exact e1
 have w2:aa ⟨run (m+1)⟩ (.call 15 [.l 75,.b .BitAnd (.l 66) (.l 70),.l 67,.l 73,.l 74,.l 69]) (Lo a b (2*h) LF) st=some (.tup [.int q2,.int r2],st):=by
  have v9:aa ⟨run (m+1)⟩ (.l 75) (Lo a b (2*h) LF) st=some (.int r1,st):=rfl;refine be (fA v9 (fA v4 v5)) ?_;exact e2'
 have pre:∀ R:Rs,cw ⟨run (m+1)⟩ [.iff (.val (.l 68)) [.aug 75 .RShift (.int 1)] [],.ret (.tup [.b .BitOr (.b .LShift (.l 136) (.l 69)) (.l 137),.l 75])] (Lo a b (2*h) LH) st=R->cw ⟨run (m+1)⟩ Ip (Lo a b (2*h) [(68,.int pad)]) st=R:=by
  intro R hR;refine(ae (KC:=Lo a b (2*h) KZ) (aE v8 rfl)).trans ?_;refine(ae (KC:=Lo a b (2*h) Lb) (aE v0 rfl)).trans ?_;refine(ae (KC:=Lo a b (2*h) Lw) (wd (e2 v6 v7) rfl)).trans ?_;refine(ae (KC:=Lo a b (2*h) LF) (aE w1 rfl)).trans ?_;refine(ae (KC:=Lo a b (2*h) LH) (aE w2 rfl)).trans ?_;exact hR
 have fin:∀ (τ:Loc) (r:Nat),af τ 136=some (.int q1)->af τ 69=some (.int h)->af τ 137=some (.int q2)->af τ 75=some (.int r)->cw ⟨run (m+1)⟩ [.ret (.tup [.b .BitOr (.b .LShift (.l 136) (.l 69)) (.l 137),.l 75])] (Lo a b (2*h) τ) st=some (.ret (.tup [.int ((a/b:Nat):Int),.int r]),Lo a b (2*h) τ,st):=by
  intro τ r g1 g2 g3 g4
  have ge:∀ y,Nat.beq 66 y=false->Nat.beq 67 y=false->Nat.beq 0 y=false->af (Lo a b (2*h) τ) y=af τ y:=λy h1 h2 h3=>by
   simp only[Lo,af,h1,h2,h3,if_false,reduceCtorEq]
  have:=xi (q:=q1) (k:=h) Qv;rw[fq]at this;exact cy (sR (kZ (e2 (aj (aj (ay ((ge _ rfl rfl rfl).trans g1)) (ay ((ge _ rfl rfl rfl).trans g2)) (gP (by exact Dy))) (ay ((ge _ rfl rfl rfl).trans g3)) this) (ay ((ge _ rfl rfl rfl).trans g4)))))
 rcases hpad with rfl |rfl
 ·refine⟨Lo a b (2*h) LH,pre _ ((ae (bG (fk rfl rfl))).trans ?_)⟩;rw[if_neg (by decide),← fr];exact fin LH r2 rfl rfl rfl rfl
 ·have s1:lN .RShift (.int r2) (.int 1)=some (.int ((r2/2:Nat):Int)):=by
   have:=gQ (a:=r2) (k:=1) (by decide);have e:lN .RShift (.int r2) (.int 1)=aK .RShift (.int r2) (.int ((1:Nat):Int)):=rfl;rw[e,this]
  let Qx:Loc:=[(68,.int 1),(69,.int h),(70,.int ((2^h-1:Nat):Int)),(74,.int b2),(73,.int b1),(136,.int q1),(75,.int ((r2/2:Nat):Int)),(137,.int q2)];refine⟨Lo a b (2*h) Qx,pre _ ((ae (KC:=Lo a b (2*h) Qx) ((dO (fk rfl rfl)).trans ((ae (jQ rfl rfl s1)).trans bB))).trans ?_)⟩;rw[if_pos rfl,← fr];exact fin Qx (r2/2) rfl rfl rfl rfl
end
theorem Cw (b:Nat)(hb:0<b):bl (b*2)=bl b+1:=by
 have h1:=fY b;have h2:=xh (a:=b) (by exact qi);have hp:=lA (a:=b) (by exact qi);refine le_antisymm (dc (by rw[pow_succ];exact Q1 0x5111402105213111421301102 [_,_] h1 rfl)) ?_;have h3:=fY (b*2)
 have h4:2^bl b<=b*2:=by
  have:=pow_succ (n:=2) (m:=bl b-1);rw[succ_eq_add_one,sub_add_cancel hp]at this;exact Q2 0x6213411156210521341103 [_,_,_] h2 this rfl
 have:=(Nat.pow_lt_pow_iff_right (by decide)).mp (lt_of_le_of_lt h4 h3);exact bz
theorem Iq:∀ (k m n:Nat),n<=4000*2^k->n<=90000->Ff (run (m+2*k+1)) n
 |k,m,n,hn,NB=>λa b st hb Mh ha=>by
  have P:0<2^n:=pow_pos (by decide);have Oj:b<2^n:=by rw[← hb];exact fY b
  have Rz:a<2^(n+n):=by
   rw[pow_add];exact lt_of_lt_of_le ha (mul_le_mul_left _ (le_of_lt Oj))
  have Qy:bl a<=n+n:=dc Rz
  have NV:bJ st .LtE (.int ((bl a:Int)-(n:Int))) (.int 4000)=some (decide (bl a<=n+4000)):=by
   exact congrArg some (decide_eq_decide.mpr GR)
  have Pf:jM st .bitlen (.int a) []=some (.int (bl a),st):=rfl;rw[Cv];by_cases q:bl a<=n+4000
  ·rw[decide_eq_true q]at NV
   have dm:gA st .divmod [.int a,.int b]=some (.tup [.int ((a/b:Nat):Int),.int ((a%b:Nat):Int)],st):=by
    have c:(b:Int)≠0/\divisionGoesByPylong a b=false:=⟨by exact yq,Fg (by exact Q2 0xfa03160411065112fa0315041103 [_,_,_] hb q rfl) (by exact qi)⟩;exact(if_pos c).trans (by rw[pT,xj])
   rw[rH];exact bT (σ:=Lo a b n []) rfl (cy ((dO (bF (aj (gY rfl rfl dn Pf) rfl rfl) rfl NV)).trans (cy (sR (dq (e2 rfl rfl) dm)))))
  ·rw[decide_eq_false q]at NV;have RA:4000<n:=by exact Q2 0x5111fa03140011044051104111fa03101103 [_,_] Qy (Nat.not_le.mp q) rfl
   cases k with
   |zero=>exact absurd (lt_of_lt_of_le RA (by assumption)) (lt_irrefl _)
   |succ k=>
    have x1:xS ⟨run (m+2*(k+1))⟩ Jy (Lo a b n []) st=some (.next,Lo a b n [],st):=bG (bF (aj (gY rfl rfl dn Pf) rfl rfl) rfl NV)
    have x2:xS ⟨run (m+2*(k+1))⟩ (.asg (.nm 68) (.b .BitAnd (.l 0) (.int 1))) (Lo a b n []) st=some (.next,Lo a b n [(68,.int ((n%2:Nat):Int))],st):=by
     refine aE (v:=.int ((n%2:Nat):Int)) (aj (x:=.int n) (y:=.int 1) rfl rfl ?_) rfl;have:=dI n 1;rw[Nat.and_one_is_mod]at this;exact congrArg (λz=>some (AV.int z)) this
    have PK:4000*2^(k+1)=2*(4000*2^k):=by rw[pow_succ];exact le_antisymm (Q0 0x4fa0322124213fa0321101 [_] rfl) (Q0 0x4213fa0324fa0322121101 [_] rfl)
    by_cases odd:n%2=1
    ·have Nb:n+1=2*((n+1)/2):=GJ (by assumption);have hD:=Iq k m ((n+1)/2) (by exact Q3 0x5fa0322127fa0321114212111601127fa03261105fa03242104 [_,_,_,_] hn Nb PK rfl) (by exact Q2 0x42121115011215f9051511015f905142103 [_,_] NB Nb rfl);have NG:bl (b*2)=2*((n+1)/2):=by rw[Cw b Mh,hb];exact Nb
     have ha':a*2<2^(2*((n+1)/2))*(b*2):=by
      rw[← Nb,pow_succ]
      have:2^n*2*(b*2)=2^n*b*2*2:=by
       rw[mul_assoc,Nat.mul_left_comm 2 b 2,← mul_assoc,← mul_assoc]
      rw[this];exact Q1 0x5111402105213213111421301102 [_,_] ha rfl
     have Pc:bl (a*2)<=400000:=by
      have:a*2<2^(n+n+1):=by rw[pow_succ];exact Q1 0x5111402105213111421301102 [_,_] Rz rfl
      have:=dc this;exact Q2 0x1115500411015f9051521061a805141103 [_,_] NB this rfl
     refine aw (xk (m+2*k+1) hD (by exact Q2 0x42121115011215f90515110c3504142103 [_,_] NB Nb rfl) (by exact Q2 0x42121115011242121115021141112103 [_,_] Nb Nb rfl) NG (by exact Q1 0x411101011042131110101102 [_] Mh rfl) ha' Pc st 1 (.inr rfl)) λKA e=>?_;rw[if_pos rfl,Nat.mul_div_mul_right _ _ (by decide:0<2),Nat.mul_mod_mul_right,Nat.mul_div_cancel _ (by decide:0<2)]at e
     have sh:∀ x:Nat,bl x<=400000->lN .LShift (.int x) (.int 1)=some (.int ((x*2:Nat):Int)):=λx hx=>by
      have:=gP (a:=x) (k:=1) (by exact dW);refine cC ((pG (by decide) (by have:bl x=intBits (x:Int):=rfl;exact zX)).trans ?_);congr 1
     have x3:xS ⟨run (m+2*(k+1))⟩ Io (Lo a b n [(68,.int ((n%2:Nat):Int))]) st=some (.next,Lo (a*2) (b*2) (2*((n+1)/2)) [(68,.int ((1:Nat):Int))],st):=by
      rw[odd,← Nb];refine(dO (fk rfl rfl)).trans ?_;refine(ae (KC:=Lo (a*2) b n [(68,.int ((1:Nat):Int))]) (jQ rfl rfl (sh a (by exact Q2 0x550411015f9051521061a805141103 [_,_] NB Qy rfl)))).trans ?_;refine(ae (KC:=Lo (a*2) (b*2) n [(68,.int ((1:Nat):Int))]) (jQ rfl rfl (sh b (by exact Q2 0x5411115f9051511061a805141103 [_,_] NB hb rfl)))).trans ?_;exact(ae (KC:=Lo (a*2) (b*2) (n+1) [(68,.int ((1:Nat):Int))]) (jQ rfl rfl rfl)).trans bB
     rw[rH];exact bT (σ:=Lo a b n []) rfl ((ae x1).trans ((ae x2).trans ((ae x3).trans e)))
    ·have Pg:n%2=0:=(Nat.mod_two_eq_zero_or_one n).resolve_right (by assumption);have Nb:n=2*(n/2):=by exact le_antisymm (Q2 0x4652120112016111521241103 [_,_,_] Pg (div_add_mod _ _) rfl) (Q1 0x5642120111542121102 [_,_,_] (div_add_mod _ _) rfl)
     have hD:=Iq k m (n/2) (by exact Q3 0x421261125fa0322127fa0321117fa03261105fa03242104 [_,_,_,_] hn PK Nb rfl) (by exact Q2 0x564212011115f9051511015f905142103 [_,_,_] NB (div_add_mod _ _) rfl);refine aw (xk (m+2*k+1) hD (by exact Q2 0x564212011115f90515110c3504142103 [_,_,_] NB (div_add_mod _ _) rfl) (by exact Q3 0x2111116011056421201125111fa031011041114104 [_,_,_] RA (div_add_mod _ _) (mod_lt _ (by decide)) rfl) (hb.trans Nb) Mh (by rw[← Nb];exact ha) (by exact Q2 0x550411015f9051521061a805141103 [_,_] NB Qy rfl) st 0 (.inl rfl)) λKA e=>?_;rw[if_neg (by decide),← Nb]at e
     have x3:xS ⟨run (m+2*(k+1))⟩ Io (Lo a b n [(68,.int ((n%2:Nat):Int))]) st=some (.next,Lo a b n [(68,.int ((0:Nat):Int))],st):=by
      rw[Pg];exact bG (fk rfl rfl)
     rw[rH];exact bT (σ:=Lo a b n []) rfl ((ae x1).trans ((ae x2).trans ((ae x3).trans e)))
theorem zt (x s:Nat):Builtin.bitXor (x:Int) ((x/2^s*2^s:Nat):Int)=((x%2^s:Nat):Int):=by
 have e:x/2^s*2^s=(x >>> s) <<< s:=by rw[Nat.shiftLeft_eq,Nat.shiftRight_eq_div_pow]
 have h1:x ||| (x/2^s*2^s)=x:=by
  rw[e];apply Nat.eq_of_testBit_eq;intro i;rw[Nat.testBit_or,Nat.testBit_shiftLeft,Nat.testBit_shiftRight];by_cases h:s<=i
  ·rw[show s+(i-s)=i by exact I9];cases x.testBit i<;>simp
  ·have:decide (i>=s)=false:=decide_eq_false (by exact bz);rw[this];simp
 have h2:x &&& (x/2^s*2^s)=x/2^s*2^s:=by
  rw[e];apply Nat.eq_of_testBit_eq;intro i;rw[Nat.testBit_and,Nat.testBit_shiftLeft,Nat.testBit_shiftRight];by_cases h:s<=i
  ·rw[show s+(i-s)=i by exact I9];cases x.testBit i<;>simp
  ·have:decide (i>=s)=false:=decide_eq_false (by exact bz);rw[this];simp
 unfold Builtin.bitXor;rw[je,dI,h1,h2];have:=div_add_mod x (2^s);rw[mul_comm]at this;exact yh (div_add_mod' ..)
noncomputable def dg (x n j:Nat):Nat:=x/2^(n*j)%2^n
theorem Cy (x n M j:Nat)(h:j<M):dg (x%2^(n*M)) n j=dg x n j:=by
 unfold dg
 have e:2^(n*M)=2^(n*j)*(2^n*2^(n*(M-j-1))):=by
  rw[← pow_add,← pow_add];congr 1;have:M=j+(1+(M-j-1)):=GL (by assumption);rw[show n*M=n*(j+(1+(M-j-1))) by rw[← this],mul_add,mul_add,mul_one]
 rw[e,Nat.mod_mul_right_div_self,Nat.mod_mul_right_mod]
theorem nV (x n M j:Nat):dg (x/2^(n*M)) n j=dg x n (M+j):=by
 unfold dg;rw[Nat.div_div_eq_div_mul,← pow_add,← mul_add]
noncomputable def cp (a n m:Nat):List Nat:=(List.range m).map λj=>dg a n j
theorem pU (a n m:Nat):(cp a n m).length=m:=by rw[cp,length_map,length_range]
theorem xm (x n M N:Nat):cp x n (M+N)=cp (x%2^(n*M)) n M++cp (x/2^(n*M)) n N:=by
 rw[cp,List.range_add,map_append,map_map];refine congr (congrArg HAppend.hAppend (map_congr_left λj h=>(Cy x n M j (mem_range.mp h)).symm)) (map_congr_left λj _=>(nV x n M j).symm)
section
variable {a b c d n m:Nat}{i j:Int}
theorem Jz (h:a<=b:=by assumption)(h2:c<=d:=by assumption)(k:decide ((b:Int)+(d:Int)<=j)=true:=by exact rfl):(a:Int)+(c:Int)<=j:=Int.le_trans (Int.add_le_add (ofNat_le.mpr h) (ofNat_le.mpr h2)) (of_decide_eq_true k)
theorem JA (h:n+a<=b:=by assumption):a<=b:=le_trans (le_add_left ..) h
end
theorem rI {l M N:Nat}(h:N=M\/N=M+1):((l:Int)+((l+(M+N):Nat):Int)).fdiv 2=((l+M:Nat):Int):=by
 exact(fdiv_eq_ediv_of_nonneg _ (by decide)).trans (GI h)
theorem Cz {w k:Nat}(h:2<=w)(h2:w<=2^(k+1)):∃ M N,w=M+N/\(N=M\/N=M+1)/\0<M/\0<N/\M<=2^k/\N<=2^k:=by
 rw[pow_succ]at h2;exact⟨w/2,w-w/2,(Nat.add_sub_cancel' (div_le_self ..)).symm,zT,by exact Q3 0x211111601105642120112521111041110104104 [_,_,_] h (div_add_mod _ _) (mod_lt _ (by decide)) rfl,by exact Q3 0x57621201116405210521111041110104104 [_,_,_,_] h Gx (div_add_mod _ _) rfl,by exact Q2 0x674212011152136110542103 [_,_,_,_] h2 (div_add_mod _ _) rfl,JO h2⟩
theorem pV {l M N n:Nat}(h:N=M\/N=M+1):(((l:Int)+((l+(M+N):Nat):Int)).fdiv 2-(l:Int))*(n:Int)=((n*M:Nat):Int):=by
 rw[rI h,show((l+M:Nat):Int)-l=M by exact Gf,Int.mul_comm];rfl
theorem pW {n k x l M N:Nat}{ds:List Int}(hn:n<=100000)(h:N=M\/N=M+1)(hM:0<M)(hw:M+N<=100)(hx:x<2^(n*(M+N))) :
  dH n (k+1) x l ((l+(M+N):Nat):Int) ds=match dH n k ((x%2^(n*M):Nat):Int) l ((l+M:Nat):Int) ds with
   |some Mb=>dH n k ((x/2^(n*M):Nat):Int) ((l+M:Nat):Int) ((l+(M+N):Nat):Int) Mb
   |none=>none:=by
 have hup:x/2^(n*M)<2^(n*N):=(div_lt_iff_lt_mul (pow_pos (by decide))).mpr (by rw[← pow_add,← mul_add,add_comm N M];exact hx);have Oj:bl (x/2^(n*M))<=100000*100:=le_trans (dc hup) (mul_le_mul hn (JA hw));have PR:n*M<=100000*100:=mul_le_mul hn (uN hw)
 have hf:(x:Int).fdiv (2^(n*M))=((x/2^(n*M):Nat):Int):=by
  rw[fdiv_eq_ediv_of_nonneg _ (Int.le_of_lt (Int.pow_pos (by decide)))];simp
 have key:∀ (mid sh up lo:Int),mid=((l+M:Nat):Int)->sh=((n*M:Nat):Int)->up=((x/2^(n*M):Nat):Int)->lo=((x%2^(n*M):Nat):Int)->(if 0<=sh/\(intBits up:Int)+sh<=2^27/\sh<2^60/\eE (mid-l) n=true then match dH n k lo l mid ds with
   |some Mb=>dH n k up mid ((l+(M+N):Nat):Int) Mb
   |none=>none else none)=match dH n k ((x%2^(n*M):Nat):Int) l ((l+M:Nat):Int) ds with
   |some Mb=>dH n k ((x/2^(n*M):Nat):Int) ((l+M:Nat):Int) ((l+(M+N):Nat):Int) Mb
   |none=>none:=by
  rintro _ _ _ _ rfl rfl rfl rfl;rw[show((l+M:Nat):Int)-l=M by exact Gf,EF];exact if_pos ⟨jY,Jz Oj PR,zX PR,gq (by rw[natAbs_natCast];exact dW (uN hw))⟩
 have K8:=pV (l:=l) (n:=n) h;refine(if_neg (zU hM h)).trans (key _ _ _ _ (rI h) K8 ?_ ?_)
 ·rw[K8,toNat_natCast,hf]
 ·rw[K8,toNat_natCast,hf,show((x/2^(n*M):Nat):Int)*2^(n*M)=((x/2^(n*M)*2^(n*M):Nat):Int) by simp,zt]
theorem ji (n:Nat)(hn:n<=100000):∀ (k x:Nat) (A B C:List Int),B≠[]->(A++(B++C)).length<=100->B.length<=2^k->x<2^(n*B.length) ->
  dH n (k+1) x A.length ((A.length+B.length:Nat):Int) (A++(B++C))=some (A++((cp x n B.length).map (λk:Nat=>(k:Int))++C))
 |k,x,A,[b],C,_,hl,_,hx=>by
  refine(if_pos rfl).trans ((if_pos ⟨jY,uM (by rw[length_append,length_append];exact J5 (lt_of_lt_of_le Nat.zero_lt_one (le_add_right ..)))⟩).trans (congrArg some ?_));rw[toNat_natCast,List.set_append_right _ _ (le_refl _),sub_self]
  have:dg x n 0=x:=by
   unfold dg;rw[mul_zero,Nat.pow_zero,Nat.div_one,mod_eq_of_lt];exact mul_one n▸hx
  show A++(x:Int)::C=A++((dg x n 0:Nat):Int)::C;rw[this]
 |0,x,A,b::c::B,C,_,_,h,_=>absurd h (by simp)
 |k+1,x,A,b::c::B,C,_,hl,h,hx=>by
  generalize hB:b::c::B=D at *;have h2:2<=D.length:=hB▸(by simp);refine uR (Cz h2 h) λM N hw hN hM Qz m1 m2=>?_;have l1:(D.take M).length=M:=by rw[length_take,hw];exact Nat.min_eq_left (le_add_right ..)
  have l2:(D.drop M).length=N:=by rw[List.length_drop,hw];exact Nat.add_sub_cancel_left ..
  have Nd:A.length+(M+N)+C.length<=100:=by rw[length_append,length_append,hw]at hl;exact Q1 0x64217650040110642176504001102 [_,_,_,_] hl rfl
  rw[hw]at hx ⊢;have e1:=ji n hn k (x%2^(n*M)) A (D.take M) (D.drop M++C) (λz=>by rw[z]at l1;exact ne_of_lt hM l1) (by rw[length_append,length_append,length_append,l1,l2];exact Q1 0x64217650400110642176050401102 [_,_,_,_] Nd rfl) (by rw[l1];exact m1) (by rw[l1];exact mod_lt _ (pow_pos (by decide)))
  have e2:=ji n hn k (x/2^(n*M)) (A++(cp (x%2^(n*M)) n M).map (λk:Nat=>(k:Int))) (D.drop M) C (λz=>by rw[z]at l2;exact ne_of_lt Qz l2) (by simp only[length_append,length_map,pU,l2];exact Q1 0x64217650400110642176054001102 [_,_,_,_] Nd rfl) (by rw[l2];exact m2)
   (by rw[l2];exact(div_lt_iff_lt_mul (pow_pos (by decide))).mpr (by rw[← pow_add,← mul_add,add_comm N M];exact hx))
  rw[l1,← append_assoc (D.take M),take_append_drop]at e1;rw[l2,length_append,length_map,pU,append_assoc,append_assoc,add_assoc]at e2;rw[pW hn hN hM (by exact Q1 0x6421754060011064215401102 [_,_,_,_] Nd rfl) hx,e1,xm,map_append,append_assoc];exact e2
theorem ta (k a n:Nat)(hn:n<=100000)(MU:1<=n)(hm:(bl a+n-1)/n<=64)(st:St):run (k+1) 16 [.int a,.int n] st=some (.obj st.length,st++[.list (ah (cp a n ((bl a+n-1)/n)))]):=by
 show ri [.int a,.int n] st=_;let m:=(bl a+n-1)/n
 have hb:(intBits (a:Int):Int)+n-1=((bl a+n-1:Nat):Int):=by
  exact JI MU rfl
 have c1:(n:Int)≠0/\divisionGoesByPylong ((bl a+n-1:Nat):Int) n=false:=⟨by exact yq,la (by rw[natAbs_natCast];exact dW)⟩;have c2':∀ x:Nat,x<=64->(x:Int)<1000/\-1000<(x:Int):=λx h=>by exact J0
 have c2:=c2' m hm;show(if (n:Int)≠0/\divisionGoesByPylong ((intBits (a:Int):Int)+n-1) n=false then _ else none)=_;rw[hb,if_pos c1,pT];dsimp only;rw[if_pos c2,toNat_natCast];by_cases ha:a=0
 ·subst ha
  have hm0:(bl 0+n-1)/n=0:=by
   have:bl 0=0:=rfl;rw[this];exact div_eq_of_lt (by exact Q1 0x5010111401115111401102 [_,_] (sub_add_cancel (Q1 0x411111040101111102 [_] MU rfl)) rfl)
  rw[if_pos (by rfl),hm0];rfl
 ·rw[if_neg (by exact G3)];have hp:=lA ha;have O9:1<=m:=(Nat.le_div_iff_mul_le MU).mpr (by exact Q2 0x460111501126111110541121103 [_,_,_] hp (sub_add_cancel (Q1 0x41111105401111102 [_,_] hp rfl)) rfl)
  have LC:a<2^(n*m):=by
   refine lt_of_lt_of_le (fY a) (pow_le_pow_right (by decide) ?_);have:=div_add_mod (bl a+n-1) n;have h2:=mod_lt (bl a+n-1) MU;show bl a<=n*((bl a+n-1)/n);exact Q3 0x840111701128111601107650112541104 [_,_,_,_,_] this h2 (sub_add_cancel (Q1 0x5111601105401111102 [_,_,_] h2 rfl)) rfl
  have KL:(replicate ((bl a+n-1)/n) (0:Int)).length=m:=by rw[length_replicate]
  have e:=ji n hn 11 a [] (replicate m 0) [] (λz=>by rw[z]at KL;exact ne_of_lt O9 KL) (by rw[nil_append,append_nil,length_replicate];exact bN) (by rw[length_replicate];exact le_trans hm (by decide)) (by rw[length_replicate];exact LC);rw[nil_append,append_nil,nil_append,append_nil,length_nil,zero_add]at e;refine jI e ?_;rw[length_replicate,map_map];rfl
noncomputable def num (n:Nat)(ds:List Nat):Nat:=ds.foldr (λd acc=>acc*2^n+d) 0
theorem tb (n:Nat)(A B:List Nat):num n (A++B)=num n B*2^(n*A.length)+num n A:=by
 induction A with
 |nil=>simp[num]
 |cons d A ih=>
  have e1:num n (d::A++B)=num n (A++B)*2^n+d:=rfl;have e2:num n (d::A)=num n A*2^n+d:=rfl;rw[e1,e2,ih,length_cons,mul_add n A.length 1,mul_one,pow_add,← mul_assoc,add_mul];exact J9
theorem xn (n:Nat):∀ (ds:List Nat),(∀ d∈ds,d<2^n)->num n ds<2^(n*ds.length):=by
 intro ds
 induction ds with
 |nil=>
  intro _;simp[num]
 |cons d A ih=>
  intro h;have e2:num n (d::A)=num n A*2^n+d:=rfl;have h1:=h d (by simp);have h2:=ih λx hx=>h x (by simp[hx]);rw[e2,length_cons,mul_add,mul_one,pow_add]
  have:num n A*2^n+2^n<=2^(n*A.length)*2^n:=by
   rw[← succ_mul];exact mul_le_mul_right _ h2
  exact Q2 0x6740110711150110611154001103 [_,_,_,_] h1 this rfl
theorem xo (n:Nat):∀ (m a:Nat),num n (cp a n m)=a%2^(n*m):=by
 intro m
 induction m with
 |zero=>
  intro a;simp[cp,num,Nat.mod_one]
 |succ m ih=>
  intro a
  have e:cp a n (m+1)=a%2^n::cp (a/2^n) n m:=by
   rw[cp,List.range_succ_eq_map,map_cons,map_map,cp];congr 1
   ·simp[dg]
   ·apply map_congr_left;intro j _;have:=nV a n 1 j;rw[mul_one,add_comm]at this;exact this.symm
  have e2:num n (a%2^n::cp (a/2^n) n m)=num n (cp (a/2^n) n m)*2^n+a%2^n:=rfl;rw[e,e2,ih,mul_add,mul_one,add_comm (n*m) n,pow_add,Nat.mod_mul];rw[mul_comm (2^n)];exact Hb
theorem Fh {γ:Type}{o:Option Int}{k:Int->Option γ}{x:Int}{r:Option γ}(h:o=some x)(f:k x=r):(match (generalizing:=false) o with
 |some x=>k x
 |none=>none)=r:=by subst h;exact f
theorem pX {n k l M N:Nat}{ds:List Int}{u v:Nat}(hn:n<=100000)(h:N=M\/N=M+1)(hM:0<M)(hw:M+N<=100)(hu:u<2^(n*N))
  (e1:eI n ds k ((l+M:Nat):Int) ((l+(M+N):Nat):Int)=some (u:Int)) (e2:eI n ds k l ((l+M:Nat):Int)=some (v:Int)):eI n ds (k+1) l ((l+(M+N):Nat):Int)=some ((u*2^(n*M)+v:Nat):Int):=by
 have Oj:bl u<=100000*100:=le_trans (dc hu) (mul_le_mul hn (JA hw));have PR:n*M<=100000*100:=mul_le_mul hn (uN hw)
 have key:∀ (mid sh:Int),mid=((l+M:Nat):Int)->sh=((n*M:Nat):Int)->(match eI n ds k mid ((l+(M+N):Nat):Int) with
  |some u=>if 0<=sh/\(intBits u:Int)+sh<=2^27/\eE (mid-l) n=true then match eI n ds k l mid with
   |some v=>some (u*2^sh.toNat+v)
   |none=>none
   else none
  |none=>none)=some ((u*2^(n*M)+v:Nat):Int):=by
  rintro _ _ rfl rfl;rw[show((l+M:Nat):Int)-l=M by exact Gf,EF];refine Fh e1 ((if_pos ⟨jY,Jz Oj PR,gq (by rw[natAbs_natCast];exact dW (uN hw))⟩).trans (Fh e2 ?_));rw[toNat_natCast];simp
 exact(if_neg (zU hM h)).trans (key _ _ (rI h) (pV h))
theorem jj (n:Nat)(hn:n<=100000):∀ (k:Nat) (A B C:List Nat),B≠[]->(A++(B++C)).length<=100->B.length<=2^k->(∀ d∈B,d<2^n) ->
  eI n ((A++(B++C)).map λk:Nat=>(k:Int)) (k+1) A.length ((A.length+B.length:Nat):Int)=some ((num n B:Nat):Int)
 |k,A,[b],C,_,hl,_,_=>by
  refine(if_pos rfl).trans ((if_pos ⟨jY,zX (le_trans (by rw[length_append];exact le_add_right ..) hl)⟩).trans ?_);rw[toNat_natCast,getElem?_map,getElem?_append_right (le_refl _),sub_self];simp[num]
 |0,A,b::c::B,C,_,_,h,_=>absurd h (by simp)
 |k+1,A,b::c::B,C,_,hl,h,hd=>by
  generalize hB:b::c::B=D at *;have h2:2<=D.length:=hB▸(by simp);refine uR (Cz h2 h) λM N hw hN hM Qz m1 m2=>?_;have l1:(D.take M).length=M:=by rw[length_take,hw];exact Nat.min_eq_left (le_add_right ..)
  have l2:(D.drop M).length=N:=by rw[List.length_drop,hw];exact Nat.add_sub_cancel_left ..
  have Nd:A.length+(M+N)+C.length<=100:=by rw[length_append,length_append,hw]at hl;exact Q1 0x64217650040110642176504001102 [_,_,_,_] hl rfl
  have d2:∀ d∈D.drop M,d<2^n:=λd h=>hd d (List.mem_of_mem_drop h);have eq:A++(D++C)=A++(D.take M++(D.drop M++C)):=by rw[← append_assoc (D.take M),take_append_drop]
  have e2:=jj n hn k A (D.take M) (D.drop M++C) (λz=>by rw[z]at l1;exact ne_of_lt hM l1) (eq▸hl) (by rw[l1];exact m1) λd h=>hd d (List.mem_of_mem_take h);have e1:=jj n hn k (A++D.take M) (D.drop M) C (λz=>by rw[z]at l2;exact ne_of_lt Qz l2) (by rw[append_assoc,← eq];exact hl) (by rw[l2];exact m2) d2;rw[l1,← eq]at e2;rw[l2,length_append,l1,append_assoc,← eq,add_assoc]at e1;have hu:=xn n (D.drop M) d2;rw[l2]at hu;have:=pX hn hN hM (by exact Q1 0x6421754060011064215401102 [_,_,_,_] Nd rfl) hu e1 e2;rw[hw,this];have na:=tb n (D.take M) (D.drop M);rw[take_append_drop,l1]at na;rw[na]
theorem Fi (k n i:Nat)(hn:n<=100000)(ds:List Nat)(Mz:∀ d∈ds,d<2^n)(hl:ds.length<=64){st:St}(h:st[i]?=some (.list (ah ds))):run (k+1) 17 [.obj i,.int n] st=some (.int (num n ds:Nat),st):=by
 show rj [.obj i,.int n] st=_;have KL:(ds.map λk:Nat=>(k:Int)).length<1000:=by rw[length_map];exact dW
 refine jV (mH h) (jI (cL _) ((if_pos KL).trans ?_));by_cases q:ds=[]
 ·subst q;rfl
 ·have LO:¬ ((ds.map λk:Nat=>(k:Int))=[]):=by simp[q]
  have NK:0<ds.length:=length_pos_iff.mpr q;have e:=jj n hn 11 [] ds [] q (by rw[nil_append,append_nil];exact bN) (le_trans hl (by decide)) Mz;rw[nil_append,append_nil,length_nil,zero_add]at e
  have e':eI (n:Int) (ds.map λk:Nat=>(k:Int)) 12 0 (((ds.map λk:Nat=>(k:Int)).length:Nat):Int)=some ((num n ds:Nat):Int):=by
   rw[length_map];exact e
  rw[if_neg LO,e']
theorem CA (n:Nat)(a:List AV)(st:St):run (n+1) 13 a st=bE (run n) [66,67] HH a st:=rfl
theorem CB (n:Nat)(a:List AV)(st:St):run (n+1) 12 a st=bE (run n) [66,67] Jk a st:=rfl
noncomputable def Gs:List S:=[.asg (.tup [178,75]) (.call 14 [.b .Add (.b .LShift (.l 75) (.l 0)) (.l 79),.l 67,.l 0]),.expr (.sm .append (.l 78) [.l 178])]
theorem CC:HH=[.asg (.nm 0) (.sm .bitlen (.l 67) []),.asg (.nm 76) (.call 16 [.l 66,.l 0]),.asg (.nm 75) (.int 0),.asg (.nm 78) (.new true (.list [])),.forR 79 (.l 76) Gs,.expr (.sm .reverse (.l 78) []),.asg (.nm 80) (.call 17 [.l 78,.l 0]),.ret (.tup [.l 80,.l 75])]:=rfl
noncomputable def Mn (a b n da r c:Nat)(τ:Loc):Loc:=(66,.int a)::(67,.int b)::(0,.int n)::(76,.obj da)::(75,.int r)::(78,.obj c)::τ
theorem CD {X:Cx}{σ K5:Loc}{st Kx Ky:St}{x i:Nat}{src:E}{body:List S}{xs:List AV}(h:aa X src σ st=some (.obj i,Kx))(h2:Kx[i]?=some (.list xs))(h3:bc (λst=>an st (.obj i) xs) (λv σ st=>cw X body (ai σ x v) st) xs.reverse σ Kx=some (.next,K5,Ky)):xS X (.forR x src body) σ st=some (.next,K5,Ky):=jE h (jV (mH h2) (Db h3 rfl))
noncomputable def xp (n:Nat)(X:Nat)(ds:List Nat):Nat:=ds.foldl (λacc d=>acc*2^n+d) X
theorem tc (n:Nat)(ds:List Nat):xp n 0 ds.reverse=num n ds:=by
 rw[xp,List.foldl_reverse,num]
theorem Kr {m n a b da c:Nat}(hD:Ff (run m) n)(hn:n<=100000)(hb:bl b=n)(Mh:0<b)(L9:St)(AL:List AV)(Ph:L9[da]?=some (.list AL))(hc:c=L9.length):∀ (ds:List Nat) (r:Nat) (qs:List Nat) (τ:Loc),(∀ d∈ds,d<2^n)->r<b->qs.length+ds.length<=1000 ->
  ∃ (r':Nat) (Md:List Nat) (KU:Loc),bc (λst=>an st (.obj da) AL) (λv σ st=>cw ⟨run m⟩ Gs (ai σ 79 v) st) (ah ds) (Mn a b n da r c τ) (L9++[AO.list (ah qs)])=some (.next,Mn a b n da r' c KU,L9++[AO.list (ah (qs++Md))])/\r'<b/\Md.length=ds.length/\(∀ q∈Md,q<2^n)/\∀ Q,xp n (b*Q+r) ds=b*xp n Q Md+r':=by
 intro ds
 induction ds with
 |nil=>
  intro r qs τ _ hr _
  exact⟨r,[],τ,by
   rw[append_nil]
   exact ig (stands_obj (cz Ph)),hr,rfl,by simp,λQ=>rfl⟩
 |cons d ds ih=>
  intro r qs τ hd hr hl;have hd1:=hd d (by simp);let y:=r*2^n+d
  have hy:y<2^n*b:=by
   have:r*2^n+2^n<=b*2^n:=by
    rw[← succ_mul];exact mul_le_mul_right _ hr
   simp only[y];rw[mul_comm (2^n) b];exact Q2 0x6740110711150110611154001103 [_,_,_,_] hd1 this rfl
  have hbr:bl r<=n:=by
   have:=fY b;rw[hb]at this;exact dc (lt_trans hr this)
  have hq:y/b<2^n:=(div_lt_iff_lt_mul Mh).mpr hy;let q:=y/b;let r1:=y%b;have Nx:r1<b:=mod_lt _ Mh;let s0:St:=L9++[AO.list (ah qs)];have LP:s0[c]?=some (.list (ah qs)):=by rw[hc];exact aS _ _
  let KZ:=ai τ 79 (.int d);let Lb:=ai KZ 178 (.int q)
  have gv:∀ (r:Nat) (τ:Loc) (x:Nat),([66,67,0,76,75,78]:List Nat).all (λz=>!Nat.beq z x)=true->af (Mn a b n da r c τ) x=af τ x:=λr τ x h=>by
   simp only[all_cons,all_nil,Bool.and_true,and_eq_true,not_eq_true']at h;refine Dq h ?_;clear h;intro h1 h2 h3 h4 h5 h6;simp only[Mn,af,h1,h2,h3,h4,h5,h6,if_false,reduceCtorEq]
  have g79:af (Mn a b n da r c KZ) 79=some (.int d):=(gv _ _ _ (by decide)).trans (ab _ _ _);have g178:af (Mn a b n da r1 c Lb) 178=some (.int q):=(gv _ _ _ (by decide)).trans (ab _ _ _)
  have v1:aa ⟨run m⟩ (.b .Add (.b .LShift (.l 75) (.l 0)) (.l 79)) (Mn a b n da r c KZ) s0=some (.int y,s0):=
   aj (aj rfl rfl (gP (by exact Q2 0x54110186a05152108000000715401103 [_,_] hn hbr rfl))) (ay g79) (cU _ _)
  have v2:aN ⟨run m⟩ [.l 67,.l 0] (Mn a b n da r c KZ) s0=some ([.int b,.int n],s0):=rfl
  have v3:aa ⟨run m⟩ (.call 14 [.b .Add (.b .LShift (.l 75) (.l 0)) (.l 79),.l 67,.l 0]) (Mn a b n da r c KZ) s0=some (.tup [.int q,.int r1],s0):=
   be (fA v1 v2) (hD y b s0 hb Mh hy)
  have ap:jM s0 .append (.obj c) [.int q]=some (.none,L9++[AO.list (ah (qs++[q]))]):=by
   rw[cZ LP (by rw[length_map];simp at hl;exact Q1 0x3e8311115040110f424051111401102 [_,_] hl rfl)];have:ah qs++[AV.int q]=ah (qs++[q]):=by simp[ah]
   rw[this,hc];simp[s0]
  refine Dt (ih r1 (qs++[q]) Lb (λx hx=>hd x (by simp[hx])) Nx (by simp at hl ⊢;exact Q1 0x3e83111150401103e83151114001102 [_,_] hl rfl)) λr' Md KU e h1 h2 h3 h4=>?_;refine⟨r',q::Md,KU,?_,h1,by simp[h2],?_,?_⟩
  ·have hx:cw ⟨run m⟩ Gs (ai (Mn a b n da r c τ) 79 (.int d)) s0=some (.next,Mn a b n da r1 c Lb,L9++[AO.list (ah (qs++[q]))]):=by
    refine(ae (σ:=Mn a b n da r c KZ) (KC:=Mn a b n da r1 c Lb) (aE v3 rfl)).trans ?_;exact(ae (eJ (gY (x:=.obj c) rfl (cT LP) (P.e1 (ay g178)) ap) rfl)).trans bB
   have MA:(λst=>an st (.obj da) AL) s0=true:=stands_obj (cz Ph);rw[show qs++q::Md=qs++[q]++Md by simp];exact(bR MA hx).trans e
  ·intro x hx;simp only[mem_cons]at hx;rcases hx with rfl |hx
   ·exact hq
   ·exact h3 x hx
  ·intro Q;have e1:xp n (b*Q+r) (d::ds)=xp n ((b*Q+r)*2^n+d) ds:=rfl;have e2:xp n Q (q::Md)=xp n (Q*2^n+q) Md:=rfl
   have e3:(b*Q+r)*2^n+d=b*(Q*2^n+q)+r1:=by
    have:=div_add_mod y b;have h5:b*q+r1=r*2^n+d:=this;rw[add_mul,mul_add,mul_assoc,add_assoc,add_assoc,h5]
   rw[e1,e2,e3,h4]
theorem rJ {st:St}{i:Nat}{xs:List AV}(h:st[i]?=some (.list xs))(h2:xs.length<=1000000):jM st .reverse (.obj i) []=some (.none,st.set i (.list xs.reverse)):=jV (mH h) (if_pos h2)
theorem Fj (m a b:Nat)(Mh:0<b)(RB:bl b<=30000)(hm:(bl a+bl b-1)/bl b<=64)(st:St):∃ Kw,run (m+8) 13 [.int a,.int b] st=some (.tup [.int ((a/b:Nat):Int),.int ((a%b:Nat):Int)],Kw)/\Kp [] st Kw:=by
 let n:=bl b;have MU:1<=n:=lA (by exact qi);have hD:Ff (run (m+7)) n:=Iq 3 m n (by exact bN) (by exact bN);let k:=(bl a+n-1)/n;let ds:=cp a n k;let L9:St:=st++[AO.list (ah ds)];have e16:=ta (m+6) a n (by exact bN) MU hm st
 have Mz:∀ d∈ds,d<2^n:=λd hd=>by
  simp only[ds,cp,mem_map]at hd;refine ak hd ?_;clear hd;rintro j _ rfl;exact mod_lt _ (pow_pos (by decide))
 have RC:ds.length=k:=by simp[ds,cp]
 have hk:k<=64:=hm;have Ph:L9[st.length]?=some (.list (ah ds)):=aS _ _;refine Dt (Kr (m:=m+7) (a:=a) (b:=b) hD (by exact bN) rfl Mh L9 (ah ds) Ph rfl ds.reverse 0 [] [] (λd hd=>Mz d (mem_reverse.mp hd)) Mh (by rw[length_reverse,RC];simp;exact bN)) λr' Md KU e h1 h2 h3 h4=>?_;rw[nil_append]at e;have NW:=h4 0;rw[mul_zero,zero_add]at NW
 have ha:xp n 0 ds.reverse=a:=by
  rw[tc,xo,mod_eq_of_lt];refine lt_of_lt_of_le (fY a) (pow_le_pow_right (by decide) ?_);have:=div_add_mod (bl a+n-1) n;have h2:=mod_lt (bl a+n-1) MU;show bl a<=n*((bl a+n-1)/n);exact Q3 0x840111701128111601107650112541104 [_,_,_,_,_] this h2 (sub_add_cancel (Q1 0x5111601105401111102 [_,_,_] h2 rfl)) rfl
 rw[ha]at NW
 have hq:xp n 0 Md=num n Md.reverse:=by
  rw[← tc,List.reverse_reverse]
 have RD:=(Nat.div_mod_unique Mh (a:=a) (c:=r') (d:=xp n 0 Md)).mpr ⟨by exact le_antisymm (Q1 0x450611265401102 [_,_,_] NW rfl) (Q1 0x560411165041102 [_,_,_] NW rfl),h1⟩;let c:=L9.length;let s1:St:=L9++[AO.list (ah Md)];have OE:s1[c]?=some (.list (ah Md)):=aS _ _;let s2:St:=s1.set c (.list (ah Md).reverse)
 have NR:s2[c]?=some (.list (ah Md.reverse)):=by
  have:ah Md.reverse=(ah Md).reverse:=by simp[ah]
  rw[this];exact getElem?_set_self (al OE)
 have lq:Md.length<=64:=by rw[h2,length_reverse,RC];exact hk
 have RE:=Fi (m+6) n c (by exact bN) Md.reverse (λd hd=>h3 d (mem_reverse.mp hd)) (by rw[length_reverse];exact lq) NR;rw[← hq,← RD.1]at RE;have v2:aa ⟨run (m+7)⟩ (.call 16 [.l 66,.l 0]) [(66,.int a),(67,.int b),(0,.int n)] st=some (.obj st.length,L9):=be (vs:=[.int a,.int n]) rfl e16;have v4:aa ⟨run (m+7)⟩ (.new true (.list [])) [(66,.int a),(67,.int b),(0,.int n),(76,.obj st.length),(75,.int 0)] L9=some (.obj c,L9++[AO.list (ah [])]):=eK (cK dn);have rv:ah ds.reverse=(ah ds).reverse:=by simp[ah]
 rw[rv]at e
 have x5:xS ⟨run (m+7)⟩ (.forR 79 (.l 76) Gs) (Mn a b n st.length 0 c []) (L9++[AO.list (ah [])])=some (.next,Mn a b n st.length r' c KU,s1):=
  CD rfl (cz Ph) e
 have v7:aa ⟨run (m+7)⟩ (.call 17 [.l 78,.l 0]) (Mn a b n st.length r' c KU) s2=some (.int ((a/b:Nat):Int),s2):=be (vs:=[.obj c,.int n]) rfl RE
 have OF:af (Mn a b n st.length r' c (ai KU 80 (.int ((a/b:Nat):Int)))) 80=some (.int ((a/b:Nat):Int)):=by
  show af (ai KU 80 (.int ((a/b:Nat):Int))) 80=_;exact ab _ _ _
 refine⟨s2,?_,⟨by simp[s2,s1,L9],λj hj _=>?_⟩⟩
 ·rw[CA,CC];refine bT (KC:=Mn a b n st.length r' c (ai KU 80 (.int ((a/b:Nat):Int)))) rfl ?_;refine(ae (KC:=[(66,.int a),(67,.int b),(0,.int n)]) (aE (gY (x:=.int b) rfl rfl dn rfl) rfl)).trans ?_;refine(ae (KC:=[(66,.int a),(67,.int b),(0,.int n),(76,.obj st.length)]) (aE v2 rfl)).trans ?_;refine(ae (KC:=[(66,.int a),(67,.int b),(0,.int n),(76,.obj st.length),(75,.int 0)]) (aE rfl rfl)).trans ?_;refine(ae (KC:=Mn a b n st.length 0 c []) (aE v4 rfl)).trans ?_;refine(ae x5).trans ?_;refine(ae (eJ (gY (x:=.obj c) rfl (cT OE) dn (rJ OE (by rw[length_map];exact bN))) rfl)).trans ?_;refine(ae (KC:=Mn a b n st.length r' c (ai KU 80 (.int ((a/b:Nat):Int)))) (aE v7 rfl)).trans ?_;refine cy (sR (kZ (e2 (ay OF) ?_)));rw[RD.2];rfl
 ·have NZ:c=st.length+1:=by simp[c,L9]
  show(s1.set c _)[j]?=_;rw[getElem?_set_ne (by exact ne_of_gt (Q2 0x1116051126111401105111401103 [_,_,_] hj NZ rfl))];show((st++_)++_)[j]?=_;rw[getElem?_append_left (by simp;exact G9),getElem?_append_left hj]
theorem Fk (m a b:Nat)(Mh:0<b)(RB:bl b<=30000)(hm:(bl a+bl b-1)/bl b<=64)(st:St):∃ Kw,run (m+9) 12 [.int a,.int b] st=some (.tup [.int ((a/b:Nat):Int),.int ((a%b:Nat):Int)],Kw)/\Kp [] st Kw:=by
 refine ak (Fj m a b Mh RB hm st) λKw e k=>?_;refine⟨Kw,?_,k⟩
 have c1:bJ st .Eq (.int b) (.int 0)=some false:=by
  rw[bJ,gJ];exact congrArg some (decide_eq_false (by exact yq))
 have c2:bJ st .Lt (.int b) (.int 0)=some false:=by
  exact congrArg some (decide_eq_false (by lia))
 have c3:bJ st .Lt (.int a) (.int 0)=some false:=by
  exact congrArg some (decide_eq_false (by lia))
 have v:aa ⟨run (m+8)⟩ (.call 13 [.l 66,.l 67]) [(66,.int a),(67,.int b)] st=some (.tup [.int ((a/b:Nat):Int),.int ((a%b:Nat):Int)],Kw):=be (vs:=[.int a,.int b]) rfl e;rw[CB];exact bT (σ:=[(66,.int a),(67,.int b)]) rfl (cy ((kY (bF rfl rfl c1)).trans (cy ((kY (bF rfl rfl c2)).trans (cy ((kY (bF rfl rfl c3)).trans (cy (sR v))))))))
noncomputable def eQ (rs:bU):bU:=rs.map λx=>⟨x.r,x.s,x.p,x.q⟩
noncomputable def Fl (x:Ru):Bool:=Nat.ble 1 x.p&&Nat.ble x.p 6&&Nat.ble 1 x.r&&Nat.ble x.r 6&&Nat.ble 1 x.q&&Nat.ble x.q 6&&Nat.ble 1 x.s&&Nat.ble x.s 6
noncomputable def xq (rs:bU):Bool:=Nat.beq rs.length 3&&rs.all Fl
theorem Fm:∀ rs∈cS,xq rs=true:=by decide +kernel
theorem zu:∀ rs∈cS,mL rs≠[]:=by decide +kernel
theorem zv:∀ rs∈cS,∀ z:Fin 9,0<=dC (z.val+1) rs/\dC (z.val+1) rs<=100:=by decide +kernel
noncomputable def LA (rs:bU)(c:List Nat):Bool:=match Mm rs 31 c [0,0,0] with
 |none=>false
 |some (e,u)=>ly rs e u 31 c [0,0,0]&&ly (eQ rs) c u 31 e [0,0,0]&&!(e==c)&&Nat.ble e.sum 40&&Nat.beq e.length 7&&Nat.beq (e.getD 0 1) 0&&Nat.beq u.length 3
noncomputable def gz (rs:bU):List (List Nat):=(mL rs).flatMap λx=>(List.range 4).flatMap λa=>(List.range 4).flatMap λb=>(List.range 4).map λc=>nS rs x a b c
noncomputable def dd:List (List Nat)->List (List Nat)
 |[]=>[]
 |c::l=>if (dd l).contains c then dd l else c::dd l
theorem zw (c:List Nat)(l:List (List Nat)):dd (c::l)=if (dd l).contains c then dd l else c::dd l:=rfl
theorem rK {c:List Nat}:∀ {l:List (List Nat)},c∈l->c∈dd l
 |x::l,h=>by
  rw[zw];simp only[mem_cons]at h;split
  ·rename_i hc;rcases h with rfl |h
   ·exact List.contains_iff_mem.mp hc
   ·exact rK h
  ·rcases h with rfl |h
   ·exact List.mem_cons_self
   ·exact List.mem_cons_of_mem _ (rK h)
noncomputable def JB (L:List Nat):Bool:=L.all (λz=>Nat.ble 1 z&&Nat.ble z 6)&&Nat.ble L.length 9&&!L.isEmpty
noncomputable def hV (rs:bU):Bool:=(gz rs).all JB&&(dd ((gz rs).map fF)).all (LA rs)
theorem jH {l:List bU}{P:bU->Prop}(h:∀ x∈l.take 4,P x)(k:∀ x∈l.drop 4,P x):∀ x∈l,P x:=λx m=>
 (mem_append.mp (show x∈l.take 4++l.drop 4 from (take_append_drop 4 l).symm▸m)).elim (h x) (k x)
abbrev dR (l:List bU):List bU:=l.drop 4
theorem Ir:∀ rs∈cS.take 4,hV rs=true:=by decide +kernel
theorem It:∀ rs∈(dR cS).take 4,hV rs=true:=by decide +kernel
theorem Iu:∀ rs∈(dR (dR cS)).take 4,hV rs=true:=by decide +kernel
theorem Iw:∀ rs∈(dR (dR (dR cS))).take 4,hV rs=true:=by decide +kernel
theorem Ix:∀ rs∈(dR (dR (dR (dR cS)))).take 4,hV rs=true:=by decide +kernel
theorem Iy:∀ rs∈(dR (dR (dR (dR (dR cS))))).take 4,hV rs=true:=by decide +kernel
theorem Iz:∀ rs∈(dR (dR (dR (dR (dR (dR cS)))))).take 4,hV rs=true:=by decide +kernel
theorem IA:∀ rs∈dR (dR (dR (dR (dR (dR (dR cS)))))),hV rs=true:=by decide +kernel
theorem xr:∀ rs∈cS,hV rs=true:=jH Ir (jH It (jH Iu (jH Iw (jH Ix (jH Iy (jH Iz IA))))))
theorem zx {rs:bU}(h:xq rs=true):Li rs:=by
 simp only[xq,and_eq_true,all_eq_true,Fl]at h;refine⟨Nat.eq_of_beq_eq_true h.1,λx hx=>?_⟩;refine av (h.2 x hx) ?_;rintro⟨⟨⟨⟨⟨⟨h1,h2⟩,h3⟩,h4⟩,h5⟩,h6⟩,h7⟩ h8;exact⟨⟨le_of_ble_eq_true h1,le_of_ble_eq_true h2⟩,⟨le_of_ble_eq_true h3,le_of_ble_eq_true h4⟩,⟨le_of_ble_eq_true h5,le_of_ble_eq_true h6⟩,⟨le_of_ble_eq_true h7,le_of_ble_eq_true h8⟩⟩
theorem uI {rs:bU}(h:Li rs):Li (eQ rs):=by
 refine⟨by rw[eQ,length_map];exact h.1,λx hx=>?_⟩;simp only[eQ,mem_map]at hx;refine ak hx ?_;clear hx;rintro y hy rfl;have:=h.2 y hy;exact⟨this.2.1,this.1,this.2.2.2,this.2.2.1⟩
theorem uJ {rs:bU}{x:Ru}{a b c:Nat}(hx:x∈mL rs)(ha:a<4)(hb:b<4)(hc:c<4):nS rs x a b c∈gz rs:=by
 refine mem_flatMap.mpr ⟨x,hx,mem_flatMap.mpr ⟨a,mem_range.mpr ha,mem_flatMap.mpr ⟨b,mem_range.mpr hb,mem_map.mpr ⟨c,mem_range.mpr hc,rfl⟩⟩⟩⟩
structure MD (rs:bU)(L e u:List Nat):Prop where
 sz:∀ z∈L,1<=z/\z<=6
 ln:L.length<=9
 ne:L≠[]
 tw:Mm rs 31 (fF L) [0,0,0]=some (e,u)
 fw:ly rs e u 31 (fF L) [0,0,0]=true
 bw:ly (eQ rs) (fF L) u 31 e [0,0,0]=true
 df:e≠fF L
 sm:e.sum<=40
 el:e.length=7
 e0:e.getD 0 1=0
 ul:u.length=3
set_option tactic.hygienic true in
theorem zz {rs:bU}(hr:rs∈cS){L:List Nat}(hL:L∈gz rs):∃ e u,MD rs L e u:=by
 have h:=xr rs hr;simp only[hV,and_eq_true,all_eq_true]at h;have h1:=h.1 L hL;simp only[JB,and_eq_true,all_eq_true,not_eq_true']at h1;have h2:=h.2 (fF L) (rK (mem_map_of_mem hL));unfold LA at h2;split at h2
 ·cases h2
 ·rename_i e u ht;simp only[and_eq_true,not_eq_true',beq_eq_false_iff_ne]at h2;refine av h2 ?_;clear h2;rintro⟨⟨⟨⟨⟨a1,a2⟩,a3⟩,a4⟩,a5⟩,a6⟩ a7;refine⟨e,u,λz hz=>?_,le_of_ble_eq_true h1.1.2,?_,ht,a1,a2,a3,le_of_ble_eq_true a4,Nat.eq_of_beq_eq_true a5,Nat.eq_of_beq_eq_true a6,Nat.eq_of_beq_eq_true a7⟩
  ·have:=h1.1.1 z hz;exact⟨le_of_ble_eq_true this.1,le_of_ble_eq_true this.2⟩
  ·rintro rfl;simp at h1
noncomputable def ev (x:Int):List Int->Int
 |[]=>0
 |c::p=>c+x*ev x p
noncomputable def rL:List Int->List Int->List Int
 |[],q=>q
 |p,[]=>p
 |a::p,b::q=>(a+b)::rL p q
noncomputable def Gu (a:Int)(p:List Int):List Int:=p.map (a*·)
noncomputable def rM:List Int->List Int->List Int
 |[],_=>[]
 |a::p,q=>rL (Gu a q) (0::rM p q)
theorem jk (x:Int):∀ p q,ev x (rL p q)=ev x p+ev x q
 |[],q=>(Int.zero_add _).symm
 |a::p,[]=>(add_zero _).symm
 |a::p,b::q=>(congrArg (λy=>a+b+x*y) (jk x p q)).trans (by show _=(a+x*ev x p)+(b+x*ev x q);rw[Int.mul_add];lia)
theorem xt (x a:Int):∀ p,ev x (Gu a p)=a*ev x p:=by
 intro p
 induction p with
 |nil=>
  exact(Int.mul_zero a).symm
 |cons c p ih=>
  exact(congrArg (λy=>a*c+x*y) (ih)).trans (by show _=a*(c+x*ev x p);rw[Int.mul_add,Int.mul_left_comm])
theorem rN (x:Int):∀ p q,ev x (rM p q)=ev x p*ev x q
 |[],q=>(Int.zero_mul _).symm
 |a::p,q=>(jk x _ _).trans (by rw[xt];show a*ev x q+(0+x*ev x (rM p q))=(a+x*ev x p)*ev x q;rw[rN x p q,Int.zero_add,Int.add_mul,Int.mul_assoc])
noncomputable def mono (k:Nat):List Int:=replicate k 0++[1]
theorem td (x:Int):∀ k,ev x (mono k)=x^k:=by
 intro k
 induction k with
 |zero=>
  show 1+x*0=x^0;rw[Int.mul_zero,Int.pow_zero];rfl
 |succ k ih=>
  show 0+x*ev x (mono k)=_;rw[ih,Int.zero_add,Int.pow_succ,Int.mul_comm]
noncomputable def Fn (k:Nat):List Int:=rL [-1] (mono k)
theorem CE (x:Int)(k:Nat):ev x (Fn k)=x^k-1:=by
 rw[Fn,jk,td];show -1+x*0+x^k=_;lia
noncomputable def uK:List Int->Option Int
 |[]=>some 0
 |c::p=>match uK p with
  |some l=>if 0<=256*l+c then some (256*l+c) else none
  |none=>none
theorem te {x:Int}(hx:256<=x):∀ (p:List Int) (l:Int),uK p=some l->0<=l/\l<=ev x p:=by
 intro p
 induction p with
 |nil=>
  intro l h;cases h;exact⟨Int.le_refl _,Int.le_refl _⟩
 |cons c p ih=>
  intro l h;have h:(match uK p with |some l=>if 0<=256*l+c then some (256*l+c) else none |none=>none)=some l:=h
  cases hp:uK p with
  |none=>rw[hp]at h;cases h
  |some l'=>
   rw[hp]at h;simp only at h;split at h
   ·rename_i h0;cases h;refine av (ih l' hp) λh1 h2=>?_;refine⟨h0,?_⟩;show 256*l'+c<=c+x*ev x p;have:256*l'<=x*ev x p:=Int.mul_le_mul hx h2 h1 (by lia);lia
   ·cases h
noncomputable def pY (rs:bU):List Int:=(rs.map λx=>x.p*x.q).foldl (λa k=>rM a (Fn k)) (mono (54-(rs.map λx=>x.p*x.q).sum))
noncomputable def ip:List Int:=(range' 1 9).foldl (λa k=>rM a (Fn k)) [1]
noncomputable def pZ (rs:bU):List Int:=(cq rs).reverse.map λk:Nat=>(k:Int)
noncomputable def zA (rs:bU):List Int:=rL (pY rs) (Gu (-1) (rM (pZ rs) ip))
noncomputable def lD (rs:bU):Bool:=(uK (zA rs)).isSome&&(uK (rL (rL ip (Gu (-1) (zA rs))) [-1])).isSome&&Nat.beq (cq rs).length 10&&(cq rs).all (λk=>Nat.ble k 255)&&Nat.beq ((cq rs).getD 0 0) 1&&Nat.ble (rs.map λx=>x.p*x.q).sum 54
theorem ka:∀ rs∈cS,lD rs=true:=by decide +kernel
theorem xu {rs:bU}(h:rs∈cS){x:Int}(hx:256<=x):ev x (pZ rs)*ev x ip<=ev x (pY rs)/\ev x (pY rs)<ev x (pZ rs)*ev x ip+ev x ip:=by
 have hp:=ka rs h;simp only[lD,and_eq_true]at hp;refine av hp ?_;clear hp;rintro⟨⟨⟨⟨a1,a2⟩,_⟩,_⟩,_⟩ _;refine aw (isSome_iff_exists.mp a1) λl1 e1=>?_;refine aw (isSome_iff_exists.mp a2) λl2 e2=>?_;have b1:=te hx _ _ e1;have b2:=te hx _ _ e2
 have er:ev x (zA rs)=ev x (pY rs)-ev x (pZ rs)*ev x ip:=by
  rw[zA,jk,xt,rN];lia
 rw[jk,jk,xt,er]at b2;rw[er]at b1;rw[show ev x [-1]=-1+x*0 from rfl,Int.mul_zero]at b2;exact Dl b1 b2
theorem lW {X:Cx}{KC:Loc}{Kx:St}:∀ {A B:List S} {σ:Loc} {st:St},cw X A σ st=some (.next,KC,Kx)->cw X (A++B) σ st=cw X B KC Kx:=by
 intro A
 induction A with
 |nil=>
  intro B σ st h;exact to (P:=λ_ a b=>cw X B σ st=cw X B a b) h rfl
 |cons s A ih=>
  intro B σ st h;exact lh h λK5 Ky h1 h2=>(ae h1).trans (ih h2)
noncomputable def sA:List S:=[.asg (.nm 87) (.call 0 [.l 86]),.asg (.nm 107) (.b .Mod (.b .FloorDiv (.bi .sum [.l 87]) (.int 5)) (.int 30)),.asg (.nm 103) (.b .Mod (.b .FloorDiv (.bi .sum [.l 87]) (.int 7)) (.int 5000)),.asg (.nm 114) (.call 2 [.l 87]),.asg (.nm 115) (.new false (.comp (.tup [.l 75,.l 163,.l 91,.l 80]) (.tup [91,80,75,163]) (.l 114) [] [])),.asg (.nm 116) (.call 4 [.sub (.l 87) (.int 3),.l 114]),.asg (.tup [96,97]) (.call 5 [.l 116,.l 114])]
noncomputable def wB:List S:=[.expr (.meth 34 (.l 101) [.sub (.sub (.new false (.list [.str [97,98,99,100,101,102],.str [65,66,67,68,69,70]])) (.b .Mod (.l 61) (.int 2))) (.b .Sub (.sub (.l 116) (.l 61)) (.int 1)),.b .Add (.b .Mult (.str [32]) (.sub (.l 116) (.l 61))) (.str [9])])]
noncomputable def sB:List S:=[.asg (.nm 101) (.call 20 [.new true (.list [])]),.for (.nm 61) (.bi .range1 [.bi .len [.l 116]]) wB []]
noncomputable def AJ:E:=.tup [.bi .tuple [.new false (.cat (.new false (.list [.int 1])) (.new false (.comp (.sm .count (.l 116) [.l 92]) (.nm 92) (.bi .range2 [.int 1,.b .Add (.bi .max [.l 116]) (.int 1)]) [] [116])))],.int 2]
noncomputable def sC:List S:=[.asg (.nm 117) (.call 9 [.l 101]),.asg (.nm 2) AJ,.iff (.val (.cmp .NotEq (.tup [.attr (.l 117) 0,.attr (.l 117) 1,.attr (.l 117) 2]) (.tup [.b .Add (.b .Add (.bi .sum [.l 116]) (.bi .len [.l 116])) (.int 3),.b .Add (.bi .len [.l 116]) (.int 1),.l 2]))) [.ret (.bool false)] []]
noncomputable def sD:List S:=[.iff (.val (.cmp .NotEq (.call 10 [.l 101,.l 114,.l 107,.l 103,.sub (.l 87) (.int 4)]) (.l 97))) [.ret (.bool false)] []]
noncomputable def xv:E:=.new false (.comp2 (.l 92) (.nm 92) (.bi .range1 [.int 7]) (.nm 61) (.bi .range1 [.sub (.l 96) (.l 92)]) [96])
noncomputable def sE:List S:=[.asg (.nm 118) xv,.iff (.val (.cmp .NotEq (.new false (.sorted (.new false (.comp (.b .Sub (.bi .len [.l 102]) (.int 1)) (.nm 102) (.meth 33 (.l 101) []) [] [])))) (.l 118))) [.ret (.bool false)] []]
noncomputable def sF:List S:=[.asg (.nm 119) (.b .Add (.sm .join (.str []) [.new false (.comp (.b .Add (.b .Mult (.str [32]) (.l 92)) (.str [9])) (.nm 92) (.l 118) [] [])]) (.str [9,32,32])),.asg (.nm 120) (.call 9 [.l 101]),.asg (.nm 121) (.new false (.comp (.meth 36 (.l 120) [.l 106]) (.nm 106) (.tup [.l 117,.call 21 [.l 119],.call 21 [.b .Add (.l 119) (.str [32])]]) [] [120])),.iff (.val (.cmp .NotEq (.new false (.cat (.new false (.comp (.isTy (.l 195) .bool false) (.nm 195) (.l 121) [] [])) (.l 121))) (.new false (.list [.bool true,.bool true,.bool true,.bool false,.bool true,.bool false])))) [.ret (.bool false)] []]
noncomputable def sG:List S:=[.iff (.or (.val (.cmp .NotEq (.call 10 [.l 101,.l 115,.l 107,.l 103,.b .FloorDiv (.sub (.l 87) (.int 4)) (.int 7)]) (.l 97))) (.val (.isTru (.meth 36 (.call 9 [.l 101]) [.l 117]) true))) [.ret (.bool false)] []]
noncomputable def wH:List S:=[.aug 123 .Mult (.b .Sub (.b .LShift (.int 1) (.b .Mult (.b .Mult (.l 122) (.l 91)) (.l 80))) (.int 1))]
noncomputable def wI:List S:=[.aug 124 .Mult (.b .Sub (.b .LShift (.int 1) (.b .Mult (.l 122) (.l 61))) (.int 1))]
noncomputable def sH:List S:=[.asg (.nm 122) (.b .Add (.int 8) (.b .Mod (.b .FloorDiv (.bi .sum [.l 87]) (.int 20)) (.int 500))),.asg (.nm 123) (.b .LShift (.int 1) (.b .Mult (.l 122) (.b .Sub (.int 54) (.bi .sum [.new false (.comp (.b .Mult (.l 91) (.l 80)) (.tup [91,80,75,163]) (.l 114) [] [])])))),.for (.tup [91,80,75,163]) (.l 114) wH [],.asg (.nm 124) (.int 1),.for (.nm 61) (.bi .range2 [.int 1,.int 10]) wI []]
noncomputable def sI:List S:=[.asg (.nm 125) (.call 12 [.l 123,.l 124]),.iff (.or (.val (.cmp .NotEq (.new false (.comp (.isTy (.l 198) .int false) (.nm 198) (.l 125) [] [])) (.new false (.list [.bool true,.bool true])))) (.val (.cmp .NotEq (.l 125) (.tup [.sub (.l 125) (.int 0),.b .Sub (.l 123) (.b .Mult (.sub (.l 125) (.int 0)) (.l 124))])))) [.ret (.bool false)] []]
noncomputable def sJ:List S:=[.asg (.nm 126) (.call 16 [.sub (.l 125) (.int 0),.l 122]),.iff (.or (.val (.cmp .NotEq (.l 126) (.new false (.rev (.call 11 [.l 114]))))) (.val (.cmp .NotEq (.call 16 [.int 0,.l 122]) (.new false (.list []))))) [.ret (.bool false)] []]
noncomputable def AK:E:=.new false (.comp (.b .Add (.b .FloorDiv (.sub (.l 126) (.l 61)) (.int 2)) (.b .Mult (.b .Mod (.sub (.l 126) (.b .Add (.l 61) (.int 1))) (.int 2)) (.b .LShift (.int 1) (.b .Sub (.l 122) (.int 1))))) (.nm 61) (.bi .range1 [.int 9]) [] [126,122])
noncomputable def sK:List S:=[.asg (.nm 127) AK,.ret (.cmp .Eq (.call 16 [.b .FloorDiv (.sub (.l 125) (.int 0)) (.int 2),.l 122]) (.l 127))]
theorem CF:HM=sA++(sB++(sC++(sD++(sE++(sF++(sG++(sH++(sI++(sJ++sK))))))))):=rfl
theorem lE {st:St}{i:Nat}{l:List Int}(h:st[i]?=some (.list (l.map .int))):gA st .sum [.obj i]=some (.int l.sum,st):=jV (mH h) (jI (allInts_map _) rfl)
theorem xw (x:Int)(d m:Nat)(hd:0<d/\d<1000)(hm:0<m):∃ k:Nat,k<m/\aK .FloorDiv (.int x) (.int d)=some (.int (x.fdiv d))/\aK .Mod (.int (x.fdiv d)) (.int m)=some (.int k):=by
 have f0:0<=(x.fdiv d).fmod (m:Int):=fmod_nonneg_of_pos _ (by exact uM);have f1:(x.fdiv d).fmod (m:Int)<(m:Int):=fmod_lt_of_pos _ (by exact uM);refine⟨((x.fdiv d).fmod m).toNat,C6 f0 f1,?_,?_⟩
 ·exact fO ⟨by exact DD,la (by rw[natAbs_natCast];exact uT)⟩
 ·exact(dV (by exact yq)).trans (congrArg (λx=>some (AV.int x)) (zR f0).symm)
noncomputable def La (Sv:AV)(low sh:Nat)(rs:bU)(τ:Loc):Loc:=(86,Sv)::(87,.obj 0)::(107,.int low)::(103,.int sh)::(114,.obj 1)::(115,.lst ((eQ rs).map aV))::(116,.obj 2)::(96,.obj 3)::(97,.obj 4)::τ
noncomputable def Df (cs:List Int)(rs:bU)(L e u:List Nat):St:=[.list (cs.map .int),.list (rs.map aV),.list (ah L),.list (ah e),.list (ah u)]
theorem IB (m:Nat)(l:List Int)(hl:l.length<=1000):∃ (cs:List Int) (rs:bU) (L e u:List Nat) (low sh:Nat),cs.length=5/\rs∈cS/\Li rs/\MD rs L e u/\low<30/\sh<5000 /\
  cw ⟨run (m+9)⟩ sA [(86,.lst (l.map .int))] []=some (.next,La (.lst (l.map .int)) low sh rs [],Df cs rs L e u):=by
 let Sv:AV:=.lst (l.map .int);refine ak (Ic (m+8) l hl []) λcs LP x0=>?_;have QA:run (m+9) 0 [Sv] []=some (.obj 0,[.list (cs.map .int)]):=x0;let s1:St:=[.list (cs.map .int)];have g1:s1[0]?=some (.list (cs.map .int)):=rfl;refine cV (xw cs.sum 5 30 (by decide) (by decide)) λlow Na a1 a2=>?_;refine cV (xw cs.sum 7 5000 (by decide) (by decide)) λsh K8 a3 a4=>?_;refine ak (Ih (m+8) LP g1) λrs Ml x2=>?_;have ho:=zx (Fm rs Ml);have x2':run (m+9) 2 [.obj 0] s1=some (.obj 1,[.list (cs.map .int),.list (rs.map aV)]):=x2;let s2:St:=[.list (cs.map .int),.list (rs.map aV)];have Nc:RV s2 (.obj 1) rs:=.inr ⟨1,rfl,rfl⟩;refine GZ (Ij (m+7) (num:=cs[3]) Nc ho (zu rs Ml)) λx a b c hx ha hb hc x4=>?_;let L:=nS rs x a b c;have hL:L∈gz rs:=uJ hx ha hb hc;refine n6 (zz Ml hL) λe u hp=>?_;let s3:St:=[.list (cs.map .int),.list (rs.map aV),.list (ah L)];have x4':run (m+9) 4 [.int cs[3],.obj 1] s2=some (.obj 2,s3):=x4;have Oe:RV s3 (.obj 1) rs:=.inr ⟨1,rfl,rfl⟩;have x5:=Ik (m+8) (a:=2) (st:=s3) Oe ho (L:=L) rfl hp.tw;have x5':run (m+9) 5 [.obj 2,.obj 1] s3=some (.tup [.obj 3,.obj 4],Df cs rs L e u):=x5;refine⟨cs,rs,L,e,u,low,sh,LP,Ml,ho,hp,Na,K8,?_⟩
 have e3v:cB s2 (.obj 0) (.int 3)=some (.int cs[3]):=by
  have:=cG (st:=s2) (i:=0) (xs:=cs.map .int) (k:=3) (v:=.int cs[3]) rfl (by rw[getElem?_map,getElem?_eq_getElem (by exact G2)];rfl) (by decide);exact this
 have y0:aa ⟨run (m+9)⟩ (.call 0 [.l 86]) [(86,Sv)] []=some (.obj 0,s1):=be (vs:=[Sv]) rfl QA
 have y1:aa ⟨run (m+9)⟩ (.b .Mod (.b .FloorDiv (.bi .sum [.l 87]) (.int 5)) (.int 30)) [(86,Sv),(87,.obj 0)] s1=some (.int low,s1):=
  aj (aj (dq (vs:=[.obj 0]) rfl (lE g1)) rfl a1) rfl a2
 have y2:aa ⟨run (m+9)⟩ (.b .Mod (.b .FloorDiv (.bi .sum [.l 87]) (.int 7)) (.int 5000)) [(86,Sv),(87,.obj 0),(107,.int low)] s1=some (.int sh,s1):=
  aj (aj (dq (vs:=[.obj 0]) rfl (lE g1)) rfl a3) rfl a4
 have y3:aa ⟨run (m+9)⟩ (.call 2 [.l 87]) [(86,Sv),(87,.obj 0),(107,.int low),(103,.int sh)] s1=some (.obj 1,s2):=be (vs:=[.obj 0]) rfl x2'
 have y4:aa ⟨run (m+9)⟩ (.new false (.comp (.tup [.l 75,.l 163,.l 91,.l 80]) (.tup [91,80,75,163]) (.l 114) [] [])) [(86,Sv),(87,.obj 0),(107,.int low),(103,.int sh),(114,.obj 1)] s2=some (.lst ((eQ rs).map aV),s2):=by
  rw[eQ,map_map];refine aH (bS (v:=.obj 1) rfl Nc.items (by rw[length_map,ho.1];decide) (aD aV _ Nc.stands rs λx _=>?_));exact lK (KC:=[(91,.int x.p),(80,.int x.q),(75,.int x.r),(163,.int x.s)]) rfl rfl
 have y5:aa ⟨run (m+9)⟩ (.call 4 [.sub (.l 87) (.int 3),.l 114]) [(86,Sv),(87,.obj 0),(107,.int low),(103,.int sh),(114,.obj 1),(115,.lst ((eQ rs).map aV))] s2=some (.obj 2,s3):=
  be (e2 (bX rfl rfl e3v) rfl) x4'
 have y6:aa ⟨run (m+9)⟩ (.call 5 [.l 116,.l 114]) [(86,Sv),(87,.obj 0),(107,.int low),(103,.int sh),(114,.obj 1),(115,.lst ((eQ rs).map aV)),(116,.obj 2)] s3=some (.tup [.obj 3,.obj 4],Df cs rs L e u):=be (vs:=[.obj 2,.obj 1]) rfl x5';refine(ae (KC:=[(86,Sv),(87,.obj 0)]) (aE y0 rfl)).trans ?_;refine(ae (KC:=[(86,Sv),(87,.obj 0),(107,.int low)]) (aE y1 rfl)).trans ?_;refine(ae (KC:=[(86,Sv),(87,.obj 0),(107,.int low),(103,.int sh)]) (aE y2 rfl)).trans ?_;refine(ae (KC:=[(86,Sv),(87,.obj 0),(107,.int low),(103,.int sh),(114,.obj 1)]) (aE y3 rfl)).trans ?_;refine(ae (KC:=[(86,Sv),(87,.obj 0),(107,.int low),(103,.int sh),(114,.obj 1),(115,.lst ((eQ rs).map aV))]) (aE y4 rfl)).trans ?_;refine(ae (KC:=[(86,Sv),(87,.obj 0),(107,.int low),(103,.int sh),(114,.obj 1),(115,.lst ((eQ rs).map aV)),(116,.obj 2)]) (aE y5 rfl)).trans ?_;exact(ae (KC:=La Sv low sh rs []) (aE y6 rfl)).trans bB
structure LI (st:St)(cs:List Int)(rs:bU)(L e u:List Nat)(B:dK):Prop where
 c0:st[0]?=some (.list (cs.map .int))
 c1:st[1]?=some (.list (rs.map aV))
 c2:st[2]?=some (.list (ah L))
 c3:st[3]?=some (.list (ah e))
 c4:st[4]?=some (.list (ah u))
 hb:Hd st 7 6 5 (bY B)
 ok:lL B
section
variable {cs:List Int}{rs:bU}{L e u:List Nat}{B:dK}{low sh:Nat}{Sv:AV}
theorem LI.kp {st Kw:St}(h:LI st cs rs L e u B)(k:Kp [] st Kw):LI Kw cs rs L e u B:=
 ⟨k.get h.c0 (by simp),k.get h.c1 (by simp),k.get h.c2 (by simp),k.get h.c3 (by simp),k.get h.c4 (by simp),h.hb.mono k (by simp) (by simp) (by simp),h.ok⟩
theorem LI.kp5 {st Kw:St}(h:LI st cs rs L e u B)(k:Kp [5] st Kw){B':dK}(hb:Hd Kw 7 6 5 (bY B'))(ok:lL B'):LI Kw cs rs L e u B':=
 ⟨k.get h.c0 (by decide),k.get h.c1 (by decide),k.get h.c2 (by decide),k.get h.c3 (by decide),k.get h.c4 (by decide),hb,ok⟩
theorem lB (m:Nat)(hL:∀ z∈L,1<=z/\z<=6)(hl:L.length<=9){ok:St->Bool}(hk:∀ st,ok st=true):∀ (n j:Nat) (st:St) (B:dK) (τ:Loc),LI st cs rs L e u B->j+n=L.length->cj B=L.take j ->
  ∃ (B':dK) (KU:Loc) (Kw:St),bc ok (bW ⟨run (m+9)⟩ (.nm 61) wB) ((range' j n).map λk:Nat=>AV.int k) (La Sv low sh rs ((101,.obj 7)::τ)) st=some (.next,La Sv low sh rs ((101,.obj 7)::KU),Kw)/\LI Kw cs rs L e u B'/\cj B'=L/\KU=(if n=0 then τ else ai τ 61 (.int ((j+n-1:Nat):Int))):=by
 intro n
 induction n with
 |zero=>
  intro j st B τ h hj hB;exact⟨B,τ,st,ig (hk _),h,by rw[hB,List.take_of_length_le (by exact Q1 0x40150112541102 [_,_] hj rfl)],rfl⟩
 |succ n ih=>
  intro j st B τ h hj hB;have QB:j<L.length:=by exact Q1 0x511160401115111401102 [_,_,_] hj rfl
  have hz:=hL L[j] (getElem_mem QB);let z:=L[j];have NF:B.length<=1000:=h.ok.1;let bb:Bool:=j%2==1;refine cV (B7 (m+7) h.hb NF bb z hz) λKx x34 k1 h1=>?_
  have hBlen:B.length=j:=by
   have:=congrArg List.length hB;rw[cj,length_map,length_take,Nat.min_eq_left (by exact He)]at this;exact this
  have ok1:lL (B++[(bb,z)]):=by
   refine⟨by simp;exact Q4 0x643e93151117060912511170603f23191153e9303e73143e9305 [_,_,_,_] hl hj hj hBlen rfl,λp hp=>?_⟩;simp only[mem_append,mem_singleton]at hp;rcases hp with hp |rfl
   ·exact h.ok.2 p hp
   ·exact hz
  have LI1:=h.kp5 k1 h1 ok1
  have sz1:cj (B++[(bb,z)])=L.take (j+1):=by
   rw[cj,map_append,show B.map (·.2)=L.take j from hB,List.take_succ,getElem?_eq_getElem QB];rfl
  refine mS (ih (j+1) Kx (B++[(bb,z)]) (ai τ 61 (.int j)) LI1 (by exact le_antisymm (Q1 0x61115040111651114001102 [_,_,_] hj rfl) (Q1 0x41116050112611150041102 [_,_,_] hj rfl)) sz1) λB' KU Kw e' QC hs MB=>?_;refine⟨B',KU,Kw,?_,QC,hs,?_⟩
  ·rw[range'_succ,map_cons]
   have NH:af (La Sv low sh rs ((101,.obj 7)::ai τ 61 (.int j))) 61=some (.int j):=by
    show af (ai τ 61 (.int j)) 61=_;exact ab _ _ _
   have sz:cB st (.obj 2) (.int j)=some (.int z):=cG h.c2 (by rw[ah,getElem?_map,getElem?_eq_getElem QB];rfl) (by exact A8);have m1:=nQ st j 2 (by decide)
   have kk:cB st (.lst [.str [97,98,99,100,101,102],.str [65,66,67,68,69,70]]) (.int ((j%2:Nat):Int))=some (.str (if bb then [65,66,67,68,69,70] else [97,98,99,100,101,102])):=by
    have:j%2=0\/j%2=1:=by exact I0
    rcases this with q |q
    ·have hb:bb=false:=by simp[bb,q]
     rw[q,hb];rfl
    ·have hb:bb=true:=by simp[bb,q]
     rw[q,hb];rfl
   have kz:cB st (.str (if bb then [65,66,67,68,69,70] else [97,98,99,100,101,102])) (.int ((z:Int)-1))=some (.str (fC (bb,z))):=by
    have O4:1<=z/\z<=6:=hz;have Nz:z=1\/z=2\/z=3\/z=4\/z=5\/z=6:=by exact uP
    generalize z=z' at Nz ⊢;cases bb<;>rcases Nz with rfl |rfl |rfl |rfl |rfl |rfl<;>rfl
   have hz6:z<=6:=hz.2
   have t1:aK .Mult (.str [32]) (.int z)=some (.str (replicate z 32)):=by
    have:-1000<=(z:Int)/\(z:Int)<=1000:=by exact I6
    exact if_pos this
   have t2:aK .Add (.str (replicate z 32)) (.str [9])=some (.str (bH z)):=by
    have:(replicate z 32).length+[9].length<=1000000:=by simp;exact bN
    exact if_pos this
   have v1:aa ⟨run (m+9)⟩ (.sub (.sub (.new false (.list [.str [97,98,99,100,101,102],.str [65,66,67,68,69,70]])) (.b .Mod (.l 61) (.int 2))) (.b .Sub (.sub (.l 116) (.l 61)) (.int 1))) (La Sv low sh rs ((101,.obj 7)::ai τ 61 (.int j))) st=some (.str (fC (bb,z)),st):=
    bX (bX (aH (cK (e2 rfl rfl))) (aj (ay NH) rfl m1) kk) (aj (bX rfl (ay NH) sz) rfl rfl) kz
   have v2:aa ⟨run (m+9)⟩ (.b .Add (.b .Mult (.str [32]) (.sub (.l 116) (.l 61))) (.str [9])) (La Sv low sh rs ((101,.obj 7)::ai τ 61 (.int j))) st=some (.str (bH z),st):=
    aj (aj rfl (bX rfl (ay NH) sz) t1) rfl t2
   exact(bR (hk _) ((aR (KC:=La Sv low sh rs ((101,.obj 7)::ai τ 61 (.int j))) rfl).trans ((ae (eJ (fc (x:=.obj 7) rfl (h.hb.recv 34 rfl rfl) (e2 v1 v2) x34) rfl)).trans bB))).trans e'
  ·rw[MB,show(if n+1=0 then τ else ai τ 61 (.int ((j+(n+1)-1:Nat):Int)))=ai τ 61 (.int ((j+(n+1)-1:Nat):Int)) from if_neg (by exact ne_of_gt (Q0 0x111401110101101 [_] rfl))]
   have dup:∀ (a b:AV) (τ:Loc),ai (ai τ 61 a) 61 b=ai τ 61 b:=by
    intro a b τ
    induction τ with
    |nil=>rfl
    |cons p τ ih=>
     obtain⟨y,v⟩:=p;simp only[ai];by_cases h:Nat.beq y 61=true
     ·simp[h,ai]
     ·have h':Nat.beq y 61=false:=eq_false_iff.mpr h;simp[h',ai,ih]
   split
   ·rename_i hn;subst hn;rfl
   ·rw[dup];congr 3;exact le_antisymm (Q2 0x111706011150112711160011140111541103 [_,_,_,_] (sub_add_cancel (Q0 0x51114001111101 [_,_] rfl)) (sub_add_cancel (Q0 0x11150401111101 [_,_] rfl)) rfl) (Q2 0x111706011140111711160011150112541103 [_,_,_,_] (sub_add_cancel (Q0 0x51114001111101 [_,_] rfl)) (sub_add_cancel (Q0 0x11150401111101 [_,_] rfl)) rfl)
theorem IC (m:Nat)(hp:MD rs L e u):∃ (B:dK) (v:AV) (Kw:St),cw ⟨run (m+9)⟩ sB (La Sv low sh rs []) (Df cs rs L e u)=some (.next,La Sv low sh rs [(101,.obj 7),(61,v)],Kw)/\LI Kw cs rs L e u B/\cj B=L:=by
 refine yl (xd (m+8) (La Sv low sh rs []) (Df cs rs L e u)) λKx x1 k1 h1 l1=>?_;have RF:LI Kx cs rs L e u []:=⟨k1.get rfl (by simp),k1.get rfl (by simp),k1.get rfl (by simp),k1.get rfl (by simp),k1.get rfl (by simp),h1,⟨by simp,by simp⟩⟩;have x1':aa ⟨run (m+9)⟩ (.call 20 [.new true (.list [])]) (La Sv low sh rs []) (Df cs rs L e u)=some (.obj 7,Kx):=x1;refine mS (lB (Sv:=Sv) (low:=low) (sh:=sh) m hp.sz hp.ln (ok:=λst=>an st (.rng 0 (L.length:Nat)) ((List.range L.length).map λk:Nat=>AV.int k)) (λ_=>rfl) L.length 0 Kx [] [] RF (by exact J8) rfl) λB' KU Kw e' QC hs MB=>?_;have LO:L.length≠0:=λh=>hp.ne (List.length_eq_zero_iff.mp h);rw[if_neg LO]at MB;subst MB;refine⟨B',.int ((0+L.length-1:Nat):Int),Kw,?_,QC,hs⟩
 have KL:gA Kx .len [.obj 2]=some (.int (L.length:Nat),Kx):=by
  have hl9:=hp.ln;rw[iK RF.c2 (by rw[length_map];exact bN),length_map]
 refine(ae (KC:=La Sv low sh rs [(101,.obj 7)]) (aE x1' rfl)).trans ?_;refine(ae (KC:=La Sv low sh rs [(101,.obj 7),(61,.int ((0+L.length-1:Nat):Int))]) (fy (dq (P.e1 (dq (vs:=[.obj 2]) rfl KL)) (aZ L.length (by have:=hp.ln;exact dW))) (aL L.length (by have:=hp.ln;exact dW)) ?_)).trans bB;rw[range_eq_range'];have:=e';rw[range_eq_range']at this;exact this
end
theorem p9:∀ (L:List Nat),L≠[]->n8 (L.map λk:Nat=>(k:Int))=some ((mx L:Nat):Int)
 |[],h=>absurd rfl h
 |[x],_=>by simp[n8,mx]
 |x::y::r,_=>by
  have e:=p9 (y::r) (by simp);have e2:n8 ((x::y::r).map λk:Nat=>(k:Int))=(n8 ((y::r).map λk:Nat=>(k:Int))).map λm=>if (x:Int)<m then m else x:=rfl
  rw[e2,e];have e3:mx (x::y::r)=max x (mx (y::r)):=rfl;rw[e3,map_some];congr 1;split
  ·exact congrArg ofNat (Nat.max_eq_right (le_of_lt (ofNat_lt.mp (by assumption)))).symm
  ·exact congrArg ofNat (Nat.max_eq_left (not_lt.mp λz=>absurd (ofNat_lt.mpr z) (by assumption))).symm
theorem rO {L:List Nat}(h:∀ z∈L,1<=z/\z<=6):aI (0::L)=1::(range' 1 (mx L)).map λz=>(L.count z:Int):=by
 have e1:mx (0::L)=mx L:=by
  have:mx (0::L)=max 0 (mx L):=rfl;exact bz
 rw[aI,e1,range_eq_range',range'_succ,map_cons];congr 1
 ·have:L.count 0=0:=count_eq_zero.mpr λhm=>by have:=(h 0 hm).1;exact not_succ_le_zero 0 (Q1 0x1111110011111102 [] this rfl)
  simp[this]
 ·apply map_congr_left;intro z hz;rw[mem_range']at hz;refine ak hz ?_;clear hz;intro i _ e;rw[count_cons_of_ne (by exact ne_of_lt (Q1 0x51121110411241110101102 [_,_] e rfl))]
theorem Fo (st:St)(a b:Nat)(cs:List Int):ba 6 st (.tup [.int a,.int b,.tup [.tup (cs.map .int),.int 2]])=some (.tuple [.int a,.int b,.tuple [.tuple (cs.map .int),.int 2]]):=by
 simp only[ba,map_cons,map_nil,aY,eh,Option.map]
theorem zB:∀ (B:dK),lL B->B.length=(cnt B 1+cnt B 2+cnt B 3+cnt B 4+cnt B 5+cnt B 6):=by
 intro B
 induction B with
 |nil=>
  intro _;exact rfl
 |cons p B ih=>
  intro h;have ih:=ih ⟨by have:=h.1;simp at this;exact bN,λq hq=>h.2 q (by simp[hq])⟩;have hp:=h.2 p (by simp)
  have hc:∀ k,cnt (p::B) k=cnt B k+if p.2=k then 1 else 0:=λk=>by
   have:cnt (p::B) k=(p.2::cj B).count k:=rfl;rw[this,count_cons];simp only[cnt,beq_iff_eq]
  have hz:p.2=1\/p.2=2\/p.2=3\/p.2=4\/p.2=5\/p.2=6:=by exact uP
  simp only[hc,length_cons];rcases hz with e |e |e |e |e |e<;>rw[e]<;>simp<;>lia
section
variable {cs:List Int}{rs:bU}{L e u:List Nat}{B:dK}{low sh:Nat}{Sv v:AV}
noncomputable def tf (L:List Nat):AV:=.tup [.tup ((aI (0::L)).map .int),.int 2]
theorem ID (m:Nat)(hp:MD rs L e u){st:St}(h:LI st cs rs L e u B)(hs:cj B=L):∃ (w:Nat) (Kw:St),cw ⟨run (m+9)⟩ sC (La Sv low sh rs [(101,.obj 7),(61,v)]) st=some (.next,La Sv low sh rs [(101,.obj 7),(61,v),(117,.obj w),(2,tf L)],Kw)/\LI Kw cs rs L e u B/\Ws Kw w (L.sum+L.length+3) (L.length+1) 2 (aI (0::L)):=by
 refine cV (zc (m+7) h.hb h.ok) λKx x9 k1 w1=>?_;rw[hs]at w1;have h1:=h.kp k1;refine⟨st.length+1,Kx,?_,h1,w1⟩;let KZ:Loc:=[(101,.obj 7),(61,v),(117,.obj (st.length+1))];let Lb:Loc:=[(101,.obj 7),(61,v),(117,.obj (st.length+1)),(2,tf L)];have y1:aa ⟨run (m+9)⟩ (.call 9 [.l 101]) (La Sv low sh rs [(101,.obj 7),(61,v)]) st=some (.obj (st.length+1),Kx):=be (vs:=[.obj 7]) rfl x9
 have hmx:mx L<=6:=by
  have:∀ M:List Nat,(∀ z∈M,z<=6)->mx M<=6:=by
   intro M
   induction M with
   |nil=>intro _;simp[mx]
   |cons a M ih=>
    intro hM;have:=ih λz hz=>hM z (by simp[hz]);have:=hM a (by simp);simp only[mx,foldr_cons]at *;exact Hg
  exact this L λz hz=>(hp.sz z hz).2
 have bm:gA Kx .max [.obj 2]=some (.int (mx L:Nat),Kx):=by
  exact jV (mH h1.c2) (jI (cL L) (congrArg (Option.map λm:Int=>(AV.int m,Kx)) (p9 L hp.ne)))
 have RG:gA Kx .len [.obj 2]=some (.int (L.length:Nat),Kx):=by
  have hl9:=hp.ln;rw[iK h1.c2 (by rw[length_map];exact bN),length_map]
 have bs:=sY h1.c2
 have c1:du ⟨run (m+9)⟩ (.comp (.sm .count (.l 116) [.l 92]) (.nm 92) (.bi .range2 [.int 1,.b .Add (.bi .max [.l 116]) (.int 1)]) [] [116]) (La Sv low sh rs KZ) Kx=some ((range' 1 (mx L)).map λz=>.int (L.count z:Nat),Kx):=by
  have es:aN ⟨run (m+9)⟩ [.int 1,.b .Add (.bi .max [.l 116]) (.int 1)] (La Sv low sh rs KZ) Kx=some ([.int (1:Nat),.int ((1+mx L:Nat):Int)],Kx):=by
   refine e2 rfl (aj (dq (vs:=[.obj 2]) rfl bm) rfl ?_);refine congrArg (λx=>some (AV.int x)) ?_;lia
  refine bS (dq es (fE 1 (1+mx L) (by decide) (by exact Gk))) (eP 1 (mx L) (by exact Gk)) (by simp;exact bN) ?_;refine aD (λk:Nat=>AV.int k) (λz=>.int (L.count z:Nat)) rfl (range' 1 (mx L)) λz _=>?_;exact lK (KC:=[(116,.obj 2),(92,.int z)]) rfl (gY (x:=.obj 2) rfl (cT h1.c2) (P.e1 rfl) (jh h1.c2 z))
 have nv:(aI (0::L)).map AV.int=[.int 1]++(range' 1 (mx L)).map λz=>.int (L.count z:Nat):=by
  rw[rO hp.sz,map_cons,map_map];rfl
 have y2:aa ⟨run (m+9)⟩ AJ (La Sv low sh rs KZ) Kx=some (tf L,Kx):=by
  have hc:aa ⟨run (m+9)⟩ (.new false (.cat (.new false (.list [.int 1])) (.new false (.comp (.sm .count (.l 116) [.l 92]) (.nm 92) (.bi .range2 [.int 1,.b .Add (.bi .max [.l 116]) (.int 1)]) [] [116])))) (La Sv low sh rs KZ) Kx=some (.lst ((aI (0::L)).map .int),Kx):=by
   rw[nv];exact aH (wg (aH (cK rfl)) (aH c1) rfl rfl (by simp;exact Du))
  have ht:gA Kx .tuple [.lst ((aI (0::L)).map .int)]=some (.tup ((aI (0::L)).map .int),Kx):=by
   have KL:((aI (0::L)).map AV.int).length<=2^20:=by
    rw[nv];simp;exact bN
   exact if_pos KL
  exact kZ (e2 (dq (P.e1 hc) ht) rfl)
 have y3:aa ⟨run (m+9)⟩ (.tup [.attr (.l 117) 0,.attr (.l 117) 1,.attr (.l 117) 2]) (La Sv low sh rs Lb) Kx=some (.tup [.int ((L.sum+L.length+3:Nat):Int),.int ((L.length+1:Nat):Int),tf L],Kx):=
  kZ (e3 (fz (x:=.obj (st.length+1)) rfl w1.n) (fz (x:=.obj (st.length+1)) rfl w1.nt) (fz (x:=.obj (st.length+1)) rfl w1.norm))
 have y4:aa ⟨run (m+9)⟩ (.tup [.b .Add (.b .Add (.bi .sum [.l 116]) (.bi .len [.l 116])) (.int 3),.b .Add (.bi .len [.l 116]) (.int 1),.l 2]) (La Sv low sh rs Lb) Kx=some (.tup [.int ((L.sum+L.length+3:Nat):Int),.int ((L.length+1:Nat):Int),tf L],Kx):=
  kZ (e3 (aj (x:=.int ((L.sum+L.length:Nat):Int)) (y:=.int (3:Nat)) (aj (dq (vs:=[.obj 2]) rfl bs) (dq (vs:=[.obj 2]) rfl RG) (cU _ _)) rfl (cU _ _)) (aj (y:=.int (1:Nat)) (dq (vs:=[.obj 2]) rfl RG) rfl (cU _ _)) rfl)
 have ceq:bJ Kx .NotEq (.tup [.int ((L.sum+L.length+3:Nat):Int),.int ((L.length+1:Nat):Int),tf L]) (.tup [.int ((L.sum+L.length+3:Nat):Int),.int ((L.length+1:Nat):Int),tf L])=some false:=by
  have v:=Fo Kx (L.sum+L.length+3) (L.length+1) (aI (0::L));unfold tf;rw[bJ,dB v v (by simp[PyData.canLay0,PyData.canLayAll0,canLayAll_ints])];rfl
 refine(ae (KC:=La Sv low sh rs KZ) (aE y1 rfl)).trans ?_;refine(ae (KC:=La Sv low sh rs Lb) (aE y2 rfl)).trans ?_;exact(ae (bG (bF y3 y4 ceq))).trans bB
theorem ke (u:List Nat):PyData.canLay0 (.list (u.map λk:Nat=>PyData.int k))=true:=by
 have:(u.map λk:Nat=>PyData.int k)=(u.map λk:Nat=>(k:Int)).map .int:=by rw[map_map];rfl
 rw[PyData.canLay0,this,canLayAll_ints]
theorem eD (n:Nat)(st:St)(u:List Nat):ba (n+1) st (.lst (ah u))=some (.list (u.map λk:Nat=>PyData.int k)):=by
 have:ah u=(u.map λk:Nat=>(k:Int)).map .int:=by simp only[ah,map_map];rfl
 rw[this,mB,map_map];rfl
theorem fT (n:Nat)(st:St)(i:Nat)(u:List Nat)(h:st[i]?=some (.list (ah u))):ba (n+1) st (.obj i)=some (.list (u.map λk:Nat=>PyData.int k)):=by
 have e:ah u=(u.map λk:Nat=>(k:Int)).map .int:=by simp only[ah,map_map];rfl
 rw[e]at h;rw[uj n st i _ h,map_map];rfl
theorem xx {st:St}(h:st[4]?=some (.list (ah u))):bJ st .NotEq (.lst (ah u)) (.obj 4)=some false:=by
 rw[bJ,dB (eD 5 st u) (fT 5 st 4 u h) (ke u)];rfl
theorem mM {st:St}(LP:cs.length=5)(h:st[0]?=some (.list (cs.map .int))):cB st (.obj 0) (.int 4)=some (.int (cs.getD 4 0)):=by
 have:=cG (st:=st) (i:=0) (xs:=cs.map .int) (k:=4) (v:=.int (cs.getD 4 0)) h (by rw[getElem?_map,getElem?_eq_getElem (by exact G2),getD_eq_getElem?_getD,getElem?_eq_getElem (by exact G2)];rfl) (by decide);exact this
theorem zC {B:dK}(hB:lL B)(hs:cj B=L):dQ B=fF L:=by
 subst hs;rfl
theorem IE (m:Nat)(hp:MD rs L e u)(ho:Li rs)(LP:cs.length=5)(hl:low<30)(K8:sh<5000){st:St}(h:LI st cs rs L e u B)(hs:cj B=L){w:Nat}(hw:Ws st w (L.sum+L.length+3) (L.length+1) 2 (aI (0::L))) :
  ∃ (B':dK) (Kw:St),cw ⟨run (m+9)⟩ sD (La Sv low sh rs [(101,.obj 7),(61,v),(117,.obj w),(2,tf L)]) st=some (.next,La Sv low sh rs [(101,.obj 7),(61,v),(117,.obj w),(2,tf L)],Kw)/\LI Kw cs rs L e u B'/\dQ B'=e/\B'.length<=300/\Ws Kw w (L.sum+L.length+3) (L.length+1) 2 (aI (0::L)):=by
 have NF:B.length<=100:=by
  have:=congrArg List.length hs;rw[cj,length_map]at this;have:=hp.ln;lia
 have hg:ly rs e u 31 (dQ B) [0,0,0]=true:=by rw[zC h.ok hs];exact hp.fw
 refine uR (AH (c:=cs.getD 4 0) (m+5) h.hb (rv:=.obj 1) (.inr ⟨1,rfl,h.c1⟩) (by simp) ho h.ok NF hl K8 hg) λKw B' x k NG Pj NS Nd=>?_;have h':=h.kp5 k NG Pj;refine⟨B',Kw,?_,h',NS,Nd,hw.mono k λj hj=>?_⟩
 ·have y:aa ⟨run (m+9)⟩ (.call 10 [.l 101,.l 114,.l 107,.l 103,.sub (.l 87) (.int 4)]) (La Sv low sh rs [(101,.obj 7),(61,v),(117,.obj w),(2,tf L)]) st=some (.lst (ah u),Kw):=
   be (fA (v:=.obj 7) rfl (fA (v:=.obj 1) rfl (e3 (x:=.int low) (y:=.int sh) rfl rfl (bX rfl rfl (mM LP h.c0))))) x
  exact(ae (bG (bF y rfl (xx h'.c4)))).trans bB
 ·rw[mem_singleton]at hj;rw[hj];exact⟨_,h.hb.c⟩
end
theorem CG {X:Cx}{σ:Loc}{st Kx Ky:St}{elt src Lr:E}{tg LV:Tg}{cap:List Nat}{v:AV}{xs zs:List AV}(h:aa X src σ st=some (v,Kx))(h2:aF Kx v=some xs)(h3:aU (λst=>an st v xs) (λx st=>match aQ (aX σ cap) tg x with
     |some KA=>match aa X Lr KA st with
      |some (v2,Ky)=>match aF Ky v2 with
       |some ys=>aU (λst=>an st v2 ys) (λy st=>match aQ KA LV y with
        |some LW=>match aa X elt LW st with
         |some (z,K4)=>some ([z],K4)
         |none=>none
        |none=>none) ys Ky
       |none=>none
      |none=>none
     |none=>none) xs Kx=some (zs,Ky)) (h4:zs.length<=1000000):du X (.comp2 elt tg src LV Lr cap) σ st=some (zs,Ky):=jE h (jV h2 (jL h3 (if_pos h4)))
theorem qa {α:Type}{ok:St->Bool}{f:AV->St->Option (List AV×St)}(i:α->AV)(g:α->List AV){st:St}(hk:ok st=true):∀ (xs:List α),(∀ x∈xs,f (i x) st=some (g x,st))->aU ok f (xs.map i) st=some (xs.flatMap g,st):=by
 intro xs
 induction xs with
 |nil=>
  intro _;exact if_pos hk
 |cons x xs ih=>
  intro h;exact(if_pos hk).trans (jL (h x (.head _)) (jL (ih λy hy=>h y (.tail _ hy)) (by rw[flatMap_cons])))
noncomputable def ci (f:Nat->Nat)(a n:Nat):List Nat:=(range' a n).flatMap λz=>replicate (f z) z
noncomputable def nW (f:Nat->Nat):List Nat:=ci f 0 7
theorem lG (f:Nat->Nat){x:Nat}(h:x<7):nW f=ci f 0 x++(replicate (f x) x++ci f (x+1) (6-x)):=by
 have e:range' 0 7=range' 0 x++(x::range' (x+1) (6-x)):=by
  have h1:=List.range'_append_1 (s:=0) (m:=x) (n:=7-x);rw[zero_add,show x+(7-x)=7 by exact G6,show 7-x=(6-x)+1 by exact le_antisymm (Q2 0x6116501127116401111115041103 [_,_,_] (sub_add_cancel (Q1 0x7111114011071141102 [_] h rfl)) (sub_add_cancel (Q1 0x7111114011061141102 [_] h rfl)) rfl) (Q2 0x6116401117116501125111401103 [_,_,_] (sub_add_cancel (Q1 0x7111114011071141102 [_] h rfl)) (sub_add_cancel (Q1 0x7111114011061141102 [_] h rfl)) rfl),range'_succ]at h1;exact h1.symm
 rw[nW,ci,e,List.flatMap_append,flatMap_cons];rfl
theorem iq {f:Nat->Nat}{a n y:Nat}(h:y∈ci f a n):a<=y/\y<a+n:=by
 simp only[ci,mem_flatMap,mem_range']at h;refine ak h ?_;clear h;rintro z ⟨i,hi,rfl⟩ hz;rw[eq_of_mem_replicate hz];lia
theorem CH (x:Int):∀ (A R:List Int),(∀ y∈A,y<=x)->aO x (A++R)=A++aO x R:=by
 intro A
 induction A with
 |nil=>
  intro _ _;exact rfl
 |cons y A ih=>
  intro R h;have hy:=h y (by simp);rw[cons_append,aO,if_neg (by lia),ih R λz hz=>h z (by simp[hz])];rfl
theorem CI (x:Int):∀ (R:List Int),(∀ y∈R,x<y)->aO x R=x::R:=by
 intro R
 induction R with
 |nil=>
  intro _;exact rfl
 |cons y R ih=>
  intro h;rw[aO,if_pos (h y (by simp))]
noncomputable def fU (l:List Nat):List Int:=l.map λk:Nat=>(k:Int)
theorem iP (a b:List Nat):fU (a++b)=fU a++fU b:=map_append
theorem fV {f g:Nat->Nat}{a n:Nat}(h:∀ z,a<=z->z<a+n->f z=g z):ci f a n=ci g a n:=by
 have:∀ n a,(∀ z,a<=z->z<a+n->f z=g z)->ci f a n=ci g a n:=by
  intro n
  induction n with
  |zero=>intro a _;rfl
  |succ n ih=>
   intro a h;have:=ih (a+1) λz h1 h2=>h z (by exact uN) (by exact Q1 0x6111500111401101116050111401102 [_,_,_] h2 rfl);unfold ci at this ⊢;rw[range'_succ,flatMap_cons,flatMap_cons,this,h a (by exact Hf) (by exact A0)]
 exact this n a h
theorem mN:∀ (M:List Nat),(∀ z∈M,z<7)->(fU M).foldr aO []=fU (nW λz=>M.count z):=by
 intro M
 induction M with
 |nil=>
  intro _;exact rfl
 |cons x M ih=>
  intro h;have hx:=h x (by simp);have ih:=ih λz hz=>h z (by simp[hz]);have e1:(fU (x::M)).foldr aO []=aO (x:Int) ((fU M).foldr aO []):=rfl;rw[e1,ih,lG _ hx,lG (λz=>(x::M).count z) hx];have c1:ci (λz=>(x::M).count z) 0 x=ci (λz=>M.count z) 0 x:=fV λz _ h2=>count_cons_of_ne (by exact ne_of_gt (Q1 0x5010111401105111401102 [_,_] h2 rfl));have c2:ci (λz=>(x::M).count z) (x+1) (6-x)=ci (λz=>M.count z) (x+1) (6-x):=fV λz h1 _=>count_cons_of_ne (by exact Dx);rw[c1,c2,count_cons_self,iP,iP,← append_assoc,CH,CI,iP,iP,List.replicate_succ']
  ·simp[fU]
  ·intro y hy;simp only[fU,mem_map]at hy;refine ak hy ?_;clear hy;rintro z hz rfl;have:=iq hz;exact Hk
  ·intro y hy;simp only[fU,mem_append,mem_map]at hy;rcases hy with ⟨z,hz,rfl⟩ |⟨z,hz,rfl⟩
   ·have:=iq hz;lia
   ·rw[eq_of_mem_replicate hz];lia
theorem nX (f:Nat->Nat)(k:Nat):∀ (n a:Nat),(ci f a n).count k=if a<=k/\k<a+n then f k else 0:=by
 intro n
 induction n with
 |zero=>
  intro a;have:¬ (a<=k/\k<a+0):=λe=>not_lt.mpr e.1 e.2;rw[if_neg this];rfl
 |succ n ih=>
  intro a;have ih:=ih (a+1)
  have e:ci f a (n+1)=replicate (f a) a++ci f (a+1) n:=by
   unfold ci;rw[range'_succ,flatMap_cons]
  rw[e,count_append,List.count_replicate,ih];by_cases h:a=k
  ·subst h;have h1:¬ (a+1<=a/\a<a+1+n):=λe=>Nat.not_succ_le_self a e.1;have h2:a<=a/\a<a+(n+1):=⟨le_refl a,Nat.lt_add_of_pos_right (succ_pos n)⟩;rw[if_neg h1,if_pos h2];simp
  ·have h':(a==k)=false:=by simpa using h
   rw[h'];simp only[false_eq_true,if_false,zero_add];by_cases q:a<=k/\k<a+(n+1)
   ·rw[if_pos q,if_pos (GT h q)]
   ·rw[if_neg q,if_neg (GU q)]
section
variable {cs:List Int}{rs:bU}{L e u:List Nat}{B:dK}{low sh:Nat}{Sv v:AV}
noncomputable def bx (e:List Nat):List Nat:=nW λz=>e.getD z 0
theorem Fp {X:Cx}{σ:Loc}{st:St}(h:af σ 96=some (.obj 3))(hc:st[3]?=some (.list (ah e)))(he:e.length=7)(hs:e.sum<=40):aa X xv σ st=some (.lst (ah (bx e)),st):=by
 have hle:∀ z,z<7->e.getD z 0<=40:=λz hz=>by
  have Nz:z<e.length:=by exact Da
  rw[getD_eq_getElem?_getD,getElem?_eq_getElem Nz]
  have:∀ (l:List Nat) (x:Nat),x∈l->x<=l.sum:=by
   intro l
   induction l with
   |nil=>intro x hx;simp at hx
   |cons a l ih=>
    intro x hx;simp only[mem_cons]at hx;rw[sum_cons];rcases hx with rfl |hx
    ·exact Jb
    ·have:=ih x hx;exact Q1 0x6411065041102 [_,_,_] this rfl
  exact le_trans (this e _ (getElem_mem Nz)) hs
 have key:aU (λst=>an st (.rng 0 (7:Nat)) ((List.range 7).map λk:Nat=>AV.int k)) (λx st=>match aQ (aX σ [96]) (.nm 92) x with
     |some KA=>match aa X (.bi .range1 [.sub (.l 96) (.l 92)]) KA st with
      |some (v2,Ky)=>match aF Ky v2 with
       |some ys=>aU (λst=>an st v2 ys) (λy st=>match aQ KA (.nm 61) y with
        |some LW=>match aa X (.l 92) LW st with
         |some (z,K4)=>some ([z],K4)
         |none=>none
        |none=>none) ys Ky
       |none=>none
      |none=>none
     |none=>none) ((List.range 7).map λk:Nat=>AV.int k) st=some ((List.range 7).flatMap λz=>replicate (e.getD z 0) (AV.int (z:Nat)),st):=by
  refine qa (λk:Nat=>AV.int k) _ rfl (List.range 7) λz hz=>?_;have hz7:=mem_range.mp hz;have hz40:=hle z hz7;have g96:aa X (.l 96) (ai (aX σ [96]) 92 (.int z)) st=some (.obj 3,st):=gt h rfl (by decide);have s1:cB st (.obj 3) (.int z)=some (.int (e.getD z 0:Nat)):=cG hc (dS (by exact Da)) (by exact bN)
  have r1:aa X (.bi .range1 [.sub (.l 96) (.l 92)]) (ai (aX σ [96]) 92 (.int z)) st=some (.rng 0 ((e.getD z 0:Nat):Int),st):=
   dq (P.e1 (bX g96 lU s1)) (aZ _ (by exact dW))
  have i1:aF st (.rng 0 ((e.getD z 0:Nat):Int))=some ((List.range (e.getD z 0)).map λk:Nat=>AV.int k):=aL _ (by exact dW)
  show(match aa X (.bi .range1 [.sub (.l 96) (.l 92)]) (ai (aX σ [96]) 92 (.int z)) st with
      |some (v2,Ky)=>match aF Ky v2 with
       |some ys=>aU (λst=>an st v2 ys) (λy st=>match aQ (ai (aX σ [96]) 92 (.int z)) (.nm 61) y with
        |some LW=>match aa X (.l 92) LW st with
         |some (z,K4)=>some ([z],K4)
         |none=>none
        |none=>none) ys Ky
       |none=>none
      |none=>none)=_
  rw[r1];simp only[i1]
  have:replicate (e.getD z 0) (AV.int (z:Nat))=(List.range (e.getD z 0)).map λ_=>AV.int (z:Nat):=by
   rw[List.map_const',length_range]
  rw[this];refine aD (λk:Nat=>AV.int k) _ rfl (List.range (e.getD z 0)) λy _=>?_;have:aa X (.l 92) (ai (ai (aX σ [96]) 92 (.int z)) 61 (.int y)) st=some (.int z,st):=ay (by rw[ag _ (by decide),ab]);simp only[aQ,this]
 have KL:((List.range 7).flatMap λz=>replicate (e.getD z 0) (AV.int (z:Nat)))=ah (bx e):=by
  simp only[ah,bx,nW,ci,List.map_flatMap,List.map_replicate,range_eq_range']
 have MT:(ah (bx e)).length<=1000000:=by
  rw[← KL];simp only[show List.range 7=[0,1,2,3,4,5,6] from rfl,flatMap_cons,List.flatMap_nil,length_append,length_replicate,length_nil];exact Di (hle 0 (by decide)) (hle 1 (by decide)) (hle 2 (by decide)) (hle 3 (by decide)) (hle 4 (by decide)) (hle 5 (by decide)) (hle 6 (by decide))
 rw[KL]at key;refine aH ?_;have hsrc:aa X (.bi .range1 [.int 7]) σ st=some (.rng 0 (7:Nat),st):=dq (P.e1 rfl) (aZ 7 (by decide));have gZ:aF st (.rng 0 (7:Nat))=some ((List.range 7).map λk:Nat=>AV.int k):=aL 7 (by decide);exact CG hsrc gZ key MT
end
theorem xy (z:Nat):bump [] z=aI [z]:=by
 apply ext_getElem?;intro k;have m1:mx [z]=z:=by simp[mx]
 have e0:eT [] z=replicate (z+1) 0:=by simp[eT]
 have g0:(replicate (z+1) (0:Int)).getD z 0=0:=by
  rw[getD_eq_getElem?_getD,getElem?_replicate,if_pos (by exact A0)];rfl
 rw[db,m1,bump,e0,g0];by_cases q:z=k
 ·subst q;rw[getElem?_set_self (by simp),if_pos (le_refl _)];simp
 ·rw[getElem?_set_ne q,getElem?_replicate];by_cases h:k<=z
  ·rw[if_pos (by exact Gn),if_pos h];have:[z].count k=0:=count_eq_zero.mpr (by simp;lia);rw[this];rfl
  ·rw[if_neg (by exact not_lt.mpr (Q1 0x5111401105111401102 [_,_] (Nat.not_le.mp h) rfl)),if_neg h]
theorem rP:∀ (M:List Nat),M≠[]->M.foldl bump []=aI M:=by
 intro M
 induction M with
 |nil=>
  intro h;exact absurd rfl h
 |cons z M ih=>
  intro _;rw[foldl_cons,xy,mI];rfl
theorem zD {X:Cx}{σ:Loc}{st Kx:St}{a:E}{M:List Nat}(h:aa X a σ st=some (.lst (ah M),Kx))(hl:M.length<64):du X (.sorted a) σ st=some (((fU M).foldr aO []).map .int,Kx):=by
 have hi:allInts (ah M)=some (fU M):=cL M;have MT:(fU M).length<64:=by rw[fU,length_map];exact hl
 exact jE h (jI hi (if_pos MT))
theorem CJ {X:Cx}{σ:Loc}{st Kx:St}{a:E}{b:Bool}(h:aa X a σ st=some (.bool b,Kx))(neg:Bool):aa X (.isTru a neg) σ st=some (.bool (b != neg),Kx):=jE h rfl
section
variable {cs:List Int}{rs:bU}{L e u:List Nat}{B:dK}{low sh:Nat}{Sv v:AV}
theorem xz (hB:lL B)(hc:dQ B=e):B.length<=e.sum:=by
 rw[zB B hB,← hc];simp only[dQ,show List.range 7=[0,1,2,3,4,5,6] from rfl,map_cons,map_nil,sum_cons,sum_nil];exact Q0 0x1908070605040a0987654000001101 [_,_,_,_,_,_,_] rfl
theorem qb (hc:dQ B=e):bx e=nW λz=>(cj B).count z:=by
 subst hc;exact fV λz _ h=>gy B (by exact bz)
noncomputable def Mr (v:AV)(w:Nat)(L e:List Nat)(τ:Loc):Loc:=(101,.obj 7)::(61,v)::(117,.obj w)::(2,tf L)::(118,.lst (ah (bx e)))::τ
theorem IF (m:Nat)(hp:MD rs L e u){st:St}(h:LI st cs rs L e u B)(hc:dQ B=e){w:Nat}:cw ⟨run (m+9)⟩ sE (La Sv low sh rs [(101,.obj 7),(61,v),(117,.obj w),(2,tf L)]) st=some (.next,La Sv low sh rs (Mr v w L e []),st):=by
 have KL:=xz h.ok hc;have QD:=hp.sm;have y1:aa ⟨run (m+9)⟩ xv (La Sv low sh rs [(101,.obj 7),(61,v),(117,.obj w),(2,tf L)]) st=some (.lst (ah (bx e)),st):=Fp rfl h.c3 hp.el hp.sm;have RH:=wA (n:=m+8) h.hb (nL h.ok);have hv:(bY B).map (λp=>AV.str p.2)=B.map λp=>AV.str (bH p.2):=by simp[bY]
 rw[hv]at RH
 have y2:aa ⟨run (m+9)⟩ (.new false (.comp (.b .Sub (.bi .len [.l 102]) (.int 1)) (.nm 102) (.meth 33 (.l 101) []) [] [])) (La Sv low sh rs (Mr v w L e [])) st=some (.lst (ah (cj B)),st):=by
  have e1:ah (cj B)=B.map λp=>AV.int (p.2:Nat):=by simp only[ah,cj,map_map];rfl
  rw[e1];refine aH (bS (fc (x:=.obj 7) rfl (h.hb.recv 33 rfl rfl) dn RH) rfl (by rw[length_map];exact yt) (aD (λp:Bool×Nat=>AV.str (bH p.2)) _ rfl B λp hpB=>?_));have hz:=h.ok.2 p hpB
  have Qm:gA st .len [.str (bH p.2)]=some (.int ((p.2+1:Nat):Int),st):=by
   have:p.2+1<1000000:=by exact DC
   exact(if_pos (by rw[chunk_len];exact this)).trans (by rw[chunk_len])
  refine lK rfl (aj (dq (P.e1 lU) Qm) rfl ?_);refine congrArg (λx=>some (AV.int x)) ?_;lia
 have y3:aa ⟨run (m+9)⟩ (.new false (.sorted (.new false (.comp (.b .Sub (.bi .len [.l 102]) (.int 1)) (.nm 102) (.meth 33 (.l 101) []) [] [])))) (La Sv low sh rs (Mr v w L e [])) st=some (.lst (ah (bx e)),st):=by
  have QE:∀ z∈cj B,z<7:=λz hz=>by
   simp only[cj,mem_map]at hz;refine ak hz ?_;clear hz;rintro p Ol rfl;have:=h.ok.2 p Ol;exact mT
  have e1:ah (bx e)=((fU (cj B)).foldr aO []).map .int:=by
   rw[mN _ QE,← qb hc];simp only[ah,fU,map_map];rfl
  rw[e1];exact aH (zD y2 (by rw[cj,length_map];exact DB))
 have c1:bJ st .NotEq (.lst (ah (bx e))) (.lst (ah (bx e)))=some false:=by
  rw[bJ,dB (eD 5 st _) (eD 5 st _) (ke _)];rfl
 exact(ae (KC:=La Sv low sh rs (Mr v w L e [])) (aE y1 rfl)).trans ((ae (bG (bF y3 rfl c1))).trans bB)
noncomputable def typ (e:List Nat):List Nat:=cH (bx e)++[9,32,32]
theorem CK (e:List Nat):typ e=cH (bx e++[0])++(replicate 2 32++[]):=by
 rw[typ,pL];simp[cH,bH,replicate]
theorem zE (e:List Nat):typ e++[32]=cH (bx e++[0])++(replicate 3 32++[]):=by
 rw[typ,pL];simp[cH,bH,replicate]
theorem zF {f:Nat->Nat}{z:Nat}(h:z∈nW f):z<=6:=by have:=iq h;exact Hj
theorem IG (m:Nat)(hp:MD rs L e u){st:St}(h:LI st cs rs L e u B)(hc:dQ B=e){w:Nat}(hw:Ws st w (L.sum+L.length+3) (L.length+1) 2 (aI (0::L))) :
  ∃ (x y:AV) (Kw:St),cw ⟨run (m+9)⟩ sF (La Sv low sh rs (Mr v w L e [])) st=some (.next,La Sv low sh rs (Mr v w L e [(119,.str (typ e)),(120,x),(121,y)]),Kw)/\LI Kw cs rs L e u B/\Ws Kw w (L.sum+L.length+3) (L.length+1) 2 (aI (0::L)):=by
 have KL:=xz h.ok hc;have QD:=hp.sm;have hR:bx e=nW λz=>(cj B).count z:=qb hc
 have hRl:(bx e).length<=40:=by
  have QE:∀ z∈cj B,z<7:=λz hz=>by
   simp only[cj,mem_map]at hz;refine ak hz ?_;clear hz;rintro p Ol rfl;have:=h.ok.2 p Ol;exact mT
  have e1:fU (bx e)=(fU (cj B)).foldr aO []:=by rw[mN _ QE,hR]
  have e2:∀ l:List Int,(l.foldr aO []).length=l.length:=by
   intro l
   induction l with
   |nil=>rfl
   |cons a l ih=>
    have:∀ r:List Int,(aO a r).length=r.length+1:=by
     intro r
     induction r with
     |nil=>rfl
     |cons b r ih=>rw[aO];split<;>simp[ih]
    rw[foldr_cons,this,ih];rfl
  have:=congrArg List.length e1;rw[e2]at this;simp only[fU,cj,length_map]at this;exact Q3 0x541112821611065110282141104 [_,_,_] KL QD this rfl
 have QF:∀ z∈bx e,z<=6:=λz hz=>by rw[hR]at hz;exact zF hz
 have hRs:=ry QF;have OA:(cH (bx e)).length<=300:=by rw[iL];exact Q2 0x561241102821571012c315401103 [_,_] hRl hRs rfl
 have y1:aa ⟨run (m+9)⟩ (.b .Add (.sm .join (.str []) [.new false (.comp (.b .Add (.b .Mult (.str [32]) (.l 92)) (.str [9])) (.nm 92) (.l 118) [] [])]) (.str [9,32,32])) (La Sv low sh rs (Mr v w L e [])) st=some (.str (typ e),st):=by
  have c1:aa ⟨run (m+9)⟩ (.new false (.comp (.b .Add (.b .Mult (.str [32]) (.l 92)) (.str [9])) (.nm 92) (.l 118) [] [])) (La Sv low sh rs (Mr v w L e [])) st=some (.lst ((bx e).map λz=>.str (bH z)),st):=by
   refine aH (bS (v:=.lst (ah (bx e))) rfl rfl (by rw[length_map];exact bN) (aD (λk:Nat=>AV.int k) _ rfl (bx e) λz hz=>?_));have hz6:=QF z hz
   have t1:aK .Mult (.str [32]) (.int z)=some (.str (replicate z 32)):=by
    have:-1000<=(z:Int)/\(z:Int)<=1000:=by exact I6
    exact if_pos this
   have t2:aK .Add (.str (replicate z 32)) (.str [9])=some (.str (bH z)):=by
    have:(replicate z 32).length+[9].length<=1000000:=by simp;exact bN
    exact if_pos this
   exact lK rfl (aj (aj rfl lU t1) rfl t2)
  have j1:jM st .join (.str []) [.lst ((bx e).map λz=>.str (bH z))]=some (.str (cH (bx e)),st):=by
   have:(((bx e).map bH).map List.length).sum+((bx e).map bH).length*0<=1000000:=by
    rw[← List.length_flatten];show(cH (bx e)).length+_<=_;exact bN
   show(match allStrs ((bx e).map λz=>.str (bH z)) with
    |some l=>if (l.map List.length).sum+l.length*([]:List Nat).length<=1000000 then some (AV.str (eX [] l),st) else none
    |none=>none)=_
   rw[eg bH];exact(if_pos this).trans (by rw[gN];rfl)
  have a1:aK .Add (.str (cH (bx e))) (.str [9,32,32])=some (.str (typ e)):=by
   have:(cH (bx e)).length+[9,32,32].length<=1000000:=by simp;exact bN
   exact if_pos this
  exact aj (gY rfl rfl (P.e1 c1) j1) rfl a1
 have QU:(typ e).length<=400:=by rw[typ,length_append];simp;exact bN
 refine cV (zc (m+7) h.hb h.ok) λKx x9 k1 w1=>?_;have h1:=h.kp k1;have hw1:=hw.mono k1 (by simp)
 have Pk:∀ z∈bx e++[0],z<=100:=λz hz=>by
  simp only[mem_append,mem_singleton]at hz;rcases hz with hz |rfl
  ·have:=QF z hz;exact bN
  ·exact C7
 refine cV (wG (m+8) Kx (bx e++[0]) 2 [] Pk (.inl rfl)) λKy RI k2 w2=>?_;refine cV (wG (m+8) Ky (bx e++[0]) 3 [] Pk (.inl rfl)) λK4 RJ k3 w3=>?_;rw[rP _ (by simp)]at w2 w3;rw[← CK]at RI;rw[← zE]at RJ
 have hn:aI (bx e++[0])=aI (0::cj B):=by
  apply pN;intro k;rw[count_append,hR,nW,nX];by_cases hk:k<7
  ·rw[if_pos ⟨by exact C7,by exact bz⟩];by_cases h0:k=0
   ·subst h0;simp
   ·rw[count_cons_of_ne (l:=cj B) (show 0≠k by lia)];have:[0].count k=0:=count_eq_zero.mpr (by simp;exact bz);rw[this];rfl
  ·rw[if_neg (by lia),count_cons_of_ne (l:=cj B) (show 0≠k by exact ne_of_lt (Q1 0x471111041110101102 [_] (not_lt.mp hk) rfl))];have z0:[0].count k=0:=count_eq_zero.mpr (by simp;exact ne_of_gt (Q1 0x471111041110101102 [_] (not_lt.mp hk) rfl))
   have:(cj B).count k=0:=count_eq_zero.mpr λhm=>by
    simp only[cj,mem_map]at hm;refine ak hm ?_;clear hm;rintro p Ol rfl;have:=h.ok.2 p Ol;exact not_succ_le_zero 0 (Q2 0x61141104711110011111103 [_] (not_lt.mp hk) this.2 rfl)
   rw[z0,this]
 rw[hn]at w2 w3;let i1:=st.length+1;let i2:=Kx.length+1;let i3:=Ky.length+1;have LI3:=(h1.kp k2).kp k3;have ww:Ws K4 w _ _ _ _:=(hw1.mono k2 (by simp)).mono k3 (by simp);have PT:Ws K4 i1 _ _ _ _:=(w1.mono k2 (by simp)).mono k3 (by simp);have ww2:Ws K4 i2 _ _ _ _:=w2.mono k3 (by simp);have ww3:Ws K4 i3 _ _ _ _:=w3
 have ne1:¬ (aI (0::cj B)=aI (0::L)/\(2:Nat)=2):=λhh=>hp.df (by
  rw[← hc];unfold dQ fF;apply map_congr_left;intro k _;have:=ux hh.1 k;rw[count_cons,count_cons]at this;show(cj B).count k=_
  exact le_antisymm (Q1 0x650640111541102 [_,_,_] this rfl) (Q1 0x640650112541102 [_,_,_] this rfl))
 have q1:=sS (m+8) PT ww;have q2:=sS (m+8) PT ww2;have q3:=sS (m+8) PT ww3;rw[decide_eq_false ne1]at q1;rw[decide_eq_true ⟨rfl,rfl⟩]at q2;rw[decide_eq_false (λhh=>absurd hh.2 (by decide))]at q3;let KZ:=Mr v w L e [(119,.str (typ e))];let Lb:=Mr v w L e [(119,.str (typ e)),(120,.obj i1)];let tl:AV:=.lst [.bool false,.bool true,.bool false];let Lw:=Mr v w L e [(119,.str (typ e)),(120,.obj i1),(121,tl)];have y2:aa ⟨run (m+9)⟩ (.call 9 [.l 101]) (La Sv low sh rs KZ) st=some (.obj i1,Kx):=be (vs:=[.obj 7]) rfl x9
 have a2:aK .Add (.str (typ e)) (.str [32])=some (.str (typ e++[32])):=by
  have:(typ e).length+[32].length<=1000000:=by simp;exact bN
  exact if_pos this
 have y3:aa ⟨run (m+9)⟩ (.tup [.l 117,.call 21 [.l 119],.call 21 [.b .Add (.l 119) (.str [32])]]) (La Sv low sh rs Lb) Kx=some (.tup [.obj w,.obj i2,.obj i3],K4):=
  kZ (e3 (x:=.obj w) rfl (be (vs:=[.str (typ e)]) rfl RI) (be (P.e1 (aj (x:=.str (typ e)) rfl rfl a2)) RJ))
 have y4:aa ⟨run (m+9)⟩ (.new false (.comp (.meth 36 (.l 120) [.l 106]) (.nm 106) (.tup [.l 117,.call 21 [.l 119],.call 21 [.b .Add (.l 119) (.str [32])]]) [] [120])) (La Sv low sh rs Lb) Kx=some (tl,K4):=by
  refine aH (bS y3 rfl (by simp) ?_)
  have it:∀ (j:Nat) (b:Bool),run (m+9) 36 [.obj i1,.obj j] K4=some (.bool b,K4)->jx ⟨run (m+9)⟩ (.meth 36 (.l 120) [.l 106]) (.nm 106) [] (aX (La Sv low sh rs Lb) [120]) (.obj j) K4=some ([.bool b],K4):=λj b hq=>
   lK (KC:=[(120,.obj i1),(106,.obj j)]) rfl (fc (x:=.obj i1) rfl PT.recv (P.e1 rfl) hq)
  exact fQ (ys:=[.bool false]) (zs:=[.bool true,.bool false]) rfl (it w false q1) (fQ (ys:=[.bool true]) (zs:=[.bool false]) rfl (it i2 true q2) (fQ (ys:=[.bool false]) (zs:=[]) rfl (it i3 false q3) (wK rfl)))
 have y5:aa ⟨run (m+9)⟩ (.new false (.cat (.new false (.comp (.isTy (.l 195) .bool false) (.nm 195) (.l 121) [] [])) (.l 121))) (La Sv low sh rs Lw) K4=some (.lst ([.bool true,.bool true,.bool true]++[.bool false,.bool true,.bool false]),K4):=rfl;have c5:bJ K4 .NotEq (.lst ([.bool true,.bool true,.bool true]++[.bool false,.bool true,.bool false])) (.lst [.bool true,.bool true,.bool true,.bool false,.bool true,.bool false])=some false:=rfl;refine⟨.obj i1,tl,K4,?_,LI3,ww⟩;refine(ae (KC:=La Sv low sh rs KZ) (aE y1 rfl)).trans ?_;refine(ae (KC:=La Sv low sh rs Lb) (aE y2 rfl)).trans ?_;refine(ae (KC:=La Sv low sh rs Lw) (aE y4 rfl)).trans ?_;exact(ae (bG (bF y5 rfl c5))).trans bB
theorem IH (m:Nat)(hp:MD rs L e u)(ho:Li rs)(LP:cs.length=5)(hl:low<30)(K8:sh<5000){st:St}(h:LI st cs rs L e u B)(hc:dQ B=e){w:Nat}(hw:Ws st w (L.sum+L.length+3) (L.length+1) 2 (aI (0::L))){τ:Loc} :
  ∃ (B':dK) (Kw:St),cw ⟨run (m+9)⟩ sG (La Sv low sh rs (Mr v w L e τ)) st=some (.next,La Sv low sh rs (Mr v w L e τ),Kw)/\LI Kw cs rs L e u B':=by
 have KL:=xz h.ok hc;have QD:=hp.sm;have hg:ly (eQ rs) (fF L) u 31 (dQ B) [0,0,0]=true:=by rw[hc];exact hp.bw
 refine uR (AH (c:=(cs.getD 4 0).fdiv 7) (m+5) h.hb (rv:=.lst ((eQ rs).map aV)) (.inl rfl) (by simp) (uI ho) h.ok (by exact yt) hl K8 hg) λKx B' x k NG Pj NS Nd=>?_;have h1:=h.kp5 k NG Pj
 have w1:=hw.mono k λj hj=>by
  rw[mem_singleton]at hj;rw[hj];exact⟨_,h.hb.c⟩
 refine cV (zc (m+7) NG Pj) λKy x9 k2 w2=>?_;have h2:=h1.kp k2;have w12:=w1.mono k2 (by simp)
 have d7:aK .FloorDiv (.int (cs.getD 4 0)) (.int 7)=some (.int ((cs.getD 4 0).fdiv 7)):=by
  exact fO ⟨by decide,la (by decide)⟩
 have y:aa ⟨run (m+9)⟩ (.call 10 [.l 101,.l 115,.l 107,.l 103,.b .FloorDiv (.sub (.l 87) (.int 4)) (.int 7)]) (La Sv low sh rs (Mr v w L e τ)) st=some (.lst (ah u),Kx):=
  be (fA (v:=.obj 7) rfl (fA (v:=.lst ((eQ rs).map aV)) rfl (e3 (x:=.int low) (y:=.int sh) rfl rfl (aj (bX rfl rfl (mM LP h.c0)) rfl d7)))) x
 have hn:aI (0::cj B')=aI (0::L):=by
  apply pN;intro k;rw[count_cons,count_cons];congr 1;by_cases hk:k<7
  ·have e1:=gy B' hk
   have e2:(fF L).getD k 0=L.count k:=by
    rw[fF,getD_eq_getElem?_getD,getElem?_map,getElem?_range hk];rfl
   rw[NS,e2]at e1;exact e1.symm
  ·have z1:(cj B').count k=0:=count_eq_zero.mpr λhm=>by
    simp only[cj,mem_map]at hm;refine ak hm ?_;clear hm;rintro p Ol rfl;have:=Pj.2 p Ol;exact not_succ_le_zero 0 (Q2 0x61141104711110011111103 [_] (not_lt.mp hk) this.2 rfl)
   have z2:L.count k=0:=count_eq_zero.mpr λhm=>by have:=hp.sz k hm;exact not_succ_le_zero 0 (Q2 0x61141104711110011111103 [_] (not_lt.mp hk) this.2 rfl)
   rw[z1,z2]
 have q:=sS (m+8) w2 w12;rw[decide_eq_true ⟨hn,rfl⟩]at q
 have y2:aa ⟨run (m+9)⟩ (.meth 36 (.call 9 [.l 101]) [.l 117]) (La Sv low sh rs (Mr v w L e τ)) Kx=some (.bool true,Ky):=
  fc (be (vs:=[.obj 7]) rfl x9) w2.recv (vs:=[.obj w]) rfl q
 exact⟨B',Ky,(ae (bG (um (bF y rfl (xx h1.c4)) (fk (CJ y2 true) rfl)))).trans bB,h2⟩
end
noncomputable def dX (W:Nat)(a:Nat)(ks:List Nat):Nat:=ks.foldl (λa k=>a*(2^(W*k)-1)) a
noncomputable def iR (rs:bU):List Nat:=rs.map λx=>x.p*x.q
noncomputable def eR (rs:bU)(W:Nat):Nat:=dX W (2^(W*(54-(iR rs).sum))) (iR rs)
noncomputable def dE (W:Nat):Nat:=dX W 1 (range' 1 9)
theorem qc (W:Nat):∀ (ks:List Nat) (a N:Nat),a<2^N->dX W a ks<2^(N+W*ks.sum):=by
 intro ks
 induction ks with
 |nil=>
  intro a N h;simpa [dX] using h
 |cons k ks ih=>
  intro a N h;have P:0<2^(W*k):=pow_pos (by decide)
  have h2:a*(2^(W*k)-1)<2^(N+W*k):=by
   rw[pow_add];have:a*(2^(W*k)-1)<=a*2^(W*k):=mul_le_mul_left _ (by exact Gm);exact lt_of_le_of_lt this (Nat.mul_lt_mul_of_pos_right h P)
  have:=ih (a*(2^(W*k)-1)) (N+W*k) h2;rw[sum_cons,mul_add,← add_assoc];exact this
theorem xL (W k:Nat):((2^(W*k)-1:Nat):Int)=((2^W:Nat):Int)^k-1:=by
 have P:0<2^(W*k):=pow_pos (by decide)
 have e:((2^W:Nat):Int)^k=((2^(W*k):Nat):Int):=by
  rw[Nat.pow_mul,Int.natCast_pow (2^W) k]
 rw[e];exact ofNat_sub P
theorem th (W:Nat):∀ (ks:List Nat) (p:List Int) (a:Nat),ev ((2^W:Nat):Int) p=(a:Int)->ev ((2^W:Nat):Int) (ks.foldl (λa k=>rM a (Fn k)) p)=((dX W a ks:Nat):Int):=by
 intro ks
 induction ks with
 |nil=>
  intro p a h;exact h
 |cons k ks ih=>
  intro p a h;rw[foldl_cons];have:dX W a (k::ks)=dX W (a*(2^(W*k)-1)) ks:=rfl;rw[this];refine ih _ _ ?_;rw[rN,h,CE,← xL,natCast_mul]
theorem zG (rs:bU)(W:Nat):ev ((2^W:Nat):Int) (pY rs)=((eR rs W:Nat):Int):=by
 refine th W _ _ _ ?_;rw[td,Nat.pow_mul,Int.natCast_pow (2^W)];rfl
theorem xM (W:Nat):ev ((2^W:Nat):Int) ip=((dE W:Nat):Int):=by
 refine th W _ _ _ ?_;simp[ev]
theorem CL (n:Nat):∀ (ds:List Nat),ev ((2^n:Nat):Int) (ds.map λk:Nat=>(k:Int))=((num n ds:Nat):Int):=by
 intro ds
 induction ds with
 |nil=>
  exact rfl
 |cons d ds ih=>
  have e2:num n (d::ds)=num n ds*2^n+d:=rfl;rw[map_cons,ev,ih,e2,Int.natCast_add,natCast_mul,Int.mul_comm];lia
theorem xN (n:Nat):∀ (ds:List Nat),(∀ d∈ds,d<2^n)->cp (num n ds) n ds.length=ds:=by
 intro ds
 induction ds with
 |nil=>
  intro _;exact rfl
 |cons d ds ih=>
  intro h;have hd:=h d (by simp);have ih:=ih λx hx=>h x (by simp[hx]);have P:0<2^n:=pow_pos (by decide)
  have e2:num n (d::ds)=d+2^n*num n ds:=by
   have:num n (d::ds)=num n ds*2^n+d:=rfl;rw[this,mul_comm];exact Hb
  have q1:(d+2^n*num n ds)/2^n=num n ds:=by
   rw[Nat.add_mul_div_left _ _ P,div_eq_of_lt hd,zero_add]
  rw[e2,length_cons,cp,List.range_succ_eq_map,map_cons,map_map];congr 1
  ·unfold dg;rw[mul_zero,Nat.pow_zero,Nat.div_one,Nat.add_mul_mod_self_left,mod_eq_of_lt hd]
  ·refine Eq.trans ?_ ih;rw[cp];apply map_congr_left;intro j _;have:=nV (d+2^n*num n ds) n 1 j;rw[mul_one,add_comm 1 j,q1]at this;exact this.symm
structure Quo (rs:bU)(W:Nat):Prop where
 up:0<dE W
 bu:bl (dE W)<=30000
 bo:bl (eR rs W)<=40000
 bq:bl (eR rs W/dE W)=9*W+1
 m:(bl (eR rs W)+bl (dE W)-1)/bl (dE W)<=64
 dg:cp (eR rs W/dE W) W 10=(cq rs).reverse
 bh:bl (eR rs W/dE W/2)=9*W
 mq:bl (eR rs W/dE W)+bl (dE W)<=40000
theorem AM {a k:Nat}(h1:2^k<=a)(h2:a<2^(k+1)):bl a=k+1:=by
 refine le_antisymm (dc h2) ?_;have:=(Nat.pow_lt_pow_iff_right (by decide:1<2)).mp (lt_of_le_of_lt h1 (fY a));exact bz
theorem mO (W:Nat)(hW:1<=W):∀ (ks:List Nat) (a:Nat),(∀ k∈ks,1<=k)->a<=dX W a ks:=by
 intro ks
 induction ks with
 |nil=>
  intro a _;exact le_refl _
 |cons k ks ih=>
  intro a h;have hk:=h k (by simp)
  have h1:1<=2^(W*k)-1:=by
   have:2^1<=2^(W*k):=pow_le_pow_right (by decide) (mul_le_mul hW hk);exact Q2 0x511140112521111041111103 [_,_] this (sub_add_cancel (Q1 0x421111041111102 [_] this rfl)) rfl
  have h2:a<=a*(2^(W*k)-1):=Nat.le_mul_of_pos_right a h1;exact le_trans h2 (ih _ λx hx=>h x (by simp[hx]))
theorem Ks {rs:bU}(hr:rs∈cS){W:Nat}(h8:8<=W)(hW:W<=507):Quo rs W:=by
 have hp:=ka rs hr;simp only[lD,and_eq_true]at hp;refine av hp ?_;clear hp;rintro⟨⟨⟨⟨_,_⟩,a3⟩,a4⟩,a5⟩ a6;have KL:(cq rs).length=10:=Nat.eq_of_beq_eq_true a3
 have hd:∀ d∈cq rs,d<2^W:=λd hd=>by
  have h1:=le_of_ble_eq_true ((all_eq_true.mp a4) d hd);have h2:2^8<=2^W:=pow_le_pow_right (by decide) h8;have:(2:Nat)^8=256:=rfl;exact Hi
 have hX:(256:Int)<=((2^W:Nat):Int):=by
  have h2:2^8<=2^W:=pow_le_pow_right (by decide) h8;have:(2:Nat)^8=256:=rfl;exact uM
 have hS:(iR rs).sum<=54:=le_of_ble_eq_true a6;have pd:=xu hr hX;have ew:ev ((2^W:Nat):Int) (pZ rs)=((num W (cq rs).reverse:Nat):Int):=CL W _;rw[ew,xM,zG]at pd
 have p20:eR rs W<num W (cq rs).reverse*dE W+dE W:=by
  have:=pd.2;rw[← natCast_mul]at this;exact ofNat_lt.mp this
 let Q:=num W (cq rs).reverse;let U:=dE W;let O:=eR rs W;have up:0<U:=lt_of_lt_of_le (by decide:0<1) (mO W (by exact zW) (range' 1 9) 1 (by decide))
 have p1:Q*U<=O:=by
  have:=pd.1;rw[← natCast_mul]at this;exact ofNat_le.mp this
 have p2:O<Q*U+U:=p20
 have hq:O/U=Q:=by
  have:=(Nat.div_mod_unique up (a:=O) (c:=O-Q*U) (d:=Q)).mpr ⟨by rw[mul_comm U];exact I8,by exact Q2 0x6740111570111601105111401103 [_,_,_,_] p2 (sub_add_cancel (Q1 0x54110541102 [_,_] p1 rfl)) rfl⟩;exact this.1
 have O0:(cq rs).reverse.length=10:=by rw[length_reverse,KL]
 have QG:cp Q W 10=(cq rs).reverse:=by
  have:=xN W (cq rs).reverse λd h=>hd d (mem_reverse.mp h);rw[O0]at this;exact this
 have Pl:∃ A:List Nat,(cq rs).reverse=A++[1]/\A.length=9/\∀ d∈A,d<2^W:=by
  cases hw:cq rs with
  |nil=>rw[hw]at KL;cases KL
  |cons d ds=>
   have h1:d=1:=by
    have:=Nat.eq_of_beq_eq_true a5;rw[hw]at this;exact this
   refine⟨ds.reverse,by rw[h1,reverse_cons],?_,λx hx=>hd x (by rw[hw];simp at hx ⊢;exact .inr hx)⟩;rw[hw]at KL;rw[length_reverse];simp at KL;exact KL
 refine cV Pl ?_;clear Pl;intro A hA RK hAd;have PU:=xn W A hAd;rw[RK]at PU
 have hQ:Q=2^(W*9)+num W A:=by
  show num W (cq rs).reverse=_;rw[hA,tb,RK];have:num W [1]=1:=by simp[num]
  rw[this,one_mul]
 have e9:W*9=9*W:=mul_comm _ _;rw[e9]at hQ PU;have bq:bl Q=9*W+1:=AM (by exact Q1 0x6405112541102 [_,_,_] hQ rfl) (by rw[pow_succ];exact Q2 0x65041115111601105213111401103 [_,_,_] PU hQ rfl)
 have bh:bl (Q/2)=9*W:=by
  have h9:9*W=(9*W-1)+1:=by exact le_antisymm (Q1 0x4912111501121115049121102 [_,_] (sub_add_cancel (Q1 0x481111049121111102 [_] h8 rfl)) rfl) (Q1 0x5912111401115912111401102 [_,_] (sub_add_cancel (Q1 0x481111049121111102 [_] h8 rfl)) rfl)
  have e:2^(9*W)=2^(9*W-1)*2:=by
   have:=pow_succ (n:=2) (m:=9*W-1);rw[succ_eq_add_one,← h9]at this;exact this
  have:=AM (a:=Q/2) (k:=9*W-1) ((Nat.le_div_iff_mul_le (by decide)).mpr (by rw[← e];exact qj (le_add_right _ _) hQ.symm)) (by rw[← h9];exact Q3 0x784212011165071115111601105111402104 [_,_,_,_,_] PU hQ (div_add_mod _ _) rfl);rw[← h9]at this;exact this
 have uL:U<2^(1+W*45):=qc W (range' 1 9) 1 1 (by decide)
 have oL:O<2^((W*(54-(iR rs).sum)+1)+W*(iR rs).sum):=qc W (iR rs) _ _ (by
  exact Nat.pow_lt_pow_right (by decide) (by exact A0))
 have oE:(W*(54-(iR rs).sum)+1)+W*(iR rs).sum=W*54+1:=by
  have:W*(54-(iR rs).sum)+W*(iR rs).sum=W*54:=by
   rw[← mul_add,sub_add_cancel hS]
  exact le_antisymm (Q1 0x6362354011111163623051114001102 [_,_,_] this rfl) (Q1 0x4362365011261115001114362301102 [_,_,_] this rfl)
 rw[oE]at oL;have RL:bl U<=1+W*45:=dc uL;have RM:bl O<=W*54+1:=dc oL
 have ulow:2^W<=U:=by
  have e:U=dX W 1 (range' 1 8)*(2^(W*9)-1):=rfl;have h1:1<=dX W 1 (range' 1 8):=mO W (by exact zW) _ 1 (by decide)
  have h2:2^W<=2^(W*9)-1:=by
   have:2^(W+1)<=2^(W*9):=pow_le_pow_right (by decide) (by exact Q1 0x48111104913111401102 [_] h8 rfl);have P:0<2^W:=pow_pos (by decide);rw[pow_succ]at this;exact Q2 0x11150611064213110542103 [_,_,_] this Gx rfl
  rw[e];exact le_trans h2 (Nat.le_mul_of_pos_left _ h1)
 have N5:W<bl U:=(Nat.pow_lt_pow_iff_right (by decide:1<2)).mp (lt_of_le_of_lt ulow (fY U))
 have hm:(bl O+bl U-1)/bl U<=64:=by
  have:bl O+bl U-1<65*bl U:=by exact Q3 0x560111401115111703620111736230611054122111401104 [_,_,_,_] RM N5 (sub_add_cancel (Q1 0x5111601105401111102 [_,_,_] N5 rfl)) rfl
  have:=(div_lt_iff_lt_mul (by exact zW)).mpr this;exact Gj
 have r1:bl U<=30000:=by exact Q2 0x52d23111041101fb3152d2075304141103 [_,_] hW RL rfl
 have r2:bl O<=40000:=by exact Q2 0x11153623041101fb31536209c404141103 [_,_] hW RM rfl
 refine⟨up,r1,r2,?_,hm,?_,?_,?_⟩
 ·show bl (O/U)=_;rw[hq];exact bq
 ·show cp (O/U) W 10=_;rw[hq];exact QG
 ·show bl (O/U/2)=_;rw[hq];exact bh
 ·show bl (O/U)+bl U<=_;rw[hq,bq];exact Q2 0x42d23111051101fb31436209c404151114912001103 [_,_] hW RL rfl
theorem zH (Q W j:Nat)(hW:1<=W):dg (Q/2) W j=dg Q W j/2+dg Q W (j+1)%2*2^(W-1):=by
 have e:2^W=2*2^(W-1):=by
  have:=pow_succ (n:=2) (m:=W-1);rw[succ_eq_add_one,sub_add_cancel hW]at this;exact le_antisymm (Q1 0x52134111521241102 [_,_] this rfl) (Q1 0x42135112542121102 [_,_] this rfl)
 have P:0<2^(W-1):=pow_pos (by decide);unfold dg
 have h1:Q/2/2^(W*j)=Q/2^(W*j)/2:=by
  rw[Nat.div_div_eq_div_mul,Nat.div_div_eq_div_mul,mul_comm]
 have h2:Q/2^(W*(j+1))=Q/2^(W*j)/2^W:=by
  rw[mul_add,mul_one,pow_add,Nat.div_div_eq_div_mul]
 rw[h1,h2];generalize Q/2^(W*j)=y;generalize hX:2^(W-1)=X at *;rw[e];have d1:=div_add_mod y (2*X);have m1:y%(2*X)<2*X:=mod_lt _ (by exact Q1 0x411101011042121110101102 [_] P rfl);generalize y/(2*X)=h at *;generalize y%(2*X)=f at *;have m2:h%2%2=h%2:=mod_mod _ _;have m3:h%(2*X)%2=h%2:=Nat.mod_mul_right_mod h 2 X;rw[m3];have hh:=div_add_mod h 2
 have key:y/2=(2*X)*(h/2)+(h%2*X+f/2):=by
  have e1:2*X*h=2*(2*X*(h/2)+h%2*X):=by
   have:h=2*(h/2)+h%2:=hh.symm;have e2:2*X*h=2*X*(2*(h/2)+h%2):=by rw[← this]
   rw[e2,mul_add,Nat.mul_left_comm (2*X) 2,mul_assoc 2 X (h%2),mul_comm X (h%2),← mul_add]
  rw[← d1,e1];exact le_antisymm (Q3 0x211111a01109a72120112965021208421201117605042104 [_,_,_,_,_,_,_] (div_add_mod _ _) (div_add_mod _ _) (mod_lt _ (by decide)) rfl) (Q3 0x9a6212011121111180110954021208721201127650402104 [_,_,_,_,_,_,_] (div_add_mod _ _) (mod_lt _ (by decide)) (div_add_mod _ _) rfl)
 have lt:h%2*X+f/2<2*X:=by
  have:h%2=0\/h%2=1:=by exact I0
  rcases this with q |q<;>rw[q]<;>first |exact GO (by assumption) |exact GP (by assumption)
 rw[key,Nat.mul_add_mod,mod_eq_of_lt lt];exact Hb
theorem xO {a b:Nat}(h:bl a+bl b<=134217728):aK .Mult (.int a) (.int b)=some (.int ((a*b:Nat):Int)):=by
 exact if_pos (nU h)
theorem ti {a b:Nat}(h:bl a+bl b<=134217728):lN .Mult (.int a) (.int b)=some (.int ((a*b:Nat):Int)):=cC (if_pos (nU h))
section
variable {cs:List Int}{rs:bU}{L e u:List Nat}{B:dK}{low sh:Nat}{Sv:AV}
noncomputable def Lx (Sv:AV)(low sh:Nat)(rs:bU)(v:AV)(w:Nat)(L e:List Nat)(x y:AV)(W a:Nat)(τ:Loc):Loc:=La Sv low sh rs (Mr v w L e ((119,.str (typ e))::(120,x)::(121,y)::(122,.int W)::(123,.int a)::τ))
variable {v x y:AV}{w W:Nat}
theorem lH (m:Nat){st:St}(hW:W<=507){ok:St->Bool}(hk:ok st=true):∀ (xs:List Ru) (a N:Nat) (τ:Loc),(∀ x∈xs,De x)->a<2^N->N+20000*xs.length<=100000 ->
  ∃ KU,bc ok (bW ⟨run (m+9)⟩ (.tup [91,80,75,163]) wH) (xs.map aV) (Lx Sv low sh rs v w L e x y W a τ) st=some (.next,Lx Sv low sh rs v w L e x y W (dX W a (xs.map λx=>x.p*x.q)) KU,st):=by
 intro xs
 induction xs with
 |nil=>
  intro a N τ _ _ _;exact⟨τ,ig hk⟩
 |cons z xs ih=>
  intro a N τ hx ha hN;have hz:=hx z (by simp);let KZ:=ai (ai (ai (ai τ 91 (.int z.p)) 80 (.int z.q)) 75 (.int z.r)) 163 (.int z.s);have hb:aQ (Lx Sv low sh rs v w L e x y W a τ) (.tup [91,80,75,163]) (aV z)=some (Lx Sv low sh rs v w L e x y W a KZ):=rfl
  have g91:af (Lx Sv low sh rs v w L e x y W a KZ) 91=some (.int z.p):=by
   show af KZ 91=_;exact(ag _ (by decide) _).trans ((ag _ (by decide) _).trans ((ag _ (by decide) _).trans (ab _ _ _)))
  have OF:af (Lx Sv low sh rs v w L e x y W a KZ) 80=some (.int z.q):=by
   show af KZ 80=_;exact(ag _ (by decide) _).trans ((ag _ (by decide) _).trans (ab _ _ _))
  have O7:W*z.p*z.q<=20000:=by
   have h1:W*z.p<=507*6:=mul_le_mul hW hz.1.2;have h2:W*z.p*z.q<=507*6*6:=mul_le_mul h1 hz.2.2.1.2;exact bN
  have hp6:W*z.p<=507*6:=mul_le_mul hW hz.1.2;have m1:=dD W z.p (by exact dW);have m2:=dD (W*z.p) z.q (by exact dW);have P:0<2^(W*z.p*z.q):=pow_pos (by decide)
  have y1:aa ⟨run (m+9)⟩ (.b .Sub (.b .LShift (.int 1) (.b .Mult (.b .Mult (.l 122) (.l 91)) (.l 80))) (.int 1)) (Lx Sv low sh rs v w L e x y W a KZ) st=some (.int ((2^(W*z.p*z.q)-1:Nat):Int),st):=
   aj (aj (x:=.int 1) (y:=.int ((W*z.p*z.q:Nat):Int)) rfl (aj (aj (x:=.int W) rfl (ay g91) m1) (ay OF) m2) (gR (by exact bN))) rfl (iO _)
  have b1:bl (2^(W*z.p*z.q)-1)<=W*z.p*z.q:=dc (by exact Q1 0x5111401115111401102 [_,_] (sub_add_cancel (Q1 0x411101011041111102 [_] P rfl)) rfl);have b2:bl a<=N:=dc ha;have MT:(z::xs).length=xs.length+1:=rfl;rw[MT]at hN;have am:=ti (a:=a) (b:=2^(W*z.p*z.q)-1) (by exact Q4 0x64110851104e20418110186a051111704e2042601108000000715401105 [_,_,_,_,_] hN O7 b1 b2 rfl)
  refine aw (ih (a*(2^(W*z.p*z.q)-1)) (N+W*z.p*z.q) KZ (λt ht=>hx t (by simp[ht])) (by
   rw[pow_add]
   exact lt_of_le_of_lt (mul_le_mul_left _ (by exact Gm:2^(W*z.p*z.q)-1<=2^(W*z.p*z.q))) (Nat.mul_lt_mul_of_pos_right ha P)) (by exact Q2 0x4e20415110186a051111604e204240110186a05164e204254001103 [_,_,_] hN O7 rfl)) λKU r=>?_
  refine⟨KU,?_⟩;rw[map_cons,map_cons]
  have e1:dX W a (z.p*z.q::xs.map λx=>x.p*x.q)=dX W (a*(2^(W*z.p*z.q)-1)) (xs.map λx=>x.p*x.q):=by
   have:dX W a (z.p*z.q::xs.map λx=>x.p*x.q)=dX W (a*(2^(W*(z.p*z.q))-1)) (xs.map λx=>x.p*x.q):=rfl;rw[this,mul_assoc]
  rw[e1];exact(bR hk ((aR hb).trans ((ae (KC:=Lx Sv low sh rs v w L e x y W (a*(2^(W*z.p*z.q)-1)) KZ) (jQ rfl y1 am)).trans bB))).trans r
theorem lI (m:Nat){st:St}{a:Nat}(hW:W<=507){ok:St->Bool}(hk:ok st=true):∀ (ks:List Nat) (b N:Nat) (v:AV) (τ:Loc),(∀ k∈ks,k<=9)->b<2^N->N+5000*ks.length<=100000->af τ 124=some (.int b) ->
  ∃ (v':AV) (KU:Loc),bc ok (bW ⟨run (m+9)⟩ (.nm 61) wI) (ks.map λk:Nat=>AV.int k) (Lx Sv low sh rs v w L e x y W a τ) st=some (.next,Lx Sv low sh rs v' w L e x y W a KU,st)/\af KU 124=some (.int (dX W b ks:Nat)):=by
 intro ks
 induction ks with
 |nil=>
  intro b N v τ _ _ _ hg;exact⟨v,τ,ig hk,hg⟩
 |cons k ks ih=>
  intro b N v τ hx ha hN hg;have RO:=hx k (by simp);have RP:W*k<=507*9:=mul_le_mul hW RO;have m1:=dD W k (by exact dW);have P:0<2^(W*k):=pow_pos (by decide);have hb:aQ (Lx Sv low sh rs v w L e x y W a τ) (.nm 61) (.int k)=some (Lx Sv low sh rs (.int k) w L e x y W a τ):=rfl
  have y1:aa ⟨run (m+9)⟩ (.b .Sub (.b .LShift (.int 1) (.b .Mult (.l 122) (.l 61))) (.int 1)) (Lx Sv low sh rs (.int k) w L e x y W a τ) st=some (.int ((2^(W*k)-1:Nat):Int),st):=
   aj (aj (x:=.int 1) (y:=.int ((W*k:Nat):Int)) rfl (aj (x:=.int W) (y:=.int k) rfl rfl m1) (gR (by exact bN))) rfl (iO _)
  have b1:bl (2^(W*k)-1)<=W*k:=dc (by exact Q1 0x5111401115111401102 [_,_] (sub_add_cancel (Q1 0x411101011041111102 [_] P rfl)) rfl);have b2:bl b<=N:=dc ha;have MT:(k::ks).length=ks.length+1:=rfl;rw[MT]at hN;have am:=ti (a:=b) (b:=2^(W*k)-1) (by exact Q4 0x641108511011d3418110186a05111170138842601108000000715401105 [_,_,_,_,_] hN RP b1 b2 rfl);let KZ:=ai τ 124 (.int ((b*(2^(W*k)-1):Nat):Int))
  obtain⟨v',KU,r,hg'⟩:=ih (b*(2^(W*k)-1)) (N+W*k) (.int k) KZ (λt ht=>hx t (by simp[ht])) (by
   rw[pow_add]
   exact lt_of_le_of_lt (mul_le_mul_left _ (by exact Gm:2^(W*k)-1<=2^(W*k))) (Nat.mul_lt_mul_of_pos_right ha P)) (by exact Q2 0x11d3415110186a0511116013884240110186a051613884254001103 [_,_,_] hN RP rfl) (ab _ _ _)
  refine⟨v',KU,?_,hg'⟩;rw[map_cons];have Om:af (Lx Sv low sh rs (.int k) w L e x y W a τ) 124=some (.int b):=hg;exact(bR hk ((aR hb).trans ((ae (KC:=Lx Sv low sh rs (.int k) w L e x y W a KZ) (jQ Om y1 am)).trans bB))).trans r
theorem II (m:Nat)(hr:rs∈cS)(ho:Li rs){st:St}(h:LI st cs rs L e u B) :
  ∃ (W:Nat) (v':AV) (τ:Loc),8<=W/\W<=507/\cw ⟨run (m+9)⟩ sH (La Sv low sh rs (Mr v w L e [(119,.str (typ e)),(120,x),(121,y)])) st=some (.next,Lx Sv low sh rs v' w L e x y W (eR rs W) τ,st)/\af τ 124=some (.int (dE W:Nat)):=by
 refine cV (xw cs.sum 20 500 (by decide) (by decide)) λk hk a1 a2=>?_;let W:=8+k;have hW:W<=507:=by simp only[W];exact JW
 have hS:(iR rs).sum<=54:=by
  have hp:=ka rs hr;simp only[lD,and_eq_true]at hp;exact le_of_ble_eq_true hp.2
 have OG:RV st (.obj 1) rs:=.inr ⟨1,rfl,h.c1⟩
 have y1:aa ⟨run (m+9)⟩ (.b .Add (.int 8) (.b .Mod (.b .FloorDiv (.bi .sum [.l 87]) (.int 20)) (.int 500))) (La Sv low sh rs (Mr v w L e [(119,.str (typ e)),(120,x),(121,y)])) st=some (.int W,st):=
  aj (x:=.int (8:Nat)) rfl (aj (aj (dq (vs:=[.obj 0]) rfl (lE h.c0)) rfl a1) rfl a2) (cU 8 k)
 let KC:=La Sv low sh rs (Mr v w L e [(119,.str (typ e)),(120,x),(121,y),(122,.int W)])
 have c1:aa ⟨run (m+9)⟩ (.new false (.comp (.b .Mult (.l 91) (.l 80)) (.tup [91,80,75,163]) (.l 114) [] [])) KC st=some (.lst (ah (iR rs)),st):=by
  have e1:ah (iR rs)=rs.map λx=>AV.int (x.p*x.q:Nat):=by simp only[ah,iR,map_map];rfl
  rw[e1];refine aH (bS (v:=.obj 1) rfl OG.items (by rw[length_map,ho.1];decide) (aD aV _ OG.stands rs λz hz=>?_));have:=(ho.2 z hz).1.2;exact lK (KC:=[(91,.int z.p),(80,.int z.q),(75,.int z.r),(163,.int z.s)]) rfl (aj (x:=.int z.p) (y:=.int z.q) rfl rfl (dD z.p z.q (by exact dW)))
 have s1:gA st .sum [.lst (ah (iR rs))]=some (.int ((iR rs).sum:Nat),st):=by
  exact jV rfl (jI (cL _) (by rw[nT]))
 have sb:aK .Sub (.int 54) (.int ((iR rs).sum:Nat))=some (.int ((54-(iR rs).sum:Nat):Int)):=by
  have:(54:Int)-((iR rs).sum:Nat)=((54-(iR rs).sum:Nat):Int):=by exact C9
  exact congrArg (λx=>some (AV.int x)) this
 have hW54:W*(54-(iR rs).sum)<=507*54:=mul_le_mul hW (by exact Gm);have mu:=dD W (54-(iR rs).sum) (by exact dW)
 have y2:aa ⟨run (m+9)⟩ (.b .LShift (.int 1) (.b .Mult (.l 122) (.b .Sub (.int 54) (.bi .sum [.new false (.comp (.b .Mult (.l 91) (.l 80)) (.tup [91,80,75,163]) (.l 114) [] [])])))) KC st=some (.int ((2^(W*(54-(iR rs).sum)):Nat):Int),st):=by
  have:=gR (k:=W*(54-(iR rs).sum)) (by exact bN);rw[one_mul]at this;exact aj (x:=.int 1) (y:=.int ((W*(54-(iR rs).sum):Nat):Int)) rfl (aj (x:=.int W) rfl (aj rfl (dq (P.e1 c1) s1) sb) mu) this
 refine aw (lH (Sv:=Sv) (low:=low) (sh:=sh) (rs:=rs) (L:=L) (e:=e) (v:=v) (x:=x) (y:=y) (w:=w) m (st:=st) hW (ok:=λst=>an st (.obj 1) (rs.map aV)) OG.stands rs (2^(W*(54-(iR rs).sum))) (W*(54-(iR rs).sum)+1) [] ho.2 (Nat.pow_lt_pow_right (by decide) (by exact A0)) (by rw[ho.1];exact I4)) λKZ r1=>?_;let Lb:=ai KZ 124 (.int ((1:Nat):Int));refine dh (lI (Sv:=Sv) (low:=low) (sh:=sh) (rs:=rs) (L:=L) (e:=e) (x:=x) (y:=y) (w:=w) (a:=eR rs W) m (st:=st) hW (ok:=λst=>an st (.rng (1:Nat) ((1+9:Nat):Int)) ((range' 1 9).map λk:Nat=>AV.int k)) rfl (range' 1 9) 1 1 v Lb (by decide) (by decide) (by simp) (ab _ _ _)) λv' KU r2 hg=>?_;refine⟨W,v',KU,by simp only[W];exact Jb,hW,?_,hg⟩;refine(ae (KC:=KC) (aE y1 rfl)).trans ?_;refine(ae (KC:=Lx Sv low sh rs v w L e x y W (2^(W*(54-(iR rs).sum))) []) (aE y2 rfl)).trans ?_;refine(ae (KC:=Lx Sv low sh rs v w L e x y W (eR rs W) KZ) (fy (v:=.obj 1) rfl OG.items r1)).trans ?_;refine(ae (KC:=Lx Sv low sh rs v w L e x y W (eR rs W) Lb) (aE (v:=.int ((1:Nat):Int)) rfl rfl)).trans ?_;exact(ae (fy (dq (e2 (x:=.int (1:Nat)) (y:=.int (10:Nat)) rfl rfl) (fE 1 10 (by decide) (by decide))) (eP 1 9 (by decide)) r2)).trans bB
theorem IJ (m:Nat){O U:Nat}(hU:0<U)(hbu:bl U<=30000)(hm:(bl O+bl U-1)/bl U<=64)(hmq:bl (O/U)+bl U<=40000){st:St}(h:LI st cs rs L e u B){τ:Loc}(hg:af τ 124=some (.int U)) :
  ∃ (KU:Loc) (Kw:St),cw ⟨run (m+9)⟩ sI (Lx Sv low sh rs v w L e x y W O τ) st=some (.next,Lx Sv low sh rs v w L e x y W O KU,Kw)/\LI Kw cs rs L e u B/\af KU 125=some (.tup [.int ((O/U:Nat):Int),.int ((O%U:Nat):Int)]):=by
 refine ak (Fk m O U hU hbu hm st) λKx x12 k1=>?_;have h1:=h.kp k1;let Q:=O/U;let pt:AV:=.tup [.int ((O/U:Nat):Int),.int ((O%U:Nat):Int)];let KZ:=ai τ 125 pt;let KC:=Lx Sv low sh rs v w L e x y W O KZ;have Om:af (Lx Sv low sh rs v w L e x y W O τ) 124=some (.int U):=hg
 have g124':af KC 124=some (.int U):=by
  show af KZ 124=_;exact(ag _ (by decide) _).trans hg
 have ME:af KC 125=some pt:=by
  show af KZ 125=_;exact ab _ _ _
 have y1:aa ⟨run (m+9)⟩ (.call 12 [.l 123,.l 124]) (Lx Sv low sh rs v w L e x y W O τ) st=some (pt,Kx):=be (e2 (x:=.int O) rfl (ay Om)) x12
 have y2:aa ⟨run (m+9)⟩ (.new false (.comp (.isTy (.l 198) .int false) (.nm 198) (.l 125) [] [])) KC Kx=some (.lst [.bool true,.bool true],Kx):=by
  refine aH (bS (ay ME) rfl (by simp) ?_);exact fQ (ys:=[.bool true]) (zs:=[.bool true]) rfl (lK rfl (wC (b:=true) lU rfl false)) (fQ (ys:=[.bool true]) (zs:=[]) rfl (lK rfl (wC (b:=true) lU rfl false)) (wK rfl))
 have c2:bJ Kx .NotEq (.lst [.bool true,.bool true]) (.lst [.bool true,.bool true])=some false:=rfl;have s0:∀ st,cB st pt (.int 0)=some (.int ((O/U:Nat):Int)):=λst=>rfl;have mm:=xO (a:=O/U) (b:=U) (by exact bN)
 have sb:aK .Sub (.int O) (.int ((O/U*U:Nat):Int))=some (.int ((O%U:Nat):Int)):=by
  have e:=div_add_mod O U;rw[mul_comm]at e;have:(O:Int)-((O/U*U:Nat):Int)=((O%U:Nat):Int):=yh (div_add_mod' ..);show some (AV.int ((O:Int)-((O/U*U:Nat):Int)))=_;rw[this]
 have y3:aa ⟨run (m+9)⟩ (.tup [.sub (.l 125) (.int 0),.b .Sub (.l 123) (.b .Mult (.sub (.l 125) (.int 0)) (.l 124))]) KC Kx=some (pt,Kx):=
  kZ (e2 (bX (ay ME) rfl (s0 _)) (aj (x:=.int O) rfl (aj (bX (ay ME) rfl (s0 _)) (ay g124') mm) sb))
 have c3:bJ Kx .NotEq pt pt=some false:=by
  have vv:ba 6 Kx pt=some (.tuple [.int ((O/U:Nat):Int),.int ((O%U:Nat):Int)]):=by
   simp only[pt,ba,map_cons,map_nil,aY,Option.map]
  rw[bJ,dB vv vv rfl];rfl
 refine⟨KZ,Kx,?_,h1,ab _ _ _⟩;exact(ae (KC:=KC) (aE y1 rfl)).trans ((ae (bG (um (bF y2 (aH (cK rfl)) c2) (bF (ay ME) y3 c3)))).trans bB)
theorem IK (m:Nat)(hr:rs∈cS)(ho:Li rs)(h8:8<=W)(hW:W<=507){Q Rm:Nat}(hbq:bl Q=9*W+1)(QG:cp Q W 10=(cq rs).reverse){O:Nat}{st:St}(h:LI st cs rs L e u B){τ:Loc}(hg:af τ 125=some (.tup [.int (Q:Int),.int (Rm:Int)])) :
  ∃ (KU:Loc) (Kw:St) (d:Nat),cw ⟨run (m+9)⟩ sJ (Lx Sv low sh rs v w L e x y W O τ) st=some (.next,Lx Sv low sh rs v w L e x y W O KU,Kw)/\af KU 125=some (.tup [.int (Q:Int),.int (Rm:Int)])/\af KU 126=some (.obj d)/\Kw[d]?=some (.list (ah (cp Q W 10))):=by
 have RQ:(bl Q+W-1)/W=10:=by
  rw[hbq,show 9*W+1+W-1=10*W by exact le_antisymm (Q1 0x5111591200111401115a1241102 [_,_] (sub_add_cancel (Q0 0x41114912001111101 [_] rfl)) rfl) (Q1 0x41114912001115011254a121102 [_,_] (sub_add_cancel (Q0 0x41114912001111101 [_] rfl)) rfl)];exact Nat.mul_div_cancel _ (by exact zW)
 have Pm:=ta (m+8) Q W (by exact bN) (by exact zW) (by rw[RQ];decide) st;rw[RQ]at Pm;let Kx:St:=st++[AO.list (ah (cp Q W 10))];let d:=st.length;have PV:Kx[d]?=some (.list (ah (cp Q W 10))):=aS _ _;have h1:LI Kx cs rs L e u B:=h.kp (Kp.app [] st _);have OG:RV Kx (.obj 1) rs:=.inr ⟨1,rfl,h1.c1⟩
 have x11:=Fe (m+7) OG (by rw[ho.1];decide) (λz h1 h2=>by
  have:=zv rs hr ⟨z-1,by exact Q2 0x5111401119115110911111401103 [_,_] h2 (sub_add_cancel (Q1 0x411111041111102 [_] h1 rfl)) rfl⟩;simp only at this;rw[show z-1+1=z by exact I8]at this
  exact this)
 let Ky:St:=Kx++[AO.list []]
 have e0:(bl 0+W-1)/W=0:=by
  have:bl 0=0:=rfl;rw[this];exact div_eq_of_lt (by exact Q1 0x5010111401115111401102 [_,_] (sub_add_cancel (Q1 0x481111040101111102 [_] h8 rfl)) rfl)
 have x0:=ta (m+8) 0 W (by exact bN) (by exact zW) (by rw[e0];decide) Kx;rw[e0]at x0;have QA:run (m+9) 16 [.int 0,.int W] Kx=some (.obj Kx.length,Ky):=x0;let KZ:=ai τ 126 (.obj d);let KC:=Lx Sv low sh rs v w L e x y W O KZ;have ME:af (Lx Sv low sh rs v w L e x y W O τ) 125=some (.tup [.int (Q:Int),.int (Rm:Int)]):=hg
 have Oo:af KC 126=some (.obj d):=by
  show af KZ 126=_;exact ab _ _ _
 have y1:aa ⟨run (m+9)⟩ (.call 16 [.sub (.l 125) (.int 0),.l 122]) (Lx Sv low sh rs v w L e x y W O τ) st=some (.obj d,Kx):=be (e2 (y:=.int W) (bX (ay ME) rfl rfl) rfl) Pm
 have y2:aa ⟨run (m+9)⟩ (.new false (.rev (.call 11 [.l 114]))) KC Kx=some (.lst (ah (cq rs).reverse),Kx):=by
  have hl:(ah (cq rs)).length<=1000000:=by
   have hp:=ka rs hr;simp only[lD,and_eq_true]at hp;have:=Nat.eq_of_beq_eq_true hp.1.1.1.2;rw[length_map,this];decide
  have e1:ah (cq rs).reverse=(ah (cq rs)).reverse:=by simp[ah]
  have hc:aa ⟨run (m+9)⟩ (.call 11 [.l 114]) KC Kx=some (.lst (ah (cq rs)),Kx):=be (vs:=[.obj 1]) rfl x11;rw[e1];refine aH ?_;refine jE hc ?_;exact jV (x:=ah (cq rs)) (k:=λxs=>if xs.length<=1000000 then some (xs.reverse,Kx) else none) rfl (if_pos hl)
 have c1:bJ Kx .NotEq (.obj d) (.lst (ah (cq rs).reverse))=some false:=by
  rw[← QG,bJ,dB (fT 5 Kx d _ PV) (eD 5 Kx _) (ke _)];rfl
 have y3:aa ⟨run (m+9)⟩ (.call 16 [.int 0,.l 122]) KC Kx=some (.obj Kx.length,Ky):=be (vs:=[.int 0,.int W]) rfl QA;have gd2:Ky[Kx.length]?=some (.list (ah [])):=aS _ _
 have c2:bJ Ky .NotEq (.obj Kx.length) (.lst [])=some false:=by
  show bJ Ky .NotEq (.obj Kx.length) (.lst (ah []))=some false;rw[bJ,dB (fT 5 Ky Kx.length [] gd2) (eD 5 Ky []) rfl];rfl
 refine⟨KZ,Ky,d,?_,(ag _ (by decide) _).trans hg,ab _ _ _,cz PV⟩;exact(ae (KC:=KC) (aE y1 rfl)).trans ((ae (bG (um (bF (ay Oo) y2 c1) (bF y3 (aH (cK rfl)) c2)))).trans bB)
noncomputable def jJ (F:List Nat)(W:Nat):List Nat:=(List.range 9).map λk=>F.getD k 0/2+F.getD (k+1) 0%2*2^(W-1)
theorem qd {a n m j:Nat}(h:j<m):(cp a n m).getD j 0=dg a n j:=by
 rw[cp,getD_eq_getElem?_getD,getElem?_map,getElem?_range h];rfl
theorem zI (Q W:Nat)(hW:1<=W):cp (Q/2) W 9=jJ (cp Q W 10) W:=by
 rw[jJ,cp];apply map_congr_left;intro k hk;have:=mem_range.mp hk;rw[zH Q W k hW,qd (by exact bN),qd (by exact dW)]
theorem IL (m:Nat)(h8:8<=W)(hW:W<=507){Q Rm O d:Nat}(hbh:bl (Q/2)=9*W){st:St}{τ:Loc}(hg:af τ 125=some (.tup [.int (Q:Int),.int (Rm:Int)]))(hd:af τ 126=some (.obj d))(MA:st[d]?=some (.list (ah (cp Q W 10)))) :
  ∃ (KA:Loc) (Kw:St),cw ⟨run (m+9)⟩ sK (Lx Sv low sh rs v w L e x y W O τ) st=some (.ret (.bool true),KA,Kw):=by
 let F:=cp Q W 10;have lF:F.length=10:=by simp[F,cp]
 let Lm:=Lx Sv low sh rs v w L e x y W O τ;have Oo:af Lm 126=some (.obj d):=hd;have g122:af Lm 122=some (.int W):=rfl
 have y1:aa ⟨run (m+9)⟩ AK Lm st=some (.lst (ah (jJ F W)),st):=by
  have e1:ah (jJ F W)=(List.range 9).map λk:Nat=>AV.int ((F.getD k 0/2+F.getD (k+1) 0%2*2^(W-1):Nat):Int):=by simp only[ah,jJ,map_map];rfl
  rw[e1];refine aH (bS (dq (P.e1 rfl) (aZ 9 (by decide))) (aL 9 (by decide)) (by decide) (aD (λk:Nat=>AV.int k) _ rfl (List.range 9) λk hk=>?_));have RO:=mem_range.mp hk;let QH:=ai (aX Lm [126,122]) 61 (.int k);have Pn:af QH 126=some (.obj d):=by rw[ag _ (by decide),eC rfl,Oo]
  have k122:af QH 122=some (.int W):=by rw[ag _ (by decide),eC rfl,g122]
  have RR:af QH 61=some (.int k):=ab _ _ _;have f1:cB st (.obj d) (.int k)=some (.int (F.getD k 0:Nat)):=cG MA (dS (by show k<F.length;exact bN)) (by exact bN);have f2:cB st (.obj d) (.int ((k+1:Nat):Int))=some (.int (F.getD (k+1) 0:Nat)):=cG MA (dS (by show k+1<F.length;exact dW)) (by exact dW);have b1:=nR (F.getD k 0) 2 (by decide) (by decide);have b2:=nQ st (F.getD (k+1) 0) 2 (by decide)
  have b3:aK .Sub (.int W) (.int 1)=some (.int ((W-1:Nat):Int)):=by
   have:(W:Int)-1=((W-1:Nat):Int):=by exact G4
   exact congrArg (λx=>some (AV.int x)) this
  have b4:=gR (k:=W-1) (by exact JT);rw[one_mul]at b4;have b5:=dD (F.getD (k+1) 0%2) (2^(W-1)) (by exact yr);exact lK rfl (aj (aj (y:=.int (2:Nat)) (bX (ay Pn) (ay RR) f1) rfl b1) (aj (aj (y:=.int (2:Nat)) (bX (ay Pn) (aj (y:=.int (1:Nat)) (ay RR) rfl (cU k 1)) f2) rfl b2) (aj (x:=.int 1) rfl (aj (ay k122) rfl b3) b4) b5) (cU _ _))
 have e9:(bl (Q/2)+W-1)/W=9:=by
  rw[hbh];exact Nat.div_eq_of_lt_le (by exact Q1 0x4491201115091254912a102 [_,_] (sub_add_cancel (Q1 0x48111104491201111102 [_] h8 rfl)) rfl) (by rw[succ_mul];exact Q1 0x55581200111401115a12111401102 [_,_] (sub_add_cancel (Q1 0x4811110444812001111102 [_] h8 rfl)) rfl)
 have Pm:=ta (m+8) (Q/2) W (by exact bN) (by exact zW) (by rw[e9];decide) st;rw[e9]at Pm;let Kx:St:=st++[AO.list (ah (cp (Q/2) W 9))];have PV:Kx[st.length]?=some (.list (ah (cp (Q/2) W 9))):=aS _ _;let KZ:=ai τ 127 (.lst (ah (jJ F W)));let KC:=Lx Sv low sh rs v w L e x y W O KZ
 have ME:af KC 125=some (.tup [.int (Q:Int),.int (Rm:Int)]):=by
  show af KZ 125=_;exact(ag _ (by decide) _).trans hg
 have g127:af KC 127=some (.lst (ah (jJ F W))):=by
  show af KZ 127=_;exact ab _ _ _
 have y2:aa ⟨run (m+9)⟩ (.call 16 [.b .FloorDiv (.sub (.l 125) (.int 0)) (.int 2),.l 122]) KC st=some (.obj st.length,Kx):=
  be (e2 (y:=.int W) (aj (y:=.int (2:Nat)) (bX (ay ME) rfl rfl) rfl (nR Q 2 (by decide) (by decide))) rfl) Pm
 have c1:bJ Kx .Eq (.obj st.length) (.lst (ah (jJ F W)))=some true:=by
  rw[← zI Q W (by exact zW),bJ,dB (fT 5 Kx st.length _ PV) (eD 5 Kx _) (ke _)]
 exact⟨KC,Kx,(ae (KC:=KC) (aE y1 rfl)).trans (cy (sR (yR y2 (ay g127) c1)))⟩
theorem CM (n:Nat)(a:List AV)(st:St):run (n+1) 22 a st=bE (run n) [86] HM a st:=rfl
theorem Fq (m:Nat)(l:List Int)(hl:l.length<=1000):∃ Kw,run (m+10) 22 [.lst (l.map .int)] []=some (.bool true,Kw):=by
 obtain⟨cs,rs,L,e,u,low,sh,LP,Ml,ho,hp,Na,K8,xA⟩:=IB m l hl;refine kg (IC (cs:=cs) (rs:=rs) (low:=low) (sh:=sh) (Sv:=.lst (l.map .int)) m hp) λB0 v0 Ky xB h2 Py=>?_;refine cP (ID (low:=low) (sh:=sh) (Sv:=.lst (l.map .int)) (v:=v0) m hp h2 Py) λw K4 xC h3 w3=>?_;refine yo (IE (Sv:=.lst (l.map .int)) (v:=v0) m hp ho LP Na K8 h3 Py w3) λB1 Me xD h4 QI hl4 w4=>?_;have xE:=IF (low:=low) (sh:=sh) (Sv:=.lst (l.map .int)) (v:=v0) m hp h4 QI (w:=w);refine kg (IG (low:=low) (sh:=sh) (Sv:=.lst (l.map .int)) (v:=v0) m hp h4 QI w4) λx y N0 xF h5 w5=>?_;refine dh (IH (Sv:=.lst (l.map .int)) (v:=v0) m hp ho LP Na K8 h5 QI w5 (τ:=[(119,.str (typ e)),(120,x),(121,y)])) λB2 st6 xG h6=>?_;refine mS (II (low:=low) (sh:=sh) (Sv:=.lst (l.map .int)) (v:=v0) (x:=x) (y:=y) (w:=w) m Ml ho h6) λW v7 Oz h8 hW xH g7=>?_;have q:=Ks Ml h8 hW;refine cP (IJ (low:=low) (sh:=sh) (Sv:=.lst (l.map .int)) (v:=v7) (x:=x) (y:=y) (w:=w) (W:=W) m q.up q.bu q.m q.mq h6 g7) λτ8 st8 xI h8' g8=>?_;refine mS (IK (low:=low) (sh:=sh) (Sv:=.lst (l.map .int)) (v:=v7) (x:=x) (y:=y) (w:=w) (O:=eR rs W) m Ml ho h8 hW q.bq q.dg h8' g8) λτ9 st9 d xJ g9 gd hd=>?_;refine n6 (IL (rs:=rs) (L:=L) (e:=e) (low:=low) (sh:=sh) (Sv:=.lst (l.map .int)) (v:=v7) (x:=x) (y:=y) (w:=w) (O:=eR rs W) m h8 hW q.bh g9 gd hd) λKA Kw xK=>?_;refine⟨Kw,?_⟩;rw[CM,CF];refine bT (σ:=[(86,.lst (l.map .int))]) (KC:=KA) rfl ?_;exact(lW xA).trans ((lW xB).trans ((lW xC).trans ((lW xD).trans ((lW xE).trans ((lW xF).trans ((lW xG).trans ((lW xH).trans ((lW xI).trans ((lW xJ).trans xK)))))))))
end
end P
noncomputable def qe (K:Frag):Str->Option Value:=λn=>match K.lookup mainGlobals with
 |some ⟨_,_,.dict es _,_⟩=>nsFind es n
 |_=>none
noncomputable def posAt (K:Frag)(a:Addr)(i:Nat):Pos:=match bL K a with
 |some fd=>(match fd.body with
  |.stmts l=>(((l[i]?).bind BG).map λq=>q.2.2.2.2).getD default
  |_=>default)
 |none=>default
noncomputable def Fs (K:Frag)(a:Addr):Str:=match bL K a with
 |some fd=>fd.qualname++ofString ".<locals>."++nm 53
 |none=>empty
noncomputable def bp (P:Params)(om ob:Obj):Frag:=hd.heap_39 P++[(1,om),(4,ob)]
noncomputable def Dg (P:Params)(om ob:Obj)(mb mc:Str->Option Value):KX:=
 { K:=bp P om ob,mg:=qe (bp P om ob),mb:=mb,mc:=mc,pos1:=posAt (bp P om ob) 207 1,pos2:=posAt (bp P om ob) 214 0,q1:=Fs (bp P om ob) 207,q2:=Fs (bp P om ob) 214 }
theorem qf {α:Type}{n:Nat}{f g:Nat->α}(h:(List.range n).map f=(List.range n).map g):∀ k,k<n->f k=g k:=λk hk=>List.map_inj_left.mp h k (mem_range.mpr hk)
noncomputable def IM:Option Value->Tok
 |some (.int _ t)=>t
 |_=>0
noncomputable def IN:Option CFound->Tok
 |some (.val (.str _ t))=>t
 |_=>0
noncomputable def jK:Array DictEntry:=#[⟨1,.int 1 636,.str (ofString "OPTIMIZED") 637⟩,⟨2,.int 2 638,.str (ofString "NEWLOCALS") 639⟩,⟨4,.int 4 640,.str (ofString "VARARGS") 641⟩,⟨8,.int 8 642,.str (ofString "VARKEYWORDS") 643⟩,⟨16,.int 16 644,.str (ofString "NESTED") 645⟩,⟨32,.int 32 646,.str (ofString "GENERATOR") 647⟩,⟨64,.int 64 648,.str (ofString "NOFREE") 649⟩,⟨128,.int 128 650,.str (ofString "COROUTINE") 651⟩,⟨256,.int 256 652,.str (ofString "ITERABLE_COROUTINE") 653⟩,⟨512,.int 512 654,.str (ofString "ASYNC_GENERATOR") 655⟩]
section
variable (P:Params)(om ob:Obj)(mb mc:Str->Option Value)
theorem IP:(List.range 23).map (λk=>qe (bp P om ob) (nm (z7 k)))=(List.range 23).map λk=>some (fv k):=by kernel_rfl
theorem CN:(List.range 37).map (λk=>keepIn (bp P om ob) (fv k))=(List.range 37).map λ_=>true:=by kernel_rfl
theorem IQ (b:Bool):qe (bp P om ob) (nm (if b then 33 else 34))=some (.ref (if b then fp else ft)):=by cases b<;>kernel_rfl
theorem IR (b:Bi):qe (bp P om ob) (nm (yF b))=none:=by cases b<;>kernel_rfl
theorem Ft:qe (bp P om ob) (nm 181)=none:=by kernel_rfl
theorem Fu:qe (bp P om ob) (nm 184)=none:=by kernel_rfl
theorem Fv (t:Ty):qe (bp P om ob) (nm (yG t))=none:=by cases t<;>kernel_rfl
theorem Fx:qe (bp P om ob) (nm 145)=none:=by kernel_rfl
theorem Fy:qe (bp P om ob) (nm 52)=some (.int 4000 (IM (qe (bp P om ob) (nm 52)))):=by kernel_rfl
theorem Fz:qe (bp P om ob) (nm 17)=some (.ref jl):=by kernel_rfl
theorem FA:noSeq (bp P om ob) fm=true:=by kernel_rfl
theorem xP:plainGet (bp P om ob) fm empty=true/\hasDictIn (bp P om ob) fm=true:=⟨by kernel_rfl,by kernel_rfl⟩
theorem xQ:plainGet (bp P om ob) jl empty=true/\hasDictIn (bp P om ob) jl=true:=⟨by kernel_rfl,by kernel_rfl⟩
theorem CO:(List.range 6).map (λa=>(findIn (bp P om ob) (.ref fm) (nm a)).isSome&&noGet (bp P om ob) ((findIn (bp P om ob) (.ref fm) (nm a)).getD none))=(List.range 6).map λ_=>true:=by kernel_rfl
theorem CP:(List.range 6).map (λa=>(findIn (bp P om ob) (.ref jl) (nm a)).isSome&&noGet (bp P om ob) ((findIn (bp P om ob) (.ref jl) (nm a)).getD none))=(List.range 6).map λ_=>true:=by kernel_rfl
theorem FB:(List.range 7).map (λk=>findIn (bp P om ob) (.ref (if k+30=36 then jl else fm)) (nm (tq (k+30))))=(List.range 7).map λk=>some (some (fv (k+30))):=by kernel_rfl
theorem CQ:(List.range 7).map (λk=>isFn (bp P om ob) (fv (k+30)))=(List.range 7).map λk=>true:=by kernel_rfl
theorem xR:findIn (bp P om ob) (.ref fm) "__setattr__"=some (some (.builtin "object.__setattr__"))/\plainOver (bp P om ob) fm=true:=⟨by kernel_rfl,by kernel_rfl⟩
theorem xT:findIn (bp P om ob) (.ref jl) "__setattr__"=some (some (.builtin "object.__setattr__"))/\plainOver (bp P om ob) jl=true:=⟨by kernel_rfl,by kernel_rfl⟩
theorem CR:(List.range 6).map (λa=>takerIn (bp P om ob) fm (nm a))=(List.range 6).map λ_=>some none:=by kernel_rfl
theorem CS:(List.range 6).map (λa=>takerIn (bp P om ob) jl (nm a))=(List.range 6).map λ_=>some none:=by kernel_rfl
theorem CT:readsIn (bp P om ob) jl ((typeIn (bp P om ob) (.ref jl)).getD .none)=true:=by kernel_rfl
theorem CU (b:Bool):findCls (bp P om ob) (.ref jl) ((typeIn (bp P om ob) (.ref jl)).getD .none) (nm (if b then 153 else 152))=some (.val (.str ⟨[if b then 9 else 32].toArray⟩ (IN (findCls (bp P om ob) (.ref jl) ((typeIn (bp P om ob) (.ref jl)).getD .none) (nm (if b then 153 else 152)))))):=by cases b<;>kernel_rfl
theorem CV:qe (bp P om ob) (nm 54)=some (.ref 229):=by kernel_rfl
theorem CW:(bp P om ob).lookup 229=some { cls:=.type "dict",data:=.dict jK 10 }:=by kernel_rfl
theorem FC:mz.all (λe=>fj (bp P om ob) (cr e.1) e.2.1 e.2.2&&lb (bp P om ob) (cr e.1) e.2.1)=true:=by kernel_rfl
theorem FD:fj (bp P om ob) (cr 32) [129,110,132] Ek=true:=by kernel_rfl
theorem FE:fj (bp P om ob) 76 [129,130] Ej=true:=by kernel_rfl
theorem FF:fj (bp P om ob) 260 [129,154] El=true:=by kernel_rfl
theorem FG:lb (bp P om ob) 260 [129,154]=true:=by kernel_rfl
theorem FH:fj (bp P om ob) (cr 34) [129,133,134,135] [.bad,.bad,.bad,.bad]=true:=by kernel_rfl
theorem FI:Ev (bp P om ob) (cr 34)=true:=by kernel_rfl
theorem FJ:fj (bp P om ob) (cr 35) [129,64,110] Gp=true:=by kernel_rfl
theorem FL:makesIn (bp P om ob) fm=true/\findIn (bp P om ob) (.ref fm) "__init__"=some (some (.ref 76))/\typeIn (bp P om ob) (.ref 76)=some (.type "function"):=⟨by kernel_rfl,by kernel_rfl,by kernel_rfl⟩
theorem FM:makesIn (bp P om ob) jl=true/\findIn (bp P om ob) (.ref jl) "__init__"=some (some (.ref 260))/\typeIn (bp P om ob) (.ref 260)=some (.type "function"):=⟨by kernel_rfl,by kernel_rfl,by kernel_rfl⟩
theorem CX:(bp P om ob).lookup sysModules=some om:=by kernel_rfl
theorem FN:qe (bp P om ob) "__builtins__"=some (.ref 4):=by kernel_rfl
theorem FO:(bp P om ob).lookup 4=some ob:=by kernel_rfl
theorem FP:fj (bp P om ob) 207 [66,0] [.bad,.bad,.bad,.bad]=true:=by kernel_rfl
theorem FQ:lb (bp P om ob) 207 [66,0]=true:=by kernel_rfl
theorem FS:fj (bp P om ob) 214 [77,0] [.bad,.bad]=true:=by kernel_rfl
theorem FT:lb (bp P om ob) 214 [77,0]=true:=by kernel_rfl
theorem FU:nG (Dg P om ob mb mc)=true:=by kernel_rfl
theorem FV:nH (Dg P om ob mb mc)=true:=by kernel_rfl
theorem FW (b:Bi):(nm (yF b)==ofString "__name__")=false/\bootBuiltins (nm (yF b))=some (Hn b):=by cases b<;>exact⟨by kernel_rfl,by kernel_rfl⟩
theorem AN (t:Ty):(nm (yG t)==ofString "__name__")=false/\bootBuiltins (nm (yG t))=some (.type (Hr t)):=by cases t<;>exact⟨by kernel_rfl,by kernel_rfl⟩
theorem AP:(nm 181==ofString "__name__")=false/\bootBuiltins (nm 181)=some (.builtin "sorted"):=⟨by kernel_rfl,by kernel_rfl⟩
theorem AQ:(nm 184==ofString "__name__")=false/\bootBuiltins (nm 184)=some (.type "type"):=⟨by kernel_rfl,by kernel_rfl⟩
theorem AR:(nm 145==ofString "__name__")=false/\bootBuiltins (nm 145)=some (.type "reversed"):=⟨by kernel_rfl,by kernel_rfl⟩
end
theorem nY {n:Nat}{f:Nat->Bool}(h:(List.range n).map f=(List.range n).map λ_=>true):∀ k,k<n->f k=true:=qf (g:=λ_=>true) h
section
variable (P:Params)(om ob:Obj)(mb mc:Str->Option Value)
theorem CY:∀ e∈jK,∃ k,Value.isInt k e.key=true/\e.hash=hashInt k:=by
 have:∀ e∈jK.toList,Value.isInt e.hash e.key=true/\e.hash=hashInt e.hash:=by
  intro e he;simp only[jK,mem_cons,not_mem_nil,or_false]at he;rcases he with rfl |rfl |rfl |rfl |rfl |rfl |rfl |rfl |rfl |rfl<;>exact⟨rfl,by decide +kernel⟩
 intro e he;exact⟨e.hash,this e (Array.mem_toList_iff.mpr he)⟩
theorem CZ (k:Int):(∃ p t,ey.find? (·.1==k)=some p/\findBy Value.isInt jK k=some (.str ⟨p.2.toArray⟩ t))\/(ey.find? (·.1==k)=none/\findBy Value.isInt jK k=none):=by
 by_cases h1:k=1
 ·subst h1;exact .inl ⟨_,637,rfl,by kernel_rfl⟩
 by_cases h2:k=2
 ·subst h2;exact .inl ⟨_,639,rfl,by kernel_rfl⟩
 by_cases h3:k=4
 ·subst h3;exact .inl ⟨_,641,rfl,by kernel_rfl⟩
 by_cases h4:k=8
 ·subst h4;exact .inl ⟨_,643,rfl,by kernel_rfl⟩
 by_cases h5:k=16
 ·subst h5;exact .inl ⟨_,645,rfl,by kernel_rfl⟩
 by_cases h6:k=32
 ·subst h6;exact .inl ⟨_,647,rfl,by kernel_rfl⟩
 by_cases h7:k=64
 ·subst h7;exact .inl ⟨_,649,rfl,by kernel_rfl⟩
 by_cases h8:k=128
 ·subst h8;exact .inl ⟨_,651,rfl,by kernel_rfl⟩
 by_cases h9:k=256
 ·subst h9;exact .inl ⟨_,653,rfl,by kernel_rfl⟩
 by_cases Ow:k=512
 ·subst Ow;exact .inl ⟨_,655,rfl,by kernel_rfl⟩
 have q:∀ a:Int,k≠a->(a==k)=false:=λa h=>by simp;exact λe=>h e.symm
 refine .inr ⟨?_,?_⟩
 ·simp only[ey,find?,q 1 h1,q 2 h2,q 4 h3,q 8 h4,q 16 h5,q 32 h6,q 64 h7,q 128 h8,q 256 h9,q 512 Ow]
 ·simp only[findBy,jK,List.find?_toArray,find?,Value.isInt,q 1 h1,q 2 h2,q 4 h3,q 8 h4,q 16 h5,q 32 h6,q 64 h7,q 128 h8,q 256 h9,q 512 Ow,Option.map]
theorem glob (hb:∀ x:Str,x≠ofString "__name__"->mb x=bootBuiltins x):Glob (Dg P om ob mb mc) where
 refs:=λk=>⟨_,rfl⟩
 fn:=qf (IP P om ob)
 keep:=nY (CN P om ob)
 bi:=λb=>⟨IR P om ob b,(hb _ (beq_eq_false_iff_ne.mp (FW b).1)).trans (FW b).2⟩
 srt:=⟨Ft P om ob,(hb _ (beq_eq_false_iff_ne.mp AP.1)).trans AP.2⟩
 typ:=⟨Fu P om ob,(hb _ (beq_eq_false_iff_ne.mp AQ.1)).trans AQ.2⟩
 tys:=λt=>⟨Fv P om ob t,(hb _ (beq_eq_false_iff_ne.mp (AN t).1)).trans (AN t).2⟩
 rx:=IQ P om ob
 lim:=⟨_,Fy P om ob⟩
 wsc:=Fz P om ob
 cls:=λC hC=>by
  have key:∀ C,(List.range 6).map (λa=>(findIn (bp P om ob) (.ref C) (nm a)).isSome&&noGet (bp P om ob) ((findIn (bp P om ob) (.ref C) (nm a)).getD none))=(List.range 6).map (λ_=>true)->∀ a,a<6->∃ attr,findIn (bp P om ob) (.ref C) (nm a)=some attr/\noGet (bp P om ob) attr=true:=λC h a ha=>by
   have:=nY h a ha;simp only[and_eq_true]at this;refine aw (isSome_iff_exists.mp this.1) λv e=>?_;rw[e]at this;exact⟨v,e,this.2⟩
  rcases hC with rfl |rfl
  ·exact⟨(xP P om ob).1,(xP P om ob).2,key _ (CO P om ob)⟩
  ·exact⟨(xQ P om ob).1,(xQ P om ob).2,key _ (CP P om ob)⟩
 met:=λk h1 h2=>by
  have a:=qf (FB P om ob) (k-30) (by exact Q2 0x51e2140111252111150110711111401103 [_,_] h2 (sub_add_cancel (Q1 0x41e2111041e211102 [_] h1 rfl)) rfl);have b:=nY (CQ P om ob) (k-30) (by exact Q2 0x51e2140111252111150110711111401103 [_,_] h2 (sub_add_cancel (Q1 0x41e2111041e211102 [_] h1 rfl)) rfl);rw[show k-30+30=k from sub_add_cancel (by assumption)]at a b;exact⟨a,b⟩
 sets:=λC hC=>by
  rcases hC with rfl |rfl
  ·exact⟨(xR P om ob).1,(xR P om ob).2,qf (g:=λ_=>some none) (CR P om ob)⟩
  ·exact⟨(xT P om ob).1,(xT P om ob).2,qf (g:=λ_=>some none) (CS P om ob)⟩
 rev:=⟨Fx P om ob,(hb _ (beq_eq_false_iff_ne.mp AR.1)).trans AR.2⟩
 noq:=FA P om ob
 wst:=⟨_,CT P om ob,λb=>⟨_,CU P om ob b⟩⟩
 flg:=⟨229,_,jK,10,CV P om ob,by decide,CW P om ob,⟨rfl,rfl,rfl⟩,rfl,CY,CZ⟩
noncomputable def jU (n:String)(a b c d:Nat):Arg:=⟨ofString n,none,⟨a,b,c,d⟩⟩
noncomputable def xU:Arguments:=⟨[],[jU "self" 59 12 59 16,jU "name" 59 18 59 22,jU "default" 59 24 59 31],none,[],[],none,[.Constant .none 0 ⟨59,32,59,36⟩]⟩
noncomputable def AS:Arguments:=⟨[],[jU "self" 20 17 20 21,jU "headers" 20 23 20 30],none,[],[],none,[.Constant .none 0 ⟨20,31,20,35⟩]⟩
noncomputable def xV:Arguments:=⟨[],[jU "self" 87 19 87 23,jU "_name" 87 25 87 30,jU "_value" 87 32 87 38],none,[],[],some (jU "_params" 87 42 87 49),[]⟩
noncomputable def AT:Arguments:=⟨[],[jU "self" 30 29 30 33,jU "value" 30 35 30 40],none,[jU "name" 30 45 30 49],[none],none,[]⟩
noncomputable def zJ:Obj:={ cls:=.type "tuple",data:=.seq #[.none] }
theorem C0:(bL (bp P om ob) 129).map (·.params)=some xU/\(bL (bp P om ob) 129).map (·.defaults)=some (.ref 122)/\(bp P om ob).lookup 122=some zJ:=⟨by kernel_rfl,by kernel_rfl,by kernel_rfl⟩
theorem IS:(bL (bp P om ob) 76).map (·.params)=some AS/\(bL (bp P om ob) 76).map (·.defaults)=some (.ref 69)/\(bp P om ob).lookup 69=some zJ:=⟨by kernel_rfl,by kernel_rfl,by kernel_rfl⟩
theorem FX:(bL (bp P om ob) 179).map (·.params)=some xV/\(bL (bp P om ob) 179).map (·.defaults)=some .none:=⟨by kernel_rfl,by kernel_rfl⟩
theorem JC:(bL (bp P om ob) 83).map (·.params)=some AT/\(bL (bp P om ob) 83).map (·.defaults)=some .none:=⟨by kernel_rfl,by kernel_rfl⟩
end
theorem fdOf {α:Type}{K:Frag}{a:Nat}{fd:FuncData}{f:FuncData->α}{x:α}(hf:bL K a=some fd)(h:(bL K a).map f=some x):f fd=x:=by
 rw[hf]at h;exact K7 h
theorem zL {fd:FuncData}(hp:fd.params=xU)(hd:fd.defaults=.ref 122){s:Shared}(ho:s.heap.get? 122=some zJ)(v1 v2:Value):BindsTo s fd ⟨[v1,v2],[]⟩ [(ofString "self",v1),(ofString "name",v2),(ofString "default",.none)]:=by
 cases fd;simp only at hp hd;subst hp;subst hd;exact BindsTo.of_defaults rfl ho rfl rfl rfl
theorem C1 {fd:FuncData}(hp:fd.params=AS)(hd:fd.defaults=.ref 69){s:Shared}(ho:s.heap.get? 69=some zJ)(v1 v2:Value):BindsTo s fd ⟨[v1,v2],[]⟩ [(ofString "self",v1),(ofString "headers",v2)]:=by
 cases fd;simp only at hp hd;subst hp;subst hd;exact BindsTo.of_defaults rfl ho rfl rfl rfl
theorem zM {fd:FuncData}(hp:fd.params=xV)(hd:fd.defaults=.none)(v1 v2 v3:Value):bindArgs fd ⟨[v1,v2,v3],[]⟩=(alloc emptyDict>>=λd=>pure [(ofString "self",v1),(ofString "_name",v2),(ofString "_value",v3),(ofString "_params",.ref d)]):=by
 cases fd;simp only at hp hd;subst hp;subst hd;rfl
theorem C3 {fd:FuncData}(hp:fd.params=AT)(hd:fd.defaults=.none)(v1 v2 v3:Value):bindArgs fd ⟨[v1,v2],[(ofString "name",v3)]⟩=pure [(ofString "self",v1),(ofString "value",v2),(ofString "name",v3)]:=by
 cases fd;simp only at hp hd;subst hp;subst hd;rfl
section
variable (P:Params)(om ob:Obj)(mb mc:Str->Option Value)
theorem IT (v1 v2:Value):([129,110,132].map nm).zip [v1,v2,.none]=[(ofString "self",v1),(ofString "name",v2),(ofString "default",.none)]:=by kernel_rfl
theorem Kt (v1 v2:Value):([129,130].map nm).zip [v1,v2]=[(ofString "self",v1),(ofString "headers",v2)]:=by kernel_rfl
theorem IU (v1 v2 v3 v4:Value):([129,133,134,135].map nm).zip [v1,v2,v3,v4]=[(ofString "self",v1),(ofString "_name",v2),(ofString "_value",v3),(ofString "_params",v4)]:=by kernel_rfl
theorem Ku (v1 v2 v3:Value):([129,64,110].map nm).zip [v1,v2,v3]=[(ofString "self",v1),(ofString "value",v2),(ofString "name",v3)]:=by kernel_rfl
theorem FY:Mu (Dg P om ob mb mc) where
 fva:=λf _=>rfl
 tab:=FC P om ob
 f32:=FD P om ob
 d32:=λfd hf s hs v1 v2=>by
  rw[IT];exact zL (fdOf hf (C0 P om ob).1) (fdOf hf (C0 P om ob).2.1) (hs _ _ (C0 P om ob).2.2) v1 v2
 f20:=FE P om ob
 d20:=λfd hf s hs v1 v2=>by
  rw[Kt];exact C1 (fdOf hf (IS P om ob).1) (fdOf hf (IS P om ob).2.1) (hs _ _ (IS P om ob).2.2) v1 v2
 f21:=FF P om ob
 p21:=FG P om ob
 mks:=λc=>by
  cases c with
  |zero=>exact FL P om ob
  |succ c=>exact FM P om ob
 sysm:=⟨om,CX P om ob⟩
 f34:=FH P om ob
 a34:=FI P om ob
 d34:=λfd hf v1 v2 v3=>by
  have e:∀ d:Addr,([129,133,134,135].map nm).zip [v1,v2,v3,.ref d]=_:=λd=>IU v1 v2 v3 (.ref d);simp only[e];exact zM (fdOf hf (FX P om ob).1) (fdOf hf (FX P om ob).2) v1 v2 v3
 f35:=FJ P om ob
 d35:=λfd hf v1 v2 v3=>by
  rw[Ku];exact C3 (fdOf hf (JC P om ob).1) (fdOf hf (JC P om ob).2) v1 v2 v3
theorem FZ (QJ:ob.cls=.type "module"/\ob.dict=some builtinsNs/\ob.data=.plain):N7 (Dg P om ob mb mc) where
 N:=⟨4,ob,FN P om ob,by decide,by decide,by decide,by decide,FO P om ob,QJ.1,QJ.2.1,QJ.2.2⟩
 h16:=FP P om ob
 p16:=FQ P om ob
 o16:=FU P om ob mb mc
 h17:=FS P om ob
 p17:=FT P om ob
 o17:=FV P om ob mb mc
end
noncomputable def F0 (h:Heap):bf:=λa=>if a=202\/a=209 then none else h.get? a
theorem xW {h:Heap}{a:Addr}{o:Obj}(e:h.get? a=some o)(h1:a≠202)(h2:a≠209):F0 h a=some o:=by
 unfold F0;rw[if_neg (by rintro(h |h);exact h1 h;exact h2 h)];exact e
theorem F7 (h:Heap):z6 (F0 h) h:=by
 intro a o e;unfold F0 at e;split at e
 ·cases e
 ·exact e
theorem rQ {h:Heap}{a:Addr}{m:Str->Option Value}(x:h.Ns a m)(h1:a≠202)(h2:a≠209):NI (F0 h) a m:=by
 refine ym x ?_;clear x;intro o es ep e r;exact⟨o,es,ep,xW e h1 h2,r⟩
theorem IV {P:Params}{om ob:Obj}{h:Heap}(X:(hd.heap_39 P).In h)(h1:h.get? 1=some om)(h4:h.get? 4=some ob):(bp P om ob).In h:=by
 intro a o e;unfold bp at e;rw[List.lookup_append]at e
 cases q:(hd.heap_39 P).lookup a with
 |some o'=>
  rw[q]at e;simp at e;subst e;exact X a o' q
 |none=>
  rw[q]at e;simp only[Option.none_or,List.lookup]at e;split at e
  ·rename_i q1;cases e;rw[eq_of_beq q1];exact h1
  ·split at e
   ·rename_i q1;cases e;rw[eq_of_beq q1];exact h4
   ·cases e
theorem AU (P:Params)(om ob:Obj):(bp P om ob).lookup 202=none/\(bp P om ob).lookup 209=none:=⟨by kernel_rfl,by kernel_rfl⟩
noncomputable def xX (K:Frag)(a:Addr):Data:=match K.lookup a with
 |some o=>o.data
 |none=>.plain
noncomputable def lJ (K:Frag)(a:Addr):Array Value:=match xX K a with
 |.fields fs=>fs
 |_=>#[]
noncomputable def refOf:Value->Addr
 |.ref a=>a
 |_=>0
noncomputable def qg (K:Frag)(a:Addr):Array Value:=match xX K a with
 |.seq vs _=>vs
 |_=>#[]
noncomputable def IW (K:Frag)(a:Addr):Nat:=match xX K a with
 |.seq _ n=>n
 |_=>0
noncomputable def AW (K:Frag)(a:Addr):Obj:=((K.lookup a).getD { cls:=.none,data:=.plain })
theorem F8 (P:Params)(om ob:Obj)(b:Bool):(bp P om ob).lookup (if b then fp else ft)=some { cls:=.type "re.Pattern",data:=.fields (lJ (bp P om ob) (if b then fp else ft)) }:=by cases b<;>kernel_rfl
theorem F9 (P:Params)(om ob:Obj)(b:Bool):(lJ (bp P om ob) (if b then fp else ft)).getD 5 .none=.ref (refOf ((lJ (bp P om ob) (if b then fp else ft)).getD 5 .none)):=by cases b<;>kernel_rfl
theorem AX (P:Params)(om ob:Obj)(b:Bool):Builtin.Re.reRawNat ((lJ (bp P om ob) (if b then fp else ft)).getD 6 .none)=0/\Builtin.Re.reRawNat ((lJ (bp P om ob) (if b then fp else ft)).getD 2 .none)=0:=by cases b<;>exact⟨by kernel_rfl,by kernel_rfl⟩
theorem Ga (P:Params)(om ob:Obj)(b:Bool):(bp P om ob).lookup (refOf ((lJ (bp P om ob) (if b then fp else ft)).getD 5 .none))=some (AW (bp P om ob) (refOf ((lJ (bp P om ob) (if b then fp else ft)).getD 5 .none))):=by cases b<;>kernel_rfl
theorem Gb (P:Params)(om ob:Obj)(b:Bool):(AW (bp P om ob) (refOf ((lJ (bp P om ob) (if b then fp else ft)).getD 5 .none))).data=.seq (qg (bp P om ob) (refOf ((lJ (bp P om ob) (if b then fp else ft)).getD 5 .none))) (IW (bp P om ob) (refOf ((lJ (bp P om ob) (if b then fp else ft)).getD 5 .none))):=by cases b<;>kernel_rfl
theorem Gc (P:Params)(om ob:Obj)(b:Bool):((qg (bp P om ob) (refOf ((lJ (bp P om ob) (if b then fp else ft)).getD 5 .none))).map Builtin.Re.reRawOf).map (·.toNat)=codeOf b:=by cases b<;>kernel_rfl
theorem JD (P:Params)(om ob:Obj):((bp P om ob).lookup mainGlobals).isSome=true:=by kernel_rfl
theorem IX (P:Params):((hd.heap_39 P).lookup mainGlobals).isSome=true:=by kernel_rfl
theorem xY {K:Frag}(hk:(K.lookup mainGlobals).isSome=true){h:Heap}{mg:Str->Option Value}(X:K.In h)(g:h.Ns mainGlobals mg)(n:Str):qe K n=mg n:=by
 refine mS g ?_;clear g;intro o es ep e hd _ hn;refine aw (isSome_iff_exists.mp hk) λoK hK=>?_;have:=X _ _ hK;rw[e]at this;cases this;unfold qe;rw[hK];obtain⟨cls,dict,data,sl⟩:=o;simp only at hd;subst hd;exact hn n
theorem IY (P:Params):qe (hd.heap_39 P) "__builtins__"=some (.ref 4):=by kernel_rfl
theorem AY {F:bf}{h:Heap}{a:Addr}{pos:Pos}{q:Str}(e:h.get? a=some (tabObj #[])):Mv F h a pos q:=⟨#[],e,trivial,.inl rfl⟩
theorem IZ {P:Params}{om ob:Obj}{h:Heap}{mb mc:Str->Option Value}(X:(bp P om ob).In h){mg:Str->Option Value}(g:h.Ns mainGlobals mg)(b:h.Ns builtinsNs mb)(c:h.Ns cStatics mc)(lim:mc "sys.recursionlimit"=none)(t1:h.get? 202=some (tabObj #[]))(t2:h.get? 209=some (tabObj #[])) :
  KD (Dg P om ob mb mc) (F0 h) [] [] h:=by
 have XF:∀ a o,(bp P om ob).lookup a=some o->F0 h a=some o:=λa o e=>xW (X a o e) (λq=>by rw[q,(AU P om ob).1]at e;cases e) (λq=>by rw[q,(AU P om ob).2]at e;cases e);refine⟨⟨XF,?_,rQ b (by decide) (by decide),rQ c (by decide) (by decide),lim,λb=>?_⟩,F7 h,rfl,nodup_nil,λa m=>by simp at m,λa m=>by simp at m,λi a o e=>by simp at e,AY t1,AY t2,⟨if_pos (.inl rfl),by simp⟩,⟨if_pos (.inr rfl),by simp⟩⟩
 ·have e:mg=qe (bp P om ob):=funext λn=>(xY (JD P om ob) X g n).symm;have:=rQ (h:=h) (a:=mainGlobals) g (by decide) (by decide);rw[e]at this;exact this
 ·exact⟨_,_,_,_,_,XF _ _ (F8 P om ob b),F9 P om ob b,(AX P om ob b).1,(AX P om ob b).2,XF _ _ (Ga P om ob b),Gb P om ob b,Gc P om ob b⟩
theorem C4 {R:WRecords}{x:WData}:WShape.has R x .int=true->∃ i,x=.int i:=by cases x<;>first |exact λh=>absurd h LU |exact λ_=>⟨_,rfl⟩
theorem xZ {R:WRecords}(xs:List WData):WShape.hasItems R xs .int=true->∃ l:List Int,xs=l.map .int:=by
 induction xs with
 |nil=>exact λ_=>⟨[],rfl⟩
 |cons x xs ih=>exact λh=>(ih (bC h).2).elim λl e=>(C4 (bC h).1).elim λi q=>⟨i::l,e▸q▸rfl⟩
noncomputable def WI (P:Params)(h:Heap)(v:Value):WData->Prop
 |.int i=>∃ t,v=.int i t
 |.list xs=>∃ a vs,v=.ref a/\h.get? a=some { cls:=.type "list",data:=.seq vs.toArray }/\WellAll P h vs xs
 |_=>True
noncomputable def WA (P:Params)(h:Heap)(vs:List Value):List WData->Prop
 |[]=>vs=[]
 |d::ds=>∃ v ws,vs=v::ws/\Well P h v d/\WellAll P h ws ds
theorem AZ {P:Params}{h:Heap}{v:Value}{d:WData}(w:Well P h v d):WI P h v d:=
 Well.casesOn (motive_1:=λv d _=>WI P h v d) w trivial (λ_=>trivial) (λ_ t=>⟨t,rfl⟩) (λ_ _=>trivial) (λ_ _=>trivial) (λ_ _=>trivial) (λ_=>trivial) (λa b=>⟨_,_,rfl,a,b⟩) (λ_ _=>trivial) (λ_ _=>trivial) (λ_ _ _ _=>trivial) (λ_ _ _ _=>trivial) (λ_ _ _ _=>trivial)
theorem nZ {P:Params}{h:Heap}{vs:List Value}{ds:List WData}(w:WellAll P h vs ds):WA P h vs ds:=
 WellAll.casesOn (motive_2:=λvs ds _=>WA P h vs ds) w rfl (λa b=>⟨_,_,rfl,a,b⟩)
theorem ya {P:Params}{h:Heap}{F:bf}(l:List Int):∀ vs:List Value,WellAll P h vs (l.map .int)->KI F [] (l.map .int) vs:=by
 induction l with
 |nil=>exact λvs w=>(nZ w:vs=[])▸.nil
 |cons i l ih=>
  intro vs w;refine cP (nZ w) λv ws e a b=>?_;exact e▸(AZ a).elim λt q=>q▸.cons (.int i t) (ih ws b)
theorem zN {ds:List WData}(h:(Challenge.rw_uc0064_01.row.toRowW).pre.holds (Challenge.rw_uc0064_01.row.toRowW).records { args:=[.list ds] }=true):ds.length<=63:=by
 by_cases q:ds.length<=63
 ·exact q
 ·exfalso;have e:(Challenge.rw_uc0064_01.row.toRowW).pre=.and (.not (.lt (.lit (.int 63)) (.len (.arg 0)))) (.lit (.bool true)):=rfl;rw[e]at h
  have l:PySem.W.less? (.int 63) (.int (ds.length:Nat))=some true:=by
   have:PySem.W.less? (.int 63) (.int (ds.length:Nat))=some (decide ((63:Int)<(ds.length:Nat))):=by simp only[PySem.W.less?,Num.less?]
   rw[this,decide_eq_true (by omega)]
  simp[WTm.holds,WTm.value,l]at h
theorem qh {K:Frag}{h:Heap}{c P:Addr}(X:K.In h)(e:codeHdIn K c P=true):isCodeTable h P:=by
 obtain⟨o,vs,_,_,_,_,_,_,_,a,b,d,f,_⟩:=codeHd_of_K X e;exact⟨c,o,vs,a,b,d,f⟩
theorem yb (P:Params):codeHdIn (hd.heap_39 P) 206 202=true/\codeHdIn (hd.heap_39 P) 213 209=true:=⟨by kernel_rfl,by kernel_rfl⟩
theorem Gd:nm (z7 22)=ofString "law":=by decide +kernel
theorem C5 {h h':Heap}{F':bf}{KJ:List Addr}{F:bf}(S:Step F [] [] h F' KJ h'){P:Params}(X:(hd.heap_39 P).In h)(t1:h.get? 202=some (tabObj #[]))(t2:h.get? 209=some (tabObj #[]))(u1:∃ ps,h'.get? 202=some (tabObj ps))(u2:∃ ps,h'.get? 209=some (tabObj ps)):OldK h h':=by
 refine⟨λb o e=>?_,λb o e=>S.dom b o e⟩;by_cases q1:b=202
 ·subst q1;refine aw u1 ?_;clear u1;intro ps u;rw[t1]at e;cases e;exact .inr (.inl ⟨qh X (yb P).1,rfl,#[],ps,rfl,by rw[u];simp[tabObj]⟩)
 ·by_cases q2:b=209
  ·subst q2;refine aw u2 ?_;clear u2;intro ps u;rw[t2]at e;cases e;exact .inr (.inl ⟨qh X (yb P).2,rfl,#[],ps,rfl,by rw[u];simp[tabObj]⟩)
  ·exact .inl (S.kept b o e (by simp) q1 q2 (by simp))
theorem zO {q:Program}{loose:List Str}{XP:(Str->Option Value)->Heap->Prop}{YP:World->Heap->Prop}{r:RowW}{d:DefRec}{kwd:List (Str×Expr)}
  (h:∀ w Mi KQ mg mb,Ground q loose r.records XP w Mi mg mb KQ.heap->YP w KQ.heap->∀ a,mg d.name=some (.ref a)->KQ.gens=#[]->∀ args vals,r.claim.pre args=true->WellAll w.params KQ.heap vals args ->
   wpAny (model r.prog w) callerA (call (.ref a) vals) (λv s'=>GoodWG r.claim (classAt Mi.heap) (ExcName.means Mi.heap) args KQ (.ok (.ret v)) s') (λe s'=>GoodWG r.claim (classAt Mi.heap) (ExcName.means Mi.heap) args KQ (.error e) s') KQ) :
  WalkO q loose XP YP r d kwd λf vs=>PySem.call f vs:=
 λw Mi KQ mg mb G Y a _ _ _ _ _ _ _ _ _ _ hmg hg args vals _ hp _ _ hW _=>h w Mi KQ mg mb G Y a hmg hg args vals hp hW
theorem zP {args:List WData}(h:(Challenge.rw_uc0064_01.row.toRowW).claim.pre args=true):∃ l:List Int,args=[.list (l.map .int)]/\l.length<=63:=by
 refine av (pre_splitW h) λK8 hpr=>?_;refine cP (hasAllW_cons (e:=.list .int) (es:=[]) K8) λd r e h1 h2=>?_;have e:args=[d]:=hasAllW_nil h2▸e;clear K8 h2
 cases d with
 |list xs=>
  refine(xZ xs ((Bool.or_false _).symm.trans h1)).elim λl q=>⟨l,q▸e,?_⟩;have:=zN (ds:=xs) (e▸hpr);rw[q,length_map]at this;exact this
 |_=>exact absurd h1 LU
theorem zQ {P:Params}{h:Heap}{l:List Int}{vals:List Value}(w:WellAll P h vals [.list (l.map .int)]):∃ b vs,vals=[.ref b]/\h.get? b=some { cls:=.type "list",data:=.seq vs.toArray }/\WellAll P h vs (l.map .int):=by
 refine cP (nZ w) λv ws e h1 h2=>?_;refine cP (AZ h1) λb vs e1 g h3=>⟨b,vs,?_,g,h3⟩;rw[e,e1,show ws=[] from nZ h2]
theorem Ge {h:Heap}{ms:Str->Option Value}(hm:h.Ns 1 ms):∃ om,h.get? 1=some om:=let ⟨o,_,_,e,_⟩:=hm;⟨o,e⟩
end
end Mine.Internal
open PySem PySem.Spec PySem.Calls PyProof.Rows PySem.W PySem.SeqAt Mine.Internal
set_option maxHeartbeats 4000000 in
theorem PySem.Challenge.cw_uc0064_01_holds : PySem.Challenge.rw_uc0064_01.Holds := by
 refine hd (zO λw Mi KQ mg mb G Y a hmg hgens args vals hpre hWl=>?_);have X0:=km_in_of Y;have T:=km_tabs_of Y;have t1:KQ.heap.get? 202=some (tabObj #[]):=T 202 (by simp);have t2:KQ.heap.get? 209=some (tabObj #[]):=T 209 (by simp);refine uR G.T.bmain λbm ob b1 b2 b3 b4 b5 b6=>?_;refine ak G.T.nolimit λmc hc lim=>?_;refine ak (G.T.seer (by kernel_rfl)).2 λms hm _=>?_;refine aw (Ge hm) λom h1=>?_;have hbm:bm=4:=Value.ref.inj (Option.some.inj (b1.symm.trans ((xY (IX w.params) X0 G.T.g "__builtins__").symm.trans (IY _))));have X:=IV X0 h1 (hbm▸b3);have hR0:=IZ (mb:=mb) (mc:=mc) X G.T.g G.T.b hc lim t1 t2;have ha:Value.ref a=fv 22:=Option.some.inj (hmg.symm.trans ((xY (JD w.params om ob) X G.T.g _).symm.trans (Gd▸(glob w.params om ob mb mc G.T.builtins).fn 22 (by decide))));refine ak (zP hpre) λl ea KL=>?_;refine cP (zQ (ea▸hWl)) λb vs ev hget hall=>?_;have V:KI (F0 KQ.heap) [] [.lst (l.map .int)] [.ref b]:=.cons (.lst ⟨_,xW hget (λq=>nomatch (q▸hget).symm.trans t1) (λq=>nomatch (q▸hget).symm.trans t2)⟩ (ya l vs hall)) .nil;refine aw (Mine.Internal.P.Fq 0 l (Nat.le_trans KL (by decide))) λKw hrun=>?_;have S:=uv (w:=w) (glob w.params om ob mb mc G.T.builtins) (FY w.params om ob mb mc) (FZ w.params om ob mb mc ⟨b4,b5,b6⟩) 10 22 [.lst (l.map .int)] [] (.bool true) Kw hrun callerA (F0 KQ.heap) [] KQ [.ref b] ⟨rfl,by decide,by decide⟩ hR0 V;rw[ea,ev,ha];refine wpAny_mono (S (λv s'=>GoodWG (PySem.Challenge.rw_uc0064_01.row.toRowW).claim (classAt Mi.heap) (ExcName.means Mi.heap) [.list (l.map .int)] KQ (.ok (.ret v)) s') λF' KJ v' h' tk S1 R1 V1=>?_) (λ_ _ x=>x) λ_ _ x=>x.elim;rw[(V1.inv:v'=_)];exact⟨.inl ⟨.bool true,.bool true,[],rfl,λ_=>rfl,.bool true,by kernel_rfl,λ_=>⟨List.nodup_nil,λ_ m=>nomatch m⟩⟩,C5 S1 X0 t1 t2 (let ⟨ps,e,_⟩:=R1.t1;⟨ps,e⟩) (let ⟨ps,e,_⟩:=R1.t2;⟨ps,e⟩),rfl,AllBare.of_eq hgens⟩
