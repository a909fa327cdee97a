import PyProof.Rows.All
import Wide.All
import OpenK.AllK
import Wide.FinOn
import PySem.Challenge.RW_in0312_01
open PySem PySem.W PyProof.Rows
set_option Elab.async false
namespace Mine.hd
theorem tw7821361960523482326:True:=trivial
theorem tw11539556534233449701:True:=trivial
theorem tw11910160795455381015:True:=trivial
theorem tw12939405126655055087:True:=trivial
theorem tw17054507655720011243:True:=trivial
theorem tw8210421348078903774:True:=trivial
theorem tw14205177575709318024:True:=trivial
theorem tw4021928978595405253:True:=trivial
theorem tw9467313397243273497:True:=trivial
theorem tw8664936974563722654:True:=trivial
theorem tw12565835363266740329:True:=trivial
theorem tw16064382804478563927:True:=trivial
theorem tw9298403506768410418:True:=trivial
theorem tw5189956158058943387:True:=trivial
theorem tw13474097485772985973:True:=trivial
theorem tw2708950531961675432:True:=trivial
theorem tw1809687716253123402:True:=trivial
theorem tw4856431653887292112:True:=trivial
theorem tw10949625832625181284:True:=trivial
theorem tw14189342980343032745:True:=trivial
theorem tw4181196891559700729:True:=trivial
theorem tw4972139816212722202:True:=trivial
theorem tw4282304852377368616:True:=trivial
theorem tw15637593595834871717:True:=trivial
theorem tw3182686827377200529:True:=trivial
theorem tw6998783941825042932:True:=trivial
theorem tw4282359134580295075:True:=trivial
theorem tw7494724483528729301:True:=trivial
theorem tw11629707937479629763:True:=trivial
theorem tw13220430256171166289:True:=trivial
theorem tw4990156530697904881:True:=trivial
theorem tw7698358502638924378:True:=trivial
theorem tw5987830557187376847:True:=trivial
theorem tw13466754112058979494:True:=trivial
theorem tw2134215046882385847:True:=trivial
theorem tw16649331688326792143:True:=trivial
theorem tw1580110805410547442:True:=trivial
theorem tw11249132867342737325:True:=trivial
theorem tw14294001040229213422:True:=trivial
theorem tw9600117475790353255:True:=trivial
theorem tw8724965967928493813:True:=trivial
theorem tw12575139184659369484:True:=trivial
theorem tw9131607905817354932:True:=trivial
theorem tw17087091549796120035:True:=trivial
theorem tw13566260322249332789:True:=trivial
theorem tw4478964076566166474:True:=trivial
theorem tw12832683148521936107:True:=trivial
theorem tw16302227732802510677:True:=trivial
theorem tw8887996145723391905:True:=trivial
theorem tw13092906067662860646:True:=trivial
theorem tw13585648185636399713:True:=trivial
theorem tw6046454685291232161:True:=trivial
theorem tw16692772259055178886:True:=trivial
theorem tw13218659294841961345:True:=trivial
theorem tw10172710858053320305:True:=trivial
theorem tw8117029840178788049:True:=trivial
theorem tw14031261019411111474:True:=trivial
theorem tw13321331477185743149:True:=trivial
theorem tw15422856539912107476:True:=trivial
theorem tw17542962492245011380:True:=trivial
theorem tw9341642984632610673:True:=trivial
theorem tw15179676742415161110:True:=trivial
theorem tw1689377841213677179:True:=trivial
theorem tw6957150274394394060:True:=trivial
theorem tw13671756088133313087:True:=trivial
theorem tw2139204274930982770:True:=trivial
theorem tw6759412095888398321:True:=trivial
theorem tw7626941382939369770:True:=trivial
theorem tw5667655126489319660:True:=trivial
theorem tw10778013660560245624:True:=trivial
theorem tw2992796643361555308:True:=trivial
theorem tw2788664435532181463:True:=trivial
theorem tw13255428261173160881:True:=trivial
theorem tw8161899039612259689:True:=trivial
theorem tw6785817131721698500:True:=trivial
theorem tw9427301549700849589:True:=trivial
theorem tw2603259988358896889:True:=trivial
theorem tw10752148897807903841:True:=trivial
theorem tw7702882491108231240:True:=trivial
theorem tw518976864732996251:True:=trivial
theorem tw12414669353804360901:True:=trivial
theorem tw14157391046456589319:True:=trivial
theorem tw13047593935725612058:True:=trivial
theorem tw3132252637357597028:True:=trivial
theorem tw5605480435847508373:True:=trivial
theorem tw10806950440038215891:True:=trivial
theorem tw15689870831250920624:True:=trivial
theorem tw9513423893830186035:True:=trivial
theorem tw7880807054014371918:True:=trivial
theorem tw5562173858411828344:True:=trivial
theorem tw5535567543195554156:True:=trivial
theorem tw15381450162410889989:True:=trivial
theorem tw13122850982685727845:True:=trivial
theorem tw10614716105012338702:True:=trivial
theorem tw956962677268122417:True:=trivial
theorem tw12561155100871721849:True:=trivial
theorem tw14725821394091407714:True:=trivial
theorem tw10117440562283002822:True:=trivial
theorem tw17002781174329755331:True:=trivial
theorem tw14202389858452103400:True:=trivial
theorem tw17491280204586788870:True:=trivial
theorem tw4788038989552484473:True:=trivial
theorem tw10595968288072337780:True:=trivial
theorem tw12521463284412890351:True:=trivial
theorem tw12268275109542032366:True:=trivial
theorem tw14006173549557618073:True:=trivial
theorem tw17252143746492648416:True:=trivial
theorem tw12900809124289342914:True:=trivial
theorem tw7891253978561527248:True:=trivial
theorem tw9556091483467459545:True:=trivial
theorem tw6320253292602491972:True:=trivial
theorem tw13206406409579783871:True:=trivial
theorem tw9842699097658496709:True:=trivial
theorem tw3533295568840377906:True:=trivial
theorem tw11551083187376567056:True:=trivial
theorem tw8047900516022102942:True:=trivial
theorem tw7081294716157063915:True:=trivial
theorem tw7815354588672045779:True:=trivial
theorem tw9277588360372424766:True:=trivial
theorem tw1331086792558400476:True:=trivial
theorem tw9459050058782445324:True:=trivial
theorem tw6164396464334811476:True:=trivial
theorem tw712733125156272447:True:=trivial
theorem tw2580477087445282633:True:=trivial
theorem tw17258206423299326598:True:=trivial
theorem tw5464967688985200232:True:=trivial
theorem tw9262719574752536145:True:=trivial
theorem tw16945582573551092051:True:=trivial
theorem tw4571812490670003109:True:=trivial
theorem tw16414904818172857274:True:=trivial
theorem tw718029691902183412:True:=trivial
theorem tw395138700845864316:True:=trivial
theorem tw2004659784336800654:True:=trivial
theorem tw18160293313031310949:True:=trivial
theorem tw17318795884933167856:True:=trivial
theorem tw8587404781116728655:True:=trivial
theorem tw7023726343779634624:True:=trivial
theorem tw307737655149646647:True:=trivial
theorem tw15089522573102190283:True:=trivial
theorem tw14906377314874228009:True:=trivial
theorem tw17088047866570459193:True:=trivial
theorem tw3878383114103592795:True:=trivial
theorem tw5513025101015932971:True:=trivial
theorem tw10879034167726328663:True:=trivial
theorem tw11162318198679636149:True:=trivial
theorem tw18241275227582772068:True:=trivial
theorem tw11319097763535126812:True:=trivial
theorem tw14743440263598761229:True:=trivial
theorem tw503842035214351869:True:=trivial
theorem tw257007361410690125:True:=trivial
theorem tw9390866547671247325:True:=trivial
theorem tw6769732088879122475:True:=trivial
theorem tw3484992998616243462:True:=trivial
theorem tw1382963296337349011:True:=trivial
theorem tw14852329139284432860:True:=trivial
theorem tw13051953538815563581:True:=trivial
theorem tw14667805832236412624:True:=trivial
theorem tw10224846074564989696:True:=trivial
theorem tw5278057926702712004:True:=trivial
theorem tw4642405928176397000:True:=trivial
theorem tw2502866573005156581:True:=trivial
theorem tw2315468765258864358:True:=trivial
theorem tw11893437276241958245:True:=trivial
theorem tw15856727013471470956:True:=trivial
theorem tw17672654358674132775:True:=trivial
theorem tw16456969618363192440:True:=trivial
theorem tw13164601040044201813:True:=trivial
theorem tw16759147789766475008:True:=trivial
theorem tw17034541987677670899:True:=trivial
theorem tw7763873220885509757:True:=trivial
theorem tw12480425521718506038:True:=trivial
theorem tw3480954088277226078:True:=trivial
theorem tw4015398097383911347:True:=trivial
theorem tw15967140613478806237:True:=trivial
theorem tw9783614193127449063:True:=trivial
theorem tw1997569388931296116:True:=trivial
theorem tw3504079246686126755:True:=trivial
theorem tw6199765714743212253:True:=trivial
theorem tw12611767792052310623:True:=trivial
theorem tw3876449026389394717:True:=trivial
theorem tw9312999139381119592:True:=trivial
theorem tw15166520500009309586:True:=trivial
theorem tw2252305205657439004:True:=trivial
theorem tw4360684699965382250:True:=trivial
theorem tw3763122126050802206:True:=trivial
theorem tw1194904439430580092:True:=trivial
theorem tw15833661619300960221:True:=trivial
theorem tw226724450230711188:True:=trivial
theorem tw15946356160694317329:True:=trivial
theorem tw5293500477943481205:True:=trivial
theorem tw4702841417184801058:True:=trivial
theorem tw15795242993344767468:True:=trivial
theorem tw8015326511298524721:True:=trivial
theorem tw4449123307109862055:True:=trivial
theorem tw998047205565582596:True:=trivial
theorem tw16744898341101239380:True:=trivial
theorem tw487103009237353774:True:=trivial
theorem tw3941438180925939637:True:=trivial
theorem tw18406568778348887127:True:=trivial
theorem tw3698263348304958635:True:=trivial
theorem tw500953250457666378:True:=trivial
theorem tw18152756486534528934:True:=trivial
theorem tw3451239065008710300:True:=trivial
theorem tw5842185385456739251:True:=trivial
theorem tw7898215921889874393:True:=trivial
theorem tw14896477498954680388:True:=trivial
theorem tw14960593345356199642:True:=trivial
theorem tw17925215291927510665:True:=trivial
theorem tw9657781627882305391:True:=trivial
theorem tw12949589719889679912:True:=trivial
theorem tw11117797201346649052:True:=trivial
theorem tw1617838721645859501:True:=trivial
theorem tw5130813555471234732:True:=trivial
theorem tw4730091804998409952:True:=trivial
theorem tw4494801613693538912:True:=trivial
theorem tw9429285754427346401:True:=trivial
theorem tw6469175993241445255:True:=trivial
theorem tw10905181550472923540:True:=trivial
theorem tw6506366617586733335:True:=trivial
theorem tw11984409736253958808:True:=trivial
theorem tw17679848547673146604:True:=trivial
theorem tw7519716089354478335:True:=trivial
theorem tw7174315439194531881:True:=trivial
theorem tw689954013368505116:True:=trivial
theorem tw16006246977917349235:True:=trivial
theorem tw3442329435671937591:True:=trivial
theorem tw3887682987991473952:True:=trivial
theorem tw7610815399733428385:True:=trivial
theorem tw10491609206876299696:True:=trivial
theorem tw1870067075039425230:True:=trivial
theorem tw7296583596125217682:True:=trivial
theorem tw5054737718236178183:True:=trivial
theorem tw5873113503399164460:True:=trivial
theorem tw519851828213033955:True:=trivial
theorem tw9566141503761928105:True:=trivial
theorem tw5306076463120387019:True:=trivial
theorem tw17795420018806894357:True:=trivial
theorem tw14246236162039180721:True:=trivial
theorem tw908340440784498289:True:=trivial
theorem tw8721321648031231958:True:=trivial
theorem tw18235018827726667335:True:=trivial
theorem tw15615420239508185596:True:=trivial
theorem tw8197050154876552520:True:=trivial
theorem tw12591134339009171964:True:=trivial
theorem tw15610959940260225430:True:=trivial
theorem tw6924109203229866365:True:=trivial
theorem tw16639802674150441104:True:=trivial
theorem tw12243682255763564212:True:=trivial
theorem tw4225703048834024713:True:=trivial
theorem tw10784824025267889561:True:=trivial
theorem tw4478177076189095293:True:=trivial
theorem tw11631869004601391166:True:=trivial
theorem tw16246848685605474055:True:=trivial
theorem tw3229955645248102723:True:=trivial
theorem tw17183224562656869120:True:=trivial
theorem tw5592821105494180994:True:=trivial
theorem tw17714235663813219645:True:=trivial
theorem tw14772383043592177042:True:=trivial
theorem tw17088974140843591490:True:=trivial
theorem tw1256466517863071783:True:=trivial
theorem tw13365295217650922812:True:=trivial
theorem tw8081886968326746073:True:=trivial
theorem tw3694398316872202419:True:=trivial
theorem tw9976723597467198900:True:=trivial
theorem tw11749099774412794130:True:=trivial
theorem tw11079593142295127227:True:=trivial
theorem tw17330945745186091897:True:=trivial
theorem tw9449672872311958731:True:=trivial
theorem tw18163647496604598072:True:=trivial
theorem tw7752767780024739350:True:=trivial
theorem tw17876089906941426215:True:=trivial
theorem tw714852897916480489:True:=trivial
theorem tw6352655612330318208:True:=trivial
theorem tw11587034568685482758:True:=trivial
theorem tw6636792957720756321:True:=trivial
theorem tw12232750017996463310:True:=trivial
theorem tw4778742480866408670:True:=trivial
theorem tw3816877163431070358:True:=trivial
theorem tw10905682514733158466:True:=trivial
theorem tw8977307856219701671:True:=trivial
theorem tw524290184858094138:True:=trivial
theorem tw9398405308114057262:True:=trivial
theorem tw7541792107247259296:True:=trivial
theorem tw5677198662683936330:True:=trivial
theorem tw15910714762333108613:True:=trivial
theorem tw2422473601153944625:True:=trivial
theorem tw1379335367625716243:True:=trivial
theorem tw9983995961361265002:True:=trivial
theorem tw18276290055522612736:True:=trivial
theorem tw9813410681712176819:True:=trivial
theorem tw11224897151958998736:True:=trivial
theorem tw1811199898794616982:True:=trivial
theorem tw1836080755315867724:True:=trivial
theorem tw2195365466389143174:True:=trivial
theorem tw13463106324228987060:True:=trivial
theorem tw578887228443019578:True:=trivial
theorem tw4027997239606545176:True:=trivial
theorem tw1893913032611223051:True:=trivial
theorem tw2781682124601125471:True:=trivial
theorem tw920214292312260371:True:=trivial
theorem tw3513125359445811510:True:=trivial
theorem tw6902198413751149823:True:=trivial
theorem tw7578210074245671484:True:=trivial
theorem tw3922637787740509324:True:=trivial
theorem tw10525666975642140466:True:=trivial
theorem tw1299046323782801668:True:=trivial
theorem tw17101829828953933863:True:=trivial
theorem tw16324354821937103263:True:=trivial
theorem tw1088296927520436173:True:=trivial
theorem tw2930668341846507884:True:=trivial
theorem tw11942693397608355085:True:=trivial
theorem tw6372862494175223470:True:=trivial
theorem tw11213053971927718326:True:=trivial
theorem tw12453114486196615683:True:=trivial
theorem tw368366308016060594:True:=trivial
theorem tw10203026625882799534:True:=trivial
theorem tw16415028865518655546:True:=trivial
theorem tw18300207936620678264:True:=trivial
theorem tw3039998526598829958:True:=trivial
theorem tw17956543221229664512:True:=trivial
theorem tw2562236817408797766:True:=trivial
theorem tw7175568609137494628:True:=trivial
theorem tw14103535550066685397:True:=trivial
theorem tw6060742912462422084:True:=trivial
theorem tw13624431586668435662:True:=trivial
theorem tw4210835263042620578:True:=trivial
theorem tw8273930003744585626:True:=trivial
theorem tw13025047050765560322:True:=trivial
theorem tw3759623122121258479:True:=trivial
theorem tw6291416237084387574:True:=trivial
theorem tw2595994805191909183:True:=trivial
theorem tw14914937398881237230:True:=trivial
theorem tw7540741092611519060:True:=trivial
theorem tw6184460063843016694:True:=trivial
theorem tw7941745277869089046:True:=trivial
theorem tw11032806212648032379:True:=trivial
theorem tw3419581819265744254:True:=trivial
theorem tw9908193460736022307:True:=trivial
theorem tw4136554803537287180:True:=trivial
theorem tw11378170653934975361:True:=trivial
theorem tw8044012406986999415:True:=trivial
theorem tw37099724090138251:True:=trivial
theorem tw17772917993097084435:True:=trivial
theorem tw12092154237167983948:True:=trivial
theorem tw3404104791013757517:True:=trivial
theorem tw16558851475291246605:True:=trivial
theorem tw313027258313007627:True:=trivial
theorem tw10465514089279642386:True:=trivial
theorem tw6181573660694698118:True:=trivial
theorem tw8228950375871286339:True:=trivial
theorem tw5388632664720090651:True:=trivial
theorem tw6407587892757256292:True:=trivial
theorem tw12590977762386282803:True:=trivial
theorem tw14859038896228082724:True:=trivial
theorem tw11232374478483605306:True:=trivial
theorem tw5238241317806426387:True:=trivial
theorem tw18264374347568628810:True:=trivial
theorem tw4218252797249083135:True:=trivial
theorem tw4508807971249618078:True:=trivial
theorem tw6081201349915205085:True:=trivial
theorem tw18131696352309475102:True:=trivial
theorem tw14683707025165767436:True:=trivial
theorem tw11638043884434779313:True:=trivial
theorem tw17574625026820762457:True:=trivial
theorem tw8965841893048198262:True:=trivial
theorem tw9271970288684553227:True:=trivial
theorem tw7654286748164834634:True:=trivial
theorem tw6663896369628448293:True:=trivial
theorem tw9555612238305686254:True:=trivial
theorem tw10031445930688152421:True:=trivial
theorem tw9614397579173300960:True:=trivial
theorem tw11663481321943121269:True:=trivial
theorem tw3915529967508079626:True:=trivial
theorem tw2295870552580634182:True:=trivial
theorem tw16853252838358632063:True:=trivial
theorem tw13342606739435360313:True:=trivial
theorem tw6547078798241139092:True:=trivial
theorem tw1939978651307754801:True:=trivial
theorem tw12747056698307629718:True:=trivial
theorem tw6800881396052196260:True:=trivial
theorem tw14705683404202351889:True:=trivial
theorem tw2042874687063273074:True:=trivial
theorem tw4780371949962762201:True:=trivial
theorem tw12676414471582705871:True:=trivial
theorem tw12172025689391634812:True:=trivial
theorem tw14810379563594542694:True:=trivial
theorem tw1208734638264122097:True:=trivial
theorem tw1712922718373300912:True:=trivial
theorem tw6824622198901579176:True:=trivial
theorem tw16178712458983371728:True:=trivial
theorem tw18252017834820373320:True:=trivial
theorem tw15642763164714097627:True:=trivial
theorem tw9496365245306024149:True:=trivial
theorem tw8960069828448710407:True:=trivial
theorem tw7657299143145469618:True:=trivial
theorem tw17312999752573914782:True:=trivial
theorem tw12678320250165599508:True:=trivial
theorem tw1011335219593555734:True:=trivial
theorem tw8293946417935249925:True:=trivial
theorem tw15931116738044738221:True:=trivial
theorem tw3536873572635521401:True:=trivial
theorem tw6278647508926252785:True:=trivial
theorem tw15852365999677673905:True:=trivial
theorem tw15043168886218598503:True:=trivial
theorem tw18291419657060728153:True:=trivial
theorem tw6818987989461384207:True:=trivial
theorem tw6819212343860736726:True:=trivial
theorem tw2448417245163862455:True:=trivial
theorem tw18233516762306594366:True:=trivial
theorem tw7540655947842036084:True:=trivial
theorem tw1717729237380139383:True:=trivial
theorem tw9787125683330832049:True:=trivial
theorem tw17325209927041812611:True:=trivial
theorem tw9215163618515126356:True:=trivial
theorem tw4126306136578151734:True:=trivial
theorem tw9048539425550374019:True:=trivial
theorem tw16794629799341752650:True:=trivial
theorem tw3890083515106143593:True:=trivial
theorem tw3109861748172591687:True:=trivial
theorem tw5781342201191254626:True:=trivial
theorem tw4768578896829404305:True:=trivial
theorem tw5505005885091257285:True:=trivial
theorem tw6394381022753523788:True:=trivial
theorem tw663384727985864361:True:=trivial
theorem tw3722166409189360004:True:=trivial
theorem tw8242931771332617035:True:=trivial
theorem tw7640094616464845771:True:=trivial
theorem tw457024733287443684:True:=trivial
theorem tw152250937536480880:True:=trivial
theorem tw13347369733751428629:True:=trivial
theorem tw12976082216212581069:True:=trivial
theorem tw4523669819894539328:True:=trivial
theorem tw8381844023166312768:True:=trivial
theorem tw15527848837575444561:True:=trivial
theorem tw7191455744419660376:True:=trivial
theorem tw3085183777334472315:True:=trivial
theorem tw11402939732021071671:True:=trivial
theorem tw16713699803418581334:True:=trivial
theorem tw10102539355485613405:True:=trivial
theorem tw7240586211207864342:True:=trivial
theorem tw5138769234217329475:True:=trivial
theorem tw2216850387143573719:True:=trivial
theorem tw17969167859971792583:True:=trivial
theorem tw574300837803046910:True:=trivial
theorem tw11319892378374348655:True:=trivial
theorem tw9132557439983319658:True:=trivial
theorem tw16661405048812198066:True:=trivial
theorem tw11968265576560266318:True:=trivial
theorem tw15033227074091944939:True:=trivial
theorem tw16976501156681295568:True:=trivial
theorem tw6709418730364537143:True:=trivial
theorem tw1184127607605381967:True:=trivial
theorem tw10024716035694756283:True:=trivial
theorem tw6838551448383532254:True:=trivial
theorem tw7914949630228597729:True:=trivial
theorem tw1386097877827089520:True:=trivial
theorem tw12131494931117144662:True:=trivial
theorem tw243823211424636713:True:=trivial
theorem tw12936449754285732098:True:=trivial
theorem tw442638132926106271:True:=trivial
theorem tw18203504233945503714:True:=trivial
theorem tw7839823952615728111:True:=trivial
theorem tw17588044629489971554:True:=trivial
theorem tw8004679753235328684:True:=trivial
theorem tw1610171440888473627:True:=trivial
theorem tw825126770350376351:True:=trivial
theorem tw10246146449241189800:True:=trivial
theorem tw3704167492566942397:True:=trivial
theorem tw5629675986466331604:True:=trivial
theorem tw15790720579355451973:True:=trivial
theorem tw10111801491309104144:True:=trivial
theorem tw16547865195752855329:True:=trivial
theorem tw17895171251205151618:True:=trivial
theorem tw11194669416261925730:True:=trivial
theorem tw2598446214317162929:True:=trivial
theorem tw12744807935193187038:True:=trivial
theorem tw14440960662653809013:True:=trivial
theorem tw6868836192036940282:True:=trivial
theorem tw9476321141362543215:True:=trivial
theorem tw5983496337302601536:True:=trivial
theorem tw5362516397382645915:True:=trivial
theorem tw11631947586910100387:True:=trivial
theorem tw9170477692918782315:True:=trivial
theorem tw1445366717492459972:True:=trivial
theorem tw15367242080415987702:True:=trivial
theorem tw10403243965636340961:True:=trivial
theorem tw432457690288141553:True:=trivial
theorem tw9990345226319884068:True:=trivial
theorem tw7872162285098387286:True:=trivial
theorem tw5220083430330967483:True:=trivial
theorem tw858883931015391567:True:=trivial
theorem tw7153062008950511462:True:=trivial
theorem tw567884609423149705:True:=trivial
theorem tw11128854368766332075:True:=trivial
theorem tw4355604671862981090:True:=trivial
theorem tw10947534242169238906:True:=trivial
theorem tw3429492842335990350:True:=trivial
theorem tw13893168526513508166:True:=trivial
theorem tw11513968764499736323:True:=trivial
theorem tw10195207025132199040:True:=trivial
theorem tw9244321171653502345:True:=trivial
theorem tw5433107678231618845:True:=trivial
theorem tw2799716289819351777:True:=trivial
theorem tw14553816603554493358:True:=trivial
theorem tw4817003022231809500:True:=trivial
theorem tw17919194246423945575:True:=trivial
theorem tw7676003278276379012:True:=trivial
theorem tw5464280966869935822:True:=trivial
theorem tw4125931394999656194:True:=trivial
theorem tw18087722134493236510:True:=trivial
theorem tw3608708970678896270:True:=trivial
theorem tw10934634478434655930:True:=trivial
theorem tw12173100003817136821:True:=trivial
theorem tw100483095206116625:True:=trivial
theorem tw1241404454085649124:True:=trivial
theorem tw5106143834845376506:True:=trivial
theorem tw9702936160620672325:True:=trivial
theorem tw13944508082162953488:True:=trivial
theorem tw15427206886491885616:True:=trivial
theorem tw6123773746684550334:True:=trivial
theorem tw561391293025646643:True:=trivial
theorem tw14029546391885035639:True:=trivial
theorem tw13475242022060392486:True:=trivial
theorem tw17429513623812275283:True:=trivial
theorem tw1781861727890032366:True:=trivial
theorem tw12337632362937886050:True:=trivial
theorem tw7379015992945566340:True:=trivial
theorem tw14454528878903484812:True:=trivial
theorem tw16868993833207775613:True:=trivial
theorem tw17177331786930743035:True:=trivial
theorem tw12861998865439983172:True:=trivial
theorem tw8735263284916673568:True:=trivial
theorem tw22944897461248836:True:=trivial
theorem tw16412773359747925120:True:=trivial
theorem tw7399621439246259153:True:=trivial
theorem tw13531707123254989501:True:=trivial
theorem tw5190246844813560578:True:=trivial
theorem tw11905163887095721015:True:=trivial
theorem tw2729298822523640997:True:=trivial
theorem tw2480057099694739299:True:=trivial
theorem tw12070654863422294720:True:=trivial
theorem tw10404513684093684653:True:=trivial
theorem tw4975429006339234634:True:=trivial
theorem tw8773699223549846113:True:=trivial
theorem tw17278324374586462682:True:=trivial
theorem tw18245042118932799458:True:=trivial
theorem tw2658526732547218105:True:=trivial
theorem tw2616952524820836436:True:=trivial
theorem tw12331051067403766639:True:=trivial
theorem tw8479784124755550697:True:=trivial
theorem tw10763509664835889504:True:=trivial
theorem tw13409441903868389331:True:=trivial
theorem tw10844753989422098599:True:=trivial
theorem tw14817486215969520457:True:=trivial
theorem tw9864973744126774698:True:=trivial
theorem tw6140570298594658328:True:=trivial
theorem tw5643178794243155062:True:=trivial
theorem tw13285133528070534704:True:=trivial
theorem tw4478166936697009375:True:=trivial
theorem tw1452849714261714991:True:=trivial
theorem tw12602439190401603521:True:=trivial
theorem tw4014540891139286612:True:=trivial
theorem tw940617070666608080:True:=trivial
theorem tw1728934660973012959:True:=trivial
theorem tw8898355551111435312:True:=trivial
theorem tw6374767894290048045:True:=trivial
theorem tw8716120427605611371:True:=trivial
theorem tw16919406825032445293:True:=trivial
theorem tw3660579746685279459:True:=trivial
theorem tw5247051413645994129:True:=trivial
theorem tw18368451091360184599:True:=trivial
theorem tw16853341256802265648:True:=trivial
theorem tw5363428345988834438:True:=trivial
theorem tw10944956837784636368:True:=trivial
theorem tw17583924267553061668:True:=trivial
theorem tw8345560877234265574:True:=trivial
theorem tw5486487638281291605:True:=trivial
theorem tw4605659447877369497:True:=trivial
theorem tw14446474709323646786:True:=trivial
theorem tw3478764184967624034:True:=trivial
theorem tw17335414052712997756:True:=trivial
theorem tw1511243299971373483:True:=trivial
theorem tw1013155817946168525:True:=trivial
theorem tw1760603350576429475:True:=trivial
theorem tw12642813592246648485:True:=trivial
theorem tw15634565183472343292:True:=trivial
theorem tw5567388512258382067:True:=trivial
theorem tw6109525258741381055:True:=trivial
theorem tw13866372431405929976:True:=trivial
theorem tw5245234834050458271:True:=trivial
theorem tw3386092968808520798:True:=trivial
theorem tw8184699220007379433:True:=trivial
theorem tw1535757262459896012:True:=trivial
theorem tw16722109127936396110:True:=trivial
theorem tw9093973985421514848:True:=trivial
theorem tw6761669909254768831:True:=trivial
theorem tw3493717111155160527:True:=trivial
theorem tw9983964734214183352:True:=trivial
theorem tw18293851220164018083:True:=trivial
theorem tw4993660671451451078:True:=trivial
theorem tw4735155535324382492:True:=trivial
theorem tw6293948785866598258:True:=trivial
theorem tw3571134770919094901:True:=trivial
theorem tw12669576375859063689:True:=trivial
theorem tw15279998641719260112:True:=trivial
theorem tw381697539089829889:True:=trivial
theorem tw7120233287515763914:True:=trivial
theorem tw7867956165831070988:True:=trivial
theorem tw5716766192118558609:True:=trivial
theorem tw5416991563250132298:True:=trivial
theorem tw6163730186589392659:True:=trivial
theorem tw4870687313549177768:True:=trivial
theorem tw3027216511499375627:True:=trivial
theorem tw15766875824913328220:True:=trivial
theorem tw15384028259256376558:True:=trivial
theorem tw7372000682148998216:True:=trivial
theorem tw11917015161858427179:True:=trivial
theorem tw1097998534492414930:True:=trivial
theorem tw1157804721814978856:True:=trivial
theorem tw15987713032478767096:True:=trivial
theorem tw9617658007855726926:True:=trivial
theorem tw8803977449572941912:True:=trivial
theorem tw2371736936440567457:True:=trivial
theorem tw15416985209724490359:True:=trivial
theorem tw9499510787657705874:True:=trivial
theorem tw17992175057805443440:True:=trivial
theorem tw4377701919642642989:True:=trivial
theorem tw17330132731328240911:True:=trivial
theorem tw2578790182627478330:True:=trivial
theorem tw15199589371867527261:True:=trivial
theorem tw15683763237869141255:True:=trivial
theorem tw3919010098100093602:True:=trivial
theorem tw656455966557771466:True:=trivial
theorem tw3920623390966001496:True:=trivial
theorem tw5635641802508607975:True:=trivial
theorem tw15759970867653108152:True:=trivial
theorem tw14439243815434019604:True:=trivial
theorem tw13638418597567726942:True:=trivial
theorem tw12588582704262371052:True:=trivial
theorem tw5010264101278932077:True:=trivial
theorem tw12901994302517312135:True:=trivial
theorem tw1478417189504633665:True:=trivial
theorem tw11210553801493137410:True:=trivial
theorem tw14768889098011018680:True:=trivial
theorem tw15529170255622000948:True:=trivial
theorem tw12447509897640257713:True:=trivial
theorem tw845060206244984605:True:=trivial
theorem tw11109741339103130912:True:=trivial
theorem tw3182187488490625086:True:=trivial
theorem tw1557243174674812401:True:=trivial
theorem tw7270182246851987180:True:=trivial
theorem tw5850991567925798318:True:=trivial
theorem tw2114630138375439770:True:=trivial
theorem tw212345690472687942:True:=trivial
theorem tw10772546034069785438:True:=trivial
theorem tw15697423400787487869:True:=trivial
theorem tw8179070454071193570:True:=trivial
theorem tw10847404155465417027:True:=trivial
theorem tw9258712216579463092:True:=trivial
theorem tw16587392273704687506:True:=trivial
theorem tw13532847315355080253:True:=trivial
theorem tw469108185253701220:True:=trivial
theorem tw13616292390063288746:True:=trivial
theorem tw13322179722446271537:True:=trivial
theorem tw10604169790165778682:True:=trivial
theorem tw1643121930917553208:True:=trivial
theorem tw5314207354894814357:True:=trivial
theorem tw8351282476255451920:True:=trivial
theorem tw9406673726873002282:True:=trivial
theorem tw16684818696116721337:True:=trivial
theorem tw3088336149111003398:True:=trivial
theorem tw14685462170515437407:True:=trivial
theorem tw9748044761591592747:True:=trivial
theorem tw13770079208771991547:True:=trivial
theorem tw11283319371284918911:True:=trivial
theorem tw2509285483865878365:True:=trivial
theorem tw1506431575118746342:True:=trivial
theorem tw4878824753759274627:True:=trivial
theorem tw5373601922739893978:True:=trivial
theorem tw15213948185873263833:True:=trivial
theorem tw3649758429140192277:True:=trivial
theorem tw10860895700388868024:True:=trivial
theorem tw3793221421916198646:True:=trivial
theorem tw11912922877643110818:True:=trivial
theorem tw6418103052136555383:True:=trivial
theorem tw9627899436633539337:True:=trivial
theorem tw10727248033764811480:True:=trivial
theorem tw10643592516055977328:True:=trivial
theorem tw10273187271170590260:True:=trivial
theorem tw12629531694177875297:True:=trivial
theorem tw7793673504863384051:True:=trivial
theorem tw18268791191939849864:True:=trivial
theorem tw8789358453043137523:True:=trivial
theorem tw16694946328126371552:True:=trivial
theorem tw13114069646651913822:True:=trivial
theorem tw7512474625130614241:True:=trivial
theorem tw5206456813468324048:True:=trivial
theorem tw16171809288044610508:True:=trivial
theorem tw2001351230973187099:True:=trivial
theorem tw17130151131035750659:True:=trivial
theorem tw17950676927832955104:True:=trivial
theorem tw17649441919526076750:True:=trivial
theorem tw12487502673411948298:True:=trivial
theorem tw15048261121198461528:True:=trivial
theorem tw11399449904127653305:True:=trivial
theorem tw3219085151875037572:True:=trivial
theorem tw7317836474542784337:True:=trivial
theorem tw5547500650982815111:True:=trivial
theorem tw8112040973832200146:True:=trivial
theorem tw15277330632498426303:True:=trivial
theorem tw15508949281206285077:True:=trivial
theorem tw11256106856564762260:True:=trivial
theorem tw6442067068224118133:True:=trivial
theorem tw7628703163842673926:True:=trivial
theorem tw6755925336976613232:True:=trivial
theorem tw3350930974749635488:True:=trivial
theorem tw8428860471423672150:True:=trivial
theorem tw5366084841770067474:True:=trivial
theorem tw10835030195340973342:True:=trivial
theorem tw102014493982917126:True:=trivial
theorem tw16052320808349706082:True:=trivial
theorem tw16194383521188589630:True:=trivial
theorem tw15344866539931968096:True:=trivial
theorem tw16432713993328977331:True:=trivial
theorem tw4074112789689628901:True:=trivial
theorem tw5480042469492414594:True:=trivial
theorem tw2391449824757734642:True:=trivial
theorem tw12393119488966705847:True:=trivial
theorem tw11151547217846952531:True:=trivial
theorem tw16091413853298234908:True:=trivial
theorem tw11623594800819314181:True:=trivial
theorem tw10507497572311344420:True:=trivial
theorem tw14462709497994964445:True:=trivial
theorem tw9673543361469618366:True:=trivial
theorem tw11472165163037031739:True:=trivial
theorem tw7369741819223213686:True:=trivial
theorem tw8931695957890008076:True:=trivial
theorem tw14579804019780415049:True:=trivial
theorem tw10819331528351526247:True:=trivial
theorem tw17217394356764393341:True:=trivial
theorem tw6879831473291441079:True:=trivial
theorem tw4172343393113369950:True:=trivial
theorem tw10792051664901133789:True:=trivial
theorem tw17347436560843906493:True:=trivial
theorem tw16635604280276938560:True:=trivial
theorem tw185848376630758926:True:=trivial
theorem tw953381059840148835:True:=trivial
theorem tw6767318904944593275:True:=trivial
theorem tw17570734847185409352:True:=trivial
theorem tw15220180469806662145:True:=trivial
theorem tw10781468475247234061:True:=trivial
theorem tw13562760996464443880:True:=trivial
theorem tw4111692666942324129:True:=trivial
theorem tw12364972598781006883:True:=trivial
theorem tw8652628183442184457:True:=trivial
theorem tw701333769924781912:True:=trivial
theorem tw13606922415975196911:True:=trivial
theorem tw9641152695372364146:True:=trivial
theorem tw11364443708160879001:True:=trivial
theorem tw1191670712832166235:True:=trivial
theorem tw15378359858306647822:True:=trivial
theorem tw6988595667528144454:True:=trivial
theorem tw10678649693572172417:True:=trivial
theorem tw11054480109507316185:True:=trivial
theorem tw17739348878880393726:True:=trivial
theorem tw9763420282994701918:True:=trivial
theorem tw6438293893037913957:True:=trivial
theorem tw1847840615245081061:True:=trivial
theorem tw5420774739373220312:True:=trivial
theorem tw3443669649825651883:True:=trivial
theorem tw9087110039335098043:True:=trivial
theorem tw13262116225945230012:True:=trivial
theorem tw11775305588321162381:True:=trivial
theorem tw13181700845877081190:True:=trivial
theorem tw2284436838669742495:True:=trivial
theorem tw16795040122137113940:True:=trivial
theorem tw10558106933452604415:True:=trivial
theorem tw3405361230339686725:True:=trivial
theorem tw13840357560478945406:True:=trivial
theorem tw3646829019195819677:True:=trivial
theorem tw16056359734778111409:True:=trivial
theorem tw13155780701260043360:True:=trivial
theorem tw6423634429210846174:True:=trivial
theorem tw12035623454917710897:True:=trivial
theorem tw9345929723534960622:True:=trivial
theorem tw16409295683739894939:True:=trivial
theorem tw16477043939570097188:True:=trivial
theorem tw12050417470231563642:True:=trivial
theorem tw1197925565968671727:True:=trivial
theorem tw17495340751864218003:True:=trivial
theorem tw8683856772340465682:True:=trivial
theorem tw697623264460660564:True:=trivial
theorem tw13217827037086042188:True:=trivial
theorem tw15889433306838628275:True:=trivial
theorem tw17989097746536338734:True:=trivial
theorem tw10947331860392259696:True:=trivial
theorem tw4916360252006170105:True:=trivial
theorem tw17948085552500728524:True:=trivial
theorem tw4068527845204499245:True:=trivial
theorem tw15946388913382835224:True:=trivial
theorem tw12614811148066621264:True:=trivial
theorem tw13903934854276604550:True:=trivial
theorem tw6965799899956892507:True:=trivial
theorem tw16901702188551787459:True:=trivial
theorem tw16158619036321959407:True:=trivial
theorem tw6646985988748340704:True:=trivial
theorem tw10654345511274693656:True:=trivial
theorem tw8312999807965096350:True:=trivial
theorem tw8268277133935991078:True:=trivial
theorem tw8191903926673212241:True:=trivial
theorem tw2068664650715991707:True:=trivial
theorem tw18421049791903953903:True:=trivial
theorem tw3795277891434052102:True:=trivial
theorem tw15923250282426842828:True:=trivial
theorem tw12629568148972539762:True:=trivial
theorem tw17454471701868102899:True:=trivial
theorem tw17668637344460488510:True:=trivial
theorem tw5318216170032084099:True:=trivial
theorem tw5608270528595127837:True:=trivial
theorem tw17070941380808615275:True:=trivial
theorem tw1582976572388173787:True:=trivial
theorem tw5343241284826551009:True:=trivial
theorem tw10737458330869947321:True:=trivial
theorem tw7006195865600381663:True:=trivial
theorem tw11944089378579575875:True:=trivial
theorem tw137786328141462057:True:=trivial
theorem tw6906073325868019850:True:=trivial
theorem tw14294344414604881677:True:=trivial
theorem tw13828106393651249627:True:=trivial
theorem tw7365426131469257241:True:=trivial
theorem tw8609351116199087170:True:=trivial
theorem tw2867327485932766208:True:=trivial
theorem tw13315533130655954831:True:=trivial
theorem tw9153386212771759811:True:=trivial
theorem tw10845626234925267891:True:=trivial
theorem tw3196170801527574987:True:=trivial
theorem tw9325612240067072397:True:=trivial
theorem tw14168552714766633299:True:=trivial
theorem tw16053994301053490033:True:=trivial
theorem tw7752569895197466512:True:=trivial
theorem tw16858285156579221889:True:=trivial
theorem tw4315991029959535628:True:=trivial
theorem tw17232729238497989147:True:=trivial
theorem tw3333446698644548216:True:=trivial
theorem tw2478460114941205899:True:=trivial
theorem tw7691918140598264929:True:=trivial
theorem tw10030107230732127627:True:=trivial
theorem tw13490871333126383818:True:=trivial
theorem tw8317466277049474617:True:=trivial
theorem tw12727495553239364174:True:=trivial
theorem tw16970440968685349367:True:=trivial
theorem tw7080932558258925280:True:=trivial
theorem tw15687388767607454252:True:=trivial
theorem tw402640490398009360:True:=trivial
theorem tw12659318050587179527:True:=trivial
theorem tw8600361732997149524:True:=trivial
theorem tw12976186185376257304:True:=trivial
theorem tw10788059911547816233:True:=trivial
theorem tw17893044597097874663:True:=trivial
theorem tw11915594877312485397:True:=trivial
theorem tw6184208073178115725:True:=trivial
theorem tw8912348807662434688:True:=trivial
theorem tw3452591251010201329:True:=trivial
theorem tw5516785719162176838:True:=trivial
theorem tw9386895884608548742:True:=trivial
theorem tw10450363280022070651:True:=trivial
theorem tw881544763273948857:True:=trivial
theorem tw14438451200097066615:True:=trivial
theorem tw5899666649113621702:True:=trivial
theorem tw12459740579856956213:True:=trivial
theorem tw11136197038861592535:True:=trivial
theorem tw17062030032774818151:True:=trivial
theorem tw4091639524402994376:True:=trivial
theorem tw6196171512934965099:True:=trivial
theorem tw11632984921778587759:True:=trivial
theorem tw978945382295711627:True:=trivial
theorem tw2000490053193787569:True:=trivial
theorem tw12778418089203562962:True:=trivial
theorem tw2167537188350426706:True:=trivial
theorem tw14078009766183191694:True:=trivial
theorem tw15084132493965779093:True:=trivial
theorem tw17447410573909459338:True:=trivial
theorem tw14176624398918483544:True:=trivial
theorem tw867598499069673859:True:=trivial
theorem tw14478148883734587675:True:=trivial
theorem tw5349468858366643911:True:=trivial
theorem tw125302361856450738:True:=trivial
theorem tw15595854959937240912:True:=trivial
theorem tw12579596248316191183:True:=trivial
theorem tw8343274005884668182:True:=trivial
theorem tw7354087734392854552:True:=trivial
theorem tw5021546742003373373:True:=trivial
theorem tw16169374299450900766:True:=trivial
theorem tw9013056391748086436:True:=trivial
theorem tw3381375190539634487:True:=trivial
theorem tw13001811119718631651:True:=trivial
theorem tw1331487369976884630:True:=trivial
theorem tw424627922949020093:True:=trivial
theorem tw7355570028127101125:True:=trivial
theorem tw4367455430839740993:True:=trivial
theorem tw9155422001095189878:True:=trivial
theorem tw9330943631129107780:True:=trivial
theorem tw5036846961687405229:True:=trivial
theorem tw14954956809187926962:True:=trivial
theorem tw7256068157193428750:True:=trivial
theorem tw5405509625223553959:True:=trivial
theorem tw4182648748547736412:True:=trivial
theorem tw16029623286316568529:True:=trivial
theorem tw14706022693812145444:True:=trivial
theorem tw8802903590519067506:True:=trivial
theorem tw9015120594892650770:True:=trivial
theorem tw6615107907471364465:True:=trivial
theorem tw7366208706002141716:True:=trivial
theorem tw11778180911958503814:True:=trivial
theorem tw17903497710992402801:True:=trivial
theorem tw16257038226119295666:True:=trivial
theorem tw3817797698339224179:True:=trivial
theorem tw13330244855972007585:True:=trivial
theorem tw8945485805214734075:True:=trivial
theorem tw5292301768408028288:True:=trivial
theorem tw250903467453971090:True:=trivial
theorem tw10955317050725887447:True:=trivial
theorem tw14444963742821833902:True:=trivial
theorem tw10170382586518783626:True:=trivial
theorem tw5322579261384874668:True:=trivial
theorem tw15463257786427224491:True:=trivial
theorem tw12113243949977362033:True:=trivial
theorem tw18176940659606848779:True:=trivial
theorem tw1098510452882186669:True:=trivial
theorem tw3241458686731973266:True:=trivial
theorem tw6539292009479989668:True:=trivial
theorem tw15677629932584476913:True:=trivial
theorem tw15578025631644234493:True:=trivial
theorem tw11038495425325230296:True:=trivial
theorem tw6848782300941138395:True:=trivial
theorem tw2448992281723591503:True:=trivial
theorem tw1409312971732116557:True:=trivial
theorem tw11317441945952112565:True:=trivial
theorem tw12211380539166087753:True:=trivial
theorem tw2900905267640511130:True:=trivial
theorem tw6528754448969337418:True:=trivial
theorem tw12175748835895409678:True:=trivial
theorem tw1632911306035174240:True:=trivial
theorem tw7598622570094877466:True:=trivial
theorem tw5148922909946612681:True:=trivial
theorem tw7573478926670427865:True:=trivial
theorem tw7644636733232180493:True:=trivial
theorem tw2783992281797965187:True:=trivial
theorem tw1584506945513601688:True:=trivial
theorem tw2063697594609225973:True:=trivial
theorem tw11898664097942606779:True:=trivial
theorem tw13994979335412520660:True:=trivial
theorem tw13363553139645760527:True:=trivial
theorem tw6819123309680001836:True:=trivial
theorem tw13929354066492186541:True:=trivial
theorem tw11672842613191775419:True:=trivial
theorem tw17042127469401951884:True:=trivial
theorem tw13129650132239662433:True:=trivial
theorem tw12494558936816996605:True:=trivial
theorem tw1600037746751723098:True:=trivial
theorem tw16011055738799735888:True:=trivial
theorem tw2304311442786299043:True:=trivial
theorem tw13293453174229064190:True:=trivial
theorem tw3418235910006150233:True:=trivial
theorem tw11011131195910976488:True:=trivial
theorem tw17066044127408595049:True:=trivial
theorem tw12801095385675086049:True:=trivial
theorem tw5859118754885311737:True:=trivial
theorem tw7712595579559962911:True:=trivial
theorem tw4833718069199227053:True:=trivial
theorem tw16896567674234606475:True:=trivial
theorem tw8801323125487838256:True:=trivial
theorem tw16464424236575238572:True:=trivial
theorem tw7082855905992002993:True:=trivial
theorem tw17336936450418997793:True:=trivial
theorem tw758273949599710562:True:=trivial
theorem tw17470177872615007328:True:=trivial
theorem tw6982297934935202809:True:=trivial
theorem tw17975533764899295144:True:=trivial
theorem tw14560493823538711346:True:=trivial
theorem tw9330823016148744750:True:=trivial
theorem tw17673860158736603733:True:=trivial
theorem tw14612060388864693735:True:=trivial
theorem tw8881176148764397765:True:=trivial
theorem tw8538877666451538035:True:=trivial
theorem tw2442259710966052079:True:=trivial
theorem tw17696971302532935780:True:=trivial
theorem tw12399718760709695909:True:=trivial
theorem tw17902569758825723728:True:=trivial
theorem tw14673209030070457562:True:=trivial
theorem tw4292457097857839397:True:=trivial
theorem tw11180023125335031430:True:=trivial
theorem tw5715356086224469760:True:=trivial
theorem tw7492944070806833698:True:=trivial
theorem tw10286656452748174568:True:=trivial
theorem tw16138627921320673191:True:=trivial
theorem tw14586822029978311858:True:=trivial
theorem tw190519026028168232:True:=trivial
theorem tw11953376511379268794:True:=trivial
theorem tw3530705653197291679:True:=trivial
theorem tw8690549050251857956:True:=trivial
theorem tw7492773218913965947:True:=trivial
theorem tw16914215919094292968:True:=trivial
theorem tw4946210868454251104:True:=trivial
theorem tw2855845756224970109:True:=trivial
theorem tw12127338746724423809:True:=trivial
theorem tw16156708551869547534:True:=trivial
theorem tw17901334829092211166:True:=trivial
theorem tw16904818350239718627:True:=trivial
theorem tw7927469264209771579:True:=trivial
theorem tw4958948430592982816:True:=trivial
theorem tw33583606019346890:True:=trivial
theorem tw11251137523995926341:True:=trivial
theorem tw2323474266016966308:True:=trivial
theorem tw7534799579077118603:True:=trivial
theorem tw2315301623876862497:True:=trivial
theorem tw11126320352707459272:True:=trivial
theorem tw14558808003701164192:True:=trivial
theorem tw14711139521213225765:True:=trivial
theorem tw7289601568589263668:True:=trivial
theorem tw11572620602659225360:True:=trivial
theorem tw5574845727924001799:True:=trivial
theorem tw4086058157674990017:True:=trivial
theorem tw728884934406724761:True:=trivial
theorem tw10933677585905718993:True:=trivial
theorem tw2394040479862359591:True:=trivial
theorem tw12870888531099404533:True:=trivial
theorem tw12995909851351757392:True:=trivial
theorem tw7525542149764818722:True:=trivial
theorem tw12058812876911547015:True:=trivial
theorem tw17420951861521290806:True:=trivial
theorem tw12451100950165386860:True:=trivial
theorem tw7339039647409124788:True:=trivial
theorem tw9430268157657104642:True:=trivial
theorem tw4424954536736003961:True:=trivial
theorem tw16007149819294483003:True:=trivial
theorem tw15643275761693703936:True:=trivial
theorem tw4588759680514747648:True:=trivial
theorem tw2386827423013361158:True:=trivial
theorem tw6019021122589006684:True:=trivial
theorem tw3940546777539579641:True:=trivial
theorem tw7721951785955056133:True:=trivial
theorem tw17599816209265215132:True:=trivial
theorem tw16154546982801380032:True:=trivial
theorem tw16037735763661986305:True:=trivial
theorem tw17994825080979385314:True:=trivial
theorem tw5334465803284312953:True:=trivial
theorem tw6308581086252854402:True:=trivial
theorem tw10292235466723388172:True:=trivial
theorem tw511748877826530558:True:=trivial
theorem tw14969688514271112891:True:=trivial
theorem tw1954109241102656831:True:=trivial
theorem tw1848646778235469078:True:=trivial
theorem tw7850187754069100156:True:=trivial
theorem tw13609717118414637909:True:=trivial
theorem tw4272726840584523970:True:=trivial
theorem tw3259873300814134281:True:=trivial
theorem tw2505046432360240130:True:=trivial
theorem tw14143348200573808938:True:=trivial
theorem tw11375277706881905925:True:=trivial
theorem tw16441392401534740728:True:=trivial
theorem tw8458067239894703972:True:=trivial
theorem tw15368132723985388332:True:=trivial
theorem tw8531993380330477603:True:=trivial
theorem tw16155205043701107222:True:=trivial
theorem tw8269573656231971908:True:=trivial
theorem tw14980023328507725902:True:=trivial
theorem tw13642289790063256904:True:=trivial
theorem tw11595982170579460384:True:=trivial
theorem tw6679266806504041263:True:=trivial
theorem tw155142512498542641:True:=trivial
theorem tw16227762859984022837:True:=trivial
theorem tw10365702040365258594:True:=trivial
theorem tw7754304195085646258:True:=trivial
theorem tw2839761810297210574:True:=trivial
theorem tw8671608845466749128:True:=trivial
theorem tw7261450039545342454:True:=trivial
theorem tw242841246431481386:True:=trivial
theorem tw18095200977026478895:True:=trivial
theorem tw17992873397187703194:True:=trivial
theorem tw10258999931320997221:True:=trivial
theorem tw8990313861142287110:True:=trivial
theorem tw1289562870276855104:True:=trivial
theorem tw14040608126747316905:True:=trivial
theorem tw16823583209533085739:True:=trivial
theorem tw1800889605409440832:True:=trivial
theorem tw18103342009636024947:True:=trivial
theorem tw16473244170626142550:True:=trivial
theorem tw6305734824756694309:True:=trivial
theorem tw5118731587858937692:True:=trivial
theorem tw15074197538484233485:True:=trivial
theorem tw7510230149288206974:True:=trivial
theorem tw8151903124980380684:True:=trivial
theorem tw16772102934027710169:True:=trivial
theorem tw4851647983119433812:True:=trivial
theorem tw6820862383352777685:True:=trivial
theorem tw6669269137521125552:True:=trivial
theorem tw11652457597714270106:True:=trivial
theorem tw16920754564084929960:True:=trivial
theorem tw7028611270464810887:True:=trivial
theorem tw8068729725432388964:True:=trivial
theorem tw15630680890609703042:True:=trivial
theorem tw14991384322417631237:True:=trivial
theorem tw4299596416071116603:True:=trivial
theorem tw17562767543260142214:True:=trivial
theorem tw16640546478005224243:True:=trivial
theorem tw224026152562611165:True:=trivial
theorem tw4527685146903026889:True:=trivial
theorem tw10229805826793662693:True:=trivial
theorem tw9299316483162031394:True:=trivial
theorem tw14409324277409083549:True:=trivial
theorem tw6578402527460240241:True:=trivial
theorem tw16443024508289211202:True:=trivial
theorem tw11415386828835887437:True:=trivial
theorem tw1425423193147277237:True:=trivial
theorem tw16301592386811335294:True:=trivial
theorem tw11034497122203965937:True:=trivial
theorem tw9927179837433541088:True:=trivial
theorem tw10787125048147943196:True:=trivial
theorem tw2457190517430149469:True:=trivial
theorem tw3309697970292668127:True:=trivial
theorem tw1051681510052472703:True:=trivial
theorem tw3364418463632694928:True:=trivial
theorem tw13855946660403688772:True:=trivial
theorem tw14598272352848978880:True:=trivial
theorem tw1147470481896660410:True:=trivial
theorem tw617508947420966582:True:=trivial
theorem tw11845739042510646663:True:=trivial
theorem tw8934143017859847078:True:=trivial
theorem tw3673020696563887462:True:=trivial
theorem tw10601615944963115059:True:=trivial
theorem tw13783031573616600631:True:=trivial
theorem tw13518370688599389936:True:=trivial
theorem tw3953601041324332601:True:=trivial
theorem tw546821695630378048:True:=trivial
theorem tw678209747344391502:True:=trivial
theorem tw10264135568141901301:True:=trivial
theorem tw6697089970055633809:True:=trivial
theorem tw5961118342813265553:True:=trivial
theorem tw13160604113216922460:True:=trivial
theorem tw16957190012819468567:True:=trivial
theorem tw8356816923877370021:True:=trivial
theorem tw16009884308244765898:True:=trivial
theorem tw1792636949448641307:True:=trivial
theorem tw2887051446865420828:True:=trivial
theorem tw9631708518359487223:True:=trivial
theorem tw17386561741084979693:True:=trivial
theorem tw3139860346522395057:True:=trivial
theorem tw13574768056931433239:True:=trivial
theorem tw13468300074154594103:True:=trivial
theorem tw4654797750381630734:True:=trivial
theorem tw5283464899586487735:True:=trivial
theorem tw2939364278809581666:True:=trivial
theorem tw15924899543223041283:True:=trivial
theorem tw5732804406350252772:True:=trivial
theorem tw2274498078352570744:True:=trivial
theorem tw541196102884509978:True:=trivial
theorem tw5927567313105069670:True:=trivial
theorem tw13066319289922817542:True:=trivial
theorem tw3173010612589774626:True:=trivial
theorem tw13038990169509382042:True:=trivial
theorem tw18103420901670897651:True:=trivial
theorem tw3218096787892578837:True:=trivial
theorem tw1335065189686863947:True:=trivial
theorem tw2042292140826266357:True:=trivial
theorem tw10098268173465320503:True:=trivial
theorem tw17172931820748874959:True:=trivial
theorem tw11814627755841444246:True:=trivial
theorem tw17131548636456373450:True:=trivial
theorem tw7829580234814923638:True:=trivial
theorem tw2922222751358710265:True:=trivial
theorem tw12350410155528471161:True:=trivial
theorem tw2999033326186475339:True:=trivial
theorem tw17737187407176874954:True:=trivial
theorem tw5174551420813472067:True:=trivial
theorem tw7068711184596962023:True:=trivial
theorem tw15228807520496212463:True:=trivial
theorem tw17047115858639842297:True:=trivial
theorem tw8472141830624432390:True:=trivial
theorem tw407309309204651749:True:=trivial
theorem tw8377043916266704855:True:=trivial
theorem tw17628472586750557451:True:=trivial
theorem tw5810065557313606291:True:=trivial
theorem tw4581847759332874082:True:=trivial
theorem tw8727321023445011275:True:=trivial
theorem tw15936815454951572811:True:=trivial
theorem tw13155211650623716127:True:=trivial
theorem tw9345676750909349944:True:=trivial
theorem tw6931407450589930559:True:=trivial
theorem tw15837987909243819085:True:=trivial
theorem tw4310969922304039945:True:=trivial
theorem tw11052946933831473538:True:=trivial
theorem tw18358800413957953924:True:=trivial
theorem tw162610821266807592:True:=trivial
theorem tw10738003575532504788:True:=trivial
theorem tw3496965988886986938:True:=trivial
theorem tw15625209780758371316:True:=trivial
theorem tw10200926772931222457:True:=trivial
theorem tw9719896912496429819:True:=trivial
theorem tw2319242062444301091:True:=trivial
theorem tw8516288146210602744:True:=trivial
theorem tw2051048951616859547:True:=trivial
theorem tw15153279154761372571:True:=trivial
theorem tw11115866451450875312:True:=trivial
theorem tw3196399650302076718:True:=trivial
theorem tw11729958736954745289:True:=trivial
theorem tw9850052858527491113:True:=trivial
theorem tw14457593812595234344:True:=trivial
theorem tw17606422857730326317:True:=trivial
theorem tw18093812233618175256:True:=trivial
theorem tw10841399608879689956:True:=trivial
theorem tw10603584201595350602:True:=trivial
theorem tw189712035060473897:True:=trivial
theorem tw15813434630575017362:True:=trivial
theorem tw1359830224848277088:True:=trivial
theorem tw573411949849455007:True:=trivial
theorem tw16376525773666504680:True:=trivial
theorem tw2845679848157327705:True:=trivial
theorem tw12487542160262675636:True:=trivial
theorem tw9533747618267967006:True:=trivial
theorem tw12952509933414984302:True:=trivial
theorem tw8053944837975664402:True:=trivial
theorem tw1247026723315081023:True:=trivial
theorem tw12945789673552169428:True:=trivial
theorem tw5201384275714778543:True:=trivial
theorem tw3807873098760053321:True:=trivial
theorem tw17038178572684014812:True:=trivial
theorem tw18439511094173506614:True:=trivial
theorem tw15278966056882409248:True:=trivial
theorem tw2040990291671593033:True:=trivial
theorem tw14137390275340422267:True:=trivial
theorem tw15948780112781908787:True:=trivial
theorem tw13029304954367342411:True:=trivial
theorem tw8879563391730754479:True:=trivial
theorem tw439843181053141970:True:=trivial
theorem tw6990203504111849199:True:=trivial
theorem tw8770659054964912022:True:=trivial
theorem tw6264232113106981867:True:=trivial
theorem tw8156189417125526548:True:=trivial
theorem tw12254263087357419629:True:=trivial
theorem tw7792395482447073224:True:=trivial
theorem tw7100430431845274806:True:=trivial
theorem tw22551697357593593:True:=trivial
theorem tw13096558090100123544:True:=trivial
theorem tw5976792059365374437:True:=trivial
theorem tw701957132916908730:True:=trivial
theorem tw4383666589626881386:True:=trivial
theorem tw17387473266821786944:True:=trivial
theorem tw10919297434634762262:True:=trivial
theorem tw5505332120971382143:True:=trivial
theorem tw17843490464661113860:True:=trivial
theorem tw14353793391729792155:True:=trivial
theorem tw7031273417212677730:True:=trivial
theorem tw15042006015671813226:True:=trivial
theorem tw13368278939475635651:True:=trivial
theorem tw11507959949525687343:True:=trivial
theorem tw8977460988437922124:True:=trivial
theorem tw17317347222371691485:True:=trivial
theorem tw1736311965527578767:True:=trivial
theorem tw3828038474966422129:True:=trivial
theorem tw2489000522355961661:True:=trivial
theorem tw11713075325732132258:True:=trivial
theorem tw5978321128707920903:True:=trivial
theorem tw5490696432328200686:True:=trivial
theorem tw10210669037155785340:True:=trivial
theorem tw732345407407602841:True:=trivial
theorem tw13478424178397462001:True:=trivial
theorem tw15361844209890540735:True:=trivial
theorem tw8493152586797012548:True:=trivial
theorem tw2327210489368252092:True:=trivial
theorem tw16536845064214698358:True:=trivial
theorem tw9453733921615676023:True:=trivial
theorem tw6136932545381038964:True:=trivial
theorem tw2951005344575393816:True:=trivial
theorem tw9731375825926819010:True:=trivial
theorem tw13172843250190940813:True:=trivial
theorem tw2132729158989466136:True:=trivial
theorem tw9741134391959003819:True:=trivial
theorem tw7526368328331116154:True:=trivial
theorem tw6279134481916445100:True:=trivial
theorem tw5482205457738058418:True:=trivial
theorem tw7076163891533521732:True:=trivial
theorem tw17076082267592564974:True:=trivial
theorem tw6759408015678561074:True:=trivial
theorem tw10778257442750969130:True:=trivial
theorem tw6482722132109649516:True:=trivial
theorem tw11636924220087485885:True:=trivial
theorem tw12769127236821124696:True:=trivial
theorem tw15615537253650120727:True:=trivial
theorem tw10424393626065333798:True:=trivial
theorem tw7292484366425897655:True:=trivial
theorem tw10012880186880212623:True:=trivial
theorem tw5755067337285977880:True:=trivial
theorem tw12598724348716800887:True:=trivial
theorem tw5289708365253275695:True:=trivial
theorem tw16332348944364537037:True:=trivial
theorem tw16299908979028503884:True:=trivial
theorem tw10283529075043463162:True:=trivial
theorem tw15992342658441690333:True:=trivial
theorem tw833173182276230429:True:=trivial
theorem tw15616948245753086127:True:=trivial
theorem tw3312855554403267510:True:=trivial
theorem tw15258997284364826943:True:=trivial
theorem tw1666387254794493845:True:=trivial
theorem tw550829659697677876:True:=trivial
theorem tw8134915037123179040:True:=trivial
theorem tw14620637471214046174:True:=trivial
theorem tw2329189449893159454:True:=trivial
theorem tw10258225898301398825:True:=trivial
theorem tw13759995583405993703:True:=trivial
theorem tw12418435599462062936:True:=trivial
theorem tw17143205804819765802:True:=trivial
theorem tw5534113831511101195:True:=trivial
theorem tw7712819752767893495:True:=trivial
theorem tw6545403380812914513:True:=trivial
theorem tw14892549342360969540:True:=trivial
theorem tw3913528116038191188:True:=trivial
theorem tw6449127861642672459:True:=trivial
theorem tw2468469042602058204:True:=trivial
theorem tw4402725079659364252:True:=trivial
theorem tw2799067240506288376:True:=trivial
theorem tw4706079058837389440:True:=trivial
theorem tw1603739661141634737:True:=trivial
theorem tw3029179668187146391:True:=trivial
theorem tw8244733829118024811:True:=trivial
theorem tw7182994202766372144:True:=trivial
theorem tw16357263729072622229:True:=trivial
theorem tw13534587687697041467:True:=trivial
theorem tw4971549296188076032:True:=trivial
theorem tw10583446816852156582:True:=trivial
theorem tw4521580383011477154:True:=trivial
theorem tw17650839729002327288:True:=trivial
theorem tw6052482589124101219:True:=trivial
theorem tw9077708301081682751:True:=trivial
theorem tw10531373872144210542:True:=trivial
theorem tw18291330726469416073:True:=trivial
theorem tw1820180628909398317:True:=trivial
theorem tw4432475053497693458:True:=trivial
theorem tw2336748640663733628:True:=trivial
theorem tw7185752278333246451:True:=trivial
theorem tw2608437505485318709:True:=trivial
theorem tw18015809273756184261:True:=trivial
theorem tw13289513938125300765:True:=trivial
end Mine.hd
namespace Mine
section
local macro_rules | `(tactic| o_head $_) => `(tactic| assumption)
theorem pre (_ : PySem.Challenge.rw_in0312_01.row.Holds) : PySem.Challenge.rw_in0312_01.row.Holds := by k_head
end
set_option maxHeartbeats 4000000 in
noncomputable def K : Params → Frag := fun P => (fun (o2 o3 o116 o117 o123 o124 o151 o152 o158 o159 o165 o166 o167 o173 o174 o178 o179 o183 o184 o197 o198 o224 o225 o227 o228 o229 o254 o255 o484 o485 o495 o501 o502 o508 o509 o515 o516 o522 o523 o671 o677 o678 o731 o732 o761 o762 o784 o790 o791 o797 o798 o799 o827 o828 o834 o835 o856 o857 o863 o864 o866 o867 o868 o869 o872 o878 o879 o880 o886 o887 o893 o894 o898 o899 o905 o906 o910 o911 o915 o916 o920 o921 o925 o926 : Obj) (_ : (pre.heap_1 P).lookup 2 = some o2 ∧ (pre.heap_1 P).lookup 3 = some o3 ∧ (pre.heap_1 P).lookup 116 = some o116 ∧ (pre.heap_1 P).lookup 117 = some o117 ∧ (pre.heap_1 P).lookup 123 = some o123 ∧ (pre.heap_1 P).lookup 124 = some o124 ∧ (pre.heap_1 P).lookup 151 = some o151 ∧ (pre.heap_1 P).lookup 152 = some o152 ∧ (pre.heap_1 P).lookup 158 = some o158 ∧ (pre.heap_1 P).lookup 159 = some o159 ∧ (pre.heap_1 P).lookup 165 = some o165 ∧ (pre.heap_1 P).lookup 166 = some o166 ∧ (pre.heap_1 P).lookup 167 = some o167 ∧ (pre.heap_1 P).lookup 173 = some o173 ∧ (pre.heap_1 P).lookup 174 = some o174 ∧ (pre.heap_1 P).lookup 178 = some o178 ∧ (pre.heap_1 P).lookup 179 = some o179 ∧ (pre.heap_1 P).lookup 183 = some o183 ∧ (pre.heap_1 P).lookup 184 = some o184 ∧ (pre.heap_1 P).lookup 197 = some o197 ∧ (pre.heap_1 P).lookup 198 = some o198 ∧ (pre.heap_1 P).lookup 224 = some o224 ∧ (pre.heap_1 P).lookup 225 = some o225 ∧ (pre.heap_1 P).lookup 227 = some o227 ∧ (pre.heap_1 P).lookup 228 = some o228 ∧ (pre.heap_1 P).lookup 229 = some o229 ∧ (pre.heap_1 P).lookup 254 = some o254 ∧ (pre.heap_1 P).lookup 255 = some o255 ∧ (pre.heap_1 P).lookup 484 = some o484 ∧ (pre.heap_1 P).lookup 485 = some o485 ∧ (pre.heap_1 P).lookup 495 = some o495 ∧ (pre.heap_1 P).lookup 501 = some o501 ∧ (pre.heap_1 P).lookup 502 = some o502 ∧ (pre.heap_1 P).lookup 508 = some o508 ∧ (pre.heap_1 P).lookup 509 = some o509 ∧ (pre.heap_1 P).lookup 515 = some o515 ∧ (pre.heap_1 P).lookup 516 = some o516 ∧ (pre.heap_1 P).lookup 522 = some o522 ∧ (pre.heap_1 P).lookup 523 = some o523 ∧ (pre.heap_1 P).lookup 671 = some o671 ∧ (pre.heap_1 P).lookup 677 = some o677 ∧ (pre.heap_1 P).lookup 678 = some o678 ∧ (pre.heap_1 P).lookup 731 = some o731 ∧ (pre.heap_1 P).lookup 732 = some o732 ∧ (pre.heap_1 P).lookup 761 = some o761 ∧ (pre.heap_1 P).lookup 762 = some o762 ∧ (pre.heap_1 P).lookup 784 = some o784 ∧ (pre.heap_1 P).lookup 790 = some o790 ∧ (pre.heap_1 P).lookup 791 = some o791 ∧ (pre.heap_1 P).lookup 797 = some o797 ∧ (pre.heap_1 P).lookup 798 = some o798 ∧ (pre.heap_1 P).lookup 799 = some o799 ∧ (pre.heap_1 P).lookup 827 = some o827 ∧ (pre.heap_1 P).lookup 828 = some o828 ∧ (pre.heap_1 P).lookup 834 = some o834 ∧ (pre.heap_1 P).lookup 835 = some o835 ∧ (pre.heap_1 P).lookup 856 = some o856 ∧ (pre.heap_1 P).lookup 857 = some o857 ∧ (pre.heap_1 P).lookup 863 = some o863 ∧ (pre.heap_1 P).lookup 864 = some o864 ∧ (pre.heap_1 P).lookup 866 = some o866 ∧ (pre.heap_1 P).lookup 867 = some o867 ∧ (pre.heap_1 P).lookup 868 = some o868 ∧ (pre.heap_1 P).lookup 869 = some o869 ∧ (pre.heap_1 P).lookup 872 = some o872 ∧ (pre.heap_1 P).lookup 878 = some o878 ∧ (pre.heap_1 P).lookup 879 = some o879 ∧ (pre.heap_1 P).lookup 880 = some o880 ∧ (pre.heap_1 P).lookup 886 = some o886 ∧ (pre.heap_1 P).lookup 887 = some o887 ∧ (pre.heap_1 P).lookup 893 = some o893 ∧ (pre.heap_1 P).lookup 894 = some o894 ∧ (pre.heap_1 P).lookup 898 = some o898 ∧ (pre.heap_1 P).lookup 899 = some o899 ∧ (pre.heap_1 P).lookup 905 = some o905 ∧ (pre.heap_1 P).lookup 906 = some o906 ∧ (pre.heap_1 P).lookup 910 = some o910 ∧ (pre.heap_1 P).lookup 911 = some o911 ∧ (pre.heap_1 P).lookup 915 = some o915 ∧ (pre.heap_1 P).lookup 916 = some o916 ∧ (pre.heap_1 P).lookup 920 = some o920 ∧ (pre.heap_1 P).lookup 921 = some o921 ∧ (pre.heap_1 P).lookup 925 = some o925 ∧ (pre.heap_1 P).lookup 926 = some o926) => (nat_lit 2, o2) :: (nat_lit 3, o3) :: (nat_lit 116, o116) :: (nat_lit 117, o117) :: (nat_lit 123, o123) :: (nat_lit 124, o124) :: (nat_lit 151, o151) :: (nat_lit 152, o152) :: (nat_lit 158, o158) :: (nat_lit 159, o159) :: (nat_lit 165, o165) :: (nat_lit 166, o166) :: (nat_lit 167, o167) :: (nat_lit 173, o173) :: (nat_lit 174, o174) :: (nat_lit 178, o178) :: (nat_lit 179, o179) :: (nat_lit 183, o183) :: (nat_lit 184, o184) :: (nat_lit 197, o197) :: (nat_lit 198, o198) :: (nat_lit 224, o224) :: (nat_lit 225, o225) :: (nat_lit 227, o227) :: (nat_lit 228, o228) :: (nat_lit 229, o229) :: (nat_lit 254, o254) :: (nat_lit 255, o255) :: (nat_lit 484, o484) :: (nat_lit 485, o485) :: (nat_lit 495, o495) :: (nat_lit 501, o501) :: (nat_lit 502, o502) :: (nat_lit 508, o508) :: (nat_lit 509, o509) :: (nat_lit 515, o515) :: (nat_lit 516, o516) :: (nat_lit 522, o522) :: (nat_lit 523, o523) :: (nat_lit 671, o671) :: (nat_lit 677, o677) :: (nat_lit 678, o678) :: (nat_lit 731, o731) :: (nat_lit 732, o732) :: (nat_lit 761, o761) :: (nat_lit 762, o762) :: (nat_lit 784, o784) :: (nat_lit 790, o790) :: (nat_lit 791, o791) :: (nat_lit 797, o797) :: (nat_lit 798, o798) :: (nat_lit 799, o799) :: (nat_lit 827, o827) :: (nat_lit 828, o828) :: (nat_lit 834, o834) :: (nat_lit 835, o835) :: (nat_lit 856, o856) :: (nat_lit 857, o857) :: (nat_lit 863, o863) :: (nat_lit 864, o864) :: (nat_lit 866, o866) :: (nat_lit 867, o867) :: (nat_lit 868, o868) :: (nat_lit 869, o869) :: (nat_lit 872, o872) :: (nat_lit 878, o878) :: (nat_lit 879, o879) :: (nat_lit 880, o880) :: (nat_lit 886, o886) :: (nat_lit 887, o887) :: (nat_lit 893, o893) :: (nat_lit 894, o894) :: (nat_lit 898, o898) :: (nat_lit 899, o899) :: (nat_lit 905, o905) :: (nat_lit 906, o906) :: (nat_lit 910, o910) :: (nat_lit 911, o911) :: (nat_lit 915, o915) :: (nat_lit 916, o916) :: (nat_lit 920, o920) :: (nat_lit 921, o921) :: (nat_lit 925, o925) :: (nat_lit 926, o926) :: []) _ _ _ _ _ _ _ _ _ _ _ _ _ _ _ _ _ _ _ _ _ _ _ _ _ _ _ _ _ _ _ _ _ _ _ _ _ _ _ _ _ _ _ _ _ _ _ _ _ _ _ _ _ _ _ _ _ _ _ _ _ _ _ _ _ _ _ _ _ _ _ _ _ _ _ _ _ _ _ _ _ _ _ _ (by (repeat' apply And.intro) <;> k_is)
local macro_rules | `(tactic| refine $e) => do
  if e.raw.isOfKind ``Lean.Parser.Term.app && e.raw[0].getId == ``PySem.W.holds_open then `(tactic| (refine ($e); case hc => exact $(Lean.mkIdent `h)))
  else Lean.Macro.throwUnsupported
set_option Elab.async true in
set_option maxRecDepth 100000 in
set_option maxHeartbeats 8000000 in
theorem hd:True:=trivial
where top := fun h => (by w_on; o_law; o_head (kHook K (nat_lit 2 :: nat_lit 3 :: nat_lit 116 :: nat_lit 117 :: nat_lit 123 :: nat_lit 124 :: nat_lit 151 :: nat_lit 152 :: nat_lit 158 :: nat_lit 159 :: nat_lit 165 :: nat_lit 166 :: nat_lit 167 :: nat_lit 173 :: nat_lit 174 :: nat_lit 178 :: nat_lit 179 :: nat_lit 183 :: nat_lit 184 :: nat_lit 197 :: nat_lit 198 :: nat_lit 224 :: nat_lit 225 :: nat_lit 227 :: nat_lit 228 :: nat_lit 229 :: nat_lit 254 :: nat_lit 255 :: nat_lit 484 :: nat_lit 485 :: nat_lit 495 :: nat_lit 501 :: nat_lit 502 :: nat_lit 508 :: nat_lit 509 :: nat_lit 515 :: nat_lit 516 :: nat_lit 522 :: nat_lit 523 :: nat_lit 671 :: nat_lit 677 :: nat_lit 678 :: nat_lit 731 :: nat_lit 732 :: nat_lit 761 :: nat_lit 762 :: nat_lit 784 :: nat_lit 790 :: nat_lit 791 :: nat_lit 797 :: nat_lit 798 :: nat_lit 799 :: nat_lit 827 :: nat_lit 828 :: nat_lit 834 :: nat_lit 835 :: nat_lit 856 :: nat_lit 857 :: nat_lit 863 :: nat_lit 864 :: nat_lit 866 :: nat_lit 867 :: nat_lit 868 :: nat_lit 869 :: nat_lit 872 :: nat_lit 878 :: nat_lit 879 :: nat_lit 880 :: nat_lit 886 :: nat_lit 887 :: nat_lit 893 :: nat_lit 894 :: nat_lit 898 :: nat_lit 899 :: nat_lit 905 :: nat_lit 906 :: nat_lit 910 :: nat_lit 911 :: nat_lit 915 :: nat_lit 916 :: nat_lit 920 :: nat_lit 921 :: nat_lit 925 :: nat_lit 926 :: []) (fun _ => by kernel_rfl)); (case hw => w_witness2) : PySem.Challenge.rw_in0312_01.Holds)
end Mine
open PySem PySem.W PySem.Spec PySem.Calls PyProof PyProof.Rows
set_option linter.all false
set_option maxRecDepth 100000
set_option compiler.extract_closed false
namespace Mine
theorem w0 : True := by (w_top off); trivial
theorem qB : @checkBuiltinCall = @PySem.W.Fast.tw10254737850608025244 := PySem.W.Fast.te10254737850608025244
theorem qT : @typeLookup = @PySem.W.Fast.tw1381439984260040727 := PySem.W.Fast.te1381439984260040727
theorem qS : @isSubtype = @PySem.W.Fast.tw16098473122060591676 := PySem.W.Fast.te16098473122060591676
theorem qA : @Bind.checkArgs = @PySem.W.Fast.tw16078263539434579649 := PySem.W.Fast.te16078263539434579649
theorem qG : @Manifest.signature? = @PySem.W.Fast.signatureY := PySem.W.Fast.signatureY_eq
theorem qF : @Manifest.find? = @PySem.W.Fast.findY := PySem.W.Fast.findY_eq

noncomputable def Grow (h h' : Heap) : Prop := ∀ b o, h.get? b = some o → h'.get? b = some o

noncomputable def Done (s : Shared) (P : Value → Heap → Prop) (v : Value) (s' : Shared) : Prop :=
  ∃ h' tk', s' = { s with heap := h', toks := tk' } ∧ Grow s.heap h' ∧ P v h'

noncomputable abbrev Claim (w : World) (d : Nat) (f : Addr) (vs : List Value) (pre : Heap → Prop) (post : Heap → Value → Heap → Prop) : Prop :=
  ∀ (dp un : Nat) (gd : Option (List Code)) (cn : Str) (cs : Scope) (a : Addr) (ccd : Value) (cl : List (Str × Addr)) (outer : List Env) (A₀ : Around) (base h₀ : Heap) (L : Addr) (m : Str → Option Value)
    (p : Program) (loose : List Str) (mean : ExcName → Option Value) (mg mb : Str → Option Value) (s : Shared),
    Below A₀ base outer h₀ → Fr h₀ L s.heap m → (Mine.K w.params).In h₀ → Top p loose mean mg mb h₀ → cs.kind = .function →
    pre s.heap → dp + d < recursionLimit → un + 8 * d < cLine →
    wpAny (model PySem.Challenge.rw_in0312_01.row.prog w) (ktrTop dp un gd cn cs L a ccd cl outer) (call (.ref f) vs) (Done s (post s.heap)) (fun _ _ => False) s

theorem below_push {A : Around} {base h₀ h : Heap} {outer : List Env} {L : Addr} {m : Str → Option Value} {env : Env} {A' : Around}
    (K : Below A base outer h₀) (F : Fr h₀ L h m) (hA : A'.frames = some (env :: outer)) (hf : env.frame = some L) (hke : env.scope.kind = .function) : Below A' base (env :: outer) h := by
  have hnew : base.get? L = none := by
    cases hq : base.get? L with
    | none => rfl
    | some o => exact absurd (Nat.lt_of_lt_of_le (Heap.lt_size (K.stays L o hq)) F.above) (Nat.lt_irrefl _)
  refine ⟨hA, fun b o e => F.keep b o (K.stays b o e), ?_⟩
  exact .cons (by rw [hke]; decide) hf F.ns hnew (K.frames.of_keeps fun b o e _ => ⟨o, F.keep b o e, rfl⟩)

section
variable {prog : Program} {w : World} {A A₀ : Around} {E : Value → Shared → Prop} {s : Shared} {K : Frag} {L : Addr} {h₀ base : Heap} {m mg mb : Str → Option Value} {p : Program} {loose : List Str} {mean : ExcName → Option Value}

theorem enter {env : Env} {outer : List Env} {P : Value → Heap → Prop} {name qual : Str} {params : Arguments} {body : List Stmt} {scope : Scope} {dV kV doc pm cdv ct oc : Value} {an od : Option Addr} {osl : Array (Option Value)} {f : Addr} {args : List Value} {binds : List (Str × Value)}
    (B : Below A₀ base outer h₀) (F : Fr h₀ L s.heap m) (X₀ : K.In h₀) (T : Top p loose mean mg mb h₀) (hA : A.frames = some (env :: outer)) (hf : env.frame = some L) (hke : env.scope.kind = .function)
    (ho : K.lookup f = some ⟨oc, od, .func (fnOf name qual params body scope dV kV doc pm an cdv ct), osl⟩) (hcd : codeIn K cdv qual = true) (hroom : A.depth < recursionLimit)
    (hbind : BindsTo s (fnOf name qual params body scope dV kV doc pm an cdv ct) ⟨args, []⟩ binds) (hloc : ∀ y ∈ binds, scope.names.lookup y.1 = some .local)
    (h : ∀ L' h₁, Fr s.heap L' h₁ (fun y => binds.reverse.lookup y) → News s.heap L' h₁ [] → Below A base (env :: outer) s.heap → K.In s.heap → Top p loose mean mg mb s.heap →
      wpAny (model prog w) (A.deeper (envOf qual scope L' f cdv)) (execs body (envOf qual scope L' f cdv))
        (fun fl s' => Done s P (match fl with | .ret v => v | _ => .none) s')
        (fun e s' => wpAny (model prog w) (A.deeper (envOf qual scope L' f cdv)) (leaving (envOf qual scope L' f cdv) e) (fun _ s'' => E e s'') (fun e' s'' => E e' s'') s')
        { s with heap := h₁, toks := s.toks + binds.length })
    (hco : scope.isCoroutine = false) (hgen : scope.isGenerator = false) (hk : scope.kind = .function)
    (hcell : ∀ x ∈ scope.names, x.2 ≠ .cell) : wpAny (model prog w) A (call (.ref f) args) (Done s P) E s := by
  have X := X₀.keeps F.keep
  have T' := T.keeps F.keep
  refine wpAny_call (codeAny_call_def (fd := fnOf name qual params body scope dV kV doc pm an cdv ct) (body := body) (binds := binds) hroom (X _ _ ho) rfl T'.nolimit (codeRec_of X hcd) rfl hbind hcell hloc (fun h₁ hns hk₁ => ?_) hco hgen hk)
  exact h _ h₁ ⟨hns, hk₁, Nat.le_refl _⟩ News.nil (below_push B F hA hf hke) X T'
end

noncomputable def NewObj (h h' : Heap) (a : Addr) (o : Obj) : Prop := h.get? a = none ∧ h'.get? a = some o
theorem NewObj.news {h₀ h h' : Heap} {L a : Addr} {o : Obj} {m : Str → Option Value} {news : List (Addr × Obj)} (x : NewObj h h' a o) (F : Fr h₀ L h m) (N : News h₀ L h' news) : News h₀ L h' ((a, o) :: news) := by
  intro p hp
  rcases List.mem_cons.mp hp with rfl | hp
  · obtain ⟨oL, _, _, hL, _⟩ := F.ns
    refine ⟨x.2, fun e => ?_, ?_⟩
    · have e : a = L := e
      rw [← e, x.1] at hL; cases hL
    · cases hq : h₀.get? a with
      | none => rfl
      | some o' => have := F.keep _ _ hq; rw [x.1] at this; cases this
  · exact N p hp
noncomputable def AllNe (d : Nat) : List (Addr × Obj) → Prop
  | [] => True
  | p :: r => @Ne Nat p.1 d ∧ AllNe d r
theorem allNe_of {d : Addr} : ∀ {l : List (Addr × Obj)}, (∀ p ∈ l, p.1 ≠ d) → AllNe d l
  | [], _ => trivial
  | p :: _, h => ⟨h p (.head _), allNe_of fun q hq => h q (.tail _ hq)⟩
theorem NewObj.ne {h₀ h h' : Heap} {L a : Addr} {o : Obj} {news : List (Addr × Obj)} (x : NewObj h h' a o) (N : News h₀ L h news) : AllNe a news :=
  allNe_of fun p hp e => by have := (N p hp).1; rw [e, x.1] at this; cases this
theorem newObj_of {h h' : Heap} {L a : Addr} {o : Obj} {news : List (Addr × Obj)} (N : News h L h' news) (hm : (a, o) ∈ news) : NewObj h h' a o := ⟨(N _ hm).2.2, N.get hm⟩

theorem enterN {prog : Program} {w : World} {A A₀ : Around} {E : Value → Shared → Prop} {s : Shared} {K : Frag} {L : Addr} {h₀ base : Heap} {m mg mb : Str → Option Value} {p : Program} {loose : List Str} {mean : ExcName → Option Value}
    {env : Env} {outer : List Env} {P : Value → Heap → Prop} {name qual : Str} {params : Arguments} {body : List Stmt} {scope : Scope} {dV kV doc pm cdv ct oc : Value} {an od : Option Addr} {osl : Array (Option Value)} {f : Addr} {args : List Value} (binds : List (Str × Value))
    (B : Below A₀ base outer h₀) (F : Fr h₀ L s.heap m) (X₀ : K.In h₀) (T : Top p loose mean mg mb h₀) (hA : A.frames = some (env :: outer)) (hf : env.frame = some L) (hke : env.scope.kind = .function)
    (ho : K.lookup f = some ⟨oc, od, .func (fnOf name qual params body scope dV kV doc pm an cdv ct), osl⟩) (hcd : codeIn K cdv qual = true) (hroom : A.depth < recursionLimit)
    (hbind : BindsTo s (fnOf name qual params body scope dV kV doc pm an cdv ct) ⟨args, []⟩ binds) (hloc : (binds.all fun x => decide (scope.names.lookup x.1 = some .local)) = true)
    (h : ∀ L' h₁, Fr s.heap L' h₁ (fun y => binds.reverse.lookup y) → News s.heap L' h₁ [] → Below A base (env :: outer) s.heap → K.In s.heap → Top p loose mean mg mb s.heap →
      ∀ Qf : Flow → Shared → Prop, (∀ {v h' tk' m'}, Fr s.heap L' h' m' → P v h' → Qf (.ret v) { s with heap := h', toks := tk' }) →
      wpAny (model prog w) (A.deeper (envOf qual scope L' f cdv)) (execs body (envOf qual scope L' f cdv)) Qf (fun _ _ => False) { s with heap := h₁, toks := s.toks + binds.length })
    (hsc : (!scope.isCoroutine && !scope.isGenerator && scope.kind == .function && scope.names.all (fun x => x.2 != .cell)) = true) : wpAny (model prog w) A (call (.ref f) args) (Done s P) E s := by
  simp only [Bool.and_eq_true, Bool.not_eq_true', beq_iff_eq, List.all_eq_true, bne_iff_ne] at hsc
  exact enter B F X₀ T hA hf hke ho hcd hroom hbind (locs hloc) (fun L' h₁ a b c d e => wpAny_noRaise (h L' h₁ a b c d e (fun fl s' => Done s P (match fl with | .ret v => v | _ => .none) s') fun {v h' tk' m'} F hp => ⟨h', tk', rfl, F.keep, hp⟩)) hsc.1.1.1 hsc.1.1.2 hsc.1.2 hsc.2

theorem done_of {s : Shared} {P : Value → Heap → Prop} {v : Value} {h' : Heap} {tk' : Nat} {L : Addr} {m : Str → Option Value} (F : Fr s.heap L h' m) (hp : P v h') : Done s P v { s with heap := h', toks := tk' } := ⟨h', tk', rfl, F.keep, hp⟩

theorem use {w : World} {d : Nat} {f : Addr} {vs : List Value} {pre : Heap → Prop} {post : Heap → Value → Heap → Prop} (c : Claim w d f vs pre post)
    {dp un : Nat} {gd : Option (List Code)} {cn : Str} {cs : Scope} {a : Addr} {ccd : Value} {cl : List (Str × Addr)} {outer : List Env} {A₀ : Around} {base h₀ : Heap} {L : Addr} {m : Str → Option Value}
    {p : Program} {loose : List Str} {mean : ExcName → Option Value} {mg mb : Str → Option Value} {s : Shared} {news : List (Addr × Obj)} {Q E : Value → Shared → Prop}
    (B : Below A₀ base outer h₀) (F : Fr h₀ L s.heap m) (X : (Mine.K w.params).In h₀) (N : News h₀ L s.heap news) (T : Top p loose mean mg mb h₀) (hk : cs.kind = .function)
    (hp : pre s.heap) (hd : dp + d < recursionLimit) (hu : un + 8 * d < cLine)
    (h : ∀ v h' tk', Fr h₀ L h' m → News h₀ L h' news → Grow s.heap h' → post s.heap v h' → Q v { s with heap := h', toks := tk' }) :
    wpAny (model PySem.Challenge.rw_in0312_01.row.prog w) (ktrTop dp un gd cn cs L a ccd cl outer) (call (.ref f) vs) Q E s :=
  wpAny_mono (c dp un gd cn cs a ccd cl outer A₀ base h₀ L m p loose mean mg mb s B F X T hk hp hd hu)
    (fun v s' ⟨h', tk', e, g, hv⟩ => by subst e; exact h v h' tk' (F.grownK g) (N.grown g) g hv) fun _ _ x => x.elim

theorem useS {w : World} {d : Nat} {f : Addr} {vs : List Value} {x : Str} (c : Claim w d f vs (fun _ => True) (fun _ v _ => ∃ t, v = .str x t))
    {dp un : Nat} {gd : Option (List Code)} {cn : Str} {cs : Scope} {a : Addr} {ccd : Value} {cl : List (Str × Addr)} {outer : List Env} {A₀ : Around} {base h₀ : Heap} {L : Addr} {m : Str → Option Value}
    {p : Program} {loose : List Str} {mean : ExcName → Option Value} {mg mb : Str → Option Value} {s : Shared} {news : List (Addr × Obj)} {Q E : Value → Shared → Prop}
    (B : Below A₀ base outer h₀) (F : Fr h₀ L s.heap m) (X : (Mine.K w.params).In h₀) (N : News h₀ L s.heap news) (T : Top p loose mean mg mb h₀) (hk : cs.kind = .function)
    (hd : dp + d < recursionLimit) (hu : un + 8 * d < cLine)
    (h : ∀ t h' tk', Fr h₀ L h' m → News h₀ L h' news → Q (.str x t) { s with heap := h', toks := tk' }) :
    wpAny (model PySem.Challenge.rw_in0312_01.row.prog w) (ktrTop dp un gd cn cs L a ccd cl outer) (call (.ref f) vs) Q E s :=
  use c B F X N T hk trivial hd hu fun v h' tk' F' N' _ hv => by obtain ⟨t, rfl⟩ := hv; exact h t h' tk' F' N'

theorem useSB {w : World} {d : Nat} {f : Addr} {vs : List Value} {x : Str} (c : Claim w d f vs (fun _ => True) (fun _ v _ => ∃ t, v = .str x t)) {b : Nat} (hb : x.length ≤ b)
    {dp un : Nat} {gd : Option (List Code)} {cn : Str} {cs : Scope} {a : Addr} {ccd : Value} {cl : List (Str × Addr)} {outer : List Env} {A₀ : Around} {base h₀ : Heap} {L : Addr} {m : Str → Option Value}
    {p : Program} {loose : List Str} {mean : ExcName → Option Value} {mg mb : Str → Option Value} {s : Shared} {news : List (Addr × Obj)} {Q E : Value → Shared → Prop}
    (B : Below A₀ base outer h₀) (F : Fr h₀ L s.heap m) (X : (Mine.K w.params).In h₀) (N : News h₀ L s.heap news) (T : Top p loose mean mg mb h₀) (hk : cs.kind = .function)
    (hd : dp + d < recursionLimit) (hu : un + 8 * d < cLine)
    (h : ∀ t h' tk', Fr h₀ L h' m → News h₀ L h' news → x.length ≤ b → Q (.str x t) { s with heap := h', toks := tk' }) :
    wpAny (model PySem.Challenge.rw_in0312_01.row.prog w) (ktrTop dp un gd cn cs L a ccd cl outer) (call (.ref f) vs) Q E s :=
  useS c B F X N T hk hd hu fun t h' tk' F' N' => h t h' tk' F' N' hb

noncomputable def Stop9 (P : Prop) : Prop := P
theorem stop9 {P : Prop} (h : Stop9 P) : P := h
structure Raising : Prop where
def wkT : String := "/2Lean.Parser.Term.syntheticHole
/1Lean.binderIdent © /2Lean.Parser.Tactic.caseArg /1null '=>
'k_asm /1PySem.W.tacticK_asm
P /4Lean.Parser.Tactic.case

'exact `rfl ¨
'kernel_rfl /1tacticKernel_rfl
'k_get /1PySem.W.tacticK_get
'k_handed /1PySem.W.tacticK_handed
'? '_ #
/2Lean.Parser.Term.app
/2Lean.Parser.Tactic.refine'

'try ª A
'( 'k_here /1PySem.W.tacticK_here ';
'k_dflt '(
'k_whole /1PySem.W.tacticK_whole
/1Lean.Parser.Tactic.tacticSeq1Indented /1Lean.Parser.Tactic.tacticSeq
') /3Lean.Parser.Tactic.paren /2PySem.W.tacticK_dflt_
') /3Lean.Parser.Tactic.paren
'k_mem /1PySem.W.tacticK_mem
!ms
!mz
!mo
!mc
!mB
/2Lean.Parser.Tactic.intro
'k_upd /1PySem.W.tacticK_upd
'try 'k_sweep /1PySem.W.tacticK_sweep A
'k_in /1PySem.W.tacticK_in
P /2Lean.Parser.Tactic.tacticTry_
!mA
!mJ
'decide « /2Lean.Parser.Tactic.decide
'kmk_list /1PySem.W.tacticKmk_list
'kmk_part /1PySem.W.tacticKmk_part
!mi
'with_unfolding_all 'rfl /1Lean.Parser.Tactic.tacticRfl P /2Lean.Parser.Tactic.withUnfoldingAll
'kmk_pure /1PySem.W.tacticKmk_pure
'( `s ':= '⟨ x ', x ', x ', x ', x /9null '⟩ § ') /5Lean.Parser.Term.namedArgument
'with_reducible 'assumption /1Lean.Parser.Tactic.assumption P Q
'walk_at '\"w0\" /1str /2PyProof.Rows.tacticWalk_at_
!mu
!mZ
'decide '+ `kernel /2Lean.Parser.Tactic.posConfigItem /1Lean.Parser.Tactic.configItem /1null /1Lean.Parser.Tactic.optConfig /2Lean.Parser.Tactic.decide
/1null 4
/2Lean.Parser.Tactic.withReducible
'try 'k_fold /1PySem.W.tacticK_fold A
'exact `Nat.le_of_ble_eq_true `rfl /1null - ¨
'assumption /1Lean.Parser.Tactic.assumption
'lia « /2Lean.Parser.Tactic.lia
!mx
'( 'simp_all « © © © /5Lean.Parser.Tactic.simpAll '; 'done /1Lean.Parser.Tactic.done /3null 4 6
!mW
!mE
D
!mG

!mI
!mH


'( '( £ `List.length_map ¤ ¥ `List.length_nil ¤ ¥ `List.length_cons ¤ ¥ `List.length_replicate ¤ ¥ `List.length_drop ¤ ¥ `List.length_take ¤ ¥ `List.length_append ¤ /=null ¦ P 6 '; U /3null 4 6
!mD
!mT
!m1
!m2
!m3
!m4
!m5
!m6
'walk_at '\"p0\" /1str /2PyProof.Rows.tacticWalk_at_
'fail © /2Lean.Parser.Tactic.fail
'walk_at '\"p1\" /1str /2PyProof.Rows.tacticWalk_at_
'walk_at '\"p2\" /1str /2PyProof.Rows.tacticWalk_at_
'walk_at '\"p3\" /1str /2PyProof.Rows.tacticWalk_at_
'walk_at '\"p4\" /1str /2PyProof.Rows.tacticWalk_at_
'walk_at '\"p5\" /1str /2PyProof.Rows.tacticWalk_at_
'walk_at '\"p6\" /1str /2PyProof.Rows.tacticWalk_at_
'walk_at '\"w1\" /1str /2PyProof.Rows.tacticWalk_at_
'walk_at '\"w2\" /1str /2PyProof.Rows.tacticWalk_at_
'walk_at '\"w3\" /1str /2PyProof.Rows.tacticWalk_at_
'walk_at '\"w4\" /1str /2PyProof.Rows.tacticWalk_at_
'walk_at '\"w5\" /1str /2PyProof.Rows.tacticWalk_at_
'walk_at '\"w6\" /1str /2PyProof.Rows.tacticWalk_at_
'_ /1Lean.Parser.Term.hole
P /2group
/1null - /2Lean.Parser.Tactic.refine
/2Lean.Parser.Tactic.first

'( 'by T P /2Lean.Parser.Term.byTactic ') /3Lean.Parser.Term.paren



































/2Lean.Parser.Tactic.apply P Q
'done /1Lean.Parser.Tactic.done /3null 4 6
'simp « © 'only /1null '[ © ©
/3Lean.Parser.Tactic.simpLemma
', © ©
'] /3null © /6Lean.Parser.Tactic.simp
/3Lean.Parser.Term.anonymousCtor
/2Lean.Parser.Tactic.exact
/0null
'dsimp « © 'only /1null © © /6Lean.Parser.Tactic.dsimp
© /1Lean.Parser.Tactic.optConfig
eval Attribute Name|1 2 'refine' `GA '? ~y0 # '? ~y1 # '? ~y2 # '? ~y3 # '? ~y4 # '? ~y5 # , /7null - . '; 'case ~y0 $ % & '; 'case ~y1 $ % & '; 'case ~y2 $ ( & '; 'case ~y3 $ ) & '; 'case ~y4 $ * & '; 'case ~y5 $ + & '; 3 /?null 4 5 '; 0 /5null 4 6
truthy ref|'first '| 1 2 'refine' `truthyS '? ~y0 # '? ~y1 # '? ~y2 # '? ~y3 # '? ~y4 # '? ~y5 # , /7null - . '; 'case ~y0 $ % & '; 'case ~y1 $ 7 & '; 'case ~y2 $ ( & '; 'case ~y3 $ ( & '; 'case ~y4 $ 8 & '; 'case ~y5 $ 9 & '; 3 /?null 4 5 '; 0 /5null 4 6 y '| 1 2 'refine' `truthyG1 '? ~y0 # '? ~y1 # '? ~y2 # '? ~y3 # '? ~y4 # , /6null - . '; 'case ~y0 $ : & '; 'case ~y1 $ ; & '; 'case ~y2 $ ; & '; 'case ~y3 $ 9 & '; 'case ~y4 $ ( & '; 3 /=null 4 5 '; 0 /5null 4 6 y '| 1 2 'refine' `truthyG '? ~y0 # '? ~y1 # '? ~y2 # '? ~y3 # '? ~y4 # , /6null - . '; 'case ~y0 $ : & '; 'case ~y1 $ ; & '; 'case ~y2 $ ; & '; 'case ~y3 $ 9 & '; 'case ~y4 $ < & '; 3 /=null 4 5 '; 0 /5null 4 6 y '| 1 2 'refine' `truthy_deque '? ~y0 # , /2null - . '; 'case ~y0 $ : & '; 3 /5null 4 5 '; 'intro ~tk /1null = /5null 4 6 y /4null {
set state|1 2 'refine' `set_state '? ~y0 # '? ~y1 # '? ~y2 # '? ~y3 # '? ~y4 # '? ~y5 # , /7null - . '; 'case ~y0 $ % & '; 'case ~y1 $ % & '; 'case ~y2 $ % & '; 'case ~y3 $ 7 & '; 'case ~y4 $ 7 & '; 'case ~y5 $ > & '; 3 /?null 4 5 '; 'intro ~h ~tk ~F ~N /4null = '; ? /7null 4 6
set token|1 2 'refine' `set_token '? ~y0 # '? ~y1 # '? ~y2 # '? ~y3 # '? ~y4 # '? ~y5 # , /7null - . '; 'case ~y0 $ % & '; 'case ~y1 $ % & '; 'case ~y2 $ % & '; 'case ~y3 $ 7 & '; 'case ~y4 $ 7 & '; 'case ~y5 $ > & '; 3 /?null 4 5 '; 'intro ~h ~tk ~F ~N /4null = '; ? /7null 4 6
set lineno|1 2 'refine' `set_lineno '? ~y0 # '? ~y1 # '? ~y2 # '? ~y3 # '? ~y4 # '? ~y5 # , /7null - . '; 'case ~y0 $ % & '; 'case ~y1 $ % & '; 'case ~y2 $ % & '; 'case ~y3 $ 7 & '; 'case ~y4 $ 7 & '; 'case ~y5 $ > & '; 3 /?null 4 5 '; 'intro ~h ~tk ~F ~N /4null = '; ? /7null 4 6
set sio|1 2 'refine' `set_pos '? ~y0 # '? ~y1 # '? ~y2 # '? ~y3 # '? ~y4 # '? ~y5 # , /7null - . '; 'case ~y0 $ % & '; 'case ~y1 $ % & '; 'case ~y2 $ % & '; 'case ~y3 $ 7 & '; 'case ~y4 $ 7 & '; 'case ~y5 $ > & '; 3 /?null 4 5 '; 'intro ~h ~tk ~F ~N /4null = '; ? /7null 4 6
call builtin:object.__new__|1 2 'refine' `new_sio '? ~y0 # '? ~y1 # '? ~y2 # , /4null - . '; 'case ~y0 $ % & '; 'case ~y1 $ % & '; 'case ~y2 $ @ & '; 3 /9null 4 5 '; 'intro ~x ~d ~h ~F ~N ~l1 ~l2 /7null = '; 'try 'k_lt ~l1 /2PySem.W.tacticK_lt_ A '; 'try 'k_lt2 ~l2 /2PySem.W.tacticK_lt2_ A '; ? /;null 4 6
call type:collections.deque|1 2 'refine' `call_deque '? ~y0 # '? ~y1 # , /3null - . '; 'case ~y0 $ % & '; 'case ~y1 $ % & '; 3 /7null 4 5 '; 'intro ~d ~h ~F ~N ~l1 /5null = '; 'try 'k_lt ~l1 /2PySem.W.tacticK_lt_ A '; ? /9null 4 6
call builtin:issubclass|1 2 'refine' `call_isc '? ~y0 # , /2null - . '; 'case ~y0 $ : & '; 3 /5null 4 5 /3null 4 6
call builtin:list.append|1 2 'refine' `appendS '? ~y0 # '? ~y1 # '? ~y2 # '? ~y3 # '? ~y4 # , /6null - . '; 'case ~y0 $ % & '; 'case ~y1 $ % & '; 'case ~y2 $ > & '; 'case ~y3 $ 8 & '; 'case ~y4 $ 9 & '; 3 /=null 4 5 '; 'intro ~h ~F ~N /3null = '; ? /7null 4 6
subscriptTail Name UnaryOp ref int|1 2 'refine' `lastS '? ~y0 # '? ~y1 # '? ~y2 # '? ~y3 # '? ~y4 # '? ~y5 # , /7null - . '; 'case ~y0 $ % & '; 'case ~y1 $ 7 & '; 'case ~y2 $ ( & '; 'case ~y3 $ ( & '; 'case ~y4 $ 8 & '; 'case ~y5 $ B & '; 3 /?null 4 5 '; 'intro ~t /1null = '; 0 /7null 4 6
call builtin:list.pop|1 2 'refine' `popS '? ~y0 # '? ~y1 # '? ~y2 # '? ~y3 # '? ~y4 # '? ~y5 # , /7null - . '; 'case ~y0 $ % & '; 'case ~y1 $ % & '; 'case ~y2 $ > & '; 'case ~y3 $ 8 & '; 'case ~y4 $ B & '; 'case ~y5 $ 9 & '; 3 /?null 4 5 '; 'intro ~t ~h ~F ~N /4null = '; ? /7null 4 6
call builtin:str.join|1 2 'refine' `joinS '? ~y0 # '? ~y1 # '? ~y2 # '? ~y3 # '? ~y4 # '? ~y5 # , /7null - . '; 'case ~y0 $ % & '; 'case ~y1 $ 7 & '; 'case ~y2 $ ; & '; 'case ~y3 $ ; & '; 'case ~y4 $ 8 & '; 'case ~y5 $ C & '; 3 /?null 4 5 '; 'intro ~t ~k /2null = /5null 4 6
subscriptTail Name Constant ref int|'first '| 1 2 'refine' `itemL '? ~y0 # '? ~y1 # '? ~y2 # '? ~y3 # '? ~y4 # '? ~y5 # , /7null - . '; 'case ~y0 $ : & '; 'case ~y1 $ ; & '; 'case ~y2 $ ; & '; 'case ~y3 $ D & '; 'case ~y4 $ D & '; 'case ~y5 $ ( & '; 3 /?null 4 5 '; 0 /5null 4 6 y '| 1 2 'refine' `itemG '? ~y0 # '? ~y1 # '? ~y2 # '? ~y3 # '? ~y4 # '? ~y5 # , /7null - . '; 'case ~y0 $ : & '; 'case ~y1 $ ; & '; 'case ~y2 $ ; & '; 'case ~y3 $ D & '; 'case ~y4 $ D & '; 'case ~y5 $ ( & '; 3 /?null 4 5 '; 0 /5null 4 6 y /2null {
call builtin:isinstance|1 2 'refine' `call_isi_list '? ~y0 # '? ~y1 # '? ~y2 # , /4null - . '; 'case ~y0 $ : & '; 'case ~y1 $ ; & '; 'case ~y2 $ : & '; 3 /9null 4 5 /3null 4 6
subscriptTail Name Slice ref ref|'first '| 1 2 'refine' `sliceGL '? ~y0 # '? ~y1 # '? ~y2 # '? ~y3 # '? ~y4 # '? ~y5 # '? ~y6 # '? ~y7 # , '? ~y8 # '? ~y9 # /;null - . '; 'case ~y0 $ % & '; 'case ~y1 $ % & '; 'case ~y2 $ E & '; 'case ~y3 $ F & '; 'case ~y4 $ F & '; 'case ~y5 $ F & '; 'case ~y6 $ D & '; 'case ~y7 $ G & '; 'case ~y8 $ H & '; 'case ~y9 $ I & '; 3 /Gnull 4 5 '; 'intro ~D ~h ~F ~N ~G /5null = '; ? /7null 4 6 y '| 1 2 'refine' `sliceRevS J '? ~y0 # '? ~y1 # '? ~y2 # '? ~y3 # '? ~y4 # '? ~y5 # '? ~y6 # , '? ~y7 # '? ~y8 # /;null - . '; 'case ~y0 $ % & '; 'case ~y1 $ % & '; 'case ~y2 $ : & '; 'case ~y3 $ ; & '; 'case ~y4 $ ; & '; 'case ~y5 $ 8 & '; 'case ~y6 $ 9 & '; 'case ~y7 $ H & '; 'case ~y8 $ I & '; 3 /Enull 4 5 '; 'intro ~l ~h ~vs ~F ~N ~l1 ~s1 /7null = '; 'try 'k_lt ~l1 /2PySem.W.tacticK_lt_ A '; ? '; 0 /;null 4 6 y '| 1 2 'refine' `sliceToSE J '? ~y0 # '? ~y1 # '? ~y2 # '? ~y3 # '? ~y4 # '? ~y5 # '? ~y6 # '? ~y7 # '? ~y8 # , /;null - . '; 'case ~y0 $ ( & '; 'case ~y1 $ ( & '; 'case ~y2 $ % & '; 'case ~y3 $ % & '; 'case ~y4 $ : & '; 'case ~y5 $ ; & '; 'case ~y6 $ ; & '; 'case ~y7 $ 8 & '; 'case ~y8 $ 9 & '; 3 /Enull 4 5 '; 'intro ~l ~h ~F ~N ~l1 ~s1 /6null = '; 'try 'k_lt ~l1 /2PySem.W.tacticK_lt_ A '; ? '; 0 /;null 4 6 y '| 1 2 'refine' `sliceFromSE J '? ~y0 # '? ~y1 # '? ~y2 # '? ~y3 # '? ~y4 # '? ~y5 # '? ~y6 # '? ~y7 # '? ~y8 # , /;null - . '; 'case ~y0 $ ( & '; 'case ~y1 $ ( & '; 'case ~y2 $ % & '; 'case ~y3 $ % & '; 'case ~y4 $ : & '; 'case ~y5 $ ; & '; 'case ~y6 $ ; & '; 'case ~y7 $ 8 & '; 'case ~y8 $ 9 & '; 3 /Enull 4 5 '; 'intro ~l ~h ~F ~N ~l1 ~s1 /6null = '; 'try 'k_lt ~l1 /2PySem.W.tacticK_lt_ A '; ? '; 0 /;null 4 6 y /4null {
subscriptTail Name Slice str ref|1 2 'refine' `sliceG_nsE J '? ~y0 # '? ~y1 # '? ~y2 # '? ~y3 # '? ~y4 # , /7null - . '; 'case ~y0 $ ( & '; 'case ~y1 $ ( & '; 'case ~y2 $ % & '; 'case ~y3 $ % & '; 'case ~y4 $ 9 & '; 3 /=null 4 5 '; 'intro ~h ~t ~k ~F ~N ~G /6null = '; ? '; 0 /9null 4 6
subscriptTail Name Name ref int|1 2 'refine' `itemSG '? ~y0 # '? ~y1 # '? ~y2 # '? ~y3 # '? ~y4 # '? ~y5 # , /7null - . '; 'case ~y0 $ : & '; 'case ~y1 $ ; & '; 'case ~y2 $ ; & '; 'case ~y3 $ 8 & '; 'case ~y4 $ K & '; 'case ~y5 $ 9 & '; 3 /?null 4 5 '; 'intro ~t /1null = '; 0 /7null 4 6
call builtin:len|'first '| 1 2 'refine' `lenS '? ~y0 # '? ~y1 # '? ~y2 # '? ~y3 # '? ~y4 # , /6null - . '; 'case ~y0 $ : & '; 'case ~y1 $ ; & '; 'case ~y2 $ ; & '; 'case ~y3 $ 8 & '; 'case ~y4 $ 9 & '; 3 /=null 4 5 '; 'intro ~t ~k /2null = '; 0 /7null 4 6 y '| 1 2 'refine' `lenK '? ~y0 # '? ~y1 # '? ~y2 # '? ~y3 # '? ~y4 # , /6null - . '; 'case ~y0 $ : & '; 'case ~y1 $ ; & '; 'case ~y2 $ ; & '; 'case ~y3 $ K & '; 'case ~y4 $ 9 & '; 3 /=null 4 5 '; 'intro ~t ~k /2null = '; 0 /7null 4 6 y /2null {
call type:enumerate|K
binaryOp Mult ref int|1 2 'refine' `mulS '? ~y0 # '? ~y1 # '? ~y2 # '? ~y3 # '? ~y4 # , /6null - . '; 'case ~y0 $ % & '; 'case ~y1 $ % & '; 'case ~y2 $ 7 & '; 'case ~y3 $ 9 & '; 'case ~y4 $ 9 & '; 3 /=null 4 5 '; 'intro ~l ~h ~F ~N ~l1 ~s1 /6null = '; 'try 'k_lt ~l1 /2PySem.W.tacticK_lt_ A '; ? '; 0 /;null 4 6
binaryOp Add str str|1 2 'refine' `addStr '? ~y0 # '? ~y1 # '? ~y2 # , /4null - . '; 'case ~y0 $ L & '; 'case ~y1 $ L & '; 'case ~y2 $ D & '; 3 /9null 4 5 '; 'intro ~t ~k ~b /3null = '; 0 /7null 4 6
binaryOp Add ref ref|1 2 'refine' `addS '? ~y0 # '? ~y1 # '? ~y2 # '? ~y3 # '? ~y4 # '? ~y5 # '? ~y6 # '? ~y7 # '? ~y8 # '? ~y9 # '? ~y10 # , /<null - . '; 'case ~y0 $ % & '; 'case ~y1 $ % & '; 'case ~y2 $ : & '; 'case ~y3 $ ; & '; 'case ~y4 $ ; & '; 'case ~y5 $ 8 & '; 'case ~y6 $ : & '; 'case ~y7 $ ; & '; 'case ~y8 $ ; & '; 'case ~y9 $ 8 & '; 'case ~y10 $ 9 & '; 3 /Inull 4 5 '; 'intro ~l ~h ~F ~N ~l1 ~s1 /6null = '; 'try 'k_lt ~l1 /2PySem.W.tacticK_lt_ A '; ? '; 0 /;null 4 6
call builtin:str.split|1 2 'refine' `splitSG '? ~y0 # '? ~y1 # '? ~y2 # '? ~y3 # , /5null - . '; 'case ~y0 $ % & '; 'case ~y1 $ % & '; 'case ~y2 $ D & '; 'case ~y3 $ 9 & '; 3 /;null 4 5 '; 'intro ~l ~vs ~h ~k ~s1 ~z1 ~l1 ~F ~N ~G ~f1 /;null = '; 'try 'k_lt ~l1 /2PySem.W.tacticK_lt_ A '; ? '; 0 /;null 4 6
call builtin:list.insert|1 2 'refine' `insertS '? ~y0 # '? ~y1 # '? ~y2 # '? ~y3 # '? ~y4 # , /6null - . '; 'case ~y0 $ % & '; 'case ~y1 $ % & '; 'case ~y2 $ > & '; 'case ~y3 $ 8 & '; 'case ~y4 $ 9 & '; 3 /=null 4 5 '; 'intro ~h ~F ~N /3null = '; ? /7null 4 6
compareOp NotEq ref ref|'first '| 1 2 'refine' `neNil '? ~y0 # '? ~y1 # '? ~y2 # '? ~y3 # '? ~y4 # '? ~y5 # '? ~y6 # '? ~y7 # '? ~y8 # , /:null - . '; 'case ~y0 $ : & '; 'case ~y1 $ ; & '; 'case ~y2 $ ; & '; 'case ~y3 $ 8 & '; 'case ~y4 $ : & '; 'case ~y5 $ ; & '; 'case ~y6 $ ( & '; 'case ~y7 $ M & '; 'case ~y8 $ < & '; 3 /Enull 4 5 '; 0 /5null 4 6 y '| 1 2 'refine' `neSame '? ~y0 # '? ~y1 # '? ~y2 # '? ~y3 # '? ~y4 # '? ~y5 # '? ~y6 # '? ~y7 # '? ~y8 # , /:null - . '; 'case ~y0 $ : & '; 'case ~y1 $ ; & '; 'case ~y2 $ ; & '; 'case ~y3 $ 8 & '; 'case ~y4 $ : & '; 'case ~y5 $ ; & '; 'case ~y6 $ ; & '; 'case ~y7 $ 8 & '; 'case ~y8 $ M & '; 3 /Enull 4 5 '; 0 /5null 4 6 y /2null {
compareOp Eq ref ref|1 2 'refine' `eqSame '? ~y0 # '? ~y1 # '? ~y2 # '? ~y3 # '? ~y4 # '? ~y5 # '? ~y6 # '? ~y7 # '? ~y8 # , /:null - . '; 'case ~y0 $ : & '; 'case ~y1 $ ; & '; 'case ~y2 $ ; & '; 'case ~y3 $ 8 & '; 'case ~y4 $ : & '; 'case ~y5 $ ; & '; 'case ~y6 $ ; & '; 'case ~y7 $ 8 & '; 'case ~y8 $ M & '; 3 /Enull 4 5 '; 0 /5null 4 6
compareOp In bool ref|1 2 'refine' `inBools3 '? ~y0 # '? ~y1 # '? ~y2 # , /4null - . '; 'case ~y0 $ : & '; 'case ~y1 $ ; & '; 'case ~y2 $ ; & '; 3 /9null 4 5 '; 0 /5null 4 6
newList|1 2 'refine' `newListZ '? ~y0 # '? ~y1 # '? ~y2 # , /4null - . '; 'case ~y0 $ N & '; 'case ~y1 $ % & '; 'case ~y2 $ % & '; 3 /9null 4 5 '; 'intro ~l ~h ~F ~N ~l1 /5null = '; 'try 'k_lt ~l1 /2PySem.W.tacticK_lt_ A '; ? /9null 4 6
storeName|'first '| 1 2 'refine' `storeSa '? ~y0 # '? ~y1 # , '? ~y2 # '? ~y3 # /5null - . '; 'case ~y0 $ % & '; 'case ~y1 $ % & '; 'case ~y2 $ ( & '; 'case ~y3 $ O & '; 3 /;null 4 5 '; 'intro ~u ~m ~k ~h ~F ~N /6null = '; ? /7null 4 6 y '| 1 2 'refine' `storeSt '? ~y0 # '? ~y1 # , '? ~y2 # '? ~y3 # /5null - . '; 'case ~y0 $ % & '; 'case ~y1 $ % & '; 'case ~y2 $ ( & '; 'case ~y3 $ O & '; 3 /;null 4 5 '; 'intro ~u ~m ~k ~h ~F ~N /6null = '; ? /7null 4 6 y '| 1 2 'refine' `storeIa '? ~y0 # '? ~y1 # , '? ~y2 # '? ~y3 # /5null - . '; 'case ~y0 $ % & '; 'case ~y1 $ % & '; 'case ~y2 $ ( & '; 'case ~y3 $ O & '; 3 /;null 4 5 '; 'intro ~u ~m ~k ~h ~F ~N /6null = '; ? /7null 4 6 y '| 1 2 'refine' `storeIt '? ~y0 # '? ~y1 # , '? ~y2 # '? ~y3 # /5null - . '; 'case ~y0 $ % & '; 'case ~y1 $ % & '; 'case ~y2 $ ( & '; 'case ~y3 $ O & '; 3 /;null 4 5 '; 'intro ~u ~m ~k ~h ~F ~N /6null = '; ? /7null 4 6 y '| 1 2 'refine' `storeV' '? ~y0 # '? ~y1 # , '? ~y2 # '? ~y3 # /5null - . '; 'case ~y0 $ % & '; 'case ~y1 $ % & '; 'case ~y2 $ ( & '; 'case ~y3 $ O & '; 3 /;null 4 5 '; 'intro ~m ~k ~h ~F ~N /5null = '; ? /7null 4 6 y /5null {
ite|'first '| '( 'with_reducible 'refine' `itD '? ~y0 # , /2null - . P Q '; 'case ~y0 $ D & /3null 4 6 y '| '( 'with_reducible 'refine' `itN '? ~y0 # , /2null - . P Q '; 'case ~y0 $ D & /3null 4 6 y '| '( 'with_reducible 'refine' `itD '? ~y0 # , /2null - . P Q '; 'case ~y0 $ K & /3null 4 6 y '| '( 'with_reducible 'refine' `itN '? ~y0 # , /2null - . P Q '; 'case ~y0 $ K & /3null 4 6 y '| '( 'with_reducible 'refine' `itF '? ~y0 # , /2null - . P Q '; 'case ~y0 $ K & /3null 4 6 y '| '( 'with_reducible 'refine' `PyProof.Rows.split_ine , , /2null - . P Q '; 'all_goals 'intro x /1null = P /2Lean.Parser.Tactic.allGoals /3null 4 6 y '| '( 'with_reducible 'refine' `PyProof.Rows.split_ieq , , /2null - . P Q '; 'all_goals 'intro x /1null = P /2Lean.Parser.Tactic.allGoals /3null 4 6 y '| '( 'with_reducible 'refine' `PyProof.Rows.split_not , /1null - . P Q /1null 4 6 y '| '( 'with_reducible 'refine' `PyProof.Rows.split_dec , , /2null - . P Q '; 'all_goals 'intro x /1null = P /2Lean.Parser.Tactic.allGoals /3null 4 6 y '| '( 'with_reducible 'refine' `PyProof.Rows.split_bool , , /2null - . P Q '; 'all_goals 'intro x /1null = P /2Lean.Parser.Tactic.allGoals /3null 4 6 y /:null {
eval Name|1 2 'refine' `nmL '? ~y0 # '? ~y1 # '? ~y2 # '? ~y3 # '? ~y4 # , /6null - . '; 'case ~y0 $ % & '; 'case ~y1 $ ( & '; 'case ~y2 $ O & '; 'case ~y3 $ ) & '; 'case ~y4 $ ( & '; 3 /=null 4 5 /3null 4 6
exec If|1 'refine' `wpAny_If , /1null - . '; R /5null 4 6
eval ListComp|1 'refine' `stop9 , /1null - . '; R /5null 4 6
exec Assign cons ListComp|1 'refine' `stop9 , /1null - . '; R /5null 4 6
exec For Tuple Call cons nil|1 'refine' `stop9 , /1null - . '; R /5null 4 6
exec While|1 'refine' `stop9 , /1null - . '; R /5null 4 6
exec While BoolOp|1 'refine' `stop9 , /1null - . '; R /5null 4 6
room|'first '| '( 'with_reducible 'refine' `roomD '? ~y0 # '? ~y1 # /2null - . P Q '; 'case ~y0 $ K & '; 'case ~y1 $ ( & /5null 4 6 y '| '( 'with_reducible 'refine' `roomD1 '? ~y0 # '? ~y1 # /2null - . P Q '; 'case ~y0 $ K & '; 'case ~y1 $ ( & /5null 4 6 y '| '( 'with_reducible 'refine' `roomD3 '? ~y0 # '? ~y1 # /2null - . P Q '; 'case ~y0 $ K & '; 'case ~y1 $ ( & /5null 4 6 y '| '( 'with_reducible 'refine' `roomA '? ~y0 # '? ~y1 # /2null - . P Q '; 'case ~y0 $ K & '; 'case ~y1 $ ( & /5null 4 6 y '| '( 'with_reducible 'refine' `roomAke '? ~y0 # '? ~y1 # /2null - . P Q '; 'case ~y0 $ K & '; 'case ~y1 $ ( & /5null 4 6 y '| '( 'with_reducible 'refine' `roomAk '? ~y0 # '? ~y1 # /2null - . P Q '; 'case ~y0 $ K & '; 'case ~y1 $ ( & /5null 4 6 y '| '( 'with_reducible 'refine' `roomB '? ~y0 # /1null - . P Q '; 'case ~y0 $ K & /3null 4 6 y '| '( 'with_reducible 'refine' `roomD0 '? ~y0 # /1null - . P Q '; 'case ~y0 $ K & /3null 4 6 y '| S y /9null {
mu|'first '| '( 'with_reducible 'refine' `unitsD '? ~y0 # '? ~y1 # /2null - . P Q '; 'case ~y0 $ K & '; 'case ~y1 $ ( & /5null 4 6 y '| '( 'with_reducible 'refine' `unitsD1 '? ~y0 # '? ~y1 # /2null - . P Q '; 'case ~y0 $ K & '; 'case ~y1 $ ( & /5null 4 6 y '| '( 'with_reducible 'refine' `unitsD3 '? ~y0 # '? ~y1 # /2null - . P Q '; 'case ~y0 $ K & '; 'case ~y1 $ ( & /5null 4 6 y '| '( 'with_reducible 'refine' `unitsD4 '? ~y0 # '? ~y1 # /2null - . P Q '; 'case ~y0 $ K & '; 'case ~y1 $ ( & /5null 4 6 y '| '( 'with_reducible 'refine' `unitsA '? ~y0 # '? ~y1 # /2null - . P Q '; 'case ~y0 $ K & '; 'case ~y1 $ ( & /5null 4 6 y '| '( 'with_reducible 'refine' `unitsAke '? ~y0 # '? ~y1 # /2null - . P Q '; 'case ~y0 $ K & '; 'case ~y1 $ ( & /5null 4 6 y '| '( 'with_reducible 'refine' `unitsAk '? ~y0 # '? ~y1 # /2null - . P Q '; 'case ~y0 $ K & '; 'case ~y1 $ ( & /5null 4 6 y '| '( 'with_reducible 'refine' `unitsB '? ~y0 # /1null - . P Q '; 'case ~y0 $ K & /3null 4 6 y '| '( 'with_reducible 'refine' `unitsD0 '? ~y0 # /1null - . P Q '; 'case ~y0 $ K & /3null 4 6 y '| S y /:null {
mo|'first '| '( 'refine' `News.get '? ~y0 # '? ~y1 # /2null - . '; 'case ~y0 $ % & '; 'case ~y1 $ 7 & /5null 4 6 y '| '( 'refine' `frKeep '? ~y0 # '? ~y1 # /2null - . '; 'case ~y0 $ % & '; 'case ~y1 $ K & /5null 4 6 y '| K y /3null {
mc|'first '| K y '| ( y /2null {
ms|'first '| K y '| 'refine' `StrsAre.nil . y '| T y /3null {
mJ|'first '| K y '| '( 'refine' `Hid.out '? ~y0 # /1null - . '; 'case ~y0 $ K & /3null 4 6 y '| '( 'refine' `joinRel '? ~y0 # '? ~y1 # /2null - . '; 'case ~y0 $ U & '; 'case ~y1 $ V & /5null 4 6 y '| U y /4null {
mx|'first '| U y '| D y /2null {
mA|'first '| K y '| W y /2null {
mB|'first '| 'refine' `rflT . y '| 'refine' `rflF . y '| ( y /3null {
mZ|'first '| 'refine' `zeroLe . y '| '( 'refine' `sizeOk '? ~y0 # /1null - . '; 'case ~y0 $ ( & /3null 4 6 y /2null {
mF|'first '| '( 'with_reducible 'refine' `szApp '? ~y0 # '? ~y1 # '? ~y2 # /3null - . P Q '; 'case ~y0 $ X & '; 'case ~y1 $ X & '; 'case ~y2 $ ( & /7null 4 6 y '| '( 'with_reducible 'refine' `szAdd '? ~y0 # '? ~y1 # '? ~y2 # /3null - . P Q '; 'case ~y0 $ X & '; 'case ~y1 $ X & '; 'case ~y2 $ ( & /7null 4 6 y '| '( 'with_reducible 'refine' `szOf '? ~y0 # /1null - . P Q '; 'case ~y0 $ Y & /3null 4 6 y '| '( 'with_reducible 'refine' `szC '? ~y0 # '? ~y1 # '? ~y2 # /3null - . P Q '; 'case ~y0 $ K & '; 'case ~y1 $ K & '; 'case ~y2 $ ( & /7null 4 6 y /4null {
mW|'first '| '( 'with_reducible 'refine' `Nat.le_trans '? ~y0 # '? ~y1 # /2null - . P Q '; 'case ~y0 $ K & '; 'case ~y1 $ K & /5null 4 6 y '| K y '| '( 'with_reducible 'refine' `Nat.le_of_eq '? ~y0 # /1null - . P Q '; 'case ~y0 $ K & /3null 4 6 y /3null {
mi|'( 'refine' `ints18 '? ~y0 # /1null - . '; 'case ~y0 $ T & /3null 4 6
mE|'first '| Z y '| K y '| '( 'with_reducible 'refine' `Nat.le_trans '? ~y0 # '? ~y1 # /2null - . P Q '; 'case ~y0 $ K & '; 'case ~y1 $ [ & /5null 4 6 y /3null {
mG|'first '| Z y '| K y '| '( 'with_reducible 'refine' `Nat.le_trans '? ~y0 # '? ~y1 # /2null - . P Q '; 'case ~y0 $ K & '; 'case ~y1 $ ] & /5null 4 6 y /3null {
mI|'first '| Z y '| K y '| '( 'with_reducible 'refine' `Nat.le_trans '? ~y0 # '? ~y1 # /2null - . P Q '; 'case ~y0 $ K & '; 'case ~y1 $ ^ & /5null 4 6 y /3null {
mH|'first '| Z y '| K y /2null {
mz|'first '| Y y '| U y '| a y '| S y '| D y /5null {
mN|'first '| K y '| '( 'with_reducible 'refine' `Nat.ne_of_gt '? ~y0 # /1null - . P Q '; 'case ~y0 $ K & /3null 4 6 y '| '( 'with_reducible 'refine' `Nat.ne_of_lt '? ~y0 # /1null - . P Q '; 'case ~y0 $ K & /3null 4 6 y '| '( 'with_reducible 'refine' `Nat.ne_of_gt '? ~y0 # /1null - . P Q '; 'case ~y0 $ b & /3null 4 6 y '| '( 'with_reducible 'refine' `Nat.ne_of_lt '? ~y0 # /1null - . P Q '; 'case ~y0 $ b & /3null 4 6 y '| b y '| '( 'with_reducible 'refine' `Ne.symm '? ~y0 # /1null - . P Q '; 'case ~y0 $ b & /3null 4 6 y '| '( 'with_reducible 'refine' `Nat.ne_of_lt '? ~y0 # /1null - . P Q '; 'case ~y0 $ c & /3null 4 6 y '| '( 'with_reducible 'refine' `Nat.ne_of_gt '? ~y0 # /1null - . P Q '; 'case ~y0 $ c & /3null 4 6 y '| '( 'with_reducible 'refine' `Nat.ne_of_beq_eq_false '? ~y0 # /1null - . P Q '; 'case ~y0 $ ( & /3null 4 6 y /:null {
mT|'( 'with_reducible 'refine' `ltTr '? ~y0 # '? ~y1 # /2null - . P Q '; 'case ~y0 $ K & '; 'case ~y1 $ b & /5null 4 6
mD|'first '| K y '| '( 'with_reducible 'refine' `And.left '? ~y0 # /1null - . P Q '; 'case ~y0 $ d & /3null 4 6 y '| '( 'with_reducible 'refine' `And.right '? ~y0 # /1null - . P Q '; 'case ~y0 $ d & /3null 4 6 y /3null {
m1|'first '| K y '| '( 'with_reducible 'refine' `And.right '? ~y0 # /1null - . P Q '; 'case ~y0 $ e & /3null 4 6 y /2null {
m2|'first '| K y '| '( 'with_reducible 'refine' `And.right '? ~y0 # /1null - . P Q '; 'case ~y0 $ f & /3null 4 6 y /2null {
m3|'first '| K y '| '( 'with_reducible 'refine' `And.right '? ~y0 # /1null - . P Q '; 'case ~y0 $ g & /3null 4 6 y /2null {
m4|'first '| K y '| '( 'with_reducible 'refine' `And.right '? ~y0 # /1null - . P Q '; 'case ~y0 $ h & /3null 4 6 y /2null {
m5|'first '| K y '| '( 'with_reducible 'refine' `And.right '? ~y0 # /1null - . P Q '; 'case ~y0 $ i & /3null 4 6 y /2null {
m6|K
om|'first '| K y '| D y '| '( 'with_reducible 'refine' `seven '? ~y0 # '? ~y1 # /2null - . P Q '; 'case ~y0 $ K & '; 'case ~y1 $ K & /5null 4 6 y '| '( 'with_reducible 'refine' `lt63 '? ~y0 # /1null - . P Q '; 'case ~y0 $ j & /3null 4 6 y '| '( 'with_reducible 'refine' `lt63p '? ~y0 # /1null - . P Q '; 'case ~y0 $ j & /3null 4 6 y '| '( 'with_reducible 'refine' `nge63 '? ~y0 # /1null - . P Q '; 'case ~y0 $ j & /3null 4 6 y '| '( 'with_reducible 'refine' `leInt '? ~y0 # /1null - . P Q '; 'case ~y0 $ j & /3null 4 6 y '| '( 'with_reducible 'refine' `geInt . P Q /1null 4 6 y '| '( 'with_reducible 'refine' `subL '? ~y0 # /1null - . P Q '; 'case ~y0 $ j & /3null 4 6 y '| '( 'with_reducible 'refine' `subG '? ~y0 # /1null - . P Q '; 'case ~y0 $ K & /3null 4 6 y '| '( 'with_reducible 'refine' `subI '? ~y0 # /1null - . P Q '; 'case ~y0 $ j & /3null 4 6 y '| '( 'with_reducible 'refine' `subC '? ~y0 # '? ~y1 # '? ~y2 # /3null - . P Q '; 'case ~y0 $ L & '; 'case ~y1 $ L & '; 'case ~y2 $ D & /7null 4 6 y '| '( 'with_reducible 'refine' `unitsD4 '? ~y0 # '? ~y1 # /2null - . P Q '; 'case ~y0 $ K & '; 'case ~y1 $ ( & /5null 4 6 y '| '( 'with_reducible 'refine' `unitsD3 '? ~y0 # '? ~y1 # /2null - . P Q '; 'case ~y0 $ K & '; 'case ~y1 $ ( & /5null 4 6 y '| '( 'with_reducible 'refine' `roomD3 '? ~y0 # '? ~y1 # /2null - . P Q '; 'case ~y0 $ K & '; 'case ~y1 $ ( & /5null 4 6 y '| '( 'with_reducible 'refine' `leAdd '? ~y0 # '? ~y1 # '? ~y2 # /3null - . P Q '; 'case ~y0 $ L & '; 'case ~y1 $ L & '; 'case ~y2 $ D & /7null 4 6 y '| j y '| k y /Bnull {
p0|'first '| K y '| D y '| '( 'with_reducible 'refine' `addK '? ~y0 # /1null - . P Q '; 'case ~y0 $ l & /3null 4 6 y '| '( 'with_reducible 'refine' `toNatLe '? ~y0 # /1null - . P Q '; 'case ~y0 $ l & /3null 4 6 y '| '( 'with_reducible 'refine' `mulC '? ~y0 # '? ~y1 # /2null - . P Q '; 'case ~y0 $ L & '; 'case ~y1 $ D & /5null 4 6 y '| '( 'with_reducible 'refine' `Nat.le_trans '? ~y0 # '? ~y1 # /2null - . P Q '; 'case ~y0 $ K & '; 'case ~y1 $ l & /5null 4 6 y '| '( 'with_reducible 'refine' `leRt '? ~y0 # '? ~y1 # /2null - . P Q '; 'case ~y0 $ K & '; 'case ~y1 $ l & /5null 4 6 y '| '( 'with_reducible 'refine' `leLt '? ~y0 # '? ~y1 # /2null - . P Q '; 'case ~y0 $ K & '; 'case ~y1 $ l & /5null 4 6 y '| '( 'with_reducible 'refine' `leEqL '? ~y0 # '? ~y1 # /2null - . P Q '; 'case ~y0 $ K & '; 'case ~y1 $ l & /5null 4 6 y /9null {
p1|'first '| K y '| D y '| '( 'with_reducible 'refine' `addK '? ~y0 # /1null - . P Q '; 'case ~y0 $ m & /3null 4 6 y '| '( 'with_reducible 'refine' `toNatLe '? ~y0 # /1null - . P Q '; 'case ~y0 $ m & /3null 4 6 y '| '( 'with_reducible 'refine' `mulC '? ~y0 # '? ~y1 # /2null - . P Q '; 'case ~y0 $ L & '; 'case ~y1 $ D & /5null 4 6 y '| '( 'with_reducible 'refine' `Nat.le_trans '? ~y0 # '? ~y1 # /2null - . P Q '; 'case ~y0 $ K & '; 'case ~y1 $ m & /5null 4 6 y '| '( 'with_reducible 'refine' `leRt '? ~y0 # '? ~y1 # /2null - . P Q '; 'case ~y0 $ K & '; 'case ~y1 $ m & /5null 4 6 y '| '( 'with_reducible 'refine' `leLt '? ~y0 # '? ~y1 # /2null - . P Q '; 'case ~y0 $ K & '; 'case ~y1 $ m & /5null 4 6 y '| '( 'with_reducible 'refine' `leEqL '? ~y0 # '? ~y1 # /2null - . P Q '; 'case ~y0 $ K & '; 'case ~y1 $ m & /5null 4 6 y /9null {
p2|'first '| K y '| D y '| '( 'with_reducible 'refine' `addK '? ~y0 # /1null - . P Q '; 'case ~y0 $ n & /3null 4 6 y '| '( 'with_reducible 'refine' `toNatLe '? ~y0 # /1null - . P Q '; 'case ~y0 $ n & /3null 4 6 y '| '( 'with_reducible 'refine' `mulC '? ~y0 # '? ~y1 # /2null - . P Q '; 'case ~y0 $ L & '; 'case ~y1 $ D & /5null 4 6 y '| '( 'with_reducible 'refine' `Nat.le_trans '? ~y0 # '? ~y1 # /2null - . P Q '; 'case ~y0 $ K & '; 'case ~y1 $ n & /5null 4 6 y '| '( 'with_reducible 'refine' `leRt '? ~y0 # '? ~y1 # /2null - . P Q '; 'case ~y0 $ K & '; 'case ~y1 $ n & /5null 4 6 y '| '( 'with_reducible 'refine' `leLt '? ~y0 # '? ~y1 # /2null - . P Q '; 'case ~y0 $ K & '; 'case ~y1 $ n & /5null 4 6 y /8null {
p3|'first '| K y '| D y '| '( 'with_reducible 'refine' `addK '? ~y0 # /1null - . P Q '; 'case ~y0 $ o & /3null 4 6 y '| '( 'with_reducible 'refine' `toNatLe '? ~y0 # /1null - . P Q '; 'case ~y0 $ o & /3null 4 6 y '| '( 'with_reducible 'refine' `mulC '? ~y0 # '? ~y1 # /2null - . P Q '; 'case ~y0 $ L & '; 'case ~y1 $ D & /5null 4 6 y '| '( 'with_reducible 'refine' `Nat.le_trans '? ~y0 # '? ~y1 # /2null - . P Q '; 'case ~y0 $ K & '; 'case ~y1 $ o & /5null 4 6 y /6null {
p4|'first '| K y '| D y '| '( 'with_reducible 'refine' `addK '? ~y0 # /1null - . P Q '; 'case ~y0 $ p & /3null 4 6 y '| '( 'with_reducible 'refine' `toNatLe '? ~y0 # /1null - . P Q '; 'case ~y0 $ p & /3null 4 6 y '| '( 'with_reducible 'refine' `mulC '? ~y0 # '? ~y1 # /2null - . P Q '; 'case ~y0 $ L & '; 'case ~y1 $ D & /5null 4 6 y '| '( 'with_reducible 'refine' `Nat.le_trans '? ~y0 # '? ~y1 # /2null - . P Q '; 'case ~y0 $ K & '; 'case ~y1 $ p & /5null 4 6 y /6null {
p5|'first '| K y '| D y '| '( 'with_reducible 'refine' `addK '? ~y0 # /1null - . P Q '; 'case ~y0 $ q & /3null 4 6 y '| '( 'with_reducible 'refine' `toNatLe '? ~y0 # /1null - . P Q '; 'case ~y0 $ q & /3null 4 6 y '| '( 'with_reducible 'refine' `mulC '? ~y0 # '? ~y1 # /2null - . P Q '; 'case ~y0 $ L & '; 'case ~y1 $ D & /5null 4 6 y '| '( 'with_reducible 'refine' `Nat.le_trans '? ~y0 # '? ~y1 # /2null - . P Q '; 'case ~y0 $ K & '; 'case ~y1 $ q & /5null 4 6 y /6null {
p6|'first '| K y '| D y '| '( 'with_reducible 'refine' `mulC '? ~y0 # '? ~y1 # /2null - . P Q '; 'case ~y0 $ L & '; 'case ~y1 $ D & /5null 4 6 y /3null {
w0|'first '| '( 'with_reducible 'refine' `closedLe '? ~y0 # /1null - . P Q '; 'case ~y0 $ D & /3null 4 6 y '| '( 'with_reducible 'refine' `lenApp '? ~y0 # '? ~y1 # /2null - . P Q '; 'case ~y0 $ r & '; 'case ~y1 $ r & /5null 4 6 y '| '( 'with_reducible 'refine' `addK '? ~y0 # /1null - . P Q '; 'case ~y0 $ r & /3null 4 6 y '| '( 'with_reducible 'refine' `Nat.add_le_add '? ~y0 # '? ~y1 # /2null - . P Q '; 'case ~y0 $ r & '; 'case ~y1 $ r & /5null 4 6 y '| '( 'with_reducible 'refine' `mulK '? ~y0 # /1null - . P Q '; 'case ~y0 $ r & /3null 4 6 y '| '( 'with_reducible 'refine' `toNatLe '? ~y0 # /1null - . P Q '; 'case ~y0 $ r & /3null 4 6 y '| '( 'with_reducible 'refine' `Nat.le_trans '? ~y0 # '? ~y1 # /2null - . P Q '; 'case ~y0 $ K & '; 'case ~y1 $ r & /5null 4 6 y '| '( 'with_reducible 'refine' `leRt '? ~y0 # '? ~y1 # /2null - . P Q '; 'case ~y0 $ K & '; 'case ~y1 $ r & /5null 4 6 y '| '( 'with_reducible 'refine' `leLt '? ~y0 # '? ~y1 # /2null - . P Q '; 'case ~y0 $ K & '; 'case ~y1 $ r & /5null 4 6 y '| K y '| '( 'with_reducible 'refine' `Nat.le_of_eq '? ~y0 # /1null - . P Q '; 'case ~y0 $ K & /3null 4 6 y /;null {
w1|'first '| '( 'with_reducible 'refine' `closedLe '? ~y0 # /1null - . P Q '; 'case ~y0 $ D & /3null 4 6 y '| '( 'with_reducible 'refine' `lenApp '? ~y0 # '? ~y1 # /2null - . P Q '; 'case ~y0 $ s & '; 'case ~y1 $ s & /5null 4 6 y '| '( 'with_reducible 'refine' `addK '? ~y0 # /1null - . P Q '; 'case ~y0 $ s & /3null 4 6 y '| '( 'with_reducible 'refine' `Nat.add_le_add '? ~y0 # '? ~y1 # /2null - . P Q '; 'case ~y0 $ s & '; 'case ~y1 $ s & /5null 4 6 y '| '( 'with_reducible 'refine' `mulK '? ~y0 # /1null - . P Q '; 'case ~y0 $ s & /3null 4 6 y '| '( 'with_reducible 'refine' `toNatLe '? ~y0 # /1null - . P Q '; 'case ~y0 $ s & /3null 4 6 y '| '( 'with_reducible 'refine' `Nat.le_trans '? ~y0 # '? ~y1 # /2null - . P Q '; 'case ~y0 $ K & '; 'case ~y1 $ s & /5null 4 6 y '| '( 'with_reducible 'refine' `leRt '? ~y0 # '? ~y1 # /2null - . P Q '; 'case ~y0 $ K & '; 'case ~y1 $ s & /5null 4 6 y '| '( 'with_reducible 'refine' `leLt '? ~y0 # '? ~y1 # /2null - . P Q '; 'case ~y0 $ K & '; 'case ~y1 $ s & /5null 4 6 y '| K y '| '( 'with_reducible 'refine' `Nat.le_of_eq '? ~y0 # /1null - . P Q '; 'case ~y0 $ K & /3null 4 6 y /;null {
w2|'first '| '( 'with_reducible 'refine' `closedLe '? ~y0 # /1null - . P Q '; 'case ~y0 $ D & /3null 4 6 y '| '( 'with_reducible 'refine' `lenApp '? ~y0 # '? ~y1 # /2null - . P Q '; 'case ~y0 $ t & '; 'case ~y1 $ t & /5null 4 6 y '| '( 'with_reducible 'refine' `addK '? ~y0 # /1null - . P Q '; 'case ~y0 $ t & /3null 4 6 y '| '( 'with_reducible 'refine' `Nat.add_le_add '? ~y0 # '? ~y1 # /2null - . P Q '; 'case ~y0 $ t & '; 'case ~y1 $ t & /5null 4 6 y '| '( 'with_reducible 'refine' `mulK '? ~y0 # /1null - . P Q '; 'case ~y0 $ t & /3null 4 6 y '| '( 'with_reducible 'refine' `toNatLe '? ~y0 # /1null - . P Q '; 'case ~y0 $ t & /3null 4 6 y '| '( 'with_reducible 'refine' `Nat.le_trans '? ~y0 # '? ~y1 # /2null - . P Q '; 'case ~y0 $ K & '; 'case ~y1 $ t & /5null 4 6 y '| K y '| '( 'with_reducible 'refine' `Nat.le_of_eq '? ~y0 # /1null - . P Q '; 'case ~y0 $ K & /3null 4 6 y /9null {
w3|'first '| '( 'with_reducible 'refine' `closedLe '? ~y0 # /1null - . P Q '; 'case ~y0 $ D & /3null 4 6 y '| '( 'with_reducible 'refine' `lenApp '? ~y0 # '? ~y1 # /2null - . P Q '; 'case ~y0 $ u & '; 'case ~y1 $ u & /5null 4 6 y '| '( 'with_reducible 'refine' `addK '? ~y0 # /1null - . P Q '; 'case ~y0 $ u & /3null 4 6 y '| '( 'with_reducible 'refine' `Nat.add_le_add '? ~y0 # '? ~y1 # /2null - . P Q '; 'case ~y0 $ u & '; 'case ~y1 $ u & /5null 4 6 y '| '( 'with_reducible 'refine' `mulK '? ~y0 # /1null - . P Q '; 'case ~y0 $ u & /3null 4 6 y '| '( 'with_reducible 'refine' `toNatLe '? ~y0 # /1null - . P Q '; 'case ~y0 $ u & /3null 4 6 y '| '( 'with_reducible 'refine' `Nat.le_trans '? ~y0 # '? ~y1 # /2null - . P Q '; 'case ~y0 $ K & '; 'case ~y1 $ u & /5null 4 6 y '| K y '| '( 'with_reducible 'refine' `Nat.le_of_eq '? ~y0 # /1null - . P Q '; 'case ~y0 $ K & /3null 4 6 y /9null {
w4|'first '| '( 'with_reducible 'refine' `closedLe '? ~y0 # /1null - . P Q '; 'case ~y0 $ D & /3null 4 6 y '| '( 'with_reducible 'refine' `lenApp '? ~y0 # '? ~y1 # /2null - . P Q '; 'case ~y0 $ v & '; 'case ~y1 $ v & /5null 4 6 y '| '( 'with_reducible 'refine' `addK '? ~y0 # /1null - . P Q '; 'case ~y0 $ v & /3null 4 6 y '| '( 'with_reducible 'refine' `Nat.add_le_add '? ~y0 # '? ~y1 # /2null - . P Q '; 'case ~y0 $ v & '; 'case ~y1 $ v & /5null 4 6 y '| '( 'with_reducible 'refine' `mulK '? ~y0 # /1null - . P Q '; 'case ~y0 $ v & /3null 4 6 y '| '( 'with_reducible 'refine' `toNatLe '? ~y0 # /1null - . P Q '; 'case ~y0 $ v & /3null 4 6 y '| '( 'with_reducible 'refine' `Nat.le_trans '? ~y0 # '? ~y1 # /2null - . P Q '; 'case ~y0 $ K & '; 'case ~y1 $ v & /5null 4 6 y '| K y '| '( 'with_reducible 'refine' `Nat.le_of_eq '? ~y0 # /1null - . P Q '; 'case ~y0 $ K & /3null 4 6 y /9null {
w5|'first '| '( 'with_reducible 'refine' `closedLe '? ~y0 # /1null - . P Q '; 'case ~y0 $ D & /3null 4 6 y '| '( 'with_reducible 'refine' `lenApp '? ~y0 # '? ~y1 # /2null - . P Q '; 'case ~y0 $ w & '; 'case ~y1 $ w & /5null 4 6 y '| '( 'with_reducible 'refine' `addK '? ~y0 # /1null - . P Q '; 'case ~y0 $ w & /3null 4 6 y '| '( 'with_reducible 'refine' `Nat.add_le_add '? ~y0 # '? ~y1 # /2null - . P Q '; 'case ~y0 $ w & '; 'case ~y1 $ w & /5null 4 6 y '| '( 'with_reducible 'refine' `mulK '? ~y0 # /1null - . P Q '; 'case ~y0 $ w & /3null 4 6 y '| '( 'with_reducible 'refine' `toNatLe '? ~y0 # /1null - . P Q '; 'case ~y0 $ w & /3null 4 6 y '| '( 'with_reducible 'refine' `Nat.le_trans '? ~y0 # '? ~y1 # /2null - . P Q '; 'case ~y0 $ K & '; 'case ~y1 $ w & /5null 4 6 y '| K y '| '( 'with_reducible 'refine' `Nat.le_of_eq '? ~y0 # /1null - . P Q '; 'case ~y0 $ K & /3null 4 6 y /9null {
w6|'first '| '( 'with_reducible 'refine' `closedLe '? ~y0 # /1null - . P Q '; 'case ~y0 $ D & /3null 4 6 y '| K y '| '( 'with_reducible 'refine' `Nat.le_of_eq '? ~y0 # /1null - . P Q '; 'case ~y0 $ K & /3null 4 6 y /3null {
wS|'first '| 'with_reducible '( 'first '| 'refine `wpAny_bind , z y '| 'refine `wpAny_pure , z y '| 'refine `wpAny_holding , z y '| 'refine `wpAny_rule , z y '| 'refine `wpAny_mkInt' , z y '| 'refine `wpAny_alloc' , z y '| 'refine `wpAny_standAt , z y '| 'refine `wpAny_point , z y '| 'refine `wpAny_letGo , z y '| '( 'show `wpAny x x '( `[anonymous] /1hygieneInfo /2Lean.Parser.Term.hygienicLParen `mkStr x /1null - ') /3Lean.Parser.Term.paren x x x /6null - /2Lean.Parser.Tactic.show '; 'refine `wpAny_mkStr' , z /3null 4 6 y '| 'refine `wpAny_fresh' , z y '| 'refine `wpAny_attempt , z y '| 'refine `wpAny_throw , z y '| 'refine `wpAny_of_eq '( `[anonymous] /1hygieneInfo /2Lean.Parser.Term.hygienicLParen 'by T P /2Lean.Parser.Term.byTactic ') /3Lean.Parser.Term.paren , /2null - /2Lean.Parser.Tactic.refine y '| 'refine `wpAny_typeOf '( `[anonymous] /1hygieneInfo /2Lean.Parser.Term.hygienicLParen 'by T P /2Lean.Parser.Term.byTactic ') /3Lean.Parser.Term.paren , /2null - /2Lean.Parser.Tactic.refine y '| 'refine `wpAny_specialOf_val '( `[anonymous] /1hygieneInfo /2Lean.Parser.Term.hygienicLParen 'by T P /2Lean.Parser.Term.byTactic ') /3Lean.Parser.Term.paren '( `[anonymous] /1hygieneInfo /2Lean.Parser.Term.hygienicLParen 'by T P /2Lean.Parser.Term.byTactic ') /3Lean.Parser.Term.paren , /3null - /2Lean.Parser.Tactic.refine y '| 'refine `wpAny_specialOf '( `[anonymous] /1hygieneInfo /2Lean.Parser.Term.hygienicLParen 'by T P /2Lean.Parser.Term.byTactic ') /3Lean.Parser.Term.paren '( `[anonymous] /1hygieneInfo /2Lean.Parser.Term.hygienicLParen 'by T P /2Lean.Parser.Term.byTactic ') /3Lean.Parser.Term.paren , /3null - /2Lean.Parser.Tactic.refine y '| 'refine `wpAny_isInstance_val '( `[anonymous] /1hygieneInfo /2Lean.Parser.Term.hygienicLParen 'by T P /2Lean.Parser.Term.byTactic ') /3Lean.Parser.Term.paren '( `[anonymous] /1hygieneInfo /2Lean.Parser.Term.hygienicLParen 'by T P /2Lean.Parser.Term.byTactic ') /3Lean.Parser.Term.paren , /3null - /2Lean.Parser.Tactic.refine y '| 'refine `wpAny_isInstance '( `[anonymous] /1hygieneInfo /2Lean.Parser.Term.hygienicLParen 'by T P /2Lean.Parser.Term.byTactic ') /3Lean.Parser.Term.paren '( `[anonymous] /1hygieneInfo /2Lean.Parser.Term.hygienicLParen 'by T P /2Lean.Parser.Term.byTactic ') /3Lean.Parser.Term.paren , /3null - /2Lean.Parser.Tactic.refine y '| 'refine `wpAny_call , z y '| 'refine `wpAny_runValue , z y '| 'refine `wpAny_run , z y /Fnull { P 6 P Q y '| '( '( 'first '| 'with_reducible 'apply `wpAny_load' ¡ y '| 'with_reducible 'apply `wpAny_update' ¡ y '| 'with_reducible 'apply `wpAny_loadPart' ¡ y '| 'with_reducible 'apply `wpAny_updatePart' ¡ y /4null { P 6 '; 'focus '( 'heap_get /1tacticHeap_get '; ¢ P /2Lean.Parser.Tactic.focus /3null 4 6 y '| '( '( 'with_reducible 'apply `wpAny_handled_none ¡ P 6 '; 'focus '( T '; ¢ P /2Lean.Parser.Tactic.focus /3null 4 6 y '| '( '( 'with_reducible 'apply `wpAny_ite_false ¡ P 6 '; 'focus '( 'rfl /1Lean.Parser.Tactic.tacticRfl '; ¢ P /2Lean.Parser.Tactic.focus /3null 4 6 y '| '( '( 'with_reducible 'apply `wpAny_ite_true ¡ P 6 '; 'focus '( 'rfl /1Lean.Parser.Tactic.tacticRfl '; ¢ P /2Lean.Parser.Tactic.focus /3null 4 6 y '| '( '( 'with_reducible 'apply `wpAny_ite_false ¡ P 6 '; 'focus '( 'simp /0null /1Lean.Parser.Tactic.optConfig /0null /0null '[ '* /1Lean.Parser.Tactic.simpStar /1null '] /3null /0null /6Lean.Parser.Tactic.simp '; ¢ P /2Lean.Parser.Tactic.focus /3null 4 6 y '| '( '( 'with_reducible 'apply `wpAny_ite_true ¡ P 6 '; 'focus '( 'simp /0null /1Lean.Parser.Tactic.optConfig /0null /0null '[ '* /1Lean.Parser.Tactic.simpStar /1null '] /3null /0null /6Lean.Parser.Tactic.simp '; ¢ P /2Lean.Parser.Tactic.focus /3null 4 6 y '| 'wp_delta /1tacticWp_delta y '| 'with_reducible_and_instances 'refine `wpAny_pure , z P /2Lean.Parser.Tactic.withReducibleAndInstances y '| 'with_reducible_and_instances 'refine `wpAny_bind , z P /2Lean.Parser.Tactic.withReducibleAndInstances y /:null /2Lean.Parser.Tactic.first
nE|'( 'refine `neN , z '; 0 '; !mN /5null 4 6
execs cons|1 'with_reducible 'first '| 'refine `execs_one , z y '| 'refine `wpAny_execs_cons , z y /2null { P Q '; R '; 'refine `foldS , z '; 'intro ~sz /1null = /9null 4 6
kr|'first '| !room y '| '( £ `depth_under_make ¤ ¥ `depth_under_kw ¤ ¥ `depth_in1 ¤ ¥ `depth_deeper ¤ ¥ `depth_caller ¤ /9null ¦ '; !room /3null 4 6 y /2null {
mLists|'( 'refine' `List.forall_mem_cons.mpr '⟨ '? ~a # ', '? ~b # /3null '⟩ § /1null - . '; 'case ~a $ '( 'refine' '⟨ x ', x ', x ', '? ~o # ', '? ~c # ', '? ~d # ', '? ~s # /=null '⟩ § . '; 'case ~o $ !mo & '; 'case ~c $ !mc & '; 'case ~d $ !mc & '; 'case ~s $ !ms & /9null 4 6 & '; 'case ~b $ 'first '| 'exact `List.forall_mem_nil x /1null - ¨ y '| 'walk_at '\"mLists\" /1str /2PyProof.Rows.tacticWalk_at_ y /2null { & /5null 4 6
kA|'first '| 'exact `List.forall_mem_nil x /1null - ¨ y '| '( 'refine' `List.forall_mem_cons.mpr '⟨ '? ~a # ', '? ~b # /3null '⟩ § /1null - . '; 'case ~a $ 'k_ne /1PySem.W.tacticK_ne & '; 'case ~b $ 'k_all /1PySem.W.tacticK_all & /5null 4 6 y /2null {"
open Lean in
def wkRun (L : List String) (m : Name) (sc : Nat) : Nat → Nat → String → Array Syntax → Array Syntax
  | 0, _, _, st => st
  | n + 1, d, p, st => (p.splitOn " ").foldl (fun st t =>
      let r := (t.drop 1).toString
      let c := t.front
      if c == '\'' then st.push (.atom .none r)
      else if c == '`' then st.push (mkIdent r.toName)
      else if c == '~' then st.push (mkIdent (addMacroScope m (.mkSimple (r ++ toString d)) sc))
      else if c == '/' then
        let i := st.size - (r.front.toNat - 48)
        (st.take i).push (.node .none (r.drop 1).toName (st.extract i st.size))
      else if c == '!' then wkRun L m sc n (d + 1) ((((L.find? (·.startsWith (r ++ "|"))).getD "").drop (r.length + 1)).toString) st
      else wkRun L m sc n d (L.getD (c.toNat - 35) "") st) st
open Lean in
def wk (key : String) : MacroM (TSyntax `tactic) := do
  let L := wkT.splitOn "\n"
  if let some p := L.find? (·.startsWith (key ++ "|")) then return ⟨(wkRun L (← MonadQuotation.getContext) (← getCurrMacroScope) 32 0 (p.drop (key.length + 1)).toString #[]).back!⟩
  else Macro.throwUnsupported
local macro_rules
  | `(tactic| wp_walk) => do `(tactic| repeat $(← wk "wS"):tactic)
  | `(tactic| wp_walk using $rs,*) => do
    let ts ← rs.getElems.mapM fun r => `(tactic| with_reducible apply $r)
    `(tactic| repeat (first $[| $ts:tactic]* | $(← wk "wS"):tactic))
local macro_rules | `(tactic| wp_step) => wk "wS"
theorem enterC {prog : Program} {w : World} {A A₀ : Around} {E : Value → Shared → Prop} {s : Shared} {K : Frag} {L : Addr} {h₀ base : Heap} {m mg mb : Str → Option Value} {p : Program} {loose : List Str} {mean : ExcName → Option Value}
    {env : Env} {outer : List Env} {P : Value → Heap → Prop} {name qual : Str} {params : Arguments} {body : List Stmt} {scope : Scope} {dV kV doc pm cdv ct oc : Value} {an od : Option Addr} {osl : Array (Option Value)} {f : Addr} {args : List Value} (binds : List (Str × Value))
    (B : Below A₀ base outer h₀) (F : Fr h₀ L s.heap m) (X₀ : K.In h₀) (T : Top p loose mean mg mb h₀) (hA : A.frames = some (env :: outer)) (hf : env.frame = some L) (hke : env.scope.kind = .function)
    (ho : K.lookup f = some ⟨oc, od, .func (fnOf name qual params body scope dV kV doc pm an cdv ct), osl⟩) (hcd : codeIn K cdv qual = true) (hroom : A.depth < recursionLimit)
    (hbind : BindsTo s (fnOf name qual params body scope dV kV doc pm an cdv ct) ⟨args, []⟩ binds) (hkind : (binds.all fun y => scope.names.lookup y.1 == some .local || scope.names.lookup y.1 == some .cell) = true)
    (hnd : ((cellsFrom 0 scope.names []).map (·.1)).Nodup)
    (h : ∀ L' h₁ tk cells, Fr s.heap L' h₁ (bindL (envOfC qual scope L' f cdv).kindOf binds fun _ => none) → News s.heap L' h₁ cells →
      CellsAre (bindC (envOfC qual scope L' f cdv).kindOf binds fun _ => none) (cellsFrom (L' + 1) scope.names []) cells →
      Below A base (env :: outer) s.heap → K.In s.heap → Top p loose mean mg mb s.heap →
      ∀ Qf : Flow → Shared → Prop, (∀ {v h' tk' m'}, Fr s.heap L' h' m' → P v h' → Qf (.ret v) { s with heap := h', toks := tk' }) →
      wpAny (model prog w) (A.deeper (envOfC qual scope L' f cdv)) (execs body (envOfC qual scope L' f cdv)) Qf (fun _ _ => False) { s with heap := h₁, toks := tk })
    (hsc : (!scope.isCoroutine && !scope.isGenerator && scope.kind == .function) = true) : wpAny (model prog w) A (call (.ref f) args) (Done s P) E s := by
  simp only [Bool.and_eq_true, Bool.not_eq_true', beq_iff_eq] at hsc
  have X := X₀.keeps F.keep
  have T' := T.keeps F.keep
  refine wpAny_call (codeAny_call_function hroom (X _ _ ho) rfl hsc.1.1 hsc.1.2 rfl (codeRec_of X hcd) (hbind _ _ _ _ ?_))
  refine wpAny_newFunctionEnv_cells hsc.2 (kindsX hkind _) fun env' he s' x => ?_
  subst he
  refine ⟨T'.nolimit.keeps x.toInCall.keep, codeAny_func ?_⟩
  obtain ⟨h₁, tk, rfl, _⟩ := x.done
  have hk₁ := x.toInCall.keep
  obtain ⟨cells, NC, Y⟩ := Cl.news (h₀ := s.heap) (Nat.le_refl _) fun n c hm => ⟨x.cell n c (lookup_of_mem_nodup (cellsFrom_names scope.names 0 (s.heap.objs.size + 1) [] [] rfl ▸ hnd) hm), x.above n c hm⟩
  exact wpAny_noRaise (h s.heap.objs.size h₁ tk cells ⟨x.toInCall.ns, hk₁, Nat.le_refl _⟩ NC Y (below_push B F hA hf hke) X T' (fun fl s' => Done s P (match fl with | .ret v => v | _ => .none) s') fun {v h' tk' m'} F hp => ⟨h', tk', rfl, F.keep, hp⟩)

section
variable {M : Model} {A : Around} {E : Value → Shared → Prop} {h h₀ : Heap} {g : Array GenState} {d : Drawn} {t : Nat} {o : OsState} {L a : Addr} {m : Str → Option Value} {cn : Str} {cs : Scope} {ccd : Value} {cl : List (Str × Addr)}
  {x : Str} {v : Value} {Q : Unit → Shared → Prop} {news : List (Addr × Obj)}
theorem storeV (F : Fr h₀ L h m) (N : News h₀ L h news)
    (H : ∀ k h', Fr h₀ L h' (fun y => if y = x then some v else m y) → News h₀ L h' news → Q () ⟨h', g, d, k, o⟩)
    (hk : cs.kind = .function) (hx : (envX cn cs L a ccd cl).kindOf x = some .local) : wpAny M A (storeName (envX cn cs L a ccd cl) x v) Q E ⟨h, g, d, t, o⟩ :=
  storeX_L (s := ⟨h, g, d, t, o⟩) F N (fun h' F' N' => H _ h' F' N') hk hx
theorem storeS {y : Str} {u : Tok} (F : Fr h₀ L h m) (N : News h₀ L h news)
    (H : ∀ k u h', Fr h₀ L h' (fun z => if z = x then some (.str y u) else m z) → News h₀ L h' news → Q () ⟨h', g, d, k, o⟩)
    (hk : cs.kind = .function) (hx : (envX cn cs L a ccd cl).kindOf x = some .local) : wpAny M A (storeName (envX cn cs L a ccd cl) x (.str y u)) Q E ⟨h, g, d, t, o⟩ :=
  storeV F N (fun k => H k u) hk hx
theorem storeI {y : Int} {u : Tok} (F : Fr h₀ L h m) (N : News h₀ L h news)
    (H : ∀ k u h', Fr h₀ L h' (fun z => if z = x then some (.int y u) else m z) → News h₀ L h' news → Q () ⟨h', g, d, k, o⟩)
    (hk : cs.kind = .function) (hx : (envX cn cs L a ccd cl).kindOf x = some .local) : wpAny M A (storeName (envX cn cs L a ccd cl) x (.int y u)) Q E ⟨h, g, d, t, o⟩ :=
  storeV F N (fun k => H k u) hk hx
end
section
variable {M : Model} {A : Around} {E : Value → Shared → Prop} {st : Stmt} {rest : List Stmt} {env : Env} {Q : Flow → Shared → Prop} {s : Shared}
theorem execs_one (H : wpAny M A (exec st env) Q E s) : wpAny M A (execs [st] env) Q E s :=
  wpAny_execs_cons (wpAny_mono H (fun f s' h => by cases f <;> first | exact wpAny_execs_nil h | exact h) fun _ _ x => x)
end
theorem roomD {dp d k e : Nat} (h : dp + d < recursionLimit) (hk : Nat.ble (k + e) d = true) : dp + k + e < recursionLimit := by
  rw [Nat.add_assoc]; exact Nat.lt_of_le_of_lt (Nat.add_le_add_left (Nat.le_of_ble_eq_true hk) dp) h
theorem roomD1 {dp d k : Nat} (h : dp + d < recursionLimit) (hk : Nat.ble k d = true) : dp + k < recursionLimit := roomD (k := k) (e := 0) h hk
theorem roomD0 {dp d : Nat} (h : dp + d < recursionLimit) : dp < recursionLimit := Nat.lt_of_le_of_lt (Nat.le_add_right _ _) h
theorem unitsD {un d k e : Nat} (h : un + 8 * d < cLine) (hk : Nat.ble (k + 8 * e) (8 * d) = true) : un + k + 8 * e < cLine := by
  rw [Nat.add_assoc]; exact Nat.lt_of_le_of_lt (Nat.add_le_add_left (Nat.le_of_ble_eq_true hk) un) h
theorem unitsD1 {un d k : Nat} (h : un + 8 * d < cLine) (hk : Nat.ble k (8 * d) = true) : un + k < cLine := Nat.lt_of_le_of_lt (Nat.add_le_add_left (Nat.le_of_ble_eq_true hk) un) h
theorem unitsD0 {un d : Nat} (h : un + 8 * d < cLine) : un < cLine := Nat.lt_of_le_of_lt (Nat.le_add_right _ _) h
structure Back (Q Q' : Flow → Shared → Prop) : Prop where
  go : ∀ f s, Q f s → Q' f s
section
variable {M : Model} {A : Around} {E : Value → Shared → Prop} {st : Stmt} {rest : List Stmt} {env : Env} {Q : Flow → Shared → Prop} {s : Shared}
theorem execs_hide (H : ∀ Q', Back (fun f s' => match f with | .next => wpAny M A (execs rest env) Q E s' | f => Q f s') Q' → wpAny M A (exec st env) Q' E s) : wpAny M A (execs (st :: rest) env) Q E s :=
  wpAny_execs_cons (H _ ⟨fun f _ x => by cases f <;> exact x⟩)
end
section
variable {dp un d : Nat} {gd : Option (List Code)} {cn : Str} {cs : Scope} {L a : Addr} {ccd : Value} {cl : List (Str × Addr)} {outer : List Env} {env : Env}
theorem unitsA (h : un + 8 * d < cLine) (hk : Nat.ble 3 (8 * d) = true) : ((ktrTop dp un gd cn cs L a ccd cl outer).deeper env).units < cLine := unitsD1 h hk
theorem unitsB (h : un + 8 * d < cLine) : (ktrTop dp un gd cn cs L a ccd cl outer).units < cLine := unitsD0 h
theorem roomB (h : dp + d < recursionLimit) : (ktrTop dp un gd cn cs L a ccd cl outer).depth < recursionLimit := roomD0 h
theorem roomA (h : dp + d < recursionLimit) (hk : Nat.ble 1 d = true) : ((ktrTop dp un gd cn cs L a ccd cl outer).deeper env).depth < recursionLimit := roomD1 h hk
end
section
variable {α : Type} {M : Model} {A : Around} {c : Sem α} {Q : α → Shared → Prop} {E : Value → Shared → Prop} {s : Shared}
theorem foldS (H : let s' := s; wpAny M A c Q E s') : wpAny M A c Q E s := H
theorem foldA (H : let A' := A; wpAny M A' c Q E s) : wpAny M A c Q E s := H
end
theorem bd {a b c : Nat} (h : a ≤ b) (hb : Nat.ble b c = true) : a ≤ c := Nat.le_trans h (Nat.le_of_ble_eq_true hb)
theorem bd7 {a b c : Nat} (h : a ≤ b) (hb : Nat.ble (7 * b + 7) c = true) : 7 * a + 7 ≤ c := Nat.le_trans (Nat.add_le_add_right (Nat.mul_le_mul_left 7 h) 7) (Nat.le_of_ble_eq_true hb)
theorem bd1 {a b c n : Nat} (e : n = a + 1) (h : a ≤ b) (hb : Nat.ble (b + 1) c = true) : n ≤ c := e ▸ bd (Nat.add_le_add_right h 1) hb
theorem nat_int {i j : Nat} (h : (i : Int) = (j : Int)) : i = j := Int.ofNat.inj h
theorem foldP {P : Prop} (h : let P' := P; P') : P := h
section
variable {prog : Program} {w : World} {A : Around} {E : Value → Shared → Prop}

theorem kind_isc : builtinKind "issubclass" = none := by rw [PySem.W.Fast.te11380579304954806539]; kernel_rfl
theorem plain_isc : plainId "issubclass" = true := by decide +kernel
theorem entry_isc : entryFor table "issubclass" = some Builtin.«issubclass» := entryFor_of_tree (by kernel_rfl)
theorem kind_iscn : builtinKind "issubclass.nested" = none := by rw [PySem.W.Fast.te11380579304954806539]; kernel_rfl
theorem plain_iscn : plainId "issubclass.nested" = true := by decide +kernel
theorem entry_iscn : entryFor table "issubclass.nested" = some Builtin.«issubclass.nested» := entryFor_of_tree (by kernel_rfl)
theorem args_iscn (a b c : Value) : argsOk "issubclass.nested" ⟨[a, b, c], []⟩ := by unfold argsOk; rw [qG, qA]; kernel_rfl
theorem args_isc (a b : Value) : argsOk "issubclass" ⟨[a, b], []⟩ := by unfold argsOk; rw [qG, qA]; kernel_rfl
theorem isc_sub_str : isSubtype (.type "str") (.type "str") = pure true := by rw [qS]; kernel_rfl
theorem isc_ty_str : typeOf (.type "str") = pure (.type "type") := by rfl

theorem isc_nested_str {s : Shared} {Q : Fin → Shared → Prop} {dep : Int} {tk : Tok} (h : Q (.done (.ret (.bool true))) s) :
    wpAny (model prog w) A (Builtin.«issubclass.nested» ⟨[.type "str", .type "str", .int dep tk], []⟩) Q E s := by
  obtain ⟨hh, g, d, tt, os⟩ := s
  unfold Builtin.«issubclass.nested»
  k_delta "plainIsSubclass"
  have f1 := isc_sub_str
  repeat (any_goals (first | assumption | wp_step))
theorem call_iscn_str {s : Shared} {Q : Value → Shared → Prop} {dep : Int} (h : Q (.bool true) s) :
    wpAny (model prog w) A (call (.builtin "issubclass.nested") [.type "str", .type "str", rawInt dep]) Q E s :=
  Calls.call_function_entry kind_iscn plain_iscn entry_iscn (args_iscn _ _ _) (isc_nested_str ⟨_, rfl, h⟩)

theorem isc_nested_tuple {s : Shared} {Q : Fin → Shared → Prop} {tp : Addr} {tk : Tok} {n : Nat} {d : Option Addr} {sl} (ht : s.heap.get? tp = some ⟨.type "tuple", d, .seq #[.type "str", .type "bytes"] n, sl⟩) (h : Q (.done (.ret (.bool true))) s) :
    wpAny (model prog w) A (Builtin.«issubclass.nested» ⟨[.type "str", .ref tp, .int 0 tk], []⟩) Q E s := by
  obtain ⟨hh, g, d, tt, os⟩ := s
  unfold Builtin.«issubclass.nested»
  have hT2 : (⟨hh, g, d, tt, os⟩ : Shared).TypeIs (.ref tp) "tuple" := ⟨_, ht, rfl⟩
  have f1 := F.isi_sub_tuple
  repeat (any_goals (first | assumption | refine call_iscn_str ?_ | wp_step))
theorem isc_outer {s : Shared} {R : Result → Shared → Prop} {tp : Addr} {n : Nat} {d : Option Addr} {sl} (ht : s.heap.get? tp = some ⟨.type "tuple", d, .seq #[.type "str", .type "bytes"] n, sl⟩) (h : R (.ok (.ret (.bool true))) s) :
    wpAny (model prog w) A.in1 (Builtin.«issubclass» ⟨[.type "str", .ref tp], []⟩)
      (fun fin s' => match fin with | .done f => R (.ok f) s' | .again c' => c'.quiet = true ∧ codeAny (model prog w) A c' R s') (fun e s' => R (.error e) s') s := by
  unfold Builtin.«issubclass»
  repeat (any_goals (first | assumption | wp_step))
  refine ⟨Code.quiet_builtin _ (by decide +kernel), codeAny_builtin entry_iscn ?_⟩
  rw [Around.under_plain (show (Code.builtin "issubclass.nested" ⟨[.type "str", .ref tp, rawInt 0], []⟩).weight = 0 from rfl) rfl]
  exact isc_nested_tuple ht h
theorem call_isc {s : Shared} {Q : Value → Shared → Prop} {tp : Addr} {n : Nat} {d : Option Addr} {sl} (ht : s.heap.get? tp = some ⟨.type "tuple", d, .seq #[.type "str", .type "bytes"] n, sl⟩) (h : Q (.bool true) s) :
    wpAny (model prog w) A (call (.builtin "issubclass") [.type "str", .ref tp]) Q E s :=
  call_function_meets (S := fun _ R s => (s.heap.get? tp = some ⟨.type "tuple", d, .seq #[.type "str", .type "bytes"] n, sl⟩) ∧ R (.ok (.ret (.bool true))) s) kind_isc plain_isc entry_isc (args_isc _ _) (fun _ _ _ _ _ hs => isc_outer hs.1 hs.2) ⟨ht, h⟩
end

noncomputable def TurnL (h₀ : Heap) (L : Addr) (it : Addr × Obj) (Jn : (Str → Option Value) → List (Addr × Obj) → Prop) (s : Shared) (Q : Flow → Shared → Prop) (fl : Flow) (s' : Shared) : Prop :=
  match fl with
  | .ret v => Q (.ret v) s'
  | .brk => Q .next s'
  | _ => ∃ h' tk' m' news', s' = { s with heap := h', toks := tk' } ∧ Fr h₀ L h' m' ∧ News h₀ L h' (news' ++ [it]) ∧ (∀ p ∈ news', p.1 ≠ it.1) ∧ Jn m' news'

section
variable {prog : Program} {w : World} {A : Around} {s : Shared} {env : Env} {h₀ : Heap} {x : Str} {body : List Stmt} {Q : Flow → Shared → Prop} {E : Value → Shared → Prop}

theorem loop_list {l : Addr} {lo : Obj} {items : Array Value} {n : Nat} {m₀ : Str → Option Value} {news : List (Addr × Obj)} (J : Nat → (Str → Option Value) → List (Addr × Obj) → Prop)
    (hh : A.handled = none) (F : Fr h₀ env.locals s.heap m₀) (N : News h₀ env.locals s.heap news)
    (hc : lo.cls = .type "list") (hd : lo.data = .seq items n) (hj : J 0 m₀ news) (hl : ∀ i m₁ news₁, J i m₁ news₁ → (l, lo) ∈ news₁ ∨ h₀.get? l = some lo)
    (turn : ∀ i v m₁ news₁ h tk I o, items[i]? = some v → (∀ p ∈ news₁, p.1 ≠ I) → J i m₁ news₁ → Fr h₀ env.locals h (fun y => if y = x then some v else m₁ y) → News h₀ env.locals h (news₁ ++ [(I, o)]) →
      wpAny (model prog w) A (execs body env) (TurnL h₀ env.locals (I, o) (J (i + 1)) { s with heap := h, toks := tk } Q) E { s with heap := h, toks := tk })
    (done : ∀ m₁ news₁ h tk, J items.size m₁ news₁ → Fr h₀ env.locals h m₁ → News h₀ env.locals h news₁ → Q .next { s with heap := h, toks := tk }) :
    wpAny (model prog w) A (pyIter (.ref l)) (fun it s₂ => LoopAtV prog w A h₀ env x body Q E it s₂) E s := by
  have hol : s.heap.get? l = some lo := (hl _ _ _ hj).elim (fun h => (N _ h).1) fun h => F.keep _ _ h
  have hls : s.heap.IsList l items := ⟨lo, hol, hc, n, hd⟩
  have hlt : l < s.heap.objs.size := Heap.lt_size hol
  have hne : l ≠ s.heap.objs.size := Nat.ne_of_lt hlt
  have hLl : env.locals ≠ l := by
    rcases hl _ _ _ hj with h | h
    · exact fun e => (N _ h).2.1 e.symm
    · exact fun e => absurd (Heap.lt_size h) (Nat.not_lt.mpr (e ▸ F.above))
  refine wpAny_pyIter_list hls ?_
  have W := Walks.list (prog := prog) (w := w) hh s.heap.objs.size l hne items
  refine ⟨_, _, _, items.size, _, _, m₀, news, J, rfl, W, ?_, ?_, ?_, ⟨⟨_, Heap.get?_push_size _ rfl, rfl, rfl⟩, hls.at fun o e => Heap.get?_push_of_some _ e⟩, F.push _, (fun p hp => ⟨Heap.get?_push_of_some _ (N p hp).1, (N p hp).2⟩), hj, ?_, ?_⟩
  · intro hm
    rcases List.mem_cons.mp hm with e | hm
    · exact absurd F.ns.lt (e ▸ Nat.lt_irrefl _)
    · exact hLl (List.mem_singleton.mp hm)
  · intro b hb
    rw [List.mem_singleton.mp hb]
    cases hq : h₀.get? s.heap.objs.size with
    | none => rfl
    | some o' => exact absurd (Heap.lt_size (F.keep _ _ hq)) (Nat.lt_irrefl _)
  · intro p hp hI
    exact absurd (Heap.lt_size (N p hp).1) ((List.mem_singleton.mp hI) ▸ Nat.lt_irrefl _)
  · rintro i v m₁ news₁ s₁ own ⟨hh', tk', rfl⟩ hin hP hJ hoff hown hget hall hst F₁ N₁
    obtain ⟨o, ho, _⟩ := hst.1
    have hI0 : h₀.get? s.heap.objs.size = none := by
      cases hq : h₀.get? s.heap.objs.size with
      | none => rfl
      | some o' => exact absurd (Heap.lt_size (F.keep _ _ hq)) (Nat.lt_irrefl _)
    have hIo := hall s.heap.objs.size (.head _) hI0 o ho
    have hnI : ∀ p ∈ news₁, p.1 ≠ s.heap.objs.size := fun p hp e => hoff p hp (by rw [e]; exact .head _)
    have N₂ : News h₀ env.locals hh' (news₁ ++ [(s.heap.objs.size, o)]) := by
      intro p hp
      rcases List.mem_append.mp hp with h | h
      · exact N₁ p (List.mem_append_right _ h)
      · rw [List.mem_singleton.mp h]; exact N₁ _ (List.mem_append_left _ hIo)
    refine wpAny_mono (turn i v m₁ news₁ hh' tk' s.heap.objs.size o hP hnI hJ F₁ N₂) (fun f s₂ p => ?_) fun _ _ e => e
    have fin : (∃ h' tk'' m' news', s₂ = { s with heap := h', toks := tk'' } ∧ Fr h₀ env.locals h' m' ∧ News h₀ env.locals h' (news' ++ [(s.heap.objs.size, o)]) ∧ (∀ p ∈ news', p.1 ≠ s.heap.objs.size) ∧ J (i + 1) m' news') →
        LoopStepU h₀ env.locals [s.heap.objs.size] own (J (i + 1)) { s with heap := hh', toks := tk' } .next s₂ := by
      rintro ⟨h', tk, m', news', e, F', N', hne', hJ'⟩
      refine ⟨rfl, h', tk, m', news', e, F', fun p hp => ?_, fun p hp hq => hne' p hp (List.mem_singleton.mp hq), hJ'⟩
      rcases List.mem_append.mp hp with h | h
      · have g := hget p h
        rcases List.mem_cons.mp (hown p h) with h1 | h1
        · have : p = (s.heap.objs.size, o) := by
            obtain ⟨a, b⟩ := p
            simp only at h1; subst h1
            exact congrArg _ (Option.some.inj (g.symm.trans ho))
          rw [this]; exact N' _ (List.mem_append_right _ (.head _))
        · have h1 := List.mem_singleton.mp h1
          obtain ⟨a, b⟩ := p
          simp only at h1; subst h1
          rcases hl _ _ _ hJ with h2 | h2
          · have g2 := (N₁ _ (List.mem_append_right _ h2)).1
            have : b = lo := Option.some.inj (g.symm.trans g2)
            subst this
            rcases hl _ _ _ hJ' with h3 | h3
            · exact N' _ (List.mem_append_left _ h3)
            · exact absurd h3 (by rw [(N₁ _ (List.mem_append_right _ h2)).2.2]; exact fun h => nomatch h)
          · exact absurd h2 (by rw [(N₁ _ (List.mem_append_left _ h)).2.2]; exact fun h => nomatch h)
      · exact N' p (List.mem_append_left _ h)
    cases f with
    | ret v => exact .ret p
    | brk => exact .brk p
    | next => exact .next (fin p)
    | cont => exact .cont (fin p)
  · rintro h' tk m' news' F' N' _ hJ
    exact done m' news' h' tk hJ F' N'
end
section
open PySem.Builtin PySem.Builtin.Str
noncomputable abbrev cs (x : Str) : List Nat := x.cps.toList
theorem len_cs (x : Str) : (cs x).length = x.length := by simp [cs, Str.length]
theorem cs_ext {x y : Str} (h : cs x = cs y) : x = y := by
  obtain ⟨⟨a⟩⟩ := x; obtain ⟨⟨b⟩⟩ := y
  simp [cs] at h; rw [h]
theorem ix_some (i n : Nat) : max 0 (min (if (i : Int) < 0 then (i : Int) + n else i) (n : Int)) = ((min i n : Nat) : Int) := by
  rw [if_neg (Int.not_lt.mpr (Int.natCast_nonneg i))]
  rcases Nat.le_total i n with h | h
  · rw [Nat.min_eq_left h, Int.min_eq_left (Int.ofNat_le.mpr h)]; exact Int.max_eq_right (Int.natCast_nonneg _)
  · rw [Nat.min_eq_right h, Int.min_eq_right (Int.ofNat_le.mpr h)]; exact Int.max_eq_right (Int.natCast_nonneg _)
theorem ss_min (i j n : Nat) : strSliceIndices (some (i : Int)) (some (j : Int)) 1 n = sliceRange ((min i n : Nat) : Int) ((min j n : Nat) : Int) 1 := by
  rw [← ix_some i n, ← ix_some j n]; rfl
theorem st_min (j n : Nat) : strSliceIndices none (some (j : Int)) 1 n = sliceRange ((min 0 n : Nat) : Int) ((min j n : Nat) : Int) 1 := by
  rw [← ix_some j n, Nat.zero_min]; rfl
theorem sf_min (i n : Nat) : strSliceIndices (some (i : Int)) none 1 n = sliceRange ((min i n : Nat) : Int) ((min n n : Nat) : Int) 1 := by
  rw [← ix_some i n, Nat.min_self]; rfl
theorem cs_mm (x : Str) (i j : Nat) (h : i ≤ j) (hj : j ≤ (cs x).length) : cs (Txt.slice x (some (i : Int)) (some (j : Int))) = ((cs x).take j).drop i := by
  have g := slice_closes (x := x) (i := i) (j := j) ⟨Int.natCast_nonneg i, Int.ofNat_le.mpr h, Int.ofNat_le.mpr hj⟩
  rw [beq_iff_eq.mp g, ← Int.ofNat_sub h, List.drop_take]; rfl
theorem cs_slice_ss (x : Str) (i j : Nat) (h : i ≤ j) : cs (Txt.slice x (some (i : Int)) (some (j : Int))) = ((cs x).take j).drop i := by
  have hl := len_cs x
  have e : Txt.slice x (some (i : Int)) (some (j : Int)) = Txt.slice x (some ((min i x.length : Nat) : Int)) (some ((min j x.length : Nat) : Int)) := by
    unfold Txt.slice; rw [ss_min, ss_min, Nat.min_assoc, Nat.min_self, Nat.min_assoc, Nat.min_self]
  rw [e, cs_mm x _ _ (Nat.le_min.mpr ⟨Nat.le_trans (Nat.min_le_left _ _) h, Nat.min_le_right _ _⟩) (hl ▸ Nat.min_le_right _ _), ← hl]
  rw [← List.take_take, List.take_length]
  rcases Nat.le_total i (cs x).length with q | q
  · rw [Nat.min_eq_left q]
  · have h1 : ((cs x).take j).length ≤ (cs x).length := by rw [List.length_take]; exact Nat.min_le_right _ _
    rw [Nat.min_eq_right q, List.drop_eq_nil_of_le h1, List.drop_eq_nil_of_le (Nat.le_trans h1 q)]
theorem cs_slice_to (x : Str) (j : Nat) : cs (Txt.slice x none (some (j : Int))) = (cs x).take j := by
  rw [← List.drop_zero (l := (cs x).take j), ← cs_slice_ss x 0 j (Nat.zero_le j)]
  unfold Txt.slice; rw [st_min, ← ss_min]
theorem cs_slice_from (x : Str) (i : Nat) : cs (Txt.slice x (some (i : Int)) none) = (cs x).drop i := by
  rcases Nat.le_total i x.length with q | q
  · rw [show (cs x).drop i = ((cs x).take x.length).drop i by rw [← len_cs, List.take_length], ← cs_slice_ss x i _ q]
    unfold Txt.slice; rw [sf_min, ← ss_min]
  · have e : cs (Txt.slice x (some ((x.length : Nat) : Int)) none) = ((cs x).take x.length).drop x.length := by
      rw [← cs_slice_ss x _ _ (Nat.le_refl _)]
      unfold Txt.slice; rw [sf_min, ← ss_min]
    have e2 : Txt.slice x (some (i : Int)) none = Txt.slice x (some ((x.length : Nat) : Int)) none := by
      unfold Txt.slice; rw [sf_min, sf_min, Nat.min_eq_right q, Nat.min_self]
    rw [e2, e, List.drop_eq_nil_of_le (by rw [List.length_take]; exact Nat.min_le_left _ _), List.drop_eq_nil_of_le (by rw [len_cs]; exact q)]
end
noncomputable abbrev nE : Str := Str.ofString ""
noncomputable abbrev n1 : Str := Str.ofString "."
noncomputable abbrev n2 : Str := Str.ofString ".."
noncomputable def fwS (r : Bool) (acc : List Str) (c : Str) : List Str :=
  if c = nE then acc else if c = n1 then acc else if c ≠ n2 then acc ++ [c] else if acc = [] then (if r = true then acc else acc ++ [c]) else if acc.getLastD nE = n2 then acc ++ [c] else acc.dropLast
noncomputable def bwS (n : Str) (st : List Str × Nat) : List Str × Nat :=
  if n = n2 then (st.1, st.2 + 1) else if n = nE then st else if n = n1 then st else if st.2 = 0 then (n :: st.1, 0) else (st.1, st.2 - 1)
noncomputable def bwF (ns : List Str) : List Str × Nat := ns.foldr bwS ([], 0)
theorem n1_ne : n1 ≠ n2 := by decide
theorem nE_ne : nE ≠ n2 := by decide
noncomputable def pop (r : Bool) : Nat × List Str → Nat → Nat × List Str
  | s, 0 => s
  | (d, _ :: k), b + 1 => pop r (d, k) b
  | (d, []), b + 1 => pop r (if r = true then 0 else d + 1, []) b
noncomputable def shw (s : Nat × List Str) (t : List Str) : List Str := List.replicate s.1 n2 ++ (s.2.reverse ++ t)
theorem fw_pop {r : Bool} {d : Nat} {k : List Str} {x : Str} (hx : x ≠ n2) (t : List Str) : fwS r (shw (d, x :: k) []) n2 = shw (d, k) [] := by
  have e : shw (d, x :: k) [] = (List.replicate d n2 ++ k.reverse) ++ [x] := by unfold shw; rw [List.reverse_cons, List.append_nil, List.append_assoc]
  rw [e]
  unfold fwS shw
  rw [if_neg nE_ne.symm, if_neg n1_ne.symm, if_neg (fun q => q rfl), if_neg (List.append_ne_nil_of_right_ne_nil _ (List.cons_ne_nil _ _)), List.getLastD_concat, if_neg hx, List.dropLast_concat, List.append_nil]
theorem fw_down {d : Nat} : fwS false (shw (d, []) []) n2 = shw (d + 1, []) [] := by
  unfold fwS shw
  rw [if_neg nE_ne.symm, if_neg n1_ne.symm, if_neg (fun q => q rfl)]
  cases d with
  | zero => rfl
  | succ d => rw [List.replicate_succ' (n := d + 1), List.replicate_succ', List.append_nil, List.reverse_nil, List.append_nil, List.append_nil, if_neg (List.append_ne_nil_of_right_ne_nil _ (List.cons_ne_nil _ _)), List.getLastD_concat, if_pos rfl]
theorem fw_bw (r : Bool) (ns : List Str) : ∀ (d : Nat) (k : List Str), (∀ x ∈ k, x ≠ n2) → (r = true → d = 0) →
    ns.foldl (fwS r) (shw (d, k) []) = shw (pop r (d, k) (bwF ns).2) (bwF ns).1 := by
  induction ns with
  | nil => intro d k _ _; rfl
  | cons c ns ih =>
    intro d k hk hr
    have eb : bwF (c :: ns) = bwS c (bwF ns) := rfl
    rw [List.foldl_cons, eb]
    unfold bwS
    by_cases c2 : c = n2
    · rw [if_pos c2, c2]
      cases k with
      | cons x k => rw [fw_pop (hk x (.head _)) [], ih d k (fun y hy => hk y (.tail _ hy)) hr]; rfl
      | nil => cases r with
        | true => rw [hr rfl]; exact ih 0 [] hk (fun _ => rfl)
        | false => rw [fw_down, ih (d + 1) [] hk (fun q => nomatch q)]; rfl
    · rw [if_neg c2]
      by_cases c0 : c = nE
      · rw [if_pos c0, show fwS r (shw (d, k) []) c = shw (d, k) [] from if_pos c0]; exact ih d k hk hr
      · rw [if_neg c0]
        by_cases c1 : c = n1
        · rw [if_pos c1, show fwS r (shw (d, k) []) c = shw (d, k) [] from (if_neg c0).trans (if_pos c1)]; exact ih d k hk hr
        · have e : fwS r (shw (d, k) []) c = shw (d, c :: k) [] := by
            rw [show fwS r (shw (d, k) []) c = shw (d, k) [] ++ [c] from (if_neg c0).trans ((if_neg c1).trans (if_pos c2))]
            unfold shw; rw [List.reverse_cons, List.append_nil, List.append_nil, List.append_assoc]
          rw [if_neg c1, e, ih d (c :: k) (fun y hy => (List.mem_cons.mp hy).elim (fun q => q ▸ c2) (hk y)) hr]
          cases hb : (bwF ns).2 with
          | zero => rw [if_pos rfl]; show List.replicate d n2 ++ ((c :: k).reverse ++ (bwF ns).1) = List.replicate d n2 ++ (k.reverse ++ c :: (bwF ns).1); rw [List.reverse_cons, List.append_assoc]; rfl
          | succ b => rw [if_neg (Nat.succ_ne_zero b)]; rfl
theorem pop_true : ∀ b, pop true (0, []) b = (0, [])
  | 0 => rfl
  | b + 1 => pop_true b
theorem pop_false : ∀ b d, pop false (d, []) b = (d + b, [])
  | 0, _ => rfl
  | b + 1, d => by
    show pop false (d + 1, []) b = _
    rw [pop_false b (d + 1), Nat.add_assoc, Nat.add_comm 1]
noncomputable def kpt (r : Bool) (ns : List Str) : List Str := if r = true then (bwF ns).1 else List.replicate (bwF ns).2 n2 ++ (bwF ns).1
theorem fw_kpt (r : Bool) (ns : List Str) : ns.foldl (fwS r) [] = kpt r ns := by
  have h := fw_bw r ns 0 [] (fun _ q => nomatch q) (fun _ => rfl)
  refine (show ns.foldl (fwS r) [] = _ from h).trans ?_
  cases r with
  | true => rw [pop_true]; rfl
  | false => rw [pop_false, Nat.zero_add]; rfl
theorem bw_mem : ∀ (ns : List Str), ∀ x ∈ (bwF ns).1, x ∈ ns ∧ x ≠ nE ∧ x ≠ n1 ∧ x ≠ n2
  | [], x, h => by simp [bwF] at h
  | c :: ns, x, h => by
    have eb : bwF (c :: ns) = bwS c (bwF ns) := rfl
    have ih := bw_mem ns x
    rw [eb] at h
    unfold bwS at h
    by_cases c2 : c = n2
    · rw [if_pos c2] at h; exact ⟨.tail _ (ih h).1, (ih h).2⟩
    · rw [if_neg c2] at h
      by_cases c0 : c = nE
      · rw [if_pos c0] at h; exact ⟨.tail _ (ih h).1, (ih h).2⟩
      · rw [if_neg c0] at h
        by_cases c1 : c = n1
        · rw [if_pos c1] at h; exact ⟨.tail _ (ih h).1, (ih h).2⟩
        · rw [if_neg c1] at h
          split at h
          · rcases List.mem_cons.mp h with rfl | h
            · exact ⟨.head _, c0, c1, c2⟩
            · exact ⟨.tail _ (ih h).1, (ih h).2⟩
          · exact ⟨.tail _ (ih h).1, (ih h).2⟩
theorem kpt_mem (r : Bool) (ns : List Str) : ∀ x ∈ kpt r ns, (x ∈ ns ∨ x = n2) ∧ x ≠ nE ∧ x ≠ n1 := by
  intro x h
  unfold kpt at h
  have g := bw_mem ns x
  split at h
  · exact ⟨.inl (g h).1, (g h).2.1, (g h).2.2.1⟩
  · rcases List.mem_append.mp h with h | h
    · have := List.eq_of_mem_replicate h
      subst this; exact ⟨.inr rfl, by decide, by decide⟩
    · exact ⟨.inl (g h).1, (g h).2.1, (g h).2.2.1⟩
structure Wr (f : Str → Str) : Prop where
  e : ∀ n, f n = nE ↔ n = nE
  d : ∀ n, f n = n1 ↔ n = n1
  dd : ∀ n, f n = n2 ↔ n = n2
  inj : ∀ a b, f a = f b → a = b
theorem Wr.bwS {f : Str → Str} (W : Wr f) (n : Str) (st : List Str × Nat) : bwS (f n) (st.1.map f, st.2) = ((bwS n st).1.map f, (bwS n st).2) := by
  unfold Mine.bwS
  simp only [W.e, W.d, W.dd]
  by_cases c2 : n = n2
  · simp only [c2, if_true]
  · by_cases c0 : n = nE
    · rw [if_neg c2, if_pos c0, if_neg c2, if_pos c0]
    · by_cases c1 : n = n1
      · rw [if_neg c2, if_neg c0, if_pos c1, if_neg c2, if_neg c0, if_pos c1]
      · rw [if_neg c2, if_neg c0, if_neg c1, if_neg c2, if_neg c0, if_neg c1]
        split <;> rfl
theorem Wr.bwF {f : Str → Str} (W : Wr f) : ∀ ns : List Str, bwF (ns.map f) = ((bwF ns).1.map f, (bwF ns).2)
  | [] => rfl
  | c :: ns => by
    show Mine.bwS (f c) (Mine.bwF (ns.map f)) = _
    rw [W.bwF ns]; exact W.bwS c (Mine.bwF ns)
theorem Wr.kpt {f : Str → Str} (W : Wr f) (r : Bool) (ns : List Str) : kpt r (ns.map f) = (kpt r ns).map f := by
  unfold Mine.kpt
  rw [W.bwF]
  split
  · rfl
  · rw [List.map_append, List.map_replicate, (W.dd n2).mpr rfl]
noncomputable def ledN : List Str → Nat
  | [] => 0
  | [_] => 0
  | a :: b :: r => if a = nE then ledN (b :: r) + 1 else 0
theorem Wr.led {f : Str → Str} (W : Wr f) : ∀ ns : List Str, ledN (ns.map f) = ledN ns
  | [] => rfl
  | [_] => rfl
  | a :: b :: r => by
    show (if f a = nE then ledN ((b :: r).map f) + 1 else 0) = if a = nE then ledN (b :: r) + 1 else 0
    rw [W.led (b :: r)]
    simp only [W.e]
theorem bw_skip (ns : List Str) : bwF (nE :: ns) = bwF ns := by
  show bwS nE (bwF ns) = bwF ns
  unfold bwS; rw [if_neg nE_ne, if_pos rfl]
theorem fw_skip (r : Bool) (ns acc : List Str) : (nE :: ns).foldl (fwS r) acc = ns.foldl (fwS r) acc := by
  rw [List.foldl_cons]; congr 1
noncomputable def lcp3 : List Str → List Str → List Str → Nat
  | a :: r, b :: q, c :: p => if a = b ∧ b = c then lcp3 r q p + 1 else 0
  | _, _, _ => 0
theorem cs_mk (l : List Nat) : cs ⟨l.toArray⟩ = l := by simp [cs]
theorem mk_cs (x : Str) : (⟨(cs x).toArray⟩ : Str) = x := cs_ext (cs_mk _)
theorem cs_app (a b : Str) : cs (a ++ b) = cs a ++ cs b := by simp [cs, Str.cps_append]
noncomputable abbrev nS : Str := Str.ofString "/"
noncomputable def spl : List Nat → List (List Nat)
  | [] => [[]]
  | c :: r => if c = 47 then [] :: spl r else match spl r with
    | [] => [[c]]
    | h :: t => (c :: h) :: t
theorem spl_ne : ∀ l, spl l ≠ []
  | [] => by simp [spl]
  | c :: r => by
    unfold spl
    split
    · simp
    · split <;> simp
noncomputable def jnl : List (List Nat) → List Nat
  | [] => []
  | [a] => a
  | a :: b :: r => a ++ 47 :: jnl (b :: r)
theorem spl_free : ∀ a : List Nat, 47 ∉ a → spl a = [a]
  | [], _ => rfl
  | c :: r, h => by
    have := spl_free r fun m => h (.tail _ m)
    have hc : ¬ c = 47 := fun e => h (e ▸ List.mem_cons_self ..)
    rw [spl, if_neg hc, this]
theorem spl_app : ∀ a b : List Nat, 47 ∉ a → spl (a ++ 47 :: b) = a :: spl b
  | [], b, _ => by show spl (47 :: b) = _; rw [spl, if_pos rfl]
  | c :: r, b, h => by
    have := spl_app r b fun m => h (.tail _ m)
    have hc : ¬ c = 47 := fun e => h (e ▸ List.mem_cons_self ..)
    show spl (c :: (r ++ 47 :: b)) = _
    rw [spl, if_neg hc, this]
theorem spl_jnl : ∀ ls : List (List Nat), ls ≠ [] → (∀ a ∈ ls, 47 ∉ a) → spl (jnl ls) = ls
  | [], h, _ => absurd rfl h
  | [a], _, h => spl_free a (h a (.head _))
  | a :: b :: r, _, h => by
    show spl (a ++ 47 :: jnl (b :: r)) = _
    rw [spl_app _ _ (h a (.head _)), spl_jnl (b :: r) (by simp) fun x hx => h x (.tail _ hx)]
theorem cs_join : ∀ ns : List Str, cs (Txt.join nS ns) = jnl (ns.map cs) := by
  intro ns
  unfold Txt.join
  rw [StrLaws.glued_eq_join]
  induction ns with
  | nil => rfl
  | cons a r ih =>
    cases r with
    | nil => rfl
    | cons b r =>
      show cs (a ++ nS ++ Str.join nS (b :: r)) = cs a ++ 47 :: jnl ((b :: r).map cs)
      rw [cs_app, cs_app, ih, List.append_assoc]; rfl
theorem sp_free (x : Str) : ∀ n ∈ Txt.split x nS, 47 ∉ cs n := StrLaws.split_free x 47
theorem join_sp (x : Str) : Txt.join nS (Txt.split x nS) = x := by
  unfold Txt.join
  rw [StrLaws.glued_eq_join]; exact StrLaws.join_split x nS
theorem sp_ne (x : Str) : Txt.split x nS ≠ [] := by
  intro e
  have h := join_sp x
  rw [e] at h
  have hx : x.length = 0 := by rw [← h]; rfl
  have : Txt.split x nS = [x] := by
    unfold Txt.split
    have h1 : nS.length = 1 := rfl
    rw [if_pos (by simp [hx, h1])]
  rw [e] at this; cases this
theorem map_cs_inj : ∀ {a b : List Str}, a.map cs = b.map cs → a = b
  | [], [], _ => rfl
  | [], _ :: _, h => by simp at h
  | _ :: _, [], h => by simp at h
  | x :: a, y :: b, h => by
    simp only [List.map_cons, List.cons.injEq] at h
    rw [cs_ext h.1, map_cs_inj h.2]
theorem cs_split (x : Str) : (Txt.split x nS).map cs = spl (cs x) := by
  have h := congrArg cs (join_sp x)
  rw [cs_join] at h
  rw [← h, spl_jnl _ (by simpa using sp_ne x)]
  intro a ha
  obtain ⟨n, hn, rfl⟩ := List.mem_map.mp ha
  exact sp_free x n hn
theorem split_join {ns : List Str} (h0 : ns ≠ []) (hf : ∀ n ∈ ns, 47 ∉ cs n) : Txt.split (Txt.join nS ns) nS = ns := by
  apply map_cs_inj
  rw [cs_split, cs_join, spl_jnl _ (by simpa using h0)]
  intro a ha
  obtain ⟨n, hn, rfl⟩ := List.mem_map.mp ha
  exact hf n hn
theorem split_slash {x y : Str} (h : cs x = 47 :: cs y) : Txt.split x nS = nE :: Txt.split y nS := by
  apply map_cs_inj
  rw [cs_split, h, List.map_cons, cs_split, spl, if_pos rfl]; rfl
theorem spl_head : ∀ {c : Nat} {r : List Nat}, c ≠ 47 → ∃ h t, spl (c :: r) = (c :: h) :: t := by
  intro c r hc
  rw [spl, if_neg hc]
  split <;> exact ⟨_, _, rfl⟩
theorem cs_nE : cs nE = [] := rfl
theorem ne_of_cs {n : Str} {c : Nat} {r : List Nat} (h : cs n = c :: r) : n ≠ nE := fun e => by rw [e] at h; cases h
theorem led_cs : ∀ (l : List Nat) (ns : List Str), ns.map cs = spl l → ledN ns = (l.takeWhile (· == 47)).length
  | [], ns, h => by
    have : ns = [nE] := map_cs_inj (by rw [h]; rfl)
    rw [this]; rfl
  | c :: r, ns, h => by
    by_cases hc : c = 47
    · subst hc
      rw [spl, if_pos rfl] at h
      cases ns with
      | nil => simp at h
      | cons n ns =>
        simp only [List.map_cons, List.cons.injEq] at h
        have hn : n = nE := cs_ext h.1
        have ih := led_cs r ns h.2
        cases ns with
        | nil => exact absurd h.2.symm (by simpa using spl_ne r)
        | cons m ns =>
          show (if n = nE then ledN (m :: ns) + 1 else 0) = _
          rw [if_pos hn, ih]; simp
    · obtain ⟨hd, t, e⟩ := spl_head (r := r) hc
      rw [e] at h
      cases ns with
      | nil => simp at h
      | cons n ns =>
        simp only [List.map_cons, List.cons.injEq] at h
        have hn : n ≠ nE := ne_of_cs h.1
        have : (List.takeWhile (· == 47) (c :: r)) = [] := by rw [List.takeWhile_cons, if_neg (by simpa using hc)]
        rw [this]
        cases ns with
        | nil => rfl
        | cons m ns => show (if n = nE then ledN (m :: ns) + 1 else 0) = _; rw [if_neg hn]; rfl
theorem led_eq (x : Str) : ledN (Txt.split x nS) = ((cs x).takeWhile (· == 47)).length := led_cs _ _ (cs_split x)
theorem cs_lstrip (x : Str) : cs (Txt.lstripChars x nS) = (cs x).dropWhile (· == 47) := by
  unfold Txt.lstripChars
  rw [PyProof.Rows.stripBy_eq]
  have hg : (fun c => nS.cps.contains c) = fun c : Nat => c == 47 := by
    funext c
    show (#[47] : Array Nat).contains c = _
    simp; rfl
  have e1 : stripLo nS.cps.contains true x = ((cs x).takeWhile (· == 47)).length := by
    simp only [stripLo, if_true]
    rw [show nS.cps.contains = fun c : Nat => c == 47 from hg]
  have e2 : ∀ lo, stripHi nS.cps.contains false x lo = x.length := by intro lo; rfl
  rw [e1, e2]
  show (PySem.Builtin.Str.strSub x _ _).cps.toList = _
  rw [StrLaws.strSub_toList]
  show ((cs x).drop _).take _ = _
  have hl := len_cs x
  rw [List.take_of_length_le (by rw [List.length_drop]; lia)]
  generalize cs x = l
  induction l with
  | nil => rfl
  | cons a l ih =>
    by_cases ha : a = 47
    · subst ha; simpa using ih
    · rw [List.takeWhile_cons, List.dropWhile_cons, if_neg (by simpa using ha), if_neg (by simpa using ha)]; rfl
theorem len_lstrip (x : Str) : (x.length : Int) - ((Txt.lstripChars x nS).length : Int) = (ledN (Txt.split x nS) : Nat) := by
  rw [led_eq, ← len_cs, ← len_cs, cs_lstrip]
  have := congrArg List.length (List.takeWhile_append_dropWhile (p := (· == 47)) (l := cs x))
  rw [List.length_append] at this
  lia

theorem strsAre_get {vs : List Value} {ys : List Str} (h : StrsAre vs ys) : ∀ (i : Nat) (v : Value), vs[i]? = some v → ∃ y t, v = Value.str y t ∧ ys[i]? = some y := by
  induction h with
  | nil => intro i v e; simp at e
  | cons y t _ ih =>
    intro i v e
    cases i with
    | zero => simp at e; exact ⟨y, t, e.symm, rfl⟩
    | succ i => simp at e; simpa using ih i v e
theorem strsAre_len {vs : List Value} {ys : List Str} (h : StrsAre vs ys) : vs.length = ys.length := by
  induction h with
  | nil => rfl
  | cons y t _ ih => simp [ih]

noncomputable def TurnA (h₀ : Heap) (L : Addr) (x : Str) (m₀ : Str → Option Value) (D : Addr) (rest : List (Addr × Obj)) (P : List Value → Prop) (s : Shared) (Q : Flow → Shared → Prop) (fl : Flow) (s' : Shared) : Prop :=
  match fl with
  | .ret v => Q (.ret v) s'
  | .brk => Q .next s'
  | _ => ∃ h' tk' m' vs' n', s' = { s with heap := h', toks := tk' } ∧ Fr h₀ L h' m' ∧ (∀ y, y ≠ x → m' y = m₀ y) ∧ News h₀ L h' ((D, W.listOf vs' n') :: rest) ∧ P vs'.toList

section
variable {prog : Program} {w : World} {A : Around} {s : Shared} {env : Env} {h₀ : Heap} {x : Str} {body : List Stmt} {Q : Flow → Shared → Prop} {E : Value → Shared → Prop}

theorem loop_acc {l D : Addr} {lo : Obj} {vs₀ : Array Value} {n₀ n : Nat} {vsI : List Value} {ys : List Str} {m₀ : Str → Option Value} {rest : List (Addr × Obj)} (P : List Str → List Value → Prop)
    (hh : A.handled = none) (F : Fr h₀ env.locals s.heap m₀) (N : News h₀ env.locals s.heap ((D, W.listOf vs₀ n₀) :: rest))
    (hl : (l, lo) ∈ rest) (hc : lo.cls = .type "list") (hd : lo.data = .seq vsI.toArray n) (hs : StrsAre vsI ys) {B : Nat} (hB : ∀ y ∈ ys, y.length ≤ B) (hne : ∀ p ∈ rest, p.1 ≠ D) (h0 : P [] vs₀.toList)
    (turn : ∀ pre y post t vs n h tk I o, ys = pre ++ y :: post → y.length ≤ B → P pre vs.toList → AllNe I ((D, W.listOf vs n) :: rest) → AllNe D (rest ++ [(I, o)]) → Fr h₀ env.locals h (fun z => if z = x then some (.str y t) else m₀ z) →
      News h₀ env.locals h ((D, W.listOf vs n) :: (rest ++ [(I, o)])) →
      wpAny (model prog w) A (execs body env) (TurnA h₀ env.locals x m₀ D (rest ++ [(I, o)]) (P (pre ++ [y])) { s with heap := h, toks := tk } Q) E { s with heap := h, toks := tk })
    (done : ∀ vs n h tk (u : Str → Option Value), P ys vs.toList → Fr h₀ env.locals h (fun z => if z = x then u z else m₀ z) → News h₀ env.locals h ((D, W.listOf vs n) :: rest) → Q .next { s with heap := h, toks := tk }) :
    wpAny (model prog w) A (pyIter (.ref l)) (fun it s₂ => LoopAtV prog w A h₀ env x body Q E it s₂) E s := by
  refine loop_list (items := vsI.toArray) (n := n) (lo := lo) (fun i m₁ news₁ => (∀ y, y ≠ x → m₁ y = m₀ y) ∧ ∃ vs n, news₁ = (D, W.listOf vs n) :: rest ∧ P (ys.take i) vs.toList) hh F N hc hd ⟨fun _ _ => rfl, vs₀, n₀, rfl, by simpa using h0⟩ ?_ ?_ ?_
  · rintro i m₁ news₁ ⟨_, vs, n, rfl, _⟩
    exact .inl (List.mem_cons_of_mem _ hl)
  · intro i v m₁ news₁ h tk I o hi hn zz F₁ N₁; refine foldP ?_; intro Gz; obtain ⟨hm, vs, n, rfl, hP⟩ := zz
    obtain ⟨y, t, rfl, hy⟩ := strsAre_get hs i v (by simpa using hi)
    have e : (fun z => if z = x then some (Value.str y t) else m₁ z) = fun z => if z = x then some (Value.str y t) else m₀ z := by
      funext z
      split
      · rfl
      · rename_i q; exact hm z q
    rw [e] at F₁
    obtain ⟨hlt, hy⟩ := List.getElem?_eq_some_iff.mp hy
    have sp : ys = ys.take i ++ y :: ys.drop (i + 1) := by
      rw [← hy, ← List.drop_eq_getElem_cons hlt, List.take_append_drop]
    have hI := allNe_of (d := I) (l := (D, W.listOf vs n) :: rest) hn
    have hD : AllNe D (rest ++ [(I, o)]) := allNe_of fun p hp => by
      rcases List.mem_append.mp hp with h | h
      · exact hne p h
      · rw [List.mem_singleton.mp h]; exact fun e => hn _ (.head _) e.symm
    (try k_unfold)
    refine wpAny_mono (turn _ y _ t vs n h tk I o sp (hB y (by rw [← hy]; exact List.getElem_mem hlt)) hP hI hD F₁ (by simpa using N₁)) (fun f s₂ p => ?_) fun _ _ e => e
    have et : ys.take (i + 1) = ys.take i ++ [y] := by rw [List.take_succ_eq_append_getElem hlt, hy]
    have fin : (∃ h' tk' m' vs' n', s₂ = { s with heap := h', toks := tk' } ∧ Fr h₀ env.locals h' m' ∧ (∀ y, y ≠ x → m' y = m₀ y) ∧ News h₀ env.locals h' ((D, W.listOf vs' n') :: (rest ++ [(I, o)])) ∧ P (ys.take i ++ [y]) vs'.toList) →
        ∃ h' tk' m' news', s₂ = { s with heap := h', toks := tk' } ∧ Fr h₀ env.locals h' m' ∧ News h₀ env.locals h' (news' ++ [(I, o)]) ∧ (∀ p ∈ news', p.1 ≠ I) ∧ (∀ y, y ≠ x → m' y = m₀ y) ∧ ∃ vs n, news' = (D, W.listOf vs n) :: rest ∧ P (ys.take (i + 1)) vs.toList := by
      rintro ⟨h', tk', m', vs', n', e, F', hm', N', hP'⟩
      refine ⟨h', tk', m', (D, W.listOf vs' n') :: rest, e, F', by simpa using N', ?_, hm', vs', n', rfl, et ▸ hP'⟩
      intro p hp
      rcases List.mem_cons.mp hp with rfl | hp
      · exact hn (D, W.listOf vs n) (.head _)
      · exact hn p (.tail _ hp)
    cases f with
    | ret v => exact p
    | brk => exact p
    | next => exact fin p
    | cont => exact fin p
  · rintro m₁ news₁ h tk ⟨hm, vs, n, rfl, hP⟩ F₁ N₁
    have e : m₁ = fun z => if z = x then m₁ z else m₀ z := by
      funext z
      split
      · rfl
      · rename_i q; exact hm z q
    rw [e] at F₁
    have hlen : vsI.toArray.size = ys.length := by rw [List.size_toArray]; exact strsAre_len hs
    rw [hlen, List.take_length] at hP
    exact done vs n h tk m₁ hP F₁ N₁
end
theorem strsAre_app {vs us : List Value} {ys zs : List Str} (h : StrsAre vs ys) (g : StrsAre us zs) : StrsAre (vs ++ us) (ys ++ zs) := by
  induction h with
  | nil => exact g
  | cons y t _ ih => exact .cons y t ih
theorem strsAre_push {vs : Array Value} {ys : List Str} {y : Str} {t : Tok} (h : StrsAre vs.toList ys) : StrsAre (vs.push (.str y t)).toList (ys ++ [y]) := by
  rw [Array.toList_push]; exact strsAre_app h (.cons y t .nil)
theorem strsAre_drop {vs : List Value} {ys : List Str} (h : StrsAre vs ys) : StrsAre vs.dropLast ys.dropLast := by
  induction h with
  | nil => exact .nil
  | cons y t r ih =>
    cases r with
    | nil => exact .nil
    | cons z u r => exact .cons y t ih
theorem strsAre_pop {vs : Array Value} {ys : List Str} (h : StrsAre vs.toList ys) : StrsAre vs.pop.toList ys.dropLast := by
  rw [Array.toList_pop]; exact strsAre_drop h
theorem strsAre_last {vs : List Value} {ys : List Str} (h : StrsAre vs ys) (hne : ys.isEmpty = false) : ∃ t, vs = vs.dropLast ++ [.str (ys.getLastD "") t] := by
  induction h with
  | nil => cases hne
  | cons y t r ih =>
    cases r with
    | nil => exact ⟨t, rfl⟩
    | cons z u r =>
      obtain ⟨t', e⟩ := ih rfl
      refine ⟨t', ?_⟩
      simp only [List.dropLast_cons₂, List.cons_append]
      rw [List.getLastD_cons, List.getLastD_cons]
      congr 1
      rw [List.getLastD_cons] at e
      exact e
theorem strsAre_emp {vs : List Value} {ys : List Str} (h : StrsAre vs ys) : vs.isEmpty = ys.isEmpty := by cases h <;> rfl

section
variable {prog : Program} {w : World} {A : Around} {E : Value → Shared → Prop} {s : Shared} {h₀ h : Heap} {L D : Addr} {m : Str → Option Value} {news news' : List (Addr × Obj)} {its : Array Value} {n : Nat} {ys : List Str}

theorem truthyS {lo : Obj} {Q : Bool → Shared → Prop} (N : News h₀ L s.heap news) (hm : (D, lo) ∈ news) (hc : lo.cls = .type "list") (hd : lo.data = .seq its n) (hs : StrsAre its.toList ys) (hz : ys.length ≤ 1048576)
    (h : Q (!ys.isEmpty) { s with toks := s.toks + 1 + 1 }) : wpAny (model prog w) A (truthy (.ref D)) Q E s := by
  refine wpAny_truthy_list ⟨lo, (N _ hm).1, hc, n, hd⟩ ?_ ?_
  · have := strsAre_len hs
    have e : its.size = its.toList.length := by simp
    rw [e]; lia
  · have := strsAre_emp hs
    have e : its.isEmpty = its.toList.isEmpty := by simp
    rw [e, this]; exact h
theorem appendS {x : Value} {Q : Value → Shared → Prop} (F : Fr h₀ L s.heap m) (N : News h₀ L s.heap news) (U : Upd D (W.listOf its n) (W.listOf (its.push x) (n + 1)) news news') (hs : StrsAre its.toList ys) (hz : ys.length ≤ 1048576)
    (h : ∀ h', Fr h₀ L h' m → News h₀ L h' news' → Q .none { s with heap := h' }) : wpAny (model prog w) A (call (.builtin "list.append") [.ref D, x]) Q E s :=
  append_K F N U h (by
    have := strsAre_len hs
    have e : its.size = its.toList.length := by simp
    rw [e, sizeLine_eq]; lia)
theorem lastS {value slice : Expr} {lo : Obj} {u : Tok} {Q : Value → Shared → Prop} (N : News h₀ L s.heap news) (hm : (D, lo) ∈ news) (hc : lo.cls = .type "list") (hd : lo.data = .seq its n) (hs : StrsAre its.toList ys) (hne : ys.isEmpty = false)
    (h : ∀ t, Q (.str (ys.getLastD "") t) s)
    (hsub : subscripted slice false (.ref D) (.int (-1) u) = operate [.ref D, .int (-1) u] (getItem (.ref D) (.int (-1) u)) := by with_unfolding_all rfl) :
    wpAny (model prog w) A (subscriptTail value slice (.ref D) (.int (-1) u)) Q E s := by
  have hl : s.heap.IsList D its := ⟨lo, (N _ hm).1, hc, n, hd⟩
  obtain ⟨t, e⟩ := strsAre_last hs hne
  have hp : 0 < its.size := by
    have := congrArg List.length e
    simp at this; lia
  refine tail_any hl.typeIs slot_list_getitem.lookup (wpAny_getItem_list_neg hl (by decide) (by lia) (by decide) ?_ (h t)) hsub
  have : ((-1 : Int) + its.size).toNat = its.toList.dropLast.length := by simp; lia
  rw [this, ← Array.getElem?_toList, e]
  simp
theorem popS {Q : Value → Shared → Prop} (F : Fr h₀ L s.heap m) (N : News h₀ L s.heap news) (U : Upd D (W.listOf its n) (W.listOf its.pop (n + 1)) news news') (hs : StrsAre its.toList ys) (hne : ys.isEmpty = false) (hz : ys.length ≤ 1048576)
    (h : ∀ t h', Fr h₀ L h' m → News h₀ L h' news' → Q (.str (ys.getLastD "") t) { s with heap := h' }) : wpAny (model prog w) A (call (.builtin "list.pop") [.ref D]) Q E s := by
  obtain ⟨t, e⟩ := strsAre_last hs hne
  have e2 : its.pop = its.toList.dropLast.toArray := by
    apply Array.toList_inj.mp; simp
  rw [e2] at U
  refine kl_pop (p := its.toList.dropLast) (y := .str (ys.getLastD "") t) F N ?_ U ?_ (h t)
  · rw [e]; simpa using kpa_last (Value.str (ys.getLastD "") t) its.toList.dropLast
  · have := strsAre_len hs
    rw [this, sizeLine_eq]; lia
theorem joinS {lo : Obj} {x : Str} {t : Tok} {Q : Value → Shared → Prop} (N : News h₀ L s.heap news) (hm : (D, lo) ∈ news) (hc : lo.cls = .type "list") (hd : lo.data = .seq its n) (hs : StrsAre its.toList ys) (hok : (ys.map (·.length)).sum + ys.length * x.length ≤ 16777216)
    (h : ∀ t' k, Q (.str (Txt.join x ys) t') { s with toks := k }) : wpAny (model prog w) A (call (.builtin "str.join") [.str x t, .ref D]) Q E s :=
  join_list ⟨lo, (N _ hm).1, hc, n, hd⟩ hs hok h
end
noncomputable def ltL : List Str → List Str → Bool
  | [], [] => false
  | [], _ :: _ => true
  | _ :: _, [] => false
  | a :: r, b :: q => if a == b then ltL r q else decide (a.cps.toList < b.cps.toList)
noncomputable def gtL (a b : List Str) : Bool := ltL b a
theorem at_i {items : Array Value} {xs : List Str} (h : StrsAre items.toList xs) {i : Nat} (hi : i ≤ items.size) :
    (items[((i : Nat) : Int).toNat]? = none ∧ xs.drop i = [] ∧ items.size = i) ∨ ∃ x t, items[((i : Nat) : Int).toNat]? = some (Value.str x t) ∧ xs.drop i = x :: xs.drop (i + 1) ∧ i + 1 ≤ items.size := by
  rw [Int.toNat_natCast]
  rcases Nat.lt_or_eq_of_le hi with q | q
  · obtain ⟨x, t, e, ex⟩ := strsAre_get h i items[i] (by rw [Array.getElem?_toList, Array.getElem?_eq_getElem q])
    obtain ⟨hl, ex⟩ := List.getElem?_eq_some_iff.mp ex
    exact .inr ⟨x, t, by rw [Array.getElem?_eq_getElem q, e], by rw [List.drop_eq_getElem_cons hl, ex], q⟩
  · exact .inl ⟨Array.getElem?_eq_none (Nat.le_of_eq q.symm), List.drop_eq_nil_of_le (by rw [← strsAre_size h, q]; exact Nat.le_refl _), q.symm⟩
theorem cast1 (i : Nat) : ((i : Int) + 1) = ((i + 1 : Nat) : Int) := rfl
theorem ltL_diff {x y : Str} {r q : List Str} (h : (x == y) = false) : ltL (x :: r) (y :: q) = decide (x.cps.toList < y.cps.toList) := if_neg (by rw [h]; exact Bool.false_ne_true)
theorem ltL_same {x y : Str} {r q : List Str} (h : (x == y) = true) : ltL (x :: r) (y :: q) = ltL r q := if_pos h
theorem beq_flip {x y : Str} {b : Bool} (h : (x == y) = b) : (y == x) = b := by rw [← h]; exact BEq.comm
theorem lt_loop (l b : Addr) (items items2 : Array Value) (n n2 : Nat) (d1 d2 : Option Addr) (sl1 sl2 : Array (Option Value)) (xs ys : List Str) (ha : StrsAre items.toList xs) (hb' : StrsAre items2.toList ys) (k : Nat) :
    ∀ i : Nat, items.size - i = k → i ≤ items.size → i ≤ items2.size → Meets (Builtin.«list.__eq__.loop» ⟨[.ref l, .ref b, rawInt i, rawInt 0], []⟩)
      (fun _ R s => s.heap.get? l = some ⟨.type "list", d1, .seq items n, sl1⟩ ∧ s.heap.get? b = some ⟨.type "list", d2, .seq items2 n2, sl2⟩ ∧
        R (.ok (.ret (.bool (ltL (xs.drop i) (ys.drop i))))) s) := by
  induction k using Nat.strongRecOn with
  | _ k ih =>
  intro i hk hi hj prog w A R s h
  obtain ⟨hp, g, d, tk, os⟩ := s; obtain ⟨hl, hb, h⟩ := h
  wp_walk using AutoSeq1.wpAny_loadPart' hl, AutoSeq1.wpAny_loadPart' hb
  rcases at_i ha hi with ⟨i1, e1, k1⟩ | ⟨x, tx, i1, e1, k1⟩
  · rw [i1]
    k_delta "compareSizes"
    wp_walk using AutoSeq1.wpAny_loadPart' hl, AutoSeq1.wpAny_loadPart' hb
    rw [e1] at h
    have key : ltL [] (ys.drop i) = decide (items.size < items2.size) := by
      rcases at_i hb' hj with ⟨_, e2, k2⟩ | ⟨_, _, _, e2, k2⟩
      · rw [e2, k1, k2]; exact (decide_eq_false (Nat.lt_irrefl i)).symm
      · rw [e2, k1]; exact (decide_eq_true k2).symm
    rw [key] at h
    exact h
  · rw [e1] at h
    rw [i1]
    rcases at_i hb' hj with ⟨i2, e2, k2⟩ | ⟨y, ty, i2, e2, k2⟩
    · rw [i2]
      rw [e2] at h
      k_delta "compareSizes"
      wp_walk using AutoSeq1.wpAny_loadPart' hl, AutoSeq1.wpAny_loadPart' hb
      rw [show decide (items.size < items2.size) = ltL (x :: xs.drop (i + 1)) [] by rw [k2]; exact (decide_eq_false (Nat.not_lt.mpr (Nat.le_of_succ_le k1)))]
      exact h
    · rw [i2]
      rw [e2] at h
      refine wpAny_bind (eqBool_str ?_)
      cases hxy : x == y with
      | true =>
        rw [show ltL (x :: xs.drop (i + 1)) (y :: ys.drop (i + 1)) = ltL (xs.drop (i + 1)) (ys.drop (i + 1)) from ltL_same hxy] at h
        wp_walk
        rw [cast1]
        exact ⟨plainId_quiet MeetsSeq3.plain_eq_loop _, codeAny_builtin MeetsSeq3.entry_eq_loop (by
          rw [Around.under_plainId MeetsSeq3.plain_eq_loop _]
          exact ih _ (hk ▸ Nat.sub_lt_sub_left k1 (Nat.lt_succ_self i)) (i + 1) rfl k1 k2 prog w A R _ ⟨hl, hb, h⟩)⟩
      | false =>
        rw [show ltL (x :: xs.drop (i + 1)) (y :: ys.drop (i + 1)) = decide (x.cps.toList < y.cps.toList) from ltL_diff hxy] at h
        wp_walk using AutoSeq1.wpAny_loadPart' hl, AutoSeq1.wpAny_loadPart' hb
        rw [i1, i2]
        k_delta "cmpOps"
        dsimp only
        refine wpAny_bind (lt_str ?_)
        wp_walk
        exact h
theorem lt_meets (l b : Addr) (items items2 : Array Value) (n n2 : Nat) (d1 d2 : Option Addr) (sl1 sl2 : Array (Option Value)) (xs ys : List Str) (ha : StrsAre items.toList xs) (hb' : StrsAre items2.toList ys) :
    Meets (Builtin.«list.__lt__» ⟨[.ref l, .ref b], []⟩)
      (fun _ R s => s.heap.get? l = some ⟨.type "list", d1, .seq items n, sl1⟩ ∧ s.heap.get? b = some ⟨.type "list", d2, .seq items2 n2, sl2⟩ ∧ R (.ok (.ret (.bool (ltL xs ys)))) s) := by
  intro prog w A R s h
  obtain ⟨hp, g, d, tk, os⟩ := s; obtain ⟨hl, hb, h⟩ := h
  have f3 := AutoSeq1.sub_list_list
  wp_walk using AutoSeq1.wpAny_loadPart' hl, AutoSeq1.wpAny_loadPart' hb
  exact ⟨plainId_quiet MeetsSeq3.plain_eq_loop _, codeAny_builtin MeetsSeq3.entry_eq_loop (by
    rw [Around.under_plainId MeetsSeq3.plain_eq_loop _]
    exact lt_loop l b items items2 n n2 d1 d2 sl1 sl2 xs ys ha hb' _ 0 rfl (Nat.zero_le _) (Nat.zero_le _) prog w A R _ ⟨hl, hb, h⟩)⟩
theorem lt_strs {prog : Program} {w : World} {A : Around} {E : Value → Shared → Prop} {s : Shared} {l b : Addr} {lo bo : Obj} {items items2 : Array Value} {n n2 : Nat} {xs ys : List Str} {Q : Value → Shared → Prop}
    (hl : s.heap.get? l = some lo) (hb : s.heap.get? b = some bo) (c1 : lo.cls = .type "list") (e1 : lo.data = .seq items n) (c2 : bo.cls = .type "list") (e2 : bo.data = .seq items2 n2)
    (ha : StrsAre items.toList xs) (hb' : StrsAre items2.toList ys) (hu : A.units < cLine) (h : Q (.bool (ltL xs ys)) s) : wpAny (model prog w) A (richCompare .Lt (.ref l) (.ref b)) Q E s := by
  obtain ⟨_, d1, _, sl1⟩ := lo; obtain ⟨_, d2, _, sl2⟩ := bo
  dsimp only at c1 e1 c2 e2
  subst c1 e1 c2 e2
  refine wpAny_richCompare_same_room (T := "list") ⟨_, hl, rfl⟩ ⟨_, hb, rfl⟩ F.slot_list_lt (call_meets F.slot_list_lt ⟨_, hl, rfl⟩ F.entry_list_lt (F.args_list_lt_2 _ _) (lt_meets l b items items2 n n2 d1 d2 sl1 sl2 xs ys ha hb') ⟨hl, hb, ?_⟩) hu
  exact ⟨(fun e => by cases e), h⟩

theorem gt_loop (l b : Addr) (items items2 : Array Value) (n n2 : Nat) (d1 d2 : Option Addr) (sl1 sl2 : Array (Option Value)) (xs ys : List Str) (ha : StrsAre items.toList xs) (hb' : StrsAre items2.toList ys) (k : Nat) :
    ∀ i : Nat, items.size - i = k → i ≤ items.size → i ≤ items2.size → Meets (Builtin.«list.__eq__.loop» ⟨[.ref l, .ref b, rawInt i, rawInt 4], []⟩)
      (fun _ R s => s.heap.get? l = some ⟨.type "list", d1, .seq items n, sl1⟩ ∧ s.heap.get? b = some ⟨.type "list", d2, .seq items2 n2, sl2⟩ ∧
        R (.ok (.ret (.bool (gtL (xs.drop i) (ys.drop i))))) s) := by
  induction k using Nat.strongRecOn with
  | _ k ih =>
  intro i hk hi hj prog w A R s h
  obtain ⟨hp, g, d, tk, os⟩ := s; obtain ⟨hl, hb, h⟩ := h
  wp_walk using AutoSeq1.wpAny_loadPart' hl, AutoSeq1.wpAny_loadPart' hb
  rcases at_i ha hi with ⟨i1, e1, k1⟩ | ⟨x, tx, i1, e1, k1⟩
  · rw [i1]
    k_delta "compareSizes"
    wp_walk using AutoSeq1.wpAny_loadPart' hl, AutoSeq1.wpAny_loadPart' hb
    rw [e1] at h
    have key : gtL [] (ys.drop i) = decide (items.size > items2.size) := by
      rcases at_i hb' hj with ⟨_, e2, k2⟩ | ⟨_, _, _, e2, k2⟩
      · rw [e2, k1, k2]; exact (decide_eq_false (Nat.lt_irrefl i)).symm
      · rw [e2, k1]; exact (decide_eq_false (Nat.not_lt.mpr (Nat.le_of_succ_le k2))).symm
    rw [key] at h
    exact h
  · rw [e1] at h
    rw [i1]
    rcases at_i hb' hj with ⟨i2, e2, k2⟩ | ⟨y, ty, i2, e2, k2⟩
    · rw [i2]
      rw [e2] at h
      k_delta "compareSizes"
      wp_walk using AutoSeq1.wpAny_loadPart' hl, AutoSeq1.wpAny_loadPart' hb
      rw [show decide (items.size > items2.size) = gtL (x :: xs.drop (i + 1)) [] by rw [k2]; exact (decide_eq_true k1)]
      exact h
    · rw [i2]
      rw [e2] at h
      refine wpAny_bind (eqBool_str ?_)
      cases hxy : x == y with
      | true =>
        rw [show gtL (x :: xs.drop (i + 1)) (y :: ys.drop (i + 1)) = gtL (xs.drop (i + 1)) (ys.drop (i + 1)) from ltL_same (beq_flip hxy)] at h
        wp_walk
        rw [cast1]
        exact ⟨plainId_quiet MeetsSeq3.plain_eq_loop _, codeAny_builtin MeetsSeq3.entry_eq_loop (by
          rw [Around.under_plainId MeetsSeq3.plain_eq_loop _]
          exact ih _ (hk ▸ Nat.sub_lt_sub_left k1 (Nat.lt_succ_self i)) (i + 1) rfl k1 k2 prog w A R _ ⟨hl, hb, h⟩)⟩
      | false =>
        rw [show gtL (x :: xs.drop (i + 1)) (y :: ys.drop (i + 1)) = decide (y.cps.toList < x.cps.toList) from ltL_diff (beq_flip hxy)] at h
        wp_walk using AutoSeq1.wpAny_loadPart' hl, AutoSeq1.wpAny_loadPart' hb
        rw [i1, i2]
        k_delta "cmpOps"
        dsimp only
        refine wpAny_bind (P.gt_str ?_)
        wp_walk
        exact h
theorem gt_meets (l b : Addr) (items items2 : Array Value) (n n2 : Nat) (d1 d2 : Option Addr) (sl1 sl2 : Array (Option Value)) (xs ys : List Str) (ha : StrsAre items.toList xs) (hb' : StrsAre items2.toList ys) :
    Meets (Builtin.«list.__gt__» ⟨[.ref l, .ref b], []⟩)
      (fun _ R s => s.heap.get? l = some ⟨.type "list", d1, .seq items n, sl1⟩ ∧ s.heap.get? b = some ⟨.type "list", d2, .seq items2 n2, sl2⟩ ∧ R (.ok (.ret (.bool (gtL xs ys)))) s) := by
  intro prog w A R s h
  obtain ⟨hp, g, d, tk, os⟩ := s; obtain ⟨hl, hb, h⟩ := h
  have f3 := AutoSeq1.sub_list_list
  wp_walk using AutoSeq1.wpAny_loadPart' hl, AutoSeq1.wpAny_loadPart' hb
  exact ⟨plainId_quiet MeetsSeq3.plain_eq_loop _, codeAny_builtin MeetsSeq3.entry_eq_loop (by
    rw [Around.under_plainId MeetsSeq3.plain_eq_loop _]
    exact gt_loop l b items items2 n n2 d1 d2 sl1 sl2 xs ys ha hb' _ 0 rfl (Nat.zero_le _) (Nat.zero_le _) prog w A R _ ⟨hl, hb, h⟩)⟩
theorem gt_strs {prog : Program} {w : World} {A : Around} {E : Value → Shared → Prop} {s : Shared} {l b : Addr} {lo bo : Obj} {items items2 : Array Value} {n n2 : Nat} {xs ys : List Str} {Q : Value → Shared → Prop}
    (hl : s.heap.get? l = some lo) (hb : s.heap.get? b = some bo) (c1 : lo.cls = .type "list") (e1 : lo.data = .seq items n) (c2 : bo.cls = .type "list") (e2 : bo.data = .seq items2 n2)
    (ha : StrsAre items.toList xs) (hb' : StrsAre items2.toList ys) (hu : A.units < cLine) (h : Q (.bool (gtL xs ys)) s) : wpAny (model prog w) A (richCompare .Gt (.ref l) (.ref b)) Q E s := by
  obtain ⟨_, d1, _, sl1⟩ := lo; obtain ⟨_, d2, _, sl2⟩ := bo
  dsimp only at c1 e1 c2 e2
  subst c1 e1 c2 e2
  refine wpAny_richCompare_same_room (T := "list") ⟨_, hl, rfl⟩ ⟨_, hb, rfl⟩ F.slot_list_gt (call_meets F.slot_list_gt ⟨_, hl, rfl⟩ F.entry_list_gt (F.args_list_gt_2 _ _) (gt_meets l b items items2 n n2 d1 d2 sl1 sl2 xs ys ha hb') ⟨hl, hb, ?_⟩) hu
  exact ⟨(fun e => by cases e), h⟩
noncomputable def refsOfL (L : List (Addr × List Str)) : List Value := L.map fun p => .ref p.1
noncomputable def Lists (h : Heap) (L : List (Addr × List Str)) : Prop := ∀ p ∈ L, ∃ o its n, h.get? p.1 = some o ∧ o.cls = .type "list" ∧ o.data = .seq its n ∧ StrsAre its.toList p.2
theorem Lists.keep {h h' : Heap} {L : List (Addr × List Str)} (x : Lists h L) (k : ∀ p ∈ L, ∀ o, h.get? p.1 = some o → h'.get? p.1 = some o) : Lists h' L := fun p hp => by
  obtain ⟨o, its, n, g, r⟩ := x p hp
  exact ⟨o, its, n, k p hp o g, r⟩
section
variable {prog : Program} {w : World} {A : Around} {R : Result → Shared → Prop}

noncomputable def minP (b : Addr × List Str) (L : List (Addr × List Str)) : Addr × List Str := L.foldl (fun b x => if ltL x.2 b.2 then x else b) b
theorem min_loopS {I S l : Addr} (L : List (Addr × List Str)) (hIS : I ≠ S) (hlI : l ≠ I) (hlS : l ≠ S) (hne : ∀ p ∈ L, p.1 ≠ I ∧ p.1 ≠ S) (hh : A.handled = none) (hu : A.units + 1 < cLine) :
    ∀ (k i : Nat) (s : Shared) (bb : Addr × List Str) (c : Nat), L.length - i = k → s.heap.IsListIter I l i → s.heap.IsList l (refsOfL L).toArray → Lists s.heap L → bb ∈ L →
      s.heap.get? S = some { cls := .type "list", dict := none, data := .seq #[.ref bb.1, .ref bb.1] c, slots := #[] } →
      (∀ h' tk, (∀ b o, b ≠ I → b ≠ S → s.heap.get? b = some o → h'.get? b = some o) → R (.ok (.ret (.ref (minP bb (L.drop i)).1))) { s with heap := h', toks := tk }) →
      codeAny (model prog w) A (.builtin "min.loop" ⟨[.ref I, .none, .ref S], []⟩) R s := by
  have hname : (toString "min" ++ toString ".loop" : String) = "min.loop" := by decide
  intro k
  induction k with
  | zero =>
    intro i s bb c hk hit hl hL hb hS hR
    have hd : L.drop i = [] := List.drop_eq_nil_of_le (by lia)
    have hnone : (refsOfL L).toArray[i]? = none := by simp [refsOfL]; lia
    refine codeAny_builtin F.entry_min_loop ?_
    rw [Around.under_plainId F.plain_min_loop _]
    show wpAny _ A.in1 (seqItems? (.ref S) >>= _) _ _ s
    refine wpAny_bind (wpAny_seqItems hS rfl ?_)
    show wpAny _ A.in1 (tryCatch (pyNext (.ref I)) _ >>= _) _ _ s
    refine wpAny_bind (wpAny_tryCatch (wpAny_pyNext_list_end hh hit hl hnone fun h' he => ?_))
    have hS' := he S _ (Ne.symm hIS) hS
    show wpAny _ A.in1 (updateSeq S (fun _ => #[]) >>= _) _ _ _
    refine wpAny_bind (wpAny_updateSeq hS' rfl (wpAny_bind (wpAny_letGo (wpAny_pure ?_))))
    have g := hR (h'.update S (Obj.mapSeq fun _ => #[])) s.toks fun b o h1 h2 e => (Heap.get?_update_other _ _ (Ne.symm h2)).trans (he b o h1 e)
    rw [hd] at g
    exact g
  | succ k ih =>
    intro i s bb c hk hit hl hL hb hS hR
    have hlt : i < L.length := by lia
    have hd : L.drop i = L[i] :: L.drop (i + 1) := List.drop_eq_getElem_cons hlt
    have hmem : L[i] ∈ L := List.getElem_mem hlt
    have hsome : (refsOfL L).toArray[i]? = some (.ref L[i].1) := by simp [refsOfL, hlt]
    refine codeAny_builtin F.entry_min_loop ?_
    rw [Around.under_plainId F.plain_min_loop _]
    show wpAny _ A.in1 (seqItems? (.ref S) >>= _) _ _ s
    refine wpAny_bind (wpAny_seqItems hS rfl ?_)
    show wpAny _ A.in1 (tryCatch (pyNext (.ref I)) _ >>= _) _ _ s
    refine wpAny_bind (wpAny_tryCatch (wpAny_pyNext_list_item hit hl hsome fun h' hit' hs' => ?_))
    have keep : ∀ b o, b ≠ I → s.heap.get? b = some o → h'.get? b = some o := fun b o h e => (hs'.2 b h).trans e
    have hS' := keep S _ (Ne.symm hIS) hS
    have hL' : Lists h' L := hL.keep fun p hp o e => keep p.1 o (hne p hp).1 e
    refine foldP ?_; intro Gz
    obtain ⟨o1, i1, n1, g1, c1, e1, s1⟩ := hL' _ hmem
    obtain ⟨o2, i2, n2, g2, c2, e2, s2⟩ := hL' _ hb
    k_unfold
    show wpAny _ A.in1 (tryCatch (holding [.ref L[i].1, .ref L[i].1] (richCompare .Lt (.ref L[i].1) (.ref bb.1) >>= _)) _ >>= _) _ _ _
    refine wpAny_bind (wpAny_tryCatch (wpAny_holding (wpAny_bind (lt_strs g1 g2 c1 e1 c2 e2 s1 s2 hu ?_))))
    refine wpAny_bind (wpAny_holding (wpAny_truthy_bool ?_))
    refine wpAny_bind (wpAny_letGo (wpAny_pure ?_))
    have hl' : h'.IsList l (refsOfL L).toArray := hl.at fun o e => keep l o hlI e
    cases hb' : ltL L[i].2 bb.2 with
    | true =>
      simp only [if_true]
      refine wpAny_bind (wpAny_updateSeq hS' rfl (wpAny_bind (wpAny_letGo ?_)))
      rw [hname]
      have keep2 : ∀ b o, b ≠ S → h'.get? b = some o → (h'.update S (Obj.mapSeq fun _ => #[Value.ref L[i].1, .ref L[i].1])).get? b = some o := fun b o h e => (Heap.get?_update_other _ _ (Ne.symm h)).trans e
      refine wpAny_pure ⟨plainId_quiet F.plain_min_loop _, ih (i + 1) _ L[i] _ (by lia) (hit'.at fun o e => keep2 I o hIS e) (hl'.at fun o e => keep2 l o hlS e) (hL'.keep fun p hp o e => keep2 p.1 o (hne p hp).2 e) hmem (Heap.get?_update_self _ hS' rfl) fun h'' tk'' hk => ?_⟩
      have g := hR h'' tk'' fun b o h1 h2 e => hk b o h1 h2 (keep2 b o h2 (keep b o h1 e))
      rw [hd] at g
      simp only [minP, List.foldl_cons, hb', if_true] at g
      exact g
    | false =>
      simp only [Bool.false_eq_true, if_false]
      refine wpAny_bind (wpAny_letGo ?_)
      rw [hname]
      refine wpAny_pure ⟨plainId_quiet F.plain_min_loop _, ih (i + 1) _ bb c (by lia) hit' hl' hL' hb hS' fun h'' tk'' hk => ?_⟩
      have g := hR h'' tk'' fun b o h1 h2 e => hk b o h1 h2 (keep b o h1 e)
      rw [hd] at g
      simp only [minP, List.foldl_cons, hb', Bool.false_eq_true, if_false] at g
      exact g
theorem min_lists {l : Addr} {lo : Obj} {n : Nat} {s : Shared} {E : Value → Shared → Prop} {Q : Value → Shared → Prop} (p : Addr × List Str) (L : List (Addr × List Str)) (hh : A.handled = none) (hu : A.units + 1 < cLine)
    (ho : s.heap.get? l = some lo) (hc : lo.cls = .type "list") (hd : lo.data = .seq (refsOfL (p :: L)).toArray n) (hL : Lists s.heap (p :: L))
    (h : ∀ h' tk, Grow s.heap h' → Q (.ref (minP p L).1) { s with heap := h', toks := tk }) : wpAny (model prog w) A (call (.builtin "min") [.ref l]) Q E s := by
  have hname : (toString "min" ++ toString ".loop" : String) = "min.loop" := by decide
  have hl : s.heap.IsList l (refsOfL (p :: L)).toArray := ⟨lo, ho, hc, n, hd⟩
  refine call_function_tree F.kind_min F.plain_min F.entry_min (F.args_min1 _) ?_
  show wpAny _ A.in1 (Builtin.Builtins.bindParams "min" ["key", "default"] 0 ⟨[], []⟩ >>= _) _ _ s
  refine wpAny_bind (wpAny_of_eq (show Builtin.Builtins.bindParams "min" ["key", "default"] 0 ⟨[], []⟩ = pure [none, none] from rfl) ?_)
  refine wpAny_bind (wpAny_pure (wpAny_bind (wpAny_pyIter_list hl ?_)))
  refine wpAny_bind (wpAny_newObj_type ?_)
  rw [hname]
  have hlt : ∀ b o, s.heap.get? b = some o → b < s.heap.objs.size := fun b o e => Heap.lt_size e
  have hsz : ∀ o : Obj, (s.heap.push o).objs.size = s.heap.objs.size + 1 := fun o => by simp [Heap.push]
  rw [show ({ s with heap := s.heap.push { cls := .type "list_iterator", data := .fields #[.ref l, .int 0 0] } } : Shared).heap.objs.size = s.heap.objs.size + 1 from hsz _]
  refine wpAny_pure ⟨plainId_quiet F.plain_min_loop _, ?_⟩
  generalize hI : s.heap.objs.size = I
  have keep0 : ∀ b o, s.heap.get? b = some o → ((s.heap.push { cls := .type "list_iterator", data := .fields #[.ref l, .int 0 0] }).push { cls := .type "list", data := .seq ([] : List Value).toArray }).get? b = some o := fun b o e => Heap.get?_push_of_some _ (Heap.get?_push_of_some _ e)
  have hIt : ((s.heap.push { cls := .type "list_iterator", data := .fields #[.ref l, .int 0 0] }).push { cls := .type "list", data := .seq ([] : List Value).toArray }).IsListIter I l 0 := ⟨_, Heap.get?_push_of_some _ (hI ▸ Heap.get?_push_size _ rfl), rfl, rfl⟩
  have hS0 : ((s.heap.push { cls := .type "list_iterator", data := .fields #[.ref l, .int 0 0] }).push { cls := .type "list", data := .seq ([] : List Value).toArray }).get? (I + 1) = some { cls := .type "list", dict := none, data := .seq #[] 0, slots := #[] } := by
    have e : (s.heap.push { cls := .type "list_iterator", data := .fields #[.ref l, .int 0 0] }).objs.size = I + 1 := by rw [hsz, hI]
    rw [← e]; exact Heap.get?_push_size _ rfl
  have nlt : ∀ b o, s.heap.get? b = some o → b ≠ I ∧ b ≠ I + 1 := fun b o e => ⟨Nat.ne_of_lt (hI ▸ hlt b o e), Nat.ne_of_lt (Nat.lt_succ_of_lt (hI ▸ hlt b o e))⟩
  have hlI := nlt l lo ho
  have hne : ∀ q ∈ p :: L, q.1 ≠ I ∧ q.1 ≠ I + 1 := fun q hq => by obtain ⟨o, _, _, g, _⟩ := hL q hq; exact nlt _ o g
  generalize hH : ((s.heap.push { cls := .type "list_iterator", data := .fields #[.ref l, .int 0 0] }).push { cls := .type "list", data := .seq ([] : List Value).toArray }) = H at keep0 hIt hS0 ⊢
  have hlH : H.IsList l (refsOfL (p :: L)).toArray := hl.at fun o e => keep0 l o e
  have hLH : Lists H (p :: L) := hL.keep fun q _ o e => keep0 q.1 o e
  refine codeAny_builtin F.entry_min_loop ?_
  rw [Around.under_plainId F.plain_min_loop _]
  show wpAny _ A.in1 (seqItems? (.ref (I + 1)) >>= _) _ _ _
  refine wpAny_bind (wpAny_seqItems hS0 rfl ?_)
  show wpAny _ A.in1 (tryCatch (pyNext (.ref I)) _ >>= _) _ _ _
  refine wpAny_bind (wpAny_tryCatch (wpAny_pyNext_list_item hIt hlH (x := .ref p.1) (by simp [refsOfL]) fun h' hit' hs' => ?_))
  have keep : ∀ b o, b ≠ I → H.get? b = some o → h'.get? b = some o := fun b o h e => (hs'.2 b h).trans e
  have hS' := keep (I + 1) _ (Nat.succ_ne_self I) hS0
  show wpAny _ A.in1 (updateSeq (I + 1) (fun _ => #[.ref p.1, .ref p.1]) >>= _) _ _ _
  refine wpAny_bind (wpAny_updateSeq hS' rfl ?_)
  rw [hname]
  have keep2 : ∀ b o, b ≠ I + 1 → h'.get? b = some o → (h'.update (I + 1) (Obj.mapSeq fun _ => #[Value.ref p.1, .ref p.1])).get? b = some o := fun b o h e => (Heap.get?_update_other _ _ (Ne.symm h)).trans e
  refine wpAny_pure ⟨plainId_quiet F.plain_min_loop _, min_loopS (p :: L) (Nat.succ_ne_self I).symm hlI.1 hlI.2 hne hh hu _ 1 _ p _ rfl (hit'.at fun o e => keep2 I o (Nat.succ_ne_self I).symm e) (hlH.at fun o e => keep2 l o hlI.2 (keep l o hlI.1 e)) (hLH.keep fun q hq o e => keep2 q.1 o (hne q hq).2 (keep q.1 o (hne q hq).1 e)) (.head _) (Heap.get?_update_self _ hS' rfl) fun h'' tk'' hk => ?_⟩
  exact h h'' tk'' fun b o e => hk b o (nlt b o e).1 (nlt b o e).2 (keep2 b o (nlt b o e).2 (keep b o (nlt b o e).1 (keep0 b o e)))

noncomputable def maxP (b : Addr × List Str) (L : List (Addr × List Str)) : Addr × List Str := L.foldl (fun b x => if gtL x.2 b.2 then x else b) b
theorem max_loopS {I S l : Addr} (L : List (Addr × List Str)) (hIS : I ≠ S) (hlI : l ≠ I) (hlS : l ≠ S) (hne : ∀ p ∈ L, p.1 ≠ I ∧ p.1 ≠ S) (hh : A.handled = none) (hu : A.units + 1 < cLine) :
    ∀ (k i : Nat) (s : Shared) (bb : Addr × List Str) (c : Nat), L.length - i = k → s.heap.IsListIter I l i → s.heap.IsList l (refsOfL L).toArray → Lists s.heap L → bb ∈ L →
      s.heap.get? S = some { cls := .type "list", dict := none, data := .seq #[.ref bb.1, .ref bb.1] c, slots := #[] } →
      (∀ h' tk, (∀ b o, b ≠ I → b ≠ S → s.heap.get? b = some o → h'.get? b = some o) → R (.ok (.ret (.ref (maxP bb (L.drop i)).1))) { s with heap := h', toks := tk }) →
      codeAny (model prog w) A (.builtin "max.loop" ⟨[.ref I, .none, .ref S], []⟩) R s := by
  have hname : (toString "max" ++ toString ".loop" : String) = "max.loop" := by decide
  intro k
  induction k with
  | zero =>
    intro i s bb c hk hit hl hL hb hS hR
    have hd : L.drop i = [] := List.drop_eq_nil_of_le (by lia)
    have hnone : (refsOfL L).toArray[i]? = none := by simp [refsOfL]; lia
    refine codeAny_builtin F.entry_max_loop ?_
    rw [Around.under_plainId F.plain_max_loop _]
    show wpAny _ A.in1 (seqItems? (.ref S) >>= _) _ _ s
    refine wpAny_bind (wpAny_seqItems hS rfl ?_)
    show wpAny _ A.in1 (tryCatch (pyNext (.ref I)) _ >>= _) _ _ s
    refine wpAny_bind (wpAny_tryCatch (wpAny_pyNext_list_end hh hit hl hnone fun h' he => ?_))
    have hS' := he S _ (Ne.symm hIS) hS
    show wpAny _ A.in1 (updateSeq S (fun _ => #[]) >>= _) _ _ _
    refine wpAny_bind (wpAny_updateSeq hS' rfl (wpAny_bind (wpAny_letGo (wpAny_pure ?_))))
    have g := hR (h'.update S (Obj.mapSeq fun _ => #[])) s.toks fun b o h1 h2 e => (Heap.get?_update_other _ _ (Ne.symm h2)).trans (he b o h1 e)
    rw [hd] at g
    exact g
  | succ k ih =>
    intro i s bb c hk hit hl hL hb hS hR
    have hlt : i < L.length := by lia
    have hd : L.drop i = L[i] :: L.drop (i + 1) := List.drop_eq_getElem_cons hlt
    have hmem : L[i] ∈ L := List.getElem_mem hlt
    have hsome : (refsOfL L).toArray[i]? = some (.ref L[i].1) := by simp [refsOfL, hlt]
    refine codeAny_builtin F.entry_max_loop ?_
    rw [Around.under_plainId F.plain_max_loop _]
    show wpAny _ A.in1 (seqItems? (.ref S) >>= _) _ _ s
    refine wpAny_bind (wpAny_seqItems hS rfl ?_)
    show wpAny _ A.in1 (tryCatch (pyNext (.ref I)) _ >>= _) _ _ s
    refine wpAny_bind (wpAny_tryCatch (wpAny_pyNext_list_item hit hl hsome fun h' hit' hs' => ?_))
    have keep : ∀ b o, b ≠ I → s.heap.get? b = some o → h'.get? b = some o := fun b o h e => (hs'.2 b h).trans e
    have hS' := keep S _ (Ne.symm hIS) hS
    have hL' : Lists h' L := hL.keep fun p hp o e => keep p.1 o (hne p hp).1 e
    refine foldP ?_; intro Gz
    obtain ⟨o1, i1, n1, g1, c1, e1, s1⟩ := hL' _ hmem
    obtain ⟨o2, i2, n2, g2, c2, e2, s2⟩ := hL' _ hb
    k_unfold
    show wpAny _ A.in1 (tryCatch (holding [.ref L[i].1, .ref L[i].1] (richCompare .Gt (.ref L[i].1) (.ref bb.1) >>= _)) _ >>= _) _ _ _
    refine wpAny_bind (wpAny_tryCatch (wpAny_holding (wpAny_bind (gt_strs g1 g2 c1 e1 c2 e2 s1 s2 hu ?_))))
    refine wpAny_bind (wpAny_holding (wpAny_truthy_bool ?_))
    refine wpAny_bind (wpAny_letGo (wpAny_pure ?_))
    have hl' : h'.IsList l (refsOfL L).toArray := hl.at fun o e => keep l o hlI e
    cases hb' : gtL L[i].2 bb.2 with
    | true =>
      simp only [if_true]
      refine wpAny_bind (wpAny_updateSeq hS' rfl (wpAny_bind (wpAny_letGo ?_)))
      rw [hname]
      have keep2 : ∀ b o, b ≠ S → h'.get? b = some o → (h'.update S (Obj.mapSeq fun _ => #[Value.ref L[i].1, .ref L[i].1])).get? b = some o := fun b o h e => (Heap.get?_update_other _ _ (Ne.symm h)).trans e
      refine wpAny_pure ⟨plainId_quiet F.plain_max_loop _, ih (i + 1) _ L[i] _ (by lia) (hit'.at fun o e => keep2 I o hIS e) (hl'.at fun o e => keep2 l o hlS e) (hL'.keep fun p hp o e => keep2 p.1 o (hne p hp).2 e) hmem (Heap.get?_update_self _ hS' rfl) fun h'' tk'' hk => ?_⟩
      have g := hR h'' tk'' fun b o h1 h2 e => hk b o h1 h2 (keep2 b o h2 (keep b o h1 e))
      rw [hd] at g
      simp only [maxP, List.foldl_cons, hb', if_true] at g
      exact g
    | false =>
      simp only [Bool.false_eq_true, if_false]
      refine wpAny_bind (wpAny_letGo ?_)
      rw [hname]
      refine wpAny_pure ⟨plainId_quiet F.plain_max_loop _, ih (i + 1) _ bb c (by lia) hit' hl' hL' hb hS' fun h'' tk'' hk => ?_⟩
      have g := hR h'' tk'' fun b o h1 h2 e => hk b o h1 h2 (keep b o h1 e)
      rw [hd] at g
      simp only [maxP, List.foldl_cons, hb', Bool.false_eq_true, if_false] at g
      exact g
theorem max_lists {l : Addr} {lo : Obj} {n : Nat} {s : Shared} {E : Value → Shared → Prop} {Q : Value → Shared → Prop} (p : Addr × List Str) (L : List (Addr × List Str)) (hh : A.handled = none) (hu : A.units + 1 < cLine)
    (ho : s.heap.get? l = some lo) (hc : lo.cls = .type "list") (hd : lo.data = .seq (refsOfL (p :: L)).toArray n) (hL : Lists s.heap (p :: L))
    (h : ∀ h' tk, Grow s.heap h' → Q (.ref (maxP p L).1) { s with heap := h', toks := tk }) : wpAny (model prog w) A (call (.builtin "max") [.ref l]) Q E s := by
  have hname : (toString "max" ++ toString ".loop" : String) = "max.loop" := by decide
  have hl : s.heap.IsList l (refsOfL (p :: L)).toArray := ⟨lo, ho, hc, n, hd⟩
  refine call_function_tree F.kind_max F.plain_max F.entry_max (F.args_max1 _) ?_
  show wpAny _ A.in1 (Builtin.Builtins.bindParams "max" ["key", "default"] 0 ⟨[], []⟩ >>= _) _ _ s
  refine wpAny_bind (wpAny_of_eq (show Builtin.Builtins.bindParams "max" ["key", "default"] 0 ⟨[], []⟩ = pure [none, none] from rfl) ?_)
  refine wpAny_bind (wpAny_pure (wpAny_bind (wpAny_pyIter_list hl ?_)))
  refine wpAny_bind (wpAny_newObj_type ?_)
  rw [hname]
  have hlt : ∀ b o, s.heap.get? b = some o → b < s.heap.objs.size := fun b o e => Heap.lt_size e
  have hsz : ∀ o : Obj, (s.heap.push o).objs.size = s.heap.objs.size + 1 := fun o => by simp [Heap.push]
  rw [show ({ s with heap := s.heap.push { cls := .type "list_iterator", data := .fields #[.ref l, .int 0 0] } } : Shared).heap.objs.size = s.heap.objs.size + 1 from hsz _]
  refine wpAny_pure ⟨plainId_quiet F.plain_max_loop _, ?_⟩
  generalize hI : s.heap.objs.size = I
  have keep0 : ∀ b o, s.heap.get? b = some o → ((s.heap.push { cls := .type "list_iterator", data := .fields #[.ref l, .int 0 0] }).push { cls := .type "list", data := .seq ([] : List Value).toArray }).get? b = some o := fun b o e => Heap.get?_push_of_some _ (Heap.get?_push_of_some _ e)
  have hIt : ((s.heap.push { cls := .type "list_iterator", data := .fields #[.ref l, .int 0 0] }).push { cls := .type "list", data := .seq ([] : List Value).toArray }).IsListIter I l 0 := ⟨_, Heap.get?_push_of_some _ (hI ▸ Heap.get?_push_size _ rfl), rfl, rfl⟩
  have hS0 : ((s.heap.push { cls := .type "list_iterator", data := .fields #[.ref l, .int 0 0] }).push { cls := .type "list", data := .seq ([] : List Value).toArray }).get? (I + 1) = some { cls := .type "list", dict := none, data := .seq #[] 0, slots := #[] } := by
    have e : (s.heap.push { cls := .type "list_iterator", data := .fields #[.ref l, .int 0 0] }).objs.size = I + 1 := by rw [hsz, hI]
    rw [← e]; exact Heap.get?_push_size _ rfl
  have nlt : ∀ b o, s.heap.get? b = some o → b ≠ I ∧ b ≠ I + 1 := fun b o e => ⟨Nat.ne_of_lt (hI ▸ hlt b o e), Nat.ne_of_lt (Nat.lt_succ_of_lt (hI ▸ hlt b o e))⟩
  have hlI := nlt l lo ho
  have hne : ∀ q ∈ p :: L, q.1 ≠ I ∧ q.1 ≠ I + 1 := fun q hq => by obtain ⟨o, _, _, g, _⟩ := hL q hq; exact nlt _ o g
  generalize hH : ((s.heap.push { cls := .type "list_iterator", data := .fields #[.ref l, .int 0 0] }).push { cls := .type "list", data := .seq ([] : List Value).toArray }) = H at keep0 hIt hS0 ⊢
  have hlH : H.IsList l (refsOfL (p :: L)).toArray := hl.at fun o e => keep0 l o e
  have hLH : Lists H (p :: L) := hL.keep fun q _ o e => keep0 q.1 o e
  refine codeAny_builtin F.entry_max_loop ?_
  rw [Around.under_plainId F.plain_max_loop _]
  show wpAny _ A.in1 (seqItems? (.ref (I + 1)) >>= _) _ _ _
  refine wpAny_bind (wpAny_seqItems hS0 rfl ?_)
  show wpAny _ A.in1 (tryCatch (pyNext (.ref I)) _ >>= _) _ _ _
  refine wpAny_bind (wpAny_tryCatch (wpAny_pyNext_list_item hIt hlH (x := .ref p.1) (by simp [refsOfL]) fun h' hit' hs' => ?_))
  have keep : ∀ b o, b ≠ I → H.get? b = some o → h'.get? b = some o := fun b o h e => (hs'.2 b h).trans e
  have hS' := keep (I + 1) _ (Nat.succ_ne_self I) hS0
  show wpAny _ A.in1 (updateSeq (I + 1) (fun _ => #[.ref p.1, .ref p.1]) >>= _) _ _ _
  refine wpAny_bind (wpAny_updateSeq hS' rfl ?_)
  rw [hname]
  have keep2 : ∀ b o, b ≠ I + 1 → h'.get? b = some o → (h'.update (I + 1) (Obj.mapSeq fun _ => #[Value.ref p.1, .ref p.1])).get? b = some o := fun b o h e => (Heap.get?_update_other _ _ (Ne.symm h)).trans e
  refine wpAny_pure ⟨plainId_quiet F.plain_max_loop _, max_loopS (p :: L) (Nat.succ_ne_self I).symm hlI.1 hlI.2 hne hh hu _ 1 _ p _ rfl (hit'.at fun o e => keep2 I o (Nat.succ_ne_self I).symm e) (hlH.at fun o e => keep2 l o hlI.2 (keep l o hlI.1 e)) (hLH.keep fun q hq o e => keep2 q.1 o (hne q hq).2 (keep q.1 o (hne q hq).1 e)) (.head _) (Heap.get?_update_self _ hS' rfl) fun h'' tk'' hk => ?_⟩
  exact h h'' tk'' fun b o e => hk b o (nlt b o e).1 (nlt b o e).2 (keep2 b o (nlt b o e).2 (keep b o (nlt b o e).1 (keep0 b o e)))
end
noncomputable def cmLt (a b : Str) : Prop := a.cps.toList < b.cps.toList
theorem cm_irrefl (a : Str) : ¬ cmLt a a := List.lt_irrefl _
theorem cm_trans {a b c : Str} (h : cmLt a b) (g : cmLt b c) : cmLt a c := List.lt_trans h g
theorem cm_tri {a b : Str} (h : ¬ cmLt a b) (g : ¬ cmLt b a) : a = b := by
  apply cs_ext
  exact List.le_antisymm (List.not_lt.mp g) (List.not_lt.mp h)
theorem ltL_iff (a b : Str) (r q : List Str) : ltL (a :: r) (b :: q) = true ↔ cmLt a b ∨ (a = b ∧ ltL r q = true) := by
  simp only [ltL]
  by_cases h : a = b
  · subst h; simp [cm_irrefl]
  · have e : (a == b) = false := beq_false_of_ne h
    simp only [e, Bool.false_eq_true, if_false, decide_eq_true_eq]
    exact ⟨fun x => .inl x, fun x => x.elim id fun y => absurd y.1 h⟩
theorem gtL_eq (a b : List Str) : gtL a b = ltL b a := rfl
theorem ltL_irrefl : ∀ a : List Str, ltL a a = false
  | [] => rfl
  | a :: r => by simp [ltL, ltL_irrefl r]
theorem ltL_trans : ∀ {a b c : List Str}, ltL a b = true → ltL b c = true → ltL a c = true
  | [], [], _, h, _ => by cases h
  | [], _ :: _, [], _, g => by cases g
  | [], _ :: _, _ :: _, _, _ => rfl
  | _ :: _, [], _, h, _ => by cases h
  | _ :: _, _ :: _, [], _, g => by cases g
  | a :: r, b :: q, c :: p, h, g => by
    rw [ltL_iff] at *
    rcases h with h | ⟨rfl, h⟩ <;> rcases g with g | ⟨rfl, g⟩
    · exact .inl (cm_trans h g)
    · exact .inl h
    · exact .inl g
    · exact .inr ⟨rfl, ltL_trans h g⟩
theorem ltL_asymm {a b : List Str} (h : ltL a b = true) : ltL b a = false := by
  cases g : ltL b a with
  | false => rfl
  | true => have := ltL_trans h g; rw [ltL_irrefl] at this; cases this

structure Ends (S M : List Str) (L : List (List Str)) : Prop where
  s : S ∈ L
  m : M ∈ L
  lo : ∀ x ∈ L, ltL x S = false
  hi : ∀ x ∈ L, ltL M x = false
theorem ltL_tri : ∀ u t : List Str, ltL u t = true ∨ u = t ∨ ltL t u = true
  | [], [] => .inr (.inl rfl)
  | [], _ :: _ => .inl rfl
  | _ :: _, [] => .inr (.inr rfl)
  | a :: r, b :: q => by
    rw [ltL_iff, ltL_iff]
    by_cases h : cmLt a b
    · exact .inl (.inl h)
    · by_cases g : cmLt b a
      · exact .inr (.inr (.inl g))
      · have := cm_tri h g
        subst this
        rcases ltL_tri r q with z | z | z
        · exact .inl (.inr ⟨rfl, z⟩)
        · exact .inr (.inl (by rw [z]))
        · exact .inr (.inr (.inr ⟨rfl, z⟩))
theorem ltL_co {x y : List Str} (h : ltL x y = true) (b : List Str) : ltL x b = true ∨ ltL b y = true := by
  rcases ltL_tri x b with z | z | z
  · exact .inl z
  · exact .inr (z ▸ h)
  · exact .inr (ltL_trans z h)
theorem best_spec {lt : List Str → List Str → Bool} (as : ∀ {x y}, lt x y = true → lt y x = false) (co : ∀ {x y}, lt x y = true → ∀ b, lt x b = true ∨ lt b y = true) (L : List (Addr × List Str)) :
    ∀ b, L.foldl (fun b x => if lt x.2 b.2 then x else b) b ∈ b :: L ∧ ∀ x ∈ b :: L, lt x.2 (L.foldl (fun b x => if lt x.2 b.2 then x else b) b).2 = false := by
  have irr : ∀ x, lt x x = false := fun x => by
    cases q : lt x x with
    | false => rfl
    | true => exact q ▸ as q
  induction L with
  | nil => intro b; exact ⟨.head _, fun x hx => by rw [List.mem_singleton.mp hx]; exact irr _⟩
  | cons y L ih =>
    intro b
    rw [List.foldl_cons]
    obtain ⟨h1, h2⟩ := ih (if lt y.2 b.2 then y else b)
    generalize L.foldl (fun b x => if lt x.2 b.2 then x else b) (if lt y.2 b.2 then y else b) = r at h1 h2 ⊢
    have no : ∀ x : Addr × List Str, lt x.2 r.2 = true → (lt x.2 (if lt y.2 b.2 then y else b).2 = true) := fun x q => (co q _).resolve_right fun z => by rw [h2 _ (.head _)] at z; cases z
    have off : ∀ x : Addr × List Str, lt x.2 (if lt y.2 b.2 then y else b).2 = false → lt x.2 r.2 = false := fun x q => by
      cases z : lt x.2 r.2 with
      | false => rfl
      | true => rw [no x z] at q; cases q
    have hb : lt b.2 (if lt y.2 b.2 then y else b).2 = false ∧ lt y.2 (if lt y.2 b.2 then y else b).2 = false ∧ (if lt y.2 b.2 then y else b) ∈ b :: y :: L := by
      cases hy : lt y.2 b.2 with
      | true => exact ⟨as hy, irr _, .tail _ (.head _)⟩
      | false => exact ⟨irr _, hy, .head _⟩
    refine ⟨?_, fun x hx => ?_⟩
    · rcases List.mem_cons.mp h1 with h | h
      · exact h ▸ hb.2.2
      · exact .tail _ (.tail _ h)
    · rcases List.mem_cons.mp hx with h | hx
      · exact h ▸ off b hb.1
      · rcases List.mem_cons.mp hx with h | hx
        · exact h ▸ off y hb.2.1
        · exact h2 x (.tail _ hx)
theorem minP_spec (b : Addr × List Str) (L : List (Addr × List Str)) : minP b L ∈ b :: L ∧ ∀ x ∈ b :: L, ltL x.2 (minP b L).2 = false := best_spec (lt := ltL) (fun h => ltL_asymm h) (fun h b => ltL_co h b) L b
theorem maxP_spec (b : Addr × List Str) (L : List (Addr × List Str)) : maxP b L ∈ b :: L ∧ ∀ x ∈ b :: L, ltL (maxP b L).2 x.2 = false :=
  best_spec (lt := gtL) (fun h => ltL_asymm h) (fun h b => (ltL_co h b).symm) L b
theorem ends_of (b : Addr × List Str) (L : List (Addr × List Str)) : Ends (minP b L).2 (maxP b L).2 ((b :: L).map (·.2)) := by
  obtain ⟨a1, a2⟩ := minP_spec b L
  obtain ⟨b1, b2⟩ := maxP_spec b L
  refine ⟨List.mem_map_of_mem a1, List.mem_map_of_mem b1, ?_, ?_⟩
  · intro x hx; obtain ⟨p, hp, rfl⟩ := List.mem_map.mp hx; exact a2 p hp
  · intro x hx; obtain ⟨p, hp, rfl⟩ := List.mem_map.mp hx; exact b2 p hp

noncomputable def lcpN : List Str → List Str → Nat
  | a :: r, b :: q => if a == b then lcpN r q + 1 else 0
  | _, _ => 0
theorem lcpN_le_left : ∀ a b : List Str, lcpN a b ≤ a.length
  | [], b => by cases b <;> simp [lcpN]
  | _ :: _, [] => by simp [lcpN]
  | a :: r, b :: q => by
    have := lcpN_le_left r q
    simp only [lcpN]; split <;> simp <;> lia
theorem lcpN_take : ∀ a b : List Str, a.take (lcpN a b) = b.take (lcpN a b)
  | [], b => by cases b <;> simp [lcpN]
  | _ :: _, [] => by simp [lcpN]
  | a :: r, b :: q => by
    simp only [lcpN]
    by_cases h : a = b
    · subst h; simp [lcpN_take r q]
    · simp [beq_false_of_ne h]
theorem lcpN_max : ∀ (a b : List Str) (k : Nat), k ≤ a.length → k ≤ b.length → a.take k = b.take k → k ≤ lcpN a b
  | _, _, 0, _, _, _ => Nat.zero_le _
  | [], _, k + 1, h, _, _ => by simp at h
  | _ :: _, [], k + 1, _, h, _ => by simp at h
  | a :: r, b :: q, k + 1, h1, h2, h3 => by
    simp only [List.take_succ_cons, List.cons.injEq] at h3
    obtain ⟨rfl, h3⟩ := h3
    have := lcpN_max r q k (by simpa using h1) (by simpa using h2) h3
    simp only [lcpN, BEq.rfl, if_true]; lia
theorem lcpN_comm : ∀ a b : List Str, lcpN a b = lcpN b a
  | [], [] => rfl
  | [], _ :: _ => rfl
  | _ :: _, [] => rfl
  | a :: r, b :: q => by
    simp only [lcpN, lcpN_comm r q]
    by_cases h : a = b
    · subst h; rfl
    · rw [beq_false_of_ne h, beq_false_of_ne (Ne.symm h)]
theorem between : ∀ (S M x : List Str), ltL x S = false → ltL M x = false → x.take (lcpN S M) = S.take (lcpN S M) ∧ lcpN S M ≤ x.length
  | [], M, x, _, _ => by cases M <;> simp [lcpN]
  | _ :: _, [], x, _, _ => by simp [lcpN]
  | a :: S, b :: M, x, h1, h2 => by
    simp only [lcpN]
    by_cases h : a = b
    · subst h
      simp only [BEq.rfl, if_true]
      cases x with
      | nil => simp [ltL] at h1
      | cons c x =>
        have n1 : ¬ (cmLt c a ∨ (c = a ∧ ltL x S = true)) := by rw [← ltL_iff, h1]; simp
        have n2 : ¬ (cmLt a c ∨ (a = c ∧ ltL M x = true)) := by rw [← ltL_iff, h2]; simp
        have e : c = a := cm_tri (fun z => n1 (.inl z)) (fun z => n2 (.inl z))
        subst e
        obtain ⟨i1, i2⟩ := between S M x (by cases q : ltL x S with | false => rfl | true => exact absurd (.inr ⟨rfl, q⟩) n1) (by cases q : ltL M x with | false => rfl | true => exact absurd (.inr ⟨rfl, q⟩) n2)
        simp [i1]; exact i2
    · simp [beq_false_of_ne h]
theorem Ends.go {S M : List Str} {L : List (List Str)} (x : Ends S M L) {i : Nat} (hi : i < S.length) (ht : S.take i = M.take i) : i < M.length := by
  apply Classical.byContradiction
  intro hn
  have hle : M.length ≤ i := Nat.not_lt.mp hn
  have e : M = S.take M.length := by
    have := congrArg (List.take M.length) ht
    rw [List.take_take, List.take_take, Nat.min_eq_left hle, List.take_length] at this
    exact this.symm
  have : ∀ (S M : List Str), M.length < S.length → M = S.take M.length → ltL M S = true := by
    intro S
    induction S with
    | nil => intro M h _; simp at h
    | cons a S ih =>
      intro M h e
      cases M with
      | nil => rfl
      | cons b M =>
        simp only [List.length_cons, List.take_succ_cons, List.cons.injEq] at e h
        rw [ltL_iff]
        exact .inr ⟨e.1, ih M (by lia) e.2⟩
  have := this S M (by lia) e
  rw [x.lo M x.m] at this; cases this
theorem Ends.ge {S M : List Str} {L : List (List Str)} (x : Ends S M L) {k : Nat} {z : List Str} (h : ∀ a ∈ L, k ≤ a.length ∧ a.take k = z) : k ≤ lcpN S M :=
  lcpN_max S M k (h S x.s).1 (h M x.m).1 ((h S x.s).2.trans (h M x.m).2.symm)
theorem Ends.le {S M : List Str} {L : List (List Str)} (x : Ends S M L) : ∀ a ∈ L, a.take (lcpN S M) = S.take (lcpN S M) ∧ lcpN S M ≤ a.length :=
  fun a ha => between S M a (x.lo a ha) (x.hi a ha)
theorem Ends.two {S M a b : List Str} (x : Ends S M [a, b]) : lcpN a b = lcpN S M := by
  apply Nat.le_antisymm
  · refine x.ge (z := a.take (lcpN a b)) fun y hy => ?_
    simp only [List.mem_cons, List.not_mem_nil, or_false] at hy
    rcases hy with rfl | rfl
    · exact ⟨lcpN_le_left _ _, rfl⟩
    · refine ⟨?_, (lcpN_take _ _).symm⟩
      rw [lcpN_comm]; exact lcpN_le_left _ _
  · obtain ⟨h1, h2⟩ := x.le a (.head _)
    obtain ⟨h3, h4⟩ := x.le b (.tail _ (.head _))
    exact lcpN_max _ _ _ h2 h4 (h1.trans h3.symm)
theorem lcpN_at {S M : List Str} {i : Nat} {y z : Str} (h : S.take i = M.take i) (hy : S[i]? = some y) (hz : M[i]? = some z) (hne : y ≠ z) : lcpN S M = i := by
  induction S generalizing M i with
  | nil => simp at hy
  | cons a S ih =>
    cases M with
    | nil => simp at hz
    | cons b M =>
      cases i with
      | zero =>
        simp at hy hz
        subst hy hz
        simp [lcpN, beq_false_of_ne hne]
      | succ i =>
        simp at h hy hz
        obtain ⟨rfl, h⟩ := h
        simp [lcpN, ih h hy hz]
theorem lcpN_all {S M : List Str} (h : S.take S.length = M.take S.length) : lcpN S M = S.length := by
  have h1 := lcpN_le_left S M
  rw [List.take_length] at h
  have h2 : S.length ≤ M.length := by
    have := congrArg List.length h; rw [List.length_take] at this; lia
  have := lcpN_max S M S.length (Nat.le_refl _) h2 (by rw [List.take_length]; exact h)
  lia
theorem take_next {S M : List Str} {i : Nat} {y : Str} (h : S.take i = M.take i) (hy : S[i]? = some y) (hz : M[i]? = some y) : S.take (i + 1) = M.take (i + 1) := by
  rw [List.take_add_one, List.take_add_one, h, hy, hz]
theorem lcp3_le : ∀ a b c : List Str, lcp3 a b c ≤ a.length ∧ lcp3 a b c ≤ b.length ∧ lcp3 a b c ≤ c.length
  | a :: r, b :: q, c :: p => by
    have := lcp3_le r q p
    simp only [lcp3, List.length_cons]
    split <;> lia
  | [], b, c => by cases b <;> cases c <;> simp [lcp3]
  | _ :: _, [], c => by cases c <;> simp [lcp3]
  | _ :: _, _ :: _, [] => by simp [lcp3]
theorem lcp3_take : ∀ a b c : List Str, a.take (lcp3 a b c) = b.take (lcp3 a b c) ∧ b.take (lcp3 a b c) = c.take (lcp3 a b c)
  | a :: r, b :: q, c :: p => by
    have := lcp3_take r q p
    simp only [lcp3]
    split
    · rename_i h; rw [h.1, h.2]; simp only [List.take_succ_cons, this]; exact ⟨trivial, trivial⟩
    · simp
  | [], b, c => by cases b <;> cases c <;> simp [lcp3]
  | _ :: _, [], c => by cases c <;> simp [lcp3]
  | _ :: _, _ :: _, [] => by simp [lcp3]
theorem lcp3_max : ∀ (a b c : List Str) (k : Nat), k ≤ a.length → k ≤ b.length → k ≤ c.length → a.take k = b.take k → b.take k = c.take k → k ≤ lcp3 a b c
  | _, _, _, 0, _, _, _, _, _ => Nat.zero_le _
  | [], _, _, k + 1, h, _, _, _, _ => by simp at h
  | _ :: _, [], _, k + 1, _, h, _, _, _ => by simp at h
  | _ :: _, _ :: _, [], k + 1, _, _, h, _, _ => by simp at h
  | a :: r, b :: q, c :: p, k + 1, h1, h2, h3, h4, h5 => by
    simp only [List.take_succ_cons, List.cons.injEq] at h4 h5
    have := lcp3_max r q p k (by simpa using h1) (by simpa using h2) (by simpa using h3) h4.2 h5.2
    simp only [lcp3]
    rw [if_pos ⟨h4.1, h5.1⟩]
    lia
theorem lcp3_stop {a b c : List Str} {k : Nat} (h1 : k ≤ a.length) (h2 : k ≤ b.length) (h3 : k ≤ c.length) (h4 : a.take k = b.take k) (h5 : b.take k = c.take k)
    (h : a.length ≤ k ∨ b.length ≤ k ∨ c.length ≤ k ∨ a[k]? ≠ b[k]? ∨ b[k]? ≠ c[k]?) : lcp3 a b c = k := by
  apply Nat.le_antisymm
  · obtain ⟨l1, l2, l3⟩ := lcp3_le a b c
    obtain ⟨t1, t2⟩ := lcp3_take a b c
    apply Classical.byContradiction
    intro hn
    have e1 : a[k]? = b[k]? := by
      have := congrArg (fun l : List Str => l[k]?) t1
      simpa [List.getElem?_take, show k < lcp3 a b c by lia] using this
    have e2 : b[k]? = c[k]? := by
      have := congrArg (fun l : List Str => l[k]?) t2
      simpa [List.getElem?_take, show k < lcp3 a b c by lia] using this
    rcases h with h | h | h | h | h
    · lia
    · lia
    · lia
    · exact h e1
    · exact h e2
  · exact lcp3_max a b c k h1 h2 h3 h4 h5
theorem Ends.three {S M a b c : List Str} (x : Ends S M [a, b, c]) : lcp3 a b c = lcpN S M ∧ S.take (lcpN S M) = a.take (lcp3 a b c) := by
  obtain ⟨l1, l2, l3⟩ := lcp3_le a b c
  obtain ⟨t1, t2⟩ := lcp3_take a b c
  obtain ⟨a1, a2⟩ := x.le a (.head _)
  obtain ⟨b1, b2⟩ := x.le b (.tail _ (.head _))
  obtain ⟨c1, c2⟩ := x.le c (.tail _ (.tail _ (.head _)))
  have e : lcp3 a b c = lcpN S M := by
    apply Nat.le_antisymm
    · refine x.ge (z := a.take (lcp3 a b c)) fun y hy => ?_
      simp only [List.mem_cons, List.not_mem_nil, or_false] at hy
      rcases hy with rfl | rfl | rfl
      · exact ⟨l1, rfl⟩
      · exact ⟨l2, t1.symm⟩
      · exact ⟨l3, (t1.trans t2).symm⟩
    · exact lcp3_max _ _ _ _ a2 b2 c2 (a1.trans b1.symm) (b1.trans c1.symm)
  exact ⟨e, by rw [e]; exact a1.symm⟩
noncomputable def TurnE (h₀ : Heap) (L : Addr) (xi xv : Str) (m : Str → Option Value) (news : List (Addr × Obj)) (Jn : Prop) (s : Shared) (Q : Flow → Shared → Prop) (fl : Flow) (s' : Shared) : Prop :=
  match fl with
  | .ret v => Q (.ret v) s'
  | .brk => Q .next s'
  | _ => ∃ h' tk' m', s' = { s with heap := h', toks := tk' } ∧ Fr h₀ L h' m' ∧ (∀ z, z ≠ xi → z ≠ xv → m' z = m z) ∧ News h₀ L h' news ∧ Jn

noncomputable abbrev enumObj (it : Addr) (i : Int) (old : Value) : Obj := { cls := .type "enumerate", dict := none, data := .fields #[.none, .bool false, .ref it, rawInt i, .none, old], slots := #[] }
theorem listIter_obj {h : Heap} {it l : Addr} {i : Nat} (x : h.IsListIter it l i) : ∃ o, h.get? it = some o ∧ o.cls = .type "list_iterator" ∧ o.data = .fields #[.ref l, .int i 0] := x

section
variable {prog : Program} {w : World} {A : Around} {E : Value → Shared → Prop} {s : Shared} {env : Env} {h₀ : Heap}

theorem enum_loop {R : Result → Shared → Prop} {xi xv : Str} {pi pv pt : Pos} {x1} {body : List Stmt} {e it l : Addr} {lo : Obj} {n : Nat} {vs : List Value} {ys : List Str} {m : Str → Option Value} {news : List (Addr × Obj)}
    (hh : A.handled = none) (hxi : env.kindOf xi = some .local) (hxv : env.kindOf xv = some .local)
    (hp : (env.scope.kind == .class || (env.scope.kind == .module && env.locals != env.globals)) = false)
    (hei : e ≠ it) (heL : e ≠ env.locals) (hiL : it ≠ env.locals) (he0 : h₀.get? e = none) (hi0 : h₀.get? it = none) (hne : ∀ p ∈ news, p.1 ≠ e ∧ p.1 ≠ it)
    (hl : (l, lo) ∈ news ∨ h₀.get? l = some lo) (hc : lo.cls = .type "list") (hd : lo.data = .seq vs.toArray n) (hs : StrsAre vs ys)
    (he : IsEnum s.heap e it 0 .none) (hit : s.heap.IsListIter it l 0) (F : Fr h₀ env.locals s.heap m) (N : News h₀ env.locals s.heap news)
    (J : Nat → Prop) (h0 : J 0)
    (step : ∀ i y t ti h tk oe oi, ys[i]? = some y → J i → AllNe e news → AllNe it news → Fr h₀ env.locals h (fun z => if z = xv then some (.str y t) else if z = xi then some (.int (i : Nat) ti) else m z) → News h₀ env.locals h (news ++ [(e, oe), (it, oi)]) →
      wpAny (model prog w) A (execs body env) (TurnE h₀ env.locals xi xv m (news ++ [(e, oe), (it, oi)]) (J (i + 1)) { s with heap := h, toks := tk } (fun fl s' => R (.ok fl) s')) (notedBy (model prog w) A env fun e s' => R (.error e) s') { s with heap := h, toks := tk })
    (hR : ∀ h' tk m', Fr h₀ env.locals h' m' → (∀ z, z ≠ xi → z ≠ xv → m' z = m z) → News h₀ env.locals h' news → J ys.length → R (.ok .next) { s with heap := h', toks := tk }) :
    codeAny (model prog w) A (.forLoop (.Tuple [.Name xi pi, .Name xv pv] x1 pt) (.ref e) body [] env) R s := by
  have hlen := strsAre_len hs
  have hlL : l ≠ env.locals := by
    rcases hl with h | h
    · exact (N _ h).2.1
    · exact fun q => absurd (Heap.lt_size h) (Nat.not_lt.mpr (q ▸ F.above))
  have hle : l ≠ e := by
    rcases hl with h | h
    · exact (hne _ h).1
    · exact fun q => by rw [q, he0] at h; cases h
  have hli : l ≠ it := by
    rcases hl with h | h
    · exact (hne _ h).2
    · exact fun q => by rw [q, hi0] at h; cases h
  refine codeAny_forLoop_any
    (fun k s' => ∃ h' tk m' i old, s' = { s with heap := h', toks := tk } ∧ IsEnum h' e it ((i : Nat) : Int) old ∧ h'.IsListIter it l i ∧ Fr h₀ env.locals h' m' ∧ News h₀ env.locals h' news ∧ (∀ z, z ≠ xi → z ≠ xv → m' z = m z) ∧ J i ∧ i ≤ ys.length ∧
      k = ys.length + 1 - i) ?_ (ys.length + 1) ⟨s.heap, s.toks, m, 0, .none, rfl, he, hit, F, N, fun _ _ _ => rfl, h0, Nat.zero_le _, rfl⟩
  intro k s' zz; refine foldP ?_; intro Gz; obtain ⟨H, tk, m', i, old, rfl, he', hit', F', N', hm, hJ, hi, rfl⟩ := zz
  have hol : H.get? l = some lo := hl.elim (fun h => (N' _ h).1) fun h => F'.keep _ _ h
  have hl' : H.IsList l vs.toArray := ⟨lo, hol, hc, n, hd⟩
  cases hv : ys[i]? with
  | none =>
    have hsz : i = ys.length := Nat.le_antisymm hi (by simpa using hv)
    have hv' : vs.toArray[i]? = none := by simp; omega
    (try k_unfold)
    refine wpAny_pyNext_enum_end hh he' hit' hl' hv' fun h₁ he₁ => wpAny_execs_nil ?_
    refine hR h₁ tk m' ⟨F'.ns.extBut he₁ (Ne.symm hiL), fun b o e => he₁ b o (fun q => by rw [q, hi0] at e; cases e) (F'.keep b o e), F'.above⟩ hm (fun p hp => ⟨he₁ _ _ (hne p hp).2 (N' p hp).1, (N' p hp).2⟩) (hsz ▸ hJ)
  | some y =>
    obtain ⟨hlt, hy⟩ := List.getElem?_eq_some_iff.mp hv
    obtain ⟨y', t, hvv, hyy⟩ := strsAre_get hs i vs[i] (by simp [hlen, hlt])
    have ey : y' = y := by rw [hyy] at hv; exact Option.some.inj hv
    subst ey
    have hv' : vs.toArray[i]? = some (.str y' t) := by simp [hlen, hlt, hvv]
    have heH : e < H.objs.size := Heap.lt_size he'
    have hLH : env.locals < H.objs.size := F'.ns.lt
    obtain ⟨oi, hoi, _⟩ := id hit'
    have hiH : it < H.objs.size := Heap.lt_size hoi
    (try k_unfold)
    refine wpAny_pyNext_enum_item he' hit' hl' hv' hei fun h₁ heo hit₁ ht₁ hz₁ hk₁ => ?_
    refine wpAny_letOwnedTupleGo_enum heo fun h₂ he₂ hs₂ => ?_
    replace hs₂ : Heap.SameBut e h₁ h₂ := hs₂
    have ht₂ : h₂.IsTuple H.objs.size #[.int i tk, .str y' t] := ⟨_, (hs₂.2 _ (Nat.ne_of_gt heH)).trans ht₁, rfl, _, rfl⟩
    have hz₂ : h₂.objs.size = H.objs.size + 1 := hs₂.1.trans hz₁
    refine wpAny_assign_Tuple hh ht₂ rfl rfl fun h₃ hx₃ => ?_
    replace hx₃ : Heap.ExtBut h₂.objs.size h₂ h₃ := hx₃
    have old₃ : ∀ b o, b < H.objs.size → h₂.get? b = some o → h₃.get? b = some o := fun b o hb x => hx₃ b o (by rw [hz₂]; exact Nat.ne_of_lt (Nat.lt_succ_of_lt hb)) x
    -- what stays up to h₃
    have up₃ : ∀ b o, b ≠ e → b ≠ it → H.get? b = some o → h₃.get? b = some o := fun b o q1 q2 x => old₃ b o (Heap.lt_size x) ((hs₂.2 b q1).trans (hk₁ b o q1 q2 x))
    have F₃ : Fr h₀ env.locals h₃ m' := ⟨F'.ns.at' fun o x => up₃ _ o (Ne.symm heL) (Ne.symm hiL) x, fun b o x => up₃ b o (fun q => by rw [q, he0] at x; cases x) (fun q => by rw [q, hi0] at x; cases x) (F'.keep b o x), F'.above⟩
    have N₃ : News h₀ env.locals h₃ news := fun p hp => ⟨up₃ _ _ (hne p hp).1 (hne p hp).2 (N' p hp).1, (N' p hp).2⟩
    have he₃ : h₃.get? e = some (enumObj it ((i : Int) + 1) (.str y' t)) := old₃ e _ heH he₂
    have hit₂ : h₂.IsListIter it l (i + 1) := hit₁.extBut hs₂.extBut (Ne.symm hei)
    refine foldP ?_; intro Gy
    obtain ⟨oi, hoi, ci, di⟩ := hit₂
    have hi₃ := old₃ it _ hiH hoi
    (try k_unfold)
    show wpAny _ A (do holding [Value.str y' t] (assign (.Name xi pi) env (.int i tk)); do holding [] (assign (.Name xv pv) env (.str y' t)); pure ()) _ _ _
    refine wpAny_bind (wpAny_holding (wpAny_assign_Name (wpAny_storeName_local hxi F₃.ns (fun h₄ hn₄ hs₄ => ?_) hp)))
    replace hs₄ : Heap.SameBut env.locals h₃ h₄ := hs₄
    refine wpAny_bind (wpAny_holding (wpAny_assign_Name (wpAny_storeName_local hxv hn₄ (fun h₅ hn₅ hs₅ => wpAny_pure ?_) hp)))
    replace hs₅ : Heap.SameBut env.locals h₄ h₅ := hs₅
    have F₅ := (F₃.set hn₄ hs₄).set hn₅ hs₅
    have em : (fun z => if z = xv then some (Value.str y' t) else if z = xi then some (Value.int i tk) else m' z) = fun z => if z = xv then some (Value.str y' t) else if z = xi then some (Value.int i tk) else m z := by
      funext z
      split
      · rfl
      · split
        · rfl
        · rename_i q1 q2; exact hm z q2 q1
    rw [em] at F₅
    have N₅ : News h₀ env.locals h₅ (news ++ [(e, enumObj it ((i : Int) + 1) (.str y' t)), (it, oi)]) := by
      intro p hp
      rcases List.mem_append.mp hp with h | h
      · exact (N₃.set hs₄).set hs₅ p h
      · rcases List.mem_cons.mp h with rfl | h
        · exact ⟨(hs₅.2 _ heL).trans ((hs₄.2 _ heL).trans he₃), heL, he0⟩
        · rw [List.mem_singleton.mp h]; exact ⟨(hs₅.2 _ hiL).trans ((hs₄.2 _ hiL).trans hi₃), hiL, hi0⟩
    refine wpAny_mono (step i y' t tk h₅ _ (enumObj it ((i : Int) + 1) (.str y' t)) oi hv hJ (allNe_of fun p hp => (hne p hp).1) (allNe_of fun p hp => (hne p hp).2) F₅ N₅) (fun f s₃ h₆ => ?_) fun _ _ x => x
    have fin : (∃ h' tk' m', s₃ = { s with heap := h', toks := tk' } ∧ Fr h₀ env.locals h' m' ∧ (∀ z, z ≠ xi → z ≠ xv → m' z = m z) ∧ News h₀ env.locals h' (news ++ [(e, enumObj it ((i : Int) + 1) (.str y' t)), (it, oi)]) ∧ J (i + 1)) → ∃ k, k < ys.length + 1 - i ∧ ∃ h' tk m' i old, s₃ = { s with heap := h', toks := tk } ∧ IsEnum h' e it ((i : Nat) : Int) old ∧ h'.IsListIter it l i ∧ Fr h₀ env.locals h' m' ∧ News h₀ env.locals h' news ∧ (∀ z, z ≠ xi → z ≠ xv → m' z = m z) ∧ J i ∧ i ≤ ys.length ∧
        k = ys.length + 1 - i := by
      rintro ⟨h₆, tk₆, m₆, e6, F₆, hm₆, N₆, hJ₆⟩
      refine ⟨ys.length + 1 - (i + 1), by omega, h₆, tk₆, m₆, i + 1, .str y' t, e6, ?_, ⟨oi, (N₆ _ (List.mem_append_right _ (.tail _ (.head _)))).1, ci, di⟩, F₆, fun p hp => N₆ p (List.mem_append_left _ hp), hm₆, hJ₆, hlt, rfl⟩
      have c : ((i + 1 : Nat) : Int) = (i : Int) + 1 := by push_cast; rfl
      rw [c]
      exact (N₆ _ (List.mem_append_right _ (.head _))).1
    cases f with
    | ret v => exact h₆
    | brk => exact h₆
    | next => exact fin h₆
    | cont => exact fin h₆

theorem for_enum {Q : Flow → Shared → Prop} {xi xv : Str} {pi pv pt pos : Pos} {x1} {iter : Expr} {body : List Stmt} {l : Addr} {lo : Obj} {n : Nat} {vs : List Value} {ys : List Str} {m : Str → Option Value} {news : List (Addr × Obj)}
    (J : Nat → Prop) (F : Fr h₀ env.locals s.heap m) (N : News h₀ env.locals s.heap news)
    (hl : (l, lo) ∈ news ∨ h₀.get? l = some lo) (hc : lo.cls = .type "list") (hd : lo.data = .seq vs.toArray n) (hs : StrsAre vs ys) (h0 : J 0)
    (step : ∀ i y t ti h tk e oe it oi, ys[i]? = some y → J i → AllNe e news → AllNe it news → Fr h₀ env.locals h (fun z => if z = xv then some (.str y t) else if z = xi then some (.int (i : Nat) ti) else m z) → News h₀ env.locals h (news ++ [(e, oe), (it, oi)]) →
      wpAny (model prog w) A (execs body env) (TurnE h₀ env.locals xi xv m (news ++ [(e, oe), (it, oi)]) (J (i + 1)) { s with heap := h, toks := tk } Q) E { s with heap := h, toks := tk })
    (done : ∀ h' tk (u : Str → Option Value), Fr h₀ env.locals h' (fun z => if z = xv then u z else if z = xi then u z else m z) → News h₀ env.locals h' news → J ys.length → Q .next { s with heap := h', toks := tk })
    (hh : A.handled = none) (hxi : env.kindOf xi = some .local) (hxv : env.kindOf xv = some .local)
    (hp : (env.scope.kind == .class || (env.scope.kind == .module && env.locals != env.globals)) = false) (hE : PassesOwn (model prog w) A env E)
    (hen : ∀ (Q' : Value → Shared → Prop), wpAny (model prog w) A (call (.type "enumerate") [.ref l]) Q' E s → wpAny (model prog w) A (eval iter env) Q' E s)
    (hset : ∀ x, foldedSetIterable iter env x = pure x) :
    wpAny (model prog w) A (exec (.For (.Tuple [.Name xi pi, .Name xv pv] x1 pt) iter body [] pos) env) Q E s := by
  have hol : s.heap.get? l = some lo := hl.elim (fun h => (N _ h).1) fun h => F.keep _ _ h
  refine wpAny_For (hen _ (call_enumerate_list ⟨lo, hol, hc, n, hd⟩ fun h' he hit hz hk => ?_)) hset
  have fresh : ∀ b, s.heap.objs.size ≤ b → h₀.get? b = none := fun b hb => by
    cases q : h₀.get? b with
    | none => rfl
    | some o => exact absurd (Heap.lt_size (F.keep _ _ q)) (Nat.not_lt.mpr hb)
  have F' : Fr h₀ env.locals h' m := F.grownK hk
  have N' : News h₀ env.locals h' news := N.grown hk
  refine wpAny_pyIter_enum he ?_
  refine enum_loop (R := fun r s' => match r with | .ok f => Q f s' | .error e => cameBackBy (model prog w) A env E e s') hh hxi hxv hp (Nat.succ_ne_self _) (Nat.ne_of_gt (Nat.lt_succ_of_lt F.ns.lt)) (Nat.ne_of_gt F.ns.lt)
    (fresh _ (Nat.le_succ _)) (fresh _ (Nat.le_refl _)) (fun p hp => ?_) hl hc hd hs he hit F' N' J h0 ?_ ?_
  · have := Heap.lt_size (N p hp).1
    exact ⟨Nat.ne_of_lt (Nat.lt_succ_of_lt this), Nat.ne_of_lt this⟩
  · intro i y t ti h tk oe oi hy hJ h1 h2 F₁ N₁
    exact wpAny_passesOwn hE (step i y t ti h tk _ oe _ oi hy hJ h1 h2 F₁ N₁)
  · intro h' tk m' F'' hm N'' hJ
    have e : m' = fun z => if z = xv then m' z else if z = xi then m' z else m z := by
      funext z
      split
      · rfl
      · split
        · rfl
        · rename_i q1 q2; exact hm z q2 q1
    rw [e] at F''
    exact done h' tk m' F'' N'' hJ
end
section
variable {prog : Program} {w : World} {A : Around} {E : Value → Shared → Prop} {s : Shared} {D : Addr} {lo : Obj} {its : Array Value} {n : Nat} {ys : List Str}
theorem truthyG {Q : Bool → Shared → Prop} (ho : s.heap.get? D = some lo) (hc : lo.cls = .type "list") (hd : lo.data = .seq its n) (hz : its.size ≤ 1048576) {b : Bool} (hb : (!its.isEmpty) = b)
    (h : Q b { s with toks := s.toks + 1 + 1 }) : wpAny (model prog w) A (truthy (.ref D)) Q E s :=
  wpAny_truthy_list ⟨lo, ho, hc, n, hd⟩ (by lia) (hb ▸ h)
theorem itemG {value slice : Expr} {k : Int} {u : Tok} {v : Value} {Q : Value → Shared → Prop} (ho : s.heap.get? D = some lo) (hc : lo.cls = .type "list") (hd : lo.data = .seq its n) (h0 : 0 ≤ k) (hk : k < 2 ^ 63) (hx : its[k.toNat]? = some v) (h : Q v s)
    (hsub : subscripted slice false (.ref D) (.int k u) = operate [.ref D, .int k u] (getItem (.ref D) (.int k u)) := by with_unfolding_all rfl) :
    wpAny (model prog w) A (subscriptTail value slice (.ref D) (.int k u)) Q E s :=
  have hl : s.heap.IsList D its := ⟨lo, ho, hc, n, hd⟩
  tail_any hl.typeIs slot_list_getitem.lookup (wpAny_getItem_list hl h0 hk hx h) hsub
theorem itemSG {value slice : Expr} {j : Nat} {u : Tok} {y : Str} {Q : Value → Shared → Prop} (ho : s.heap.get? D = some lo) (hc : lo.cls = .type "list") (hd : lo.data = .seq its n) (hs : StrsAre its.toList ys) (hy : ys[j]? = some y) (hz : ys.length ≤ 1048576) (h : ∀ t, Q (.str y t) s)
    (hsub : subscripted slice false (.ref D) (.int (j : Nat) u) = operate [.ref D, .int (j : Nat) u] (getItem (.ref D) (.int (j : Nat) u)) := by with_unfolding_all rfl) :
    wpAny (model prog w) A (subscriptTail value slice (.ref D) (.int (j : Nat) u)) Q E s := by
  obtain ⟨hlt, hyy⟩ := List.getElem?_eq_some_iff.mp hy
  have hlen := strsAre_len hs
  have hlt' : j < its.toList.length := by lia
  obtain ⟨y', t, e1, e2⟩ := strsAre_get hs j its.toList[j] (List.getElem?_eq_getElem hlt')
  have : y' = y := by rw [e2] at hy; exact Option.some.inj hy
  subst this
  refine itemG ho hc hd (by lia) (by lia) ?_ (h t) hsub
  rw [Int.toNat_natCast, ← Array.getElem?_toList, List.getElem?_eq_getElem hlt', e1]
end
section
variable {prog : Program} {w : World} {A : Around} {E : Value → Shared → Prop} {s : Shared} {h₀ : Heap} {L : Addr} {m : Str → Option Value} {news : List (Addr × Obj)}
theorem strsAre_take {vs : List Value} {ys : List Str} (h : StrsAre vs ys) : ∀ k, StrsAre (vs.take k) (ys.take k) := by
  induction h with
  | nil => intro k; simp; exact .nil
  | cons y t _ ih => intro k; cases k with
    | zero => exact .nil
    | succ k => exact .cons y t (ih k)
theorem strsAre_dropk {vs : List Value} {ys : List Str} (h : StrsAre vs ys) : ∀ k, StrsAre (vs.drop k) (ys.drop k) := by
  induction h with
  | nil => intro k; simp; exact .nil
  | cons y t r ih => intro k; cases k with
    | zero => exact .cons y t r
    | succ k => exact ih k
theorem sliceTo {value slice : Expr} {l : Addr} {lo : Obj} {its : Array Value} {n j : Nat} {u : Tok} {Q : Value → Shared → Prop}
    (F : Fr h₀ L s.heap m) (N : News h₀ L s.heap news) (ho : s.heap.get? l = some lo) (hc : lo.cls = .type "list") (hd : lo.data = .seq its n) (hz : its.size ≤ 1048576)
    (h : ∀ l' h', Fr h₀ L h' m → News h₀ L h' ((l', W.listOf (its.toList.take j).toArray 0) :: news) → (∀ p ∈ news, p.1 < l') → Q (.ref l') { s with heap := h' })
    (hs : subscripted slice false (.ref l) (.ref s.heap.objs.size) = operate [.ref s.heap.objs.size, .ref l] (getItem (.ref l) (.ref s.heap.objs.size)) := by with_unfolding_all rfl)
    (ht : ∀ r, letTemporaryGo value (.ref l) r = pure () := by intro _; with_unfolding_all rfl) :
    wpAny (model prog w) A (subscriptTail value slice (.ref l) (.ref s.heap.objs.size)) Q E { s with heap := s.heap.push { cls := .type "slice", data := .fields #[.none, .int (j : Nat) u, .none] } } :=
  slice_list F N ⟨lo, ho, hc, n, hd⟩ .none (.int _ _) (fun h' F' N' => h _ h' F' (by rw [slicePick_upto'] at N'; exact N') (fun p hp => Nat.lt_succ_of_lt (Heap.lt_size (N p hp).1))) hs ht (by rw [sizeLine_eq]; lia)
theorem sliceFrom {value slice : Expr} {l : Addr} {lo : Obj} {its : Array Value} {n j : Nat} {u : Tok} {Q : Value → Shared → Prop}
    (F : Fr h₀ L s.heap m) (N : News h₀ L s.heap news) (ho : s.heap.get? l = some lo) (hc : lo.cls = .type "list") (hd : lo.data = .seq its n) (hz : its.size ≤ 1048576)
    (h : ∀ l' h', Fr h₀ L h' m → News h₀ L h' ((l', W.listOf (its.toList.drop j).toArray 0) :: news) → (∀ p ∈ news, p.1 < l') → Q (.ref l') { s with heap := h' })
    (hs : subscripted slice false (.ref l) (.ref s.heap.objs.size) = operate [.ref s.heap.objs.size, .ref l] (getItem (.ref l) (.ref s.heap.objs.size)) := by with_unfolding_all rfl)
    (ht : ∀ r, letTemporaryGo value (.ref l) r = pure () := by intro _; with_unfolding_all rfl) :
    wpAny (model prog w) A (subscriptTail value slice (.ref l) (.ref s.heap.objs.size)) Q E { s with heap := s.heap.push { cls := .type "slice", data := .fields #[.int (j : Nat) u, .none, .none] } } :=
  slice_list F N ⟨lo, ho, hc, n, hd⟩ (.int _ _) .none (fun h' F' N' => h _ h' F' (by rw [slicePick_from'] at N'; exact N') (fun p hp => Nat.lt_succ_of_lt (Heap.lt_size (N p hp).1))) hs ht (by rw [sizeLine_eq]; lia)
end
section
variable {prog : Program} {w : World} {A : Around} {E : Value → Shared → Prop}
theorem isi_list_list : isSubtype (.type "list") (.type "list") = pure true := by rw [qS]; kernel_rfl
theorem isi_tlist : typeOf (.type "list") = pure (.type "type") := by kernel_rfl
theorem call_isin_list {s : Shared} {Q : Value → Shared → Prop} {x : Addr} {dep : Int} (hx : s.TypeIs (.ref x) "list") (h : Q (.bool true) s) :
    wpAny (model prog w) A (call (.builtin "isinstance.nested") [.ref x, .type "list", rawInt dep]) Q E s :=
  Calls.call_function_entry PySem.F.kind_isinstance_nested PySem.F.plain_isinstance_nested PySem.F.entry_isinstance_nested (PySem.F.args_isinstance_nested_3 _ _ _) (isinstance_nested_true rfl hx isi_tlist isi_list_list ⟨_, rfl, h⟩)
theorem isin_list_tuple {s : Shared} {Q : Fin → Shared → Prop} {x tp : Addr} {tk : Tok} {n : Nat} {d : Option Addr} {sl} (hx : s.TypeIs (.ref x) "list") (ht : s.heap.get? tp = some ⟨.type "tuple", d, .seq #[.type "list", .type "tuple"] n, sl⟩) (h : Q (.done (.ret (.bool true))) s) :
    wpAny (model prog w) A (Builtin.«isinstance.nested» ⟨[.ref x, .ref tp, .int 0 tk], []⟩) Q E s := by
  obtain ⟨hh, g, d, tt, os⟩ := s
  unfold Builtin.«isinstance.nested»
  have hT2 : (⟨hh, g, d, tt, os⟩ : Shared).TypeIs (.ref tp) "tuple" := ⟨_, ht, rfl⟩
  have f1 := PySem.F.isi_sub_tuple
  repeat (any_goals (first | assumption | refine call_isin_list (by assumption) ?_ | wp_step))
theorem call_isi_list {s : Shared} {Q : Value → Shared → Prop} {x tp : Addr} {n : Nat} {d : Option Addr} {sl} {lo : Obj} (ho : s.heap.get? x = some lo) (hc : lo.cls = .type "list") (ht : s.heap.get? tp = some ⟨.type "tuple", d, .seq #[.type "list", .type "tuple"] n, sl⟩) (h : Q (.bool true) s) :
    wpAny (model prog w) A (call (.builtin "isinstance") [.ref x, .ref tp]) Q E s :=
  call_isinstance (S := fun _ R s => (s.TypeIs (.ref x) "list" ∧ s.heap.get? tp = some ⟨.type "tuple", d, .seq #[.type "list", .type "tuple"] n, sl⟩) ∧ R (.ok (.ret (.bool true))) s)
    (fun _ _ _ _ _ hs => isinstance_outer (isin_list_tuple hs.1.1 hs.1.2 hs.2) (by intro e; cases e)) ⟨⟨⟨lo, ho, hc⟩, ht⟩, h⟩
end
section
variable {prog : Program} {w : World} {A : Around} {E : Value → Shared → Prop} {s : Shared} {h₀ : Heap} {L : Addr} {m : Str → Option Value} {news : List (Addr × Obj)}
theorem lenK {D : Addr} {lo : Obj} {its : Array Value} {n k : Nat} {Q : Value → Shared → Prop} (ho : s.heap.get? D = some lo) (hc : lo.cls = .type "list") (hd : lo.data = .seq its n) (hk : its.size = k) (hz : k ≤ 1048576)
    (h : ∀ t k', Q (.int (k : Nat) t) { s with toks := k' }) : wpAny (model prog w) A (call (.builtin "len") [.ref D]) Q E s :=
  len_list ⟨lo, ho, hc, n, hd⟩ (by lia) (hk ▸ h _ _)
theorem lenS {D : Addr} {lo : Obj} {its : Array Value} {n : Nat} {ys : List Str} {Q : Value → Shared → Prop} (ho : s.heap.get? D = some lo) (hc : lo.cls = .type "list") (hd : lo.data = .seq its n) (hs : StrsAre its.toList ys) (hz : ys.length ≤ 1048576)
    (h : ∀ t k', Q (.int (ys.length : Nat) t) { s with toks := k' }) : wpAny (model prog w) A (call (.builtin "len") [.ref D]) Q E s :=
  lenK ho hc hd (by have := strsAre_len hs; simpa using this) hz h
theorem strsAre_rep (y : Str) (t : Tok) : ∀ k, StrsAre (List.replicate k (.str y t)) (List.replicate k y)
  | 0 => .nil
  | k + 1 => .cons y t (strsAre_rep y t k)
theorem rep_flat (v : Value) (k : Nat) : List.foldl (fun x1 x2 => x1 ++ x2) #[] (List.replicate k #[v]) = (List.replicate k v).toArray := by
  have : ∀ (k : Nat) (a : Array Value), List.foldl (fun x1 x2 => x1 ++ x2) a (List.replicate k #[v]) = a ++ (List.replicate k v).toArray := by
    intro k
    induction k with
    | zero => intro a; simp
    | succ k ih => intro a; rw [List.replicate_succ, List.foldl_cons, ih, List.replicate_succ]; apply Array.toList_inj.mp; simp
  rw [this]; simp
theorem mulS {l : Addr} {y : Str} {t : Tok} {k : Nat} {x : Int} {u : Tok} {Q : Value → Shared → Prop} (F : Fr h₀ L s.heap m) (N : News h₀ L s.heap news) (hm : (l, W.listOf #[.str y t] k) ∈ news) (hlo : -1048576 ≤ x) (hhi : x ≤ 1048576)
    (h : ∀ l' h', Fr h₀ L h' m → News h₀ L h' ((l', W.listOf (List.replicate x.toNat (.str y t)).toArray 0) :: news) → (∀ p ∈ news, p.1 < l') → StrsAre (List.replicate x.toNat (.str y t)).toArray.toList (List.replicate x.toNat y) → Q (.ref l') { s with heap := h' }) :
    wpAny (model prog w) A (binaryOp .Mult (.ref l) (.int x u)) Q E s :=
  mul_list F N (N _ hm).1 (by lia) (by lia) (by
      have e1 : (#[Value.str y t] : Array Value).size = 1 := rfl
      rw [e1]; lia) fun h' F' N' => h _ h' F' (by
    have e : (if (#[Value.str y t] : Array Value).isEmpty = true then 0 else x.toNat) = x.toNat := rfl
    rw [e, rep_flat] at N'; exact N') (fun p hp => Heap.lt_size (N p hp).1) (strsAre_rep y t _)
theorem addS {l b : Addr} {lo bo : Obj} {its its2 : Array Value} {n n2 : Nat} {ys zs : List Str} {Q : Value → Shared → Prop} (F : Fr h₀ L s.heap m) (N : News h₀ L s.heap news)
    (ho : s.heap.get? l = some lo) (hc : lo.cls = .type "list") (hd : lo.data = .seq its n) (hs : StrsAre its.toList ys) (ho2 : s.heap.get? b = some bo) (hc2 : bo.cls = .type "list") (hd2 : bo.data = .seq its2 n2) (hs2 : StrsAre its2.toList zs)
    (hz : ys.length + zs.length ≤ 1048576)
    (h : ∀ l' h', Fr h₀ L h' m → News h₀ L h' ((l', W.listOf (its.toList ++ its2.toList).toArray 0) :: news) → (∀ p ∈ news, p.1 < l') → StrsAre (its.toList ++ its2.toList).toArray.toList (ys ++ zs) → Q (.ref l') { s with heap := h' }) :
    wpAny (model prog w) A (binaryOp .Add (.ref l) (.ref b)) Q E s :=
  add_arrays F N ⟨lo, ho, hc, n, hd⟩ ⟨bo, ho2, hc2, n2, hd2⟩ (fun h' F' N' => h _ h' F' N' (fun p hp => Heap.lt_size (N p hp).1) (strsAre_app hs hs2)) (by
    have h1 := strsAre_len hs; have h2 := strsAre_len hs2
    simp at h1 h2; rw [sizeLine_eq]; lia)
theorem sliceToS {value slice : Expr} {l : Addr} {lo : Obj} {its : Array Value} {n j : Nat} {u : Tok} {ys : List Str} {Q : Value → Shared → Prop}
    (F : Fr h₀ L s.heap m) (N : News h₀ L s.heap news) (ho : s.heap.get? l = some lo) (hc : lo.cls = .type "list") (hd : lo.data = .seq its n) (hst : StrsAre its.toList ys) (hz : ys.length ≤ 1048576)
    (h : ∀ l' h', Fr h₀ L h' m → News h₀ L h' ((l', W.listOf (its.toList.take j).toArray 0) :: news) → (∀ p ∈ news, p.1 < l') → StrsAre (its.toList.take j).toArray.toList (ys.take j) → Q (.ref l') { s with heap := h' })
    (hs : subscripted slice false (.ref l) (.ref s.heap.objs.size) = operate [.ref s.heap.objs.size, .ref l] (getItem (.ref l) (.ref s.heap.objs.size)) := by with_unfolding_all rfl)
    (ht : ∀ r, letTemporaryGo value (.ref l) r = pure () := by intro _; with_unfolding_all rfl) :
    wpAny (model prog w) A (subscriptTail value slice (.ref l) (.ref s.heap.objs.size)) Q E { s with heap := s.heap.push { cls := .type "slice", data := .fields #[.none, .int (j : Nat) u, .none] } } :=
  sliceTo F N ho hc hd (by have := strsAre_len hst; simp at this; lia) (fun l' h' F' N' hl => h l' h' F' N' hl (strsAre_take hst j)) hs ht
theorem sliceFromS {value slice : Expr} {l : Addr} {lo : Obj} {its : Array Value} {n j : Nat} {u : Tok} {ys : List Str} {Q : Value → Shared → Prop}
    (F : Fr h₀ L s.heap m) (N : News h₀ L s.heap news) (ho : s.heap.get? l = some lo) (hc : lo.cls = .type "list") (hd : lo.data = .seq its n) (hst : StrsAre its.toList ys) (hz : ys.length ≤ 1048576)
    (h : ∀ l' h', Fr h₀ L h' m → News h₀ L h' ((l', W.listOf (its.toList.drop j).toArray 0) :: news) → (∀ p ∈ news, p.1 < l') → StrsAre (its.toList.drop j).toArray.toList (ys.drop j) → Q (.ref l') { s with heap := h' })
    (hs : subscripted slice false (.ref l) (.ref s.heap.objs.size) = operate [.ref s.heap.objs.size, .ref l] (getItem (.ref l) (.ref s.heap.objs.size)) := by with_unfolding_all rfl)
    (ht : ∀ r, letTemporaryGo value (.ref l) r = pure () := by intro _; with_unfolding_all rfl) :
    wpAny (model prog w) A (subscriptTail value slice (.ref l) (.ref s.heap.objs.size)) Q E { s with heap := s.heap.push { cls := .type "slice", data := .fields #[.int (j : Nat) u, .none, .none] } } :=
  sliceFrom F N ho hc hd (by have := strsAre_len hst; simp at this; lia) (fun l' h' F' N' hl => h l' h' F' N' hl (strsAre_dropk hst j)) hs ht
theorem sliceToSE {od : Data} {nm : Str} {pn ps : Pos} {sl e0 : Expr} {l : Addr} {lo : Obj} {its : Array Value} {n j : Nat} {u : Tok} {ys : List Str} {Q : Value → Shared → Prop}
    (hsl : sl = .Slice none (some e0) none ps) (hod : od = .fields #[.none, .int (j : Nat) u, .none]) (F : Fr h₀ L s.heap m) (N : News h₀ L s.heap news) (ho : s.heap.get? l = some lo) (hc : lo.cls = .type "list") (hd : lo.data = .seq its n) (hst : StrsAre its.toList ys) (hz : ys.length ≤ 1048576)
    (h : ∀ l' h', Fr h₀ L h' m → News h₀ L h' ((l', W.listOf (its.toList.take j).toArray 0) :: news) → (∀ p ∈ news, p.1 < l') → StrsAre (its.toList.take j).toArray.toList (ys.take j) → Q (.ref l') { s with heap := h' }) :
    wpAny (model prog w) A (subscriptTail (.Name nm pn) sl (.ref l) (.ref s.heap.objs.size)) Q E { s with heap := s.heap.push { cls := .type "slice", data := od } } := by
  subst hsl hod; exact sliceToS F N ho hc hd hst hz h (by with_unfolding_all rfl) (by intro _; with_unfolding_all rfl)
theorem sliceFromSE {od : Data} {nm : Str} {pn ps : Pos} {sl e0 : Expr} {l : Addr} {lo : Obj} {its : Array Value} {n j : Nat} {u : Tok} {ys : List Str} {Q : Value → Shared → Prop}
    (hsl : sl = .Slice (some e0) none none ps) (hod : od = .fields #[.int (j : Nat) u, .none, .none]) (F : Fr h₀ L s.heap m) (N : News h₀ L s.heap news) (ho : s.heap.get? l = some lo) (hc : lo.cls = .type "list") (hd : lo.data = .seq its n) (hst : StrsAre its.toList ys) (hz : ys.length ≤ 1048576)
    (h : ∀ l' h', Fr h₀ L h' m → News h₀ L h' ((l', W.listOf (its.toList.drop j).toArray 0) :: news) → (∀ p ∈ news, p.1 < l') → StrsAre (its.toList.drop j).toArray.toList (ys.drop j) → Q (.ref l') { s with heap := h' }) :
    wpAny (model prog w) A (subscriptTail (.Name nm pn) sl (.ref l) (.ref s.heap.objs.size)) Q E { s with heap := s.heap.push { cls := .type "slice", data := od } } := by
  subst hsl hod; exact sliceFromS F N ho hc hd hst hz h (by with_unfolding_all rfl) (by intro _; with_unfolding_all rfl)
end
theorem split_small {x y : Str} (hy : 1 ≤ y.length) : (Txt.split x y).length ≤ x.length + 1 := by
  have := split_weight x y hy; lia
theorem splitS {prog : Program} {w : World} {A : Around} {E : Value → Shared → Prop} {s : Shared} {h₀ : Heap} {L : Addr} {m : Str → Option Value} {news : List (Addr × Obj)} {x y : Str} {t u : Tok} {Q : Value → Shared → Prop} (F : Fr h₀ L s.heap m) (N : News h₀ L s.heap news) (hy : (y.length == 0) = false) (hz : x.length ≤ 1048576)
    (h : ∀ l' (vs : List Value) h' k, StrsAre vs (Txt.split x y) → ((Txt.split x y).map (·.length)).sum + (Txt.split x y).length ≤ x.length + 1 → (∀ p ∈ news, p.1 < l') → Fr h₀ L h' m → News h₀ L h' ((l', W.listOf vs.toArray 0) :: news) → Q (.ref l') { s with heap := h', toks := k }) :
    wpAny (model prog w) A (call (.builtin "str.split") [.str x t, .str y u]) Q E s :=
  splitN1A F N hy (fun l h' k e hs _ _ F' N' => h _ (strValues l) h' k (e ▸ hs) (split_weight x y (by simp at hy; lia)) (fun p hp => Heap.lt_size (N p hp).1) F' N') (by rw [sizeLine_eq]; lia)
theorem sum_drop (zs : List Str) (k : Nat) : ((zs.drop k).map (·.length)).sum + (zs.drop k).length ≤ (zs.map (·.length)).sum + zs.length := by
  have h := List.take_append_drop k zs
  have h2 := congrArg (fun l : List Str => (l.map (·.length)).sum + l.length) h
  simp only [List.map_append, List.sum_append, List.length_append] at h2
  lia
theorem sum_rep (a : Str) : ∀ n : Nat, ((List.replicate n a).map (·.length)).sum = n * a.length
  | 0 => by simp
  | n + 1 => by simp [List.replicate_succ, sum_rep a n, Nat.succ_mul]; lia
theorem joinRel {n k : Nat} {zs : List Str} (hn : n ≤ 70000) (hw : (zs.map (·.length)).sum + zs.length ≤ 70000) :
    ((List.replicate n (Str.ofString "..") ++ zs.drop k).map (·.length)).sum + (List.replicate n (Str.ofString "..") ++ zs.drop k).length * (Str.ofString "/").length ≤ 16777216 := by
  have h1 := sum_drop zs k
  have h2 : (Str.ofString "..").length = 2 := by decide
  have h3 : (Str.ofString "/").length = 1 := by decide
  rw [List.map_append, List.sum_append, sum_rep, List.length_append, List.length_replicate, h2, h3]
  lia
noncomputable def pieces (T : Str) : List Str := if (T.length : Int) = 0 then [] else Txt.split T "/"
theorem pieces_sum (T : Str) : ((pieces T).map (·.length)).sum + (pieces T).length ≤ T.length + 1 := by
  unfold pieces; split
  · simp
  · exact split_weight T "/" (by decide)
noncomputable def Pieces (h₀ : Heap) (L : Addr) (m : Str → Option Value) (news : List (Addr × Obj)) (s : Shared) (T : Str) (v : Value) (s' : Shared) : Prop :=
  ∃ l' vs h' k, v = .ref l' ∧ s' = { s with heap := h', toks := k } ∧ Fr h₀ L h' m ∧ News h₀ L h' ((l', W.listOf vs 0) :: news) ∧ W.AllLt l' news ∧ StrsAre vs.toList (pieces T)
theorem pieces_mid {M : Model} {A : Around} {E : Value → Shared → Prop} {s : Shared} {h₀ : Heap} {L : Addr} {m : Str → Option Value} {news : List (Addr × Obj)} {t : Sem Value} {Q : Value → Shared → Prop} (T : Str)
    (F : Fr h₀ L s.heap m) (N : News h₀ L s.heap news) (h1 : wpAny M A t (Pieces h₀ L m news s T) E s)
    (h2 : ∀ l' vs h' k, Fr h₀ L h' m → News h₀ L h' ((l', W.listOf vs 0) :: news) → W.AllLt l' news → StrsAre vs.toList (pieces T) → ((pieces T).map (·.length)).sum + (pieces T).length ≤ T.length + 1 → Q (.ref l') { s with heap := h', toks := k }) : wpAny M A t Q E s :=
  wpAny_mono h1 (fun _ _ z => by obtain ⟨l', vs, h', k, e1, e2, F', N', hl, hs⟩ := z; subst e1 e2; exact h2 l' vs h' k F' N' hl hs (pieces_sum T)) fun _ _ x => x
theorem useGB {w : World} {d : Nat} {f : Addr} {vs : List Value} {x : Str} (c : Claim w d f vs (fun _ => True) (fun _ v _ => ∃ t, v = .str x t)) {b : Nat} (hb : x.length ≤ b)
    {dp un : Nat} {gd : Option (List Code)} {cn : Str} {cs : Scope} {a : Addr} {ccd : Value} {cl : List (Str × Addr)} {outer : List Env} {A₀ : Around} {base h₀ : Heap} {L : Addr} {m : Str → Option Value}
    {p : Program} {loose : List Str} {mean : ExcName → Option Value} {mg mb : Str → Option Value} {s : Shared} {news : List (Addr × Obj)} {Q E : Value → Shared → Prop}
    (B : Below A₀ base outer h₀) (F : Fr h₀ L s.heap m) (X : (Mine.K w.params).In h₀) (N : News h₀ L s.heap news) (T : Top p loose mean mg mb h₀) (hk : cs.kind = .function)
    (hd : dp + d < recursionLimit) (hu : un + 8 * d < cLine)
    (h : ∀ t h' tk', Fr h₀ L h' m → News h₀ L h' news → Grow s.heap h' → x.length ≤ b → Q (.str x t) { s with heap := h', toks := tk' }) :
    wpAny (model PySem.Challenge.rw_in0312_01.row.prog w) (ktrTop dp un gd cn cs L a ccd cl outer) (call (.ref f) vs) Q E s :=
  use c B F X N T hk trivial hd hu fun v h' tk' F' N' g hv => by obtain ⟨t, rfl⟩ := hv; exact h t h' tk' F' N' g hb

theorem lc_noTests {M : Model} {A : Around} {E : Value → Shared → Prop} {s : Shared} {f : Expr → Bool → Sem (ForInStep Bool)} : wpAny M A (forIn ([] : List Expr) true f) (fun ok s₃ => ok = true ∧ Keeps s s₃) E s := by
  rw [List.forIn_nil]; exact wpAny_pure ⟨rfl, s.heap, s.toks, rfl, fun _ _ e => e⟩
theorem mem_strs {vs : List Value} {ys : List Str} (h : StrsAre vs ys) {v : Value} (hv : v ∈ vs) : ∃ y t, v = .str y t ∧ y ∈ ys := by
  induction h with
  | nil => cases hv
  | cons y t _ ih =>
    rcases List.mem_cons.mp hv with rfl | hv
    · exact ⟨y, t, rfl, .head _⟩
    · obtain ⟨y', t', e, m⟩ := ih hv; exact ⟨y', t', e, .tail _ m⟩

theorem mem_weight {zs : List Str} {y : Str} (h : y ∈ zs) : y.length + 1 ≤ (zs.map (·.length)).sum + zs.length := by
  induction zs with
  | nil => cases h
  | cons a r ih =>
    simp only [List.map_cons, List.sum_cons, List.length_cons]
    rcases List.mem_cons.mp h with rfl | h
    · lia
    · have := ih h; lia
noncomputable def RS (f : Str → Str) (v y : Value) : Prop := ∀ a t, v = .str a t → ∃ t', y = .str (f a) t'
theorem rs_of {f : Str → Str} {a b : Str} {t t' : Tok} (h : f a = b) : RS f (.str a t) (.str b t') := fun _ _ e => by cases e; exact ⟨_, by rw [h]⟩
theorem paired_strs {f : Str → Str} {vs : List Value} {ys : List Str} {zs : List Value} (h : StrsAre vs ys) (p : Paired (RS f) vs zs) : StrsAre zs (ys.map f) := by
  induction h generalizing zs with
  | nil => cases p; exact .nil
  | cons y t _ ih => cases p with
    | cons r p => obtain ⟨t', rfl⟩ := r _ _ rfl; exact .cons _ _ (ih p)
theorem filter_true {α : Type} (l : List α) : l.filter (fun _ => true) = l := by simp

noncomputable def fP (q : Str → Bool) (v : Value) : Bool := match v with
  | .str a _ => q a
  | _ => true
theorem paired_filter {f : Str → Str} {q : Str → Bool} {vs : List Value} {ys : List Str} {zs : List Value} (h : StrsAre vs ys) (p : Paired (RS f) (vs.filter (fP q)) zs) : StrsAre zs ((ys.filter q).map f) := by
  induction h generalizing zs with
  | nil => cases p; exact .nil
  | cons y t _ ih =>
    rw [List.filter_cons] at p ⊢
    change Paired (RS f) (if q y = true then _ else _) zs at p
    split at p
    · rw [if_pos (by assumption)]; cases p with
      | cons r p => obtain ⟨t', rfl⟩ := r _ _ rfl; exact .cons _ _ (ih p)
    · rw [if_neg (by assumption)]; exact ih p
theorem same_list {its : Array Value} {vs : List Value} (hl : vs.length = its.size) (h : ∀ (j : Nat) v, vs[j]? = some v → its[j]? = some v) : vs = its.toList := by
  refine List.ext_getElem? fun j => ?_
  cases q : vs[j]? with
  | some v => have := h j v q; simpa using this.symm
  | none =>
    have h1 := List.getElem?_eq_none_iff.mp q
    exact (List.getElem?_eq_none_iff.mpr (by rw [Array.length_toList]; lia)).symm
theorem mem_arr {its : Array Value} {ys : List Str} (hs : StrsAre its.toList ys) {i : Nat} {v : Value} (hv : its[i]? = some v) : ∃ b t, v = .str b t ∧ b ∈ ys :=
  mem_strs hs (List.mem_of_getElem? (by simpa using hv))
theorem len3 {α : Type} {l : List α} (h : l.length = 3) : ∃ a b c, l = [a, b, c] := by
  cases l with
  | nil => cases h
  | cons a l => cases l with
    | nil => cases h
    | cons b l => cases l with
      | nil => cases h
      | cons c l => exact ⟨a, b, c, by rw [List.eq_nil_of_length_eq_zero (Nat.succ.inj (Nat.succ.inj (Nat.succ.inj h)))]⟩
theorem mem3 {x y z : Str} {tx ty tz : Tok} {b : Nat} (hx : x.length ≤ b) (hy : y.length ≤ b) (hz : z.length ≤ b) {i : Nat} {v : Value} (hv : (#[Value.str x tx, .str y ty, .str z tz] : Array Value)[i]? = some v) : ∃ a t, v = .str a t ∧ a.length ≤ b := by
  obtain ⟨a, t, rfl, ha⟩ := mem_arr (its := #[Value.str x tx, .str y ty, .str z tz]) (ys := [x, y, z]) (.cons _ _ (.cons _ _ (.cons _ _ .nil))) hv
  have all : ∀ q ∈ [x, y, z], Str.length q ≤ b := List.forall_mem_cons.mpr ⟨hx, List.forall_mem_cons.mpr ⟨hy, List.forall_mem_cons.mpr ⟨hz, List.forall_mem_nil _⟩⟩⟩
  exact ⟨a, t, rfl, all a ha⟩
noncomputable def Src (prog : Program) (w : World) (A : Around) (s₁ : Shared) (xv : Value) (n : Nat) (P : Nat → Value → Prop) : Prop :=
  ∀ (Q : Value → Shared → Prop) (E : Value → Shared → Prop),
    (∀ I fp wr St h₂, Walks prog w A I fp wr n P St → St 0 h₂ → (∀ b ∈ fp, b < h₂.objs.size) → (∀ b ∈ wr, s₁.heap.get? b = none) → (∀ i h, St i h → ∀ b ∈ wr, ∃ o, h.get? b = some o) → Grow s₁.heap h₂ → Q (.ref I) { s₁ with heap := h₂ }) →
    wpAny (model prog w) A (pyIter xv) Q E s₁
section
variable {prog : Program} {w : World} {A : Around} {s₁ : Shared}
theorem none_size (h : Heap) : h.get? h.objs.size = none := by
  cases q : h.get? h.objs.size with
  | none => rfl
  | some o => exact absurd (Heap.lt_size q) (Nat.lt_irrefl _)
theorem src_list {l : Addr} {lo : Obj} {its : Array Value} {n : Nat} (hh : A.handled = none) (g : s₁.heap.get? l = some lo) (c : lo.cls = .type "list") (d : lo.data = .seq its n) : Src prog w A s₁ (.ref l) its.size (fun i v => its[i]? = some v) := by
  intro Q E h
  have hls : s₁.heap.IsList l its := ⟨lo, g, c, n, d⟩
  have hlt : l < s₁.heap.objs.size := Heap.lt_size g
  refine wpAny_pyIter_list hls (h _ _ _ _ _ (Walks.list hh _ _ (Nat.ne_of_lt hlt) its) ⟨⟨_, Heap.get?_push_size _ rfl, rfl, rfl⟩, hls.push _⟩ ?_ ?_ ?_ fun b o e => Heap.get?_push_of_some _ e)
  · intro b hb
    show b < (s₁.heap.push _).objs.size
    rw [Heap.size_push]
    rcases List.mem_cons.mp hb with rfl | hb
    · exact Nat.lt_succ_self _
    · rw [List.mem_singleton.mp hb]; exact Nat.lt_succ_of_lt hlt
  · intro b hb; rw [List.mem_singleton.mp hb]; exact none_size _
  · intro i h st b hb; rw [List.mem_singleton.mp hb]; obtain ⟨o, ho, _⟩ := st.1; exact ⟨o, ho⟩
theorem src_tuple {l : Addr} {lo : Obj} {its : Array Value} {n : Nat} (hh : A.handled = none) (g : s₁.heap.get? l = some lo) (c : lo.cls = .type "tuple") (d : lo.data = .seq its n) : Src prog w A s₁ (.ref l) its.size (fun i v => its[i]? = some v) := by
  intro Q E h
  have hls : s₁.heap.IsTuple l its := ⟨lo, g, c, n, d⟩
  have hlt : l < s₁.heap.objs.size := Heap.lt_size g
  refine wpAny_pyIter_tuple hls (h _ _ _ _ _ (Walks.tuple hh _ _ (Nat.ne_of_lt hlt) its) ⟨⟨_, Heap.get?_push_size _ rfl, rfl, rfl⟩, hls.push _⟩ ?_ ?_ ?_ fun b o e => Heap.get?_push_of_some _ e)
  · intro b hb
    show b < (s₁.heap.push _).objs.size
    rw [Heap.size_push]
    rcases List.mem_cons.mp hb with rfl | hb
    · exact Nat.lt_succ_self _
    · rw [List.mem_singleton.mp hb]; exact Nat.lt_succ_of_lt hlt
  · intro b hb; rw [List.mem_singleton.mp hb]; exact none_size _
  · intro i h st b hb; rw [List.mem_singleton.mp hb]; obtain ⟨o, ho, _⟩ := st.1; exact ⟨o, ho⟩
theorem src_range {r : Addr} {n : Nat} {t u v : Tok} (hh : A.handled = none) (g : IsRange s₁.heap r 0 (n : Nat) 1 t u v) (hn : n ≤ 1048576) : Src prog w A s₁ (.ref r) n (fun i v => ∃ t, v = .int (i : Nat) t) := by
  intro Q E h
  have hz : Builtin.Range.rangeSize 0 (n : Nat) 1 = (n : Nat) := by unfold Builtin.Range.rangeSize; simp; lia
  have hs : Builtin.Range.small 0 (n : Nat) 1 = true := by
    unfold Builtin.Range.small
    rw [hz]
    unfold Builtin.Range.rangeFitsLong
    simp; lia
  have W := Walks.range (prog := prog) (w := w) (A := A) hh s₁.heap.objs.size 0 1 n
  have e : (fun (i : Nat) (v : Value) => ∃ t, v = .int (0 + (i : Nat) * 1) t) = fun (i : Nat) (v : Value) => ∃ t, v = Value.int (i : Nat) t := by funext i v; rw [Int.mul_one, Int.zero_add]
  rw [e] at W
  refine wpAny_pyIter_range g hs (h _ _ _ _ _ W ?_ ?_ ?_ ?_ fun b o e => Heap.get?_push_of_some _ e)
  · show IsRangeIter _ _ _ _ _
    rw [hz]; simpa using Heap.get?_push_size s₁.heap rfl
  · intro b hb
    show b < (s₁.heap.push _).objs.size
    rw [Heap.size_push, List.mem_singleton.mp hb]; exact Nat.lt_succ_self _
  · intro b hb; rw [List.mem_singleton.mp hb]; exact none_size _
  · intro i h st b hb; rw [List.mem_singleton.mp hb]; exact ⟨_, st⟩
end

structure LgSrc (prog : Program) (w : World) (A : Around) (env : Env) (scope : Scope) (cl : List (Str × Addr)) (x : Str) (ifs : List Expr) (elt : Expr) (h₀ : Heap) (L : Addr) (p : Value → Bool)
    (O : Shared → Shared → Value → Value → Prop) (xv : Value) (s₁ : Shared) (n : Nat) (P : Nat → Value → Prop) (m : Str → Option Value) (news : List (Addr × Obj)) : Prop where
  src : Src prog w A s₁ xv n P
  size : n ≤ sizeLine
  fr : Fr h₀ L s₁.heap m
  nws : News h₀ L s₁.heap news
  tests : ∀ C i v s₂ m₂ E', P i v → Fr h₀ L s₂.heap m → News h₀ L s₂.heap news → s₂.heap.Ns C m₂ → m₂ x = some v → Grow s₁.heap s₂.heap →
    wpAny (model prog w) A (forIn ifs true fun c r => if r = true then do let ok ← isTrue c (compEnvC scope cl C env) (eval c (compEnvC scope cl C env)); pure (ForInStep.yield ok) else pure (ForInStep.yield r))
      (fun ok s₃ => ok = p v ∧ Keeps s₂ s₃) E' s₂
  elt : ∀ C i v s₂ m₂ E', P i v → p v = true → Fr h₀ L s₂.heap m → News h₀ L s₂.heap news → s₂.heap.Ns C m₂ → m₂ x = some v → Grow s₁.heap s₂.heap →
    wpAny (model prog w) A (eval elt (compEnvC scope cl C env)) (fun y s₃ => O s₂ s₃ v y ∧ Keeps s₂ s₃) E' s₂

noncomputable def LgE (prog : Program) (w : World) (A : Around) (env : Env) (scope : Scope) (cl : List (Str × Addr)) (x : Str) (ifs : List Expr) (elt : Expr) (h₀ : Heap) (L : Addr) (p : Value → Bool) (R : Value → Value → Prop) (Q : Value → Shared → Prop) (xv : Value) (s₁ : Shared) : Prop :=
  ∃ n P m news, LgSrc prog w A env scope cl x ifs elt h₀ L p (fun _ _ => R) xv s₁ n P m news ∧
      ∀ D k ys h' tk (vs : List Value), vs.length = n → (∀ j v, vs[j]? = some v → P j v) → Fr h₀ L h' m → News h₀ L h' ((D, W.listOf ys.toArray k) :: news) → AllNe D news → Grow s₁.heap h' → s₁.heap.get? D = none → Paired R (vs.filter p) ys → Q (.ref D) { s₁ with heap := h', toks := tk }
noncomputable def LgA (prog : Program) (w : World) (A : Around) (env : Env) (scope : Scope) (cl : List (Str × Addr)) (x : Str) (ifs : List Expr) (elt : Expr) (h₀ : Heap) (L : Addr) (p : Value → Bool) (R : Value → Value → Prop) (y : Str) (Q : Flow → Shared → Prop) (xv : Value) (s₁ : Shared) : Prop :=
  ∃ n P m news, LgSrc prog w A env scope cl x ifs elt h₀ L p (fun _ _ => R) xv s₁ n P m news ∧
      ∀ D k ys h' tk (vs : List Value), vs.length = n → (∀ j v, vs[j]? = some v → P j v) → Fr h₀ L h' (fun z => if z = y then some (.ref D) else m z) → News h₀ L h' ((D, W.listOf ys.toArray k) :: news) → AllNe D news → Paired R (vs.filter p) ys → Q .next { s₁ with heap := h', toks := tk }
noncomputable def LgO (prog : Program) (w : World) (A : Around) (env : Env) (scope : Scope) (cl : List (Str × Addr)) (x : Str) (ifs : List Expr) (elt : Expr) (h₀ : Heap) (L : Addr) (p : Value → Bool) (G : Value → Array Value → Prop) (y : Str) (Q : Flow → Shared → Prop) (xv : Value) (s₁ : Shared) : Prop :=
  ∃ n P m news, LgSrc prog w A env scope cl x ifs elt h₀ L p (fun s₂ s₃ v y => ∃ T its, y = .ref T ∧ s₂.heap.get? T = none ∧ s₃.heap.IsList T its ∧ G v its) xv s₁ n P m news ∧
      ∀ D k ys h' tk (vs : List Value), vs.length = n → (∀ j v, vs[j]? = some v → P j v) → Fr h₀ L h' (fun z => if z = y then some (.ref D) else m z) → News h₀ L h' ((D, W.listOf ys.toArray k) :: news) → AllNe D news →
        Paired (LstIs s₁.heap G h') (vs.filter p) ys → ys.Pairwise (· ≠ ·) → (∀ y ∈ ys, y ≠ .ref D) → Q .next { s₁ with heap := h', toks := tk }

section
variable {prog : Program} {w : World} {A : Around} {E : Value → Shared → Prop} {s : Shared} {env : Env} (h₀ : Heap) (L : Addr)
theorem grow_wr {h₁ h₂ h₃ : Heap} {wr : List Addr} (g : Grow h₁ h₂) (hw : ∀ b ∈ wr, h₁.get? b = none) (hk : ∀ b o, b ∉ wr → h₂.get? b = some o → h₃.get? b = some o) : Grow h₁ h₃ :=
  fun b o e => hk b o (fun hm => by rw [hw b hm] at e; cases e) (g b o e)

theorem lg_list {elt iter : Expr} {x : Str} {px : Pos} {ifs : List Expr} {scope : Scope} {cl : List (Str × Addr)} {pos : Pos} {Q : Value → Shared → Prop} (p : Value → Bool) (R : Value → Value → Prop)
    (hclos : closureFor scope env = pure cl) (hsc : (scope.kind == .function && scope.names.all (fun y => y.2 != .cell && (y.2 != .local || decide (scope.names.lookup y.1 = some .local)))) = true)
    (hx : scope.names.lookup x = some .local)
    (h : wpAny (model prog w) A (eval iter env) (fun xv s₁ => LgE prog w A env scope cl x ifs elt h₀ L p R Q xv s₁) E s)
    (hs : ∀ x, foldedSetIterable iter env x = pure x) :
    wpAny (model prog w) A (eval (.ListComp elt [⟨.Name x px, iter, ifs, 0⟩] scope pos) env) Q E s := by
  simp only [Bool.and_eq_true, beq_iff_eq, List.all_eq_true, bne_iff_ne, Bool.or_eq_true, decide_eq_true_eq] at hsc
  refine wpAny_ListComp_free p R hclos (fun y hy => (hsc.2 y hy).1) hsc.1 (fun y hy e => (hsc.2 y hy).2.resolve_left fun q => q e) hx (wpAny_mono h (fun xv s₁ h₁ => ?_) fun _ _ e => e) hs
  refine foldP ?_; intro Gz
  obtain ⟨n, P, m, news, S, hfin⟩ := h₁
  k_unfold
  refine S.src _ _ fun I fp wr St h₂ Wk st hfp hwr hlive g₂ => ?_
  refine ⟨I, fp, wr, n, P, St, rfl, Wk, S.size, st, hfp, ⟨?_, ?_⟩, ?_⟩
  · intro C i v s₃ m₃ E' _ hP hn hm hk _
    have g := grow_wr g₂ hwr hk
    exact S.tests C i v s₃ m₃ E' hP (S.fr.grownK g) (S.nws.grown g) hn hm g
  · intro C i v s₃ m₃ E' _ hP hp hn hm hk _
    have g := grow_wr g₂ hwr hk
    exact S.elt C i v s₃ m₃ E' hP hp (S.fr.grownK g) (S.nws.grown g) hn hm g
  · intro D h' tk ys vs hnew hlD hplD hlen hP hF hk
    have g : Grow s₁.heap h' := grow_wr g₂ hwr hk
    have hD : s₁.heap.get? D = none := by
      cases q : s₁.heap.get? D with
      | none => rfl
      | some o => exact absurd (g₂ D o q) (by rw [show h₂.get? D = none from hnew]; exact fun z => nomatch z)
    obtain ⟨k, hk'⟩ := hplD
    have nw : NewObj s₁.heap h' D (W.listOf ys k) := ⟨hD, hk'⟩
    have nn := nw.news S.fr (S.nws.grown g)
    exact hfin D k ys.toList h' tk vs hlen hP (S.fr.grownK g) (by simpa using nn) (nw.ne S.nws) g hD hF
theorem lg_assign {elt iter : Expr} {x y : Str} {px py : Pos} {ifs : List Expr} {scope : Scope} {cl : List (Str × Addr)} {pos spos : Pos} {Q : Flow → Shared → Prop} (p : Value → Bool) (R : Value → Value → Prop)
    (hsw : swapsWith (.ListComp elt [⟨.Name x px, iter, ifs, 0⟩] scope pos) (some (.Name y py)) spos.line env = pure true)
    (hL : env.locals = L) (hclos : closureFor scope env = pure cl) (hsc : (scope.kind == .function && scope.names.all (fun y => y.2 != .cell && (y.2 != .local || decide (scope.names.lookup y.1 = some .local)))) = true)
    (hx : scope.names.lookup x = some .local) (hy : env.kindOf y = some .local) (hp : (env.scope.kind == .class || (env.scope.kind == .module && env.locals != env.globals)) = false)
    (h : wpAny (model prog w) A (eval iter env) (fun xv s₁ => LgA prog w A env scope cl x ifs elt h₀ L p R y Q xv s₁) E s)
    (hs : ∀ x, foldedSetIterable iter env x = pure x) :
    wpAny (model prog w) A (exec (.Assign [.Name y py] (.ListComp elt [⟨.Name x px, iter, ifs, 0⟩] scope pos) spos) env) Q E s := by
  simp only [Bool.and_eq_true, beq_iff_eq, List.all_eq_true, bne_iff_ne, Bool.or_eq_true, decide_eq_true_eq] at hsc
  subst hL
  refine wpAny_Assign_ListComp_free p R hsw hclos (fun y hy => (hsc.2 y hy).1) hsc.1 (fun y hy e => (hsc.2 y hy).2.resolve_left fun q => q e) hx hy hp (wpAny_mono h (fun xv s₁ h₁ => ?_) fun _ _ e => e) hs
  refine foldP ?_; intro Gz
  obtain ⟨n, P, m, news, S, hfin⟩ := h₁
  k_unfold
  refine S.src _ _ fun I fp wr St h₂ Wk st hfp hwr hlive g₂ => ?_
  have hLw : env.locals ∉ wr := fun hm => by obtain ⟨o, _, _, ho, _⟩ := S.fr.ns; rw [hwr _ hm] at ho; cases ho
  refine ⟨I, fp, wr, n, P, St, m, rfl, Wk, S.size, st, hfp, hLw, (S.fr.grownK g₂).ns, ⟨?_, ?_⟩, ?_⟩
  · intro C i v s₃ m₃ E' _ hP hn hm hk _
    have g := grow_wr g₂ hwr hk
    exact S.tests C i v s₃ m₃ E' hP (S.fr.grownK g) (S.nws.grown g) hn hm g
  · intro C i v s₃ m₃ E' _ hP hp hn hm hk _
    have g := grow_wr g₂ hwr hk
    exact S.elt C i v s₃ m₃ E' hP hp (S.fr.grownK g) (S.nws.grown g) hn hm g
  · intro D h' tk ys vs hnew hlD hplD hlen hP hF hns hk
    have g : ∀ b o, b ≠ env.locals → s₁.heap.get? b = some o → h'.get? b = some o := fun b o hb e =>
      hk b o hb (fun hm => by rw [hwr b hm] at e; cases e) (g₂ b o e)
    have hD : s₁.heap.get? D = none := by
      cases q : s₁.heap.get? D with
      | none => rfl
      | some o => exact absurd (g₂ D o q) (by rw [show h₂.get? D = none from hnew]; exact fun z => nomatch z)
    have F' : Fr h₀ env.locals h' (fun z => if z = y then some (.ref D) else m z) := ⟨hns, fun b o e => g b o (fun q => absurd (Heap.lt_size e) (Nat.not_lt.mpr (q ▸ S.fr.above))) (S.fr.keep b o e), S.fr.above⟩
    have N' : News h₀ env.locals h' news := fun q hq => ⟨g _ _ (S.nws q hq).2.1 (S.nws q hq).1, (S.nws q hq).2⟩
    obtain ⟨k, hk'⟩ := hplD
    have nw : NewObj s₁.heap h' D (W.listOf ys k) := ⟨hD, hk'⟩
    have nn := nw.news S.fr N'
    exact hfin D k ys.toList h' tk vs hlen hP F' (by simpa using nn) (nw.ne S.nws) hF
theorem lgO_assign {elt iter : Expr} {x y : Str} {px py : Pos} {ifs : List Expr} {scope : Scope} {cl : List (Str × Addr)} {pos spos : Pos} {Q : Flow → Shared → Prop} (p : Value → Bool) (G : Value → Array Value → Prop)
    (hsw : swapsWith (.ListComp elt [⟨.Name x px, iter, ifs, 0⟩] scope pos) (some (.Name y py)) spos.line env = pure true)
    (hL : env.locals = L) (hclos : closureFor scope env = pure cl) (hsc : (scope.kind == .function && scope.names.all (fun y => y.2 != .cell && (y.2 != .local || decide (scope.names.lookup y.1 = some .local)))) = true)
    (hx : scope.names.lookup x = some .local) (hy : env.kindOf y = some .local) (hp : (env.scope.kind == .class || (env.scope.kind == .module && env.locals != env.globals)) = false)
    (h : wpAny (model prog w) A (eval iter env) (fun xv s₁ => LgO prog w A env scope cl x ifs elt h₀ L p G y Q xv s₁) E s)
    (hs : ∀ x, foldedSetIterable iter env x = pure x) :
    wpAny (model prog w) A (exec (.Assign [.Name y py] (.ListComp elt [⟨.Name x px, iter, ifs, 0⟩] scope pos) spos) env) Q E s := by
  simp only [Bool.and_eq_true, beq_iff_eq, List.all_eq_true, bne_iff_ne, Bool.or_eq_true, decide_eq_true_eq] at hsc
  subst hL
  rw [exec_Assign_Name_used _ _ _ _ hsw]
  refine wpAny_bind (wpAny_standAt (wpAny_bind ?_))
  show wpAny _ A (do let _ ← comprehension (.ListComp elt [⟨.Name x px, iter, ifs, 0⟩] scope pos) scope env _ (newList []) false (eval iter env) (some (assign (.Name y py) env))) _ _ s
  refine wpAny_bind (wpAny_mono (wpAny_comprehension_free (use := some (assign (.Name y py) env)) (Q := fun _ s' => Q .next s') rfl hs hclos hsc.1 (fun y hy e => (hsc.2 y hy).2.resolve_left fun q => q e)
    (wpAny_mono h (fun xv s₁ h₁ => ?_) fun _ _ e => e)) (fun _ s' hq => wpAny_pure (wpAny_pure hq)) fun _ _ e => e)
  refine foldP ?_; intro Gz
  obtain ⟨n, P, m, news, S, hfin⟩ := h₁
  k_unfold
  refine S.src _ _ fun I fp wr St h₂ Wk st hfp hwr hlive g₂ => ?_
  have hLw : env.locals ∉ wr := fun hm => by obtain ⟨o, _, _, ho, _⟩ := S.fr.ns; rw [hwr _ hm] at ho; cases ho
  have hn₂ := (S.fr.grownK g₂).ns
  refine comp_block_walkCO (RR := fun acc C => compPost (model prog w) A E (some (assign (.Name y py) env)) (fun _ s' => Q .next s') acc C) Wk S.size p G hlive (fun y hy => (hsc.2 y hy).1) hsc.1 hx st hfp ⟨?_, ?_⟩ ?_
  · intro C i v s₃ m₃ E' _ hP hn hm hk _
    have g := grow_wr g₂ hwr hk
    exact S.tests C i v s₃ m₃ E' hP (S.fr.grownK g) (S.nws.grown g) hn hm g
  · intro C i v s₃ m₃ E' _ hP hp hn hm hk _
    have g := grow_wr g₂ hwr hk
    exact S.elt C i v s₃ m₃ E' hP hp (S.fr.grownK g) (S.nws.grown g) hn hm g
  · intro D C h' tk m' ys vs hD hC hDC hnC hlD hplD hlen hP hF hnd hk
    have hLC : env.locals ≠ C := by rintro rfl; obtain ⟨o, _, _, ho, _⟩ := hn₂; rw [show h₂.get? env.locals = none from hC] at ho; cases ho
    have hLD : env.locals ≠ D := by rintro rfl; obtain ⟨o, _, _, ho, _⟩ := hn₂; rw [show h₂.get? env.locals = none from hD] at ho; cases ho
    have hLl : ∀ {T : Addr} {its : Array Value}, h'.IsList T its → T ≠ env.locals := by
      rintro T its ⟨o, ho, hc, k, hd⟩ rfl
      obtain ⟨o', es, ep, ho', hd', _⟩ := hn₂.at' fun o e => hk _ o hLw e
      rw [ho] at ho'; cases ho'
      rw [hd] at hd'; cases hd'
    show wpAny _ A (assign (.Name y py) env (.ref D)) _ _ _
    refine wpAny_assign_Name (wpAny_storeName_local hy (hn₂.at' fun o e => hk _ o hLw e) (fun h₃ hn₃ hs₃ => ?_) hp)
    refine ⟨m', hnC.sameBut hs₃ (Ne.symm hLC), fun h₄ hs₄ => ?_⟩
    have g : ∀ b o, b ≠ env.locals → s₁.heap.get? b = some o → h₄.get? b = some o := fun b o hb e =>
      hs₄.extBut b o (by rintro rfl; exact absurd (g₂ b o e) (by rw [show h₂.get? b = none from hC]; exact fun z => nomatch z)) (hs₃.extBut b o hb (hk b o (fun hm => by rw [hwr b hm] at e; cases e) (g₂ b o e)))
    have hD' : s₁.heap.get? D = none := by
      cases q : s₁.heap.get? D with
      | none => rfl
      | some o => exact absurd (g₂ D o q) (by rw [show h₂.get? D = none from hD]; exact fun z => nomatch z)
    have F' : Fr h₀ env.locals h₄ (fun z => if z = y then some (.ref D) else m z) :=
      ⟨hn₃.sameBut hs₄ hLC, fun b o e => g b o (fun q => absurd (Heap.lt_size e) (Nat.not_lt.mpr (q ▸ S.fr.above))) (S.fr.keep b o e), S.fr.above⟩
    have N' : News h₀ env.locals h₄ news := fun q hq => ⟨g _ _ (S.nws q hq).2.1 (S.nws q hq).1, (S.nws q hq).2⟩
    obtain ⟨k, hk'⟩ := (hplD.extBut hs₃.extBut (Ne.symm hLD)).extBut hs₄.extBut hDC
    have nw : NewObj s₁.heap h₄ D (W.listOf ys k) := ⟨hD', hk'⟩
    have nn := nw.news S.fr N'
    refine hfin D k ys.toList h₄ _ vs hlen hP F' (by simpa using nn) (nw.ne S.nws) (hF.mono fun _ _ hy => ?_) hnd ?_
    · obtain ⟨T, its, rfl, h1, hTC, _, _, hlT, hG⟩ := hy
      refine ⟨T, its, rfl, ?_, (hlT.extBut hs₃.extBut (hLl hlT)).extBut hs₄.extBut hTC, hG⟩
      cases q : s₁.heap.get? T with
      | none => rfl
      | some o => exact absurd (g₂ T o q) (by rw [show h₂.get? T = none from h1]; exact fun z => nomatch z)
    · intro y hy e
      obtain ⟨_, T, _, e', _, _, _, hTD, _, _⟩ := Paired.right hF y hy
      rw [e] at e'; cases e'; exact hTD rfl
end

noncomputable def OPost (G : Value → Array Value → Prop) (s₂ : Shared) (v y : Value) (s₃ : Shared) : Prop := (∃ T its, y = .ref T ∧ s₂.heap.get? T = none ∧ s₃.heap.IsList T its ∧ G v its) ∧ Keeps s₂ s₃
theorem opost {G : Value → Array Value → Prop} {s₂ : Shared} {v : Value} {T : Addr} {its : Array Value} {n : Nat} {h' : Heap} {tk : Nat} {lo : Obj} (hT : s₂.heap.get? T = none) (g : h'.get? T = some lo) (c : lo.cls = .type "list") (d : lo.data = .seq its n) (hG : G v its) (k : Grow s₂.heap h') :
    OPost G s₂ v (.ref T) { s₂ with heap := h', toks := tk } := ⟨⟨T, its, rfl, hT, ⟨lo, g, c, n, d⟩, hG⟩, ⟨h', tk, rfl, k⟩⟩

section
variable {prog : Program} {w : World} {A : Around} {env : Env} {scope : Scope} {cl : List (Str × Addr)} {x y : Str} {ifs : List Expr} {elt : Expr} {h₀ : Heap} {L : Addr} {p : Value → Bool} {R : Value → Value → Prop} {G : Value → Array Value → Prop} {xv : Value} {s₁ : Shared} {n : Nat} {P : Nat → Value → Prop} {m : Str → Option Value} {news : List (Addr × Obj)}
theorem lgE {Q : Value → Shared → Prop} (src : Src prog w A s₁ xv n P) (size : n ≤ sizeLine) (fr : Fr h₀ L s₁.heap m) (nws : News h₀ L s₁.heap news)
    (tests : ∀ C i v s₂ m₂ E', P i v → Fr h₀ L s₂.heap m → News h₀ L s₂.heap news → s₂.heap.Ns C m₂ → m₂ x = some v → Grow s₁.heap s₂.heap →
      wpAny (model prog w) A (forIn ifs true fun c r => if r = true then do let ok ← isTrue c (compEnvC scope cl C env) (eval c (compEnvC scope cl C env)); pure (ForInStep.yield ok) else pure (ForInStep.yield r)) (fun ok s₃ => ok = p v ∧ Keeps s₂ s₃) E' s₂)
    (helt : ∀ C i v s₂ m₂ E', P i v → p v = true → Fr h₀ L s₂.heap m → News h₀ L s₂.heap news → s₂.heap.Ns C m₂ → m₂ x = some v → Grow s₁.heap s₂.heap →
      wpAny (model prog w) A (eval elt (compEnvC scope cl C env)) (fun y s₃ => R v y ∧ Keeps s₂ s₃) E' s₂)
    (fin : ∀ D k ys h' tk (vs : List Value), vs.length = n → (∀ j v, vs[j]? = some v → P j v) → Fr h₀ L h' m → News h₀ L h' ((D, W.listOf ys.toArray k) :: news) → AllNe D news → Grow s₁.heap h' → s₁.heap.get? D = none → Paired R (vs.filter p) ys → Q (.ref D) { s₁ with heap := h', toks := tk }) :
    LgE prog w A env scope cl x ifs elt h₀ L p R Q xv s₁ := ⟨_, _, _, _, ⟨src, size, fr, nws, tests, helt⟩, fin⟩
theorem lgA {Q : Flow → Shared → Prop} (src : Src prog w A s₁ xv n P) (size : n ≤ sizeLine) (fr : Fr h₀ L s₁.heap m) (nws : News h₀ L s₁.heap news)
    (tests : ∀ C i v s₂ m₂ E', P i v → Fr h₀ L s₂.heap m → News h₀ L s₂.heap news → s₂.heap.Ns C m₂ → m₂ x = some v → Grow s₁.heap s₂.heap →
      wpAny (model prog w) A (forIn ifs true fun c r => if r = true then do let ok ← isTrue c (compEnvC scope cl C env) (eval c (compEnvC scope cl C env)); pure (ForInStep.yield ok) else pure (ForInStep.yield r)) (fun ok s₃ => ok = p v ∧ Keeps s₂ s₃) E' s₂)
    (helt : ∀ C i v s₂ m₂ E', P i v → p v = true → Fr h₀ L s₂.heap m → News h₀ L s₂.heap news → s₂.heap.Ns C m₂ → m₂ x = some v → Grow s₁.heap s₂.heap →
      wpAny (model prog w) A (eval elt (compEnvC scope cl C env)) (fun y s₃ => R v y ∧ Keeps s₂ s₃) E' s₂)
    (fin : ∀ D k ys h' tk (vs : List Value), vs.length = n → (∀ j v, vs[j]? = some v → P j v) → Fr h₀ L h' (fun z => if z = y then some (.ref D) else m z) → News h₀ L h' ((D, W.listOf ys.toArray k) :: news) → AllNe D news → Paired R (vs.filter p) ys → Q .next { s₁ with heap := h', toks := tk }) :
    LgA prog w A env scope cl x ifs elt h₀ L p R y Q xv s₁ := ⟨_, _, _, _, ⟨src, size, fr, nws, tests, helt⟩, fin⟩
theorem lgO {Q : Flow → Shared → Prop} (src : Src prog w A s₁ xv n P) (size : n ≤ sizeLine) (fr : Fr h₀ L s₁.heap m) (nws : News h₀ L s₁.heap news)
    (tests : ∀ C i v s₂ m₂ E', P i v → Fr h₀ L s₂.heap m → News h₀ L s₂.heap news → s₂.heap.Ns C m₂ → m₂ x = some v → Grow s₁.heap s₂.heap →
      wpAny (model prog w) A (forIn ifs true fun c r => if r = true then do let ok ← isTrue c (compEnvC scope cl C env) (eval c (compEnvC scope cl C env)); pure (ForInStep.yield ok) else pure (ForInStep.yield r)) (fun ok s₃ => ok = p v ∧ Keeps s₂ s₃) E' s₂)
    (helt : ∀ C i v s₂ m₂ E', P i v → p v = true → Fr h₀ L s₂.heap m → News h₀ L s₂.heap news → s₂.heap.Ns C m₂ → m₂ x = some v → Grow s₁.heap s₂.heap →
      wpAny (model prog w) A (eval elt (compEnvC scope cl C env)) (fun y s₃ => OPost G s₂ v y s₃) E' s₂)
    (fin : ∀ D k ys h' tk (vs : List Value), vs.length = n → (∀ j v, vs[j]? = some v → P j v) → Fr h₀ L h' (fun z => if z = y then some (.ref D) else m z) → News h₀ L h' ((D, W.listOf ys.toArray k) :: news) → AllNe D news →
        Paired (LstIs s₁.heap G h') (vs.filter p) ys → ys.Pairwise (· ≠ ·) → (∀ y ∈ ys, y ≠ .ref D) → Q .next { s₁ with heap := h', toks := tk }) :
    LgO prog w A env scope cl x ifs elt h₀ L p G y Q xv s₁ := ⟨_, _, _, _, ⟨src, size, fr, nws, tests, helt⟩, fin⟩
end
theorem three_of {its : Array Value} {a b c : Value} (e : its = #[a, b, c]) {vs : List Value} (hl : vs.length = its.size) (h : ∀ (j : Nat) v, vs[j]? = some v → its[j]? = some v) : vs = [a, b, c] := by
  subst e; exact same_list hl h
theorem paired3 {R : Value → Value → Prop} {a b c : Value} {ys : List Value} (h : Paired R [a, b, c] ys) : ∃ x y z, ys = [x, y, z] ∧ R a x ∧ R b y ∧ R c z := by
  cases h with | cons h1 h => cases h with | cons h2 h => cases h with | cons h3 h => cases h; exact ⟨_, _, _, rfl, h1, h2, h3⟩
noncomputable def reCode : Array Nat := #[14, 17, 4, 1, 1, 21, 9, 0, 604043296, 1, 0, 0, 0, 0, 0, 8, 4, 0, 13, 14, 21, 9, 0, 604043296, 1, 0, 0, 0, 0, 0, 8, 4, 0, 1]
noncomputable def safe (c : Nat) : Bool := (decide (c < 256) && (reCode.getD (7 + c / 32) 0).testBit (c % 32)) || Sre.isWord c
theorem set_at (k : Nat) (hk : k = 5 ∨ k = 20) (c : Nat) (seen : Sre.Seen) : ∃ seen', Sre.inSet reCode c reCode.size k true seen = .ok (!safe c, seen') := by
  have fin : ∀ (i : Nat) (s1 s2 s3 : Sre.Seen), (∀ q : c < 256, reCode.getD (i + (1 + c / 32)) 0 = reCode.getD (7 + c / 32) 0) →
      ∃ seen', (if (decide (c < 256) && (reCode.getD (i + (1 + c / 32)) 0).testBit (c % 32)) = true then Except.ok (false, s1) else
        if (Sre.isWord c != false) = true then Except.ok (false, s2) else Except.ok (ε := String) (true, s3)) = .ok (!safe c, seen') := by
    intro i s1 s2 s3 hw
    have e : (decide (c < 256) && (reCode.getD (i + (1 + c / 32)) 0).testBit (c % 32)) = (decide (c < 256) && (reCode.getD (7 + c / 32) 0).testBit (c % 32)) := by
      by_cases q : c < 256
      · rw [hw q]
      · simp [q]
    rw [e]
    unfold safe
    cases (decide (c < 256) && (reCode.getD (7 + c / 32) 0).testBit (c % 32)) <;> cases Sre.isWord c <;> exact ⟨_, rfl⟩
  have tab : ∀ j, j < 8 → reCode.getD (21 + (1 + j)) 0 = reCode.getD (7 + j) 0 := by decide
  rcases hk with rfl | rfl
  · obtain ⟨s', e⟩ := fin 6 ((seen.add 21).add 9) ((((seen.add 21).add 9).add 8).add 59) (((((seen.add 21).add 9).add 8).add 59).add 0) (fun _ => by rw [← Nat.add_assoc])
    exact ⟨s', Eq.trans (by kernel_rfl) e⟩
  · obtain ⟨s', e⟩ := fin 21 ((seen.add 21).add 9) ((((seen.add 21).add 9).add 8).add 59) (((((seen.add 21).add 9).add 8).add 59).add 0) (fun q => tab _ (by lia))
    exact ⟨s', Eq.trans (by kernel_rfl) e⟩
theorem admitted_at (m : Sre.M) (hc : m.code = reCode) : ∀ (fuel s : Nat) (seen : Sre.Seen), m.lim + 1 - s ≤ fuel →
    ((∀ j, s ≤ j → j < m.lim → safe (m.text.getD j 0) = true) ∧ ∃ seen', Sre.M.admitted m fuel s seen = .ok (none, seen')) ∨
    (∃ i seen', s ≤ i ∧ i < m.lim ∧ safe (m.text.getD i 0) = false ∧ Sre.M.admitted m fuel s seen = .ok (some i, seen')) := by
  intro fuel
  induction fuel with
  | zero => intro s seen h; exact .inl ⟨fun j h1 h2 => by lia, _, rfl⟩
  | succ fuel ih =>
    intro s seen h
    unfold Sre.M.admitted
    by_cases hs : s ≥ m.lim
    · rw [if_pos hs]; exact .inl ⟨fun j h1 h2 => by lia, _, rfl⟩
    · rw [if_neg hs, hc]
      obtain ⟨s', e⟩ := set_at 5 (.inl rfl) (m.text.getD s 0) seen
      rw [e]
      cases q : safe (m.text.getD s 0) with
      | false => exact .inr ⟨s, s', Nat.le_refl _, by lia, q, rfl⟩
      | true =>
        rcases ih (s + 1) s' (by lia) with ⟨a, s2, b⟩ | ⟨i, s2, h1, h2, h3, b⟩
        · refine .inl ⟨fun j h1 h2 => ?_, s2, b⟩
          rcases Nat.eq_or_lt_of_le h1 with rfl | h1
          · exact q
          · exact a j h1 h2
        · exact .inr ⟨i, s2, by lia, h2, h3, b⟩
theorem eta_m (m : Sre.M) (hou : m.outcome = none) (hfr : m.frames = []) : m = { m with frames := [], outcome := none } := by
  obtain ⟨code, text', lim, start, lastStart, wholeText, mustAdvance, pc, pos, handed, outermost, marks, lastmark, lastindex, loops, inner, frames, weight, answer, seen, outcome⟩ := m
  simp only at hou hfr
  subst hou hfr
  rfl
theorem eta_m2 (m : Sre.M) (hou : m.outcome = none) (hfr : m.frames = []) (hpc : m.pc = 18) (hwt : m.weight = 0) (hwh : m.wholeText = false) (han : m.answer = none) (hc : m.code = reCode) :
    m = { m with code := reCode, wholeText := false, pc := 18, frames := [], weight := 0, answer := none, outcome := none } := by
  obtain ⟨code, text', lim, start, lastStart, wholeText, mustAdvance, pc, pos, handed, outermost, marks, lastmark, lastindex, loops, inner, frames, weight, answer, seen, outcome⟩ := m
  simp only at hou hfr hpc hwt hwh han hc
  subst hou hfr hpc hwt hwh han hc
  rfl
theorem exec_in (m : Sre.M) {s2 : Sre.Seen} (hc : m.code = reCode) (hpc : m.pc = 18) (hlt : m.pos < m.lim) (acc : Sre.accepts reCode 18 (m.text.getD m.pos 0) (m.seen.add 13) = .ok (true, s2)) :
    Sre.M.exec m = { m with seen := s2, pc := 18 + 15, pos := m.pos + 1 } := by
  obtain ⟨code, text', lim, start, lastStart, wholeText, mustAdvance, pc, pos, handed, outermost, marks, lastmark, lastindex, loops, inner, frames, weight, answer, seen, outcome⟩ := m
  simp only at hc hpc hlt acc
  subst hc hpc
  unfold Sre.M.exec
  show (if pos ≥ lim then _ else match Sre.accepts reCode 18 (text'.getD pos 0) (seen.add 13) with | .error why => _ | .ok (false, seen) => _ | .ok (true, seen) => _) = _
  rw [if_neg (by lia), acc]
  rfl
theorem search_ends (text : Array Nat) (hn : text.size ≠ 0) :
    ∃ m : Sre.M, (Sre.M.runFor 4 (Sre.forSearch reCode text 0 0 text.size false)) = m ∧
      ((m.outcome = some .failed ∧ ∀ j, j < text.size → safe (text.getD j 0) = true) ∨ (m.outcome = some .matched ∧ ∃ i, i < text.size ∧ safe (text.getD i 0) = false)) := by
  obtain ⟨m0, hm0, hc, ht, hl, hf⟩ : ∃ m0 : Sre.M, Sre.forSearch reCode text 0 0 text.size false = m0.attemptFrom 0 true ∧ m0.code = reCode ∧ m0.text = text ∧ m0.lim = text.size ∧
      m0.pc = 18 ∧ m0.frames = [] ∧ m0.weight = 0 ∧ m0.wholeText = false ∧ m0.answer = none ∧ m0.outcome = none := by
    unfold Sre.forSearch
    rw [if_neg (show ¬ _ from by
      rw [show (Sre.header reCode).1 = 1 from rfl]
      intro q
      simp at q
      exact hn (by simpa using q))]
    exact ⟨_, rfl, rfl, rfl, rfl, rfl, rfl, rfl, rfl, rfl, rfl⟩
  obtain ⟨hpc, hfr, hwt, hwh, han, hou⟩ := hf
  rw [hm0]
  unfold Sre.M.attemptFrom
  rw [show m0.hasFirstSet = true from by unfold Sre.M.hasFirstSet; rw [hc]; rfl]
  simp only [Bool.not_true, Bool.false_eq_true, if_false]
  rcases admitted_at m0 hc (m0.lim + 1 - 0) 0 m0.seen (Nat.le_refl _) with ⟨a, s', b⟩ | ⟨i, s', h1, h2, h3, b⟩
  · rw [b]
    refine ⟨_, rfl, .inl ⟨?_, fun j hj => by have := a j (Nat.zero_le _) (by rw [hl]; exact hj); rw [ht] at this; exact this⟩⟩
    rw [eta_m m0 hou hfr]
    rfl
  · rw [b]
    refine ⟨_, rfl, .inr ⟨?_, i, by rw [← hl]; exact h2, by rw [← ht]; exact h3⟩⟩
    obtain ⟨s2, e2⟩ := set_at 20 (.inr rfl) (m0.text.getD i 0) (s'.add 13)
    rw [h3] at e2
    rw [eta_m2 m0 hou hfr hpc hwt hwh han hc]
    have acc : Sre.accepts reCode 18 (m0.text.getD i 0) (s'.add 13) = .ok (true, s2) := e2
    exact (congrArg (fun m => (Sre.M.runFor 3 m).outcome) (exec_in (Sre.M.attemptAt { m0 with code := reCode, wholeText := false, mustAdvance := false, pc := 18, frames := [], weight := 0, answer := none, seen := s', outcome := none } i true) rfl rfl h2 acc)).trans rfl
noncomputable def bare (x : Str) : Bool := x.cps.toList.all safe
theorem peek_target (M : Model) (p : Params) (x : Str) (t : Tok) :
    peek (Mine.K p) ⟨M.prog, M.w.params⟩ (Builtin.Re.reTarget "re.Pattern.search" "search" ⟨[.ref 184, .str x t], []⟩) =
      some ⟨.ref 184, .str x t, reCode, x.cps, 0, 0, min 0 x.cps.size, min (2 ^ 63 - 1) x.cps.size⟩ := by kernel_rfl
theorem peek_callee (M : Model) (p : Params) (x : Str) (t : Tok) :
    peek (Mine.K p) ⟨M.prog, M.w.params⟩ (callAny (.ref 880) ⟨[.str x t], []⟩) = some (.again (.builtin "re.Pattern.search" ⟨[.ref 184, .str x t], []⟩)) := by kernel_rfl
theorem entry_search : entryFor table "re.Pattern.search" = some Builtin.«re.Pattern.search» := entryFor_of_tree (by kernel_rfl)
theorem peek_keeper (M : Model) (p : Params) : peek (Mine.K p) ⟨M.prog, M.w.params⟩ (keeperOf (.ref 880)) = some Keeper.machine := by kernel_rfl
section
variable {M : Model} {A : Around} {E : Value → Shared → Prop} {s : Shared}
theorem wp_marks {l : List Nat} {c : Nat → Bool} {tag : Nat → String} {Q : PUnit → Shared → Prop} (h : Q ⟨⟩ s) :
    wpAny M A (forIn l PUnit.unit fun i _ => if c i = true then (do rule (tag i); pure (ForInStep.yield PUnit.unit)) else pure (ForInStep.yield PUnit.unit)) Q E s := by
  induction l with
  | nil => exact wpAny_pure h
  | cons a l ih =>
    simp only [List.forIn_cons]
    refine wpAny_bind ?_
    split
    · exact wpAny_bind (wpAny_rule (wpAny_pure ih))
    · exact wpAny_pure ih
theorem drive_one (m : Sre.M) (h : (m.runFor 4).outcome.isSome = true) : Builtin.Re.reDrive (2 ^ 64) m = pure (m.runFor 4) := by
  show (if (m.runFor 4).outcome.isSome = true then pure (m.runFor 4) else _) = _
  rw [if_pos h]
theorem wp_toEnd {m : Sre.M} {Q : Option Sre.M → Shared → Prop} {o : Sre.Outcome} (ho : (m.runFor 4).outcome = some o)
    (h : match o with | .matched => Q (some (m.runFor 4)) s | .failed => Q none s | .stuck _ => False) : wpAny M A (Builtin.Re.reRunToEnd m) Q E s := by
  unfold Builtin.Re.reRunToEnd
  rw [drive_one m (by rw [ho]; rfl)]
  refine wpAny_bind (wpAny_pure (wpAny_bind (wp_marks ?_)))
  rw [ho]
  cases o with
  | matched => exact wpAny_pure h
  | failed => exact wpAny_pure h
  | stuck _ => cases h
end
section
variable {prog : Program} {w : World} {A : Around} {E : Value → Shared → Prop} {s : Shared}
theorem call_search {x : Str} {t : Tok} {Q : Value → Shared → Prop} (X : (Mine.K w.params).In s.heap) (hz : x.length ≠ 0) (hl : x.length ≤ sizeLine)
    (hq : Code.quiet (.builtin "re.Pattern.search" ⟨[.ref 184, .str x t], []⟩) = true)
    (h1 : bare x = true → Q .none s) (h2 : bare x = false → ∀ a h', Grow s.heap h' → Q (.ref a) { s with heap := h' }) :
    wpAny (model prog w) A (call (.ref 880) [.str x t]) Q E s := by
  refine wpAny_call (codeAny_of_tree ?_)
  show wpAny _ _ (callAny (.ref 880) ⟨[.str x t], []⟩) _ _ s
  refine (Looks.of_peek X (peek_callee _ _ x t)).here ?_
  refine ⟨hq, codeAny_builtin entry_search ?_⟩
  unfold Builtin.«re.Pattern.search»
  refine wpAny_bind ((Looks.of_peek X (peek_target _ _ x t)).here ?_)
  have hm : min (2 ^ 63 - 1) x.cps.size = x.cps.size := by
    have : x.cps.size ≤ sizeLine := hl
    have : sizeLine ≤ 2 ^ 63 - 1 := by decide
    lia
  simp only [Nat.zero_min]
  rw [hm]
  obtain ⟨m, hm, hr⟩ := search_ends x.cps hz
  unfold Builtin.Re.reAnswer
  have hb : bare x = true ↔ ∀ j, j < x.cps.size → safe (x.cps.getD j 0) = true := by
    unfold bare
    rw [List.all_eq_true]
    constructor
    · intro a j hj
      have e : x.cps.getD j 0 = x.cps[j] := by simp [Array.getD, hj]
      rw [e]; exact a _ (by simp)
    · intro a c hc
      obtain ⟨j, hj, e⟩ := List.mem_iff_getElem.mp hc
      have := a j (by simpa using hj)
      simp at hj
      simp [Array.getD, hj] at this
      rw [← e]; simpa using this
  rcases hr with ⟨ho, a⟩ | ⟨ho, i, hi, hu⟩
  · refine wpAny_bind (wp_toEnd (by rw [hm]; exact ho) ?_)
    exact wpAny_pure (h1 (hb.mpr a))
  · refine wpAny_bind (wp_toEnd (by rw [hm]; exact ho) ?_)
    have hf : bare x = false := by
      cases q : bare x with
      | false => rfl
      | true => have := hb.mp q i hi; rw [hu] at this; cases this
    refine wpAny_bind ?_
    unfold Builtin.Re.reNewMatch
    simp only [List.range_zero, List.flatMap_nil, List.any_nil, Bool.false_eq_true, if_false]
    refine wpAny_bind (wpAny_newTuple ?_)
    unfold newFields
    refine wpAny_newObj_type ?_
    refine wpAny_pure ?_
    exact h2 hf _ _ fun b o e => Heap.get?_push_of_some _ (Heap.get?_push_of_some _ e)
end
section
variable {M : Model} {A : Around} {E : Value → Shared → Prop} {s : Shared} {env : Env} {pos : Pos} {first : List Value} {Q : Value → Shared → Prop} {w : World} {prog : Program}
theorem callWith_880 {h₀ : Heap} {e : Expr} {rest : List Expr} (_X : (Mine.K w.params).In h₀)
    (h : wpAny (model prog w) A (spliced (backTo pos (starEach (e :: rest) env))) (fun vs s₁ => (Mine.K w.params).In s₁.heap ∧ wpAny (model prog w) A (call (.ref 880) (first ++ vs)) Q E s₁) E s)
    (he : starEach (e :: rest) env = (false, eval e env) :: starEach rest env := by rfl) (hplain : (backTo pos (starEach rest env)).any (·.1) = false := by rfl) :
    wpAny (model prog w) A (callWith pos (.ref 880) first (backTo pos (starEach (e :: rest) env)) []) Q E s := by
  rw [he] at h ⊢
  exact callWith_of (P := fun h => (Mine.K w.params).In h) (by show ((false || (backTo pos (starEach rest env)).any (·.1)) || false) = false; rw [hplain]; rfl)
    (fun h X => ⟨.machine, .inr (.inl rfl), Looks.of_peek X (peek_keeper _ _)⟩) (evalArgs_plain h)
end
noncomputable def q1 (k : Nat) : List Nat := if k = 39 then [39, 34, 39, 34, 39] else [k]
theorem rpl_join : ∀ parts : List Str, (∀ p ∈ parts, 39 ∉ p.cps.toList) → (Str.join ⟨#[39]⟩ parts).cps.toList.flatMap q1 = (Str.join (Str.ofString "'\"'\"'") parts).cps.toList := by
  have free : ∀ l : List Nat, 39 ∉ l → l.flatMap q1 = l := by
    intro l
    induction l with
    | nil => intro _; rfl
    | cons a l ih =>
      intro h
      have h1 : ¬ a = 39 := fun e => h (e ▸ List.mem_cons_self ..)
      rw [List.flatMap_cons, ih fun m => h (List.mem_cons_of_mem _ m)]
      unfold q1; rw [if_neg h1]; rfl
  intro parts
  induction parts with
  | nil => intro _; rfl
  | cons p r ih =>
    intro h
    cases r with
    | nil => exact free _ (h p (List.mem_singleton.mpr rfl))
    | cons q r =>
      have ih := ih fun a ha => h a (List.mem_cons_of_mem _ ha)
      show (p ++ ⟨#[39]⟩ ++ Str.join ⟨#[39]⟩ (q :: r)).cps.toList.flatMap q1 = (p ++ Str.ofString "'\"'\"'" ++ Str.join (Str.ofString "'\"'\"'") (q :: r)).cps.toList
      simp only [Str.cps_append, Array.toList_append, List.flatMap_append]
      rw [ih, free _ (h p (List.mem_cons_self ..))]
      rfl
theorem cs_replace (x : Str) : cs (Txt.replace x (Str.ofString "'") (Str.ofString "'\"'\"'")) = (cs x).flatMap q1 := by
  show (Txt.replace x ⟨#[39]⟩ (Str.ofString "'\"'\"'")).cps.toList = x.cps.toList.flatMap q1
  rw [StrLaws.replace_one, ← rpl_join _ (StrLaws.split_free x 39)]
  rw [StrLaws.join_split]
theorem len_replace (x : Str) : (Txt.replace x (Str.ofString "'") (Str.ofString "'\"'\"'")).length ≤ 5 * x.length := by
  rw [← len_cs, cs_replace, ← len_cs]
  generalize cs x = l
  induction l with
  | nil => exact Nat.le_refl _
  | cons a l ih =>
    rw [List.flatMap_cons, List.length_append, List.length_cons]
    have : (q1 a).length ≤ 5 := by unfold q1; split <;> simp
    lia
noncomputable def quR (x : Str) : Str := if (x.length : Int) = 0 then Str.ofString "''" else if bare x = true then x else Str.ofString "'" ++ Txt.replace x (Str.ofString "'") (Str.ofString "'\"'\"'") ++ Str.ofString "'"
theorem len_quR (x : Str) : (quR x).length ≤ 5 * x.length + 2 := by
  unfold quR
  have h := len_replace x
  split
  · exact Nat.le_add_left _ _
  · split
    · lia
    · have e : ∀ a b : Str, (a ++ b).length = a.length + b.length := fun a b => by
        show (a ++ b).cps.size = _; rw [Str.cps_append, Array.size_append]; rfl
      rw [e, e, show (Str.ofString "'").length = 1 from rfl]; lia

noncomputable def wr1 (x : Str) : Str := if (x != Str.ofString "") = true then quR x else Str.ofString ""
theorem len_wr1 (x : Str) : (wr1 x).length ≤ 7 * x.length := by
  unfold wr1
  split
  · rename_i h
    have := len_quR x
    have h0 : x.length ≠ 0 := fun e => (bne_iff_ne.mp h) (cs_ext (List.eq_nil_of_length_eq_zero (by rw [len_cs]; exact e)))
    lia
  · exact Nat.zero_le _
theorem sum_wr1 (zs : List Str) : ((zs.map wr1).map (·.length)).sum ≤ 7 * (zs.map (·.length)).sum := by
  induction zs with
  | nil => exact Nat.le_refl _
  | cons a r ih =>
    simp only [List.map_cons, List.sum_cons]
    have := len_wr1 a
    lia
noncomputable def lwR (x : Str) : Str := Txt.join (Str.ofString "/") ((Txt.split x (Str.ofString "/")).map wr1)
theorem strsAre_reverse {vs : List Value} {ys : List Str} (h : StrsAre vs ys) : StrsAre vs.reverse ys.reverse := by
  have app : ∀ {a b : List Value} {c d : List Str}, StrsAre a c → StrsAre b d → StrsAre (a ++ b) (c ++ d) := by
    intro a b c d h1 h2
    induction h1 with
    | nil => exact h2
    | cons y t _ ih => exact .cons y t ih
  induction h with
  | nil => exact .nil
  | cons y t _ ih => rw [List.reverse_cons, List.reverse_cons]; exact app ih (.cons y t .nil)
section
variable {prog : Program} {w : World} {A : Around} {E : Value → Shared → Prop} {s : Shared} {h₀ : Heap} {L : Addr} {m : Str → Option Value} {news : List (Addr × Obj)}
theorem sliceRevS {value e1 : Expr} {p1 : Pos} {l : Addr} {lo : Obj} {its : Array Value} {n : Nat} {ys : List Str} {u : Tok} {ops : List Value} {Q : Value → Shared → Prop}
    (F : Fr h₀ L s.heap m) (N : News h₀ L s.heap news) (ho : s.heap.get? l = some lo) (hc : lo.cls = .type "list") (hd : lo.data = .seq its n) (hs' : StrsAre its.toList ys) (hz : ys.length ≤ 1048576)
    (h : ∀ l' h' (vs : List Value), Fr h₀ L h' m → News h₀ L h' ((l', W.listOf vs.toArray 0) :: news) → (∀ p ∈ news, p.1 < l') → StrsAre vs ys.reverse → Q (.ref l') { s with heap := h' })
    (hs : subscripted (.Slice none none (some e1) p1) false (.ref l) (.ref s.heap.objs.size) = operate ops (getItem (.ref l) (.ref s.heap.objs.size)))
    (ht : ∀ r, letTemporaryGo value (.ref l) r = pure ()) :
    wpAny (model prog w) A (subscriptTail value (.Slice none none (some e1) p1) (.ref l) (.ref s.heap.objs.size)) Q E { s with heap := s.heap.push { cls := .type "slice", data := .fields #[.none, .none, .int (-1) u] } } :=
  krv_lit F N ⟨lo, ho, hc, n, hd⟩ (IsPart.int _ _) rfl (fun D h' F' N' l1 => h D h' _ F' N' l1 (strsAre_reverse hs')) hs ht (by
    have := strsAre_len hs'
    have e : its.size = its.toList.length := by simp
    rw [sizeLine_eq]; lia)
end
noncomputable def TurnB (h₀ : Heap) (L : Addr) (x z : Str) (m₀ : Str → Option Value) (D : Addr) (rest : List (Addr × Obj)) (P : List Value → Int → Prop) (s : Shared) (Q : Flow → Shared → Prop) (fl : Flow) (s' : Shared) : Prop :=
  match fl with
  | .ret v => Q (.ret v) s'
  | .brk => Q .next s'
  | _ => ∃ h' tk' m' vs' n' d' t', s' = { s with heap := h', toks := tk' } ∧ Fr h₀ L h' m' ∧ (∀ y, y ≠ x → y ≠ z → m' y = m₀ y) ∧ m' z = some (.int d' t') ∧ News h₀ L h' ((D, W.listOf vs' n') :: rest) ∧ P vs'.toList d'

section
variable {prog : Program} {w : World} {A : Around} {s : Shared} {env : Env} {h₀ : Heap} {x z : Str} {body : List Stmt} {Q : Flow → Shared → Prop} {E : Value → Shared → Prop}

theorem loop_accI {l D : Addr} {lo : Obj} {vs₀ : Array Value} {n₀ n : Nat} {vsI : List Value} {ys : List Str} {m₀ : Str → Option Value} {rest : List (Addr × Obj)} {d₀ : Int} {t₀ : Tok} (P : List Str → List Value → Int → Prop) (hxz : z ≠ x)
    (hh : A.handled = none) (F : Fr h₀ env.locals s.heap m₀) (hm₀ : m₀ z = some (.int d₀ t₀)) (N : News h₀ env.locals s.heap ((D, W.listOf vs₀ n₀) :: rest))
    (hl : (l, lo) ∈ rest) (hc : lo.cls = .type "list") (hd : lo.data = .seq vsI.toArray n) (hs : StrsAre vsI ys) {B : Nat} (hB : ∀ y ∈ ys, y.length ≤ B) (hne : ∀ p ∈ rest, p.1 ≠ D) (h0 : P [] vs₀.toList d₀)
    (turn : ∀ pre y post t vs n h tk I o d td, ys = pre ++ y :: post → y.length ≤ B → P pre vs.toList d → AllNe I ((D, W.listOf vs n) :: rest) → AllNe D (rest ++ [(I, o)]) →
      Fr h₀ env.locals h (fun q => if q = x then some (.str y t) else if q = z then some (.int d td) else m₀ q) →
      News h₀ env.locals h ((D, W.listOf vs n) :: (rest ++ [(I, o)])) →
      wpAny (model prog w) A (execs body env) (TurnB h₀ env.locals x z m₀ D (rest ++ [(I, o)]) (P (pre ++ [y])) { s with heap := h, toks := tk } Q) E { s with heap := h, toks := tk })
    (done : ∀ vs n h tk (u : Option Value) d td, P ys vs.toList d → Fr h₀ env.locals h (fun q => if q = x then u else if q = z then some (.int d td) else m₀ q) → News h₀ env.locals h ((D, W.listOf vs n) :: rest) → Q .next { s with heap := h, toks := tk }) :
    wpAny (model prog w) A (pyIter (.ref l)) (fun it s₂ => LoopAtV prog w A h₀ env x body Q E it s₂) E s := by
  refine loop_list (items := vsI.toArray) (n := n) (lo := lo) (fun i m₁ news₁ => (∀ y, y ≠ x → y ≠ z → m₁ y = m₀ y) ∧ ∃ vs n d td, m₁ z = some (.int d td) ∧ news₁ = (D, W.listOf vs n) :: rest ∧ P (ys.take i) vs.toList d) hh F N hc hd ⟨fun _ _ _ => rfl, vs₀, n₀, d₀, t₀, hm₀, rfl, by simpa using h0⟩ ?_ ?_ ?_
  · rintro i m₁ news₁ ⟨_, vs, n, d, td, _, rfl, _⟩
    exact .inl (List.mem_cons_of_mem _ hl)
  · intro i v m₁ news₁ h tk I o hi hn zz F₁ N₁; refine foldP ?_; intro Gz; obtain ⟨hm, vs, n, d, td, hz, rfl, hP⟩ := zz
    obtain ⟨y, t, rfl, hy⟩ := strsAre_get hs i v (by simpa using hi)
    have e : (fun q => if q = x then some (Value.str y t) else m₁ q) = fun q => if q = x then some (Value.str y t) else if q = z then some (.int d td) else m₀ q := by
      funext q
      split
      · rfl
      · rename_i hq
        split
        · rename_i hqz; rw [hqz]; exact hz
        · rename_i hqz; exact hm q hq hqz
    rw [e] at F₁
    obtain ⟨hlt, hy⟩ := List.getElem?_eq_some_iff.mp hy
    have sp : ys = ys.take i ++ y :: ys.drop (i + 1) := by
      rw [← hy, ← List.drop_eq_getElem_cons hlt, List.take_append_drop]
    have hI := allNe_of (d := I) (l := (D, W.listOf vs n) :: rest) hn
    have hD : AllNe D (rest ++ [(I, o)]) := allNe_of fun p hp => by
      rcases List.mem_append.mp hp with h | h
      · exact hne p h
      · rw [List.mem_singleton.mp h]; exact fun e => hn _ (.head _) e.symm
    (try k_unfold)
    refine wpAny_mono (turn _ y _ t vs n h tk I o d td sp (hB y (by rw [← hy]; exact List.getElem_mem hlt)) hP hI hD F₁ (by simpa using N₁)) (fun f s₂ p => ?_) fun _ _ e => e
    have et : ys.take (i + 1) = ys.take i ++ [y] := by rw [List.take_succ_eq_append_getElem hlt, hy]
    have fin : (∃ h' tk' m' vs' n' d' t', s₂ = { s with heap := h', toks := tk' } ∧ Fr h₀ env.locals h' m' ∧ (∀ y, y ≠ x → y ≠ z → m' y = m₀ y) ∧ m' z = some (.int d' t') ∧ News h₀ env.locals h' ((D, W.listOf vs' n') :: (rest ++ [(I, o)])) ∧ P (ys.take i ++ [y]) vs'.toList d') →
        ∃ h' tk' m' news', s₂ = { s with heap := h', toks := tk' } ∧ Fr h₀ env.locals h' m' ∧ News h₀ env.locals h' (news' ++ [(I, o)]) ∧ (∀ p ∈ news', p.1 ≠ I) ∧ (∀ y, y ≠ x → y ≠ z → m' y = m₀ y) ∧ ∃ vs n d td, m' z = some (.int d td) ∧ news' = (D, W.listOf vs n) :: rest ∧ P (ys.take (i + 1)) vs.toList d := by
      rintro ⟨h', tk', m', vs', n', d', t', e, F', hm', hz', N', hP'⟩
      refine ⟨h', tk', m', (D, W.listOf vs' n') :: rest, e, F', by simpa using N', ?_, hm', vs', n', d', t', hz', rfl, et ▸ hP'⟩
      intro p hp
      rcases List.mem_cons.mp hp with rfl | hp
      · exact hn (D, W.listOf vs n) (.head _)
      · exact hn p (.tail _ hp)
    cases f with
    | ret v => exact p
    | brk => exact p
    | next => exact fin p
    | cont => exact fin p
  · intro m₁ news₁ h tk zz F₁ N₁; refine foldP ?_; intro Gz; obtain ⟨hm, vs, n, d, td, hz, rfl, hP⟩ := zz
    (try k_unfold)
    have e : m₁ = fun q => if q = x then m₁ x else if q = z then some (.int d td) else m₀ q := by
      funext q
      split
      · rename_i hq; rw [hq]
      · rename_i hq
        split
        · rename_i hqz; rw [hqz]; exact hz
        · rename_i hqz; exact hm q hq hqz
    rw [e] at F₁
    have hlen : vsI.toArray.size = ys.length := by rw [List.size_toArray]; exact strsAre_len hs
    rw [hlen, List.take_length] at hP
    exact done vs n h tk (m₁ x) d td hP F₁ N₁
end
theorem ins0 (l : List Value) (y : Value) : kl_ins l 0 y = y :: l := by simp [kl_ins]
theorem fits0 : Builtin.List.listFitsIndex 0 = true := by decide
section
variable {prog : Program} {w : World} {A : Around} {E : Value → Shared → Prop} {s : Shared} {h₀ : Heap} {L D : Addr} {m : Str → Option Value} {news news' : List (Addr × Obj)} {its : Array Value} {n : Nat} {ys : List Str}
theorem insertS {u : Tok} {x : Value} {Q : Value → Shared → Prop} (F : Fr h₀ L s.heap m) (N : News h₀ L s.heap news) (U : Upd D (W.listOf its n) (W.listOf (x :: its.toList).toArray (n + 1)) news news') (hs : StrsAre its.toList ys) (hz : ys.length ≤ 1048576)
    (h : ∀ h', Fr h₀ L h' m → News h₀ L h' news' → Q .none { s with heap := h' }) : wpAny (model prog w) A (call (.builtin "list.insert") [.ref D, .int 0 u, x]) Q E s :=
  kl_insert F N fits0 (ins0 _ _) U (by have := strsAre_len hs; rw [sizeLine_eq]; lia) h
end
theorem news_last2 {h₀ h : Heap} {L : Addr} {a b c : Addr × Obj} (N : News h₀ L h [a, b, c]) : News h₀ L h [c, a, b] := fun p hp => N p (by
  simp only [List.mem_cons, List.not_mem_nil, or_false] at hp ⊢
  rcases hp with h | h | h
  · exact .inr (.inr h)
  · exact .inl h
  · exact .inr (.inl h))
section
variable {prog : Program} {w : World} {A : Around} {E : Value → Shared → Prop} {s : Shared} {a b : Addr} {lo lo2 : Obj} {its its2 : Array Value} {n n2 : Nat} {xs : List Str} {Q : Value → Shared → Prop}
theorem at_arr {j : Nat} (q : j < its.size) (h : StrsAre its.toList xs) : ∃ y t, its[j] = Value.str y t ∧ xs[j]? = some y :=
  strsAre_get h j its[j] (by rw [Array.getElem?_toList, Array.getElem?_eq_getElem q])
theorem same_at (h1 : StrsAre its.toList xs) (h2 : StrsAre its2.toList xs) (j : Nat) (q1 : j < its.size) (q2 : j < its2.size) : SeqAt.EqAt A s its[j] its2[j] true := by
  obtain ⟨y, t, e, ey⟩ := at_arr q1 h1
  obtain ⟨z, u, e2, ez⟩ := at_arr q2 h2
  rw [e, e2, Option.some.inj (ey.symm.trans ez)]
  exact beq_self_eq_true z ▸ SeqAt.EqAt.str_str z t z u
theorem all_yes (k : Nat) : (List.range k).all (fun _ => true) = true := List.all_eq_true.mpr fun _ _ => rfl
theorem same_sz (h1 : StrsAre its.toList xs) (h2 : StrsAre its2.toList xs) : its.size = its2.size := (strsAre_size h1).trans (strsAre_size h2).symm
theorem eqSame (ho : s.heap.get? a = some lo) (hc : lo.cls = .type "list") (hd : lo.data = .seq its n) (hs : StrsAre its.toList xs) (ho2 : s.heap.get? b = some lo2) (hc2 : lo2.cls = .type "list") (hd2 : lo2.data = .seq its2 n2) (hs2 : StrsAre its2.toList xs)
    (hu : A.units < cLine) (h : Q (.bool true) s) : wpAny (model prog w) A (compareOp .Eq (.ref a) (.ref b)) Q E s :=
  SeqAt.eq_listAt (e := fun _ => true) ⟨lo, ho, hc, n, hd⟩ ⟨lo2, ho2, hc2, n2, hd2⟩ (same_sz hs hs2) hu (same_at hs hs2) (by rw [all_yes]; exact h)
theorem neSame (ho : s.heap.get? a = some lo) (hc : lo.cls = .type "list") (hd : lo.data = .seq its n) (hs : StrsAre its.toList xs) (ho2 : s.heap.get? b = some lo2) (hc2 : lo2.cls = .type "list") (hd2 : lo2.data = .seq its2 n2) (hs2 : StrsAre its2.toList xs)
    (hu : A.units < cLine) (h : Q (.bool false) s) : wpAny (model prog w) A (compareOp .NotEq (.ref a) (.ref b)) Q E s :=
  SeqAt.RcNeAt.lists (e := fun _ => true) ⟨lo, ho, hc, n, hd⟩ ⟨lo2, ho2, hc2, n2, hd2⟩ (same_sz hs hs2) hu (same_at hs hs2) prog w E Q (by rw [all_yes]; exact h)
theorem neNil {bb : Bool} (ho : s.heap.get? a = some lo) (hc : lo.cls = .type "list") (hd : lo.data = .seq its n) (hs : StrsAre its.toList xs) (ho2 : s.heap.get? b = some lo2) (hc2 : lo2.cls = .type "list") (hd2 : lo2.data = .seq #[] n2)
    (hu : A.units < cLine) (hb : (!xs.isEmpty) = bb) (h : Q (.bool bb) s) : wpAny (model prog w) A (compareOp .NotEq (.ref a) (.ref b)) Q E s := by
  subst hb
  cases xs with
  | nil => exact neSame ho hc hd hs ho2 hc2 hd2 .nil hu h
  | cons x xs => exact SeqAt.RcNeAt.lists_lengths ⟨lo, ho, hc, n, hd⟩ ⟨lo2, ho2, hc2, n2, hd2⟩ (by rw [strsAre_size hs]; rfl) hu prog w E Q h
end
structure Hid (p : Prop) : Prop where
  out : p
theorem eqGives_bool (a b : Bool) : MeetsSeq.EqGives (.bool a) (.bool b) (a == b) := fun prog w A E s Q h => by
  unfold eqBool
  show wpAny _ _ (if (Value.bool a == Value.bool b) = true then _ else _) Q E s
  by_cases hab : (Value.bool a == Value.bool b) = true
  · rw [if_pos hab]
    have e : a = b := by have := eq_of_beq hab; injection this
    subst e
    exact wpAny_bind (wpAny_rule (wpAny_pure (by simpa using h)))
  · rw [if_neg hab]
    refine wpAny_bind ?_
    show wpAny _ _ (compareOp .Eq (.bool a) (.bool b)) _ _ _
    exact eq_bool (wpAny_truthy_bool h)
noncomputable def isB (b : Bool) (v : Value) : Bool := match v with
  | .bool a => a == b
  | _ => false
theorem inBools {prog : Program} {w : World} {A : Around} {E : Value → Shared → Prop} {s : Shared} {D : Addr} {lo : Obj} {bs : List Bool} {n : Nat} {b : Bool} {Q : Value → Shared → Prop}
    (ho : s.heap.get? D = some lo) (hc : lo.cls = .type "list") (hd : lo.data = .seq (bs.map Value.bool).toArray n) (h : Q (.bool (bs.contains b)) s) : wpAny (model prog w) A (compareOp .In (.bool b) (.ref D)) Q E s := by
  refine SeqAt.in_listAt (isB b) ⟨lo, ho, hc, n, hd⟩ (fun y hy => ?_) ?_
  · simp only [List.mem_toArray, List.mem_map] at hy
    obtain ⟨a, _, rfl⟩ := hy
    exact (eqGives_bool a b).at _ _
  · have e : (bs.map Value.bool).toArray.any (isB b) = bs.contains b := by
      simp only [List.any_toArray, List.any_map]
      rw [List.contains_eq_any_beq]
      congr 1
      funext a
      show (a == b) = (b == a)
      cases a <;> cases b <;> rfl
    rw [e]; exact h
section
variable {prog : Program} {w : World} {A : Around} {E : Value → Shared → Prop} {s : Shared} {value slice : Expr} {x : Str} {t : Tok} {h₀ : Heap} {L : Addr} {m : Str → Option Value} {news : List (Addr × Obj)} {Q : Value → Shared → Prop}
theorem grow_push {h₁ h : Heap} (ob : Obj) (g : Grow h₁ h) : Grow h₁ (h.push ob) := fun b o e => Heap.get?_push_of_some _ (g b o e)
theorem keptG {h₁ : Heap} : KeptH (fun h => Fr h₀ L h m ∧ News h₀ L h news ∧ Grow h₁ h) := fun _ ob a => ⟨Fr.pushS a.1 ob, a.2.1.pushKeep ob, grow_push ob a.2.2⟩
theorem sliceG_ns {j : Int} {uj : Tok} (hF : Fr h₀ L s.heap m) (hN : News h₀ L s.heap news) (hsz : x.length ≤ 1048576) (h : ∀ h' t' k, Fr h₀ L h' m → News h₀ L h' news → Grow s.heap h' → Q (.str (Txt.slice x none (some j)) t') { s with heap := h', toks := k })
    (hs : subscripted slice false (.str x t) (.ref s.heap.objs.size) = operate [.ref s.heap.objs.size, .str x t] (getItem (.str x t) (.ref s.heap.objs.size)) := by with_unfolding_all rfl)
    (ht : ∀ r, letTemporaryGo value (.str x t) r = pure () := by intro _; with_unfolding_all rfl) :
    wpAny (model prog w) A (subscriptTail value slice (.str x t) (.ref s.heap.objs.size)) Q E { s with heap := s.heap.push { cls := .type "slice", data := .fields #[.none, .int j uj, .none] } } :=
  tail_of_ItemOn (SBH.sliceItem_ns keptG ⟨hF, hN, fun _ _ e => e⟩ (fun h' t' k a => h h' t' k a.1 a.2.1 a.2.2) (by rw [sizeLine_eq]; lia)) hs ht
theorem sliceG_nsE {j : Int} {uj : Tok} {od : Data} {nm : Str} {pn ps : Pos} {sl e0 : Expr} (hsl : sl = .Slice none (some e0) none ps) (hod : od = .fields #[.none, .int j uj, .none]) (hF : Fr h₀ L s.heap m) (hN : News h₀ L s.heap news) (hsz : x.length ≤ 1048576)
    (h : ∀ h' t' k, Fr h₀ L h' m → News h₀ L h' news → Grow s.heap h' → Q (.str (Txt.slice x none (some j)) t') { s with heap := h', toks := k }) :
    wpAny (model prog w) A (subscriptTail (.Name nm pn) sl (.str x t) (.ref s.heap.objs.size)) Q E { s with heap := s.heap.push { cls := .type "slice", data := od } } := by
  subst hsl hod; exact sliceG_ns hF hN hsz h (by with_unfolding_all rfl) (by intro _; with_unfolding_all rfl)
end
theorem inBools3 {prog : Program} {w : World} {A : Around} {E : Value → Shared → Prop} {s : Shared} {D : Addr} {lo : Obj} {x y z : Bool} {n : Nat} {b : Bool} {Q : Value → Shared → Prop}
    (ho : s.heap.get? D = some lo) (hc : lo.cls = .type "list") (hd : lo.data = .seq [Value.bool x, Value.bool y, Value.bool z].toArray n) (h : Q (.bool ([x, y, z].contains b)) s) : wpAny (model prog w) A (compareOp .In (.bool b) (.ref D)) Q E s :=
  inBools (bs := [x, y, z]) ho hc hd h
noncomputable def TestT (s : Shared) (b0 : Bool) (b : Bool) (s₂ : Shared) : Prop := b = b0 ∧ ∃ tk, s₂ = { s with toks := tk }
theorem test_cut {M : Model} {A : Around} {E : Value → Shared → Prop} {s : Shared} {t : Sem Bool} {Q : Bool → Shared → Prop} (b0 : Bool) (h : wpAny M A t (TestT s b0) E s) (k : ∀ tk, Q b0 { s with toks := tk }) : wpAny M A t Q E s :=
  wpAny_mono h (fun b s₂ ⟨e1, tk, e2⟩ => by subst e1 e2; exact k tk) fun _ _ e => e
theorem testT {s : Shared} {b b0 : Bool} {tk : Nat} (h : b = b0) : TestT s b0 b { s with toks := tk } := ⟨h, tk, rfl⟩
theorem news_lst {h₀ h₁ h : Heap} {L T : Addr} {m : Str → Option Value} {news : List (Addr × Obj)} {its : Array Value} (F : Fr h₀ L h m) (N : News h₀ L h news) (hk : ∀ b o, h₀.get? b = some o → h₁.get? b = some o) (hT : h₁.get? T = none) (hl : h.IsList T its) :
    ∃ lo n, lo.cls = .type "list" ∧ lo.data = .seq its n ∧ News h₀ L h ((T, lo) :: news) := by
  obtain ⟨lo, g, c, n, d⟩ := hl
  refine ⟨lo, n, c, d, News.more F N g (fun es k q => by rw [d] at q; cases q) ?_⟩
  cases q : h₀.get? T with
  | none => rfl
  | some o => have := hk _ _ q; rw [hT] at this; cases this
theorem push_list {h₀ h : Heap} {L : Addr} {m : Str → Option Value} {news : List (Addr × Obj)} {l : List (Str × Tok)} {x : Str} (F : Fr h₀ L h m) (N : News h₀ L h news) {P : Value → Heap → Prop} {ys : List Str} (e : l.map (·.1) = ys) (hw : (ys.map (·.length)).sum + ys.length ≤ x.length + 1)
    (k : ∀ l' (vs : List Value) h', StrsAre vs ys → (ys.map (·.length)).sum + ys.length ≤ x.length + 1 → (∀ p ∈ news, p.1 < l') → Fr h₀ L h' m → News h₀ L h' ((l', W.listOf vs.toArray 0) :: news) → Grow h h' → h.get? l' = none → P (.ref l') h') :
    P (.ref h.objs.size) (h.push { cls := .type "list", data := .seq (strValues l).toArray }) :=
  k _ (strValues l) _ (e ▸ strsAre_of_values l) hw (fun p hp => Heap.lt_size (N p hp).1) (Fr.pushS F _) (News.push F N _) (grow_push _ fun _ _ e => e) (none_size _)
theorem splitSG {prog : Program} {w : World} {A : Around} {E : Value → Shared → Prop} {s : Shared} {h₀ : Heap} {L : Addr} {m : Str → Option Value} {news : List (Addr × Obj)} {x y : Str} {t u : Tok} {Q : Value → Shared → Prop} (F0 : Fr h₀ L s.heap m) (N : News h₀ L s.heap news) (hy : (y.length == 0) = false) (hz : x.length ≤ 1048576)
    (h : ∀ l' (vs : List Value) h' k, StrsAre vs (Txt.split x y) → ((Txt.split x y).map (·.length)).sum + (Txt.split x y).length ≤ x.length + 1 → (∀ p ∈ news, p.1 < l') → Fr h₀ L h' m → News h₀ L h' ((l', W.listOf vs.toArray 0) :: news) → Grow s.heap h' → s.heap.get? l' = none → Q (.ref l') { s with heap := h', toks := k }) :
    wpAny (model prog w) A (call (.builtin "str.split") [.str x t, .str y u]) Q E s := by
  have hw := split_weight x y (by simp at hy; lia)
  have hn : (PySem.Builtin.Str.partsBetween x (PySem.Builtin.Str.occurrences x y 0 x.length (x.length + 1)) y.length).length ≤ sizeLine := by
    have := StrLaws.occ_length_le x y 0 x.length (x.length + 1)
    rw [length_partsBetween, sizeLine_eq]; lia
  have fin : ∀ l : List (Str × Tok), l.map (·.1) = Txt.split x y → ∀ k, Q (.ref s.heap.objs.size) { s with heap := s.heap.push { cls := .type "list", data := .seq (strValues l).toArray }, toks := k } := fun l e =>
    push_list (x := x) (l := l) F0 N (P := fun v h' => ∀ k, Q v { s with heap := h', toks := k }) e hw fun l' vs h' a b c d e f g k => h l' vs h' k a b c d e f g
  clear h
  cases h1 : (decide (x.length < y.length) || decide (PySem.Builtin.Str.strKind x < PySem.Builtin.Str.strKind y))
  · cases hf : (PySem.Builtin.Str.occurrences x y 0 x.length (x.length + 1)).isEmpty
    · refine call_meets F.slot_str_split (typeIs_str _ _ _) F.entry_str_split (F.args_str_split_2 _ _) (meets_str_split_sep x y t u h1 hy hf (by rw [sizeLine_eq]; lia) hn) ?_
      show wants Q E _ { s with toks := _, heap := s.heap.push { cls := .type "list", data := .seq (strsFrom s.toks (PySem.Builtin.Str.partsBetween x (PySem.Builtin.Str.occurrences x y 0 x.length (x.length + 1)) y.length)).toArray } }
      rw [strsFrom_eq]
      exact fin (numbered s.toks _) ((numbered_texts _ _).trans ((if_neg (ne_true_of_eq_false h1)).trans (if_neg (ne_true_of_eq_false hf))).symm) _
    · exact call_meets F.slot_str_split (typeIs_str _ _ _) F.entry_str_split (F.args_str_split_2 _ _) (meets_str_split_not_found x y t u h1 hy hf)
        (fin [(x, t)] ((if_neg (ne_true_of_eq_false h1)).trans (if_pos hf)).symm s.toks)
  · exact call_meets F.slot_str_split (typeIs_str _ _ _) F.entry_str_split (F.args_str_split_2 _ _) (meets_str_split_cannot_occur x y t u h1)
      (fin [(x, t)] (if_pos h1).symm s.toks)
theorem all_of {its vs : List Value} (hl : vs.length = its.toArray.size) (h : ∀ (j : Nat) v, vs[j]? = some v → its.toArray[j]? = some v) : vs = its := by
  apply List.ext_getElem?
  intro j
  by_cases hj : j < vs.length
  · have := h j vs[j] (List.getElem?_eq_getElem hj)
    rw [List.getElem?_eq_getElem hj, ← this]; simp
  · rw [List.getElem?_eq_none (by lia), List.getElem?_eq_none (by simp at hl; lia)]
theorem none_back {h₁ h₂ : Heap} {T : Addr} (g : Grow h₁ h₂) (h : h₂.get? T = none) : h₁.get? T = none := by
  cases q : h₁.get? T with
  | none => rfl
  | some o => have := g _ _ q; rw [h] at this; cases this
theorem paired3O {R : Value → Value → Prop} {a b c : Value} {ys : List Value} (h : Paired R [a, b, c] ys) : ∃ x y z, ys = [x, y, z] ∧ R a x ∧ R b y ∧ R c z := paired3 h
noncomputable def shJ (m₀ : Str → Option Value) (N0 : List (Addr × Obj)) (a b c : List Str) (n : Nat) (m₁ : Str → Option Value) (news₁ : List (Addr × Obj)) : Prop :=
  ∃ (k : Nat) (t : Tok), news₁ = N0 ∧ m₁ = (fun q => if q = Str.ofString "same" then some (.int (k : Nat) t) else m₀ q) ∧ n = a.length - k ∧ k ≤ a.length ∧ k ≤ b.length ∧ k ≤ c.length ∧ a.take k = b.take k ∧ b.take k = c.take k
noncomputable def shT (a b c : List Str) (k : Nat) (g : Bool) : Prop :=
  (g = true → k < a.length ∧ k < b.length ∧ k < c.length ∧ a[k]? = b[k]? ∧ b[k]? = c[k]?) ∧ (g = false → a.length ≤ k ∨ b.length ≤ k ∨ c.length ≤ k ∨ a[k]? ≠ b[k]? ∨ b[k]? ≠ c[k]?)
noncomputable def RL (N0 : List (Addr × Obj)) (v y : Value) : Prop := ∃ T o its q t, v = .ref T ∧ (T, o) ∈ N0 ∧ o.data = .seq its q ∧ y = .int (its.size : Nat) t
theorem rl_len {h₀ h : Heap} {L T : Addr} {N0 : List (Addr × Obj)} {o : Obj} {its : Array Value} {q : Nat} {ys : List Str} {y : Value} (N : News h₀ L h N0) (hm : (T, o) ∈ N0) (hd : o.data = .seq its q) (hs : StrsAre its.toList ys) (r : RL N0 (.ref T) y) : ∃ t, y = .int (ys.length : Nat) t := by
  obtain ⟨T', o', its', q', t, e, hm', hd', rfl⟩ := r
  cases e
  have : o = o' := Option.some.inj ((News.get N hm).symm.trans (News.get N hm'))
  subst this
  rw [hd] at hd'; cases hd'
  have := strsAre_len hs
  rw [Array.length_toList] at this
  exact ⟨t, by rw [this]⟩
section
variable {prog : Program} {w : World} {A : Around} {E : Value → Shared → Prop} {s : Shared} {D : Addr} {lo : Obj} {n : Nat}
theorem itemL {value slice : Expr} {vs : List Value} {k : Int} {u : Tok} {v : Value} {Q : Value → Shared → Prop} (ho : s.heap.get? D = some lo) (hc : lo.cls = .type "list") (hd : lo.data = .seq vs.toArray n) (h0 : 0 ≤ k) (hk : k < 2 ^ 63) (hx : vs[k.toNat]? = some v) (h : Q v s)
    (hsub : subscripted slice false (.ref D) (.int k u) = operate [.ref D, .int k u] (getItem (.ref D) (.int k u)) := by with_unfolding_all rfl) :
    wpAny (model prog w) A (subscriptTail value slice (.ref D) (.int k u)) Q E s :=
  itemG ho hc hd h0 hk (by simpa using hx) h hsub
end
section
variable {a b c : List Str} {k : Nat} {ex ey ez : Str} (ha : a[k]? = some ex) (hb : b[k]? = some ey) (hc : c[k]? = some ez)
include ha hb hc
theorem shT_t (h1 : (ex == ey) = true) (h2 : (ey == ez) = true) : shT a b c k true := by
  obtain ⟨l1, _⟩ := List.getElem?_eq_some_iff.mp ha
  obtain ⟨l2, _⟩ := List.getElem?_eq_some_iff.mp hb
  obtain ⟨l3, _⟩ := List.getElem?_eq_some_iff.mp hc
  exact ⟨fun _ => ⟨l1, l2, l3, by rw [ha, hb, eq_of_beq h1], by rw [hb, hc, eq_of_beq h2]⟩, fun q => nomatch q⟩
theorem shT_f2 (h2 : (ey == ez) = false) : shT a b c k false :=
  ⟨(fun q => nomatch q), fun _ => .inr (.inr (.inr (.inr (by rw [hb, hc]; exact fun e => beq_eq_false_iff_ne.mp h2 (Option.some.inj e)))))⟩
theorem shT_f1 (h1 : (ex == ey) = false) : shT a b c k false :=
  ⟨(fun q => nomatch q), fun _ => .inr (.inr (.inr (.inl (by rw [ha, hb]; exact fun e => beq_eq_false_iff_ne.mp h1 (Option.some.inj e)))))⟩
end
theorem sum_take (zs : List Str) (k : Nat) : ((zs.take k).map (·.length)).sum + (zs.take k).length ≤ (zs.map (·.length)).sum + zs.length := by
  have h2 := congrArg (fun l : List Str => (l.map (·.length)).sum + l.length) (List.take_append_drop k zs)
  simp only [List.map_append, List.sum_append, List.length_append] at h2
  lia
theorem take_eq_next {a b : List Str} {k : Nat} (h : a.take k = b.take k) (e : a[k]? = b[k]?) : a.take (k + 1) = b.take (k + 1) := by
  rw [List.take_add_one, List.take_add_one, h, e]
structure ItK (prog : Program) (w : World) (A : Around) (I N : Addr) (c : Value) (n : Nat) (P : Nat → Value → Prop) (J : Nat → Heap → Prop) (Jend : Heap → Prop) : Prop where
  low : I < N
  stab : ∀ i h h', J i h → (∀ b o, b < N → h.get? b = some o → h'.get? b = some o) → J i h'
  cls : (c == Value.type "list") = false ∧ (c == Value.type "tuple") = false
  ty : ∀ (M : Model) (B : Around) (s : Shared) (Q : Value → Shared → Prop) (E : Value → Shared → Prop), J 0 s.heap → Q c s → wpAny M B (typeOf (.ref I)) Q E s
  nolen : ∀ (M : Model) (B : Around) (s : Shared) (Q : Option Value → Shared → Prop) (E : Value → Shared → Prop), J 0 s.heap → Q none s → wpAny M B (specialOf (.ref I) (Str.ofString "__len__")) Q E s
  nohint : ∀ (M : Model) (B : Around) (s : Shared) (Q : Option Value → Shared → Prop) (E : Value → Shared → Prop), J 0 s.heap → Q none s → wpAny M B (specialOf (.ref I) (Str.ofString "__length_hint__")) Q E s
  item : ∀ i (s : Shared) (Q : Option Value → Shared → Prop) (E : Value → Shared → Prop), i < n → J i s.heap →
    (∀ v h' tk, P i v → J (i + 1) h' → (∀ b o, N ≤ b → s.heap.get? b = some o → h'.get? b = some o) → Q (some v) { s with heap := h', toks := tk }) → wpAny (model prog w) A (pyNext (.ref I)) Q E s
  done : ∀ (s : Shared) (Q : Option Value → Shared → Prop) (E : Value → Shared → Prop), J n s.heap →
    (∀ h' tk, Jend h' → (∀ b o, N ≤ b → s.heap.get? b = some o → h'.get? b = some o) → Q none { s with heap := h', toks := tk }) → wpAny (model prog w) A (pyNext (.ref I)) Q E s

section
variable {prog : Program} {w : World} {A : Around} {I N : Addr} {c : Value} {n : Nat} {P : Nat → Value → Prop} {J : Nat → Heap → Prop} {Jend : Heap → Prop}
theorem itk_loop {R : Result → Shared → Prop} (K : ItK prog w A.in1 I N c n P J Jend) (hn : n ≤ sizeLine) (S : Addr) (hS : N ≤ S) (res : Value) :
    ∀ (k i : Nat) (s : Shared) (acc : Array Value) (q : Nat), n - i = k → i ≤ n → J i s.heap → s.heap.get? S = some { cls := .type "list", dict := none, data := .seq acc q, slots := #[] } → ItemsOf P acc i →
    (∀ h' tk acc' q', Jend h' → h'.get? S = some { cls := .type "list", dict := none, data := .seq acc' q', slots := #[] } → ItemsOf P acc' n → R (.ok (.ret res)) { s with heap := h', toks := tk }) →
    codeAny (model prog w) A (.builtin "list.extend.loop" ⟨[.ref S, .ref I, res], []⟩) R s := by
  intro k
  induction k with
  | zero =>
    intro i s acc q hk hi hJ hs hacc hR
    have hin : i = n := by lia
    subst hin
    refine codeAny_builtin F.entry_extend_loop ?_
    rw [Around.under_plainId F.plain_extend_loop _]
    show wpAny _ A.in1 (pyNext (.ref I) >>= _) _ _ s
    exact wpAny_bind (K.done s _ _ hJ fun h' tk je hm => wpAny_pure (hR h' tk acc q je (hm S _ hS hs) hacc))
  | succ k ih =>
    intro i s acc q hk hi hJ hs hacc hR
    have hlt : i < n := by lia
    refine codeAny_builtin F.entry_extend_loop ?_
    rw [Around.under_plainId F.plain_extend_loop _]
    show wpAny _ A.in1 (pyNext (.ref I) >>= _) _ _ s
    refine wpAny_bind (K.item i s _ _ hlt hJ fun v h' tk hP hJ' hm => ?_)
    have hs' := hm S _ hS hs
    show wpAny _ A.in1 (updateSeq S (·.push v) >>= _) _ _ _
    refine wpAny_bind (wpAny_updateSeq hs' rfl (wpAny_pure ⟨plainId_quiet F.plain_extend_loop _, ih (i + 1) _ (acc.push v) _ (by lia) hlt (K.stab _ _ _ hJ' fun b o hb e => ?_) (Heap.get?_update_self _ hs' rfl) (hacc.push hP) hR⟩)
      (by rw [hacc.1]; lia) (by show (acc.push v).size ≤ sizeLine + 1; rw [Array.size_push, hacc.1]; lia))
    exact (Heap.get?_update_other _ _ (fun h : S = b => absurd hb (by rw [← h]; exact Nat.not_lt.mpr hS))).trans e

theorem itk_collect {E : Value → Shared → Prop} {s : Shared} {Q : List Value → Shared → Prop} (K : ItK prog w A.in1 I N c n P J Jend) (hself : ∀ (s : Shared) (Q : Value → Shared → Prop) (E : Value → Shared → Prop), J 0 s.heap → Q (.ref I) s → wpAny (model prog w) A.in1 (pyIter (.ref I)) Q E s) (hN : N ≤ s.heap.objs.size) (hJ : J 0 s.heap) (hn : n ≤ sizeLine)
    (hQ : ∀ h' tk acc, Jend h' → ItemsOf P acc n → Q acc.toList { s with heap := h', toks := tk }) : wpAny (model prog w) A (collect (.ref I)) Q E s := by
  have hSI : s.heap.objs.size ≠ I := fun e => absurd (Nat.lt_of_lt_of_le K.low hN) (by rw [e]; exact Nat.lt_irrefl _)
  unfold collect
  refine wpAny_bind (wpAny_runValue (codeAny_builtin F.entry_proto_collect ?_))
  rw [Around.under_plainId F.plain_proto_collect _]
  show wpAny _ A.in1 (newList [] >>= fun l => again (.builtin "list.__iadd__" ⟨[l, .ref I], []⟩)) _ _ s
  refine wpAny_bind (wpAny_newObj_type ?_)
  refine wpAny_pure ⟨plainId_quiet F.plain_list_iadd _, codeAny_builtin F.entry_list_iadd ?_⟩
  rw [Around.under_plainId F.plain_list_iadd _]
  have hJ₁ := K.stab 0 s.heap (s.heap.push { cls := .type "list", data := .seq ([] : List Value).toArray }) hJ fun b o _ e => Heap.get?_push_of_some _ e
  show wpAny _ A.in1 (Builtin.List.listExtendWith (.ref s.heap.objs.size) (.ref I) (.ref s.heap.objs.size)) _ _ _
  unfold Builtin.List.listExtendWith
  refine wpAny_bind (K.ty _ _ _ _ _ hJ₁ ?_)
  have h1 : Builtin.List.listSameRef (.ref s.heap.objs.size) (.ref I) = false := by simp [Builtin.List.listSameRef, hSI]
  simp only [h1, K.cls.1, K.cls.2, Bool.or_false, Bool.false_eq_true, if_false]
  refine wpAny_bind (hself _ _ _ hJ₁ ?_)
  refine wpAny_bind (wpAny_holding ?_)
  unfold Builtin.List.listLengthHint
  refine wpAny_bind (K.nolen _ _ _ _ _ hJ₁ ?_)
  show wpAny _ A.in1 (specialOf (Value.ref I) (Str.ofString "__length_hint__") >>= _) _ _ _
  refine wpAny_bind (K.nohint _ _ _ _ _ hJ₁ ?_)
  refine wpAny_pure ?_
  show wpAny _ A.in1 (rule "list.extend.makes-room" >>= fun _ => Builtin.List.listTouch (.ref s.heap.objs.size) >>= fun _ =>
    again (.builtin "list.extend.loop" ⟨[.ref s.heap.objs.size, .ref I, .ref s.heap.objs.size], []⟩)) _ _ _
  refine wpAny_bind (wpAny_rule ?_)
  have hS₁ : (s.heap.push { cls := .type "list", data := .seq ([] : List Value).toArray }).get? s.heap.objs.size = some { cls := .type "list", data := .seq ([] : List Value).toArray } := Heap.get?_push_size _ rfl
  refine wpAny_bind ?_
  show wpAny _ A.in1 (updateSeq s.heap.objs.size (·.push .none) >>= fun _ => updateSeq s.heap.objs.size (·.pop)) _ _ _
  refine wpAny_bind (wpAny_updateSeq hS₁ rfl ?_)
  have hS₂ := Heap.get?_update_self (Obj.mapSeq (·.push Value.none)) hS₁ rfl
  refine wpAny_updateSeq hS₂ rfl ?_
  have hS₃ := Heap.get?_update_self (Obj.mapSeq (·.pop)) hS₂ rfl
  have oth : ∀ b o, b ≠ s.heap.objs.size → (s.heap.push { cls := .type "list", data := .seq ([] : List Value).toArray }).get? b = some o →
      (((s.heap.push { cls := .type "list", data := .seq ([] : List Value).toArray }).update s.heap.objs.size (Obj.mapSeq (·.push Value.none))).update s.heap.objs.size (Obj.mapSeq (·.pop))).get? b = some o :=
    fun b o hb e => (Heap.get?_update_other _ _ (Ne.symm hb)).trans ((Heap.get?_update_other _ _ (Ne.symm hb)).trans e)
  refine wpAny_pure ⟨plainId_quiet F.plain_extend_loop _, itk_loop K hn _ hN _ n 0 _ _ _ rfl (Nat.zero_le _)
    (K.stab 0 _ _ hJ₁ fun b o hb e => oth b o (fun h => absurd hb (by rw [h]; exact Nat.not_lt.mpr hN)) e) hS₃ (ItemsOf.nil P) fun h' tk acc' q' je hS' hacc => ?_⟩
  show wpAny _ A (load s.heap.objs.size >>= _) _ _ _
  exact wpAny_bind (wpAny_load hS' (wpAny_pure (hQ h' tk acc' je hacc)))

theorem itk_tuple {E : Value → Shared → Prop} {s : Shared} {Q : Value → Shared → Prop} (K : ItK prog w A.in1.in1.in1 I N c n P J Jend) (hself : ∀ (s : Shared) (Q : Value → Shared → Prop) (E : Value → Shared → Prop), J 0 s.heap → Q (.ref I) s → wpAny (model prog w) A.in1.in1.in1 (pyIter (.ref I)) Q E s) (hN : N ≤ s.heap.objs.size) (hJ : J 0 s.heap) (hn : n ≤ sizeLine) (hc : (c == Value.type "tuple") = false)
    (hQ : ∀ h' tk acc, Jend h' → ItemsOf P acc n → Q (.ref h'.objs.size) { s with heap := h'.push { cls := .type "tuple", data := .seq acc }, toks := tk }) : wpAny (model prog w) A (call (.type "tuple") [.ref I]) Q E s := by
  refine callType_codes (Q₁ := fun obj s₁ => s₁.TypeIs obj "tuple" ∧ Q obj s₁) F.called_tuple (F.typeCall_tuple_1 _) F.entry_object_init ?_ fun obj s₁ h₁ => ?_
  · refine codeAny_of_tree ?_
    show wpAny _ _ (do checkBuiltinCall "tuple.__new__" ⟨[.type "tuple", .ref I], []⟩; again (.builtin "tuple.__new__" ⟨[.type "tuple", .ref I], []⟩)) _ _ s
    refine wpAny_bind (wpAny_of_eq (F.newCall_tuple_1 _) (wpAny_pure ⟨plainId_quiet F.plain_tuple_new _, codeAny_builtin F.entry_tuple_new ?_⟩))
    rw [Around.under_plainId F.plain_tuple_new _]
    have hsub := sub_tuple_self
    have hinit := init_tuple_lookup
    have hmh := madeHere_tuple
    wp_walk using K.ty _ _ _ _ _ hJ, itk_collect K hself hN hJ hn
    intro h' tk acc je hacc
    show wpAny _ _ (Builtin.Tuple.tupleExact acc.toList.toArray >>= fun v => ret v) _ _ _
    unfold Builtin.Tuple.tupleExact
    refine wpAny_bind (wpAny_newObj_type ?_ (by show acc.toList.toArray.size ≤ sizeLine; simp only [Array.toArray_toList]; rw [hacc.1]; exact hn))
    refine wpAny_pure ?_
    have e : acc.toList.toArray = acc := by simp
    rw [e]
    exact ⟨⟨_, Heap.get?_push_size _ rfl, rfl⟩, hQ h' tk acc je hacc⟩
  · exact ⟨h₁.1, F.args_object_init_2 obj _, object_init_meets F.called_tuple.init.lookup F.called_tuple.made (by decide) prog w A.in1 _ s₁ ⟨h₁.1, rfl, h₁.2⟩⟩
end
namespace MapF
theorem mro_map : mroOf (.type "map") = pure [.type "map", .type "object"] := by rw [PySem.W.Fast.te9541985092090588186]; kernel_rfl
theorem lookup_new : typeLookup (.type "map") "__new__" = pure (some (.builtin "map.__new__")) := by rw [qT]; kernel_rfl
theorem slot_init : Slot "map" "__init__" "object.__init__" :=
  .of (owner := "object") (n := "__init__") (by rw [qT]; kernel_rfl) (by decide +kernel) (by decide +kernel) (by decide +kernel)
    (by rw [qF]; first | exact .inl (by kernel_rfl) | exact .inr (by kernel_rfl)) (by rw [qS]; kernel_rfl)
theorem slot_iter : Slot "map" "__iter__" "map.__iter__" :=
  .of (owner := "map") (n := "__iter__") (by rw [qT]; kernel_rfl) (by decide +kernel) (by decide +kernel) (by decide +kernel)
    (by rw [qF]; first | exact .inl (by kernel_rfl) | exact .inr (by kernel_rfl)) (by rw [qS]; kernel_rfl)
theorem slot_next : Slot "map" "__next__" "map.__next__" :=
  .of (owner := "map") (n := "__next__") (by rw [qT]; kernel_rfl) (by decide +kernel) (by decide +kernel) (by decide +kernel)
    (by rw [qF]; first | exact .inl (by kernel_rfl) | exact .inr (by kernel_rfl)) (by rw [qS]; kernel_rfl)
theorem called : TypeCalled "map" "map.__new__" "object.__init__" :=
  ⟨by decide +kernel, by rw [qF]; kernel_rfl, ⟨_, _, mro_map⟩, madeBy_type mro_map lookup_new (by decide +kernel), by decide +kernel, by rw [qS]; kernel_rfl, slot_init⟩
theorem typeCall (a b : Value) : checkTypeCall "map" ⟨[a, b], []⟩ = pure () := by rw [PySem.W.Fast.te11612656972197000677]; kernel_rfl
theorem newCall (a b : Value) : checkBuiltinCall "map.__new__" ⟨[.type "map", a, b], []⟩ = pure () := by rw [qB]; kernel_rfl
theorem entry_new : entryFor table "map.__new__" = some Builtin.«map.__new__» := entryFor_of_tree (by kernel_rfl)
theorem entry_next : entryFor table "map.__next__" = some Builtin.«map.__next__» := entryFor_of_tree (by kernel_rfl)
theorem entry_iter : entryFor table "map.__iter__" = some Builtin.«dict_keyiterator.__iter__» :=
  entryFor_alias (id' := "dict_keyiterator.__iter__") (by rw [fastTable_eq_tree]; kernel_rfl) (by decide +kernel) (by rw [PySem.W.Fast.canonicalY_eq]; kernel_rfl) (by rw [fastTable_eq_tree]; kernel_rfl)
theorem args_iter (a : Value) : argsOk "map.__iter__" ⟨[a], []⟩ := by unfold argsOk; rw [qG, qA]; kernel_rfl
theorem args_next (a : Value) : argsOk "map.__next__" ⟨[a], []⟩ := by unfold argsOk; rw [qG, qA]; kernel_rfl
theorem no_len : typeLookup (.type "map") "__len__" = pure none := by rw [qT]; kernel_rfl
theorem no_hint : typeLookup (.type "map") "__length_hint__" = pure none := by rw [qT]; kernel_rfl
theorem sub : isSubtype (.type "map") (.type "map") = pure true := by rw [qS]; kernel_rfl
end MapF
theorem map_new (f : Value) (l : Addr) (items : Array Value) (n : Nat) (dct : Option Addr) (sl : Array (Option Value)) :
    Meets (Builtin.«map.__new__» ⟨[.type "map", f, .ref l], []⟩) (fun _ R s => s.heap.get? l = some { cls := .type "list", dict := dct, data := .seq items n, slots := sl } ∧
      R (.ok (.ret (.ref (s.heap.objs.size + 2))))
        { s with heap := ((s.heap.push { cls := .type "list_iterator", data := .fields #[.ref l, .int 0 0] }).push { cls := .type "tuple", data := .seq #[.ref s.heap.objs.size] }).push { cls := .type "map", data := .fields #[.ref (s.heap.objs.size + 1), f] } }) :=
  .of_wp fun prog w A R s h => by
    obtain ⟨hp, g, d, tk, os⟩ := s; obtain ⟨hl, h⟩ := h
    have hsub := MapF.sub
    have hL : Heap.IsList (Shared.heap ⟨hp, g, d, tk, os⟩) l items := ⟨_, hl, rfl, n, rfl⟩
    wp_walk using AutoSeq1.wpAny_loadPart' hl, wpAny_pyIter_list hL
    refine ⟨_, rfl, ?_⟩
    simpa [Heap.size_push] using h
noncomputable abbrev mapObj (TI : Addr) (f : Value) : Obj := { cls := .type "map", data := .fields #[.ref TI, f] }
noncomputable abbrev tup1 (v : Value) : Obj := { cls := .type "tuple", data := .seq #[v] }
section
variable {prog : Program} {w : World} {A : Around} {E : Value → Shared → Prop} {s : Shared}
theorem call_map {f : Value} {l : Addr} {lo : Obj} {items : Array Value} {n : Nat} {Q : Value → Shared → Prop} (g : s.heap.get? l = some lo) (c : lo.cls = .type "list") (d : lo.data = .seq items n)
    (h : ∀ h', h'.get? (s.heap.objs.size + 2) = some (mapObj (s.heap.objs.size + 1) f) → h'.get? (s.heap.objs.size + 1) = some (tup1 (.ref s.heap.objs.size)) → h'.IsListIter s.heap.objs.size l 0 → h'.objs.size = s.heap.objs.size + 3 → Grow s.heap h' →
      Q (.ref (s.heap.objs.size + 2)) { s with heap := h' }) : wpAny (model prog w) A (call (.type "map") [f, .ref l]) Q E s := by
  obtain ⟨c', dct, dt, sl⟩ := lo
  replace c : c' = .type "list" := c
  replace d : dt = .seq items n := d
  subst c d
  refine callType_new MapF.called (by decide) (MapF.typeCall _ _) (MapF.newCall _ _) (fun obj => F.args_object_init_3 obj _ _) MapF.entry_new (map_new f l items n dct sl) ⟨g, ?_⟩
  have z1 : (s.heap.push { cls := .type "list_iterator", data := .fields #[.ref l, .int 0 0] }).objs.size = s.heap.objs.size + 1 := Heap.size_push ..
  have z2 : ((s.heap.push { cls := .type "list_iterator", data := .fields #[.ref l, .int 0 0] }).push (tup1 (.ref s.heap.objs.size))).objs.size = s.heap.objs.size + 2 := by rw [Heap.size_push, z1]
  have g2 : (((s.heap.push { cls := .type "list_iterator", data := .fields #[.ref l, .int 0 0] }).push (tup1 (.ref s.heap.objs.size))).push (mapObj (s.heap.objs.size + 1) f)).get? (s.heap.objs.size + 2) = some (mapObj (s.heap.objs.size + 1) f) := by
    have := Heap.get?_push_size ((s.heap.push { cls := .type "list_iterator", data := .fields #[.ref l, .int 0 0] }).push (tup1 (.ref s.heap.objs.size))) (o := mapObj (s.heap.objs.size + 1) f) rfl
    rwa [z2] at this
  have g1 : ((s.heap.push { cls := .type "list_iterator", data := .fields #[.ref l, .int 0 0] }).push (tup1 (.ref s.heap.objs.size))).get? (s.heap.objs.size + 1) = some (tup1 (.ref s.heap.objs.size)) := by
    have := Heap.get?_push_size (s.heap.push { cls := .type "list_iterator", data := .fields #[.ref l, .int 0 0] }) (o := tup1 (.ref s.heap.objs.size)) rfl
    rwa [z1] at this
  exact ⟨⟨_, g2, rfl⟩, h _ g2 (Heap.get?_push_of_some _ g1) ⟨_, Heap.get?_push_of_some _ (Heap.get?_push_of_some _ (Heap.get?_push_size _ rfl)), rfl, rfl⟩ (by rw [Heap.size_push, z2])
    fun b o e => Heap.get?_push_of_some _ (Heap.get?_push_of_some _ (Heap.get?_push_of_some _ e))⟩
theorem map_pyIter {M TI : Addr} {f : Value} {Q : Value → Shared → Prop} (g : s.heap.get? M = some (mapObj TI f)) (h : Q (.ref M) s) : wpAny (model prog w) A (pyIter (.ref M)) Q E s := by
  have hT : s.TypeIs (.ref M) "map" := ⟨_, g, rfl⟩
  refine wpAny_pyIter_slot hT MapF.slot_iter (wpAny_call_entry MapF.slot_iter hT MapF.entry_iter ?_ (MapF.args_iter _))
  show wpAny _ _ (ret (.ref M)) _ _ s
  exact wpAny_pure ⟨_, rfl, "map", _, hT, MapF.slot_next.lookup, h⟩
theorem map_next {M TI it l : Addr} {f : Value} {i : Nat} {items : Array Value} {Q : Option Value → Shared → Prop} (hh : A.handled = none) (g : s.heap.get? M = some (mapObj TI f)) (g1 : s.heap.get? TI = some (tup1 (.ref it))) (hit : s.heap.IsListIter it l i) (hl : s.heap.IsList l items)
    (hM : M ≠ it) (item : ∀ x, items[i]? = some x → ∀ h', h'.IsListIter it l (i + 1) → Heap.SameBut it s.heap h' → wpAny (model prog w) A.in1 (call f [x]) (fun v s' => Q (some v) s') (fun _ _ => False) { s with heap := h' })
    (done : items[i]? = none → ∀ h', Heap.ExtBut it s.heap h' → Q none { s with heap := h' }) :
    wpAny (model prog w) A (pyNext (.ref M)) Q E s := by
  have hT : s.TypeIs (.ref M) "map" := ⟨_, g, rfl⟩
  unfold pyNext
  refine wpAny_bind (wpAny_attempt (wpAny_callSpecial?_slot (name := Str.ofString "__next__") hT MapF.slot_next (wpAny_call_entry MapF.slot_next hT MapF.entry_next ?_ (MapF.args_next _))))
  show wpAny _ _ (field (.ref M) 0 >>= _) _ _ s
  refine wpAny_bind (wpAny_field g rfl (x := .ref TI) rfl ?_)
  show wpAny _ _ (seqItems? (.ref TI) >>= _) _ _ s
  refine wpAny_bind (wpAny_seqItems g1 rfl ?_)
  show wpAny _ _ (forIn (#[Value.ref it] : Array Value) (#[] : Array Value) _ >>= _) _ _ s
  rw [← Array.forIn_toList]
  simp only [List.forIn_cons, List.forIn_nil]
  cases hx : items[i]? with
  | some x =>
    refine wpAny_bind (wpAny_bind (wpAny_bind (wpAny_holding (wpAny_nextOf_list_item hit hl hx fun h' i' hs => wpAny_pure (wpAny_pure ?_)))))
    have gM : h'.get? M = some (mapObj TI f) := hs.extBut _ _ hM g
    refine wpAny_bind (wpAny_field gM rfl (x := f) rfl ?_)
    refine wpAny_bind (wpAny_holding (wpAny_noRaise ?_))
    refine wpAny_mono (item x hx h' i' hs) (fun v s' hq => ?_) fun _ _ z => z
    refine wpAny_bind (wpAny_letGo (wpAny_pure ⟨_, rfl, ?_⟩))
    exact wpAny_pure hq
  | none =>
    refine wpAny_bind (wpAny_bind (wpAny_bind (wpAny_holding (wpAny_nextOf_list_end hh hit hl hx fun h' e hk he => ?_))))
    refine wpAny_bind (wpAny_isInstance (T := "StopIteration") (b := true) he isSubtype_stop ?_)
    exact wpAny_pure (done hx h' hk)
end
theorem itk_map {prog : Program} {w : World} {A : Around} {h₀ h₁ : Heap} {L M TI it l : Addr} {lo : Obj} {m : Str → Option Value} {news : List (Addr × Obj)} {f : Value} {items : Array Value} {n : Nat} {R : Value → Value → Prop}
    (hh : A.handled = none) (hs : h₁.objs.size = it + 3) (hTI : TI = it + 1) (hM : M = it + 2) (hlit : l < it) (hLit : L < it) (hh₀ : h₀.objs.size ≤ it) (hn : ∀ p ∈ news, p.1 < it) (hc : lo.cls = .type "list") (hd : lo.data = .seq items n)
    (hcall : ∀ x ∈ items, ∀ s : Shared, Fr h₀ L s.heap m → News h₀ L s.heap news → wpAny (model prog w) A.in1 (call f [x]) (fun v s' => R x v ∧ ∃ h' tk, s' = { s with heap := h', toks := tk } ∧ Grow s.heap h') (fun _ _ => False) s) :
    ItK prog w A M (it + 3) (.type "map") items.size (fun i v => ∃ x, items[i]? = some x ∧ R x v)
      (fun i h => h.get? M = some (mapObj TI f) ∧ h.get? TI = some (tup1 (.ref it)) ∧ h.IsListIter it l i ∧ h.get? l = some lo ∧ Fr h₀ L h m ∧ News h₀ L h news) (fun h => Fr h₀ L h m ∧ News h₀ L h news) where
  low := by subst hM; exact Nat.lt_succ_self _
  stab := by
    rintro i h h' ⟨a, b, c, d, e, g⟩ hk
    subst hTI hM
    refine ⟨hk _ _ (Nat.lt_succ_self _) a, hk _ _ (Nat.lt_succ_of_lt (Nat.lt_succ_self _)) b, c.at fun o e => hk _ _ (Nat.lt_succ_of_lt (Nat.lt_succ_of_lt (Nat.lt_succ_self _))) e, hk _ _ (Nat.lt_of_lt_of_le hlit (Nat.le_add_right _ _)) d, ⟨?_, fun b o e' => hk _ _ (Nat.lt_of_lt_of_le (Heap.lt_size e') (Nat.le_trans hh₀ (Nat.le_add_right _ _))) (e.keep b o e'), e.above⟩, fun p hp => ⟨hk _ _ (Nat.lt_of_lt_of_le (hn p hp) (Nat.le_add_right _ _)) (g p hp).1, (g p hp).2⟩⟩
    exact e.ns.at' fun o e' => hk _ _ (Nat.lt_of_lt_of_le hLit (Nat.le_add_right _ _)) e'
  cls := ⟨by decide, by decide⟩
  ty := fun _ _ _ _ _ j q => wpAny_typeOf ⟨_, j.1, rfl⟩ q
  nolen := fun _ _ _ _ _ j q => wpAny_specialOf ⟨_, j.1, rfl⟩ MapF.no_len q
  nohint := fun _ _ _ _ _ j q => wpAny_specialOf ⟨_, j.1, rfl⟩ MapF.no_hint q
  item := by
    rintro i s Q E hi ⟨a, b, c, d, e, g⟩ k
    subst hTI hM
    have hit : ∀ {p : Addr}, p < it → p ≠ it := fun h => Nat.ne_of_lt h
    refine map_next hh a b c ⟨lo, d, hc, n, hd⟩ (Nat.ne_of_gt (by exact Nat.lt_succ_of_lt (Nat.lt_succ_self _))) (fun x hx h' i' hs' => ?_) (fun hx => absurd hx (by simp [hi]))
    have F' : Fr h₀ L h' m := ⟨e.ns.sameBut hs' (hit hLit), fun b o q => hs'.extBut b o (fun z => absurd (Heap.lt_size q) (by rw [z]; exact Nat.not_lt.mpr hh₀)) (e.keep b o q), e.above⟩
    have N' : News h₀ L h' news := fun p hp => ⟨hs'.extBut _ _ (hit (hn p hp)) (g p hp).1, (g p hp).2⟩
    refine wpAny_mono (hcall x (Array.mem_of_getElem? hx) _ F' N') (fun v s' hv => ?_) fun _ _ z => z
    obtain ⟨hR, h'', tk, rfl, gr⟩ := hv
    refine k v h'' tk ⟨x, hx, hR⟩ ⟨gr _ _ (hs'.extBut _ _ (Nat.ne_of_gt (by exact Nat.lt_succ_of_lt (Nat.lt_succ_self _))) a), gr _ _ (hs'.extBut _ _ (Nat.ne_of_gt (by exact Nat.lt_succ_self _)) b), i'.at fun o e => gr _ _ e, gr _ _ (hs'.extBut _ _ (hit hlit) d), F'.grownK gr, N'.grown gr⟩ fun b o hb q => gr _ _ (hs'.extBut b o (fun z => absurd hb (by rw [z]; exact Nat.not_le.mpr (Nat.lt_succ_of_lt (Nat.lt_succ_of_lt (Nat.lt_succ_self _))))) q)
  done := by
    rintro s Q E ⟨a, b, c, d, e, g⟩ k
    subst hTI hM
    have hit : ∀ {p : Addr}, p < it → p ≠ it := fun h => Nat.ne_of_lt h
    refine map_next hh a b c ⟨lo, d, hc, n, hd⟩ (Nat.ne_of_gt (by exact Nat.lt_succ_of_lt (Nat.lt_succ_self _))) (fun x hx => absurd hx (by simp)) (fun _ h' hk => ?_)
    have F' : Fr h₀ L h' m := ⟨e.ns.at' fun o q => hk _ _ (hit hLit) q, fun b o q => hk b o (fun z => absurd (Heap.lt_size q) (by rw [z]; exact Nat.not_lt.mpr hh₀)) (e.keep b o q), e.above⟩
    exact k h' s.toks ⟨F', fun p hp => ⟨hk _ _ (hit (hn p hp)) (g p hp).1, (g p hp).2⟩⟩ fun b o hb q => hk b o (fun z => absurd hb (by rw [z]; exact Nat.not_le.mpr (Nat.lt_succ_of_lt (Nat.lt_succ_of_lt (Nat.lt_succ_self _))))) q
theorem three_strs {x y z : Str} {tx ty tz : Tok} {acc : Array Value} (h : ItemsOf (fun i v => ∃ a, (#[Value.str x tx, .str y ty, .str z tz] : Array Value)[i]? = some a ∧ ∀ (y : Str) (t : Tok), a = .str y t → ∃ t', v = .str y t') acc 3) :
    ∃ t1 t2 t3, acc = #[.str x t1, .str y t2, .str z t3] := by
  obtain ⟨hl, hp⟩ := h
  obtain ⟨l⟩ := acc
  obtain ⟨a, b, c, rfl⟩ := len3 hl
  obtain ⟨_, e0, h0⟩ := hp 0 a rfl
  obtain ⟨_, e1, h1⟩ := hp 1 b rfl
  obtain ⟨_, e2, h2⟩ := hp 2 c rfl
  obtain ⟨t1, q1⟩ := h0 x tx (Option.some.inj e0).symm
  obtain ⟨t2, q2⟩ := h1 y ty (Option.some.inj e1).symm
  obtain ⟨t3, q3⟩ := h2 z tz (Option.some.inj e2).symm
  exact ⟨t1, t2, t3, by rw [q1, q2, q3]⟩
noncomputable def GS (v : Value) (its : Array Value) : Prop := ∀ a t, v = .str a t → StrsAre its.toList (Txt.split a nS)
namespace SetB
theorem slot_hash : Slot "bool" "__hash__" "int.__hash__" :=
  .of (owner := "int") (n := "__hash__") (by rw [qT]; kernel_rfl) (by decide +kernel) (by decide +kernel) (by decide +kernel)
    (by rw [qF]; first | exact .inl (by kernel_rfl) | exact .inr (by kernel_rfl)) (by rw [qS]; kernel_rfl)
end SetB
theorem pyHash_bool {prog : Program} {w : World} {A : Around} {E : Value → Shared → Prop} {s : Shared} {b : Bool} {Q : Int → Shared → Prop} (h : Q (if b then 1 else 0) { s with toks := s.toks + 1 }) : wpAny (model prog w) A (pyHash (.bool b)) Q E s := by
  have hT : s.TypeIs (.bool b) "bool" := rfl
  unfold pyHash
  have hv : [Value.bool b].any Value.onHeap = false := rfl
  refine wpAny_bind ?_
  rw [cRoomFor, if_neg (by rw [hv]; exact Bool.false_ne_true)]
  refine wpAny_pure ?_
  refine wpAny_bind (wpAny_specialOf hT SetB.slot_hash.lookup ?_)
  show wpAny _ _ (if (some (Value.builtin "int.__hash__") == some Value.none) = true then _ else _) Q E s
  rw [if_neg (by rw [beq_builtin_none]; exact Bool.false_ne_true)]
  refine wpAny_bind (wpAny_specialOf hT SetB.slot_hash.lookup ?_)
  show wpAny _ _ (callSpecialIfBoundUnlessNone? (.bool b) "__hash__" _ >>= _) Q E s
  refine wpAny_bind (wpAny_callSpecialIfBoundUnlessNone?_slot hT SetB.slot_hash
    (wpAny_call_entry SetB.slot_hash hT entry_int_hash (show wpAny _ _ (do ret (← mkInt (rawHash (if b then 1 else 0)))) _ _ s from wpAny_ret_mkInt ?_) (by unfold argsOk; rw [qG, qA]; kernel_rfl)))
  cases b
  · exact wpAny_pure h
  · exact wpAny_pure h
theorem eqGives_boolD {prog : Program} {w : World} {A : Around} {E : Value → Shared → Prop} {s : Shared} {a b : Bool} {Q : Bool → Shared → Prop} (h : Q (decide (a = b)) s) : wpAny (model prog w) A (eqBool (.bool a) (.bool b)) Q E s := by
  have e : decide (a = b) = (a == b) := by cases a <;> cases b <;> rfl
  rw [e] at h
  exact (eqGives_bool a b) _ _ _ _ _ _ h
noncomputable def boolKind (prog : Program) (w : World) : KeyKind prog w Bool where
  is b v := v == .bool b
  hash b := if b then 1 else 0
  inj := fun v a b ha hb => by
    have ha := eq_of_beq ha; have hb := eq_of_beq hb; rw [ha] at hb; injection hb
  byValue := fun k v h => by have h := eq_of_beq h; subst h; rfl
  pyHash := fun hv h => by have hv := eq_of_beq hv; subst hv; exact pyHash_bool h
  eqBool := fun hu hv h => by
    have hu := eq_of_beq hu; have hv := eq_of_beq hv; subst hu hv
    exact eqGives_boolD h
  «strs» := fun k x t v h => by have h := eq_of_beq h; injection h
theorem compTurn_set (elt target iter : Expr) (scope : Scope) (pos : Pos) (it acc : Value) (env : Env) :
    compTurn (.SetComp elt [⟨target, iter, [], 0⟩] scope pos) 0 it acc env = (standAt iter.pos >>= fun _ => pyNext it >>= fun r => match r with
      | none => pure (.done .next)
      | some v => letOwnedTupleGo target it v >>= fun _ => assign target env v >>= fun _ =>
        (eval elt env >>= fun x => standAt elt.pos >>= fun _ => call (.builtin "set.add") [acc, x] >>= fun _ => pure ()) >>= fun _ =>
          again (.compLoop (.SetComp elt [⟨target, iter, [], 0⟩] scope pos) 0 it acc env)) := by rfl
section
variable {prog : Program} {w : World} {A : Around} {R : Result → Shared → Prop} {s : Shared}
theorem compLoop_set {elt target iter : Expr} {scope : Scope} {pos : Pos} {it acc : Value} {env : Env} (I : Nat → Shared → Prop)
    (turn : ∀ n s, I n s → wpAny (model prog w) A (pyNext it) (fun r s₁ => match r with
      | none => R (.ok .next) s₁
      | some v => wpAny (model prog w) A (assign target env v) (fun _ s₂ => wpAny (model prog w) A (eval elt env) (fun x s₃ =>
          wpAny (model prog w) A (call (.builtin "set.add") [acc, x]) (fun _ s₄ => ∃ m, m < n ∧ I m s₄) (notedBy (model prog w) A env fun e s' => R (.error e) s') s₃)
          (notedBy (model prog w) A env fun e s' => R (.error e) s') s₂) (notedBy (model prog w) A env fun e s' => R (.error e) s') s₁) (notedBy (model prog w) A env fun e s' => R (.error e) s') s)
    (n : Nat) (h : I n s) (ht : ∀ v, letOwnedTupleGo target it v = pure () := by intro _; rfl) :
    codeAny (model prog w) A (.compLoop (.SetComp elt [⟨target, iter, [], 0⟩] scope pos) 0 it acc env) R s := by
  refine codeAny_loop rfl I (fun n s hI => ?_) n h
  show wpAny _ A ((compTurn (.SetComp elt [⟨target, iter, [], 0⟩] scope pos) 0 it acc env).onRaise (fun x => do noteFrame x env; theTreesLotGoes x)) _ _ s
  refine wpAny_noted ?_
  rw [compTurn_set]
  refine wpAny_bind (wpAny_standAt (wpAny_bind (wpAny_mono (turn n s hI) (fun r s₁ h₁ => ?_) fun _ _ h' => h')))
  cases r with
  | none => exact wpAny_pure h₁
  | some v =>
    refine wpAny_bind (wpAny_of_eq (ht v) ?_)
    exact wpAny_bind (wpAny_mono h₁ (fun _ s₂ h₂ => wpAny_bind (wpAny_bind (wpAny_mono h₂ (fun x s₃ h₃ => wpAny_bind (wpAny_standAt (wpAny_bind (wpAny_mono h₃
      (fun _ s₄ h₄ => wpAny_pure (wpAny_pure ⟨rfl, h₄⟩)) fun _ _ h' => h')))) fun _ _ h' => h'))) fun _ _ h' => h')
theorem compStart_set {elt target iter : Expr} {scope : Scope} {pos : Pos} {it acc : Value} {env : Env}
    (h0 : codeAny (model prog w) A (.compLoop (.SetComp elt [⟨target, iter, [], 0⟩] scope pos) 0 it acc env) R s)
    (h : wpAny (model prog w) A (pyIter it) (fun it' s' => codeAny (model prog w) A (.compLoop (.SetComp elt [⟨target, iter, [], 0⟩] scope pos) 0 it' acc env) R s') (notedBy (model prog w) A env fun x s' => R (.error x) s') s) :
    codeAny (model prog w) A (.compStart (.SetComp elt [⟨target, iter, [], 0⟩] scope pos) 0 it acc env) R s := by
  refine codeAny_of_tree ?_
  show wpAny _ _ ((compStart (.SetComp elt [⟨target, iter, [], 0⟩] scope pos) 0 it acc env).onRaise (fun x => do noteFrame x env; standAt theWindowsPlace)) _ _ s
  refine wpAny_notedAt ?_
  unfold compStart
  show wpAny _ _ (ask >>= _) _ _ s
  refine wpAny_bind (wpAny_askSetting (wpAny_ite ?_))
  split
  · first
      | exact wpAny_bind (wpAny_pure (wpAny_pure (And.intro rfl h0)))
      | exact wpAny_pure (And.intro rfl h0)
  · refine wpAny_bind (wpAny_rule ?_)
    show wpAny _ _ (standAt iter.pos >>= _) _ _ s
    exact wpAny_bind (wpAny_standAt (wpAny_bind (wpAny_mono h (fun it' s' h' => wpAny_pure (And.intro rfl h')) fun _ _ x => x)))
end
noncomputable def setT (led : Bool) : Bool → Bool → SetTable
  | false, false => { mask := 7, place := #[], dummies := #[], finger := 0, led, moves := 0, plain := true }
  | true, false => { mask := 7, place := #[1], dummies := #[], finger := 0, led, moves := 0, plain := true }
  | false, true => { mask := 7, place := #[0], dummies := #[], finger := 0, led, moves := 0, plain := true }
  | true, true => { mask := 7, place := #[0, 1], dummies := #[], finger := 0, led, moves := 0, plain := true }
noncomputable def setE : Bool → Bool → Array (Int × Value)
  | false, false => #[]
  | true, false => #[(1, .bool true)]
  | false, true => #[(0, .bool false)]
  | true, true => #[(0, .bool false), (1, .bool true)]
noncomputable def setN : Bool → Bool → Nat
  | false, false => 0
  | true, false => 1
  | false, true => 1
  | true, true => 2
noncomputable def setO (led hT hF : Bool) : Obj := { cls := .type "set", dict := none, data := .set (setE hT hF) (setN hT hF) (setT led hT hF), slots := #[] }
theorem set_lay (led hT hF b : Bool) (h : (if b then hT else hF) = false) : layNew (setT led hT hF) (setE hT hF) (if b then 1 else 0) (.bool b) = (setE (hT || b) (hF || !b), setT led (hT || b) (hF || !b), false, false) := by
  cases b <;> cases hT <;> cases hF <;> first | (cases h; done) | (cases led <;> kernel_rfl)
theorem set_scan {prog : Program} {w : World} (led hT hF b : Bool) : (List.findIdx? (fun e => (boolKind prog w).is b e.2) (setE hT hF).toList).isSome = (if b then hT else hF) := by
  cases b <;> cases hT <;> cases hF <;> rfl
section
variable {prog : Program} {w : World} {A : Around} {E : Value → Shared → Prop} {s : Shared} {D : Addr}
theorem set_fits (led hT hF : Bool) : (setT led hT hF).fits (setE hT hF).size = true := by cases led <;> cases hT <;> cases hF <;> rfl
theorem set_els (hT hF : Bool) : ElemsOf (boolKind prog w) (setE hT hF).toList := by
  intro e he
  cases hT <;> cases hF <;> simp [setE] at he
  · subst he; exact ⟨⟨false, by simp [boolKind], rfl⟩, rfl⟩
  · subst he; exact ⟨⟨true, by simp [boolKind], rfl⟩, rfl⟩
  · rcases he with rfl | rfl
    · exact ⟨⟨false, by simp [boolKind], rfl⟩, rfl⟩
    · exact ⟨⟨true, by simp [boolKind], rfl⟩, rfl⟩
theorem set_same {led hT hF b : Bool} (h : true = (if b then hT else hF)) : setO led (hT || b) (hF || !b) = setO led hT hF := by cases b <;> cases hT <;> cases hF <;> first | rfl | (cases h; done)
theorem set_plain {led a b : Bool} : (setT led a b).plain = true := by cases a <;> cases b <;> rfl
theorem set_roomy {led a b : Bool} : (setT led a b).tooFull = false := by cases a <;> cases b <;> cases led <;> rfl
theorem set_size {a b : Bool} : (setE a b).size ≤ sizeLine := by
  have h2 : 2 ≤ sizeLine := Nat.le_of_ble_eq_true rfl
  refine Nat.le_trans ?_ h2
  cases a <;> cases b <;> exact Nat.le_of_ble_eq_true rfl
theorem set_put {led hT hF b : Bool} (h : false = (if b then hT else hF)) : some (Obj.putSet (setE (hT || b) (hF || !b)) (setT led (hT || b) (hF || !b)) (setO led hT hF)) = some (setO led (hT || b) (hF || !b)) := by
  cases b <;> cases hT <;> cases hF <;> first | rfl | (cases h; done)
theorem set_add_b {led hT hF b : Bool} {Q : Value → Shared → Prop} (ho : s.heap.get? D = some (setO led hT hF)) (h : ∀ h', h'.get? D = some (setO led (hT || b) (hF || !b)) → Heap.SameBut D s.heap h' → Q .none { s with heap := h', toks := s.toks + 1 }) :
    wpAny (model prog w) A (call (.builtin "set.add") [.ref D, .bool b]) Q E s := by
  have hT' : s.TypeIs (.ref D) "set" := ⟨_, ho, rfl⟩
  refine wpAny_call_entry F.slot_set_add hT' F.entry_set_add ?_ (F.args_set_add_2 _ _)
  unfold Builtin.«set.add» Builtin.Frozenset.oneOther
  simp only [List.isEmpty_nil, bind_assoc]
  unfold Builtin.Frozenset.addrOf setAdd
  refine wpAny_bind (wpAny_pure ?_)
  try dsimp only
  refine wpAny_bind (wpAny_pure ?_)
  try dsimp only
  refine wpAny_bind ?_
  refine wpAny_holding ?_
  refine wpAny_bind (pyHash_bool ?_)
  unfold setAddHashed setAddHashedIn
  refine wpAny_holding (wpAny_bind (wpAny_setState_of (s := { s with toks := s.toks + 1 }) ho rfl (set_fits led hT hF) ?_))
  dsimp only
  rw [byScan_of (knd := boolKind prog w) rfl (by clear ho h hT'; cases hT <;> cases hF <;> decide) (set_els hT hF)]
  simp only [↓reduceIte]
  unfold setAddByScan
  refine wpAny_bind ?_
  refine wpAny_bind (wpAny_rule ?_)
  refine wpAny_bind (wpAny_setScan_of (knd := boolKind prog w) (k := b) (by simp [boolKind]) ho rfl (set_fits led hT hF) (set_els hT hF) ?_)
  have hsc := set_scan (prog := prog) (w := w) led hT hF b
  cases hr : List.findIdx? (fun e => (boolKind prog w).is b e.2) (setE hT hF).toList with
  | some j =>
    rw [hr] at hsc
    dsimp only
    refine wpAny_pure (wpAny_pure ?_)
    have e : setO led (hT || b) (hF || !b) = setO led hT hF := set_same hsc
    have := h s.heap (by rw [e]; exact ho) (Heap.SameBut.refl D s.heap)
    exact wpAny_pure ⟨_, rfl, this⟩
  | none =>
    rw [hr] at hsc
    dsimp only
    rw [set_lay led hT hF b hsc.symm]
    dsimp only
    have hgw : ∀ (b : Bool) {s₁ : Shared} {Q' : Unit → Shared → Prop}, Q' () s₁ → wpAny (model prog w) A.in1 (match b with | true => rule "set.scan.the-table-gave-way" | false => pure ()) Q' E s₁ :=
      fun b s₁ Q' hq => by cases b <;> first | exact wpAny_pure hq | exact wpAny_rule hq
    refine wpAny_bind (hgw false ?_)
    have hpl : (setT led (hT || b) (hF || !b)).plain = true := set_plain
    have htf : (setT led (hT || b) (hF || !b)).tooFull = false := set_roomy
    rw [if_pos hpl]
    refine wpAny_bind ?_
    rw [hashByValue_scannable 8 (x := .bool b) rfl]
    refine wpAny_pure ?_
    rw [show plainKind (.bool b) = true from rfl]
    simp only [if_true, htf, Bool.not_false, Bool.and_false, Bool.false_eq_true, if_false]
    refine wpAny_bind (wpAny_storeSet_of ho rfl ?_ set_size)
    refine wpAny_pure (wpAny_pure (wpAny_pure ?_))
    refine ⟨_, rfl, h _ ?_ (Heap.SameBut.update s.heap D _)⟩
    have e := Heap.get?_update_self (Obj.putSet (setE (hT || b) (hF || !b)) (setT led (hT || b) (hF || !b))) ho (by rw [putSet_of _ _ (ep := setN hT hF) (t := setT led hT hF) (es := setE hT hF) rfl]; rfl)
    rw [e]
    exact set_put hsc
end
noncomputable def setOf (w : World) (bs : List Bool) : Obj := setO (!w.params.followText "set-order") (bs.contains true) (bs.contains false)
theorem setOf_snoc (w : World) (bs : List Bool) (b : Bool) : setOf w (bs ++ [b]) = setO (!w.params.followText "set-order") (bs.contains true || b) (bs.contains false || !b) := by
  unfold setOf
  congr 1
  · cases b <;> simp
  · cases b <;> simp
section
variable {prog : Program} {w : World} {A : Around} {E : Value → Shared → Prop} {s : Shared}
theorem new_setO {Q : Value → Shared → Prop} (h : Q (.ref s.heap.objs.size) { s with heap := s.heap.push (setOf w []) }) : wpAny (model prog w) A (newSet (.type "set")) Q E s := by
  unfold newSet setsByText
  refine wpAny_bind (wpAny_bind (wpAny_askSetting (wpAny_pure ?_)))
  dsimp only
  simp only [newObj]
  exact wpAny_bind (wpAny_alloc (wpAny_pure h))
end
noncomputable def LsE (prog : Program) (w : World) (A : Around) (env : Env) (scope : Scope) (cl : List (Str × Addr)) (x : Str) (elt : Expr) (h₀ : Heap) (L : Addr) (β : Value → Bool) (Q : Value → Shared → Prop) (xv : Value) (s₁ : Shared) : Prop :=
  ∃ n P m news, LgSrc prog w A env scope cl x [] elt h₀ L (fun _ => true) (fun _ _ v y => y = .bool (β v)) xv s₁ n P m news ∧ n ≤ 64 ∧
      ∀ D h' tk (vs : List Value), vs.length = n → (∀ j v, vs[j]? = some v → P j v) → Fr h₀ L h' m → News h₀ L h' news → Grow s₁.heap h' → s₁.heap.get? D = none → h'.get? D = some (setOf w (vs.map β)) → Q (.ref D) { s₁ with heap := h', toks := tk }
section
variable {prog : Program} {w : World} {A : Around} {E : Value → Shared → Prop} {s : Shared} {env : Env} (h₀ : Heap) (L : Addr)
theorem set_comp {elt iter : Expr} {x : Str} {px : Pos} {scope : Scope} {cl : List (Str × Addr)} {pos : Pos} {Q : Value → Shared → Prop} (β : Value → Bool)
    (hclos : closureFor scope env = pure cl) (hsc : (scope.kind == .function && scope.names.all (fun y => y.2 != .cell && (y.2 != .local || decide (scope.names.lookup y.1 = some .local)))) = true)
    (hx : scope.names.lookup x = some .local)
    (h : wpAny (model prog w) A (eval iter env) (fun xv s₁ => LsE prog w A env scope cl x elt h₀ L β Q xv s₁) E s)
    (hs : ∀ x, foldedSetIterable iter env x = pure x) :
    wpAny (model prog w) A (eval (.SetComp elt [⟨.Name x px, iter, [], 0⟩] scope pos) env) Q E s := by
  simp only [Bool.and_eq_true, beq_iff_eq, List.all_eq_true, bne_iff_ne, Bool.or_eq_true, decide_eq_true_eq] at hsc
  show wpAny (model prog w) A (comprehension (.SetComp elt [⟨.Name x px, iter, [], 0⟩] scope pos) scope env _ (newSet (.type "set")) false (eval iter env)) Q E s
  refine wpAny_comprehension_free (use := none) rfl hs hclos hsc.1 (fun y hy e => (hsc.2 y hy).2.resolve_left fun q => q e) (wpAny_mono h (fun xv s₁ h₁ => ?_) fun _ _ e => e)
  refine foldP ?_; intro Gz
  obtain ⟨n, P, m, news, S, hn, hfin⟩ := h₁
  (try k_unfold)
  refine S.src _ _ fun I fp wr St h₂ Wk st hfp hwr hlive g₂ => ?_
  refine new_setO ?_
  have hS0 : (h₂.push (setOf w [])).get? h₂.objs.size = some (setOf w []) := Heap.get?_push_size _ rfl
  dsimp only
  generalize hH2 : h₂.push (setOf w []) = H2 at hS0 ⊢
  have hC : H2.objs.size = h₂.objs.size + 1 := by rw [← hH2, Heap.size_push]
  refine wpAny_newFunctionEnv (fun y hy => (hsc.2 y hy).1) (by intro y hy; simp at hy) (fun h₁ hns₁ hsb₁ => ?_) hsc.1
  dsimp only at hns₁ hsb₁ ⊢
  have hDC : h₂.objs.size ≠ H2.objs.size := by rw [hC]; exact Nat.ne_of_lt (Nat.lt_succ_self _)
  have below : ∀ b, b < h₂.objs.size → b ≠ H2.objs.size ∧ b ≠ h₂.objs.size := fun b hb => ⟨by rw [hC]; exact Nat.ne_of_lt (Nat.lt_succ_of_lt hb), Nat.ne_of_lt hb⟩
  have hDf : h₂.objs.size ∉ fp := fun hm => Nat.lt_irrefl _ (hfp _ hm)
  have hCf : H2.objs.size ∉ fp := fun hm => by have := hfp _ hm; rw [hC] at this; exact Nat.lt_irrefl _ (Nat.lt_of_succ_lt this)
  have hCw : H2.objs.size ∉ wr := fun h => hCf (Wk.sub _ h)
  have hDw : h₂.objs.size ∉ wr := fun h => hDf (Wk.sub _ h)
  have old : ∀ b o, h₂.get? b = some o → h₁.get? b = some o := fun b o e => hsb₁.extBut b o (below b (Heap.lt_size e)).1 (Heap.get?_push_of_some _ (hH2 ▸ Heap.get?_push_of_some _ e))
  have hS1 : h₁.get? h₂.objs.size = some (setOf w []) := hsb₁.extBut _ _ hDC (Heap.get?_push_of_some _ hS0)
  have hst₁ : St 0 h₁ := Wk.frame _ _ _ st fun b _ o e => old b o e
  have loop : ∀ s₃ : Shared, s₃ = { s₁ with heap := h₁, toks := s₁.toks + ([] : List (Str × Value)).length } →
      codeAny (model prog w) A (.compLoop (.SetComp elt [⟨.Name x px, iter, [], 0⟩] scope pos) 0 (.ref I) (.ref h₂.objs.size) (compEnvC scope cl H2.objs.size env)) (compPost (model prog w) A E none Q (.ref h₂.objs.size) H2.objs.size) s₃ := by
    rintro s₃ rfl
    have hx' : (compEnvC scope cl H2.objs.size env).kindOf x = some .local := lookup_relabel_local hx
    have hp' : ((compEnvC scope cl H2.objs.size env).scope.kind == .class || ((compEnvC scope cl H2.objs.size env).scope.kind == .module && (compEnvC scope cl H2.objs.size env).locals != (compEnvC scope cl H2.objs.size env).globals)) = false := by simp [compEnvC, relabel, hsc.1]
    refine compLoop_set (fun k s' => ∃ h' tk m', ∃ vs : List Value, s' = { s₁ with heap := h', toks := tk } ∧ St vs.length h' ∧ h'.get? h₂.objs.size = some (setOf w (vs.map β)) ∧ h'.Ns H2.objs.size m' ∧ (∀ j v, vs[j]? = some v → P j v) ∧
      vs.length ≤ n ∧ k = n + 1 - vs.length ∧ (∀ b o, b ≠ H2.objs.size → b ∉ wr → b ≠ h₂.objs.size → h₁.get? b = some o → h'.get? b = some o)) ?_ (n + 1)
      ⟨h₁, _, _, [], rfl, hst₁, hS1, hns₁, by simp, Nat.zero_le _, rfl, fun _ _ _ _ _ e => e⟩
    intro k s' zz; refine foldP ?_; intro Gz; obtain ⟨H, tk, m', vs, rfl, hst', hS', hn', hP, hi, rfl, hk⟩ := zz; (try k_unfold)
    have grow : ∀ {h' : Heap}, (∀ b o, b ≠ H2.objs.size → b ∉ wr → b ≠ h₂.objs.size → h₁.get? b = some o → h'.get? b = some o) → Grow s₁.heap h' := fun hk b o e =>
      hk b o (below b (Heap.lt_size (g₂ b o e))).1 (fun hm => by rw [hwr b hm] at e; cases e) (below b (Heap.lt_size (g₂ b o e))).2 (old b o (g₂ b o e))
    by_cases hlt : vs.length < n
    · refine Wk.item vs.length _ _ _ hlt hst' fun v h₃ tk₃ hPv hst₃ hk₃ => ?_
      refine wpAny_assign_Name (wpAny_storeName_local hx' (hn'.at' fun o e => hk₃ _ o hCw e) (fun h₄ hn₄ hs₄ => ?_) hp')
      have up : ∀ b o, b ≠ H2.objs.size → b ∉ wr → H.get? b = some o → h₄.get? b = some o := fun b o hbC hbf e => hs₄.extBut b o hbC (hk₃ b o hbf e)
      have hk₄ : ∀ b o, b ≠ H2.objs.size → b ∉ wr → b ≠ h₂.objs.size → h₁.get? b = some o → h₄.get? b = some o := fun b o a c d e => up b o a c (hk b o a c d e)
      have hst₄ : St (vs.length + 1) h₄ := Wk.frame _ _ _ hst₃ fun b hb o e => hs₄.extBut b o (fun q : b = H2.objs.size => hCf (q ▸ hb)) e
      have g₄ := grow hk₄
      refine wpAny_mono (S.elt _ vs.length v _ _ _ hPv rfl (S.fr.grownK g₄) (S.nws.grown g₄) hn₄ (by simp) g₄) (fun y s₅ h₅ => ?_) fun _ _ e => e
      obtain ⟨rfl, h₅, tk₅, rfl, hk₅⟩ := h₅
      have hS₅ := hk₅ _ _ (up _ _ hDC hDw hS')
      refine set_add_b hS₅ fun h₆ hS₆ hs₆ => ?_
      refine ⟨n + 1 - (vs.length + 1), by lia, h₆, _, _, vs ++ [v], rfl, ?_, ?_, (hn₄.keeps hk₅).sameBut hs₆ (Ne.symm hDC), ?_, (by rw [List.length_append, List.length_singleton]; exact hlt), (by rw [List.length_append, List.length_singleton]),
        fun b o a c d e => hs₆.extBut b o d (hk₅ b o (hk₄ b o a c d e))⟩
      · rw [List.length_append, List.length_singleton]
        exact Wk.frame _ _ _ hst₄ fun b hb o e => hs₆.extBut b o (fun q : b = h₂.objs.size => hDf (q ▸ hb)) (hk₅ b o e)
      · rw [hS₆, List.map_append]
        exact congrArg some (setOf_snoc w _ _).symm
      · intro j u hj
        rcases Nat.lt_trichotomy j vs.length with h | h | h
        · exact hP j u (by rwa [List.getElem?_append_left h] at hj)
        · subst h; simp at hj; subst hj; exact hPv
        · have hnone : (vs ++ [v])[j]? = none := List.getElem?_eq_none (by rw [List.length_append, List.length_singleton]; lia)
          rw [hnone] at hj; cases hj
    · have hin : vs.length = n := by lia
      refine Wk.done _ _ _ (hin ▸ hst') fun h₃ tk₃ hk₃ => ?_
      refine ⟨m', hn'.at' fun o e => hk₃ _ o hCw e, fun h₄ hs₄ => ?_⟩
      have g₃ : ∀ b o, b ≠ H2.objs.size → b ∉ wr → b ≠ h₂.objs.size → h₁.get? b = some o → h₄.get? b = some o := fun b o a c d e => hs₄.extBut b o a (hk₃ b o c (hk b o a c d e))
      have g := grow g₃
      have hD : s₁.heap.get? h₂.objs.size = none := by
        cases q : s₁.heap.get? h₂.objs.size with
        | none => rfl
        | some o => exact absurd (Heap.lt_size (g₂ _ o q)) (Nat.lt_irrefl _)
      exact hfin _ h₄ _ vs hin hP (S.fr.grownK g) (S.nws.grown g) g hD (hs₄.extBut _ _ hDC (hk₃ _ _ hDw hS'))
  exact compStart_set (loop _ rfl) (Wk.self 0 _ _ _ hst₁ (loop _ rfl))
end
namespace SetB
theorem entry_iter : entryFor table "set.__iter__" = some Builtin.«frozenset.__iter__» :=
  entryFor_alias (id' := "frozenset.__iter__") (by rw [fastTable_eq_tree]; kernel_rfl) (by decide +kernel) (by rw [PySem.W.Fast.canonicalY_eq]; kernel_rfl) (by rw [fastTable_eq_tree]; kernel_rfl)
theorem slot_next : Slot "set_iterator" "__next__" "set_iterator.__next__" :=
  .of (owner := "set_iterator") (n := "__next__") (by rw [qT]; kernel_rfl) (by decide +kernel) (by decide +kernel) (by decide +kernel)
    (by rw [qF]; first | exact .inl (by kernel_rfl) | exact .inr (by kernel_rfl)) (by rw [qS]; kernel_rfl)
theorem entry_next : entryFor table "set_iterator.__next__" = some Builtin.«set_iterator.__next__» := entryFor_of_tree (by kernel_rfl)
theorem args_next (a : Value) : argsOk "set_iterator.__next__" ⟨[a], []⟩ := by
  unfold argsOk; rw [qG, qA]; kernel_rfl
end SetB
noncomputable def itO (D : Addr) (slot i n ep : Nat) : Obj := { cls := .type "set_iterator", dict := none, data := .fields #[.int slot 0, .int i 0, .ref D, .int n 0, .int ep 0] }
noncomputable def SetIt (h : Heap) (it D : Addr) (slot i n ep : Nat) : Prop := ∃ o, h.get? it = some o ∧ o.cls = .type "set_iterator" ∧ o.data = .fields #[.int slot 0, .int i 0, .ref D, .int n 0, .int ep 0]
theorem SetIt.typeIs {s : Shared} {it D : Addr} {a b c d : Nat} (x : SetIt s.heap it D a b c d) : s.TypeIs (.ref it) "set_iterator" := let ⟨o, ho, hc, _⟩ := x; ⟨o, ho, hc⟩
section
variable {prog : Program} {w : World} {A : Around} {E : Value → Shared → Prop} {s : Shared} {D : Addr}
theorem set_iter {led hT hF : Bool} {Q : Value → Shared → Prop} (ho : s.heap.get? D = some (setO led hT hF))
    (hQ : Q (.ref s.heap.objs.size) { s with heap := s.heap.push (itO D 0 0 (setE hT hF).size (setN hT hF)) }) : wpAny (model prog w) A (pyIter (.ref D)) Q E s := by
  have hT' : s.TypeIs (.ref D) "set" := ⟨_, ho, rfl⟩
  refine wpAny_pyIter_slot hT' F.slot_set_iter (wpAny_call_entry F.slot_set_iter hT' SetB.entry_iter ?_ (F.args_set_iter_1 _))
  show wpAny _ _ (Builtin.Frozenset.sizeOf D >>= _) _ _ s
  unfold Builtin.Frozenset.sizeOf
  refine wpAny_bind (wpAny_bind (wpAny_setEntries_of ho rfl (set_fits led hT hF) (wpAny_pure ?_)))
  unfold setDrawn setsByText
  refine wpAny_bind (wpAny_bind (wpAny_setState_of ho rfl (set_fits led hT hF) ?_))
  refine wpAny_bind (wpAny_bind (wpAny_askSetting (wpAny_pure (wpAny_pure ?_))))
  rw [if_neg (fun h => by
    have h2 := (Bool.and_eq_true_iff.mp h).2
    revert h2
    cases hT <;> cases hF <;> exact fun h2 => absurd h2 Bool.false_ne_true)]
  refine wpAny_bind (wpAny_pure ?_)
  unfold setEpoch
  refine wpAny_bind (wpAny_bind (wpAny_setState_of ho rfl (set_fits led hT hF) (wpAny_pure ?_)))
  exact wpAny_bind (wpAny_newObj_type (wpAny_pure ⟨_, rfl, "set_iterator", _, ⟨_, Heap.get?_push_size _ rfl, rfl⟩, SetB.slot_next.lookup, hQ⟩))
noncomputable def setNx (w : World) (D : Addr) (hT hF : Bool) (slot given : Nat) : Option (Value × Nat) :=
  if w.params.followText "set-order" then ((pickOrder (w.params.setOrder D (setN hT hF)) (setE hT hF))[given]?).map fun e => (e.2, slot)
  else match (setE hT hF)[SetTable.below (setT true hT hF).place slot]?, (setT true hT hF).place[SetTable.below (setT true hT hF).place slot]? with
    | some (_, x), some j => some (x, j + 1)
    | _, _ => none
theorem set_nx {led hT hF : Bool} {slot given : Nat} {Q : Option (Value × Nat) → Shared → Prop} (ho : s.heap.get? D = some (setO led hT hF)) (hl : led = !w.params.followText "set-order")
    (hQ : Q (setNx w D hT hF slot given) s) : wpAny (model prog w) A (setNext D slot given (setN hT hF)) Q E s := by
  unfold setNext
  refine wpAny_bind (wpAny_setState_of ho rfl (set_fits led hT hF) ?_)
  dsimp only
  unfold setsByText
  refine wpAny_bind (wpAny_bind (wpAny_askSetting (wpAny_pure ?_)))
  unfold setNx at hQ
  show wpAny _ _ (if w.params.followText "set-order" = true then _ else _) _ _ _
  cases ht : w.params.followText "set-order" with
  | true =>
    rw [ht] at hQ
    rw [if_pos rfl]
    rw [if_neg (by simp)]
    unfold setWalk setsByText
    refine wpAny_bind (wpAny_bind (wpAny_setState_of ho rfl (set_fits led hT hF) ?_))
    refine wpAny_bind (wpAny_bind (wpAny_askSetting (wpAny_pure ?_)))
    show wpAny _ _ (if w.params.followText "set-order" = true then _ else _) _ _ _
    rw [if_pos ht]
    exact wpAny_bind (wpAny_askSetting (wpAny_pure (wpAny_pure hQ)))
  | false =>
    rw [ht] at hl hQ
    subst hl
    rw [if_neg Bool.false_ne_true]
    rw [if_neg (by cases hT <;> cases hF <;> exact fun h2 => absurd h2 Bool.false_ne_true)]
    refine wpAny_bind (wpAny_of_eq (a := ()) (by cases hT <;> cases hF <;> rfl) (wpAny_pure ?_))
    exact hQ
theorem set_next_item {led hT hF : Bool} {it slot i nx : Nat} {x : Value} {Q : Option Value → Shared → Prop} (hit : SetIt s.heap it D slot i (setE hT hF).size (setN hT hF)) (ho : s.heap.get? D = some (setO led hT hF)) (hl : led = !w.params.followText "set-order")
    (hx : setNx w D hT hF slot i = some (x, nx)) (hQ : ∀ h', SetIt h' it D nx (i + 1) (setE hT hF).size (setN hT hF) → Heap.SameBut it s.heap h' → Q (some x) { s with heap := h' }) : wpAny (model prog w) A (pyNext (.ref it)) Q E s := by
  obtain ⟨o, hoi, hc, hd⟩ := id hit
  unfold pyNext
  refine wpAny_bind (wpAny_attempt (wpAny_callSpecial?_slot (name := Str.ofString "__next__") hit.typeIs SetB.slot_next
    (wpAny_call_entry SetB.slot_next hit.typeIs SetB.entry_next ?_ (SetB.args_next _))))
  show wpAny _ _ (fieldsOf (.ref it) >>= _) _ _ s
  refine wpAny_bind (wpAny_fieldsOf hoi hd ?_)
  show wpAny _ _ (setEntries D >>= _) _ _ s
  refine wpAny_bind (wpAny_setEntries_of ho rfl (set_fits led hT hF) ?_)
  rw [if_neg (by simp)]
  refine wpAny_bind (set_nx ho hl ?_)
  show wpAny _ _ (match setNx w D hT hF slot i with | some (x, next) => _ | none => _) _ _ s
  rw [hx]
  dsimp only
  refine wpAny_bind (wpAny_setField hoi hd (by simp) ?_)
  have g1 := Heap.get?_update_self (Obj.mapFields fun x => x.setIfInBounds 0 (rawInt (nx : Nat))) hoi (Obj.isFreed_of_fields (Obj.data_mapFields hd _))
  have d1 := Obj.data_mapFields hd (fun x => x.setIfInBounds 0 (rawInt (nx : Nat)))
  refine wpAny_bind (wpAny_setField g1 d1 (by simp) ?_)
  refine wpAny_pure ⟨x, rfl, wpAny_pure (hQ _ ?_ ((Heap.SameBut.update ..).trans (Heap.SameBut.update ..)))⟩
  have g2 := Heap.get?_update_self (Obj.mapFields fun x => x.setIfInBounds 1 (rawInt ((i : Nat) + 1))) g1 (Obj.isFreed_of_fields (Obj.data_mapFields d1 _))
  refine ⟨_, g2, ((Obj.cls_mapFields ..).trans (Obj.cls_mapFields ..)).trans hc, ?_⟩
  rw [Obj.data_mapFields d1]; simp [rawInt]
theorem set_next_end {led hT hF : Bool} {it slot i : Nat} {Q : Option Value → Shared → Prop} (hh : A.handled = none) (hit : SetIt s.heap it D slot i (setE hT hF).size (setN hT hF)) (ho : s.heap.get? D = some (setO led hT hF)) (hl : led = !w.params.followText "set-order")
    (hx : setNx w D hT hF slot i = none) (hQ : ∀ h', Heap.ExtBut it s.heap h' → Q none { s with heap := h' }) : wpAny (model prog w) A (pyNext (.ref it)) Q E s := by
  obtain ⟨o, hoi, hc, hd⟩ := id hit
  unfold pyNext
  refine wpAny_bind (wpAny_attempt (wpAny_callSpecial?_slot (name := Str.ofString "__next__") hit.typeIs SetB.slot_next
    (wpAny_call_entry SetB.slot_next hit.typeIs SetB.entry_next ?_ (SetB.args_next _))))
  show wpAny _ _ (fieldsOf (.ref it) >>= _) _ _ s
  refine wpAny_bind (wpAny_fieldsOf hoi hd ?_)
  show wpAny _ _ (setEntries D >>= _) _ _ s
  refine wpAny_bind (wpAny_setEntries_of ho rfl (set_fits led hT hF) ?_)
  rw [if_neg (by simp)]
  refine wpAny_bind (set_nx ho hl ?_)
  show wpAny _ _ (match setNx w D hT hF slot i with | some (x, next) => _ | none => _) _ _ s
  rw [hx]
  dsimp only
  refine wpAny_bind (wpAny_setField hoi hd (by simp) ?_)
  show wpAny _ _ (newExc (.type "StopIteration") [] >>= _) _ _ _
  refine wpAny_bind ?_
  simp only [newExc, newTuple]
  refine wpAny_bind (wpAny_newObj_type ?_ (by size_fits))
  refine wpAny_bind (m := firstArgMember _ _) (wpAny_of_eq (a := Value.none) (by first | rfl | (simp only [firstArgMember]; rfl)) ?_)
  refine wpAny_newObj_type ?_ (by size_fits)
  simp only [raiseNew]
  refine wpAny_bind (wpAny_handled ?_)
  first | rw [show A.in1.handled = none from hh] | rw [hh]
  refine wpAny_bind (wpAny_pure (wpAny_throw ?_))
  refine wpAny_bind (wpAny_isInstance (T := "StopIteration") (b := true) ⟨_, Heap.get?_push_size _ rfl, rfl⟩ isSubtype_stop ?_)
  exact wpAny_pure (hQ _ (((Heap.SameBut.update ..).extBut.push _).push _))
theorem pick_one {α : Type} (f : Nat → Nat) (x : α) : pickOrder f #[x] = #[x] := by
  show pickOrder.go f 1 0 [x] #[] = _
  unfold pickOrder.go
  simp only [List.length_cons, List.length_nil, Nat.zero_add, Nat.mod_one, List.getElem?_cons_zero]
  rfl
theorem pick_two {α : Type} (f : Nat → Nat) (x y : α) : pickOrder f #[x, y] = #[x, y] ∨ pickOrder f #[x, y] = #[y, x] := by
  show pickOrder.go f 2 0 [x, y] #[] = _ ∨ pickOrder.go f 2 0 [x, y] #[] = _
  unfold pickOrder.go
  have h2 : f 0 % 2 < 2 := Nat.mod_lt _ (by decide)
  have e : f 0 % 2 = 0 ∨ f 0 % 2 = 1 := by lia
  simp only [List.length_cons, List.length_nil, Nat.zero_add]
  rcases e with e | e
  · left; simp [e, pickOrder.go, Nat.mod_one]
  · right; simp [e, pickOrder.go, Nat.mod_one]
theorem nx_one (w : World) (D : Addr) (b : Bool) : ∃ k, setNx w D b (!b) 0 0 = some (.bool b, k) ∧ setNx w D b (!b) k 1 = none := by
  unfold setNx
  cases w.params.followText "set-order"
  · cases b
    · exact ⟨1, rfl, rfl⟩
    · exact ⟨2, rfl, rfl⟩
  · refine ⟨0, ?_⟩
    simp only [if_true]
    cases b <;> simp [setE, pick_one]
theorem nx_two (w : World) (D : Addr) : ∃ k x y, setNx w D true true 0 0 = some (x, k) ∧ ∃ k2, setNx w D true true k 1 = some (y, k2) := by
  unfold setNx
  cases w.params.followText "set-order"
  · exact ⟨1, _, _, rfl, _, rfl⟩
  · simp only [if_true]
    rcases pick_two (w.params.setOrder D (setN true true)) ((0 : Int), Value.bool false) ((1 : Int), Value.bool true) with e | e
    · refine ⟨0, .bool false, .bool true, ?_, 0, ?_⟩ <;> (show Option.map _ (pickOrder _ #[_, _])[_]? = _; rw [e]; rfl)
    · refine ⟨0, .bool true, .bool false, ?_, 0, ?_⟩ <;> (show Option.map _ (pickOrder _ #[_, _])[_]? = _; rw [e]; rfl)
theorem set_unpack1 {led b : Bool} {Q : List Value → Shared → Prop} (hh : A.handled = none) (ho : s.heap.get? D = some (setO led b (!b))) (hl : led = !w.params.followText "set-order")
    (hQ : ∀ h', Heap.ExtBut s.heap.objs.size s.heap h' → Q [.bool b] { s with heap := h' }) : wpAny (model prog w) A (unpackItems (.ref D) 1 none) Q E s := by
  have hT' : s.TypeIs (.ref D) "set" := ⟨_, ho, rfl⟩
  have hne : D ≠ s.heap.objs.size := Nat.ne_of_lt (Heap.lt_size ho)
  refine foldP ?_; intro Gz
  obtain ⟨k, e1, e2⟩ := nx_one w D b
  (try k_unfold)
  unfold unpackItems
  refine wpAny_bind ?_
  unfold notIterableAtAll
  refine wpAny_bind (wpAny_specialOf hT' F.slot_set_iter.lookup ?_)
  refine wpAny_pure ?_
  simp only [Bool.false_eq_true, if_false]
  refine wpAny_bind (wpAny_holding (set_iter ho ?_))
  have g0 := Heap.get?_push_of_some (itO D 0 0 (setE b (!b)).size (setN b (!b))) ho
  have gI := Heap.get?_push_size s.heap (o := itO D 0 0 (setE b (!b)).size (setN b (!b))) rfl
  generalize hH : s.heap.push (itO D 0 0 (setE b (!b)).size (setN b (!b))) = H at g0 gI ⊢
  have eH : Heap.ExtBut s.heap.objs.size s.heap H := fun b o _ e => hH ▸ Heap.get?_push_of_some _ e
  refine wpAny_bind (wpAny_holding ?_)
  show wpAny _ _ (pyNext (.ref s.heap.objs.size) >>= _) _ _ _
  refine wpAny_bind (set_next_item (s := { s with heap := H }) ⟨_, gI, rfl, rfl⟩ g0 hl e1 fun h1 i1 s1 => ?_)
  refine wpAny_bind (wpAny_holding (wpAny_pure (wpAny_pure ?_)))
  rw [if_neg (by simp)]
  refine wpAny_bind (wpAny_holding (set_next_end (s := { s with heap := h1 }) hh i1 (s1.extBut _ _ hne g0) hl e2 fun h2 s2 => ?_))
  simp only [Option.isSome_none, Bool.false_eq_true, if_false]
  exact wpAny_pure (hQ h2 fun b o hb e => s2 b o hb (s1.extBut b o hb (eH b o hb e)))
theorem set_unpack2 {led : Bool} {Q : List Value → Shared → Prop} (hh : A.handled = none) (ho : s.heap.get? D = some (setO led true true)) (hl : led = !w.params.followText "set-order")
    (hE : ∀ h1 h' tk e, Heap.ExtBut s.heap.objs.size s.heap h1 → Heap.NewExc h1 h' e "ValueError" → E (.ref e) { s with heap := h', toks := tk }) : wpAny (model prog w) A (unpackItems (.ref D) 1 none) Q E s := by
  have hT' : s.TypeIs (.ref D) "set" := ⟨_, ho, rfl⟩
  have hne : D ≠ s.heap.objs.size := Nat.ne_of_lt (Heap.lt_size ho)
  refine foldP ?_; intro Gz
  obtain ⟨k, x, y, e1, k2, e2⟩ := nx_two w D
  (try k_unfold)
  unfold unpackItems
  refine wpAny_bind ?_
  unfold notIterableAtAll
  refine wpAny_bind (wpAny_specialOf hT' F.slot_set_iter.lookup ?_)
  refine wpAny_pure ?_
  simp only [Bool.false_eq_true, if_false]
  refine wpAny_bind (wpAny_holding (set_iter ho ?_))
  have g0 := Heap.get?_push_of_some (itO D 0 0 (setE true true).size (setN true true)) ho
  have gI := Heap.get?_push_size s.heap (o := itO D 0 0 (setE true true).size (setN true true)) rfl
  generalize hH : s.heap.push (itO D 0 0 (setE true true).size (setN true true)) = H at g0 gI ⊢
  have eH : Heap.ExtBut s.heap.objs.size s.heap H := fun b o _ e => hH ▸ Heap.get?_push_of_some _ e
  refine wpAny_bind (wpAny_holding ?_)
  show wpAny _ _ (pyNext (.ref s.heap.objs.size) >>= _) _ _ _
  refine wpAny_bind (set_next_item (s := { s with heap := H }) ⟨_, gI, rfl, rfl⟩ g0 hl e1 fun h1 i1 s1 => ?_)
  refine wpAny_bind (wpAny_holding (wpAny_pure (wpAny_pure ?_)))
  rw [if_neg (by simp)]
  refine wpAny_bind (wpAny_holding (set_next_item (s := { s with heap := h1 }) i1 (s1.extBut _ _ hne g0) hl e2 fun h2 _ s2 => ?_))
  simp only [Option.isSome_some, if_true]
  refine wpAny_bind (wpAny_rule ?_)
  refine wpAny_bind (wpAny_raiseErrorMade plainExc_ValueError hh (fun h' tk e x => hE h2 h' tk e (fun b o hb e => s2.extBut b o hb (s1.extBut b o hb (eH b o hb e))) x) ?_)
  rw [sizeLine_eq]; exact Nat.le_of_ble_eq_true (by kernel_rfl)
end
noncomputable def Threw (s : Shared) (l : List Env) (X : String) (ev : Value) (s' : Shared) : Prop :=
  ∃ e a0 h' tk', ev = .ref e ∧ s' = { s with heap := h', toks := tk' } ∧ s.heap.UpToSlots h' ∧ Heap.FlyingW (hideAll s.heap (l.filterMap (·.frame))) l e (.type X) a0 h'
noncomputable abbrev ClaimT (w : World) (d : Nat) (f : Addr) (vs : List Value) (pre : Heap → Prop) (post : Heap → Value → Heap → Prop) (ep : Prop) : Prop :=
  ∀ (dp un : Nat) (gd : Option (List Code)) (cn : Str) (cs : Scope) (a : Addr) (ccd : Value) (cl : List (Str × Addr)) (outer : List Env) (A₀ : Around) (base h₀ : Heap) (L : Addr) (m : Str → Option Value)
    (p : Program) (loose : List Str) (mean : ExcName → Option Value) (mg mb : Str → Option Value) (s : Shared),
    Below A₀ base outer h₀ → Fr h₀ L s.heap m → (Mine.K w.params).In h₀ → Top p loose mean mg mb h₀ → cs.kind = .function → (Mine.K w.params).In base → Top p loose mean mg mb base →
    pre s.heap → dp + d < recursionLimit → un + 8 * d < cLine →
    ∀ env, (ktrTop dp un gd cn cs L a ccd cl outer).frames = some (env :: outer) →
    wpAny (model PySem.Challenge.rw_in0312_01.row.prog w) (ktrTop dp un gd cn cs L a ccd cl outer) (call (.ref f) vs) (Done s (post s.heap)) (fun e s' => ep ∧ Threw s (env :: outer) "ValueError" e s') s
theorem enterCE {prog : Program} {w : World} {A A₀ : Around} {E : Value → Shared → Prop} {s : Shared} {K : Frag} {L : Addr} {h₀ base : Heap} {m mg mb : Str → Option Value} {p : Program} {loose : List Str} {mean : ExcName → Option Value}
    {env : Env} {outer : List Env} {P : Value → Heap → Prop} {name qual : Str} {params : Arguments} {body : List Stmt} {scope : Scope} {dV kV doc pm cdv ct oc : Value} {an od : Option Addr} {osl : Array (Option Value)} {f : Addr} {args : List Value} (binds : List (Str × Value))
    (B : Below A₀ base outer h₀) (F : Fr h₀ L s.heap m) (X₀ : K.In h₀) (T : Top p loose mean mg mb h₀) (hA : A.frames = some (env :: outer)) (hf : env.frame = some L) (hke : env.scope.kind = .function)
    (ho : K.lookup f = some ⟨oc, od, .func (fnOf name qual params body scope dV kV doc pm an cdv ct), osl⟩) (hcd : codeIn K cdv qual = true) (hroom : A.depth < recursionLimit)
    (hbind : BindsTo s (fnOf name qual params body scope dV kV doc pm an cdv ct) ⟨args, []⟩ binds) (hkind : (binds.all fun y => scope.names.lookup y.1 == some .local || scope.names.lookup y.1 == some .cell) = true)
    (hnd : ((cellsFrom 0 scope.names []).map (·.1)).Nodup)
    (h : ∀ L' h₁ tk cells, Fr s.heap L' h₁ (bindL (envOfC qual scope L' f cdv).kindOf binds fun _ => none) → News s.heap L' h₁ cells →
      CellsAre (bindC (envOfC qual scope L' f cdv).kindOf binds fun _ => none) (cellsFrom (L' + 1) scope.names []) cells →
      Below A base (env :: outer) s.heap → K.In s.heap → Top p loose mean mg mb s.heap →
      ∀ (Qf : Flow → Shared → Prop) (Ef : Value → Shared → Prop), (∀ {v h' tk' m'}, Fr s.heap L' h' m' → P v h' → Qf (.ret v) { s with heap := h', toks := tk' }) →
      (∀ e s', wpAny (model prog w) (A.deeper (envOfC qual scope L' f cdv)) (leaving (envOfC qual scope L' f cdv) e) (fun _ s'' => E e s'') (fun e' s'' => E e' s'') s' → Ef e s') →
      wpAny (model prog w) (A.deeper (envOfC qual scope L' f cdv)) (execs body (envOfC qual scope L' f cdv)) Qf Ef { s with heap := h₁, toks := tk })
    (hsc : (!scope.isCoroutine && !scope.isGenerator && scope.kind == .function) = true) : wpAny (model prog w) A (call (.ref f) args) (Done s P) E s := by
  simp only [Bool.and_eq_true, Bool.not_eq_true', beq_iff_eq] at hsc
  have X := X₀.keeps F.keep
  have T' := T.keeps F.keep
  refine wpAny_call (codeAny_call_function hroom (X _ _ ho) rfl hsc.1.1 hsc.1.2 rfl (codeRec_of X hcd) (hbind _ _ _ _ ?_))
  refine wpAny_newFunctionEnv_cells hsc.2 (kindsX hkind _) fun env' he s' x => ?_
  subst he
  refine ⟨T'.nolimit.keeps x.toInCall.keep, codeAny_func ?_⟩
  obtain ⟨h₁, tk, rfl, _⟩ := x.done
  have hk₁ := x.toInCall.keep
  obtain ⟨cells, NC, Y⟩ := Cl.news (h₀ := s.heap) (Nat.le_refl _) fun n c hm => ⟨x.cell n c (lookup_of_mem_nodup (cellsFrom_names scope.names 0 (s.heap.objs.size + 1) [] [] rfl ▸ hnd) hm), x.above n c hm⟩
  exact h s.heap.objs.size h₁ tk cells ⟨x.toInCall.ns, hk₁, Nat.le_refl _⟩ NC Y (below_push B F hA hf hke) X T' (fun fl s' => Done s P (match fl with | .ret v => v | _ => .none) s') _ (fun {v h' tk' m'} F hp => ⟨h', tk', rfl, F.keep, hp⟩) fun _ _ x => x
theorem try_hide {prog : Program} {w : World} {A : Around} {env : Env} {body orelse : List Stmt} {h0 : ExceptHandler} {hs : List ExceptHandler} {pos : Pos} {Q : Flow → Shared → Prop} {E : Value → Shared → Prop} {s : Shared}
    (h : ∀ Ef : Value → Shared → Prop, (∀ e s₁, wpAny (model prog w) A (noteFrame e env) (fun _ s₂ => wpAny (model prog w) A (setFlight e none) (fun _ s₃ => wpAny (model prog w) A (handleBy e env (h0 :: hs)) Q E s₃) E s₂) E s₁ → Ef e s₁) → (∀ hd, PassesOwnAt (model prog w) (A.mark hd) A env Ef) →
      wpAny (model prog w) A (execs body env) (fun f s₁ => match f with | .next => wpAny (model prog w) A (execs orelse env) Q E s₁ | f => Q f s₁) Ef s) :
    wpAny (model prog w) A (exec (.Try body (h0 :: hs) orelse [] pos) env) Q E s := wpAny_Try_except (h _ (fun _ _ x => x) fun _ => PassesOwnAt.looking)
section
variable {prog : Program} {w : World} {A : Around} {E : Value → Shared → Prop} {s : Shared} {env : Env} {h₀ : Heap} {L D : Addr} {m : Str → Option Value} {news : List (Addr × Obj)}
theorem set_assign1 {led b : Bool} {x : Str} {px pos : Pos} {k : Nat} {Q : Unit → Shared → Prop} (F : Fr h₀ L s.heap m) (N : News h₀ L s.heap news) (hh : A.handled = none) (ho : s.heap.get? D = some (setO led b (!b))) (hl : led = !w.params.followText "set-order")
    (h : ∀ h', Fr h₀ L h' m → News h₀ L h' news → wpAny (model prog w) A (assign (.Name x px) env (.bool b)) Q E { s with heap := h' }) :
    wpAny (model prog w) A (assign (.Tuple [.Name x px] k pos) env (.ref D)) Q E s := by
  rw [assign_Tuple]
  refine wpAny_bind (wpAny_standAt ?_)
  unfold unpack
  refine wpAny_bind (wpAny_holding (set_unpack1 hh ho hl fun h' he => ?_))
  exact wpAny_bind (wpAny_holding (wpAny_mono (h h' (F.extBut he (Nat.le_refl _)) (N.extBut he (Nat.le_refl _))) (fun _ _ x => wpAny_pure x) fun _ _ x => x))
theorem set_assign2 {led : Bool} {x : Str} {px pos : Pos} {k : Nat} {Q : Unit → Shared → Prop} (F : Fr h₀ L s.heap m) (N : News h₀ L s.heap news) (hh : A.handled = none) (ho : s.heap.get? D = some (setO led true true)) (hl : led = !w.params.followText "set-order")
    (h : ∀ h1 h' tk e, Fr h₀ L h1 m → News h₀ L h1 news → Heap.NewExc h1 h' e "ValueError" → E (.ref e) { s with heap := h', toks := tk }) :
    wpAny (model prog w) A (assign (.Tuple [.Name x px] k pos) env (.ref D)) Q E s := by
  rw [assign_Tuple]
  refine wpAny_bind (wpAny_standAt ?_)
  unfold unpack
  exact wpAny_bind (wpAny_holding (set_unpack2 hh ho hl fun h1 h' tk e he hx => h h1 h' tk e (F.extBut he (Nat.le_refl _)) (N.extBut he (Nat.le_refl _)) hx))
end
section
variable {prog : Program} {w : World} {A : Around} {env : Env} {scope : Scope} {cl : List (Str × Addr)} {x : Str} {elt : Expr} {h₀ : Heap} {L : Addr} {β : Value → Bool} {xv : Value} {s₁ : Shared} {n : Nat} {P : Nat → Value → Prop} {m : Str → Option Value} {news : List (Addr × Obj)}
theorem lsE {Q : Value → Shared → Prop} (src : Src prog w A s₁ xv n P) (size : n ≤ 64) (fr : Fr h₀ L s₁.heap m) (nws : News h₀ L s₁.heap news)
    (helt : ∀ C i v s₂ m₂ E', P i v → Fr h₀ L s₂.heap m → News h₀ L s₂.heap news → s₂.heap.Ns C m₂ → m₂ x = some v → Grow s₁.heap s₂.heap →
      wpAny (model prog w) A (eval elt (compEnvC scope cl C env)) (fun y s₃ => y = .bool (β v) ∧ Keeps s₂ s₃) E' s₂)
    (fin : ∀ D h' tk (vs : List Value), vs.length = n → (∀ j v, vs[j]? = some v → P j v) → Fr h₀ L h' m → News h₀ L h' news → h'.get? D = some (setOf w (vs.map β)) → Q (.ref D) { s₁ with heap := h', toks := tk }) :
    LsE prog w A env scope cl x elt h₀ L β Q xv s₁ :=
  ⟨_, _, _, _, ⟨src, Nat.le_trans size (by rw [sizeLine_eq]; exact Nat.le_of_ble_eq_true rfl), fr, nws, fun _ _ _ _ _ _ _ _ _ _ _ _ => lc_noTests, fun C i v s₂ m₂ E' a _ => helt C i v s₂ m₂ E' a⟩, size, fun D h' tk vs a b c d _ _ => fin D h' tk vs a b c d⟩
end
theorem setOf_alike (w : World) {a b c : Bool} (h : a = b ∧ b = c) : setOf w [a, b, c] = setO (!w.params.followText "set-order") c (!c) := by
  obtain ⟨rfl, rfl⟩ := h
  unfold setOf
  congr 1 <;> cases a <;> rfl
theorem setOf_mixed (w : World) {a b c : Bool} (h : ¬ (a = b ∧ b = c)) : setOf w [a, b, c] = setO (!w.params.followText "set-order") true true := by
  unfold setOf
  congr 1 <;> cases a <;> cases b <;> cases c <;> first | rfl | (exact absurd ⟨rfl, rfl⟩ h)
noncomputable def GC (N0 : List (Addr × Obj)) (v : Value) (its : Array Value) : Prop := ∃ T o i q ys, v = .ref T ∧ (T, o) ∈ N0 ∧ o.data = .seq i q ∧ StrsAre i.toList ys ∧ StrsAre its.toList (ys.filter fun n => n != nE && n != n1)
theorem strs_uni {vs : List Value} {xs ys : List Str} (h : StrsAre vs xs) (h' : StrsAre vs ys) : xs = ys := by
  induction h generalizing ys with
  | nil => cases h'; rfl
  | cons _ _ _ ih => cases h' with
    | cons _ _ h' => rw [ih h']
theorem gc_row {h₀ h : Heap} {L T : Addr} {N0 : List (Addr × Obj)} {o : Obj} {i its : Array Value} {q : Nat} {ys : List Str} (N : News h₀ L h N0) (hm : (T, o) ∈ N0) (hd : o.data = .seq i q) (hs : StrsAre i.toList ys) (r : GC N0 (.ref T) its) :
    StrsAre its.toList (ys.filter fun n => n != nE && n != n1) := by
  obtain ⟨T', o', i', q', ys', e, hm', hd', hs', hr⟩ := r
  cases e
  have : o = o' := Option.some.inj ((News.get N hm).symm.trans (News.get N hm'))
  subst this
  rw [hd] at hd'; cases hd'
  rw [strs_uni hs hs']; exact hr
theorem len_ne {b : Str} (h : (b.length : Int) ≠ 0) : (b != Str.ofString "") = true := bne_iff_ne.mpr fun e => h (by rw [e]; rfl)
theorem len_eq {b : Str} (h : (b.length : Int) = 0) : (b != Str.ofString "") = false := by
  have e : b = Str.ofString "" := by
    obtain ⟨⟨c⟩⟩ := b
    cases c with
    | nil => rfl
    | cons a b => exact absurd h (by show (((a :: b).length : Nat) : Int) ≠ 0; rw [List.length_cons]; lia)
  rw [e]; rfl
theorem news_sub3 {h₀ h : Heap} {L : Addr} {a b c d : Addr × Obj} {r : List (Addr × Obj)} (N : News h₀ L h (a :: b :: c :: d :: r)) : News h₀ L h [b, c, d] := fun p hp => N p (.tail _ (List.mem_append_left r hp))
noncomputable def NewFly (base : Heap) (l : List Env) (e : Addr) (X : String) (h : Heap) : Prop :=
  ∃ t, Heap.FlyingW base l e (.type X) t h ∧ ∃ oe vs, h.get? e = some oe ∧ oe.data = .fields vs ∧ vs[2]? = some .none
section
variable {M : Model} {A : Around} {E : Value → Shared → Prop} {s : Shared} {base : Heap} {env : Env} {outer : List Env} {L e : Addr} {X : String}
theorem fly_set {T : Addr} {oT oe : Obj} {ts vs : Array Value} {t : Value} {l : List Env} {h : Heap} (hkb : base.StaysIn h) (hen : base.get? e = none) (hl : h.FunFrames base l) (hnT : base.get? T = none) (hTe : T ≠ e)
    (he : h.get? e = some oe) (hc : oe.cls = .type X) (hd : oe.data = .fields vs) (h0 : vs[0]? = some t) (h1 : vs[1]? = some (.ref T)) (h2 : vs[2]? = some .none)
    (hT : h.get? T = some oT) (hdT : oT.data = .fields ts) (hsz : 3 < ts.size) :
    NewFly base l e X (h.update T (Obj.mapFields (·.setIfInBounds 3 .none))) ∧ h.UpToSlots (h.update T (Obj.mapFields (·.setIfInBounds 3 .none))) := by
  have other : ∀ b, b ≠ T → (h.update T (Obj.mapFields (·.setIfInBounds 3 .none))).get? b = h.get? b := fun b hb => Heap.get?_update_other _ _ (Ne.symm hb)
  have plain : ∀ b o, h.get? b = some o → (∀ vs, o.data ≠ .fields vs) → b ≠ T := fun b o hb hn q => by subst q; rw [hT] at hb; cases hb; exact hn _ hdT
  refine ⟨⟨t, ⟨fun b o hb => (other b fun q => by rw [q, hnT] at hb; cases hb).trans (hkb b o hb), hen, hl.of_keeps fun b o hb hn => ⟨o, (other b (plain b o hb hn)).trans hb, rfl⟩, ?_⟩, oe, vs, (other e hTe.symm).trans he, hd, h2⟩, fun b o hb hn => ⟨o.slots, (other b (plain b o hb hn)).trans hb⟩⟩
  exact ⟨oe, vs, T, _, _, (other e hTe.symm).trans he, ⟨hc, h0⟩, hd, h1, hnT, hTe, Heap.get?_update_self _ hT (Obj.isFreed_of_fields (Obj.data_mapFields hdT _)), Obj.data_mapFields hdT _, by simp [hsz]⟩
theorem note_new {t : Value} {ob : Obj} {Q : Unit → Shared → Prop} (hfr : A.frames = some (env :: outer)) (hl : s.heap.FunFrames base (env :: outer)) (hf : env.frame = some L) (hkb : base.StaysIn s.heap) (hen : base.get? e = none)
    (he : s.heap.get? e = some ob) (hc : ob.cls = .type X) (hd : ob.data = .fields #[t, .none, .none, .none, .bool false, .none])
    (h : ∀ h', NewFly base (env :: outer) e X h' → s.heap.UpToSlots h' → Q () { s with heap := h' }) :
    wpAny M A (noteFrame (.ref e) env) (fun _ s₂ => wpAny M A (setFlight (.ref e) none) Q E s₂) E s := by
  have hene : e ∉ (env :: outer).filterMap (·.frame) := fun hm => by
    obtain ⟨_, o, ho, hn⟩ := hl.mem hm
    rw [he] at ho; cases ho; exact hn _ hd
  unfold noteFrame
  simp only [hf]
  refine wpAny_bind (wpAny_field he hd (x := .none) rfl ?_)
  rw [if_neg (by decide)]
  refine wpAny_bind (wpAny_frameOf_fun hfr hl hf fun g sg => ?_)
  refine wpAny_bind (wpAny_entryPlaceOf fun pl hpl => ?_)
  unfold EntryCells.newEntry newFields
  refine wpAny_bind (wpAny_newObj_type ?_ (hpl.sizeOk5 _ _ _ _ _))
  have he1 : g.get? e = some ob := (sg.2.1 e hene).trans he
  have kb1 : base.StaysIn g := fun b o hb => (sg.2.1 b fun hm => by rw [(hl.mem hm).1] at hb; cases hb).trans (hkb b o hb)
  have hl1 := hl.of_slotsOnly sg
  have hu1 : s.heap.UpToSlots g := fun b o hb _ => sg.2.2 b o hb
  have hTe : g.objs.size ≠ e := Nat.ne_of_gt (Heap.lt_size he1)
  have hTn := kb1.fresh
  generalize hoT : ({ cls := .type "traceback", dict := none, data := .fields ([Value.none, .ref L, .none, rawInt L, .none] ++ (if pl.isEmpty then List.replicate 6 Value.none else pl)).toArray } : Obj) = oT
  have hT2 : (g.push oT).get? g.objs.size = some oT := Heap.get?_push_size g (by subst hoT; rfl)
  have dT : ∃ ts, oT.data = .fields ts ∧ 3 < ts.size := by
    subst hoT; exact ⟨_, rfl, by simp only [List.size_toArray, List.length_append, List.length_cons, List.length_nil] <;> lia⟩
  have he2 := Heap.get?_push_of_some oT he1
  have kb2 : base.StaysIn (g.push oT) := fun b o hb => Heap.get?_push_of_some _ (kb1 b o hb)
  have hl2 : (g.push oT).FunFrames base (env :: outer) := hl1.of_keeps fun b o hb _ => ⟨o, Heap.get?_push_of_some _ hb, rfl⟩
  have hu2 : s.heap.UpToSlots (g.push oT) := hu1.trans (Heap.UpToSlots.of_keeps fun b o hb => Heap.get?_push_of_some _ hb)
  clear hl hu1 hl1 hkb sg kb1 he1 hpl hoT
  generalize g.push oT = g2 at *
  generalize g.objs.size = T at *
  refine wpAny_setField he2 hd (by simp) ?_
  have other : ∀ b, b ≠ e → (g2.update e (Obj.mapFields (·.setIfInBounds 1 (Value.ref T)))).get? b = g2.get? b := fun b hb => Heap.get?_update_other _ _ (Ne.symm hb)
  have plain : ∀ b o, g2.get? b = some o → (∀ vs, o.data ≠ .fields vs) → b ≠ e := fun b o hb hn q => by subst q; rw [he2] at hb; cases hb; exact hn _ hd
  have hd3 := Obj.data_mapFields hd (·.setIfInBounds 1 (Value.ref T))
  have he3 := Heap.get?_update_self (Obj.mapFields (·.setIfInBounds 1 (Value.ref T))) he2 (Obj.isFreed_of_fields hd3)
  obtain ⟨ts, hdT, hsz⟩ := dT
  have hT3 := (other T hTe).trans hT2
  have hu3 : g2.UpToSlots (g2.update e (Obj.mapFields (·.setIfInBounds 1 (Value.ref T)))) := fun b o hb hn => ⟨o.slots, (other b (plain b o hb hn)).trans hb⟩
  have X3 := fly_set (T := T) (t := t) (X := X) (l := env :: outer) (fun b o hb => (other b fun q => by rw [q, hen] at hb; cases hb).trans (kb2 b o hb)) hen
    (hl2.of_keeps fun b o hb hn => ⟨o, (other b (plain b o hb hn)).trans hb, rfl⟩) hTn hTe he3 ((Obj.cls_mapFields _ _).trans hc) hd3 rfl rfl rfl hT3 hdT hsz
  unfold setFlight
  refine wpAny_bind (wpAny_field he3 hd3 (x := .ref T) rfl ?_)
  rw [if_pos (show (Value.ref T != Value.none) = true from by simp)]
  exact wpAny_setField hT3 hdT hsz (h _ X3.1 ((hu2.trans hu3).trans X3.2))
theorem land_new {l : List Env} {Q : Unit → Shared → Prop} (x : NewFly base l e X s.heap)
    (h : ∀ h', NewFly base l e X h' → s.heap.UpToSlots h' → Q () { s with heap := h' }) : wpAny M A (setFlight (.ref e) none) Q E s := by
  obtain ⟨t, ⟨f1, f2, f3, oe, vs, T, oT, ts, he, hc, hd, h1, hnT, hTe, hT, hdT, h3⟩, oe', vs', he', hd', h2⟩ := x
  cases he.symm.trans he'
  cases hd.symm.trans hd'
  have hsz := (Array.getElem?_eq_some_iff.mp h3).1
  have X3 := fly_set (T := T) f1 f2 f3 hnT hTe he hc.1 hd hc.2 h1 h2 hT hdT hsz
  unfold setFlight
  refine wpAny_bind (wpAny_field he hd h1 ?_)
  rw [if_pos (show (Value.ref T != Value.none) = true from by simp)]
  exact wpAny_setField hT hdT hsz (h _ X3.1 X3.2)
noncomputable def Made2 (h h' : Heap) (e : Addr) (X : String) : Prop :=
  (∀ b o, h.get? b = some o → h'.get? b = some o) ∧ h.get? e = none ∧ ∃ ob t c, h'.get? e = some ob ∧ ob.cls = .type X ∧ ob.data = .fields #[t, .none, .ref c, .none, .bool true, .none]
end
section
variable {prog : Program} {w : World} {A : Around} {E : Value → Shared → Prop} {s : Shared} {base : Heap} {env : Env} {outer : List Env} {L e : Addr} {X : String}
theorem unchain_none {oe : Obj} {vs : Array Value} {v : Value} {Q : Value → Shared → Prop} (he : s.heap.get? e = some oe) (hd : oe.data = .fields vs) (h2 : vs[2]? = some .none) (h : Q .none s) :
    wpAny (model prog w) A (runValue (.builtin "proto.unchain" ⟨[v, .ref e, .ref e, .bool false], []⟩)) Q E s := by
  refine wpAny_runValue (codeAny_builtin (b := Builtin.«proto.unchain») (entryFor_of_tree (by kernel_rfl)) ?_)
  rw [Around.under_plain (by kernel_rfl) (by first | rfl | kernel_rfl | decide +kernel)]
  unfold Builtin.«proto.unchain»
  dsimp only
  refine wpAny_bind (wpAny_field he hd h2 ?_)
  rw [if_pos (by decide)]
  exact wpAny_pure h
theorem Raise_fromNone {N I : String} {l : List Env} {x np' : Expr} {pos : Pos} {Q : Flow → Shared → Prop} (hc : ExcClass X N I) (hh : A.handled = some (.ref e)) (hf : NewFly base l e X s.heap)
    (h : wpAny (model prog w) A (eval x env) (fun v s₁ => ∃ e2 tk', v = .ref e2 ∧ ∃ h1 tk, s₁ = { s with heap := h1, toks := tk } ∧ Heap.NewExc s.heap h1 e2 X ∧ s₁.toks = tk' ∧
      wpAny (model prog w) A (eval np' env) (fun c s₂ => c = .none ∧ s₂ = s₁) E s₁) E s)
    (hE : ∀ e2 h' tk, Made2 s.heap h' e2 X → E (.ref e2) { s with heap := h', toks := tk }) :
    wpAny (model prog w) A (exec (.Raise (some x) (some np') pos) env) Q E s := by
  show wpAny _ A (do standAt pos; raiseStmt env (some (do let v ← eval x env; standAt pos; pure v)) (some (do let v ← eval np' env; standAt pos; pure v))) Q E s
  refine wpAny_bind (wpAny_standAt ?_)
  unfold raiseStmt
  dsimp only
  refine wpAny_bind (wpAny_bind (wpAny_mono h (fun v s₁ h₁ => wpAny_bind (wpAny_standAt (wpAny_pure ?_))) fun _ _ x => x))
  refine foldP ?_; intro Gz
  obtain ⟨e2, _, rfl, h1, tk, rfl, hx, _, hn⟩ := h₁
  obtain ⟨t, ⟨f1, f2, f3, oe, vs, _, _, _, he, _, hd, _⟩, oe', vs', he', hd', h2⟩ := hf
  cases he.symm.trans he'
  cases hd.symm.trans hd'
  k_unfold
  have he1 := hx.keeps _ _ he
  have hne : e2 ≠ e := fun q => by have := hx.new; rw [q, he] at this; cases this
  obtain ⟨ob, t2, hg, hcl, hdb⟩ := hx.there
  refine wpAny_bind (wpAny_holding (wpAny_bind (wpAny_mono hn (fun c s₂ hcs => ?_) fun _ _ x => x)))
  refine wpAny_bind (wpAny_standAt (wpAny_pure (wpAny_bind (wpAny_pure ?_))))
  obtain ⟨rfl, rfl⟩ := hcs
  have isT : ∀ {s' : Shared} {ob' : Obj} {ws : Array Value} {Q' : Bool → Shared → Prop}, s'.heap.get? e2 = some ob' → ob'.data = .fields ws → Q' false s' → wpAny (model prog w) A (isType (.ref e2)) Q' E s' := by
    intro s' ob' ws Q' ha hd' hq
    simp only [isType, loadHead]
    refine wpAny_bind (wpAny_loadPart ha ?_)
    rw [hd']; exact wpAny_pure hq
  have hT : (({ s with heap := h1, toks := tk } : Shared)).TypeIs (.ref e2) X := ⟨ob, hg, hcl⟩
  refine wpAny_bind (wpAny_holding ?_)
  unfold excFromValue isExcClass
  refine wpAny_bind (wpAny_bind (isT hg hdb ?_))
  simp only [Bool.false_eq_true, if_false]
  refine wpAny_pure ?_
  simp only [Bool.false_eq_true, if_false]
  refine wpAny_bind (wpAny_isInstance hT hc.base ?_)
  simp only [if_true]
  refine wpAny_pure ?_
  simp only [beq_self_eq_true, if_true]
  refine wpAny_bind (wpAny_pure ?_)
  refine wpAny_bind (wpAny_setField hg hdb (by simp) ?_)
  have d3 := Obj.data_mapFields hdb (·.setIfInBounds 3 Value.none)
  have g3 := Heap.get?_update_self (Obj.mapFields (·.setIfInBounds 3 Value.none)) hg (Obj.isFreed_of_fields d3)
  refine wpAny_bind (wpAny_setField g3 d3 (by simp) ?_)
  have d4 := Obj.data_mapFields d3 (·.setIfInBounds 4 (Value.bool true))
  have g4 := Heap.get?_update_self (Obj.mapFields (·.setIfInBounds 4 (Value.bool true))) g3 (Obj.isFreed_of_fields d4)
  have other : ∀ (H : Heap) (b : Addr) f, b ≠ e2 → (H.update e2 (Obj.mapFields f)).get? b = H.get? b := fun H b f hb => Heap.get?_update_other _ _ (Ne.symm hb)
  refine wpAny_bind (isT g4 d4 ?_)
  simp only [Bool.false_eq_true, if_false]
  have c4 : (Obj.mapFields (·.setIfInBounds 4 (Value.bool true)) (Obj.mapFields (·.setIfInBounds 3 Value.none) ob)).cls = .type X := (Obj.cls_mapFields _ _).trans ((Obj.cls_mapFields _ _).trans hcl)
  have hk : ∀ b o, s.heap.get? b = some o → ((h1.update e2 (Obj.mapFields (·.setIfInBounds 3 Value.none))).update e2 (Obj.mapFields (·.setIfInBounds 4 (Value.bool true)))).get? b = some o := fun b o hb => by
    have hbe : b ≠ e2 := fun q => by have := hx.new; rw [← q, hb] at this; cases this
    rw [other _ _ _ hbe, other _ _ _ hbe]; exact hx.keeps _ _ hb
  generalize (h1.update e2 (Obj.mapFields (·.setIfInBounds 3 Value.none))).update e2 (Obj.mapFields (·.setIfInBounds 4 (Value.bool true))) = h4 at g4 hk ⊢
  generalize Obj.mapFields (·.setIfInBounds 4 (Value.bool true)) (Obj.mapFields (·.setIfInBounds 3 Value.none) ob) = o4 at g4 d4 c4
  replace d4 : o4.data = .fields #[t2, .none, .none, .none, .bool true, .none] := d4
  have hT4 : (({ s with heap := h4, toks := tk } : Shared)).TypeIs (.ref e2) X := ⟨o4, g4, c4⟩
  unfold raisedInstance
  refine wpAny_bind (wpAny_bind (wpAny_typeOf hT4 (wpAny_bind (m := typeOf (.type X)) (wpAny_pure ?_))))
  rw [if_pos hc.metaType]
  refine wpAny_pure ?_
  unfold setFlight
  refine wpAny_bind (wpAny_bind (wpAny_field g4 d4 (x := .none) rfl ?_))
  rw [if_neg (by decide)]
  refine wpAny_pure ?_
  unfold raiseNew
  refine wpAny_bind (wpAny_handled ?_)
  rw [hh]
  dsimp only
  rw [if_pos (show (Value.ref e != Value.ref e2) = true from bne_iff_ne.mpr fun q => hne (Value.ref.inj q).symm)]
  refine wpAny_bind (wpAny_holding (unchain_none (hk _ _ he) hd h2 ?_))
  refine wpAny_bind (wpAny_setField (a := e2) g4 d4 (i := 2) (x := .ref e) (by simp) ?_)
  refine wpAny_throw (hE e2 _ tk ⟨fun b o hb => ?_, hx.new, _, t2, e, Heap.get?_update_self _ g4 (Obj.isFreed_of_fields (Obj.data_mapFields d4 _)), (Obj.cls_mapFields _ _).trans c4, (Obj.data_mapFields d4 _).trans rfl⟩)
  have hbe : b ≠ e2 := fun q => by have := hx.new; rw [← q, hb] at this; cases this
  rw [other _ _ _ hbe]; exact hk _ _ hb
end
section
variable {prog : Program} {w : World} {A A₀ : Around} {s : Shared} {base hs h1 : Heap} {env : Env} {l : List Env} {L e : Addr} {m : Str → Option Value}
theorem funFrames_to {base base1 h : Heap} {l : List Env} (H : h.FunFrames base l) (hin : ∀ env ∈ l, ∀ a, env.frame = some a → base1.get? a = none) : h.FunFrames base1 l := by
  induction l with
  | nil => trivial
  | cons env l ih =>
    obtain ⟨hk, ⟨L, o, hf, _, ho, hd⟩, hr⟩ := H
    exact ⟨hk, ⟨L, o, hf, hin env (.head _) L hf, ho, hd⟩, ih hr fun e he => hin e (.tail _ he)⟩
noncomputable abbrev hid (hs : Heap) (l : List Env) : Heap := hideAll hs (l.filterMap (·.frame))
theorem hid_base (B : Below A₀ base l hs) : base.StaysIn (hid hs l) := fun b o q => hideAll_get _ (B.stays b o q) fun hm => by rw [(B.frames.mem hm).1] at q; cases q
theorem hid_in (F1 : Fr hs L h1 m) : (hid hs l).StaysIn h1 := fun b o q => F1.keep b o (of_hideAll _ q)
theorem hid_none {b : Addr} (e : hs.get? b = none) : (hid hs l).get? b = none := by
  cases q : (hid hs l).get? b with
  | none => rfl
  | some o => have := of_hideAll _ q; rw [e] at this; cases this
theorem hid_frames (B : Below A₀ base l hs) (F1 : Fr hs L h1 m) (hf : env.frame = some L) (hke : env.scope.kind = .function) : h1.FunFrames (hid hs l) (env :: l) :=
  .cons (by rw [hke]; decide) hf F1.ns (hid_none (Heap.get?_none_of_le F1.above)) (funFrames_to (B.frames.of_keeps fun b o q _ => ⟨o, F1.keep b o q, rfl⟩) fun en hen _ ha => hideAll_none _ (List.mem_filterMap.mpr ⟨en, hen, ha⟩))
theorem second_raise {Gd : Heap → Prop} {h1 : Heap} {x : Str} {np rp pos : Pos} {ce ne : Expr} {Q : Flow → Shared → Prop} {Ef : Value → Shared → Prop} (B : Below A₀ base l hs) (hA : A.frames = some (env :: l)) (hf : env.frame = some L) (hke : env.scope.kind = .function)
    (F1 : Fr hs L h1 m) (hx : Heap.NewExc h1 s.heap e "ValueError") (hP : ∀ hd, PassesOwnAt (model prog w) (A.mark hd) A env Ef) (hG : ∀ g, base.StaysIn g → Gd g)
    (ev1 : ∀ (hd : Option Value) (E' : Value → Shared → Prop) (s0 : Shared), Gd s0.heap → wpAny (model prog w) (A.mark hd) (eval (.Name x np) env) (fun c s' => c = .type "ValueError" ∧ s' = s0) E' s0)
    (ev2 : ∀ (hd : Option Value) (E' : Value → Shared → Prop) (s0 : Shared), Gd s0.heap → wpAny (model prog w) (A.mark hd) (eval ce env) (fun v s' => ∃ e2 h tk, v = .ref e2 ∧ s' = { s0 with heap := h, toks := tk } ∧ Heap.NewExc s0.heap h e2 "ValueError") E' s0)
    (ev3 : ∀ (hd : Option Value) (E' : Value → Shared → Prop) (s0 : Shared), wpAny (model prog w) (A.mark hd) (eval ne env) (fun c s' => c = .none ∧ s' = s0) E' s0)
    (hQ : ∀ e2 g g' tk, (hid hs l).StaysIn g → g.FunFrames (hid hs l) (env :: l) → hs.UpToSlots g → Made2 g g' e2 "ValueError" → Ef (.ref e2) { s with heap := g', toks := tk }) :
    wpAny (model prog w) A (noteFrame (.ref e) env) (fun _ s₂ => wpAny (model prog w) A (setFlight (.ref e) none) (fun _ s₃ => wpAny (model prog w) A (handleBy (.ref e) env [.ExceptHandler (some (.Name x np)) none [.Raise (some ce) (some ne) rp] pos]) Q Ef s₃) Ef s₂) Ef s := by
  refine foldP ?_; intro Gz
  obtain ⟨ob, t, he, hc, hd⟩ := hx.there
  (try k_unfold)
  have hen : (hid hs l).get? e = none := by
    refine hid_none ?_
    cases q : hs.get? e with
    | none => rfl
    | some o => have := F1.keep _ _ q; rw [hx.new] at this; cases this
  have u0 : hs.UpToSlots s.heap := (Heap.UpToSlots.of_keeps F1.keep).trans (Heap.UpToSlots.of_keeps hx.keeps)
  refine note_new (base := hid hs l) hA ((hid_frames B F1 hf hke).of_keeps fun b o q _ => ⟨o, hx.keeps b o q, rfl⟩) hf (fun b o q => hx.keeps b o (hid_in F1 b o q)) hen he hc hd fun h2 n2 u2 => ?_
  refine foldP ?_; intro Gz
  obtain ⟨t2, y2, z2⟩ := id n2
  (try k_unfold)
  refine foldP ?_; intro Gz
  obtain ⟨o2, g2, c2⟩ := y2.there
  (try k_unfold)
  refine wpAny_handleBy_builtin (X := "ValueError") (T := "ValueError") (b := true) (by rw [qS]; kernel_rfl) (by rw [qS]; kernel_rfl) (by rw [qS]; kernel_rfl) ?_
  refine wpAny_mono (ev1 _ _ _ (hG _ fun b o q => y2.1 b o (hid_base B b o q))) (fun c s' hcs => ?_) fun _ _ x => x
  obtain ⟨rfl, rfl⟩ := hcs
  refine ⟨rfl, ⟨o2, g2, c2⟩, ?_⟩
  simp only [if_true]
  refine land_new n2 fun h3 n3 u3 => ?_
  refine wpAny_passesOwnAt (hP _) ?_
  refine foldP ?_; intro Gz
  obtain ⟨t3, y3, z3⟩ := id n3
  (try k_unfold)
  have G3 : Gd h3 := hG _ fun b o q => y3.1 b o (hid_base B b o q)
  refine wpAny_execs_cons (Raise_fromNone (e := e) (l := env :: l) (base := hid hs l) excClass_ValueError rfl n3 (wpAny_mono (ev2 _ _ _ G3) (fun v s' hv => ?_) fun _ _ x => x) fun e2 h' tk M => ?_)
  · obtain ⟨e2, h, tk, rfl, rfl, hx2⟩ := hv
    exact ⟨e2, tk, rfl, h, tk, rfl, hx2, rfl, ev3 _ _ _⟩
  · exact hQ e2 h3 h' tk y3.1 y3.2.2.1 ((u0.trans u2).trans u3) M
theorem second_miss {Gd : Heap → Prop} {e2 : Addr} {g : Heap} {te : Expr} {b0 : Stmt} {suite : List Stmt} {pos : Pos} {Q : Flow → Shared → Prop} {Ef : Value → Shared → Prop} (B : Below A₀ base l hs) (hA : A.frames = some (env :: l)) (hf : env.frame = some L)
    (k1 : (hid hs l).StaysIn g) (k2 : g.FunFrames (hid hs l) (env :: l)) (k3 : hs.UpToSlots g) (M : Made2 g s.heap e2 "ValueError") (hG : ∀ g, base.StaysIn g → Gd g)
    (ev4 : ∀ (hd : Option Value) (E' : Value → Shared → Prop) (s0 : Shared), Gd s0.heap → wpAny (model prog w) (A.mark hd) (eval te env) (fun c s' => ∃ tup h tk, c = .ref tup ∧ s' = { s0 with heap := h, toks := tk } ∧ IsTup h tup #[.type "TypeError", .type "AttributeError"] ∧
      ∀ b o, s0.heap.get? b = some o → h.get? b = some o) E' s0)
    (hQ : ∀ a0 g' tk, Heap.HeldW (hid hs l) (env :: l) e2 (.type "ValueError") a0 L g' → hs.UpToSlots g' → Ef (.ref e2) { s with heap := g', toks := tk }) :
    wpAny (model prog w) A (noteFrame (.ref e2) env) (fun _ s₂ => wpAny (model prog w) A (setFlight (.ref e2) none) (fun _ s₃ => wpAny (model prog w) A (handleBy (.ref e2) env [.ExceptHandler (some te) none (b0 :: suite) pos]) Q Ef s₃) Ef s₂) Ef s := by
  refine foldP ?_; intro Gz
  obtain ⟨m1, m2, ob, t, c, he, hc, hd⟩ := M
  (try k_unfold)
  have hen : (hid hs l).get? e2 = none := by
    cases q : (hid hs l).get? e2 with
    | none => rfl
    | some o => have := k1 _ _ q; rw [m2] at this; cases this
  unfold noteFrame
  simp only [hf]
  refine wpAny_bind (wpAny_field he hd (x := .none) rfl ?_)
  rw [if_neg (by decide)]
  refine wpAny_newEntryW (base := hid hs l) (a0 := t) hA (k2.of_keeps fun b o q _ => ⟨o, m1 b o q, rfl⟩) hf he (fun b o q => m1 b o (k1 b o q)) hen hd (by simp) rfl fun h2 ⟨y1, y2, y3, y4⟩ => ?_
  rw [hc] at y3
  refine foldP ?_; intro Gz
  obtain ⟨oe, vs, T, oT, ts, he2, hc2, hd2, i1, hnT, hTe, hT, hdT, i3⟩ := y3
  (try k_unfold)
  refine wpAny_handleBy_tup2 (X := "ValueError") (T1 := "TypeError") (T2 := "AttributeError") (b1 := false) (b2 := false) (by rw [qS]; kernel_rfl) (by rw [qS]; kernel_rfl) (by rw [qS]; kernel_rfl) (by rw [qS]; kernel_rfl) (by rw [qS]; kernel_rfl) (by rw [qS]; kernel_rfl) ?_
  refine wpAny_mono (ev4 _ _ _ (hG _ fun b o q => y1 b o (hid_base B b o q))) (fun c s' hcs => ?_) fun _ _ x => x
  obtain ⟨tup, h3, tk, rfl, rfl, hI, hk⟩ := hcs
  refine ⟨tup, rfl, hI, ⟨oe, hk _ _ he2, hc2.1⟩, ?_⟩
  rw [if_neg (by decide)]
  refine wpAny_handleBy_nil ?_
  have hsz := (Array.getElem?_eq_some_iff.mp i3).1
  unfold PySem.passOn
  refine wpAny_bind (wpAny_field (hk _ _ he2) hd2 i1 ?_)
  rw [if_neg (show ¬ ((Value.ref T == Value.none) = true) from by simp)]
  unfold setFlight
  have other : ∀ b, b ≠ T → (h3.update T (Obj.mapFields (·.setIfInBounds 3 (rawInt L)))).get? b = h3.get? b := fun b hb => Heap.get?_update_other _ _ (Ne.symm hb)
  have plain : ∀ b o, h3.get? b = some o → (∀ vs, o.data ≠ .fields vs) → b ≠ T := fun b o hb hn q => by subst q; rw [hk _ _ hT] at hb; cases hb; exact hn _ hdT
  have u3 : hs.UpToSlots h3 := ((k3.trans (Heap.UpToSlots.of_keeps m1)).trans y4).trans (Heap.UpToSlots.of_keeps hk)
  have last : wpAny (model prog w) A (setField (.ref T) 3 (rawInt L)) (fun _ s₄ => Ef (.ref e2) s₄) Ef { s with heap := h3, toks := tk } := by
    refine wpAny_setField (hk _ _ hT) hdT hsz (hQ t _ tk ⟨fun b o q => (other b fun q' => by rw [q', hnT] at q; cases q).trans (hk _ _ (y1 b o q)), hen, y2.of_keeps fun b o q hn => ⟨o, (other b (plain b o (hk _ _ q) hn)).trans (hk _ _ q), rfl⟩, ?_⟩ (u3.trans fun b o q hn => ⟨o.slots, (other b (plain b o q hn)).trans q⟩))
    exact ⟨oe, vs, T, _, _, (other e2 hTe.symm).trans (hk _ _ he2), hc2, hd2, i1, hnT, hTe, Heap.get?_update_self _ (hk _ _ hT) (Obj.isFreed_of_fields (Obj.data_mapFields hdT _)), Obj.data_mapFields hdT _, by simp [hsz]⟩
  refine wpAny_bind (wpAny_bind (wpAny_field (hk _ _ he2) hd2 i1 ?_))
  rw [if_pos (show (Value.ref T != Value.none) = true from by simp), hf]
  exact wpAny_mono last (fun _ _ x => wpAny_throw x) fun _ _ x => x
theorem second_leaves {e2 : Addr} {a0 : Value} {Q : Unit → Shared → Prop} {Ef : Value → Shared → Prop} (hf : env.frame = some L) (hh : Heap.HeldW (hid hs l) (env :: l) e2 (.type "ValueError") a0 L s.heap) (u : hs.UpToSlots s.heap)
    (hQ : ∀ h', Heap.FlyingW (hid hs l) l e2 (.type "ValueError") a0 h' → hs.UpToSlots h' → Q () { s with heap := h' }) : wpAny (model prog w) A (leaving env (.ref e2)) Q Ef s := by
  unfold leaving
  refine wpAny_bind (wpAny_noteFrame_againW hf hh.2.2.2 ?_)
  refine wpAny_landsW hh fun h' hfl u' => hQ h' ?_ (u.trans u')
  obtain ⟨k1, k2, ⟨_, _, k3⟩, k4⟩ := hfl
  exact ⟨k1, k2, k3, k4⟩
end
section
variable {prog : Program} {w : World} {A : Around} {s : Shared} {K : Frag} {L a : Addr} {mg mb : Str → Option Value} {cn : Str} {cs : Scope} {ccd : Value} {cl : List (Str × Addr)} {p : Program} {loose : List Str} {E : Value → Shared → Prop}
theorem nameG {x : Str} {pos : Pos} {v : Value} {Q : Value → Shared → Prop} (G : K.In s.heap ∧ TopRead p loose mg mb s.heap) (e : nsIn K mainGlobals x = some none) (hv : bootBuiltins x = some v) (hn : x ≠ "__name__") (h : Q v s)
    (hk : cs.kind = .function) (hx : (envX cn cs L a ccd cl).kindOf x = some .globalImplicit) (hd : (x == ("__debug__" : Str)) = false) :
    wpAny (model prog w) A (eval (.Name x pos) (envX cn cs L a ccd cl)) Q E s :=
  Name_function_global hk hx (loadGlobal_builtin (env := envX cn cs L a ccd cl) G.2.g (mg_none_of G.1 G.2.g e) G.2.b ((G.2.builtins x hn).trans hv) h) hd
theorem madeG {x msg : Str} {k : Nat} {cp np kp : Pos} (G : K.In s.heap ∧ TopRead p loose mg mb s.heap) (e : nsIn K mainGlobals x = some none) (hv : bootBuiltins x = some (.type "ValueError")) (hn : x ≠ "__name__")
    (hk : cs.kind = .function) (hx : (envX cn cs L a ccd cl).kindOf x = some .globalImplicit) (hd : (x == ("__debug__" : Str)) = false) :
    wpAny (model prog w) A (eval (.Call (.Name x np) [.Constant (.str msg) k kp] [] cp) (envX cn cs L a ccd cl))
      (fun v s' => ∃ e2 h tk, v = .ref e2 ∧ s' = { s with heap := h, toks := tk } ∧ Heap.NewExc s.heap h e2 "ValueError") E s := by
  refine wpAny_Call_ofName (nameG G e hv hn ?_ hk hx hd)
  refine callWith_excType rfl (evalArgs_plain ?_)
  show wpAny (model prog w) A (spliced (backTo cp (starEach [.Constant (.str msg) k kp] (envX cn cs L a ccd cl)))) _ _ _
  refine spliced_more (Constant_str (spliced_none ?_))
  exact call_exc excClass_ValueError (fun h' e2 hx => ⟨e2, h', _, rfl, rfl, hx⟩) (by rw [sizeLine_eq]; exact Nat.le_of_ble_eq_true rfl)
theorem tup2G {x1 x2 : Str} {T1 T2 : String} {k : Nat} {tp p1 p2 : Pos} (G : K.In s.heap ∧ TopRead p loose mg mb s.heap) (e1 : nsIn K mainGlobals x1 = some none) (hv1 : bootBuiltins x1 = some (.type T1)) (hn1 : x1 ≠ "__name__")
    (e2 : nsIn K mainGlobals x2 = some none) (hv2 : bootBuiltins x2 = some (.type T2)) (hn2 : x2 ≠ "__name__")
    (hk : cs.kind = .function) (hx1 : (envX cn cs L a ccd cl).kindOf x1 = some .globalImplicit) (hd1 : (x1 == ("__debug__" : Str)) = false) (hx2 : (envX cn cs L a ccd cl).kindOf x2 = some .globalImplicit) (hd2 : (x2 == ("__debug__" : Str)) = false) :
    wpAny (model prog w) A (eval (.Tuple [.Name x1 p1, .Name x2 p2] k tp) (envX cn cs L a ccd cl))
      (fun c s' => ∃ tup h tk, c = .ref tup ∧ s' = { s with heap := h, toks := tk } ∧ IsTup h tup #[.type T1, .type T2] ∧ ∀ b o, s.heap.get? b = some o → h.get? b = some o) E s := by
  refine Tuple_ (spliced_more (nameG G e1 hv1 hn1 (spliced_more (nameG G e2 hv2 hn2 (spliced_none ?_) hk hx2 hd2)) hk hx1 hd1))
  exact wpAny_newObj_type ⟨_, _, _, rfl, rfl, IsTup.new _ _, fun b o q => Heap.get?_push_of_some _ q⟩
end
theorem noFill_list_add' : fillsInplaceSlot (.type "list") "add" (Operator.Add == .Add) = pure false := by
  have hl := (PySem.F.slot_list_iadd).lookup
  unfold fillsInplaceSlot
  show (typeLookup (.type "list") (dunderI "add") >>= fun fi => pure (fi.isSome && !isSeqSlot fi)) = pure false
  rw [hl]; rfl
theorem seq_list_iadd : seqSlot? (.type "list") (dunderI "add") = pure (some (.builtin "list.__iadd__")) := by
  have hl := (PySem.F.slot_list_iadd).lookup
  unfold seqSlot?
  rw [hl]; rfl
section
variable {prog : Program} {w : World} {A : Around} {E : Value → Shared → Prop} {s : Shared} {h₀ : Heap} {L : Addr} {m : Str → Option Value} {news news' : List (Addr × Obj)}
theorem iadd_L {D b : Addr} {its its2 : Array Value} {n n2 : Nat} {Q : Value → Shared → Prop} (F : Fr h₀ L s.heap m) (N : News h₀ L s.heap news)
    (U : Upd D (W.listOf its n) (W.listOf (its ++ its2) (if (its ++ its2).size == its.size then n else n + 1)) news news') (hb : s.heap.get? b = some (W.listOf its2 n2)) (hz : its.size + its2.size ≤ 1048576)
    (h : ∀ h', Fr h₀ L h' m → News h₀ L h' news' → Q (.ref D) { s with heap := h' }) : wpAny (model prog w) A (inplaceOp .Add (.ref D) (.ref b)) Q E s := by
  obtain ⟨pre, post, rfl, rfl, a, b'⟩ := U.split
  have z := N (D, W.listOf its n) (List.mem_append.mpr (.inr (.head _)))
  have ha : s.TypeIs (.ref D) "list" := ⟨_, z.1, rfl⟩
  have hb' : s.TypeIs (.ref b) "list" := ⟨_, hb, rfl⟩
  unfold inplaceOp
  refine wpAny_holding ?_
  refine wpAny_bind (wpAny_typeOf ha (wpAny_bind (wpAny_of_eq noFill_list_add' ?_)))
  rw [if_neg Bool.false_ne_true]
  refine wpAny_bind (wpAny_binaryOp1_none (nm := "add") ha hb' noFill_list_add ?_)
  refine wpAny_bind (wpAny_of_eq seq_list_iadd ?_)
  refine wpAny_bind (wpAny_rule ?_)
  have hsz : its.size + its2.size ≤ sizeLine := by rw [sizeLine_eq]; lia
  refine call_meets PySem.F.slot_list_iadd ha PySem.F.entry_list_iadd (PySem.F.args_list_iadd_2 _ _) (AutoSeq1.list___iadd___list_list_0 D its n b its2 n2 (extend_door hsz) (Nat.le_trans (Nat.le_add_right _ _) hsz) (Nat.le_succ_of_le hsz)) ⟨z.1, hb, ?_⟩
  refine h _ (F.change (Heap.SameBut.update ..) z.2.1 z.2.2) (news_set N a b' (Heap.SameBut.update ..) ?_)
  rw [Heap.get?_update_self _ z.1 (by rw [mapSeq_app]; rfl), mapSeq_app]
  try rfl
end
noncomputable abbrev ClaimL (w : World) (d : Nat) (f : Addr) (vs : List Value) (pre : Heap → Prop) (post : Heap → Value → Heap → Prop) : Prop :=
  ∀ (dp un : Nat) (gd : Option (List Code)) (cn : Str) (cs : Scope) (a : Addr) (ccd : Value) (cl : List (Str × Addr)) (A₀ : Around) (h₀ : Heap) (L : Addr) (m : Str → Option Value)
    (p : Program) (loose : List Str) (mean : ExcName → Option Value) (mg mb : Str → Option Value) (s : Shared),
    Below A₀ h₀ [] h₀ → Fr h₀ L s.heap m → (Mine.K w.params).In h₀ → Top p loose mean mg mb h₀ → cs.kind = .function →
    pre s.heap → dp + d < recursionLimit → un + 8 * d < cLine →
    ∀ env, (ktrTop dp un gd cn cs L a ccd cl []).frames = some [env] →
    wpAny (model PySem.Challenge.rw_in0312_01.row.prog w) (ktrTop dp un gd cn cs L a ccd cl []) (call (.ref f) vs)
      (fun v s' => ∃ h' tk', s' = { s with heap := h', toks := tk' } ∧ (hid s.heap [env]).StaysIn h' ∧ s.heap.UpToSlots h' ∧ post s.heap v h') (fun _ _ => False) s
theorem enterCL {prog : Program} {w : World} {A A₀ : Around} {E : Value → Shared → Prop} {s : Shared} {K : Frag} {L : Addr} {h₀ base : Heap} {m mg mb : Str → Option Value} {p : Program} {loose : List Str} {mean : ExcName → Option Value}
    {env : Env} {outer : List Env} {P : Value → Heap → Prop} {name qual : Str} {params : Arguments} {body : List Stmt} {scope : Scope} {dV kV doc pm cdv ct oc : Value} {an od : Option Addr} {osl : Array (Option Value)} {f : Addr} {args : List Value} (binds : List (Str × Value))
    (B : Below A₀ base outer h₀) (F : Fr h₀ L s.heap m) (X₀ : K.In h₀) (T : Top p loose mean mg mb h₀) (hA : A.frames = some (env :: outer)) (hf : env.frame = some L) (hke : env.scope.kind = .function)
    (ho : K.lookup f = some ⟨oc, od, .func (fnOf name qual params body scope dV kV doc pm an cdv ct), osl⟩) (hcd : codeIn K cdv qual = true) (hroom : A.depth < recursionLimit)
    (hbind : BindsTo s (fnOf name qual params body scope dV kV doc pm an cdv ct) ⟨args, []⟩ binds) (hkind : (binds.all fun y => scope.names.lookup y.1 == some .local || scope.names.lookup y.1 == some .cell) = true)
    (hnd : ((cellsFrom 0 scope.names []).map (·.1)).Nodup)
    (h : ∀ L' h₁ tk cells, Fr s.heap L' h₁ (bindL (envOfC qual scope L' f cdv).kindOf binds fun _ => none) → News s.heap L' h₁ cells →
      CellsAre (bindC (envOfC qual scope L' f cdv).kindOf binds fun _ => none) (cellsFrom (L' + 1) scope.names []) cells →
      Below A base (env :: outer) s.heap → K.In s.heap → Top p loose mean mg mb s.heap →
      ∀ (Qf : Flow → Shared → Prop), (∀ {v h' tk'}, (hid s.heap (env :: outer)).StaysIn h' → s.heap.UpToSlots h' → P v h' → Qf (.ret v) { s with heap := h', toks := tk' }) →
      wpAny (model prog w) (A.deeper (envOfC qual scope L' f cdv)) (execs body (envOfC qual scope L' f cdv)) Qf (fun _ _ => False) { s with heap := h₁, toks := tk })
    (hsc : (!scope.isCoroutine && !scope.isGenerator && scope.kind == .function) = true) :
    wpAny (model prog w) A (call (.ref f) args) (fun v s' => ∃ h' tk', s' = { s with heap := h', toks := tk' } ∧ (hid s.heap (env :: outer)).StaysIn h' ∧ s.heap.UpToSlots h' ∧ P v h') E s := by
  simp only [Bool.and_eq_true, Bool.not_eq_true', beq_iff_eq] at hsc
  have X := X₀.keeps F.keep
  have T' := T.keeps F.keep
  refine wpAny_call (codeAny_call_function hroom (X _ _ ho) rfl hsc.1.1 hsc.1.2 rfl (codeRec_of X hcd) (hbind _ _ _ _ ?_))
  refine wpAny_newFunctionEnv_cells hsc.2 (kindsX hkind _) fun env' he s' x => ?_
  subst he
  refine ⟨T'.nolimit.keeps x.toInCall.keep, codeAny_func ?_⟩
  obtain ⟨h₁, tk, rfl, _⟩ := x.done
  have hk₁ := x.toInCall.keep
  obtain ⟨cells, NC, Y⟩ := Cl.news (h₀ := s.heap) (Nat.le_refl _) fun n c hm => ⟨x.cell n c (lookup_of_mem_nodup (cellsFrom_names scope.names 0 (s.heap.objs.size + 1) [] [] rfl ▸ hnd) hm), x.above n c hm⟩
  exact wpAny_noRaise (h s.heap.objs.size h₁ tk cells ⟨x.toInCall.ns, hk₁, Nat.le_refl _⟩ NC Y (below_push B F hA hf hke) X T'
    (fun fl s' => ∃ h' tk', s' = { s with heap := h', toks := tk' } ∧ (hid s.heap (env :: outer)).StaysIn h' ∧ s.heap.UpToSlots h' ∧ P (match fl with | .ret v => v | _ => .none) h') fun a b c => ⟨_, _, rfl, a, b, c⟩)
section
variable {prog : Program} {w : World} {A A₀ : Around} {s : Shared} {env : Env} {l : List Env} {L e : Addr}
theorem caught_ret {base1 : Heap} {a0 : Value} {x : Str} {np pos : Pos} {b0 : Stmt} {suite : List Stmt} {rest : List ExceptHandler} {Q : Flow → Shared → Prop} {E : Value → Shared → Prop} (hfl : Heap.FlyingW base1 (env :: l) e (.type "ValueError") a0 s.heap)
    (hA : A.frames = some (env :: l)) (hf : env.frame = some L)
    (ev1 : ∀ (hd : Option Value) (E' : Value → Shared → Prop) (s0 : Shared), base1.StaysIn s0.heap → wpAny (model prog w) (A.mark hd) (eval (.Name x np) env) (fun c s' => c = .type "ValueError" ∧ s' = s0) E' s0)
    (k : ∀ g, base1.StaysIn g → s.heap.UpToSlots g → wpAny (model prog w) (A.mark (some (.ref e))) (execs (b0 :: suite) env) Q (fun _ _ => False) { s with heap := g }) :
    wpAny (model prog w) A (noteFrame (.ref e) env) (fun _ s₂ => wpAny (model prog w) A (setFlight (.ref e) none) (fun _ s₃ => wpAny (model prog w) A (handleBy (.ref e) env (.ExceptHandler (some (.Name x np)) none (b0 :: suite) pos :: rest)) Q E s₃) E s₂) E s := by
  refine wpAny_looks_onW hA hf hfl fun h1 H1 u1 => ?_
  refine wpAny_landsW H1 fun h2 H2 u2 => ?_
  obtain ⟨ob, g2, c2⟩ := H2.there
  refine wpAny_handleBy_builtin (X := "ValueError") (T := "ValueError") (b := true) (by rw [qS]; kernel_rfl) (by rw [qS]; kernel_rfl) (by rw [qS]; kernel_rfl) ?_
  refine wpAny_mono (ev1 _ _ _ H2.1) (fun c s' hcs => ?_) fun _ _ x => x
  obtain ⟨rfl, rfl⟩ := hcs
  refine ⟨rfl, ⟨ob, g2, c2⟩, ?_⟩
  simp only [if_true]
  refine lands_againW H2 fun h3 H3 u3 => ?_
  exact wpAny_noRaise (k h3 H3.1 ((u1.trans u2).trans u3))
end
theorem useT {w : World} {d : Nat} {f : Addr} {vs : List Value} {pre : Heap → Prop} {post : Heap → Value → Heap → Prop} {ep : Prop} (c : ClaimT w d f vs pre post ep)
    {dp un : Nat} {gd : Option (List Code)} {cn : Str} {cs : Scope} {a : Addr} {ccd : Value} {cl : List (Str × Addr)} {outer : List Env} {A₀ : Around} {base h₀ : Heap} {L : Addr} {m : Str → Option Value}
    {p : Program} {loose : List Str} {mean : ExcName → Option Value} {mg mb : Str → Option Value} {s : Shared} {news : List (Addr × Obj)} {Q E : Value → Shared → Prop} {env : Env}
    (B : Below A₀ base outer h₀) (F : Fr h₀ L s.heap m) (X : (Mine.K w.params).In h₀) (N : News h₀ L s.heap news) (T : Top p loose mean mg mb h₀) (hk : cs.kind = .function)
    (XB : (Mine.K w.params).In base) (TB : Top p loose mean mg mb base) (hp : pre s.heap) (hd : dp + d < recursionLimit) (hu : un + 8 * d < cLine) (hA : (ktrTop dp un gd cn cs L a ccd cl outer).frames = some (env :: outer))
    (h : ∀ v h' tk', Fr h₀ L h' m → News h₀ L h' news → Grow s.heap h' → post s.heap v h' → Q v { s with heap := h', toks := tk' })
    (hE : ∀ e s', ep → Threw s (env :: outer) "ValueError" e s' → E e s') :
    wpAny (model PySem.Challenge.rw_in0312_01.row.prog w) (ktrTop dp un gd cn cs L a ccd cl outer) (call (.ref f) vs) Q E s :=
  wpAny_mono (c dp un gd cn cs a ccd cl outer A₀ base h₀ L m p loose mean mg mb s B F X T hk XB TB hp hd hu env hA)
    (fun v s' ⟨h', tk', e, g, hv⟩ => by subst e; exact h v h' tk' (F.grownK g) (N.grown g) g hv) fun e s' x => hE e s' x.1 x.2
theorem src_lt {prog : Program} {w : World} {A : Around} {s₁ : Shared} {xv : Value} {n : Nat} {P : Nat → Value → Prop} (h : Src prog w A s₁ xv n P) : Src prog w A s₁ xv n (fun i v => i < n ∧ P i v) := by
  intro Q E k
  exact h Q E fun I fp wr St h₂ W => k I fp wr St h₂ { sub := W.sub, frame := W.frame, done := W.done, self := W.self, item := fun i s Q E hi st hQ => W.item i s Q E hi st fun v h' tk hp => hQ v h' tk ⟨hi, hp⟩ }
noncomputable def pick3 (x y z : Str) : Nat → Str
  | 0 => x
  | 1 => y
  | _ => z
theorem len_pick3 {x y z : Str} {b : Nat} (hx : x.length ≤ b) (hy : y.length ≤ b) (hz : z.length ≤ b) : ∀ i, (pick3 x y z i).length ≤ b
  | 0 => hx
  | 1 => hy
  | _ + 2 => hz
section
variable {prog : Program} {w : World} {A : Around} {E : Value → Shared → Prop} {s : Shared} {D : Addr} {lo : Obj} {n : Nat} {x y z : Str} {tx ty tz : Tok} {value slice : Expr} {i : Nat} {u : Tok} {Q : Value → Shared → Prop}
theorem item3 (ho : s.heap.get? D = some lo) (hc : lo.cls = .type "list") (hd : lo.data = .seq #[.str x tx, .str y ty, .str z tz] n) (hi : i < 3) (h : ∀ t, Q (.str (pick3 x y z i) t) s)
    (hsub : subscripted slice false (.ref D) (.int (i : Nat) u) = operate [.ref D, .int (i : Nat) u] (getItem (.ref D) (.int (i : Nat) u)) := by with_unfolding_all rfl) :
    wpAny (model prog w) A (subscriptTail value slice (.ref D) (.int (i : Nat) u)) Q E s := by
  rcases (show i = 0 ∨ i = 1 ∨ i = 2 by lia) with rfl | rfl | rfl
  · exact itemG ho hc hd (by decide) (by decide) rfl (h _) hsub
  · exact itemG ho hc hd (by decide) (by decide) rfl (h _) hsub
  · exact itemG ho hc hd (by decide) (by decide) rfl (h _) hsub
theorem item3p (ho : s.heap.get? D = some lo) (hc : lo.cls = .type "list") (hd : lo.data = .seq #[.str x tx, .str y ty, .str z tz] n) (hi : i < 3) (h : ∀ t, Q (.str (pick3 z x y i) t) s)
    (hsub : ∀ k : Int, subscripted slice false (.ref D) (.int k u) = operate [.ref D, .int k u] (getItem (.ref D) (.int k u)) := by with_unfolding_all intro _; rfl) :
    wpAny (model prog w) A (subscriptTail value slice (.ref D) (.int ((i : Nat) - 1) u)) Q E s := by
  have hl : s.heap.IsList D #[.str x tx, .str y ty, .str z tz] := ⟨lo, ho, hc, n, hd⟩
  rcases (show i = 0 ∨ i = 1 ∨ i = 2 by lia) with rfl | rfl | rfl
  · exact tail_any hl.typeIs slot_list_getitem.lookup (wpAny_getItem_list_neg hl (by decide) (show (0 : Int) ≤ -1 + 3 by decide) (by decide) rfl (h _)) (hsub _)
  · exact itemG ho hc hd (by decide) (by decide) rfl (h _) (hsub _)
  · exact itemG ho hc hd (by decide) (by decide) rfl (h _) (hsub _)
end
section
variable {A : Around} {h₀ hs h5 g : Heap} {env : Env} {l : List Env} {L D : Addr} {m : Str → Option Value} {news : List (Addr × Obj)} {o : Obj}
theorem hid_base2 (B : Below A h₀ l hs) (F5 : Fr hs L h5 m) (hf : env.frame = some L) : h₀.StaysIn (hid h5 (env :: l)) := by
  intro b o q
  refine hideAll_get _ (F5.keep b o (B.stays b o q)) ?_
  rw [List.filterMap_cons, hf]
  intro hm
  rcases List.mem_cons.mp hm with e | hm
  · have := Heap.lt_size (B.stays b o q)
    exact absurd F5.above (Nat.not_le.mpr (e ▸ this))
  · rw [(B.frames.mem hm).1] at q; cases q
theorem hid_pass (F5 : Fr hs L h5 m) (hf : env.frame = some L) (kg : (hid h5 (env :: l)).StaysIn g) : (hid hs l).StaysIn g := by
  intro b o q
  have q1 := of_hideAll _ q
  have n1 : b ∉ l.filterMap (·.frame) := fun hm => by rw [show (hid hs l).get? b = none from hideAll_none _ hm] at q; cases q
  refine kg b o (hideAll_get _ (F5.keep b o q1) ?_)
  rw [List.filterMap_cons, hf]
  intro hm
  rcases List.mem_cons.mp hm with e | hm
  · have := Heap.lt_size q1
    exact absurd F5.above (Nat.not_le.mpr (e ▸ this))
  · exact n1 hm
theorem hid_new (B : Below A h₀ l hs) (N : News hs L h5 news) (hf : env.frame = some L) (hm : (D, o) ∈ news) : (hid h5 (env :: l)).get? D = some o := by
  refine hideAll_get _ (N.get hm) ?_
  rw [List.filterMap_cons, hf]
  intro h
  rcases List.mem_cons.mp h with e | h
  · exact (N _ hm).2.1 e
  · obtain ⟨_, o', ho', _⟩ := B.frames.mem h
    rw [show hs.get? D = none from (N _ hm).2.2] at ho'; cases ho'
end
theorem ret_name {prog : Program} {w : World} {A : Around} {E : Value → Shared → Prop} {s : Shared} {env : Env} {L : Addr} {m : Str → Option Value} {x : Str} {v : Value} {np pos : Pos} {Q : Flow → Shared → Prop} (ns : s.heap.Ns env.locals m) (hk : env.scope.kind = .function)
    (hx : env.kindOf x = some .local) (hv : m x = some v) (hd : (x == ("__debug__" : Str)) = false) (h : Q (.ret v) s) : wpAny (model prog w) A (execs [.Return (some (.Name x np)) pos] env) Q E s :=
  wpAny_execs_cons (wpAny_Return_some (wpAny_Name (wpAny_loadName_local hk hx ns hv h) hd))
theorem enterS {prog : Program} {w : World} {A A₀ : Around} {EE : Heap → Value → Shared → Prop} {s : Shared} {K : Frag} {L : Addr} {h₀ base : Heap} {m mg mb : Str → Option Value} {p : Program} {loose : List Str} {mean : ExcName → Option Value}
    {env : Env} {outer : List Env} {P : Value → List (Addr × Obj) → Prop} {name qual : Str} {params : Arguments} {body : List Stmt} {scope : Scope} {dV kV doc pm cdv ct oc : Value} {an od : Option Addr} {osl : Array (Option Value)} {f : Addr} {args : List Value} (binds : List (Str × Value))
    (news : List (Addr × Obj)) (N : News h₀ L s.heap news)
    (B : Below A₀ base outer h₀) (F : Fr h₀ L s.heap m) (X₀ : K.In h₀) (T : Top p loose mean mg mb h₀) (hA : A.frames = some (env :: outer)) (hf : env.frame = some L) (hke : env.scope.kind = .function)
    (ho : K.lookup f = some ⟨oc, od, .func (fnOf name qual params body scope dV kV doc pm an cdv ct), osl⟩) (hcd : codeIn K cdv qual = true) (hroom : A.depth < recursionLimit)
    (hbind : BindsTo s (fnOf name qual params body scope dV kV doc pm an cdv ct) ⟨args, []⟩ binds) (hloc : (binds.all fun x => decide (scope.names.lookup x.1 = some .local)) = true)
    (h : ∀ g L' h₁, Fr g L' h₁ (fun y => binds.reverse.lookup y) → News g L' h₁ news → Below A base (env :: outer) g → K.In g → Top p loose mean mg mb g →
      ∀ (Qf : Flow → Shared → Prop) (Ef : Value → Shared → Prop), (∀ {v h' tk' m' news'}, Fr g L' h' m' → News g L' h' news' → P v news' → Qf (.ret v) { s with heap := h', toks := tk' }) →
      (∀ e s', wpAny (model prog w) (A.deeper (envOf qual scope L' f cdv)) (leaving (envOf qual scope L' f cdv) e) (fun _ s'' => EE g e s'') (fun e' s'' => EE g e' s'') s' → Ef e s') →
      wpAny (model prog w) (A.deeper (envOf qual scope L' f cdv)) (execs body (envOf qual scope L' f cdv)) Qf Ef { s with heap := h₁, toks := s.toks + binds.length })
    (hsc : (!scope.isCoroutine && !scope.isGenerator && scope.kind == .function && scope.names.all (fun x => x.2 != .cell)) = true) :
    wpAny (model prog w) A (call (.ref f) args) (fun v s' => ∃ h' tk' news', s' = { s with heap := h', toks := tk' } ∧ (hideAll s.heap (news.map Prod.fst)).StaysIn h' ∧ (∀ q ∈ news', h'.get? q.1 = some q.2 ∧ (hideAll s.heap (news.map Prod.fst)).get? q.1 = none) ∧ P v news') (EE (hideAll s.heap (news.map Prod.fst))) s := by
  simp only [Bool.and_eq_true, Bool.not_eq_true', beq_iff_eq, List.all_eq_true, bne_iff_ne] at hsc
  have X := X₀.keeps F.keep
  have T' := T.keeps F.keep
  refine wpAny_call (codeAny_call_def (fd := fnOf name qual params body scope dV kV doc pm an cdv ct) (body := body) (binds := binds) hroom (X _ _ ho) rfl T'.nolimit (codeRec_of X hcd) rfl hbind hsc.2 (locs hloc) (fun h₁ hns hk₁ => ?_) hsc.1.1.1 hsc.1.1.2 hsc.1.2)
  have nm : ∀ b o, h₀.get? b = some o → b ∉ news.map Prod.fst := fun b o e q => by
    obtain ⟨p, hp, rfl⟩ := List.mem_map.mp q
    rw [(N p hp).2.2] at e; cases e
  have st : h₀.StaysIn (hideAll s.heap (news.map Prod.fst)) := fun b o e => hideAll_get _ (F.keep b o e) (nm b o e)
  have nL : L ∉ news.map Prod.fst := fun q => by
    obtain ⟨p, hp, e⟩ := List.mem_map.mp q
    exact (N p hp).2.1 e
  have B₁ := below_push B F hA hf hke
  have B₂ : Below A base (env :: outer) (hideAll s.heap (news.map Prod.fst)) := ⟨hA, fun b o e => st b o (B.stays b o e), funFrames_hideAll B₁.frames fun en he b hb hf' => by
    cases he with
    | head => exact nL ((Option.some.inj (hf.symm.trans hf') : L = b) ▸ hb)
    | tail _ he =>
      obtain ⟨L₁, o₁, hf₁, ho₁⟩ := funFrames_in B.frames en he
      rw [hf₁] at hf'
      exact nm L₁ o₁ ho₁ ((Option.some.inj hf' : L₁ = b) ▸ hb)⟩
  exact h _ s.heap.objs.size h₁ ⟨hns, fun b o e => hk₁ b o (of_hideAll _ e), Nat.le_of_eq (hideAll_size _ _)⟩
    (fun p hp => ⟨hk₁ _ _ (N p hp).1, Nat.ne_of_lt (Heap.lt_size (N p hp).1), hideAll_none _ (List.mem_map_of_mem hp)⟩) B₂ (X₀.keeps st) (T.keeps st)
    (fun fl s' => ∃ h' tk' news', s' = { s with heap := h', toks := tk' } ∧ (hideAll s.heap (news.map Prod.fst)).StaysIn h' ∧ (∀ q ∈ news', h'.get? q.1 = some q.2 ∧ (hideAll s.heap (news.map Prod.fst)).get? q.1 = none) ∧ P (match fl with | .ret v => v | _ => .none) news')
    _ (fun F N hp => ⟨_, _, _, rfl, F.keep, fun q hq => ⟨(N q hq).1, (N q hq).2.2⟩, hp⟩) fun _ _ x => x
theorem enterM {prog : Program} {w : World} {A A₀ : Around} {E : Value → Shared → Prop} {s : Shared} {K : Frag} {L : Addr} {h₀ base : Heap} {m mg mb : Str → Option Value} {p : Program} {loose : List Str} {mean : ExcName → Option Value}
    {env : Env} {outer : List Env} {P : Value → List (Addr × Obj) → Prop} {name qual : Str} {params : Arguments} {body : List Stmt} {scope : Scope} {dV kV doc pm cdv ct oc : Value} {an od : Option Addr} {osl : Array (Option Value)} {f : Addr} {args : List Value} (binds : List (Str × Value))
    (news : List (Addr × Obj)) (N : News h₀ L s.heap news)
    (B : Below A₀ base outer h₀) (F : Fr h₀ L s.heap m) (X₀ : K.In h₀) (T : Top p loose mean mg mb h₀) (hA : A.frames = some (env :: outer)) (hf : env.frame = some L) (hke : env.scope.kind = .function)
    (ho : K.lookup f = some ⟨oc, od, .func (fnOf name qual params body scope dV kV doc pm an cdv ct), osl⟩) (hcd : codeIn K cdv qual = true) (hroom : A.depth < recursionLimit)
    (hbind : BindsTo s (fnOf name qual params body scope dV kV doc pm an cdv ct) ⟨args, []⟩ binds) (hloc : (binds.all fun x => decide (scope.names.lookup x.1 = some .local)) = true)
    (h : ∀ g L' h₁, Fr g L' h₁ (fun y => binds.reverse.lookup y) → News g L' h₁ news → Below A base (env :: outer) g → K.In g → Top p loose mean mg mb g →
      ∀ (Qf : Flow → Shared → Prop) (Ef : Value → Shared → Prop), (∀ {v h' tk' m' news'}, Fr g L' h' m' → News g L' h' news' → P v news' → Qf (.ret v) { s with heap := h', toks := tk' }) →
      (∀ e s', wpAny (model prog w) (A.deeper (envOf qual scope L' f cdv)) (leaving (envOf qual scope L' f cdv) e) (fun _ s'' => E e s'') (fun e' s'' => E e' s'') s' → Ef e s') →
      wpAny (model prog w) (A.deeper (envOf qual scope L' f cdv)) (execs body (envOf qual scope L' f cdv)) Qf Ef { s with heap := h₁, toks := s.toks + binds.length })
    (hsc : (!scope.isCoroutine && !scope.isGenerator && scope.kind == .function && scope.names.all (fun x => x.2 != .cell)) = true) :
    wpAny (model prog w) A (call (.ref f) args) (fun v s' => ∃ h' tk' news', s' = { s with heap := h', toks := tk' } ∧ (hideAll s.heap (news.map Prod.fst)).StaysIn h' ∧ (∀ q ∈ news', h'.get? q.1 = some q.2 ∧ (hideAll s.heap (news.map Prod.fst)).get? q.1 = none) ∧ P v news') E s :=
  enterS (EE := fun _ => E) binds news N B F X₀ T hA hf hke ho hcd hroom hbind hloc h hsc
theorem backM {h₀ hs h' : Heap} {L : Addr} {m : Str → Option Value} {news news' keep : List (Addr × Obj)} (F : Fr h₀ L hs m) (N : News h₀ L hs news) (k : (hideAll hs (news.map Prod.fst)).StaysIn h')
    (k2 : ∀ q ∈ news', h'.get? q.1 = some q.2 ∧ (hideAll hs (news.map Prod.fst)).get? q.1 = none) (Nk : News h₀ L hs keep) (hd : ∀ p ∈ keep, ∀ q ∈ news, p.1 ≠ q.1) : Fr h₀ L h' m ∧ News h₀ L h' (news' ++ keep) := by
  have nm : ∀ b o, h₀.get? b = some o → b ∉ news.map Prod.fst := fun b o e q => by
    obtain ⟨p, hp, rfl⟩ := List.mem_map.mp q
    rw [(N p hp).2.2] at e; cases e
  have st : h₀.StaysIn (hideAll hs (news.map Prod.fst)) := fun b o e => hideAll_get _ (F.keep b o e) (nm b o e)
  have nL : L ∉ news.map Prod.fst := fun q => by
    obtain ⟨p, hp, e⟩ := List.mem_map.mp q
    exact (N p hp).2.1 e
  obtain ⟨oL, es, ep, hL, r⟩ := F.ns
  have hLg := hideAll_get (news.map Prod.fst) hL nL
  refine ⟨⟨⟨oL, es, ep, k _ _ hLg, r⟩, fun b o e => k b o (st b o e), F.above⟩, fun p hp => ?_⟩
  rcases List.mem_append.mp hp with hp | hp
  · obtain ⟨a, b⟩ := k2 p hp
    refine ⟨a, (fun e => by rw [e, hLg] at b; cases b), ?_⟩
    cases q : h₀.get? p.1 with
    | none => rfl
    | some o => rw [st _ _ q] at b; cases b
  · refine ⟨k _ _ (hideAll_get _ (Nk p hp).1 fun hm => ?_), (Nk p hp).2⟩
    obtain ⟨q, hq, e⟩ := List.mem_map.mp hm
    exact hd p hp q hq e.symm
noncomputable abbrev ClaimM (w : World) (d : Nat) (f : Addr) (vs : List Value) (news : List (Addr × Obj)) (P : Value → List (Addr × Obj) → Prop) : Prop :=
  ∀ (dp un : Nat) (gd : Option (List Code)) (cn : Str) (cs : Scope) (a : Addr) (ccd : Value) (cl : List (Str × Addr)) (outer : List Env) (A₀ : Around) (base h₀ : Heap) (L : Addr) (m : Str → Option Value)
    (p : Program) (loose : List Str) (mean : ExcName → Option Value) (mg mb : Str → Option Value) (s : Shared),
    Below A₀ base outer h₀ → Fr h₀ L s.heap m → (Mine.K w.params).In h₀ → Top p loose mean mg mb h₀ → cs.kind = .function → News h₀ L s.heap news → dp + d < recursionLimit → un + 8 * d < cLine →
    wpAny (model PySem.Challenge.rw_in0312_01.row.prog w) (ktrTop dp un gd cn cs L a ccd cl outer) (call (.ref f) vs)
      (fun v s' => ∃ h' tk' news', s' = { s with heap := h', toks := tk' } ∧ (hideAll s.heap (news.map Prod.fst)).StaysIn h' ∧ (∀ q ∈ news', h'.get? q.1 = some q.2 ∧ (hideAll s.heap (news.map Prod.fst)).get? q.1 = none) ∧ P v news') (fun _ _ => False) s
theorem useM {w : World} {d : Nat} {f : Addr} {vs : List Value} {news : List (Addr × Obj)} {P : Value → List (Addr × Obj) → Prop} (c : ClaimM w d f vs news P)
    {dp un : Nat} {gd : Option (List Code)} {cn : Str} {cs : Scope} {a : Addr} {ccd : Value} {cl : List (Str × Addr)} {outer : List Env} {A₀ : Around} {base h₀ : Heap} {L : Addr} {m : Str → Option Value}
    {p : Program} {loose : List Str} {mean : ExcName → Option Value} {mg mb : Str → Option Value} {s : Shared} {Q E : Value → Shared → Prop} (keep : List (Addr × Obj))
    (B : Below A₀ base outer h₀) (F : Fr h₀ L s.heap m) (X : (Mine.K w.params).In h₀) (T : Top p loose mean mg mb h₀) (hk : cs.kind = .function) (N : News h₀ L s.heap news) (Nk : News h₀ L s.heap keep) (hdj : ∀ p ∈ keep, ∀ q ∈ news, p.1 ≠ q.1)
    (hd : dp + d < recursionLimit) (hu : un + 8 * d < cLine)
    (h : ∀ v h' tk' news', Fr h₀ L h' m → News h₀ L h' (news' ++ keep) → P v news' → Q v { s with heap := h', toks := tk' }) :
    wpAny (model PySem.Challenge.rw_in0312_01.row.prog w) (ktrTop dp un gd cn cs L a ccd cl outer) (call (.ref f) vs) Q E s :=
  wpAny_mono (c dp un gd cn cs a ccd cl outer A₀ base h₀ L m p loose mean mg mb s B F X T hk N hd hu)
    (fun v s' zz => by
      obtain ⟨h', tk', news', e, k1, k2, hv⟩ := zz
      subst e
      obtain ⟨F', N'⟩ := backM F N k1 k2 Nk hdj
      exact h v h' tk' news' F' N' hv) fun _ _ x => x.elim
noncomputable def sioEs (w : World) (t0 t1 t2 : Tok) (buf pos : Value) : List DictEntry :=
  [⟨PyData.keyHash w.params (Str.ofString "_StringIO__newline"), .str (Str.ofString "_StringIO__newline") t0, .str (Str.ofString "\n") 955⟩, ⟨PyData.keyHash w.params (Str.ofString "_StringIO__buf"), .str (Str.ofString "_StringIO__buf") t1, buf⟩,
    ⟨PyData.keyHash w.params (Str.ofString "_StringIO__pos"), .str (Str.ofString "_StringIO__pos") t2, pos⟩]
section
variable {prog : Program} {w : World} {A : Around} {E : Value → Shared → Prop} {s : Shared} {h₀ : Heap} {L si dsi : Addr} {m : Str → Option Value} {news news' : List (Addr × Obj)} {t0 t1 t2 : Tok} {b p v : Value} {n : Nat}
theorem set_pos {Q : Unit → Shared → Prop} (F : Fr h₀ L s.heap m) (X₀ : (Mine.K w.params).In h₀) (N : News h₀ L s.heap news) (m1 : (si, instObj 732 dsi) ∈ news) (m2 : (dsi, dictOf (sioEs w t0 t1 t2 b p) n) ∈ news)
    (U : Upd dsi (dictOf (sioEs w t0 t1 t2 b p) n) (dictOf (sioEs w t0 t1 t2 b v) n) news news') (h : ∀ h' tk, Fr h₀ L h' m → News h₀ L h' news' → Q () { s with heap := h', toks := tk }) :
    wpAny (model prog w) A (setAttr (.ref si) (Str.ofString "_StringIO__pos") v) Q E s :=
  set_dict F X₀ N (InstAt.of_news N m1 m2) rfl (by kernel_rfl) (by kernel_rfl) (by kernel_rfl) (by kernel_rfl) rfl rfl U (Nat.le_of_ble_eq_true rfl) fun h' F' N' => h h' _ F' N'
end
noncomputable def StopE (s : Shared) (l : List Env) (g : Heap) (e : Value) (s' : Shared) : Prop :=
  ∃ ea a0 h' tk', e = .ref ea ∧ s' = { s with heap := h', toks := tk' } ∧ Heap.FlyingW (hid g l) l ea (.type "StopIteration") a0 h' ∧ g.UpToSlots h'
theorem stop_leaves {M : Model} {A A₀ : Around} {base g h1 : Heap} {env : Env} {l : List Env} {L e : Addr} {m : Str → Option Value} {s0 s : Shared} {E : Value → Shared → Prop} (B : Below A₀ base l g) (hA : A.frames = some (env :: l)) (hf : env.frame = some L) (hke : env.scope.kind = .function)
    (F1 : Fr g L h1 m) (hx : Heap.MadeExc h1 s.heap e "StopIteration" []) (hs : ∀ h' tk', ({ s with heap := h', toks := tk' } : Shared) = { s0 with heap := h', toks := tk' }) :
    wpAny M A (leaving env (.ref e)) (fun _ s'' => StopE s0 l g (.ref e) s'') E s := by
  refine wpAny_leaves_madeW (base := hid g l) hA hf (hid_in F1) (hid_frames B F1 hf hke) (Heap.MadeExcOf.mk hx.keeps hx.new hx.there) fun h' t x1 x2 x3 x4 => ?_
  refine ⟨e, _, h', s.toks, rfl, hs h' s.toks, x1, ?_⟩
  exact ((Heap.UpToSlots.of_keeps F1.keep).trans (Heap.UpToSlots.of_keeps hx.keeps)).trans x4
noncomputable abbrev ClaimS (w : World) (d : Nat) (f : Addr) (vs : List Value) (news : List (Addr × Obj)) (P : Value → List (Addr × Obj) → Prop) (ep : Prop) : Prop :=
  ∀ (dp un : Nat) (gd : Option (List Code)) (cn : Str) (cs : Scope) (a : Addr) (ccd : Value) (cl : List (Str × Addr)) (outer : List Env) (A₀ : Around) (base h₀ : Heap) (L : Addr) (m : Str → Option Value)
    (p : Program) (loose : List Str) (mean : ExcName → Option Value) (mg mb : Str → Option Value) (s : Shared),
    Below A₀ base outer h₀ → Fr h₀ L s.heap m → (Mine.K w.params).In h₀ → Top p loose mean mg mb h₀ → cs.kind = .function → News h₀ L s.heap news → dp + d < recursionLimit → un + 8 * d < cLine →
    ∀ env, (ktrTop dp un gd cn cs L a ccd cl outer).frames = some (env :: outer) →
    wpAny (model PySem.Challenge.rw_in0312_01.row.prog w) (ktrTop dp un gd cn cs L a ccd cl outer) (call (.ref f) vs)
      (fun v s' => ∃ h' tk' news', s' = { s with heap := h', toks := tk' } ∧ (hideAll s.heap (news.map Prod.fst)).StaysIn h' ∧ (∀ q ∈ news', h'.get? q.1 = some q.2 ∧ (hideAll s.heap (news.map Prod.fst)).get? q.1 = none) ∧ P v news')
      (fun e s' => ep ∧ StopE s (env :: outer) (hideAll s.heap (news.map Prod.fst)) e s') s
theorem itk_list {prog : Program} {w : World} {A : Around} {E : Value → Shared → Prop} {s : Shared} {I N : Addr} {c : Value} {n : Nat} {P : Nat → Value → Prop} {J : Nat → Heap → Prop} {Jend : Heap → Prop} {Q : Value → Shared → Prop}
    (K : ItK prog w A.in1.in1 I N c n P J Jend)
    (hself : ∀ (s : Shared) (Q : Value → Shared → Prop) (E : Value → Shared → Prop), J 0 s.heap → (∀ h' tk, J 0 h' → (∀ b o, N ≤ b → s.heap.get? b = some o → h'.get? b = some o) → Q (.ref I) { s with heap := h', toks := tk }) → wpAny (model prog w) A.in1.in1 (pyIter (.ref I)) Q E s) (hN : N ≤ s.heap.objs.size) (hJ : J 0 s.heap) (hn : n ≤ sizeLine)
    (hQ : ∀ h' tk acc q, Jend h' → h'.get? s.heap.objs.size = some (W.listOf acc q) → ItemsOf P acc n → Q (.ref s.heap.objs.size) { s with heap := h', toks := tk }) : wpAny (model prog w) A (call (.type "list") [.ref I]) Q E s := by
  refine callType_codes (Q₁ := fun obj s₁ => obj = .ref s.heap.objs.size ∧ s₁ = { s with heap := s.heap.push { cls := .type "list", data := .seq #[] } }) PySem.F.called_list (PySem.F.typeCall_list_1 _) PySem.F.entry_list_init
    (code_list_new _ ⟨rfl, rfl⟩) fun obj s₁ h₁ => ?_
  obtain ⟨rfl, rfl⟩ := h₁
  have hS : (s.heap.push { cls := .type "list", data := .seq #[] }).get? s.heap.objs.size = some { cls := .type "list", data := .seq #[] } := Heap.get?_push_size _ rfl
  have hJ1 := K.stab 0 s.heap (s.heap.push { cls := .type "list", data := .seq #[] }) hJ fun b o _ e => Heap.get?_push_of_some _ e
  refine ⟨⟨_, hS, rfl⟩, PySem.F.args_list_init_2 _ _, ?_⟩
  generalize hs1 : s.heap.push { cls := .type "list", data := .seq #[] } = h1 at *
  have hSI : s.heap.objs.size ≠ I := fun e => absurd (Nat.lt_of_lt_of_le K.low hN) (by rw [e]; exact Nat.lt_irrefl _)
  generalize s.heap.objs.size = S at *
  have ne : ∀ {b : Addr}, b < N → b ≠ S := fun hb e => absurd hb (by rw [e]; exact Nat.not_lt.mpr hN)
  show wpAny _ _ (do let old ← Builtin.List.listItems (.ref S); Builtin.List.listUpdate (.ref S) (fun _ => #[]); letGo old.toList.reverse; Builtin.List.listExtendWith (.ref S) (.ref I) .none) _ _ _
  refine wpAny_bind ?_
  unfold Builtin.List.listItems
  refine wpAny_bind (wpAny_seqItems hS rfl (wpAny_pure ?_))
  refine wpAny_bind ?_
  show wpAny _ _ (updateSeq S (fun _ => #[])) _ _ _
  refine wpAny_updateSeq hS rfl ?_
  have hS₂ := Heap.get?_update_self (Obj.mapSeq (fun _ => (#[] : Array Value))) hS rfl
  have o2 : ∀ b o, b ≠ S → h1.get? b = some o → (h1.update S (Obj.mapSeq (fun _ => (#[] : Array Value)))).get? b = some o := fun b o hb e => (Heap.get?_update_other _ _ (Ne.symm hb)).trans e
  have hJ2 := K.stab 0 _ _ hJ1 fun b o hb e => o2 b o (ne hb) e
  generalize h1.update S (Obj.mapSeq (fun _ => (#[] : Array Value))) = h2 at *
  refine wpAny_bind (wpAny_letGo ?_)
  unfold Builtin.List.listExtendWith
  refine wpAny_bind (K.ty _ _ _ _ _ hJ2 ?_)
  have q1 : Builtin.List.listSameRef (.ref S) (.ref I) = false := by simp [Builtin.List.listSameRef, hSI]
  simp only [q1, K.cls.1, K.cls.2, Bool.or_false, Bool.false_eq_true, if_false]
  refine wpAny_bind (hself _ _ _ hJ2 fun h3 tk3 hJ3 hk3 => ?_)
  replace hS₂ := hk3 _ _ hN hS₂
  clear hJ2 o2
  refine wpAny_bind (wpAny_holding ?_)
  unfold Builtin.List.listLengthHint
  refine wpAny_bind (K.nolen _ _ _ _ _ hJ3 ?_)
  show wpAny _ A.in1.in1 (specialOf (Value.ref I) (Str.ofString "__length_hint__") >>= _) _ _ _
  refine wpAny_bind (K.nohint _ _ _ _ _ hJ3 ?_)
  refine wpAny_pure ?_
  show wpAny _ A.in1.in1 (rule "list.extend.makes-room" >>= fun _ => Builtin.List.listTouch (.ref S) >>= fun _ => again (.builtin "list.extend.loop" ⟨[.ref S, .ref I, .none], []⟩)) _ _ _
  refine wpAny_bind (wpAny_rule (wpAny_bind ?_))
  show wpAny _ A.in1.in1 (updateSeq S (·.push .none) >>= fun _ => updateSeq S (·.pop)) _ _ _
  refine wpAny_bind (wpAny_updateSeq hS₂ rfl ?_)
  have hS3 := Heap.get?_update_self (Obj.mapSeq (·.push Value.none)) hS₂ rfl
  refine wpAny_updateSeq (hz := by seq_fits) hS3 rfl ?_
  have hS4 := Heap.get?_update_self (Obj.mapSeq (·.pop)) hS3 rfl
  have hJ4 := K.stab 0 _ ((h3.update S (Obj.mapSeq (·.push Value.none))).update S (Obj.mapSeq (·.pop))) hJ3 fun b o hb e =>
    (Heap.get?_update_other _ _ (Ne.symm (ne hb))).trans ((Heap.get?_update_other _ _ (Ne.symm (ne hb))).trans e)
  refine wpAny_pure ⟨plainId_quiet PySem.F.plain_extend_loop _, itk_loop K hn S hN _ n 0 _ _ _ rfl (Nat.zero_le _) hJ4 hS4 (ItemsOf.nil P) fun h' tk acc' q' je hS' hacc => ?_⟩
  exact ⟨rfl, hQ h' tk acc' q' je hS' hacc⟩
theorem pk {α : Type} {prog : Program} {w : World} {A : Around} {E : Value → Shared → Prop} {Q : α → Shared → Prop} {s : Shared} {t : Sem α} {r : α} (X : (Mine.K w.params).In s.heap) (e : peek (Mine.K w.params) ⟨prog, w.params⟩ t = some r) (h : Q r s) :
    wpAny (model prog w) A t Q E s := (Looks.of_peek (M := model prog w) X e).here h
theorem pk_ {prog : Program} {w : World} {h : Heap} {α : Type} {t : Sem α} {r : α} (X : (Mine.K w.params).In h) (e : peek (Mine.K w.params) ⟨prog, w.params⟩ t = some r) : Looks (model prog w) h t r := Looks.of_peek (M := model prog w) X e
theorem new_sio {prog : Program} {w : World} {A : Around} {E : Value → Shared → Prop} {Q : Value → Shared → Prop} {s : Shared} {h₀ : Heap} {L : Addr} {m : Str → Option Value} {news : List (Addr × Obj)} (F : Fr h₀ L s.heap m) (N : News h₀ L s.heap news) (X1 : (Mine.K w.params).In s.heap)
    (h : ∀ x dx h', Fr h₀ L h' m → News h₀ L h' ((x, instObj 732 dx) :: (dx, dictOf [] 0) :: news) → (∀ p ∈ news, p.1 < dx) → dx < x → Q (.ref x) { s with heap := h' }) :
    wpAny (model prog w) A (call (.builtin "object.__new__") [.ref 732]) Q E s := by
  have Fn := PySem.F.objNew
  refine wpAny_call (codeAny_call_builtin_code (Code.quiet_builtin _ Fn.quiet) (pk X1 (r := ()) (by rw [qB]; kernel_rfl) (codeAny_builtin Fn.entry ?_)))
  unfold Builtin.«object.__new__»
  dsimp only
  refine wpAny_bind (pk X1 (r := true) (by kernel_rfl) ?_)
  rw [if_neg (by decide)]
  refine wpAny_bind (pk X1 (r := ()) (by kernel_rfl) ?_)
  rw [if_neg (by decide)]
  refine wpAny_bind (pk X1 (r := (match (Mine.K w.params).lookup 732 with | some ⟨_, _, .cls cd, _⟩ => cd | _ => default)) (by kernel_rfl) ?_)
  rw [if_neg (by rw [Bool.not_eq_true]; kernel_rfl)]
  rw [if_pos (show typeHasDict (.ref 732) = true from rfl)]
  show wpAny _ _ ((alloc emptyDict >>= fun x => pure (some x)) >>= _) _ _ _
  refine wpAny_bind (wpAny_bind (wpAny_alloc (wpAny_pure ?_)))
  have F1 := F.push emptyDict
  have N1 := News.push F N emptyDict
  refine wpAny_bind ?_
  show wpAny _ _ (newObjAsIs _ _ _) _ _ _
  unfold newObjAsIs
  refine wpAny_bind (wpAny_alloc ?_)
  have F2 := F1.push (instObj 732 s.heap.objs.size)
  have N2 := News.push F1 N1 (instObj 732 s.heap.objs.size)
  refine wpAny_bind (pk (s := { s with heap := (s.heap.push emptyDict).push (instObj 732 s.heap.objs.size) }) (X1.keeps fun b o e => Heap.get?_push_of_some _ (Heap.get?_push_of_some _ e)) (r := false) (by kernel_rfl) ?_)
  refine wpAny_pure (wpAny_pure ?_)
  rw [Heap.size_push] at N2
  show Q _ _
  rw [Heap.size_push]
  exact h _ _ _ F2 N2 (fun p hp => Heap.lt_size (N p hp).1) (Nat.lt_succ_self _)
theorem inst_sio {prog : Program} {w : World} {A : Around} {E : Value → Shared → Prop} {Q : Bool → Shared → Prop} {s : Shared} {x dx : Addr} (X : (Mine.K w.params).In s.heap) (ho : s.heap.get? x = some (instObj 732 dx)) (h : Q true s) : wpAny (model prog w) A (isInstance (.ref x) (.ref 732)) Q E s := by
  unfold isInstance
  refine wpAny_bind (Looks.here ((Looks.ld ho).andThen .now : Looks (model prog w) s.heap (typeOf (.ref x)) (.ref 732)) ?_)
  exact pk X (r := true) (by kernel_rfl) h
theorem call_init {prog : Program} {w : World} {A : Around} {E : Value → Shared → Prop} {Q : Option Value → Shared → Prop} {s : Shared} {x dx C f : Addr} {args : List Value} (X : (Mine.K w.params).In s.heap) (ho : s.heap.get? x = some (instObj C dx))
    (e1 : peek (Mine.K w.params) ⟨prog, w.params⟩ (typeLookup (.ref C) "__init__") = some (some (.ref f))) (e2 : typeIn (Mine.K w.params) (.ref f) = some (.type "function"))
    (h : wpAny (model prog w) A (call (.ref f) (.ref x :: args)) (fun v s' => Q (some v) s') E s) : wpAny (model prog w) A (callSpecial? (.ref x) "__init__" args) Q E s := by
  unfold callSpecial? specialOf
  refine wpAny_bind (wpAny_bind (Looks.here ((Looks.ld ho).andThen .now : Looks (model prog w) s.heap (typeOf (.ref x)) (.ref C)) (pk X e1 ?_)))
  dsimp only
  refine wpAny_holding (wpAny_bind (Looks.here (bind_fn X (.ref x) e2) ?_))
  exact wpAny_bind (wpAny_mono h (fun _ _ q => wpAny_pure q) fun _ _ q => q)
noncomputable def SioMid (w : World) (prog : Program) (A : Around) (E Q : Value → Shared → Prop) (x : Str) (tx : Tok) (v : Value) (s1 : Shared) : Prop := ∃ si dx, v = .ref si ∧ (Mine.K w.params).In s1.heap ∧ s1.heap.get? si = some (instObj 732 dx) ∧
        wpAny (model prog w) (A.under (.builtin "type.__call__" ⟨[.ref 732, .str x tx], []⟩)) (call (.ref 502) [.ref si, .str x tx]) (fun r s2 => r = .none ∧ Q (.ref si) s2) E s1
theorem sio_type {prog : Program} {w : World} {A : Around} {E : Value → Shared → Prop} {Q : Value → Shared → Prop} {s : Shared} {x : Str} {tx : Tok} (X1 : (Mine.K w.params).In s.heap)
    (hga : ∀ Q' : Value → Shared → Prop, (∀ tk, Q' (.ref 225) { s with toks := tk }) → wpAny (model prog w) (A.under (.builtin "type.__call__" ⟨[.ref 732, .str x tx], []⟩)) (getAttr (.ref 732) "__new__") Q' E s)
    (h : ∀ tk, wpAny (model prog w) (A.under (.builtin "type.__call__" ⟨[.ref 732, .str x tx], []⟩)) (call (.ref 225) [.ref 732, .str x tx])
      (SioMid w prog A E Q x tx) E { s with toks := tk }) :
    wpAny (model prog w) A (call (.ref 732) [.str x tx]) Q E s := by
  refine wpAny_call (codeAny_of_tree ?_)
  show wpAny _ _ (callAny (.ref 732) ⟨[.str x tx], []⟩) _ _ _
  refine pk X1 (r := Fin.again (.call (.builtin "type.__call__") ⟨[.ref 732, .str x tx], []⟩)) (by kernel_rfl) ?_
  refine ⟨rfl, ?_⟩
  refine codeAny_call_builtin_at (Code.quiet_builtin _ (by decide +kernel)) entry_typeCall (check_slot tc_kind tc_split (pk_ X1 (by kernel_rfl)) (tc_args _ _ _) ?_)
  unfold Builtin.«type.__call__»
  dsimp only
  rw [if_neg (by decide)]
  refine wpAny_bind (pk X1 (r := (match (Mine.K w.params).lookup 732 with | some ⟨_, _, .cls cd, _⟩ => cd.mro | _ => [])) (by kernel_rfl) ?_)
  rw [if_neg (by rw [Bool.not_eq_true]; kernel_rfl)]
  refine wpAny_bind (pk X1 (r := none) (by kernel_rfl) ?_)
  dsimp only
  refine wpAny_bind (hga _ fun tk => wpAny_bind (wpAny_holding (wpAny_mono (h tk) (fun v s1 hv => ?_) fun _ _ q => q)))
  obtain ⟨si, dx, rfl, X3, ho, hi⟩ := hv
  refine wpAny_bind (inst_sio X3 ho ?_)
  rw [if_neg (by decide)]
  refine wpAny_bind (wpAny_holding (call_init (C := 732) (f := 502) X3 ho (by kernel_rfl) (by kernel_rfl) (wpAny_mono hi (fun r s2 hr => ?_) fun _ _ q => q)))
  obtain ⟨rfl, hq⟩ := hr
  dsimp only
  rw [if_neg (by decide)]
  exact wpAny_pure hq
theorem slot_deque_init : Slot "collections.deque" "__init__" "collections.deque.__init__" :=
  .of (owner := "collections.deque") (n := "__init__") (by rw [qT]; kernel_rfl) (by decide +kernel) (by decide +kernel) (by decide +kernel)
    (by rw [qF]; first | exact .inl (by kernel_rfl) | exact .inr (by kernel_rfl)) (by rw [qS]; kernel_rfl)
theorem slot_deque_len : Slot "collections.deque" "__len__" "collections.deque.__len__" :=
  .of (owner := "collections.deque") (n := "__len__") (by rw [qT]; kernel_rfl) (by decide +kernel) (by decide +kernel) (by decide +kernel)
    (by rw [qF]; first | exact .inl (by kernel_rfl) | exact .inr (by kernel_rfl)) (by rw [qS]; kernel_rfl)
theorem called_deque : TypeCalled "collections.deque" "collections.deque.__new__" "collections.deque.__init__" :=
  ⟨by decide +kernel, by rw [qF]; kernel_rfl, ⟨.type "collections.deque", [.type "object"], by rw [PySem.W.Fast.te9541985092090588186]; kernel_rfl⟩, by rw [PySem.W.Fast.te6838149247815620303]; kernel_rfl, by decide +kernel, by rw [qS]; kernel_rfl, slot_deque_init⟩
theorem entry_deque_new : entryFor table "collections.deque.__new__" = some Builtin.«collections.deque.__new__» := entryFor_of_tree (by kernel_rfl)
theorem entry_deque_init : entryFor table "collections.deque.__init__" = some Builtin.«collections.deque.__init__» := entryFor_of_tree (by kernel_rfl)
theorem entry_deque_len : entryFor table "collections.deque.__len__" = some Builtin.«collections.deque.__len__» := entryFor_of_tree (by kernel_rfl)
theorem noBool_deque : typeLookup (.type "collections.deque") "__bool__" = pure none := by rw [qT]; kernel_rfl
noncomputable abbrev dqObj (k : Int) : Obj := { cls := .type "collections.deque", data := .fields #[.none, rawInt k] }
section
variable {prog : Program} {w : World} {A : Around} {E : Value → Shared → Prop} {s : Shared}
theorem len_body_deque {D : Addr} {k : Int} {Q : Value → Shared → Prop} (ho : s.heap.get? D = some (dqObj k)) (h : ∀ t tk, Q (.int 0 t) { s with toks := tk }) :
    wpAny (model prog w) A (Builtin.«len» ⟨[.ref D], []⟩) (fun fin s' => ∃ r, fin = .done (.ret r) ∧ Q r s') E s := by
  have hT : s.TypeIs (.ref D) "collections.deque" := ⟨_, ho, rfl⟩
  unfold Builtin.«len»
  refine wpAny_bind (m := oneArg "len" _) (wpAny_pure ?_)
  refine wpAny_bind (m := callSpecial? (.ref D) (Str.ofString "__len__")) (wpAny_callSpecial?_slot (name := Str.ofString "__len__") hT slot_deque_len (wpAny_call_entry slot_deque_len hT entry_deque_len ?_ (by unfold argsOk; rw [qG, qA]; kernel_rfl)))
  show wpAny _ _ (do retInt (← Builtin.Deque.size (.ref D))) _ _ s
  unfold Builtin.Deque.size fieldsOf
  refine wpAny_bind (wpAny_bind (wpAny_bind (wpAny_load ho ?_)))
  refine wpAny_pure (wpAny_pure (wpAny_bind (wpAny_mkInt (wpAny_pure ⟨_, rfl, ?_⟩))))
  refine wpAny_bind (wpAny_holding (wpAny_pure ?_))
  refine wpAny_bind (wpAny_letGo ?_)
  show wpAny _ _ (if ((0 : Nat) : Int) < 0 then _ else _) _ _ _
  rw [if_neg (by lia)]
  show wpAny _ _ (if ((0 : Nat) : Int) ≥ 2 ^ 63 then _ else _) _ _ _
  rw [if_neg (by lia)]
  exact wpAny_bind (wpAny_mkInt (wpAny_pure ⟨_, rfl, h _ _⟩))
theorem truthy_deque {D : Addr} {k : Int} {Q : Bool → Shared → Prop} (ho : s.heap.get? D = some (dqObj k)) (h : ∀ tk, Q false { s with toks := tk }) : wpAny (model prog w) A (truthy (.ref D)) Q E s := by
  have hT : s.TypeIs (.ref D) "collections.deque" := ⟨_, ho, rfl⟩
  unfold truthy
  refine wpAny_bind (wpAny_callSpecial?_none (name := Str.ofString "__bool__") hT noBool_deque ?_)
  refine wpAny_bind (wpAny_specialOf (name := Str.ofString "__len__") hT slot_deque_len.lookup ?_)
  rw [if_neg (by decide)]
  have key : wpAny (model prog w) A (runValue (.builtin "len" ⟨[.ref D], []⟩)) (fun r s' => ∃ t, r = .int 0 t ∧ Q false s') E s := by
    refine wpAny_runValue (codeAny_builtin entry_len ?_)
    rw [Around.under_plainId plain_len _]
    exact wpAny_mono (len_body_deque (Q := fun r s' => ∃ t, r = .int 0 t ∧ Q false s') ho fun t tk => ⟨t, rfl, h tk⟩) (fun fin s' h' => by obtain ⟨r, rfl, hq⟩ := h'; exact hq) fun _ _ e => e
  exact wpAny_bind (wpAny_mono key (fun r s' h' => by obtain ⟨t, rfl, hq⟩ := h'; exact wpAny_pure hq) fun _ _ e => e)
theorem call_deque {Q : Value → Shared → Prop} {h₀ : Heap} {L : Addr} {m : Str → Option Value} {news : List (Addr × Obj)} (F : Fr h₀ L s.heap m) (N : News h₀ L s.heap news)
    (h : ∀ D h', Fr h₀ L h' m → News h₀ L h' ((D, dqObj 0) :: news) → (∀ p ∈ news, p.1 < D) → Q (.ref D) { s with heap := h' }) :
    wpAny (model prog w) A (call (.type "collections.deque") []) Q E s := by
  have q1 : isType (.type "collections.deque") = pure true := by rw [PySem.W.Fast.te10380811246957099773]; kernel_rfl
  have q2 : isSubtype (.type "collections.deque") (.type "collections.deque") = pure true := by rw [qS]; kernel_rfl
  refine callType_codes (Q₁ := fun obj s₁ => obj = .ref s.heap.objs.size ∧ s₁ = { s with heap := s.heap.push (dqObj 0) }) called_deque (by rw [PySem.W.Fast.te11612656972197000677]; kernel_rfl) entry_deque_init ?_ fun obj s₁ h₁ => ?_
  · refine codeAny_call_builtin (by decide +kernel) entry_deque_new ?_
    refine wpAny_of_eq (a := ()) (by rw [qB]; kernel_rfl) ?_
    unfold Builtin.«collections.deque.__new__» Builtin.Deque.newArgs
    refine wpAny_bind (wpAny_bind (wpAny_of_eq q1 ?_))
    rw [if_neg (by decide)]
    refine wpAny_bind (wpAny_of_eq q2 ?_)
    rw [if_neg (by decide)]
    refine wpAny_pure ?_
    unfold Builtin.Deque.new
    dsimp only
    refine wpAny_bind ?_
    rw [if_neg (by decide), if_neg (show ¬ typeHasDict (.type "collections.deque") = true by decide +kernel)]
    refine wpAny_bind (wpAny_pure ?_)
    exact wpAny_newObj_type (wpAny_pure ⟨rfl, rfl⟩) (by show 2 ≤ sizeLine + 2; lia)
  · obtain ⟨rfl, rfl⟩ := h₁
    have hS : (s.heap.push (dqObj 0)).get? s.heap.objs.size = some (dqObj 0) := Heap.get?_push_size _ rfl
    refine ⟨⟨_, hS, rfl⟩, (by unfold argsOk; rw [qG, qA]; kernel_rfl), ?_⟩
    unfold Builtin.«collections.deque.__init__»
    dsimp only
    rw [if_neg (by decide)]
    refine wpAny_bind (wpAny_pure ?_)
    refine wpAny_bind (wpAny_pure ?_)
    refine wpAny_bind (wpAny_pure ?_)
    refine wpAny_bind (wpAny_setField hS rfl (by simp) ?_)
    rw [Heap.update_setField_same _ _ _ _ 0 .none hS rfl rfl]
    unfold Builtin.Deque.clear Builtin.Deque.items
    refine wpAny_bind (wpAny_bind (wpAny_bind (wpAny_fieldsOf hS rfl (wpAny_pure ?_))))
    rw [if_neg (by simp)]
    refine wpAny_pure (wpAny_pure ⟨rfl, ?_⟩)
    exact h _ _ (F.push _) (News.push F N _) fun p hp => Heap.lt_size (N p hp).1
end
section
variable {M : Model} {A : Around} {E : Value → Shared → Prop} {h h₀ : Heap} {g : Array GenState} {d : Drawn} {t : Nat} {o : OsState} {L a : Addr} {m : Str → Option Value} {cn : Str} {cs : Scope} {ccd : Value} {cl : List (Str × Addr)}
  {x : Str} {v : Value} {Q : Unit → Shared → Prop} {news : List (Addr × Obj)}
theorem storeV' (F : Fr h₀ L h m) (N : News h₀ L h news)
    (H : let m' := fun y => if y = x then some v else m y; ∀ k h', Fr h₀ L h' m' → News h₀ L h' news → Q () ⟨h', g, d, k, o⟩)
    (hk : cs.kind = .function) (hx : cs.names.lookup x = some .local) : wpAny M A (storeName (envX cn cs L a ccd cl) x v) Q E ⟨h, g, d, t, o⟩ :=
  storeX_L (s := ⟨h, g, d, t, o⟩) F N (fun h' F' N' => H _ h' F' N') hk hx
theorem storeSa {y : Str} {a₁ b₁ : Nat} (F : Fr h₀ L h m) (N : News h₀ L h news)
    (H : ∀ u : Tok, let m' := fun q => if q = x then some (.str y u) else m q; ∀ k h', Fr h₀ L h' m' → News h₀ L h' news → Q () ⟨h', g, d, k, o⟩)
    (hk : cs.kind = .function) (hx : cs.names.lookup x = some .local) : wpAny M A (storeName (envX cn cs L a ccd cl) x (.str y (a₁ + b₁))) Q E ⟨h, g, d, t, o⟩ :=
  storeV' F N (fun k => H _ k) hk hx
theorem storeSt {y : Str} {z : Shared} (F : Fr h₀ L h m) (N : News h₀ L h news)
    (H : ∀ u : Tok, let m' := fun q => if q = x then some (.str y u) else m q; ∀ k h', Fr h₀ L h' m' → News h₀ L h' news → Q () ⟨h', g, d, k, o⟩)
    (hk : cs.kind = .function) (hx : cs.names.lookup x = some .local) : wpAny M A (storeName (envX cn cs L a ccd cl) x (.str y z.toks)) Q E ⟨h, g, d, t, o⟩ :=
  storeV' F N (fun k => H _ k) hk hx
theorem storeIa {i : Int} {a₁ b₁ : Nat} (F : Fr h₀ L h m) (N : News h₀ L h news)
    (H : ∀ u : Tok, let m' := fun q => if q = x then some (.int i u) else m q; ∀ k h', Fr h₀ L h' m' → News h₀ L h' news → Q () ⟨h', g, d, k, o⟩)
    (hk : cs.kind = .function) (hx : cs.names.lookup x = some .local) : wpAny M A (storeName (envX cn cs L a ccd cl) x (.int i (a₁ + b₁))) Q E ⟨h, g, d, t, o⟩ :=
  storeV' F N (fun k => H _ k) hk hx
theorem storeIt {i : Int} {z : Shared} (F : Fr h₀ L h m) (N : News h₀ L h news)
    (H : ∀ u : Tok, let m' := fun q => if q = x then some (.int i u) else m q; ∀ k h', Fr h₀ L h' m' → News h₀ L h' news → Q () ⟨h', g, d, k, o⟩)
    (hk : cs.kind = .function) (hx : cs.names.lookup x = some .local) : wpAny M A (storeName (envX cn cs L a ccd cl) x (.int i z.toks)) Q E ⟨h, g, d, t, o⟩ :=
  storeV' F N (fun k => H _ k) hk hx
end
theorem turnN {prog : Program} {w : World} {A : Around} {E : Value → Shared → Prop} {s : Shared} {value slice : Expr} {o i : Value} {Q : Value → Shared → Prop} (h : wpAny (model prog w) A (subscriptTail (.Name (Str.ofString "_") ⟨0, 0, 0, 0⟩) slice o i) Q E s) :
    wpAny (model prog w) A (subscriptTail value slice o i) Q E s := kba_turn (fun _ => rfl) h
theorem foldAE {M : Model} {A : Around} {b : List Stmt} {env : Env} {Q : Flow → Shared → Prop} {E : Value → Shared → Prop} {s : Shared} (H : let e' := env; let A' := A.deeper e'; wpAny M A' (execs b e') Q E s) : wpAny M (A.deeper env) (execs b env) Q E s := H
section
variable {dp un d k : Nat} {gd : Option (List Code)} {cn : Str} {cs : Scope} {L a : Addr} {ccd : Value} {cl : List (Str × Addr)} {outer : List Env} {env : Env}
theorem unitsAk (h : un + 8 * d < cLine) (hk : Nat.ble (3 + k) (8 * d) = true) : ((ktrTop dp un gd cn cs L a ccd cl outer).deeper env).units + k < cLine := show un + 3 + k < cLine by rw [Nat.add_assoc]; exact unitsD1 h hk
theorem roomAk (h : dp + d < recursionLimit) (hk : Nat.ble (1 + k) d = true) : ((ktrTop dp un gd cn cs L a ccd cl outer).deeper env).depth + k < recursionLimit := show dp + 1 + k < recursionLimit by rw [Nat.add_assoc]; exact roomD1 h hk
end
section
variable {dp un d k e : Nat} {gd : Option (List Code)} {cn : Str} {cs : Scope} {L a : Addr} {ccd : Value} {cl : List (Str × Addr)} {outer : List Env} {env : Env}
theorem unitsAke (h : un + 8 * d < cLine) (hk : Nat.ble (3 + k + e) (8 * d) = true) : ((ktrTop dp un gd cn cs L a ccd cl outer).deeper env).units + k + e < cLine := by
  rw [Nat.add_assoc]; exact unitsAk h (by rw [← Nat.add_assoc]; exact hk)
theorem roomAke (h : dp + d < recursionLimit) (hk : Nat.ble (1 + k + e) d = true) : ((ktrTop dp un gd cn cs L a ccd cl outer).deeper env).depth + k + e < recursionLimit := by
  rw [Nat.add_assoc]; exact roomAk h (by rw [← Nat.add_assoc]; exact hk)
end
theorem truthyG1 {prog : Program} {w : World} {A : Around} {s : Shared} {E : Value → Shared → Prop} {D : Addr} {lo : Obj} {its : Array Value} {n : Nat} {Q : Bool → Shared → Prop} (ho : s.heap.get? D = some lo) (hc : lo.cls = .type "list") (hd : lo.data = .seq its n) (hz : its.size ≤ 1048576) (hb : (!its.isEmpty) = true)
    (h : Q true { s with toks := s.toks + 1 + 1 }) : wpAny (model prog w) A (truthy (.ref D)) Q E s := truthyG ho hc hd hz hb h
theorem newListZ {prog : Program} {w : World} {A : Around} {s : Shared} {E : Value → Shared → Prop} {h₀ : Heap} {L : Addr} {m : Str → Option Value} {news : List (Addr × Obj)} {vs : List Value} {Q : Value → Shared → Prop} (hsz : vs.length ≤ sizeLine) (F : Fr h₀ L s.heap m) (N : News h₀ L s.heap news)
    (h : ∀ l h', Fr h₀ L h' m → News h₀ L h' ((l, W.listOf vs.toArray 0) :: news) → (∀ p ∈ news, p.1 < l) → Q (.ref l) { s with heap := h' }) : wpAny (model prog w) A (newList vs) Q E s := newList_K F N h hsz
theorem itD {c : Prop} [Decidable c] {a b : Prop} (h : c) (H : a) : if c then a else b := ite_pos h H
theorem itN {c : Prop} [Decidable c] {a b : Prop} (h : ¬ c) (H : b) : if c then a else b := ite_neg h H
theorem itF {c : Bool} {a b : Prop} (h : c = false) (H : b) : if c = true then a else b := ite_isFalse h H
section
variable {M : Model} {A : Around} {E : Value → Shared → Prop} {s : Shared} {h₀ : Heap} {L a : Addr} {m : Str → Option Value} {cn : Str} {cs : Scope} {ccd : Value} {cl : List (Str × Addr)} {x : Str} {pos : Pos} {v : Value} {Q : Value → Shared → Prop}
theorem nmL (F : Fr h₀ L s.heap m) (hk : cs.kind = .function) (hx : cs.names.lookup x = some .local) (hd : (x == ("__debug__" : Str)) = false) (hv : m x = some v) (h : Q v s) :
    wpAny M A (eval (.Name x pos) (envX cn cs L a ccd cl)) Q E s := nameX_L F hv h hk hx hd
end
theorem rflT : true = true := rfl
theorem rflF : false = false := rfl
theorem leB {a b : Nat} (h : Nat.ble a b = true) : a ≤ b := Nat.le_of_ble_eq_true h
theorem sizeOk {n : Nat} (h : Nat.ble n 16777216 = true) : n ≤ sizeLine := by rw [sizeLine_eq]; exact Nat.le_of_ble_eq_true h
theorem frKeep {h₀ h : Heap} {L a : Addr} {m : Str → Option Value} {o : Obj} (F : Fr h₀ L h m) (g : h₀.get? a = some o) : h.get? a = some o := F.keep _ _ g
theorem zeroLe {n : Nat} : 0 ≤ n := Nat.zero_le n
theorem cutS {M : Model} {A : Around} {E : Value → Shared → Prop} {s : Shared} {env : Env} {st : Stmt} {rest : List Stmt} {Q : Flow → Shared → Prop} (P : Shared → Prop) (h1 : wpAny M A (exec st env) (fun f s' => f = .next ∧ P s') E s) (h2 : ∀ s', P s' → wpAny M A (execs rest env) Q E s') :
    wpAny M A (execs (st :: rest) env) Q E s := wpAny_execs_cons (wpAny_mono h1 (fun f s' ⟨e, hp⟩ => by subst e; exact h2 s' hp) fun _ _ x => x)
theorem fr_two {g h : Heap} {L : Addr} {m : Str → Option Value} {x1 x2 : Str} {v1 v2 : Value} (F : Fr g L h m) (e1 : m x1 = some v1) (e2 : m x2 = some v2) : Fr g L h (fun z => if z = x1 then some v1 else if z = x2 then some v2 else m z) := by
  have : (fun z => if z = x1 then some v1 else if z = x2 then some v2 else m z) = m := by
    funext z
    by_cases h1 : z = x1
    · rw [if_pos h1, h1, e1]
    · by_cases h2 : z = x2
      · rw [if_neg h1, if_pos h2, h2, e2]
      · rw [if_neg h1, if_neg h2]
  rw [this]; exact F
theorem fr_three {g h : Heap} {L : Addr} {m : Str → Option Value} {x1 x2 x3 : Str} {v1 v2 v3 : Value} (F : Fr g L h m) (e1 : m x1 = some v1) (e2 : m x2 = some v2) (e3 : m x3 = some v3) : Fr g L h (fun z => if z = x1 then some v1 else if z = x2 then some v2 else if z = x3 then some v3 else m z) := by
  have : (fun z => if z = x1 then some v1 else if z = x2 then some v2 else if z = x3 then some v3 else m z) = m := by
    funext z
    by_cases h1 : z = x1
    · rw [if_pos h1, h1, e1]
    · by_cases h2 : z = x2
      · rw [if_neg h1, if_pos h2, h2, e2]
      · by_cases h3 : z = x3
        · rw [if_neg h1, if_neg h2, if_pos h3, h3, e3]
        · rw [if_neg h1, if_neg h2, if_neg h3]
  rw [this]; exact F
theorem news_one {h₀ h : Heap} {L a : Addr} {o : Obj} {news : List (Addr × Obj)} (N : News h₀ L h news) (hm : (a, o) ∈ news) : News h₀ L h [(a, o)] := fun p hp => N p (List.mem_singleton.mp hp ▸ hm)
theorem szOf {n : Nat} (h : n ≤ 16777216) : n ≤ sizeLine := by rw [sizeLine_eq]; exact h
theorem szAdd {a b c d : Nat} (h1 : a ≤ c) (h2 : b ≤ d) (h : Nat.ble (c + d) 16777216 = true) : a + b ≤ sizeLine := szOf (Nat.le_trans (Nat.add_le_add h1 h2) (Nat.le_of_ble_eq_true h))
theorem leAdd {a b c d n : Nat} (h1 : a ≤ c) (h2 : b ≤ d) (h : Nat.ble (c + d) n = true) : a + b ≤ n := Nat.le_trans (Nat.add_le_add h1 h2) (Nat.le_of_ble_eq_true h)
theorem leC {a b c k n : Nat} (h1 : a ≤ b + k) (h2 : b ≤ c) (h : Nat.ble (c + k) n = true) : a ≤ n := Nat.le_trans h1 (Nat.le_trans (Nat.add_le_add_right h2 k) (Nat.le_of_ble_eq_true h))
theorem szC {a b c k : Nat} (h1 : a ≤ b + k) (h2 : b ≤ c) (h : Nat.ble (c + k) 16777216 = true) : a ≤ sizeLine := szOf (leC h1 h2 h)
theorem szApp {x y : Str} {c d : Nat} (h1 : x.length ≤ c) (h2 : y.length ≤ d) (h : Nat.ble (c + d) 16777216 = true) : (x ++ y).length ≤ sizeLine := by rw [Str.length_append]; exact szAdd h1 h2 h
theorem unitsD3 {un d a b e : Nat} (h : un + 8 * d < cLine) (hk : Nat.ble (a + b + e) (8 * d) = true) : un + a + b + e < cLine := by
  rw [Nat.add_assoc un, Nat.add_assoc un]; exact unitsD1 h hk
theorem unitsD4 {un d a b c e : Nat} (h : un + 8 * d < cLine) (hk : Nat.ble (a + b + c + e) (8 * d) = true) : un + a + b + c + e < cLine := by
  rw [Nat.add_assoc un, Nat.add_assoc un, Nat.add_assoc un]; exact unitsD1 h hk
theorem roomD3 {dp d a b e : Nat} (h : dp + d < recursionLimit) (hk : Nat.ble (a + b + e) d = true) : dp + a + b + e < recursionLimit := by
  rw [Nat.add_assoc dp, Nat.add_assoc dp]; exact roomD1 h hk
theorem ltTr {a b c : Nat} (h : b < c) (h1 : a < b) : a < c := Nat.lt_trans h1 h
theorem lt63 {n : Nat} (h : n ≤ 9223372036854775807) : (n : Int) < 9223372036854775808 := by omega
theorem lt63p {n : Nat} (h : n ≤ 9223372036854775807) : (n : Int) < 2 ^ 63 := lt63 h
theorem nge63 {n : Nat} (h : n ≤ 9223372036854775807) : ¬ (n : Int) ≥ 2 ^ 63 := fun q => absurd (lt63 h) (Int.not_lt.mpr q)
theorem leInt {n : Nat} (h : n ≤ 1048576) : (n : Int) ≤ 1048576 := Int.ofNat_le.mpr h
theorem geInt {n : Nat} : -1048576 ≤ (n : Int) := Int.le_trans (by decide) (Int.natCast_nonneg n)
theorem toNatLe {n c : Nat} (h : n ≤ c) : ((n : Int)).toNat ≤ c := h
theorem addK {a d k : Nat} (h : a ≤ d) : a + k ≤ d + k := Nat.add_le_add_right h k
theorem closedLe {n : Nat} (_ : Nat.ble n n = true) : n ≤ n := Nat.le_refl n
theorem mulK {a d k : Nat} (h : a ≤ d) : k * a ≤ k * d := Nat.mul_le_mul_left k h
theorem mulC {a d c k : Nat} (h : a ≤ d) (r : Nat.ble (k * d) c = true) : k * a ≤ c := Nat.le_trans (Nat.mul_le_mul_left k h) (Nat.le_of_ble_eq_true r)
theorem leRt {a b c d : Nat} (h : a + b ≤ c) (h2 : c ≤ d) : b ≤ d := Nat.le_trans (Nat.le_add_left b a) (Nat.le_trans h h2)
theorem leLt {a b c d : Nat} (h : a + b ≤ c) (h2 : c ≤ d) : a ≤ d := Nat.le_trans (Nat.le_add_right a b) (Nat.le_trans h h2)
theorem leEqL {a b c : Nat} (h : a = b) (h2 : b ≤ c) : a ≤ c := h ▸ h2
theorem lenApp {x y : Str} {c d : Nat} (h1 : x.length ≤ c) (h2 : y.length ≤ d) : (x ++ y).length ≤ c + d := by rw [Str.length_append]; exact Nat.add_le_add h1 h2
theorem subI {a c n : Nat} (h : a ≤ n) : ((a : Int) - (c : Int)).toNat ≤ n := by omega
theorem subN {a c b n k : Nat} (h : a ≤ k) (h2 : b ≤ n) : ((a : Int) - (c : Int)).toNat + (b - c) ≤ k + n := Nat.add_le_add (subI h) (Nat.le_trans (Nat.sub_le b c) h2)
theorem subC {a c b n k m : Nat} (h : a ≤ k) (h2 : b ≤ n) (r : Nat.ble (k + n) m = true) : ((a : Int) - (c : Int)).toNat + (b - c) ≤ m := Nat.le_trans (subN h h2) (Nat.le_of_ble_eq_true r)
theorem subL {a c : Nat} (h : a ≤ 1048576) : (a : Int) - (c : Int) ≤ 1048576 := by omega
theorem subG {a c : Nat} (h : c ≤ a) : -1048576 ≤ (a : Int) - (c : Int) := by omega
theorem seven {m : Int} (h : m < 7) (h0 : 0 ≤ m) : m = 0 ∨ m = 1 ∨ m = 2 ∨ m = 3 ∨ m = 4 ∨ m = 5 ∨ m = 6 := by
  have a : ∀ n : Fin 7, ((n.1 : Nat) : Int) = 0 ∨ ((n.1 : Nat) : Int) = 1 ∨ ((n.1 : Nat) : Int) = 2 ∨ ((n.1 : Nat) : Int) = 3 ∨ ((n.1 : Nat) : Int) = 4 ∨ ((n.1 : Nat) : Int) = 5 ∨ ((n.1 : Nat) : Int) = 6 := by decide
  obtain ⟨n, rfl⟩ := Int.eq_ofNat_of_zero_le h0
  exact a ⟨n, Int.ofNat_lt.mp h⟩
theorem addStr {prog : Program} {w : World} {A : Around} {s : Shared} {E : Value → Shared → Prop} {x y : Str} {t u : Tok} {c d : Nat} {Q : Value → Shared → Prop} (h1 : x.length ≤ c) (h2 : y.length ≤ d) (hz : Nat.ble (c + d) 16777216 = true)
    (h : ∀ t' k, (x ++ y).length ≤ c + d → Q (.str (x ++ y) t') { s with toks := k }) : wpAny (model prog w) A (binaryOp .Add (.str x t) (.str y u)) Q E s :=
  SBL.add (fun t' k g => h t' k (Nat.le_trans g.2 (Nat.add_le_add h1 h2))) (szAdd h1 h2 hz)
theorem dpos {d : Int} {n : Nat} (hd : d = n) (h : 0 < d) : ¬ n = 0 := fun e => by subst hd; subst e; exact absurd h (Int.lt_irrefl 0)
theorem dzero {d : Int} {n : Nat} (hd : d = n) (h : ¬ 0 < d) : n = 0 := by subst hd; exact Nat.eq_zero_of_not_pos fun p => h (Int.ofNat_lt.mpr p)
theorem dsub {d : Int} {n : Nat} (hd : d = n) (h : 0 < d) : (n : Int) - 1 = ((n - 1 : Nat) : Int) := by subst hd; exact (Int.ofNat_sub (Int.ofNat_lt.mp h)).symm
theorem preLen {ls pre rest : List Str} (h : ls = pre ++ rest) : (pre.map (·.length)).sum + pre.length ≤ (ls.map (·.length)).sum + ls.length := by
  subst h; rw [List.map_append, List.sum_append, List.length_append]; exact Nat.add_le_add (Nat.le_add_right _ _) (Nat.le_add_right _ _)
theorem preLenR {ls pre rest : List Str} (h : ls.reverse = pre ++ rest) : (pre.map (·.length)).sum + pre.length ≤ (ls.map (·.length)).sum + ls.length := by
  have := preLen h; rw [List.map_reverse, List.sum_reverse, List.length_reverse] at this; exact this
theorem dropW {g S G c : Nat} (h : g + S + (G + 1) ≤ c) : S + G ≤ c := by omega
theorem min3 {k a b c : Nat} {M : Int} (h : M ≤ (a : Int) ∧ M ≤ (b : Int) ∧ M ≤ (c : Int)) (q : (k : Int) < M) : k < a ∧ k < b ∧ k < c :=
  ⟨Int.ofNat_lt.mp (Int.lt_of_lt_of_le q h.1), Int.ofNat_lt.mp (Int.lt_of_lt_of_le q h.2.1), Int.ofNat_lt.mp (Int.lt_of_lt_of_le q h.2.2)⟩
theorem stop3 {k a b c : Nat} {M : Int} {R : Prop} (h : M = (a : Int) ∨ M = (b : Int) ∨ M = (c : Int)) (q : ¬ (k : Int) < M) : a ≤ k ∨ b ≤ k ∨ c ≤ k ∨ R := by
  have q' : M ≤ (k : Int) := Int.not_lt.mp q
  rcases h with rfl | rfl | rfl
  · exact .inl (Int.ofNat_le.mp q')
  · exact .inr (.inl (Int.ofNat_le.mp q'))
  · exact .inr (.inr (.inl (Int.ofNat_le.mp q')))
local macro_rules | `(tactic| walk_at $k) => wk k.getString
local macro_rules | `(tactic| ktr_room) => wk "room"
local macro_rules | `(tactic| ktr_units) => wk "mu"
local macro_rules | `(tactic| units_room) => wk "mu"
local macro_rules | `(tactic| size_fits) => wk "mF"
local macro_rules | `(tactic| k_ne) => wk "nE"
local macro_rules | `(tactic| omega) => wk "om"
local macro_rules | `(tactic| lia) => wk "om"
local macro_rules | `(tactic| k_all) => wk "kA"
section
set_option maxHeartbeats 4000000
theorem c_fspath (w : World) (x : Str) (tx : Tok) : Claim w 1 117 [.str x tx] (fun _ => True) (fun _ v _ => ∃ t, v = .str x t) := by
  unfold Claim; k_fill
  intro dp un gd cn cs a ccd cl outer A₀ base h₀ L m p loose mean mg mb s B F X T hk _ hd hu
  k_dflt (refine' enterN [("path", .str x tx)] B F X T ?kA ?kF ?kK ?k6 ?k7 ?k8 ?k9 ?kB ?_ ?c2; ((case kA => exact rfl); (case kF => exact rfl); (case kK => assumption); (case k6 => k_is); (case k7 => k_is); (case k8 => ktr_room); (case k9 => exact BindsTo.of_eq rfl); (case kB => exact rfl); (case c2 => exact rfl); k_whole))
  clear T X B F
  intro L' h' F' N' B' X' T' Qf hQ; (try dsimp only)
  refine foldAE ?_; intro ee AA
  k_steps
  all_goals (try dsimp only)
  all_goals exact hQ (by assumption) ⟨_, rfl⟩
end
section
set_option maxHeartbeats 4000000
noncomputable def srRoot (x : Str) : Str := if Txt.slice x none (some 1) != "/" then "" else if (Txt.slice x (some 1) (some 2) != "/" || Txt.slice x (some 2) (some 3) == "/") then "/" else Txt.slice x none (some 2)
noncomputable def srTail (x : Str) : Str := if Txt.slice x none (some 1) != "/" then x else if (Txt.slice x (some 1) (some 2) != "/" || Txt.slice x (some 2) (some 3) == "/") then Txt.slice x (some 1) none else Txt.slice x (some 2) none
theorem len_srTail (x : Str) : (srTail x).length ≤ x.length := by
  unfold srTail; split
  · exact Nat.le_refl _
  · split <;> exact Txt.length_slice_le _ _ _
theorem len_srRoot (x : Str) : (srRoot x).length ≤ 2 := by
  unfold srRoot; split
  · decide
  · split
    · decide
    · rw [← len_cs, show cs (Txt.slice x none (some 2)) = _ from cs_slice_to x 2, List.length_take]; exact Nat.min_le_left _ _
theorem c_splitroot (w : World) (x : Str) (tx : Tok) (hx : x.length ≤ 65536) : Claim w 2 152 [.str x tx] (fun _ => True)
    (fun h v h' => ∃ a t1 t2 t3, v = .ref a ∧ NewObj h h' a { cls := .type "tuple", data := .seq #[.str "" t1, .str (srRoot x) t2, .str (srTail x) t3] } ∧ (srTail x).length ≤ x.length ∧ (srRoot x).length ≤ 2) := by
  unfold Claim; k_fill
  intro dp un gd cn cs a ccd cl outer A₀ base h₀ L m p loose mean mg mb s B F X T hk _ hd hu
  k_dflt (refine' enterN [("p", .str x tx)] B F X T ?kA ?kF ?kK ?k6 ?k7 ?k8 ?k9 ?kB ?_ ?c2; ((case kA => exact rfl); (case kF => exact rfl); (case kK => assumption); (case k6 => k_is); (case k7 => k_is); (case k8 => ktr_room); (case k9 => exact BindsTo.of_eq rfl); (case kB => exact rfl); (case c2 => exact rfl); k_whole))
  clear T X B F
  intro L' h' F' N' B' X' T' Qf hQ; (try dsimp only)
  refine foldAE ?_; intro ee AA
  (repeat' (first | ((with_reducible show wpAny _ _ (call (Value.ref 117) _) _ _ _); (k_here; k_dflt (refine' useS (c_fspath _ _ _) ?k1 ?k2 ?k3 ?k4 ?k5 ?k6 ?k7 ?k8 ?_; ((case k1 => k_asm); (case k2 => k_asm); (case k3 => k_asm); (case k4 => k_asm); (case k5 => k_asm); (case k6 => first | exact rfl | assumption); (case k7 => ktr_room); (case k8 => ktr_units)); k_whole; intro t' h' tk' F' N'; (try k_sweep); (try dsimp only)))) | (k_unfold; try dsimp only) | (k_end; wrow_close) | walk1 | (dsimp only; walk1) | (leave1; try dsimp only)))
  all_goals (try dsimp only)
  all_goals (refine' hQ (by assumption) ⟨_, _, _, _, rfl, ?h, len_srTail x, len_srRoot x⟩; (case h => (simp only [srRoot, srTail, *, if_true, if_false, Bool.false_eq_true, Bool.or_true, Bool.true_or, Bool.or_false, Bool.false_or]; exact newObj_of (by assumption) (.head _))))
end
section
set_option maxHeartbeats 4000000
noncomputable def npStep (r : Str) (acc : List Str) (c : Str) : List Str :=
  if (c.length : Int) = 0 then acc else if (c == ".") = true then acc
  else if (c != "..") = true then acc ++ [c]
  else if acc.isEmpty = true then (if (r.length : Int) = 0 then acc ++ [c] else acc)
  else if (acc.getLastD "" == "..") = true then acc ++ [c] else acc.dropLast
theorem npStep_sum (r : Str) (acc : List Str) (c : Str) : ((npStep r acc c).map (·.length)).sum + (npStep r acc c).length ≤ (acc.map (·.length)).sum + acc.length + c.length + 1 := by
  have hd : (acc.dropLast.map (·.length)).sum + acc.dropLast.length ≤ (acc.map (·.length)).sum + acc.length := by
    rcases List.eq_nil_or_concat acc with rfl | ⟨l, a, rfl⟩
    · simp
    · simp; lia
  unfold npStep
  (repeat' split) <;> (try simp only [List.map_append, List.sum_append, List.length_append, List.map_cons, List.sum_cons, List.length_cons, List.map_nil, List.sum_nil, List.length_nil]) <;> lia
theorem npFold_sum (r : Str) : ∀ (ys acc : List Str), ((ys.foldl (npStep r) acc).map (·.length)).sum + (ys.foldl (npStep r) acc).length ≤ (acc.map (·.length)).sum + acc.length + (ys.map (·.length)).sum + ys.length
  | [], acc => by simp
  | c :: ys, acc => by
    have := npFold_sum r ys (npStep r acc c)
    have := npStep_sum r acc c
    simp only [List.foldl_cons, List.map_cons, List.sum_cons, List.length_cons]
    lia
noncomputable def npComps (x : Str) : List Str := (Txt.split (srTail x) "/").foldl (npStep (srRoot x)) []
theorem npComps_sum (x : Str) : ((npComps x).map (·.length)).sum + (npComps x).length ≤ x.length + 1 := by
  have h1 := npFold_sum (srRoot x) (Txt.split (srTail x) "/") []
  have h2 := split_weight (srTail x) "/" (by decide)
  have h3 := len_srTail x
  unfold npComps
  simp at h1
  lia
theorem npComps_join (x : Str) (hx : x.length ≤ 65536 := by assumption) : ((npComps x).map (·.length)).sum + (npComps x).length * (Str.ofString "/").length ≤ 16777216 := by
  have h1 := npComps_sum x
  have h2 : (Str.ofString "/").length = 1 := by decide
  rw [h2]; lia
theorem len_join1 {sep : Str} (hs : sep.length = 1) (ys : List Str) : (Txt.join sep ys).length ≤ (ys.map (·.length)).sum + ys.length := by
  unfold Txt.join
  rw [StrLaws.glued_eq_join]
  cases ys with
  | nil => simp [Str.join, Str.length, Str.empty]
  | cons a l => rw [len_join_cons, hs]; simp only [List.length_cons]; lia
theorem len_npJoin (x : Str) : (Txt.join (Str.ofString "/") (npComps x)).length ≤ x.length + 1 :=
  Nat.le_trans (len_join1 (by decide) _) (npComps_sum x)
noncomputable def npR (x : Str) : Str := if (x.length : Int) = 0 then "." else if ((srRoot x ++ Txt.join "/" (npComps x)).length : Int) = 0 then "." else srRoot x ++ Txt.join "/" (npComps x)
theorem c_normpath (w : World) (x : Str) (tx : Tok) (hx : x.length ≤ 65536) : Claim w 3 159 [.str x tx] (fun _ => True)
    (fun _ v _ => ∃ t, v = .str (npR x) t) := by
  unfold Claim; k_fill
  intro dp un gd cn cs a ccd cl outer A₀ base h₀ L m p loose mean mg mb s B F X T hk _ hd hu
  k_dflt (refine' enterN [("path", .str x tx)] B F X T ?kA ?kF ?kK ?k6 ?k7 ?k8 ?k9 ?kB ?_ ?c2; ((case kA => exact rfl); (case kF => exact rfl); (case kK => assumption); (case k6 => k_is); (case k7 => k_is); (case k8 => ktr_room); (case k9 => exact BindsTo.of_eq rfl); (case kB => exact rfl); (case c2 => exact rfl); k_whole))
  clear T X B F
  intro L' h' F' N' B' X' T' Qf hQ; (try dsimp only)
  refine foldAE ?_; intro ee AA
  (repeat' (first | ((with_reducible show wpAny _ _ (call (Value.ref 117) _) _ _ _); (k_here; k_dflt (refine' useS (c_fspath _ _ _) ?k1 ?k2 ?k3 ?k4 ?k5 ?k6 ?k7 ?k8 ?_; ((case k1 => k_asm); (case k2 => k_asm); (case k3 => k_asm); (case k4 => k_asm); (case k5 => k_asm); (case k6 => first | exact rfl | assumption); (case k7 => ktr_room); (case k8 => ktr_units)); k_whole; intro t' h' tk' F' N'; (try k_sweep); (try dsimp only)))) | ((with_reducible show wpAny _ _ (call (Value.ref 152) _) _ _ _); (k_here; k_dflt (refine' use (c_splitroot _ _ _ ?hx) ?k1 ?k2 ?k3 ?k4 ?k5 ?k6 ?kp ?k7 ?k8 ?_; (case hx => first | assumption | omega); (case kp => exact trivial); ((case k1 => k_asm); (case k2 => k_asm); (case k3 => k_asm); (case k4 => k_asm); (case k5 => k_asm); (case k6 => first | exact rfl | assumption); (case k7 => ktr_room); (case k8 => ktr_units)); k_whole; intro v' h' tk' F' N' G' hv'; obtain ⟨a', t1', t2', t3', e0', ho', hl1', hl2'⟩ := hv'; subst e0'; (have e' := ho'.ne (by assumption)); (simp only [AllNe, and_true] at e'); (replace N' := ho'.news (by assumption) N'); (try k_sweep); (try dsimp only)))) | ((with_reducible show wpAny _ _ (pyIter _) _ _ _); refine stop9 ?_) | (k_unfold; try dsimp only) | (k_end; wrow_close) | walk1 | (dsimp only; walk1) | (leave1; try dsimp only)))
  · have hw := split_weight (srTail x) "/" (by decide)
    refine' loop_acc (P := fun pre vs => StrsAre vs (pre.foldl (npStep (srRoot x)) [])) ?q1 ?q2 ?q3 ?q4 ?q5 ?q6 ?q7 (B := 65536) ?qB ?q8 ?q9 ?turn ?done
    case q1 => exact rfl
    case q2 => assumption
    case q3 => assumption
    case q4 => k_mem
    case q5 => exact rfl
    case q6 => exact rfl
    case q7 => assumption
    case q8 => k_all
    case q9 => exact .nil
    case qB => intro y hy; have := part_short hy; lia
    case turn =>
      intro pre y post t vs n h tk I o hsp hy hP hI hD F N
      simp only [AllNe, and_true, List.cons_append, List.nil_append] at hI hD
      (try dsimp only [List.cons_append, List.nil_append] at N)
      have hz : (pre.foldl (npStep (srRoot x)) []).length ≤ 1048576 := by
        have h1 := npFold_sum (srRoot x) pre []
        simp only [List.map_nil, List.sum_nil, List.length_nil, Nat.zero_add] at h1
        exact Nat.le_trans (leRt h1 (preLen hsp)) (Nat.le_trans (split_weight (srTail x) "/" (by decide)) (Nat.le_trans (Nat.add_le_add_right (Nat.le_trans (len_srTail x) hx) 1) (leB rfl)))
      k_sweep
      (repeat' (first | ((with_reducible show wpAny _ _ (call (Value.ref 117) _) _ _ _); (k_here; k_dflt (refine' useS (c_fspath _ _ _) ?k1 ?k2 ?k3 ?k4 ?k5 ?k6 ?k7 ?k8 ?_; ((case k1 => k_asm); (case k2 => k_asm); (case k3 => k_asm); (case k4 => k_asm); (case k5 => k_asm); (case k6 => first | exact rfl | assumption); (case k7 => ktr_room); (case k8 => ktr_units)); k_whole; intro t' h' tk' F' N'; (try k_sweep); (try dsimp only)))) | ((with_reducible show wpAny _ _ (call (Value.ref 152) _) _ _ _); (k_here; k_dflt (refine' use (c_splitroot _ _ _ ?hx) ?k1 ?k2 ?k3 ?k4 ?k5 ?k6 ?kp ?k7 ?k8 ?_; (case hx => first | assumption | omega); (case kp => exact trivial); ((case k1 => k_asm); (case k2 => k_asm); (case k3 => k_asm); (case k4 => k_asm); (case k5 => k_asm); (case k6 => first | exact rfl | assumption); (case k7 => ktr_room); (case k8 => ktr_units)); k_whole; intro v' h' tk' F' N' G' hv'; obtain ⟨a', t1', t2', t3', e0', ho', hl1', hl2'⟩ := hv'; subst e0'; (have e' := ho'.ne (by assumption)); (simp only [AllNe, and_true] at e'); (replace N' := ho'.news (by assumption) N'); (try k_sweep); (try dsimp only)))) | ((with_reducible show wpAny _ _ (pyIter _) _ _ _); refine stop9 ?_) | (k_unfold; try dsimp only) | (k_end; wrow_close) | walk1 | (dsimp only; walk1) | (leave1; try dsimp only)))
      all_goals (refine ⟨_, _, _, _, _, rfl, by assumption, fun y hy => if_neg hy, by assumption, ?_⟩; simp only [List.foldl_append, List.foldl_cons, List.foldl_nil])
      all_goals (generalize List.foldl (npStep (srRoot x)) [] pre = acc at *)
      all_goals (simp only [npStep, *, if_true, if_false, Bool.false_eq_true] <;> first | exact hP | exact strsAre_push hP | exact strsAre_pop hP)
    case done =>
      intro vs n h tk u hP F N
      change StrsAre vs.toList (npComps x) at hP
      have hj := npComps_join x
      have hjl := len_npJoin x
      k_sweep
      (repeat' (first | ((with_reducible show wpAny _ _ (call (Value.ref 117) _) _ _ _); (k_here; k_dflt (refine' useS (c_fspath _ _ _) ?k1 ?k2 ?k3 ?k4 ?k5 ?k6 ?k7 ?k8 ?_; ((case k1 => k_asm); (case k2 => k_asm); (case k3 => k_asm); (case k4 => k_asm); (case k5 => k_asm); (case k6 => first | exact rfl | assumption); (case k7 => ktr_room); (case k8 => ktr_units)); k_whole; intro t' h' tk' F' N'; (try k_sweep); (try dsimp only)))) | ((with_reducible show wpAny _ _ (call (Value.ref 152) _) _ _ _); (k_here; k_dflt (refine' use (c_splitroot _ _ _ ?hx) ?k1 ?k2 ?k3 ?k4 ?k5 ?k6 ?kp ?k7 ?k8 ?_; (case hx => first | assumption | omega); (case kp => exact trivial); ((case k1 => k_asm); (case k2 => k_asm); (case k3 => k_asm); (case k4 => k_asm); (case k5 => k_asm); (case k6 => first | exact rfl | assumption); (case k7 => ktr_room); (case k8 => ktr_units)); k_whole; intro v' h' tk' F' N' G' hv'; obtain ⟨a', t1', t2', t3', e0', ho', hl1', hl2'⟩ := hv'; subst e0'; (have e' := ho'.ne (by assumption)); (simp only [AllNe, and_true] at e'); (replace N' := ho'.news (by assumption) N'); (try k_sweep); (try dsimp only)))) | ((with_reducible show wpAny _ _ (pyIter _) _ _ _); refine stop9 ?_) | (k_unfold; try dsimp only) | (k_end; wrow_close) | walk1 | (dsimp only; walk1) | (leave1; try dsimp only)))
      all_goals (try dsimp only)
      all_goals (refine' hQ (by assumption) ⟨_, ?h⟩; (case h => (simp only [npR, *, if_true, if_false] <;> rfl)))
  · have e : npR x = "." := by simp only [npR, *, if_true]
    (try dsimp only)
    exact hQ (by assumption) ⟨_, congrArg (Value.str · _) e.symm⟩
theorem len_npR (x : Str) : (npR x).length ≤ x.length + 3 := by
  have h1 := len_srRoot x
  have h2 := len_npJoin x
  have h3 : (Str.ofString ".").length = 1 := by decide
  unfold npR
  split
  · rw [h3]; lia
  · split
    · rw [h3]; lia
    · rw [Str.length_append]; lia
end
section
set_option maxHeartbeats 4000000
theorem c_abspath (w : World) (x : Str) (tx : Tok) (hx : x.length ≤ 65536) (hs : Txt.startswith x "/" = true) : Claim w 4 166 [.str x tx] (fun _ => True) (fun _ v _ => ∃ t, v = .str (npR x) t) := by
  unfold Claim; k_fill
  intro dp un gd cn cs a ccd cl outer A₀ base h₀ L m p loose mean mg mb s B F X T hk _ hd hu
  k_dflt (refine' enterN [("path", .str x tx)] B F X T ?kA ?kF ?kK ?k6 ?k7 ?k8 ?k9 ?kB ?_ ?c2; ((case kA => exact rfl); (case kF => exact rfl); (case kK => assumption); (case k6 => k_is); (case k7 => k_is); (case k8 => ktr_room); (case k9 => exact BindsTo.of_eq rfl); (case kB => exact rfl); (case c2 => exact rfl); k_whole))
  clear T X B F
  intro L' h' F' N' B' X' T' Qf hQ; (try dsimp only)
  refine foldAE ?_; intro ee AA
  (repeat' (first | ((with_reducible show wpAny _ _ (call (Value.ref 117) _) _ _ _); (k_here; k_dflt (refine' useS (c_fspath _ _ _) ?k1 ?k2 ?k3 ?k4 ?k5 ?k6 ?k7 ?k8 ?_; ((case k1 => k_asm); (case k2 => k_asm); (case k3 => k_asm); (case k4 => k_asm); (case k5 => k_asm); (case k6 => first | exact rfl | assumption); (case k7 => ktr_room); (case k8 => ktr_units)); k_whole; intro t' h' tk' F' N'; (try k_sweep); (try dsimp only)))) | ((with_reducible show wpAny _ _ (call (Value.ref 159) _) _ _ _); (k_here; k_dflt (refine' useGB (c_normpath _ _ _ ?hx) (len_npR _) ?k1 ?k2 ?k3 ?k4 ?k5 ?k6 ?k7 ?k8 ?_; (case hx => walk_at "mz"); ((case k1 => k_asm); (case k2 => k_asm); (case k3 => k_asm); (case k4 => k_asm); (case k5 => k_asm); (case k6 => first | exact rfl | assumption); (case k7 => ktr_room); (case k8 => ktr_units)); k_whole; intro t' h' tk' F' N' G' hB'; (try k_sweep); (try dsimp only)))) | (k_unfold; try dsimp only) | (k_end; wrow_close) | walk1 | (dsimp only; walk1) | (leave1; try dsimp only)))
  all_goals (try dsimp only)
  all_goals exact hQ (by assumption) ⟨_, rfl⟩
end
section
set_option maxHeartbeats 4000000
theorem c_commonprefix (w : World) (la b1 b2 : Addr) (lo o1 o2 : Obj) (n n1 n2 : Nat) (v1 v2 : List Value) (ys1 ys2 : List Str) (hlc : lo.cls = .type "list") (hld : lo.data = .seq [.ref b1, .ref b2].toArray n)
    (h1c : o1.cls = .type "list") (h1d : o1.data = .seq v1.toArray n1) (h1s : StrsAre v1 ys1) (h2c : o2.cls = .type "list") (h2d : o2.data = .seq v2.toArray n2) (h2s : StrsAre v2 ys2) (hz1 : ys1.length ≤ 65536) (hz2 : ys2.length ≤ 65536) :
    Claim w 1 124 [.ref la] (fun h => h.get? la = some lo ∧ h.get? b1 = some o1 ∧ h.get? b2 = some o2)
      (fun _ v h' => ∃ r ro its k, v = .ref r ∧ h'.get? r = some ro ∧ ro.cls = .type "list" ∧ ro.data = .seq its k ∧ its.size = lcpN ys1 ys2) := by
  unfold Claim; k_fill
  intro dp un gd cn cs a ccd cl outer A₀ base h₀ L m p loose mean mg mb s B F X T hk ⟨hpa, hp1, hp2⟩ hd hu
  k_dflt (refine' enterN [("m", .ref la)] B F X T ?kA ?kF ?kK ?k6 ?k7 ?k8 ?k9 ?kB ?_ ?c2; ((case kA => exact rfl); (case kF => exact rfl); (case kK => assumption); (case k6 => k_is); (case k7 => k_is); (case k8 => ktr_room); (case k9 => exact BindsTo.of_eq rfl); (case kB => exact rfl); (case c2 => exact rfl); k_whole))
  clear T X B F
  intro L' h' F' N' B' X' T' Qf hQ; (try dsimp only)
  refine foldAE ?_; intro ee AA
  (repeat' (first | ((with_reducible show wpAny _ _ (call (Value.ref 117) _) _ _ _); (k_here; k_dflt (refine' useS (c_fspath _ _ _) ?k1 ?k2 ?k3 ?k4 ?k5 ?k6 ?k7 ?k8 ?_; ((case k1 => k_asm); (case k2 => k_asm); (case k3 => k_asm); (case k4 => k_asm); (case k5 => k_asm); (case k6 => first | exact rfl | assumption); (case k7 => ktr_room); (case k8 => ktr_units)); k_whole; intro t' h' tk' F' N'; (try k_sweep); (try dsimp only)))) | (k_unfold; try dsimp only) | (k_end; wrow_close) | walk1 | (dsimp only; walk1) | (leave1; try dsimp only)))
  k_dflt (refine' min_lists (b1, ys1) [(b2, ys2)] ?h ?u ?o ?c ?d ?L ?_)
  ((case h => exact rfl); (case u => units_room); (case o => walk_at "mo"); (case c => walk_at "mc"); (case d => first | with_reducible assumption | exact rfl | assumption); (case L => walk_at "mLists"))
  have hE := ends_of (b1, ys1) [(b2, ys2)]
  obtain ⟨mS, _⟩ := minP_spec (b1, ys1) [(b2, ys2)]
  obtain ⟨mM, _⟩ := maxP_spec (b1, ys1) [(b2, ys2)]
  generalize minP (b1, ys1) [(b2, ys2)] = S at *
  intro h2 tk2 G2
  have F2 := Fr.grownK (by k_asm) G2
  have N2 := News.grown (by k_asm) G2
  k_sweep
  (repeat' (first | ((with_reducible show wpAny _ _ (call (Value.ref 117) _) _ _ _); (k_here; k_dflt (refine' useS (c_fspath _ _ _) ?k1 ?k2 ?k3 ?k4 ?k5 ?k6 ?k7 ?k8 ?_; ((case k1 => k_asm); (case k2 => k_asm); (case k3 => k_asm); (case k4 => k_asm); (case k5 => k_asm); (case k6 => first | exact rfl | assumption); (case k7 => ktr_room); (case k8 => ktr_units)); k_whole; intro t' h' tk' F' N'; (try k_sweep); (try dsimp only)))) | (k_unfold; try dsimp only) | (k_end; wrow_close) | walk1 | (dsimp only; walk1) | (leave1; try dsimp only)))
  k_dflt (refine' max_lists (b1, ys1) [(b2, ys2)] ?h ?u ?o ?c ?d ?L ?_)
  ((case h => exact rfl); (case u => units_room); (case o => walk_at "mo"); (case c => walk_at "mc"); (case d => first | with_reducible assumption | exact rfl | assumption); (case L => walk_at "mLists"))
  generalize maxP (b1, ys1) [(b2, ys2)] = M at *
  intro h3 tk3 G3
  have F3 := Fr.grownK (by k_asm) G3
  have N3 := News.grown (by k_asm) G3
  k_sweep
  (repeat' (first | ((with_reducible show wpAny _ _ (call (Value.ref 117) _) _ _ _); (k_here; k_dflt (refine' useS (c_fspath _ _ _) ?k1 ?k2 ?k3 ?k4 ?k5 ?k6 ?k7 ?k8 ?_; ((case k1 => k_asm); (case k2 => k_asm); (case k3 => k_asm); (case k4 => k_asm); (case k5 => k_asm); (case k6 => first | exact rfl | assumption); (case k7 => ktr_room); (case k8 => ktr_units)); k_whole; intro t' h' tk' F' N'; (try k_sweep); (try dsimp only)))) | (k_unfold; try dsimp only) | (k_end; wrow_close) | walk1 | (dsimp only; walk1) | (leave1; try dsimp only)))
  unfold Stop9
  have hLs : Lists s.heap [(b1, ys1), (b2, ys2)] := by walk_at "mLists"
  obtain ⟨oS, iS, nS, gS, cS, dS, sS⟩ := hLs S mS
  obtain ⟨oM, iM, nM, gM, cM, dM, sM⟩ := hLs M mM
  have hSz : S.2.length ≤ 65536 := by simp only [List.mem_cons, List.not_mem_nil, or_false] at mS; rcases mS with rfl | rfl <;> assumption
  have hMz : M.2.length ≤ 65536 := by simp only [List.mem_cons, List.not_mem_nil, or_false] at mM; rcases mM with rfl | rfl <;> assumption
  have hSl : iS.size ≤ 1048576 := by have := strsAre_len sS; simp at this; lia
  have hlcp : lcpN ys1 ys2 = lcpN S.2 M.2 := hE.two
  refine' for_enum (fun i => S.2.take i = M.2.take i) ?q1 ?q2 (.inr gS) cS (vs := iS.toList) ?q3 sS rfl ?step ?done ?q4 ?q5 ?q6 ?q7 ?q8 ?q9 ?q10
  case q1 => k_asm
  case q2 => k_asm
  case q3 => simpa using dS
  case q4 => exact rfl
  case q5 => exact rfl
  case q6 => exact rfl
  case q7 => exact rfl
  case q8 => passes_own
  case q9 =>
    intro Q' hQ'
    (repeat' (first | ((with_reducible show wpAny _ _ (call (Value.ref 117) _) _ _ _); (k_here; k_dflt (refine' useS (c_fspath _ _ _) ?k1 ?k2 ?k3 ?k4 ?k5 ?k6 ?k7 ?k8 ?_; ((case k1 => k_asm); (case k2 => k_asm); (case k3 => k_asm); (case k4 => k_asm); (case k5 => k_asm); (case k6 => first | exact rfl | assumption); (case k7 => ktr_room); (case k8 => ktr_units)); k_whole; intro t' h' tk' F' N'; (try k_sweep); (try dsimp only)))) | (k_unfold; try dsimp only) | (k_end; wrow_close) | walk1 | (dsimp only; walk1) | (leave1; try dsimp only)))
  case q10 => intro _; rfl
  case step =>
    intro i y t ti h tk e oe it oi hy hJ ne1 ne2 F N
    simp only [AllNe, and_true, List.cons_append, List.nil_append] at ne1 ne2
    (try dsimp only [List.cons_append, List.nil_append] at N)
    obtain ⟨hi, hy'⟩ := List.getElem?_eq_some_iff.mp hy
    have hiM := hE.go hi hJ
    have hz := List.getElem?_eq_getElem hiM
    generalize M.2[i] = z at hz
    k_sweep
    (repeat' (first | ((with_reducible show wpAny _ _ (call (Value.ref 117) _) _ _ _); (k_here; k_dflt (refine' useS (c_fspath _ _ _) ?k1 ?k2 ?k3 ?k4 ?k5 ?k6 ?k7 ?k8 ?_; ((case k1 => k_asm); (case k2 => k_asm); (case k3 => k_asm); (case k4 => k_asm); (case k5 => k_asm); (case k6 => first | exact rfl | assumption); (case k7 => ktr_room); (case k8 => ktr_units)); k_whole; intro t' h' tk' F' N'; (try k_sweep); (try dsimp only)))) | (k_unfold; try dsimp only) | (k_end; wrow_close) | walk1 | (dsimp only; walk1) | (leave1; try dsimp only)))
    all_goals (show TurnE _ _ _ _ _ _ _ _ _ _ _; unfold TurnE; (try dsimp only))
    · refine hQ (by assumption) ⟨_, _, _, _, rfl, News.get (by k_asm) (.head _), rfl, rfl, ?_⟩
      rw [hlcp, lcpN_at hJ hy hz (by simpa using ‹(y != z) = true›)]
      have e := strsAre_len sS
      simp at e ⊢
      exact Nat.min_eq_left (by rw [e]; exact Nat.le_of_lt (by assumption))
    · refine ⟨_, _, _, rfl, by assumption, fun z h1 h2 => (if_neg h2).trans (if_neg h1), by assumption, ?_⟩
      have e : y = z := by simpa using ‹(y != z) = false›
      exact take_next hJ hy (e ▸ hz)
  case done =>
    intro h tk u F N hJ
    k_sweep
    (repeat' (first | ((with_reducible show wpAny _ _ (call (Value.ref 117) _) _ _ _); (k_here; k_dflt (refine' useS (c_fspath _ _ _) ?k1 ?k2 ?k3 ?k4 ?k5 ?k6 ?k7 ?k8 ?_; ((case k1 => k_asm); (case k2 => k_asm); (case k3 => k_asm); (case k4 => k_asm); (case k5 => k_asm); (case k6 => first | exact rfl | assumption); (case k7 => ktr_room); (case k8 => ktr_units)); k_whole; intro t' h' tk' F' N'; (try k_sweep); (try dsimp only)))) | (k_unfold; try dsimp only) | (k_end; wrow_close) | walk1 | (dsimp only; walk1) | (leave1; try dsimp only)))
    all_goals (try dsimp only)
    refine hQ (by assumption) ⟨_, oS, iS, nS, rfl, Fr.keep (by assumption) _ _ gS, cS, dS, ?_⟩
    have := strsAre_len sS
    rw [hlcp, lcpN_all hJ]
    simpa using this

theorem use_commonprefix {w : World} {la b1 b2 : Addr} {lo o1 o2 : Obj} {n n1 n2 : Nat} {v1 v2 : Array Value} {ys1 ys2 : List Str}
    {dp un : Nat} {gd : Option (List Code)} {cn : Str} {cs : Scope} {a : Addr} {ccd : Value} {cl : List (Str × Addr)} {outer : List Env} {A₀ : Around} {base h₀ : Heap} {L : Addr} {m : Str → Option Value}
    {p : Program} {loose : List Str} {mean : ExcName → Option Value} {mg mb : Str → Option Value} {s : Shared} {news : List (Addr × Obj)} {Q E : Value → Shared → Prop}
    (B : Below A₀ base outer h₀) (F : Fr h₀ L s.heap m) (X : (Mine.K w.params).In h₀) (N : News h₀ L s.heap news) (T : Top p loose mean mg mb h₀) (hk : cs.kind = .function)
    (hd : dp + 1 < recursionLimit) (hu : un + 8 * 1 < cLine)
    (g : s.heap.get? la = some lo) (gc : lo.cls = .type "list") (gd' : lo.data = .seq [.ref b1, .ref b2].toArray n)
    (g1 : s.heap.get? b1 = some o1) (c1 : o1.cls = .type "list") (d1 : o1.data = .seq v1 n1) (s1 : StrsAre v1.toList ys1) (z1 : ys1.length ≤ 65536)
    (g2 : s.heap.get? b2 = some o2) (c2 : o2.cls = .type "list") (d2 : o2.data = .seq v2 n2) (s2 : StrsAre v2.toList ys2) (z2 : ys2.length ≤ 65536)
    (h : ∀ r ro its k h' tk', Fr h₀ L h' m → News h₀ L h' news → Grow s.heap h' → h'.get? r = some ro → ro.cls = .type "list" → ro.data = .seq its k → its.size = lcpN ys1 ys2 → lcpN ys1 ys2 ≤ ys1.length → lcpN ys1 ys2 ≤ ys2.length → Q (.ref r) { s with heap := h', toks := tk' }) :
    wpAny (model PySem.Challenge.rw_in0312_01.row.prog w) (ktrTop dp un gd cn cs L a ccd cl outer) (call (.ref 124) [.ref la]) Q E s :=
  use (c_commonprefix w la b1 b2 lo o1 o2 n n1 n2 v1.toList v2.toList ys1 ys2 gc gd' c1 (by simpa using d1) s1 c2 (by simpa using d2) s2 z1 z2) B F X N T hk ⟨g, g1, g2⟩ hd hu
    fun v h' tk' F' N' G' zz => by obtain ⟨r, ro, its, k, e, gr, cr, dr, hs⟩ := zz; subst e; exact h r ro its k h' tk' F' N' G' gr cr dr hs (lcpN_le_left _ _) (by rw [lcpN_comm]; exact lcpN_le_left _ _)
end
section
set_option maxHeartbeats 4000000
theorem startswith_ne {x : Str} (h : Txt.startswith x "/" = true) : (x.length : Int) ≠ 0 := by
  unfold Txt.startswith at h
  have h1 : (Str.ofString "/").length = 1 := rfl
  have := (Bool.and_eq_true _ _ ▸ h).1
  have := of_decide_eq_true this
  lia
noncomputable def rpR (x y : Str) : Str :=
  if (List.replicate (((pieces (Txt.lstripChars (npR y) (Str.ofString "/"))).length : Int) - (lcpN (pieces (Txt.lstripChars (npR y) (Str.ofString "/"))) (pieces (Txt.lstripChars (npR x) (Str.ofString "/"))) : Nat)).toNat (Str.ofString "..") ++
    (pieces (Txt.lstripChars (npR x) (Str.ofString "/"))).drop (lcpN (pieces (Txt.lstripChars (npR y) (Str.ofString "/"))) (pieces (Txt.lstripChars (npR x) (Str.ofString "/"))))).isEmpty = true then Str.ofString "."
  else Txt.join (Str.ofString "/") (List.replicate (((pieces (Txt.lstripChars (npR y) (Str.ofString "/"))).length : Int) - (lcpN (pieces (Txt.lstripChars (npR y) (Str.ofString "/"))) (pieces (Txt.lstripChars (npR x) (Str.ofString "/"))) : Nat)).toNat (Str.ofString "..") ++
    (pieces (Txt.lstripChars (npR x) (Str.ofString "/"))).drop (lcpN (pieces (Txt.lstripChars (npR y) (Str.ofString "/"))) (pieces (Txt.lstripChars (npR x) (Str.ofString "/")))))
theorem c_relpath (w : World) (x y : Str) (tx ty : Tok) (hx : x.length ≤ 32768) (hsx : Txt.startswith x "/" = true) (hy : y.length ≤ 32768) (hsy : Txt.startswith y "/" = true) :
    Claim w 5 174 [.str x tx, .str y ty] (fun _ => True) (fun _ v _ => ∃ t, v = .str (rpR x y) t) := by
  unfold Claim; k_fill
  intro dp un gd cn cs a ccd cl outer A₀ base h₀ L m p loose mean mg mb s B F X T hk _ hd hu
  k_dflt (refine' enterN [("path", .str x tx), ("start", .str y ty)] B F X T ?kA ?kF ?kK ?k6 ?k7 ?k8 ?k9 ?kB ?_ ?c2; ((case kA => exact rfl); (case kF => exact rfl); (case kK => assumption); (case k6 => k_is); (case k7 => k_is); (case k8 => ktr_room); (case k9 => exact binds_K (by k_in) rfl (by k_is) rfl rfl rfl); (case kB => exact rfl); (case c2 => exact rfl); k_whole))
  clear T X B F
  intro L' h' F' N' B' X' T' Qf hQ; (try dsimp only)
  refine foldAE ?_; intro ee AA
  have hx0 : (x.length : Int) ≠ 0 := startswith_ne hsx
  have bx : (npR x).length ≤ 32771 := Nat.le_trans (len_npR x) (Nat.add_le_add_right hx 3)
  have by' : (npR y).length ≤ 32771 := Nat.le_trans (len_npR y) (Nat.add_le_add_right hy 3)
  (repeat' (first | ((with_reducible show wpAny _ _ (call (Value.ref 117) _) _ _ _); (k_here; k_dflt (refine' useS (c_fspath _ _ _) ?k1 ?k2 ?k3 ?k4 ?k5 ?k6 ?k7 ?k8 ?_; ((case k1 => k_asm); (case k2 => k_asm); (case k3 => k_asm); (case k4 => k_asm); (case k5 => k_asm); (case k6 => first | exact rfl | assumption); (case k7 => ktr_room); (case k8 => ktr_units)); k_whole; intro t' h' tk' F' N'; (try k_sweep); (try dsimp only)))) | ((with_reducible show wpAny _ _ (call (Value.ref 166) _) _ _ _); (k_here; k_dflt (refine' useSB (c_abspath _ _ _ ?hx ?hs) (len_npR _) ?k1 ?k2 ?k3 ?k4 ?k5 ?k6 ?k7 ?k8 ?_; (case hx => walk_at "mz"); (case hs => first | with_reducible assumption | assumption); ((case k1 => k_asm); (case k2 => k_asm); (case k3 => k_asm); (case k4 => k_asm); (case k5 => k_asm); (case k6 => first | exact rfl | assumption); (case k7 => ktr_room); (case k8 => ktr_units)); k_whole; intro t' h' tk' F' N' hB'; (try k_sweep); (try dsimp only)))) | ((with_reducible show wpAny _ _ (call (Value.ref 124) _) _ _ _); (k_here; k_dflt (refine' use_commonprefix ?k1 ?k2 ?k3 ?k4 ?k5 ?k6 ?k7 ?k8 ?o ?c ?d ?o1 ?c1 ?d1 ?s1 ?z1 ?o2 ?c2 ?d2 ?s2 ?z2 ?_; ((case k1 => k_asm); (case k2 => k_asm); (case k3 => k_asm); (case k4 => k_asm); (case k5 => k_asm); (case k6 => first | exact rfl | assumption); (case k7 => ktr_room); (case k8 => ktr_units)); ((case o => walk_at "mo"); (case c => walk_at "mc"); (case d => walk_at "mc")); (case o1 => walk_at "mo"); (case c1 => walk_at "mc"); (case d1 => walk_at "mc"); (case s1 => walk_at "ms"); (case z1 => walk_at "mz"); ((case o2 => walk_at "mo"); (case c2 => walk_at "mc"); (case d2 => walk_at "mc"); (case s2 => walk_at "ms")); (case z2 => walk_at "mz"); k_whole); intro r' ro' its' k' h' tk' F' N' G' gr' cr' dr' hs' hl1' hl2'; (try k_sweep); (try dsimp only))) | (k_here; (with_reducible show wpAny _ _ (eval (Expr.IfExp (Expr.Name _ _) _ (Expr.List _ _) _) _) _ _ _); (fail_if_success (with_reducible show wpAny _ _ _ (Pieces _ _ _ _ _ _) _ _)); refine stop9 ?_) | ((with_reducible show wpAny _ _ (exec (Stmt.Try _ _ _ _ _) _) _ _ _); k_here; (have : Raising := by with_reducible assumption); refine stop9 ?_) | ((with_reducible show wpAny _ _ (exec (Stmt.Try _ _ _ _ _) _) _ _ _); k_here; (fail_if_success (have : Raising := by with_reducible assumption)); refine wpAny_Try_except (wpAny_noRaise ?_)) | (k_unfold; try dsimp only) | (k_end; wrow_close) | walk1 | (dsimp only; walk1) | (leave1; try dsimp only)))
  · unfold Stop9
    refine' pieces_mid (Txt.lstripChars (npR y) (Str.ofString "/")) ?F ?N ?h1 ?h2
    case F => k_asm
    case N => k_asm
    case h1 =>
      (repeat' (first | ((with_reducible show wpAny _ _ (call (Value.ref 117) _) _ _ _); (k_here; k_dflt (refine' useS (c_fspath _ _ _) ?k1 ?k2 ?k3 ?k4 ?k5 ?k6 ?k7 ?k8 ?_; ((case k1 => k_asm); (case k2 => k_asm); (case k3 => k_asm); (case k4 => k_asm); (case k5 => k_asm); (case k6 => first | exact rfl | assumption); (case k7 => ktr_room); (case k8 => ktr_units)); k_whole; intro t' h' tk' F' N'; (try k_sweep); (try dsimp only)))) | ((with_reducible show wpAny _ _ (call (Value.ref 166) _) _ _ _); (k_here; k_dflt (refine' useSB (c_abspath _ _ _ ?hx ?hs) (len_npR _) ?k1 ?k2 ?k3 ?k4 ?k5 ?k6 ?k7 ?k8 ?_; (case hx => walk_at "mz"); (case hs => first | with_reducible assumption | assumption); ((case k1 => k_asm); (case k2 => k_asm); (case k3 => k_asm); (case k4 => k_asm); (case k5 => k_asm); (case k6 => first | exact rfl | assumption); (case k7 => ktr_room); (case k8 => ktr_units)); k_whole; intro t' h' tk' F' N' hB'; (try k_sweep); (try dsimp only)))) | ((with_reducible show wpAny _ _ (call (Value.ref 124) _) _ _ _); (k_here; k_dflt (refine' use_commonprefix ?k1 ?k2 ?k3 ?k4 ?k5 ?k6 ?k7 ?k8 ?o ?c ?d ?o1 ?c1 ?d1 ?s1 ?z1 ?o2 ?c2 ?d2 ?s2 ?z2 ?_; ((case k1 => k_asm); (case k2 => k_asm); (case k3 => k_asm); (case k4 => k_asm); (case k5 => k_asm); (case k6 => first | exact rfl | assumption); (case k7 => ktr_room); (case k8 => ktr_units)); ((case o => walk_at "mo"); (case c => walk_at "mc"); (case d => walk_at "mc")); (case o1 => walk_at "mo"); (case c1 => walk_at "mc"); (case d1 => walk_at "mc"); (case s1 => walk_at "ms"); (case z1 => walk_at "mz"); ((case o2 => walk_at "mo"); (case c2 => walk_at "mc"); (case d2 => walk_at "mc"); (case s2 => walk_at "ms")); (case z2 => walk_at "mz"); k_whole); intro r' ro' its' k' h' tk' F' N' G' gr' cr' dr' hs' hl1' hl2'; (try k_sweep); (try dsimp only))) | (k_here; (with_reducible show wpAny _ _ (eval (Expr.IfExp (Expr.Name _ _) _ (Expr.List _ _) _) _) _ _ _); (fail_if_success (with_reducible show wpAny _ _ _ (Pieces _ _ _ _ _ _) _ _)); refine stop9 ?_) | ((with_reducible show wpAny _ _ (exec (Stmt.Try _ _ _ _ _) _) _ _ _); k_here; (have : Raising := by with_reducible assumption); refine stop9 ?_) | ((with_reducible show wpAny _ _ (exec (Stmt.Try _ _ _ _ _) _) _ _ _); k_here; (fail_if_success (have : Raising := by with_reducible assumption)); refine wpAny_Try_except (wpAny_noRaise ?_)) | (k_unfold; try dsimp only) | (k_end; wrow_close) | walk1 | (dsimp only; walk1) | (leave1; try dsimp only)))
      all_goals (refine' ⟨_, _, _, _, rfl, rfl, ?f, ?n, ?l, ?s⟩; (case f => assumption); (case n => assumption); (case l => (simp only [PySem.W.AllLt, and_true]; first | done | trivial | lia)); (case s => (simp only [pieces, *, if_true, if_false] <;> first | done | assumption | exact StrsAre.nil)))
    case h2 =>
      intro l1 vs1 h1 k1 F N hl hs hw
      simp only [PySem.W.AllLt, and_true] at hl
      k_sweep
      (repeat' (first | ((with_reducible show wpAny _ _ (call (Value.ref 117) _) _ _ _); (k_here; k_dflt (refine' useS (c_fspath _ _ _) ?k1 ?k2 ?k3 ?k4 ?k5 ?k6 ?k7 ?k8 ?_; ((case k1 => k_asm); (case k2 => k_asm); (case k3 => k_asm); (case k4 => k_asm); (case k5 => k_asm); (case k6 => first | exact rfl | assumption); (case k7 => ktr_room); (case k8 => ktr_units)); k_whole; intro t' h' tk' F' N'; (try k_sweep); (try dsimp only)))) | ((with_reducible show wpAny _ _ (call (Value.ref 166) _) _ _ _); (k_here; k_dflt (refine' useSB (c_abspath _ _ _ ?hx ?hs) (len_npR _) ?k1 ?k2 ?k3 ?k4 ?k5 ?k6 ?k7 ?k8 ?_; (case hx => walk_at "mz"); (case hs => first | with_reducible assumption | assumption); ((case k1 => k_asm); (case k2 => k_asm); (case k3 => k_asm); (case k4 => k_asm); (case k5 => k_asm); (case k6 => first | exact rfl | assumption); (case k7 => ktr_room); (case k8 => ktr_units)); k_whole; intro t' h' tk' F' N' hB'; (try k_sweep); (try dsimp only)))) | ((with_reducible show wpAny _ _ (call (Value.ref 124) _) _ _ _); (k_here; k_dflt (refine' use_commonprefix ?k1 ?k2 ?k3 ?k4 ?k5 ?k6 ?k7 ?k8 ?o ?c ?d ?o1 ?c1 ?d1 ?s1 ?z1 ?o2 ?c2 ?d2 ?s2 ?z2 ?_; ((case k1 => k_asm); (case k2 => k_asm); (case k3 => k_asm); (case k4 => k_asm); (case k5 => k_asm); (case k6 => first | exact rfl | assumption); (case k7 => ktr_room); (case k8 => ktr_units)); ((case o => walk_at "mo"); (case c => walk_at "mc"); (case d => walk_at "mc")); (case o1 => walk_at "mo"); (case c1 => walk_at "mc"); (case d1 => walk_at "mc"); (case s1 => walk_at "ms"); (case z1 => walk_at "mz"); ((case o2 => walk_at "mo"); (case c2 => walk_at "mc"); (case d2 => walk_at "mc"); (case s2 => walk_at "ms")); (case z2 => walk_at "mz"); k_whole); intro r' ro' its' k' h' tk' F' N' G' gr' cr' dr' hs' hl1' hl2'; (try k_sweep); (try dsimp only))) | (k_here; (with_reducible show wpAny _ _ (eval (Expr.IfExp (Expr.Name _ _) _ (Expr.List _ _) _) _) _ _ _); (fail_if_success (with_reducible show wpAny _ _ _ (Pieces _ _ _ _ _ _) _ _)); refine stop9 ?_) | ((with_reducible show wpAny _ _ (exec (Stmt.Try _ _ _ _ _) _) _ _ _); k_here; (have : Raising := by with_reducible assumption); refine stop9 ?_) | ((with_reducible show wpAny _ _ (exec (Stmt.Try _ _ _ _ _) _) _ _ _); k_here; (fail_if_success (have : Raising := by with_reducible assumption)); refine wpAny_Try_except (wpAny_noRaise ?_)) | (k_unfold; try dsimp only) | (k_end; wrow_close) | walk1 | (dsimp only; walk1) | (leave1; try dsimp only)))
      unfold Stop9
      refine' pieces_mid (Txt.lstripChars (npR x) (Str.ofString "/")) ?F ?N ?h1 ?h2
      case F => k_asm
      case N => k_asm
      case h1 =>
        (repeat' (first | ((with_reducible show wpAny _ _ (call (Value.ref 117) _) _ _ _); (k_here; k_dflt (refine' useS (c_fspath _ _ _) ?k1 ?k2 ?k3 ?k4 ?k5 ?k6 ?k7 ?k8 ?_; ((case k1 => k_asm); (case k2 => k_asm); (case k3 => k_asm); (case k4 => k_asm); (case k5 => k_asm); (case k6 => first | exact rfl | assumption); (case k7 => ktr_room); (case k8 => ktr_units)); k_whole; intro t' h' tk' F' N'; (try k_sweep); (try dsimp only)))) | ((with_reducible show wpAny _ _ (call (Value.ref 166) _) _ _ _); (k_here; k_dflt (refine' useSB (c_abspath _ _ _ ?hx ?hs) (len_npR _) ?k1 ?k2 ?k3 ?k4 ?k5 ?k6 ?k7 ?k8 ?_; (case hx => walk_at "mz"); (case hs => first | with_reducible assumption | assumption); ((case k1 => k_asm); (case k2 => k_asm); (case k3 => k_asm); (case k4 => k_asm); (case k5 => k_asm); (case k6 => first | exact rfl | assumption); (case k7 => ktr_room); (case k8 => ktr_units)); k_whole; intro t' h' tk' F' N' hB'; (try k_sweep); (try dsimp only)))) | ((with_reducible show wpAny _ _ (call (Value.ref 124) _) _ _ _); (k_here; k_dflt (refine' use_commonprefix ?k1 ?k2 ?k3 ?k4 ?k5 ?k6 ?k7 ?k8 ?o ?c ?d ?o1 ?c1 ?d1 ?s1 ?z1 ?o2 ?c2 ?d2 ?s2 ?z2 ?_; ((case k1 => k_asm); (case k2 => k_asm); (case k3 => k_asm); (case k4 => k_asm); (case k5 => k_asm); (case k6 => first | exact rfl | assumption); (case k7 => ktr_room); (case k8 => ktr_units)); ((case o => walk_at "mo"); (case c => walk_at "mc"); (case d => walk_at "mc")); (case o1 => walk_at "mo"); (case c1 => walk_at "mc"); (case d1 => walk_at "mc"); (case s1 => walk_at "ms"); (case z1 => walk_at "mz"); ((case o2 => walk_at "mo"); (case c2 => walk_at "mc"); (case d2 => walk_at "mc"); (case s2 => walk_at "ms")); (case z2 => walk_at "mz"); k_whole); intro r' ro' its' k' h' tk' F' N' G' gr' cr' dr' hs' hl1' hl2'; (try k_sweep); (try dsimp only))) | (k_here; (with_reducible show wpAny _ _ (eval (Expr.IfExp (Expr.Name _ _) _ (Expr.List _ _) _) _) _ _ _); (fail_if_success (with_reducible show wpAny _ _ _ (Pieces _ _ _ _ _ _) _ _)); refine stop9 ?_) | ((with_reducible show wpAny _ _ (exec (Stmt.Try _ _ _ _ _) _) _ _ _); k_here; (have : Raising := by with_reducible assumption); refine stop9 ?_) | ((with_reducible show wpAny _ _ (exec (Stmt.Try _ _ _ _ _) _) _ _ _); k_here; (fail_if_success (have : Raising := by with_reducible assumption)); refine wpAny_Try_except (wpAny_noRaise ?_)) | (k_unfold; try dsimp only) | (k_end; wrow_close) | walk1 | (dsimp only; walk1) | (leave1; try dsimp only)))
        all_goals (refine' ⟨_, _, _, _, rfl, rfl, ?f, ?n, ?l, ?s⟩; (case f => assumption); (case n => assumption); (case l => (simp only [PySem.W.AllLt, and_true]; first | done | trivial | lia)); (case s => (simp only [pieces, *, if_true, if_false] <;> first | done | assumption | exact StrsAre.nil)))
      case h2 =>
        intro l2 vs2 h2 k2 F N hl hs2 hw2
        simp only [PySem.W.AllLt, and_true] at hl
        k_sweep
        (repeat' (first | ((with_reducible show wpAny _ _ (call (Value.ref 117) _) _ _ _); (k_here; k_dflt (refine' useS (c_fspath _ _ _) ?k1 ?k2 ?k3 ?k4 ?k5 ?k6 ?k7 ?k8 ?_; ((case k1 => k_asm); (case k2 => k_asm); (case k3 => k_asm); (case k4 => k_asm); (case k5 => k_asm); (case k6 => first | exact rfl | assumption); (case k7 => ktr_room); (case k8 => ktr_units)); k_whole; intro t' h' tk' F' N'; (try k_sweep); (try dsimp only)))) | ((with_reducible show wpAny _ _ (call (Value.ref 166) _) _ _ _); (k_here; k_dflt (refine' useSB (c_abspath _ _ _ ?hx ?hs) (len_npR _) ?k1 ?k2 ?k3 ?k4 ?k5 ?k6 ?k7 ?k8 ?_; (case hx => walk_at "mz"); (case hs => first | with_reducible assumption | assumption); ((case k1 => k_asm); (case k2 => k_asm); (case k3 => k_asm); (case k4 => k_asm); (case k5 => k_asm); (case k6 => first | exact rfl | assumption); (case k7 => ktr_room); (case k8 => ktr_units)); k_whole; intro t' h' tk' F' N' hB'; (try k_sweep); (try dsimp only)))) | ((with_reducible show wpAny _ _ (call (Value.ref 124) _) _ _ _); (k_here; k_dflt (refine' use_commonprefix ?k1 ?k2 ?k3 ?k4 ?k5 ?k6 ?k7 ?k8 ?o ?c ?d ?o1 ?c1 ?d1 ?s1 ?z1 ?o2 ?c2 ?d2 ?s2 ?z2 ?_; ((case k1 => k_asm); (case k2 => k_asm); (case k3 => k_asm); (case k4 => k_asm); (case k5 => k_asm); (case k6 => first | exact rfl | assumption); (case k7 => ktr_room); (case k8 => ktr_units)); ((case o => walk_at "mo"); (case c => walk_at "mc"); (case d => walk_at "mc")); (case o1 => walk_at "mo"); (case c1 => walk_at "mc"); (case d1 => walk_at "mc"); (case s1 => walk_at "ms"); (case z1 => walk_at "mz"); ((case o2 => walk_at "mo"); (case c2 => walk_at "mc"); (case d2 => walk_at "mc"); (case s2 => walk_at "ms")); (case z2 => walk_at "mz"); k_whole); intro r' ro' its' k' h' tk' F' N' G' gr' cr' dr' hs' hl1' hl2'; (try k_sweep); (try dsimp only))) | (k_here; (with_reducible show wpAny _ _ (eval (Expr.IfExp (Expr.Name _ _) _ (Expr.List _ _) _) _) _ _ _); (fail_if_success (with_reducible show wpAny _ _ _ (Pieces _ _ _ _ _ _) _ _)); refine stop9 ?_) | ((with_reducible show wpAny _ _ (exec (Stmt.Try _ _ _ _ _) _) _ _ _); k_here; (have : Raising := by with_reducible assumption); refine stop9 ?_) | ((with_reducible show wpAny _ _ (exec (Stmt.Try _ _ _ _ _) _) _ _ _); k_here; (fail_if_success (have : Raising := by with_reducible assumption)); refine wpAny_Try_except (wpAny_noRaise ?_)) | (k_unfold; try dsimp only) | (k_end; wrow_close) | walk1 | (dsimp only; walk1) | (leave1; try dsimp only)))
        all_goals (try dsimp only)
        all_goals (refine' hQ (by assumption) ⟨_, ?h⟩; (case h => (simp only [rpR, *, if_true, if_false, Bool.false_eq_true] <;> rfl)))
end
section
set_option maxHeartbeats 4000000
theorem c_quote (w : World) (x : Str) (tx : Tok) (hx : x.length ≤ 65536) : Claim w 2 887 [.str x tx] (fun _ => True) (fun _ v _ => ∃ t, v = .str (quR x) t) := by
  unfold Claim; k_fill
  intro dp un gd cn cs a ccd cl outer A₀ base h₀ L m p loose mean mg mb s B F X T hk _ hd hu
  k_dflt (refine' enterN [("s", .str x tx)] B F X T ?kA ?kF ?kK ?k6 ?k7 ?k8 ?k9 ?kB ?_ ?c2; ((case kA => exact rfl); (case kF => exact rfl); (case kK => assumption); (case k6 => k_is); (case k7 => k_is); (case k8 => ktr_room); (case k9 => exact BindsTo.of_eq rfl); (case kB => exact rfl); (case c2 => exact rfl); k_whole))
  clear T X B F
  intro L' h' F' N' B' X' T' Qf hQ; (try dsimp only)
  refine foldAE ?_; intro ee AA
  have hl := len_replace x
  (repeat' (first | ((with_reducible show wpAny _ _ (callWith _ (Value.ref 880) _ _ _) _ _ _); refine stop9 ?_) | ((with_reducible show wpAny _ _ (call (Value.ref 880) _) _ _ _); refine stop9 ?_) | (k_unfold; try dsimp only) | (k_end; wrow_close) | walk1 | (dsimp only; walk1) | (leave1; try dsimp only)))
  · k_dflt (refine' callWith_880 ?k1 ?_; (case k1 => k_asm); k_whole)
    (repeat' (first | ((with_reducible show wpAny _ _ (callWith _ (Value.ref 880) _ _ _) _ _ _); refine stop9 ?_) | ((with_reducible show wpAny _ _ (call (Value.ref 880) _) _ _ _); refine stop9 ?_) | (k_unfold; try dsimp only) | (k_end; wrow_close) | walk1 | (dsimp only; walk1) | (leave1; try dsimp only)))
    refine call_search (by k_in) (by lia) (Nat.le_trans hx (by decide)) (by kernel_rfl) (fun hb => ?_) (fun hb b' h2 g => ?_)
    · (repeat' (first | ((with_reducible show wpAny _ _ (callWith _ (Value.ref 880) _ _ _) _ _ _); refine stop9 ?_) | ((with_reducible show wpAny _ _ (call (Value.ref 880) _) _ _ _); refine stop9 ?_) | (k_unfold; try dsimp only) | (k_end; wrow_close) | walk1 | (dsimp only; walk1) | (leave1; try dsimp only)))
      all_goals (try dsimp only)
      all_goals (refine' hQ (by assumption) ⟨_, ?h⟩; (case h => (simp only [quR, *, if_true, if_false, Bool.false_eq_true] <;> rfl)))
    · replace F' := F'.grownK g
      replace N' := N'.grown g
      clear g
      (repeat' (first | ((with_reducible show wpAny _ _ (callWith _ (Value.ref 880) _ _ _) _ _ _); refine stop9 ?_) | ((with_reducible show wpAny _ _ (call (Value.ref 880) _) _ _ _); refine stop9 ?_) | (k_unfold; try dsimp only) | (k_end; wrow_close) | walk1 | (dsimp only; walk1) | (leave1; try dsimp only)))
      all_goals (try dsimp only)
      all_goals (refine' hQ (by assumption) ⟨_, ?h⟩; (case h => (simp only [quR, *, if_true, if_false, Bool.false_eq_true] <;> rfl)))
  all_goals (try dsimp only)
  all_goals (refine' hQ (by assumption) ⟨_, ?h⟩; (case h => (simp only [quR, *, if_true, if_false, Bool.false_eq_true] <;> rfl)))
end
section
set_option maxHeartbeats 4000000
theorem no47 {c : Int} (h : c ≠ 47 ∧ 0 ≤ c) : 47 ∉ Mine.cs ⟨#[c.toNat]⟩ := by
  intro m
  have e : 47 = c.toNat := by simpa [Mine.cs] using m
  exact h.1 (by rw [← Int.toNat_of_nonneg h.2, ← e]; rfl)
theorem c_law_name (w : World) (x : Int) (tx : Tok) : Claim w 1 894 [.int x tx] (fun _ => True) (fun _ v _ => ∃ y t, v = .str y t ∧ 47 ∉ Mine.cs y ∧ y.length ≤ 3) := by
  unfold Claim; k_fill
  intro dp un gd cn cs a ccd cl outer A₀ base h₀ L m p loose mean mg mb s B F X T hk _ hd hu
  k_dflt (refine' enterN [("x", .int x tx)] B F X T ?kA ?kF ?kK ?k6 ?k7 ?k8 ?k9 ?kB ?_ ?c2; ((case kA => exact rfl); (case kF => exact rfl); (case kK => assumption); (case k6 => k_is); (case k7 => k_is); (case k8 => ktr_room); (case k9 => exact BindsTo.of_eq rfl); (case kB => exact rfl); (case c2 => exact rfl); k_whole))
  clear T X B F
  intro L' h' F' N' B' X' T' Qf hQ; (try dsimp only)
  refine foldAE ?_; intro ee AA
  have hm : 0 ≤ (x.fdiv 8).fmod 1114112 := Int.fmod_nonneg_of_pos _ (by decide)
  have hm1 : (x.fdiv 8).fmod 1114112 ≤ 1114111 := Int.le_of_lt_add_one (Int.fmod_lt_of_pos _ (by decide))
  have hm2 : x / 8 % 1114112 ≤ 1114111 := Int.le_of_lt_add_one (Int.emod_lt_of_pos _ (by decide))
  k_steps
  all_goals (try dsimp only)
  all_goals (refine' hQ (by assumption) ⟨_, _, rfl, ?h1, ?h2⟩; (case h1 => (first | decide | exact no47 ⟨by assumption, hm⟩)); (case h2 => exact Nat.le_of_ble_eq_true rfl))
end
section
set_option maxHeartbeats 4000000
theorem sum_lw (x : Str) : (((Txt.split x (Str.ofString "/")).map wr1).map (·.length)).sum + ((Txt.split x (Str.ofString "/")).map wr1).length ≤ 7 * x.length + 7 := by
  have h := split_weight x (Str.ofString "/") (by decide)
  have h2 := sum_wr1 (Txt.split x (Str.ofString "/"))
  rw [List.length_map]
  lia
theorem len_lwR (x : Str) : (lwR x).length ≤ 7 * x.length + 7 := Nat.le_trans (len_join1 (by decide) _) (sum_lw x)
theorem join_lw (x : Str) (hx : x.length ≤ 4096) : (((Txt.split x (Str.ofString "/")).map wr1).map (·.length)).sum + ((Txt.split x (Str.ofString "/")).map wr1).length * (Str.ofString "/").length ≤ 16777216 := by
  have := sum_lw x
  rw [show (Str.ofString "/").length = 1 from rfl]
  lia
theorem c_law_written (w : World) (x : Str) (tx : Tok) (hx : x.length ≤ 4096) : Claim w 3 899 [.str x tx] (fun _ => True) (fun _ v _ => ∃ t, v = .str (lwR x) t) := by
  unfold Claim; k_fill
  intro dp un gd cn cs a ccd cl outer A₀ base h₀ L m p loose mean mg mb s B F X T hk _ hd hu
  k_dflt (refine' enterN [("path", .str x tx)] B F X T ?kA ?kF ?kK ?k6 ?k7 ?k8 ?k9 ?kB ?_ ?c2; ((case kA => exact rfl); (case kF => exact rfl); (case kK => assumption); (case k6 => k_is); (case k7 => k_is); (case k8 => ktr_room); (case k9 => exact BindsTo.of_eq rfl); (case kB => exact rfl); (case c2 => exact rfl); k_whole))
  clear T X B F
  intro L' h' F' N' B' X' T' Qf hQ; (try dsimp only)
  refine foldAE ?_; intro ee AA
  (repeat' (first | ((with_reducible show wpAny _ _ (call (Value.ref 887) _) _ _ _); (k_here; k_dflt (refine' useGB (c_quote _ _ _ ?hx) (len_quR _) ?k1 ?k2 ?k3 ?k4 ?k5 ?k6 ?k7 ?k8 ?_; (case hx => walk_at "mz"); ((case k1 => k_asm); (case k2 => k_asm); (case k3 => k_asm); (case k4 => k_asm); (case k5 => k_asm); (case k6 => first | exact rfl | assumption); (case k7 => ktr_room); (case k8 => ktr_units)); k_whole; intro t' h' tk' F' N' G' hB'; (try k_sweep); (try dsimp only)))) | ((with_reducible show wpAny _ _ (call (Value.ref 159) _) _ _ _); (k_here; k_dflt (refine' useGB (c_normpath _ _ _ ?hx) (len_npR _) ?k1 ?k2 ?k3 ?k4 ?k5 ?k6 ?k7 ?k8 ?_; (case hx => walk_at "mz"); ((case k1 => k_asm); (case k2 => k_asm); (case k3 => k_asm); (case k4 => k_asm); (case k5 => k_asm); (case k6 => first | exact rfl | assumption); (case k7 => ktr_room); (case k8 => ktr_units)); k_whole; intro t' h' tk' F' N' G' hB'; (try k_sweep); (try dsimp only)))) | (k_unfold; try dsimp only) | (k_end; wrow_close) | walk1 | (dsimp only; walk1) | (leave1; try dsimp only)))
  unfold Stop9
  k_dflt (refine' lg_list s.heap L' (fun _ => true) (RS wr1) ?hclos ?hsc ?hx ?_ ?hs; (((case hclos => with_unfolding_all rfl); (case hsc => with_unfolding_all rfl); (case hx => with_unfolding_all rfl)); (case hs => intro _; with_unfolding_all rfl); k_whole))
  (repeat' (first | ((with_reducible show wpAny _ _ (call (Value.ref 887) _) _ _ _); (k_here; k_dflt (refine' useGB (c_quote _ _ _ ?hx) (len_quR _) ?k1 ?k2 ?k3 ?k4 ?k5 ?k6 ?k7 ?k8 ?_; (case hx => walk_at "mz"); ((case k1 => k_asm); (case k2 => k_asm); (case k3 => k_asm); (case k4 => k_asm); (case k5 => k_asm); (case k6 => first | exact rfl | assumption); (case k7 => ktr_room); (case k8 => ktr_units)); k_whole; intro t' h' tk' F' N' G' hB'; (try k_sweep); (try dsimp only)))) | ((with_reducible show wpAny _ _ (call (Value.ref 159) _) _ _ _); (k_here; k_dflt (refine' useGB (c_normpath _ _ _ ?hx) (len_npR _) ?k1 ?k2 ?k3 ?k4 ?k5 ?k6 ?k7 ?k8 ?_; (case hx => walk_at "mz"); ((case k1 => k_asm); (case k2 => k_asm); (case k3 => k_asm); (case k4 => k_asm); (case k5 => k_asm); (case k6 => first | exact rfl | assumption); (case k7 => ktr_room); (case k8 => ktr_units)); k_whole; intro t' h' tk' F' N' G' hB'; (try k_sweep); (try dsimp only)))) | (k_unfold; try dsimp only) | (k_end; wrow_close) | walk1 | (dsimp only; walk1) | (leave1; try dsimp only)))
  all_goals (try dsimp only)
  k_dflt (refine' lgE ?src ?size ?fr ?nws ?t ?e ?fin; (case src => (refine' src_list ?srch ?srcg ?srcc ?srcd; (case srch => with_unfolding_all rfl); (case srcg => walk_at "mo"); (case srcc => walk_at "mc"); (case srcd => walk_at "mc"))); (case size => (first | (rw [sizeLine_eq]; exact Nat.le_of_ble_eq_true rfl) | ((have hq' := strsAre_len (by assumption)); rw [sizeLine_eq]; simp only [List.size_toArray]; lia))); (case fr => k_asm); (case nws => k_asm))
  case t => intros; exact lc_noTests
  case e =>
    intro C i v s₂ m₂ E' hv _ F N M hm g
    obtain ⟨y, t, rfl, hy⟩ := mem_arr (by assumption) hv
    have hw := mem_weight hy
    (repeat' (first | ((with_reducible show wpAny _ _ (call (Value.ref 887) _) _ _ _); (k_here; k_dflt (refine' useGB (c_quote _ _ _ ?hx) (len_quR _) ?k1 ?k2 ?k3 ?k4 ?k5 ?k6 ?k7 ?k8 ?_; (case hx => walk_at "mz"); ((case k1 => k_asm); (case k2 => k_asm); (case k3 => k_asm); (case k4 => k_asm); (case k5 => k_asm); (case k6 => first | exact rfl | assumption); (case k7 => ktr_room); (case k8 => ktr_units)); k_whole; intro t' h' tk' F' N' G' hB'; (try k_sweep); (try dsimp only)))) | ((with_reducible show wpAny _ _ (call (Value.ref 159) _) _ _ _); (k_here; k_dflt (refine' useGB (c_normpath _ _ _ ?hx) (len_npR _) ?k1 ?k2 ?k3 ?k4 ?k5 ?k6 ?k7 ?k8 ?_; (case hx => walk_at "mz"); ((case k1 => k_asm); (case k2 => k_asm); (case k3 => k_asm); (case k4 => k_asm); (case k5 => k_asm); (case k6 => first | exact rfl | assumption); (case k7 => ktr_room); (case k8 => ktr_units)); k_whole; intro t' h' tk' F' N' G' hB'; (try k_sweep); (try dsimp only)))) | (k_unfold; try dsimp only) | (k_end; wrow_close) | walk1 | (dsimp only; walk1) | (leave1; try dsimp only)))
    · exact rs_of (by simp only [wr1, *, if_true, if_false, Bool.false_eq_true])
    · exact ⟨_, _, rfl, by assumption⟩
    · exact rs_of (by simp only [wr1, *, if_true, if_false, Bool.false_eq_true])
    · exact ⟨_, _, rfl, fun _ _ e => e⟩
  case fin =>
    intro D n ys h' tk vs hl hvs F N hne g _ P
    refine foldP ?_; intro Gz
    rw [filter_true, same_list hl hvs] at P
    have hS := paired_strs (by assumption) P
    have hlen := join_lw x hx
    (repeat' (first | ((with_reducible show wpAny _ _ (call (Value.ref 887) _) _ _ _); (k_here; k_dflt (refine' useGB (c_quote _ _ _ ?hx) (len_quR _) ?k1 ?k2 ?k3 ?k4 ?k5 ?k6 ?k7 ?k8 ?_; (case hx => walk_at "mz"); ((case k1 => k_asm); (case k2 => k_asm); (case k3 => k_asm); (case k4 => k_asm); (case k5 => k_asm); (case k6 => first | exact rfl | assumption); (case k7 => ktr_room); (case k8 => ktr_units)); k_whole; intro t' h' tk' F' N' G' hB'; (try k_sweep); (try dsimp only)))) | ((with_reducible show wpAny _ _ (call (Value.ref 159) _) _ _ _); (k_here; k_dflt (refine' useGB (c_normpath _ _ _ ?hx) (len_npR _) ?k1 ?k2 ?k3 ?k4 ?k5 ?k6 ?k7 ?k8 ?_; (case hx => walk_at "mz"); ((case k1 => k_asm); (case k2 => k_asm); (case k3 => k_asm); (case k4 => k_asm); (case k5 => k_asm); (case k6 => first | exact rfl | assumption); (case k7 => ktr_room); (case k8 => ktr_units)); k_whole; intro t' h' tk' F' N' G' hB'; (try k_sweep); (try dsimp only)))) | (k_unfold; try dsimp only) | (k_end; wrow_close) | walk1 | (dsimp only; walk1) | (leave1; try dsimp only)))
    all_goals (try dsimp only)
    all_goals (refine' hQ (by assumption) ⟨_, rfl⟩)
end
section
set_option maxHeartbeats 4000000
noncomputable def lsStep (st : List Str × Nat) (n : Str) : List Str × Nat :=
  if (n == Str.ofString "..") = true then (st.1, st.2 + 1) else if (n == Str.ofString "") = true then st else if (n == Str.ofString ".") = true then st else if st.2 = 0 then (n :: st.1, 0) else (st.1, st.2 - 1)
noncomputable def lsFold (x : Str) : List Str × Nat := (Txt.split x (Str.ofString "/")).reverse.foldl lsStep ([], 0)
noncomputable def lsLead (x : Str) : Int := (x.length : Int) - ((Txt.lstripChars x (Str.ofString "/")).length : Int)
theorem lsFold_sum (l : List Str) : ∀ st : List Str × Nat, ((l.foldl lsStep st).1.map (·.length)).sum + (l.foldl lsStep st).1.length + (l.foldl lsStep st).2 ≤ (l.map (·.length)).sum + l.length + ((st.1.map (·.length)).sum + st.1.length + st.2) := by
  induction l with
  | nil => intro st; simp
  | cons a l ih =>
    intro st
    rw [List.foldl_cons]
    have h := ih (lsStep st a)
    have h2 : ((lsStep st a).1.map (·.length)).sum + (lsStep st a).1.length + (lsStep st a).2 ≤ a.length + 1 + ((st.1.map (·.length)).sum + st.1.length + st.2) := by
      unfold lsStep
      split
      · simp only; lia
      · split
        · lia
        · split
          · lia
          · split
            · simp only [List.map_cons, List.sum_cons, List.length_cons]; lia
            · simp only; lia
    simp only [List.map_cons, List.sum_cons, List.length_cons]
    lia
theorem lsFold_weight (x : Str) : ((lsFold x).1.map (·.length)).sum + (lsFold x).1.length + (lsFold x).2 ≤ x.length + 1 := by
  have h := split_weight x (Str.ofString "/") (by decide)
  have h2 := lsFold_sum (Txt.split x (Str.ofString "/")).reverse ([], 0)
  simp only [List.map_reverse, List.sum_reverse, List.length_reverse, List.map_nil, List.sum_nil, List.length_nil] at h2
  unfold lsFold
  lia
noncomputable def lsKept (x : Str) : List Str := if lsLead x = 0 then List.replicate (lsFold x).2 (Str.ofString "..") ++ (lsFold x).1 else (lsFold x).1
noncomputable def lsRoot (x : Str) : Str := if lsLead x = 2 then Str.ofString "//" else if 0 < lsLead x then Str.ofString "/" else Str.ofString ""
noncomputable def lsR (x : Str) : Str := if ((lsRoot x ++ Txt.join (Str.ofString "/") (lsKept x)).length : Int) = 0 then Str.ofString "." else lsRoot x ++ Txt.join (Str.ofString "/") (lsKept x)
theorem lsR_val {x root : Str} {kept : List Str} (hr : lsRoot x = root) (hk : lsKept x = kept) (hn : ¬ ((root ++ Txt.join (Str.ofString "/") kept).length : Int) = 0) : lsR x = root ++ Txt.join (Str.ofString "/") kept := by
  subst hr hk; exact if_neg hn
theorem lsR_dot {x root : Str} {kept : List Str} (hn : ((root ++ Txt.join (Str.ofString "/") kept).length : Int) = 0) (hr : lsRoot x = root) (hk : lsKept x = kept) : lsR x = Str.ofString "." := by
  subst hr hk; exact if_pos hn
theorem lsRoot_2 {x : Str} (h : lsLead x = 2) : lsRoot x = Str.ofString "//" := if_pos h
theorem lsRoot_1 {x : Str} (h2 : ¬ lsLead x = 2) (h : 0 < lsLead x) : lsRoot x = Str.ofString "/" := by unfold lsRoot; rw [if_neg h2, if_pos h]
theorem lsRoot_0 {x : Str} (h : lsLead x = 0) : lsRoot x = Str.ofString "" := by unfold lsRoot; rw [if_neg (by lia), if_neg (by lia)]
theorem lsKept_0 {x : Str} {d : Int} (hd : d.toNat = (lsFold x).2) (h : lsLead x = 0) : lsKept x = List.replicate d.toNat (Str.ofString "..") ++ (lsFold x).1 := by unfold lsKept; rw [if_pos h, hd]
theorem lsKept_n {x : Str} (h : ¬ lsLead x = 0) : lsKept x = (lsFold x).1 := if_neg h
theorem sum_dots (n : Nat) : ((List.replicate n (Str.ofString "..")).map (·.length)).sum = 2 * n := by
  rw [List.map_replicate, List.sum_replicate_nat, show (Str.ofString "..").length = 2 from rfl]; lia
theorem ls_join (x : Str) (hx : x.length ≤ 32768) (d : Int) (hd : d = ((lsFold x).2 : Int)) :
    ((List.replicate d.toNat (Str.ofString "..") ++ (lsFold x).1).map (·.length)).sum + (List.replicate d.toNat (Str.ofString "..") ++ (lsFold x).1).length * (Str.ofString "/").length ≤ 16777216 ∧
    ((lsFold x).1.map (·.length)).sum + (lsFold x).1.length * (Str.ofString "/").length ≤ 16777216 ∧
    (Txt.join (Str.ofString "/") (List.replicate d.toNat (Str.ofString "..") ++ (lsFold x).1)).length ≤ 3 * x.length + 3 ∧ (Txt.join (Str.ofString "/") (lsFold x).1).length ≤ 3 * x.length + 3 := by
  have h := lsFold_weight x
  have h1 := len_join1 (sep := Str.ofString "/") (by decide) (List.replicate d.toNat (Str.ofString "..") ++ (lsFold x).1)
  have h2 := len_join1 (sep := Str.ofString "/") (by decide) (lsFold x).1
  rw [List.map_append, List.sum_append, List.length_append, sum_dots, List.length_replicate] at h1
  rw [List.map_append, List.sum_append, List.length_append, sum_dots, List.length_replicate, show (Str.ofString "/").length = 1 from rfl]
  subst hd
  rw [Int.toNat_natCast] at h1 ⊢
  lia
theorem lsRoot_z {x : Str} (h2 : ¬ lsLead x = 2) (h : ¬ 0 < lsLead x) : lsRoot x = Str.ofString "" := by unfold lsRoot; rw [if_neg h2, if_neg h]
theorem ls_kept (x : Str) (hx : x.length ≤ 32768) : ((lsKept x).map (·.length)).sum + (lsKept x).length * (Str.ofString "/").length ≤ 16777216 ∧ (Txt.join (Str.ofString "/") (lsKept x)).length ≤ 3 * x.length + 3 ∧ (lsRoot x).length ≤ 2 := by
  have h := ls_join x hx ((lsFold x).2 : Int) rfl
  rw [Int.toNat_natCast] at h
  have h2 : (lsRoot x).length ≤ 2 := by unfold lsRoot; split; · decide
                                        split <;> decide
  unfold lsKept
  split
  · exact ⟨h.1, h.2.2.1, h2⟩
  · exact ⟨h.2.1, h.2.2.2, h2⟩
inductive lsK (s : Shared) (L : Addr) (x : Str) (s' : Shared) : Prop
  | mk (h' : Heap) (tk' : Nat) (m : Str → Option Value) (l : Addr) (vs : Array Value) (n : Nat) (tl : Tok) (_ : s' = { s with heap := h', toks := tk' }) (_ : Fr s.heap L h' m) (_ : m (Str.ofString "lead") = some (.int (lsLead x) tl)) (_ : m (Str.ofString "kept") = some (.ref l))
    (_ : News s.heap L h' [(l, W.listOf vs n)]) (_ : StrsAre vs.toList (lsKept x)) : lsK s L x s'
inductive lsT (s : Shared) (L : Addr) (x : Str) (s' : Shared) : Prop
  | mk (h' : Heap) (tk' : Nat) (m : Str → Option Value) (l : Addr) (vs : Array Value) (n : Nat) (tr : Tok) (_ : s' = { s with heap := h', toks := tk' }) (_ : Fr s.heap L h' m) (_ : m (Str.ofString "root") = some (.str (lsRoot x) tr)) (_ : m (Str.ofString "kept") = some (.ref l))
    (_ : News s.heap L h' [(l, W.listOf vs n)]) (_ : StrsAre vs.toList (lsKept x)) : lsT s L x s'
theorem c_law_straight (w : World) (x : Str) (tx : Tok) (hx : x.length ≤ 32768) : Claim w 1 906 [.str x tx] (fun _ => True) (fun _ v _ => ∃ t, v = .str (lsR x) t) := by
  unfold Claim; k_fill
  intro dp un gd cn cs a ccd cl outer A₀ base h₀ L m p loose mean mg mb s B F X T hk _ hd hu
  k_dflt (refine' enterN [("path", .str x tx)] B F X T ?kA ?kF ?kK ?k6 ?k7 ?k8 ?k9 ?kB ?_ ?c2; ((case kA => exact rfl); (case kF => exact rfl); (case kK => assumption); (case k6 => k_is); (case k7 => k_is); (case k8 => ktr_room); (case k9 => exact BindsTo.of_eq rfl); (case kB => exact rfl); (case c2 => exact rfl); k_whole))
  clear T X B F
  intro L' h' F' N' B' X' T' Qf hQ; (try dsimp only)
  refine foldAE ?_; intro ee AA
  (repeat' (first | ((with_reducible show wpAny _ _ (call (Value.ref 159) _) _ _ _); (k_here; k_dflt (refine' useGB (c_normpath _ _ _ ?hx) (len_npR _) ?k1 ?k2 ?k3 ?k4 ?k5 ?k6 ?k7 ?k8 ?_; (case hx => walk_at "mz"); ((case k1 => k_asm); (case k2 => k_asm); (case k3 => k_asm); (case k4 => k_asm); (case k5 => k_asm); (case k6 => first | exact rfl | assumption); (case k7 => ktr_room); (case k8 => ktr_units)); k_whole; intro t' h' tk' F' N' G' hB'; (try k_sweep); (try dsimp only)))) | ((with_reducible show wpAny _ _ (exec (Stmt.For (Expr.Name _ _) (Expr.Subscript _ _ _) _ [] _) _) _ _ _); k_here; (rename Fr _ _ _ _ => lF'); (with_unfolding_all refine' For_invVF lF' ?k1 ?k2 ?_; (case k1 => exact rfl); (case k2 => exact rfl); k_whole)) | ((with_reducible show wpAny _ _ (subscriptTail _ _ _ _) _ _ _); (fail_if_success (with_reducible show wpAny _ _ (subscriptTail (Expr.Name _ _) _ _ _) _ _ _)); refine turnN ?_) | ((with_reducible show wpAny _ _ (pyIter _) _ _ _); refine stop9 ?_) | (k_unfold; try dsimp only) | (k_end; wrow_close) | walk1 | (dsimp only; walk1) | (leave1; try dsimp only)))
  rename News _ _ _ _ => N0
  have N0 := news_last2 N0
  refine' loop_accI (x := Str.ofString "name") (z := Str.ofString "debt") (P := fun pre vs d => StrsAre vs (pre.foldl lsStep ([], 0)).1 ∧ d = ((pre.foldl lsStep ([], 0)).2 : Int)) ?q0 ?q1 ?q2 ?qm ?q3 ?q4 ?q5 ?q6 ?q7 (B := 65536) ?qB ?q8 ?q9 ?turn ?done
  case q0 => decide
  case q1 => exact rfl
  case q2 => assumption
  case qm => exact rfl
  case q3 => exact N0
  case q4 => k_mem
  case q5 => exact rfl
  case q6 => exact rfl
  case q7 => assumption
  case q8 => k_all
  case q9 => exact ⟨.nil, rfl⟩
  case qB => intro y hy; have := mem_weight (List.mem_reverse.mp hy); lia
  case turn =>
    intro pre y post t vs n h tk I o d td hsp hy hP hI hD F N
    simp only [AllNe, and_true, List.cons_append, List.nil_append] at hI hD
    (try dsimp only [List.cons_append, List.nil_append] at N)
    obtain ⟨hP, hd⟩ := hP
    have hz : (pre.foldl lsStep ([], 0)).1.length ≤ 1048576 := by
      have h1 := lsFold_sum pre ([], 0)
      simp only [List.map_nil, List.sum_nil, List.length_nil, Nat.add_zero] at h1
      exact Nat.le_trans (Nat.le_trans (Nat.le_add_left _ _) (Nat.le_trans (Nat.le_add_right _ _) h1)) (Nat.le_trans (preLenR hsp) (Nat.le_trans (split_weight x "/" (by decide)) (Nat.le_trans (Nat.add_le_add_right hx 1) (leB rfl))))
    k_sweep
    (repeat' (first | ((with_reducible show wpAny _ _ (call (Value.ref 159) _) _ _ _); (k_here; k_dflt (refine' useGB (c_normpath _ _ _ ?hx) (len_npR _) ?k1 ?k2 ?k3 ?k4 ?k5 ?k6 ?k7 ?k8 ?_; (case hx => walk_at "mz"); ((case k1 => k_asm); (case k2 => k_asm); (case k3 => k_asm); (case k4 => k_asm); (case k5 => k_asm); (case k6 => first | exact rfl | assumption); (case k7 => ktr_room); (case k8 => ktr_units)); k_whole; intro t' h' tk' F' N' G' hB'; (try k_sweep); (try dsimp only)))) | ((with_reducible show wpAny _ _ (exec (Stmt.For (Expr.Name _ _) (Expr.Subscript _ _ _) _ [] _) _) _ _ _); k_here; (rename Fr _ _ _ _ => lF'); (with_unfolding_all refine' For_invVF lF' ?k1 ?k2 ?_; (case k1 => exact rfl); (case k2 => exact rfl); k_whole)) | ((with_reducible show wpAny _ _ (subscriptTail _ _ _ _) _ _ _); (fail_if_success (with_reducible show wpAny _ _ (subscriptTail (Expr.Name _ _) _ _ _) _ _ _)); refine turnN ?_) | ((with_reducible show wpAny _ _ (pyIter _) _ _ _); refine stop9 ?_) | (k_unfold; try dsimp only) | (k_end; wrow_close) | walk1 | (dsimp only; walk1) | (leave1; try dsimp only)))
    all_goals (try dsimp only)
    all_goals (refine ⟨_, _, _, _, _, _, _, rfl, by assumption, fun y hy hz => (by simp +zetaDelta only [if_neg hy, if_neg hz]), rfl, by assumption, ?_⟩; simp only [List.foldl_append, List.foldl_cons, List.foldl_nil])
    all_goals (generalize List.foldl lsStep ([], 0) pre = acc at *)
    · simp only [lsStep, *, if_true]; exact ⟨trivial, rfl⟩
    · simp only [lsStep, *, if_true, if_false, Bool.false_eq_true]; exact ⟨trivial, trivial⟩
    · simp only [lsStep, *, if_true, if_false, Bool.false_eq_true]; exact ⟨trivial, trivial⟩
    · have h0 : ¬ acc.2 = 0 := dpos hd (by assumption)
      have h9 := dsub hd (by assumption)
      simp only [lsStep, *, if_true, if_false, Bool.false_eq_true]; exact ⟨trivial, trivial⟩
    · have h0 : acc.2 = 0 := dzero hd (by assumption)
      simp only [lsStep, *, if_true, if_false, Bool.false_eq_true]; exact ⟨.cons _ _ hP, trivial⟩
  case done =>
    intro vs n h tk u d td hP F N
    obtain ⟨hP, hd⟩ := hP
    change StrsAre vs.toList (lsFold x).1 at hP
    change d = ((lsFold x).2 : Int) at hd
    have hw := lsFold_weight x
    obtain ⟨hj1, hj2, hj3, hj4⟩ := ls_join x hx d hd
    have hdd : d.toNat = (lsFold x).2 := by rw [hd]; rfl
    have hwx : x.length + 1 ≤ 1048576 := Nat.le_trans (Nat.add_le_add_right hx 1) (leB rfl)
    have hb1 : -1048576 ≤ d := by rw [hd]; exact geInt
    have hb2 : d ≤ 1048576 := by rw [hd]; exact leInt (leRt hw hwx)
    have hb3 : d.toNat + (lsFold x).1.length ≤ 1048576 := by rw [hdd, Nat.add_comm]; exact Nat.le_trans (Nat.le_trans (Nat.add_le_add_right (Nat.le_add_left _ _) _) hw) hwx
    k_sweep
    (try k_unfold); (try dsimp only); (try k_unfold); (try dsimp only)
    refine cutS (lsK s L' x) ?_ ?_
    · (repeat' (first | ((with_reducible show wpAny _ _ (call (Value.ref 159) _) _ _ _); (k_here; k_dflt (refine' useGB (c_normpath _ _ _ ?hx) (len_npR _) ?k1 ?k2 ?k3 ?k4 ?k5 ?k6 ?k7 ?k8 ?_; (case hx => walk_at "mz"); ((case k1 => k_asm); (case k2 => k_asm); (case k3 => k_asm); (case k4 => k_asm); (case k5 => k_asm); (case k6 => first | exact rfl | assumption); (case k7 => ktr_room); (case k8 => ktr_units)); k_whole; intro t' h' tk' F' N' G' hB'; (try k_sweep); (try dsimp only)))) | ((with_reducible show wpAny _ _ (exec (Stmt.For (Expr.Name _ _) (Expr.Subscript _ _ _) _ [] _) _) _ _ _); k_here; (rename Fr _ _ _ _ => lF'); (with_unfolding_all refine' For_invVF lF' ?k1 ?k2 ?_; (case k1 => exact rfl); (case k2 => exact rfl); k_whole)) | ((with_reducible show wpAny _ _ (subscriptTail _ _ _ _) _ _ _); (fail_if_success (with_reducible show wpAny _ _ (subscriptTail (Expr.Name _ _) _ _ _) _ _ _)); refine turnN ?_) | ((with_reducible show wpAny _ _ (pyIter _) _ _ _); refine stop9 ?_) | (k_unfold; try dsimp only) | (k_end; wrow_close) | walk1 | (dsimp only; walk1) | (leave1; try dsimp only)))
      all_goals (try dsimp only)
      · exact ⟨_, _, _, _, _, _, _, rfl, by assumption, rfl, rfl, news_one (by assumption) (by k_mem), (by rw [lsKept_0 hdd (by assumption)]; assumption)⟩
      · exact ⟨_, _, _, _, _, _, _, rfl, by assumption, rfl, rfl, news_one (by assumption) (by k_mem), (by rw [lsKept_n (by assumption)]; assumption)⟩
    · clear hj1 hj2 hj3 hj4 hw hdd hwx hb1 hb2 hb3 hd F N hP
      intro s2 zz; obtain ⟨h2, tk2, m2, l, vs2, n2, tl, e, F2, hm1, hm2, N2, hS⟩ := zz
      subst e
      replace F2 := fr_two F2 hm1 hm2
      clear hm1 hm2
      k_sweep
      (try k_unfold)
      refine cutS (lsT s L' x) ?_ ?_
      · (repeat' (first | ((with_reducible show wpAny _ _ (call (Value.ref 159) _) _ _ _); (k_here; k_dflt (refine' useGB (c_normpath _ _ _ ?hx) (len_npR _) ?k1 ?k2 ?k3 ?k4 ?k5 ?k6 ?k7 ?k8 ?_; (case hx => walk_at "mz"); ((case k1 => k_asm); (case k2 => k_asm); (case k3 => k_asm); (case k4 => k_asm); (case k5 => k_asm); (case k6 => first | exact rfl | assumption); (case k7 => ktr_room); (case k8 => ktr_units)); k_whole; intro t' h' tk' F' N' G' hB'; (try k_sweep); (try dsimp only)))) | ((with_reducible show wpAny _ _ (exec (Stmt.For (Expr.Name _ _) (Expr.Subscript _ _ _) _ [] _) _) _ _ _); k_here; (rename Fr _ _ _ _ => lF'); (with_unfolding_all refine' For_invVF lF' ?k1 ?k2 ?_; (case k1 => exact rfl); (case k2 => exact rfl); k_whole)) | ((with_reducible show wpAny _ _ (subscriptTail _ _ _ _) _ _ _); (fail_if_success (with_reducible show wpAny _ _ (subscriptTail (Expr.Name _ _) _ _ _) _ _ _)); refine turnN ?_) | ((with_reducible show wpAny _ _ (pyIter _) _ _ _); refine stop9 ?_) | (k_unfold; try dsimp only) | (k_end; wrow_close) | walk1 | (dsimp only; walk1) | (leave1; try dsimp only)))
        all_goals (try dsimp only)
        · exact ⟨_, _, _, _, _, _, _, rfl, by assumption, (by rw [lsRoot_2 (by assumption)]; rfl), rfl, by assumption, hS⟩
        · exact ⟨_, _, _, _, _, _, _, rfl, by assumption, (by rw [lsRoot_1 (by assumption) (by assumption)]; rfl), rfl, by assumption, hS⟩
        · exact ⟨_, _, _, _, _, _, _, rfl, by assumption, (by rw [lsRoot_z (by assumption) (by assumption)]; rfl), rfl, by assumption, hS⟩
      · intro s3 zz; obtain ⟨h3, tk3, m3, l, vs3, n3, tr, e, F3, hm1, hm2, N3, hS⟩ := zz
        subst e
        replace F3 := fr_two F3 hm1 hm2
        clear hm1 hm2
        k_sweep
        (try k_unfold)
        obtain ⟨hk1, hk2, hk3⟩ := ls_kept x hx
        (repeat' (first | ((with_reducible show wpAny _ _ (call (Value.ref 159) _) _ _ _); (k_here; k_dflt (refine' useGB (c_normpath _ _ _ ?hx) (len_npR _) ?k1 ?k2 ?k3 ?k4 ?k5 ?k6 ?k7 ?k8 ?_; (case hx => walk_at "mz"); ((case k1 => k_asm); (case k2 => k_asm); (case k3 => k_asm); (case k4 => k_asm); (case k5 => k_asm); (case k6 => first | exact rfl | assumption); (case k7 => ktr_room); (case k8 => ktr_units)); k_whole; intro t' h' tk' F' N' G' hB'; (try k_sweep); (try dsimp only)))) | ((with_reducible show wpAny _ _ (exec (Stmt.For (Expr.Name _ _) (Expr.Subscript _ _ _) _ [] _) _) _ _ _); k_here; (rename Fr _ _ _ _ => lF'); (with_unfolding_all refine' For_invVF lF' ?k1 ?k2 ?_; (case k1 => exact rfl); (case k2 => exact rfl); k_whole)) | ((with_reducible show wpAny _ _ (subscriptTail _ _ _ _) _ _ _); (fail_if_success (with_reducible show wpAny _ _ (subscriptTail (Expr.Name _ _) _ _ _) _ _ _)); refine turnN ?_) | ((with_reducible show wpAny _ _ (pyIter _) _ _ _); refine stop9 ?_) | (k_unfold; try dsimp only) | (k_end; wrow_close) | walk1 | (dsimp only; walk1) | (leave1; try dsimp only)))
        all_goals (try dsimp only)
        · exact hQ (by assumption) ⟨_, congrArg (Value.str · _) (Eq.symm (lsR_val rfl rfl (by with_reducible assumption)))⟩
        · exact hQ (by assumption) ⟨_, congrArg (Value.str · _) (Eq.symm (lsR_dot (by with_reducible assumption) rfl rfl))⟩
theorem len_lsR (x : Str) (hx : x.length ≤ 32768 := by assumption) : (lsR x).length ≤ 3 * x.length + 5 := by
  obtain ⟨_, h3, h2⟩ := ls_kept x hx
  unfold lsR
  split
  · rw [show (Str.ofString ".").length = 1 from rfl]; lia
  · rw [Str.length_append]; lia
end
section
set_option maxHeartbeats 4000000
noncomputable def wayGo : List Str → List Str → List Str × List Str
  | g :: gs, h :: hs => if (g == h) = true then wayGo gs hs else (g :: gs, h :: hs)
  | gs, hs => (gs, hs)
noncomputable def wayGoes : List Str → List Str → Bool
  | g :: _, h :: _ => g == h
  | _, _ => false
theorem wayGo_stop {gs hs : List Str} (h : wayGoes gs hs = false) : wayGo gs hs = (gs, hs) := by
  cases gs with
  | nil => cases hs <;> rfl
  | cons g gs => cases hs with
    | nil => rfl
    | cons k hs => show (if (g == k) = true then _ else _) = _; rw [if_neg (by rw [show (g == k) = false from h]; exact Bool.false_ne_true)]
noncomputable def namesOf (x : Str) : List Str := (Txt.split x (Str.ofString "/")).filter (fun n => n != Str.ofString "")
noncomputable def wayL (x y : Str) : List Str := List.replicate (wayGo (namesOf (lsR x)) (namesOf (lsR y))).2.length (Str.ofString "..") ++ (wayGo (namesOf (lsR x)) (namesOf (lsR y))).1
noncomputable def wayR (x y : Str) : Str := if ((Txt.join (Str.ofString "/") (wayL x y)).length : Int) = 0 then Str.ofString "." else Txt.join (Str.ofString "/") (wayL x y)
inductive wayJ (m₀ : Str → Option Value) (r : List Str × List Str) (bd : Nat) (n : Nat) (m₁ : Str → Option Value) (news₁ : List (Addr × Obj)) : Prop
  | mk (G H : Addr) (vG : List Value) (nG : Nat) (vH : List Value) (nH : Nat) (gs hs : List Str) (_ : news₁ = [(G, W.listOf vG.toArray nG), (H, W.listOf vH.toArray nH)]) (_ : StrsAre vG gs) (_ : StrsAre vH hs) (_ : m₁ = (fun z => if z = Str.ofString "here" then some (.ref H) else if z = Str.ofString "goal" then some (.ref G) else m₀ z)) (_ : wayGo gs hs = r) (_ : n = gs.length) (_ : (gs.map (·.length)).sum + gs.length ≤ bd) (_ : (hs.map (·.length)).sum + hs.length ≤ bd) (_ : G ≠ H) : wayJ m₀ r bd n m₁ news₁
theorem sum_filter (p : Str → Bool) (zs : List Str) : ((zs.filter p).map (·.length)).sum + (zs.filter p).length ≤ (zs.map (·.length)).sum + zs.length := by
  induction zs with
  | nil => exact Nat.le_refl _
  | cons a r ih =>
    rw [List.filter_cons]
    split
    · simp only [List.map_cons, List.sum_cons, List.length_cons]; lia
    · simp only [List.map_cons, List.sum_cons, List.length_cons]; lia
theorem c_law_way (w : World) (x y : Str) (tx ty : Tok) (hx : x.length ≤ 16384) (hy : y.length ≤ 16384) : Claim w 2 911 [.str x tx, .str y ty] (fun _ => True) (fun _ v _ => ∃ t, v = .str (wayR x y) t) := by
  unfold Claim; k_fill
  intro dp un gd cn cs a ccd cl outer A₀ base h₀ L m p loose mean mg mb s B F X T hk _ hd hu
  k_dflt (refine' enterN [("path", .str x tx), ("start", .str y ty)] B F X T ?kA ?kF ?kK ?k6 ?k7 ?k8 ?k9 ?kB ?_ ?c2; ((case kA => exact rfl); (case kF => exact rfl); (case kK => assumption); (case k6 => k_is); (case k7 => k_is); (case k8 => ktr_room); (case k9 => exact BindsTo.of_eq rfl); (case kB => exact rfl); (case c2 => exact rfl); k_whole))
  clear T X B F
  intro L' h' F' N' B' X' T' Qf hQ; (try dsimp only)
  refine foldAE ?_; intro ee AA
  (repeat' (first | ((with_reducible show wpAny _ _ (call (Value.ref 906) _) _ _ _); (k_here; k_dflt (refine' useGB (c_law_straight _ _ _ ?hx) (len_lsR _ ?hx2) ?k1 ?k2 ?k3 ?k4 ?k5 ?k6 ?k7 ?k8 ?_; (case hx => walk_at "mz"); (case hx2 => walk_at "mz"); ((case k1 => k_asm); (case k2 => k_asm); (case k3 => k_asm); (case k4 => k_asm); (case k5 => k_asm); (case k6 => first | exact rfl | assumption); (case k7 => ktr_room); (case k8 => ktr_units)); k_whole; intro t' h' tk' F' N' G' hB'; (try k_sweep); (try dsimp only)))) | (k_unfold; try dsimp only) | (k_end; wrow_close) | walk1 | (dsimp only; walk1) | (leave1; try dsimp only)))
  unfold Stop9
  k_dflt (refine' lg_assign s.heap L' (fP fun n => n != Str.ofString "") (RS id) ?hsw ?hL ?hclos ?hsc ?hx ?hy ?hp ?_ ?hs; ((case hsw => with_unfolding_all rfl); (case hL => with_unfolding_all rfl); ((case hclos => with_unfolding_all rfl); (case hsc => with_unfolding_all rfl); (case hx => with_unfolding_all rfl)); (case hy => with_unfolding_all rfl); (case hp => with_unfolding_all rfl); (case hs => intro _; with_unfolding_all rfl); k_whole))
  (repeat' (first | ((with_reducible show wpAny _ _ (call (Value.ref 906) _) _ _ _); (k_here; k_dflt (refine' useGB (c_law_straight _ _ _ ?hx) (len_lsR _ ?hx2) ?k1 ?k2 ?k3 ?k4 ?k5 ?k6 ?k7 ?k8 ?_; (case hx => walk_at "mz"); (case hx2 => walk_at "mz"); ((case k1 => k_asm); (case k2 => k_asm); (case k3 => k_asm); (case k4 => k_asm); (case k5 => k_asm); (case k6 => first | exact rfl | assumption); (case k7 => ktr_room); (case k8 => ktr_units)); k_whole; intro t' h' tk' F' N' G' hB'; (try k_sweep); (try dsimp only)))) | (k_unfold; try dsimp only) | (k_end; wrow_close) | walk1 | (dsimp only; walk1) | (leave1; try dsimp only)))
  all_goals (try dsimp only)
  k_dflt (refine' lgA ?src ?size ?fr ?nws ?t ?e ?fin; (case src => (refine' src_list ?srch ?srcg ?srcc ?srcd; (case srch => with_unfolding_all rfl); (case srcg => walk_at "mo"); (case srcc => walk_at "mc"); (case srcd => walk_at "mc"))); (case size => (first | (rw [sizeLine_eq]; exact Nat.le_of_ble_eq_true rfl) | ((have hq' := strsAre_len (by assumption)); rw [sizeLine_eq]; simp only [List.size_toArray]; lia))); (case fr => k_asm); (case nws => k_asm))
  case t =>
    intro C i v s₂ m₂ E' hv F N M hm g
    obtain ⟨y, t, rfl, hy⟩ := mem_arr (by assumption) hv
    (repeat' (first | ((with_reducible show wpAny _ _ (call (Value.ref 906) _) _ _ _); (k_here; k_dflt (refine' useGB (c_law_straight _ _ _ ?hx) (len_lsR _ ?hx2) ?k1 ?k2 ?k3 ?k4 ?k5 ?k6 ?k7 ?k8 ?_; (case hx => walk_at "mz"); (case hx2 => walk_at "mz"); ((case k1 => k_asm); (case k2 => k_asm); (case k3 => k_asm); (case k4 => k_asm); (case k5 => k_asm); (case k6 => first | exact rfl | assumption); (case k7 => ktr_room); (case k8 => ktr_units)); k_whole; intro t' h' tk' F' N' G' hB'; (try k_sweep); (try dsimp only)))) | (k_unfold; try dsimp only) | (k_end; wrow_close) | walk1 | (dsimp only; walk1) | (leave1; try dsimp only)))
    exact ⟨_, _, rfl, fun _ _ e => e⟩
  case e =>
    intro C i v s₂ m₂ E' hv _ F N M hm g
    obtain ⟨y, t, rfl, hy⟩ := mem_arr (by assumption) hv
    (repeat' (first | ((with_reducible show wpAny _ _ (call (Value.ref 906) _) _ _ _); (k_here; k_dflt (refine' useGB (c_law_straight _ _ _ ?hx) (len_lsR _ ?hx2) ?k1 ?k2 ?k3 ?k4 ?k5 ?k6 ?k7 ?k8 ?_; (case hx => walk_at "mz"); (case hx2 => walk_at "mz"); ((case k1 => k_asm); (case k2 => k_asm); (case k3 => k_asm); (case k4 => k_asm); (case k5 => k_asm); (case k6 => first | exact rfl | assumption); (case k7 => ktr_room); (case k8 => ktr_units)); k_whole; intro t' h' tk' F' N' G' hB'; (try k_sweep); (try dsimp only)))) | (k_unfold; try dsimp only) | (k_end; wrow_close) | walk1 | (dsimp only; walk1) | (leave1; try dsimp only)))
    · exact rs_of rfl
    · exact ⟨_, _, rfl, fun _ _ e => e⟩
  case fin =>
    intro D n ys h' tk vs hl hvs F N hne P
    rw [same_list hl hvs] at P
    have hS := paired_filter (by assumption) P
    rw [List.map_id] at hS
    clear P hne hl hvs vs
    (repeat' (first | ((with_reducible show wpAny _ _ (call (Value.ref 906) _) _ _ _); (k_here; k_dflt (refine' useGB (c_law_straight _ _ _ ?hx) (len_lsR _ ?hx2) ?k1 ?k2 ?k3 ?k4 ?k5 ?k6 ?k7 ?k8 ?_; (case hx => walk_at "mz"); (case hx2 => walk_at "mz"); ((case k1 => k_asm); (case k2 => k_asm); (case k3 => k_asm); (case k4 => k_asm); (case k5 => k_asm); (case k6 => first | exact rfl | assumption); (case k7 => ktr_room); (case k8 => ktr_units)); k_whole; intro t' h' tk' F' N' G' hB'; (try k_sweep); (try dsimp only)))) | (k_unfold; try dsimp only) | (k_end; wrow_close) | walk1 | (dsimp only; walk1) | (leave1; try dsimp only)))
    unfold Stop9
    k_dflt (refine' lg_assign s.heap L' (fP fun n => n != Str.ofString "") (RS id) ?hsw ?hL ?hclos ?hsc ?hx ?hy ?hp ?_ ?hs; ((case hsw => with_unfolding_all rfl); (case hL => with_unfolding_all rfl); ((case hclos => with_unfolding_all rfl); (case hsc => with_unfolding_all rfl); (case hx => with_unfolding_all rfl)); (case hy => with_unfolding_all rfl); (case hp => with_unfolding_all rfl); (case hs => intro _; with_unfolding_all rfl); k_whole))
    (repeat' (first | ((with_reducible show wpAny _ _ (call (Value.ref 906) _) _ _ _); (k_here; k_dflt (refine' useGB (c_law_straight _ _ _ ?hx) (len_lsR _ ?hx2) ?k1 ?k2 ?k3 ?k4 ?k5 ?k6 ?k7 ?k8 ?_; (case hx => walk_at "mz"); (case hx2 => walk_at "mz"); ((case k1 => k_asm); (case k2 => k_asm); (case k3 => k_asm); (case k4 => k_asm); (case k5 => k_asm); (case k6 => first | exact rfl | assumption); (case k7 => ktr_room); (case k8 => ktr_units)); k_whole; intro t' h' tk' F' N' G' hB'; (try k_sweep); (try dsimp only)))) | (k_unfold; try dsimp only) | (k_end; wrow_close) | walk1 | (dsimp only; walk1) | (leave1; try dsimp only)))
    all_goals (try dsimp only)
    k_dflt (refine' lgA ?src ?size ?fr ?nws ?t ?e ?fin; (case src => (refine' src_list ?srch ?srcg ?srcc ?srcd; (case srch => with_unfolding_all rfl); (case srcg => walk_at "mo"); (case srcc => walk_at "mc"); (case srcd => walk_at "mc"))); (case size => (first | (rw [sizeLine_eq]; exact Nat.le_of_ble_eq_true rfl) | ((have hq' := strsAre_len (by assumption)); rw [sizeLine_eq]; simp only [List.size_toArray]; lia))); (case fr => k_asm); (case nws => k_asm))
    case t =>
      intro C i v s₂ m₂ E' hv F N M hm g
      obtain ⟨y, t, rfl, hy⟩ := mem_arr (by assumption) hv
      (repeat' (first | ((with_reducible show wpAny _ _ (call (Value.ref 906) _) _ _ _); (k_here; k_dflt (refine' useGB (c_law_straight _ _ _ ?hx) (len_lsR _ ?hx2) ?k1 ?k2 ?k3 ?k4 ?k5 ?k6 ?k7 ?k8 ?_; (case hx => walk_at "mz"); (case hx2 => walk_at "mz"); ((case k1 => k_asm); (case k2 => k_asm); (case k3 => k_asm); (case k4 => k_asm); (case k5 => k_asm); (case k6 => first | exact rfl | assumption); (case k7 => ktr_room); (case k8 => ktr_units)); k_whole; intro t' h' tk' F' N' G' hB'; (try k_sweep); (try dsimp only)))) | (k_unfold; try dsimp only) | (k_end; wrow_close) | walk1 | (dsimp only; walk1) | (leave1; try dsimp only)))
      exact ⟨_, _, rfl, fun _ _ e => e⟩
    case e =>
      intro C i v s₂ m₂ E' hv _ F N M hm g
      obtain ⟨y, t, rfl, hy⟩ := mem_arr (by assumption) hv
      (repeat' (first | ((with_reducible show wpAny _ _ (call (Value.ref 906) _) _ _ _); (k_here; k_dflt (refine' useGB (c_law_straight _ _ _ ?hx) (len_lsR _ ?hx2) ?k1 ?k2 ?k3 ?k4 ?k5 ?k6 ?k7 ?k8 ?_; (case hx => walk_at "mz"); (case hx2 => walk_at "mz"); ((case k1 => k_asm); (case k2 => k_asm); (case k3 => k_asm); (case k4 => k_asm); (case k5 => k_asm); (case k6 => first | exact rfl | assumption); (case k7 => ktr_room); (case k8 => ktr_units)); k_whole; intro t' h' tk' F' N' G' hB'; (try k_sweep); (try dsimp only)))) | (k_unfold; try dsimp only) | (k_end; wrow_close) | walk1 | (dsimp only; walk1) | (leave1; try dsimp only)))
      · exact rs_of rfl
      · exact ⟨_, _, rfl, fun _ _ e => e⟩
    case fin =>
      intro D2 n2 ys2 h' tk vs hl hvs F N hne P
      rw [same_list hl hvs] at P
      have hS2 := paired_filter (by assumption) P
      rw [List.map_id] at hS2
      simp only [AllNe, and_true] at hne
      clear P hl hvs vs
      have hf1 := sum_filter (fun n => n != Str.ofString "") (Txt.split (lsR x) (Str.ofString "/"))
      have hf2 := sum_filter (fun n => n != Str.ofString "") (Txt.split (lsR y) (Str.ofString "/"))
      (repeat' (first | ((with_reducible show wpAny _ _ (call (Value.ref 906) _) _ _ _); (k_here; k_dflt (refine' useGB (c_law_straight _ _ _ ?hx) (len_lsR _ ?hx2) ?k1 ?k2 ?k3 ?k4 ?k5 ?k6 ?k7 ?k8 ?_; (case hx => walk_at "mz"); (case hx2 => walk_at "mz"); ((case k1 => k_asm); (case k2 => k_asm); (case k3 => k_asm); (case k4 => k_asm); (case k5 => k_asm); (case k6 => first | exact rfl | assumption); (case k7 => ktr_room); (case k8 => ktr_units)); k_whole; intro t' h' tk' F' N' G' hB'; (try k_sweep); (try dsimp only)))) | (k_unfold; try dsimp only) | (k_end; wrow_close) | walk1 | (dsimp only; walk1) | (leave1; try dsimp only)))
      unfold Stop9
      refine' While_inv (h₀ := s.heap) (L := L') (wayJ (fun z => List.lookup z [(Str.ofString "path", Value.str x tx), (Str.ofString "start", Value.str y ty)].reverse) (wayGo (namesOf (lsR x)) (namesOf (lsR y))) 70000) ?F (fun p hp => ?N) ⟨D, D2, ys, n, ys2, n2, _, _, rfl, hS, hS2, rfl, rfl, rfl, ?w1, ?w2, ?ne⟩ ?turn
      case F => assumption
      case N => exact N p (by simp only [List.mem_cons, List.not_mem_nil, or_false] at hp ⊢; rcases hp with hp | hp; exact .inr (.inr (.inl hp)); exact .inl hp)
      case w1 => lia
      case w2 => lia
      case ne => exact hne.2.1
      case turn =>
        clear hf1 hf2 hne hS hS2 F N
        intro n m₁ news₁ h₁ tk₁ F N zz; refine foldP ?_; intro Gz; obtain ⟨G, H, vG, nG, vH, nH, gs, hs, rfl, hG, hH, rfl, hr, rfl, hw1, hw2, hne⟩ := zz; (try k_unfold)
        refine wpAny_mono (Q := fun b s₂ => (∃ h tk, s₂ = { s with heap := h, toks := tk } ∧ Fr s.heap L' h (fun z => if z = Str.ofString "here" then some (.ref H) else if z = Str.ofString "goal" then some (.ref G) else List.lookup z [(Str.ofString "path", Value.str x tx), (Str.ofString "start", Value.str y ty)].reverse) ∧ News s.heap L' h [(G, W.listOf vG.toArray nG), (H, W.listOf vH.toArray nH)]) ∧ b = wayGoes gs hs) ?test ?after (fun _ _ e => e)
        case test =>
          clear hw1 hw2 hr
          have hG0 := hG
          have hH0 := hH
          try dsimp only at F
          cases hG with
          | nil =>
            (repeat' (first | ((with_reducible show wpAny _ _ (call (Value.ref 906) _) _ _ _); (k_here; k_dflt (refine' useGB (c_law_straight _ _ _ ?hx) (len_lsR _ ?hx2) ?k1 ?k2 ?k3 ?k4 ?k5 ?k6 ?k7 ?k8 ?_; (case hx => walk_at "mz"); (case hx2 => walk_at "mz"); ((case k1 => k_asm); (case k2 => k_asm); (case k3 => k_asm); (case k4 => k_asm); (case k5 => k_asm); (case k6 => first | exact rfl | assumption); (case k7 => ktr_room); (case k8 => ktr_units)); k_whole; intro t' h' tk' F' N' G' hB'; (try k_sweep); (try dsimp only)))) | (k_unfold; try dsimp only) | (k_end; wrow_close) | walk1 | (dsimp only; walk1) | (leave1; try dsimp only)))
            · assumption
            · intro p hp; exact (by assumption : News _ _ _ (_ :: _)) p (.tail _ hp)
          | cons g tg hG => cases hH with
            | nil =>
              (repeat' (first | ((with_reducible show wpAny _ _ (call (Value.ref 906) _) _ _ _); (k_here; k_dflt (refine' useGB (c_law_straight _ _ _ ?hx) (len_lsR _ ?hx2) ?k1 ?k2 ?k3 ?k4 ?k5 ?k6 ?k7 ?k8 ?_; (case hx => walk_at "mz"); (case hx2 => walk_at "mz"); ((case k1 => k_asm); (case k2 => k_asm); (case k3 => k_asm); (case k4 => k_asm); (case k5 => k_asm); (case k6 => first | exact rfl | assumption); (case k7 => ktr_room); (case k8 => ktr_units)); k_whole; intro t' h' tk' F' N' G' hB'; (try k_sweep); (try dsimp only)))) | (k_unfold; try dsimp only) | (k_end; wrow_close) | walk1 | (dsimp only; walk1) | (leave1; try dsimp only)))
              all_goals first | assumption | (intro p hp; exact (by assumption : News _ _ _ (_ :: _ :: _)) p (.tail _ (.tail _ hp)))
            | cons k tk hH =>
              (repeat' (first | ((with_reducible show wpAny _ _ (call (Value.ref 906) _) _ _ _); (k_here; k_dflt (refine' useGB (c_law_straight _ _ _ ?hx) (len_lsR _ ?hx2) ?k1 ?k2 ?k3 ?k4 ?k5 ?k6 ?k7 ?k8 ?_; (case hx => walk_at "mz"); (case hx2 => walk_at "mz"); ((case k1 => k_asm); (case k2 => k_asm); (case k3 => k_asm); (case k4 => k_asm); (case k5 => k_asm); (case k6 => first | exact rfl | assumption); (case k7 => ktr_room); (case k8 => ktr_units)); k_whole; intro t' h' tk' F' N' G' hB'; (try k_sweep); (try dsimp only)))) | (k_unfold; try dsimp only) | (k_end; wrow_close) | walk1 | (dsimp only; walk1) | (leave1; try dsimp only)))
              all_goals first
                | exact Eq.symm (by with_reducible assumption)
                | (show _ = (g == k); with_reducible first | exact Eq.symm (by assumption) | assumption)
                | (with_reducible assumption)
                | (intro p hp; exact (by assumption : News _ _ _ (_ :: _ :: _)) p (.tail _ (.tail _ hp)))
        case after =>
          rintro b s₂ ⟨⟨h, tk, rfl, F, N⟩, rfl⟩
          have hlG := strsAre_len hG
          have hlH := strsAre_len hH
          have hgl : gs.length ≤ 70000 := by lia
          have hhl : hs.length ≤ 70000 := by lia
          cases hw : wayGoes gs hs with
          | true =>
            (try k_unfold); (try k_unfold); (try k_unfold); (try dsimp only); rw [if_pos rfl]
            (repeat' (first | ((with_reducible show wpAny _ _ (call (Value.ref 906) _) _ _ _); (k_here; k_dflt (refine' useGB (c_law_straight _ _ _ ?hx) (len_lsR _ ?hx2) ?k1 ?k2 ?k3 ?k4 ?k5 ?k6 ?k7 ?k8 ?_; (case hx => walk_at "mz"); (case hx2 => walk_at "mz"); ((case k1 => k_asm); (case k2 => k_asm); (case k3 => k_asm); (case k4 => k_asm); (case k5 => k_asm); (case k6 => first | exact rfl | assumption); (case k7 => ktr_room); (case k8 => ktr_units)); k_whole; intro t' h' tk' F' N' G' hB'; (try k_sweep); (try dsimp only)))) | (k_unfold; try dsimp only) | (k_end; wrow_close) | walk1 | (dsimp only; walk1) | (leave1; try dsimp only)))
            rename_i lG hA sG l1G mB kB hB sz2 lH hC sH l1H mD kD hD Fz Nz
            cases gs with
            | nil => cases hw
            | cons g gs =>
              cases hs with
              | nil => cases hw
              | cons k hs =>
                refine WhileStep.intro Fz (news₂ := [(lG, W.listOf (List.drop 1 vG.toArray.toList).toArray 0), (lH, W.listOf (List.drop 1 vH.toArray.toList).toArray 0)]) (fun p hp => Nz p ?_) (Nat.lt_succ_self gs.length) ⟨_, _, _, _, _, _, gs, hs, rfl, sG, sH, ?_, ?_, rfl, ?_, ?_, ?_⟩
                · simp only [List.mem_cons, List.not_mem_nil, or_false] at hp ⊢; rcases hp with hp | hp; exact .inr (.inl hp); exact .inl hp
                · funext z
                  dsimp +zetaDelta only
                  split
                  · rfl
                  · split
                    · rfl
                    · rfl
                · rw [← hr]; show _ = (if (g == k) = true then _ else _); rw [if_pos (show (g == k) = true from hw)]
                · simp only [List.map_cons, List.sum_cons, List.length_cons] at hw1; exact dropW hw1
                · simp only [List.map_cons, List.sum_cons, List.length_cons] at hw2; exact dropW hw2
                · exact Nat.ne_of_lt l1H.1
          | false =>
            (try k_unfold); (try k_unfold); (try k_unfold); (try dsimp only); rw [if_neg Bool.false_ne_true]
            rw [wayGo_stop hw] at hr
            have hj : ((List.replicate ((hs.length : Nat) : Int).toNat (Str.ofString "..") ++ gs).map (·.length)).sum + (List.replicate ((hs.length : Nat) : Int).toNat (Str.ofString "..") ++ gs).length * (Str.ofString "/").length ≤ 16777216 :=
              joinRel (k := 0) (zs := gs) (by lia) hw1
            have hjr : wayR x y = if ((Txt.join (Str.ofString "/") (List.replicate ((hs.length : Nat) : Int).toNat (Str.ofString "..") ++ gs)).length : Int) = 0 then Str.ofString "." else Txt.join (Str.ofString "/") (List.replicate ((hs.length : Nat) : Int).toNat (Str.ofString "..") ++ gs) := by
              unfold wayR wayL
              rw [← hr, Int.toNat_natCast]
            have hjl : (Txt.join (Str.ofString "/") (List.replicate ((hs.length : Nat) : Int).toNat (Str.ofString "..") ++ gs)).length ≤ 400000 := by
              have := len_join1 (sep := Str.ofString "/") rfl (List.replicate ((hs.length : Nat) : Int).toNat (Str.ofString "..") ++ gs)
              rw [List.map_append, List.sum_append, sum_dots, List.length_append, List.length_replicate] at this
              exact Nat.le_trans this (Nat.le_trans (Nat.add_le_add (Nat.add_le_add (Nat.mul_le_mul_left 2 hhl) (Nat.le_trans (Nat.le_add_right _ _) hw1)) (Nat.add_le_add hhl hgl)) (leB rfl))
            replace hjr := Hid.mk hjr
            replace hj := Hid.mk hj
            clear hr hw1 hw2 hw hx hy
            (repeat' (first | ((with_reducible show wpAny _ _ (call (Value.ref 906) _) _ _ _); (k_here; k_dflt (refine' useGB (c_law_straight _ _ _ ?hx) (len_lsR _ ?hx2) ?k1 ?k2 ?k3 ?k4 ?k5 ?k6 ?k7 ?k8 ?_; (case hx => walk_at "mz"); (case hx2 => walk_at "mz"); ((case k1 => k_asm); (case k2 => k_asm); (case k3 => k_asm); (case k4 => k_asm); (case k5 => k_asm); (case k6 => first | exact rfl | assumption); (case k7 => ktr_room); (case k8 => ktr_units)); k_whole; intro t' h' tk' F' N' G' hB'; (try k_sweep); (try dsimp only)))) | (k_unfold; try dsimp only) | (k_end; wrow_close) | walk1 | (dsimp only; walk1) | (leave1; try dsimp only)))
            all_goals (try dsimp only)
            all_goals (have hjr := hjr.out)
            all_goals (refine' hQ (by assumption) ⟨_, ?h⟩; (case h => (simp only [hjr, *, if_true, if_false] <;> rfl)))
end
noncomputable def rootN (k : Nat) : Str := if k = 2 then Str.ofString "//" else if 0 < k then nS else nE
noncomputable def nfP (k : Nat) (ns : List Str) : Str := rootN k ++ Txt.join nS (kpt (decide (0 < k)) ns)
noncomputable def nf (k : Nat) (ns : List Str) : Str := if ((nfP k ns).length : Int) = 0 then n1 else nfP k ns
theorem lsFold_bw (x : Str) : lsFold x = bwF (Txt.split x nS) := by
  unfold lsFold bwF
  rw [List.foldl_reverse]
  congr 1
  funext n st
  unfold lsStep bwS
  simp only [beq_iff_eq]
theorem lsLead_led (x : Str) : lsLead x = (ledN (Txt.split x nS) : Nat) := len_lstrip x
theorem lsR_nf (x : Str) : lsR x = nf (ledN (Txt.split x nS)) (Txt.split x nS) := by
  have e1 : lsRoot x = rootN (ledN (Txt.split x nS)) := by
    unfold lsRoot rootN
    rw [lsLead_led]
    have a : ((ledN (Txt.split x nS) : Nat) : Int) = 2 ↔ ledN (Txt.split x nS) = 2 := by lia
    have b : (0 : Int) < ((ledN (Txt.split x nS) : Nat) : Int) ↔ 0 < ledN (Txt.split x nS) := by lia
    simp only [a, b]
  have e2 : lsKept x = kpt (decide (0 < ledN (Txt.split x nS))) (Txt.split x nS) := by
    unfold lsKept kpt
    rw [lsLead_led, lsFold_bw]
    by_cases h : ledN (Txt.split x nS) = 0
    · rw [if_pos (by lia), if_neg (by simp [h])]
    · rw [if_neg (by lia), if_pos (by simp; lia)]
  unfold lsR nf nfP
  rw [e1, e2]
theorem np_fw (r : Str) : npStep r = fwS (decide (¬ r = nE)) := by
  funext acc c
  unfold npStep fwS
  have l0 : ∀ y : Str, ((y.length : Int) = 0) ↔ y = nE := fun y => ⟨fun h => cs_ext (List.eq_nil_of_length_eq_zero (by rw [len_cs]; lia)), fun h => by rw [h]; rfl⟩
  have a1 : (c == (".": Str)) = true ↔ c = n1 := beq_iff_eq
  have a2 : (c != ("..": Str)) = true ↔ c ≠ n2 := bne_iff_ne
  have a3 : (acc.getLastD ("": Str) == ("..": Str)) = true ↔ acc.getLastD nE = n2 := beq_iff_eq
  have a4 : acc.isEmpty = true ↔ acc = [] := List.isEmpty_iff
  simp only [l0, a1, a2, a3, a4, decide_eq_true_eq]
  by_cases hr : r = nE
  · simp only [hr, if_true, not_true_eq_false, if_false]
  · simp only [hr, if_false, not_false_eq_true, if_true]
theorem cs_slice_to1 (x : Str) : cs (Txt.slice x none (some 1)) = (cs x).take 1 := cs_slice_to x 1
theorem cs_slice_to2 (x : Str) : cs (Txt.slice x none (some 2)) = (cs x).take 2 := cs_slice_to x 2
theorem cs_slice_12 (x : Str) : cs (Txt.slice x (some 1) (some 2)) = ((cs x).take 2).drop 1 := cs_slice_ss x 1 2 (by decide)
theorem cs_slice_23 (x : Str) : cs (Txt.slice x (some 2) (some 3)) = ((cs x).take 3).drop 2 := cs_slice_ss x 2 3 (by decide)
theorem cs_slice_f1 (x : Str) : cs (Txt.slice x (some 1) none) = (cs x).drop 1 := cs_slice_from x 1
theorem cs_slice_f2 (x : Str) : cs (Txt.slice x (some 2) none) = (cs x).drop 2 := cs_slice_from x 2
theorem is_slash {x : Str} {l : List Nat} (h : cs x = l) : (x != nS) = !decide (l = [47]) := by
  by_cases hl : l = [47]
  · subst hl
    have : x = nS := cs_ext h
    rw [this]; simp
  · have : x ≠ nS := fun e => hl (by rw [← h, e]; rfl)
    simp [hl, this]
theorem sr_eq (x : Str) : srRoot x = rootN (ledN (Txt.split x nS)) ∧ ∀ (acc : List Str) (r : Bool), (Txt.split (srTail x) nS).foldl (fwS r) acc = (Txt.split x nS).foldl (fwS r) acc := by
  have h1 := is_slash (cs_slice_to1 x)
  have h2 := is_slash (cs_slice_12 x)
  have h3 : (Txt.slice x (some 2) (some 3) == nS) = decide (((cs x).take 3).drop 2 = [47]) := by
    have := is_slash (cs_slice_23 x)
    rw [bne] at this
    simpa using congrArg (!·) this
  have key : ∀ l, cs x = l → srRoot x = rootN ((l.takeWhile (· == 47)).length) ∧ ∀ (acc : List Str) (r : Bool), (Txt.split (srTail x) nS).foldl (fwS r) acc = (Txt.split x nS).foldl (fwS r) acc := by
    intro l hl
    rw [hl] at h1 h2 h3
    unfold srRoot srTail
    change (if (Txt.slice x none (some 1) != nS) = true then _ else if (Txt.slice x (some 1) (some 2) != nS || Txt.slice x (some 2) (some 3) == nS) = true then _ else _) = _ ∧ _
    have one : ∀ (y : Str), cs x = 47 :: cs y → ∀ (acc : List Str) (r : Bool), (Txt.split y nS).foldl (fwS r) acc = (Txt.split x nS).foldl (fwS r) acc := by
      intro y hy acc r
      rw [split_slash hy, fw_skip]
    match l, hl with
    | [], hl =>
      rw [h1]
      exact ⟨rfl, fun _ _ => rfl⟩
    | c :: rest, hl =>
      by_cases hc : c = 47
      · subst hc
        have g1 : (Txt.slice x none (some 1) != nS) = false := by rw [h1]; simp
        match rest, hl with
        | [], hl =>
          have g2 : (Txt.slice x (some 1) (some 2) != nS) = true := by rw [h2]; simp
          rw [g1, g2]
          refine ⟨rfl, fun acc r => ?_⟩
          exact one (Txt.slice x (some 1) none) (by rw [cs_slice_f1, hl]; rfl) acc r
        | c2 :: rest, hl =>
          by_cases hc2 : c2 = 47
          · subst hc2
            have g2 : (Txt.slice x (some 1) (some 2) != nS) = false := by rw [h2]; simp
            by_cases hc3 : ∃ rest2, rest = 47 :: rest2
            · obtain ⟨rest2, rfl⟩ := hc3
              have g3 : (Txt.slice x (some 2) (some 3) == nS) = true := by rw [h3]; simp
              rw [g1, g2, g3]
              refine ⟨?_, fun acc r => one (Txt.slice x (some 1) none) (by rw [cs_slice_f1, hl]; rfl) acc r⟩
              show nS = rootN _
              have : ((47 :: 47 :: 47 :: rest2).takeWhile (· == 47)).length = (rest2.takeWhile (· == 47)).length + 3 := by simp
              rw [this]
              unfold rootN
              rw [if_neg (by lia), if_pos (by lia)]
            · have g3 : (Txt.slice x (some 2) (some 3) == nS) = false := by
                rw [h3]
                cases rest with
                | nil => simp
                | cons d e =>
                  have : d ≠ 47 := fun q => hc3 ⟨e, by rw [q]⟩
                  simp [this]
              rw [g1, g2, g3]
              refine ⟨?_, fun acc r => ?_⟩
              · show Txt.slice x none (some 2) = rootN _
                have : ((47 :: 47 :: rest).takeWhile (· == 47)).length = 2 := by
                  cases rest with
                  | nil => simp
                  | cons d e =>
                    have : d ≠ 47 := fun q => hc3 ⟨e, by rw [q]⟩
                    simp [this]
                rw [this]
                apply cs_ext
                rw [cs_slice_to2, hl]; rfl
              · have m : cs (Txt.slice x (some 1) none) = 47 :: cs (Txt.slice x (some 2) none) := by rw [cs_slice_f1, cs_slice_f2, hl]; rfl
                have a := one (Txt.slice x (some 1) none) (by rw [cs_slice_f1, hl]; rfl) acc r
                rw [← a, split_slash m, fw_skip]; rfl
          · have g2 : (Txt.slice x (some 1) (some 2) != nS) = true := by rw [h2]; simp [hc2]
            rw [g1, g2]
            refine ⟨?_, fun acc r => one (Txt.slice x (some 1) none) (by rw [cs_slice_f1, hl]; rfl) acc r⟩
            have : ((47 :: c2 :: rest).takeWhile (· == 47)).length = 1 := by simp [hc2]
            rw [this]; rfl
      · have g1 : (Txt.slice x none (some 1) != nS) = true := by rw [h1]; simp [hc]
        rw [g1]
        refine ⟨?_, fun _ _ => rfl⟩
        have : ((c :: rest).takeWhile (· == 47)).length = 0 := by simp [hc]
        rw [this]; rfl
  rw [led_eq]
  exact key _ rfl
theorem rootN_ne (k : Nat) : (¬ rootN k = nE) ↔ 0 < k := by
  unfold rootN
  split
  · rename_i h; subst h; simp; decide
  · split
    · rename_i h; simp [h]; decide
    · rename_i h; simp [h]
theorem npComps_kpt (x : Str) : npComps x = kpt (decide (0 < ledN (Txt.split x nS))) (Txt.split x nS) := by
  obtain ⟨h1, h2⟩ := sr_eq x
  unfold npComps
  rw [np_fw]
  refine (h2 [] _).trans ?_
  rw [fw_kpt, h1]
  congr 1
  exact decide_eq_decide.mpr (rootN_ne _)
theorem npR_nf (x : Str) : npR x = nf (ledN (Txt.split x nS)) (Txt.split x nS) := by
  unfold npR nf nfP
  rw [npComps_kpt, (sr_eq x).1]
  by_cases hx : (x.length : Int) = 0
  · have : x = nE := cs_ext (List.eq_nil_of_length_eq_zero (by rw [len_cs]; lia))
    subst this
    rfl
  · rw [if_neg hx]
theorem np_ls (x : Str) : npR x = lsR x := by rw [npR_nf, lsR_nf]
noncomputable def Nm (ns : List Str) : Prop := ∀ n ∈ ns, 47 ∉ cs n ∧ n ≠ nE
theorem nm_kpt (r : Bool) (x : Str) : Nm (kpt r (Txt.split x nS)) := by
  intro n hn
  obtain ⟨h1, h2, _⟩ := kpt_mem r _ n hn
  refine ⟨?_, h2⟩
  rcases h1 with h | h
  · exact sp_free x n h
  · subst h; decide
theorem cs_cons {n : Str} (h : n ≠ nE) (h2 : 47 ∉ cs n) : ∃ c r, cs n = c :: r ∧ c ≠ 47 := by
  cases q : cs n with
  | nil => exact absurd (cs_ext q) h
  | cons c r => exact ⟨c, r, rfl, fun e => h2 (by rw [q, e]; exact List.mem_cons_self ..)⟩
theorem jn_nil (ns : List Str) (h : Nm ns) : cs (Txt.join nS ns) = [] ↔ ns = [] := by
  constructor
  · intro e
    cases ns with
    | nil => rfl
    | cons a r =>
      rw [cs_join] at e
      obtain ⟨c, t, q, _⟩ := cs_cons (h a (.head _)).2 (h a (.head _)).1
      cases r <;> simp [jnl, q] at e
  · intro e; subst e; rfl
theorem jn_head (ns : List Str) (h : Nm ns) : (cs (Txt.join nS ns)).dropWhile (· == 47) = cs (Txt.join nS ns) := by
  cases ns with
  | nil => rfl
  | cons a r =>
    obtain ⟨c, t, q, hc⟩ := cs_cons (h a (.head _)).2 (h a (.head _)).1
    rw [cs_join]
    cases r <;> simp [jnl, q, hc]
theorem len0 (x : Str) : ((x.length : Int) = 0) ↔ cs x = [] := by
  rw [← len_cs, ← List.length_eq_zero_iff]; lia
theorem rootN_cs {k : Nat} (hk : 0 < k) : cs (rootN k) = [47] ∨ cs (rootN k) = [47, 47] := by
  unfold rootN
  split
  · exact .inr rfl
  · exact .inl rfl
theorem lstrip_nf {k : Nat} (hk : 0 < k) {ns : List Str} (h : Nm ns) : Txt.lstripChars (rootN k ++ Txt.join nS ns) nS = Txt.join nS ns := by
  apply cs_ext
  rw [cs_lstrip, cs_app]
  rcases rootN_cs hk with e | e <;> rw [e]
  · simpa using jn_head ns h
  · simpa using jn_head ns h
theorem pieces_jn {ns : List Str} (h : Nm ns) : pieces (Txt.join nS ns) = ns := by
  unfold pieces
  by_cases e : ns = []
  · subst e; rfl
  · rw [if_neg (by rw [len0, jn_nil ns h]; exact e)]
    exact split_join e fun n hn => (h n hn).1
theorem filt_nm {ns : List Str} (h : Nm ns) : ns.filter (fun n => n != nE) = ns := by
  rw [List.filter_eq_self]
  intro n hn
  simpa using (h n hn).2
theorem namesOf_jn {ns : List Str} (h : Nm ns) : namesOf (Txt.join nS ns) = ns := by
  unfold namesOf
  by_cases e : ns = []
  · subst e
    have : Txt.split (Txt.join nS []) nS = [nE] := map_cs_inj (by rw [cs_split]; rfl)
    rw [this]; rfl
  · rw [split_join e fun n hn => (h n hn).1]; exact filt_nm h
theorem namesOf_slash {x y : Str} (h : cs x = 47 :: cs y) : namesOf x = namesOf y := by
  unfold namesOf
  rw [split_slash h, List.filter_cons, if_neg (by simp)]
theorem namesOf_nf {k : Nat} (hk : 0 < k) {ns : List Str} (h : Nm ns) : namesOf (rootN k ++ Txt.join nS ns) = ns := by
  have hc := cs_app (rootN k) (Txt.join nS ns)
  rcases rootN_cs hk with e | e <;> rw [e] at hc
  · rw [namesOf_slash (y := Txt.join nS ns) hc]; exact namesOf_jn h
  · rw [namesOf_slash (y := nS ++ Txt.join nS ns) (by rw [hc, cs_app]; rfl), namesOf_slash (y := Txt.join nS ns) (by rw [cs_app]; rfl)]; exact namesOf_jn h
theorem nf_root {k : Nat} (hk : 0 < k) (ns : List Str) : nf k ns = rootN k ++ Txt.join nS (kpt true ns) := by
  unfold nf nfP
  rw [if_neg]
  · simp [hk]
  · rw [len0, cs_app]
    rcases rootN_cs hk with e | e <;> rw [e] <;> simp
theorem wayGo_eq : ∀ a b : List Str, wayGo a b = (a.drop (lcpN a b), b.drop (lcpN a b))
  | [], b => by cases b <;> rfl
  | _ :: _, [] => rfl
  | g :: gs, h :: hs => by
    simp only [wayGo, lcpN]
    split
    · rw [wayGo_eq gs hs]; rfl
    · rfl
noncomputable def rtd (x : Str) : List Str := kpt true (Txt.split x nS)
noncomputable def relL (x y : Str) : List Str := List.replicate ((rtd y).length - lcpN (rtd x) (rtd y)) n2 ++ (rtd x).drop (lcpN (rtd x) (rtd y))
noncomputable def relN (x y : Str) : Str := if relL x y = [] then n1 else Txt.join nS (relL x y)
theorem led_pos {x : Str} (h : Txt.startswith x nS = true) : 0 < ledN (Txt.split x nS) := by
  rw [led_eq]
  unfold Txt.startswith at h
  obtain ⟨h1, h2⟩ := Bool.and_eq_true_iff.mp h
  rw [StrLaws.subAt_eq] at h2
  have h2 := beq_iff_eq.mp h2
  change ((cs x).drop 0).take 1 = [47] at h2
  rw [List.drop_zero] at h2
  cases q : cs x with
  | nil => rw [q] at h2; simp at h2
  | cons c r =>
    rw [q] at h2
    simp at h2
    simp [h2]
theorem nm_rel (x y : Str) : Nm (relL x y) := by
  intro n hn
  unfold relL at hn
  rcases List.mem_append.mp hn with h | h
  · rw [List.eq_of_mem_replicate h]; exact ⟨by decide, by decide⟩
  · exact nm_kpt true x n (List.mem_of_mem_drop h)
theorem wayR_rel {x y : Str} (hx : Txt.startswith x nS = true) (hy : Txt.startswith y nS = true) : wayR x y = relN x y := by
  have e1 : namesOf (lsR x) = rtd x := by rw [lsR_nf, nf_root (led_pos hx)]; exact namesOf_nf (led_pos hx) (nm_kpt true x)
  have e2 : namesOf (lsR y) = rtd y := by rw [lsR_nf, nf_root (led_pos hy)]; exact namesOf_nf (led_pos hy) (nm_kpt true y)
  have e3 : wayL x y = relL x y := by
    unfold wayL relL
    rw [e1, e2, wayGo_eq, List.length_drop]
  unfold wayR relN
  rw [e3]
  have : ((Txt.join (Str.ofString "/") (relL x y)).length : Int) = 0 ↔ relL x y = [] := by rw [len0]; exact jn_nil _ (nm_rel x y)
  simp only [this]
theorem rpR_rel {x y : Str} (hx : Txt.startswith x nS = true) (hy : Txt.startswith y nS = true) : rpR x y = relN x y := by
  have e1 : pieces (Txt.lstripChars (npR x) (Str.ofString "/")) = rtd x := by
    rw [npR_nf, nf_root (led_pos hx)]
    have := lstrip_nf (led_pos hx) (nm_kpt true x)
    rw [show Txt.lstripChars _ (Str.ofString "/") = _ from this]; exact pieces_jn (nm_kpt true x)
  have e2 : pieces (Txt.lstripChars (npR y) (Str.ofString "/")) = rtd y := by
    rw [npR_nf, nf_root (led_pos hy)]
    have := lstrip_nf (led_pos hy) (nm_kpt true y)
    rw [show Txt.lstripChars _ (Str.ofString "/") = _ from this]; exact pieces_jn (nm_kpt true y)
  unfold rpR relN relL
  rw [e1, e2, lcpN_comm (rtd y) (rtd x)]
  have e3 : (((rtd y).length : Int) - ((lcpN (rtd x) (rtd y) : Nat) : Int)).toNat = (rtd y).length - lcpN (rtd x) (rtd y) := by lia
  rw [e3]
  simp only [List.isEmpty_iff]
theorem rp_way {x y : Str} (hx : Txt.startswith x nS = true) (hy : Txt.startswith y nS = true) : rpR x y = wayR x y := by rw [rpR_rel hx hy, wayR_rel hx hy]
theorem len_wayR (x y : Str) (hx : x.length ≤ 16384 := by assumption) (hy : y.length ≤ 16384 := by assumption) : (wayR x y).length ≤ 9 * y.length + 3 * x.length + 30 := by
  have h1 := len_lsR x (by lia)
  have h2 := len_lsR y (by lia)
  have h3 := split_weight (lsR x) nS (by decide)
  have h4 := split_weight (lsR y) nS (by decide)
  have h5 := sum_filter (fun n => n != nE) (Txt.split (lsR x) nS)
  have h6 := sum_filter (fun n => n != nE) (Txt.split (lsR y) nS)
  have h7 := sum_drop (namesOf (lsR x)) (lcpN (namesOf (lsR x)) (namesOf (lsR y)))
  change ((namesOf (lsR x)).map (·.length)).sum + (namesOf (lsR x)).length ≤ _ at h5
  change ((namesOf (lsR y)).map (·.length)).sum + (namesOf (lsR y)).length ≤ _ at h6
  have h8 := len_join1 (sep := nS) rfl (wayL x y)
  have h9 : ((wayL x y).map (·.length)).sum + (wayL x y).length ≤ 3 * (namesOf (lsR y)).length + (((namesOf (lsR x)).map (·.length)).sum + (namesOf (lsR x)).length) := by
    unfold wayL
    rw [wayGo_eq, List.map_append, List.sum_append, sum_dots, List.length_append, List.length_replicate, List.length_drop]
    dsimp only
    lia
  unfold wayR
  split
  · rw [show (Str.ofString ".").length = 1 from rfl]; lia
  · show (Txt.join nS (wayL x y)).length ≤ _
    lia
theorem wr_bare {n : Str} (h : n ≠ nE) (hb : bare n = true) : wr1 n = n := by
  unfold wr1 quR
  rw [if_pos (bne_iff_ne.mpr h), if_neg (by rw [len0]; exact fun e => h (cs_ext e)), if_pos hb]
theorem wr_quote {n : Str} (h : n ≠ nE) (hb : bare n = false) : cs (wr1 n) = 39 :: ((cs n).flatMap q1 ++ [39]) := by
  unfold wr1 quR
  rw [if_pos (bne_iff_ne.mpr h), if_neg (by rw [len0]; exact fun e => h (cs_ext e)), if_neg (by rw [hb]; exact Bool.false_ne_true), cs_app, cs_app, cs_replace]
  rfl
theorem wr_nE : wr1 nE = nE := rfl
theorem bare_no {n : Str} (hb : bare n = true) {k : Nat} (hk : safe k = false) : k ∉ cs n := by
  intro m
  have := List.all_eq_true.mp hb k m
  rw [hk] at this; cases this
theorem q1_inj : ∀ a b : List Nat, a.flatMap q1 = b.flatMap q1 → a = b
  | [], [], _ => rfl
  | [], c :: b, h => by
    rw [List.flatMap_nil, List.flatMap_cons] at h
    unfold q1 at h; split at h <;> cases h
  | c :: a, [], h => by
    rw [List.flatMap_nil, List.flatMap_cons] at h
    unfold q1 at h; split at h <;> cases h
  | c :: a, d :: b, h => by
    rw [List.flatMap_cons, List.flatMap_cons] at h
    by_cases hc : c = 39
    · by_cases hd : d = 39
      · subst hc hd
        rw [q1_inj a b (List.append_cancel_left h)]
      · rw [show q1 c = [39, 34, 39, 34, 39] from if_pos hc, show q1 d = [d] from if_neg hd] at h
        injection h with h1 _
        exact absurd h1.symm hd
    · by_cases hd : d = 39
      · rw [show q1 c = [c] from if_neg hc, show q1 d = [39, 34, 39, 34, 39] from if_pos hd] at h
        injection h with h1 _
        exact absurd h1 hc
      · rw [show q1 c = [c] from if_neg hc, show q1 d = [d] from if_neg hd] at h
        injection h with h1 h2
        rw [h1, q1_inj a b h2]
theorem wr_inj (a b : Str) (h : wr1 a = wr1 b) : a = b := by
  by_cases ha : a = nE
  · by_cases hb : b = nE
    · rw [ha, hb]
    · exfalso
      rw [ha, wr_nE] at h
      cases q : bare b with
      | true => rw [wr_bare hb q] at h; exact hb h.symm
      | false => have := congrArg cs h; rw [wr_quote hb q] at this; cases this
  · by_cases hb : b = nE
    · exfalso
      rw [hb, wr_nE] at h
      cases q : bare a with
      | true => rw [wr_bare ha q] at h; exact ha h
      | false => have := congrArg cs h; rw [wr_quote ha q] at this; cases this
    · cases qa : bare a with
      | true =>
        cases qb : bare b with
        | true => rwa [wr_bare ha qa, wr_bare hb qb] at h
        | false =>
          exfalso
          rw [wr_bare ha qa] at h
          have := congrArg cs h
          rw [wr_quote hb qb] at this
          exact bare_no qa (k := 39) (by decide) (by rw [this]; exact List.mem_cons_self ..)
      | false =>
        cases qb : bare b with
        | true =>
          exfalso
          rw [wr_bare hb qb] at h
          have := congrArg cs h
          rw [wr_quote ha qa] at this
          exact bare_no qb (k := 39) (by decide) (by rw [← this]; exact List.mem_cons_self ..)
        | false =>
          have := congrArg cs h
          rw [wr_quote ha qa, wr_quote hb qb] at this
          injection this with _ this
          exact cs_ext (q1_inj _ _ (List.append_cancel_right this))
theorem wrW : Wr wr1 where
  e n := ⟨fun h => wr_inj n nE (h.trans wr_nE.symm), fun h => by rw [h]; rfl⟩
  d n := ⟨fun h => wr_inj n n1 (h.trans (by decide)), fun h => by rw [h]; decide⟩
  dd n := ⟨fun h => wr_inj n n2 (h.trans (by decide)), fun h => by rw [h]; decide⟩
  inj := wr_inj
theorem wr_free {n : Str} (h : 47 ∉ cs n) : 47 ∉ cs (wr1 n) := by
  by_cases hn : n = nE
  · rw [hn, wr_nE]; decide
  · cases q : bare n with
    | true => rwa [wr_bare hn q]
    | false =>
      rw [wr_quote hn q]
      intro m
      simp only [List.mem_cons, List.mem_append, List.mem_flatMap, List.not_mem_nil, or_false] at m
      rcases m with m | ⟨k, hk, m⟩ | m
      · cases m
      · unfold q1 at m
        split at m
        · simp at m
        · rw [List.mem_singleton] at m; subst m; exact h hk
      · cases m
theorem wr_nm {ns : List Str} (h : Nm ns) : Nm (ns.map wr1) := by
  intro n hn
  obtain ⟨m, hm, rfl⟩ := List.mem_map.mp hn
  exact ⟨wr_free (h m hm).1, fun e => (h m hm).2 ((wrW.e m).mp e)⟩
theorem split_lw (x : Str) : Txt.split (lwR x) nS = (Txt.split x nS).map wr1 := by
  unfold lwR
  refine split_join (by simpa using sp_ne x) fun n hn => ?_
  obtain ⟨m, hm, rfl⟩ := List.mem_map.mp hn
  exact wr_free (sp_free x m hm)
theorem lw_slash {x y : Str} (h : cs x = 47 :: cs y) : cs (lwR x) = 47 :: cs (lwR y) := by
  show cs (Txt.join nS ((Txt.split x nS).map wr1)) = 47 :: cs (Txt.join nS ((Txt.split y nS).map wr1))
  rw [split_slash h, List.map_cons, wr_nE, cs_join, cs_join]
  cases q : Txt.split y nS with
  | nil => exact absurd q (sp_ne y)
  | cons a r => rfl
theorem lw_jn {ns : List Str} (h : Nm ns) : lwR (Txt.join nS ns) = Txt.join nS (ns.map wr1) := by
  unfold lwR
  by_cases e : ns = []
  · subst e
    have : Txt.split (Txt.join nS []) nS = [nE] := map_cs_inj (by rw [cs_split]; rfl)
    rw [this]; rfl
  · rw [split_join e fun n hn => (h n hn).1]
theorem lw_root (k : Nat) {ns : List Str} (h : Nm ns) : lwR (rootN k ++ Txt.join nS ns) = rootN k ++ Txt.join nS (ns.map wr1) := by
  apply cs_ext
  rw [cs_app, ← lw_jn h]
  by_cases hk : 0 < k
  · have hc := cs_app (rootN k) (Txt.join nS ns)
    rcases rootN_cs hk with e | e <;> rw [e] at hc ⊢
    · rw [lw_slash (y := Txt.join nS ns) hc]; rfl
    · rw [lw_slash (y := nS ++ Txt.join nS ns) (by rw [hc, cs_app]; rfl), lw_slash (y := Txt.join nS ns) (by rw [cs_app]; rfl)]; rfl
  · have : k = 0 := by lia
    subst this
    have : rootN 0 ++ Txt.join nS ns = Txt.join nS ns := cs_ext (by rw [cs_app]; rfl)
    rw [this]; rfl
theorem lw_dot : lwR n1 = n1 := by
  have : Txt.split n1 nS = [n1] := map_cs_inj (by rw [cs_split]; rfl)
  show Txt.join nS ((Txt.split n1 nS).map wr1) = n1
  rw [this, List.map_cons, (wrW.d n1).mpr rfl]; rfl
theorem lw_nf (k : Nat) (x : Str) : lwR (nf k (Txt.split x nS)) = nf k ((Txt.split x nS).map wr1) := by
  have hN := nm_kpt (decide (0 < k)) x
  have e0 : ((nfP k (Txt.split x nS)).length : Int) = 0 ↔ ((nfP k ((Txt.split x nS).map wr1)).length : Int) = 0 := by
    rw [len0, len0]
    unfold nfP
    rw [wrW.kpt, cs_app, cs_app, List.append_eq_nil_iff, List.append_eq_nil_iff, jn_nil _ hN, jn_nil _ (wr_nm hN), List.map_eq_nil_iff]
  unfold nf
  by_cases h : ((nfP k (Txt.split x nS)).length : Int) = 0
  · rw [if_pos h, if_pos (e0.mp h)]; exact lw_dot
  · rw [if_neg h, if_neg (fun q => h (e0.mpr q))]
    unfold nfP
    rw [wrW.kpt]; exact lw_root k hN
theorem ls_lw (x : Str) : lsR (lwR x) = lwR (lsR x) := by
  rw [lsR_nf, lsR_nf, split_lw, wrW.led, lw_nf]
theorem lcpN_wr : ∀ a b : List Str, lcpN (a.map wr1) (b.map wr1) = lcpN a b
  | [], b => by cases b <;> rfl
  | _ :: _, [] => rfl
  | g :: gs, h :: hs => by
    have := lcpN_wr gs hs
    simp only [List.map_cons, lcpN, this, beq_iff_eq]
    by_cases e : g = h
    · rw [if_pos e, if_pos (by rw [e])]
    · rw [if_neg e, if_neg (fun q => e (wr_inj _ _ q))]
theorem rtd_lw (x : Str) : rtd (lwR x) = (rtd x).map wr1 := by
  unfold rtd; rw [split_lw, wrW.kpt]
theorem rel_lw (x y : Str) : relN (lwR x) (lwR y) = lwR (relN x y) := by
  have e : relL (lwR x) (lwR y) = (relL x y).map wr1 := by
    unfold relL
    rw [rtd_lw, rtd_lw, lcpN_wr, List.map_append, List.map_replicate, (wrW.dd n2).mpr rfl, List.length_map, List.map_drop]
  unfold relN
  rw [e]
  by_cases h : relL x y = []
  · rw [if_pos h, if_pos (by rw [h]; rfl)]; exact lw_dot.symm
  · rw [if_neg h, if_neg (by simpa using h)]; exact (lw_jn (nm_rel x y)).symm
theorem lw_pre (x : Str) : nS ++ lwR x = lwR (nS ++ x) := by
  apply cs_ext
  rw [lw_slash (x := nS ++ x) (y := x) (by rw [cs_app]; rfl), cs_app]; rfl
theorem starts_cs (x : Str) : Txt.startswith x nS = decide ((cs x).take 1 = [47]) := by
  unfold Txt.startswith
  rw [StrLaws.subAt_eq]
  show (decide (0 + 1 ≤ x.length) && (((cs x).drop 0).take 1 == [47])) = _
  rw [List.drop_zero, ← len_cs]
  cases cs x with
  | nil => simp
  | cons c r => simp; rfl
theorem starts_led (x : Str) : Txt.startswith x nS = decide (0 < ledN (Txt.split x nS)) := by
  rw [starts_cs, led_eq]
  cases cs x with
  | nil => rfl
  | cons c r =>
    by_cases h : c = 47
    · subst h; simp
    · simp [h]
theorem starts_lw (x : Str) : Txt.startswith (lwR x) nS = Txt.startswith x nS := by
  rw [starts_led, starts_led, split_lw, wrW.led]
theorem starts_pre (x : Str) : Txt.startswith (nS ++ x) nS = true := by
  rw [starts_cs, cs_app]; simp
  rfl
noncomputable def rowOf (x : Str) : List Str := (Txt.split x nS).filter (fun n => n != nE && n != n1)
theorem nm_row (x : Str) : Nm (rowOf x) := by
  intro n hn
  obtain ⟨h1, h2⟩ := List.mem_filter.mp hn
  simp only [Bool.and_eq_true, bne_iff_ne] at h2
  exact ⟨sp_free x n h1, h2.1⟩
theorem row_lw (x : Str) : rowOf (lwR x) = (rowOf x).map wr1 := by
  unfold rowOf
  rw [split_lw, List.filter_map]
  congr 1
  congr 1
  funext n
  have h1 : (wr1 n != nE) = (n != nE) := by
    by_cases h : n = nE
    · rw [h]; rfl
    · rw [bne_iff_ne.mpr h, bne_iff_ne]; exact fun e => h ((wrW.e n).mp e)
  have h2 : (wr1 n != n1) = (n != n1) := by
    by_cases h : n = n1
    · rw [h]; decide
    · rw [bne_iff_ne.mpr h, bne_iff_ne]; exact fun e => h ((wrW.d n).mp e)
  show (wr1 n != nE && wr1 n != n1) = _
  rw [h1, h2]
theorem lcp3_wr : ∀ a b c : List Str, lcp3 (a.map wr1) (b.map wr1) (c.map wr1) = lcp3 a b c
  | a :: r, b :: q, c :: p => by
    simp only [List.map_cons, lcp3, lcp3_wr r q p]
    have h1 : (wr1 a = wr1 b) ↔ a = b := ⟨wr_inj a b, fun h => by rw [h]⟩
    have h2 : (wr1 b = wr1 c) ↔ b = c := ⟨wr_inj b c, fun h => by rw [h]⟩
    simp only [h1, h2]
  | [], b, c => by cases b <;> cases c <;> rfl
  | _ :: _, [], c => by cases c <;> rfl
  | _ :: _, _ :: _, [] => rfl
noncomputable def shP (x y z : Str) : Str := (if Txt.startswith x nS = true then nS else nE) ++ Txt.join nS ((rowOf x).take (lcp3 (rowOf x) (rowOf y) (rowOf z)))
theorem sh_lw (x y z : Str) : shP (lwR x) (lwR y) (lwR z) = lwR (shP x y z) := by
  unfold shP
  rw [starts_lw, row_lw, row_lw, row_lw, lcp3_wr, ← List.map_take]
  have hN : Nm ((rowOf x).take (lcp3 (rowOf x) (rowOf y) (rowOf z))) := fun n hn => nm_row x n (List.mem_of_mem_take hn)
  have e : (if Txt.startswith x nS = true then nS else nE) = rootN (if Txt.startswith x nS = true then 1 else 0) := by split <;> rfl
  rw [e, lw_root _ hN]
theorem sum_row (x : Str) : ((rowOf x).map (·.length)).sum + (rowOf x).length ≤ x.length + 1 := by
  have h := split_weight x nS (by decide)
  have : ∀ (q : Str → Bool) (zs : List Str), ((zs.filter q).map (·.length)).sum + (zs.filter q).length ≤ (zs.map (·.length)).sum + zs.length := by
    intro q zs
    induction zs with
    | nil => exact Nat.le_refl _
    | cons a r ih =>
      rw [List.filter_cons]
      split <;> simp only [List.map_cons, List.sum_cons, List.length_cons] <;> lia
  have := this (fun n => n != nE && n != n1) (Txt.split x nS)
  unfold rowOf
  lia
theorem len_shJ (x : Str) (k : Nat) : (Txt.join nS ((rowOf x).take k)).length ≤ x.length + 1 ∧ (((rowOf x).take k).map (·.length)).sum + ((rowOf x).take k).length * nS.length ≤ x.length + 1 := by
  have h1 := sum_row x
  have h2 := congrArg (fun l : List Str => (l.map (·.length)).sum + l.length) (List.take_append_drop k (rowOf x))
  simp only [List.map_append, List.sum_append, List.length_append] at h2
  have h3 := len_join1 (sep := nS) rfl ((rowOf x).take k)
  rw [show nS.length = 1 from rfl]
  lia
theorem len_shP (x y z : Str) : (shP x y z).length ≤ x.length + 2 := by
  have := (len_shJ x (lcp3 (rowOf x) (rowOf y) (rowOf z))).1
  unfold shP
  rw [Str.length_append]
  split
  · rw [show nS.length = 1 from rfl]; lia
  · rw [show nE.length = 0 from rfl]; lia
noncomputable def wsp (c : Nat) : Bool := c == 32 || c == 9 || c == 13 || c == 10
noncomputable def tk : Nat → List Nat → List Nat → Option (Option (List Nat) × List Nat)
  | st, tok, [] => if st = 32 then some (none, []) else if st = 97 then some (some tok, []) else none
  | st, tok, c :: r =>
    if st = 32 then (if wsp c = true then tk 32 tok r else if c = 92 then none else if c = 39 ∨ c = 34 then tk c tok r else tk 97 [c] r)
    else if st = 97 then (if wsp c = true then some (some tok, r) else if c = 39 ∨ c = 34 then tk c tok r else if c = 92 then none else tk 97 (tok ++ [c]) r)
    else (if c = st then tk 97 tok r else if c = 92 ∧ st = 34 then none else tk st (tok ++ [c]) r)
inductive Toks : List Nat → List (List Nat) → Prop
  | nil {l r} : tk 32 [] l = some (none, r) → Toks l []
  | cons {l t r ts} : tk 32 [] l = some (some t, r) → Toks r ts → Toks l (t :: ts)
theorem tk_word {c : Nat} (h : wsp c = false) (h1 : c ≠ 92) (h2 : c ≠ 39) (h3 : c ≠ 34) (tok R : List Nat) : tk 97 tok (c :: R) = tk 97 (tok ++ [c]) R := by
  rw [tk, if_neg (by decide), if_pos rfl, if_neg (by rw [h]; exact Bool.false_ne_true), if_neg (by simp [h2, h3]), if_neg h1]
theorem tk_word0 {c : Nat} (h : wsp c = false) (h1 : c ≠ 92) (h2 : c ≠ 39) (h3 : c ≠ 34) (tok R : List Nat) : tk 32 tok (c :: R) = tk 97 [c] R := by
  rw [tk, if_pos rfl, if_neg (by rw [h]; exact Bool.false_ne_true), if_neg h1, if_neg (by simp [h2, h3])]
theorem tk_q97 (tok R : List Nat) : tk 97 tok (39 :: R) = tk 39 tok R := rfl
theorem tk_q32 (tok R : List Nat) : tk 32 tok (39 :: R) = tk 39 tok R := rfl
theorem tk_39 : ∀ (l tok R : List Nat), tk 39 tok (l.flatMap q1 ++ 39 :: R) = tk 97 (tok ++ l) R
  | [], tok, R => by
    rw [List.append_nil]; rfl
  | c :: l, tok, R => by
    have ih := tk_39 l (tok ++ [c]) R
    rw [List.append_assoc, List.singleton_append] at ih
    rw [← ih, List.flatMap_cons]
    by_cases hc : c = 39
    · subst hc; rfl
    · rw [show q1 c = [c] from if_neg hc]
      show tk 39 tok (c :: (l.flatMap q1 ++ 39 :: R)) = _
      rw [tk, if_neg (by decide), if_neg (by decide), if_neg hc, if_neg (by simp)]
theorem safe_word {c : Nat} (h : safe c = true) : wsp c = false ∧ c ≠ 92 ∧ c ≠ 39 ∧ c ≠ 34 := by
  have no : ∀ k, safe k = false → c ≠ k := fun k hk e => by rw [e, hk] at h; cases h
  refine ⟨?_, no 92 (by decide), no 39 (by decide), no 34 (by decide)⟩
  unfold wsp
  simp [no 32 (by decide), no 9 (by decide), no 13 (by decide), no 10 (by decide)]
theorem tk_safe : ∀ (l tok R : List Nat), (∀ c ∈ l, safe c = true) → tk 97 tok (l ++ R) = tk 97 (tok ++ l) R
  | [], tok, R, _ => by rw [List.append_nil]; rfl
  | c :: l, tok, R, h => by
    obtain ⟨a, b, d, e⟩ := safe_word (h c (.head _))
    show tk 97 tok (c :: (l ++ R)) = _
    rw [tk_word a b d e, tk_safe l _ R fun k hk => h k (.tail _ hk), List.append_assoc]; rfl
theorem bare_all {n : Str} (h : bare n = true) : ∀ c ∈ cs n, safe c = true := fun c hc => List.all_eq_true.mp h c hc
theorem tk_name (n : Str) (tok R : List Nat) : tk 97 tok (cs (wr1 n) ++ R) = tk 97 (tok ++ cs n) R := by
  by_cases hn : n = nE
  · subst hn; rw [wr_nE, show cs nE = [] from rfl, List.append_nil]; rfl
  · cases q : bare n with
    | true => rw [wr_bare hn q]; exact tk_safe _ _ _ (bare_all q)
    | false =>
      rw [wr_quote hn q]
      show tk 97 tok (39 :: ((cs n).flatMap q1 ++ [39] ++ R)) = _
      rw [tk_q97, List.append_assoc]; exact tk_39 _ _ _
theorem tk_name0 {n : Str} (hn : n ≠ nE) (R : List Nat) : tk 32 [] (cs (wr1 n) ++ R) = tk 97 (cs n) R := by
  cases q : bare n with
  | true =>
    rw [wr_bare hn q]
    have hb := bare_all q
    cases e : cs n with
    | nil => exact absurd (cs_ext e) hn
    | cons c r =>
      rw [e] at hb
      obtain ⟨a, b, d, f⟩ := safe_word (hb c (.head _))
      show tk 32 [] (c :: (r ++ R)) = _
      rw [tk_word0 a b d f, tk_safe r _ R fun k hk => hb k (.tail _ hk)]; rfl
  | false =>
    rw [wr_quote hn q]
    show tk 32 [] (39 :: ((cs n).flatMap q1 ++ [39] ++ R)) = _
    rw [tk_q32, List.append_assoc]; exact tk_39 _ _ _
theorem tk_names : ∀ (ns : List Str) (tok R : List Nat), tk 97 tok (jnl ((ns.map wr1).map cs) ++ R) = tk 97 (tok ++ jnl (ns.map cs)) R
  | [], tok, R => by show tk 97 tok R = tk 97 (tok ++ []) R; rw [List.append_nil]
  | [n], tok, R => tk_name n tok R
  | n :: m :: ns, tok, R => by
    show tk 97 tok ((cs (wr1 n) ++ 47 :: jnl (((m :: ns).map wr1).map cs)) ++ R) = tk 97 (tok ++ (cs n ++ 47 :: jnl ((m :: ns).map cs))) R
    rw [List.append_assoc, tk_name]
    show tk 97 _ (47 :: (jnl (((m :: ns).map wr1).map cs) ++ R)) = _
    rw [tk_word rfl (by decide) (by decide) (by decide), tk_names (m :: ns)]
    simp
theorem tk_path {x : Str} (hx : x ≠ nE) (R : List Nat) : tk 32 [] (cs (lwR x) ++ R) = tk 97 (cs x) R := by
  have hj := congrArg cs (join_sp x)
  rw [cs_join] at hj
  show tk 32 [] (cs (Txt.join nS ((Txt.split x nS).map wr1)) ++ R) = _
  rw [cs_join, ← hj]
  cases q : Txt.split x nS with
  | nil => exact absurd q (sp_ne x)
  | cons n ns =>
    rw [q] at hj
    cases ns with
    | nil =>
      have hn : n ≠ nE := fun e => hx (by subst e; exact cs_ext hj.symm)
      exact tk_name0 hn R
    | cons m ns =>
      show tk 32 [] ((cs (wr1 n) ++ 47 :: jnl (((m :: ns).map wr1).map cs)) ++ R) = tk 97 (cs n ++ 47 :: jnl ((m :: ns).map cs)) R
      rw [List.append_assoc]
      by_cases hn : n = nE
      · subst hn
        rw [wr_nE]
        show tk 32 [] (47 :: (jnl (((m :: ns).map wr1).map cs) ++ R)) = tk 97 (47 :: jnl ((m :: ns).map cs)) R
        rw [tk_word0 rfl (by decide) (by decide) (by decide), tk_names (m :: ns)]; rfl
      · rw [tk_name0 hn]
        show tk 97 _ (47 :: (jnl (((m :: ns).map wr1).map cs) ++ R)) = _
        rw [tk_word rfl (by decide) (by decide) (by decide), tk_names (m :: ns)]
        simp
noncomputable abbrev nB : Str := Str.ofString " "
theorem cs_joinB (a b : Str) (r : List Str) : cs (Txt.join nB (a :: b :: r)) = cs a ++ 32 :: cs (Txt.join nB (b :: r)) := by
  unfold Txt.join
  rw [StrLaws.glued_eq_join, StrLaws.glued_eq_join]
  show cs (a ++ nB ++ Str.join nB (b :: r)) = _
  rw [cs_app, cs_app, List.append_assoc]; rfl
theorem lw_nE : lwR nE = nE := by
  have : Txt.split nE nS = [nE] := map_cs_inj (by rw [cs_split]; rfl)
  show Txt.join nS ((Txt.split nE nS).map wr1) = nE
  rw [this]; rfl
theorem line_toks : ∀ ps : List Str, Toks (cs (Txt.join nB (ps.map lwR))) ((ps.filter fun p => p != nE).map cs)
  | [] => .nil rfl
  | [p] => by
    show Toks (cs (lwR p)) _
    by_cases hp : p = nE
    · subst hp; rw [lw_nE]; exact .nil rfl
    · have h := tk_path hp []
      rw [List.append_nil] at h
      rw [List.filter_cons, if_pos (bne_iff_ne.mpr hp)]
      exact .cons (h.trans rfl) (.nil rfl)
  | p :: q :: ps => by
    have ih := line_toks (q :: ps)
    show Toks (cs (Txt.join nB (lwR p :: lwR q :: ps.map lwR))) _
    rw [cs_joinB]
    by_cases hp : p = nE
    · subst hp
      rw [lw_nE, List.filter_cons, if_neg (by simp)]
      generalize ((q :: ps).filter fun p => p != nE).map cs = ts at ih ⊢
      cases ih with
      | nil h => exact .nil h
      | cons h g => exact .cons h g
    · rw [List.filter_cons, if_pos (bne_iff_ne.mpr hp)]
      exact .cons ((tk_path hp _).trans rfl) ih
noncomputable def lexEs (w : World) (t u : Nat → Tok) (si dq1 dq2 : Addr) (wc : Str) (st tok ln : Value) : List DictEntry :=
  [⟨PyData.keyHash w.params (Str.ofString "instream"), .str (Str.ofString "instream") (t 0), .ref si⟩,
   ⟨PyData.keyHash w.params (Str.ofString "infile"), .str (Str.ofString "infile") (t 1), .none⟩,
   ⟨PyData.keyHash w.params (Str.ofString "posix"), .str (Str.ofString "posix") (t 2), .bool true⟩,
   ⟨PyData.keyHash w.params (Str.ofString "eof"), .str (Str.ofString "eof") (t 3), .none⟩,
   ⟨PyData.keyHash w.params (Str.ofString "commenters"), .str (Str.ofString "commenters") (t 4), .str (Str.ofString "") (u 0)⟩,
   ⟨PyData.keyHash w.params (Str.ofString "wordchars"), .str (Str.ofString "wordchars") (t 5), .str wc (u 1)⟩,
   ⟨PyData.keyHash w.params (Str.ofString "whitespace"), .str (Str.ofString "whitespace") (t 6), .str (Str.ofString " \t\r\n") (u 2)⟩,
   ⟨PyData.keyHash w.params (Str.ofString "whitespace_split"), .str (Str.ofString "whitespace_split") (t 7), .bool true⟩,
   ⟨PyData.keyHash w.params (Str.ofString "quotes"), .str (Str.ofString "quotes") (t 8), .str (Str.ofString "'\"") (u 3)⟩,
   ⟨PyData.keyHash w.params (Str.ofString "escape"), .str (Str.ofString "escape") (t 9), .str (Str.ofString "\\") (u 4)⟩,
   ⟨PyData.keyHash w.params (Str.ofString "escapedquotes"), .str (Str.ofString "escapedquotes") (t 10), .str (Str.ofString "\"") (u 5)⟩,
   ⟨PyData.keyHash w.params (Str.ofString "state"), .str (Str.ofString "state") (t 11), st⟩,
   ⟨PyData.keyHash w.params (Str.ofString "pushback"), .str (Str.ofString "pushback") (t 12), .ref dq1⟩,
   ⟨PyData.keyHash w.params (Str.ofString "lineno"), .str (Str.ofString "lineno") (t 13), ln⟩,
   ⟨PyData.keyHash w.params (Str.ofString "debug"), .str (Str.ofString "debug") (t 14), .int 0 (u 6)⟩,
   ⟨PyData.keyHash w.params (Str.ofString "token"), .str (Str.ofString "token") (t 15), tok⟩,
   ⟨PyData.keyHash w.params (Str.ofString "filestack"), .str (Str.ofString "filestack") (t 16), .ref dq2⟩,
   ⟨PyData.keyHash w.params (Str.ofString "source"), .str (Str.ofString "source") (t 17), .none⟩,
   ⟨PyData.keyHash w.params (Str.ofString "_punctuation_chars"), .str (Str.ofString "_punctuation_chars") (t 18), .str (Str.ofString "") (u 7)⟩]
section
variable {prog : Program} {w : World} {A : Around} {E : Value → Shared → Prop} {s : Shared} {h₀ : Heap} {L lx dlx si dq1 dq2 : Addr} {m : Str → Option Value} {news news' : List (Addr × Obj)} {t u : Nat → Tok} {wc : Str} {st tok ln v : Value} {n : Nat} {Q : Unit → Shared → Prop}
  (F : Fr h₀ L s.heap m) (X₀ : (Mine.K w.params).In h₀) (N : News h₀ L s.heap news) (m1 : (lx, instObj 867 dlx) ∈ news) (m2 : (dlx, dictOf (lexEs w t u si dq1 dq2 wc st tok ln) n) ∈ news)
include F X₀ N m1 m2
theorem set_state (U : Upd dlx (dictOf (lexEs w t u si dq1 dq2 wc st tok ln) n) (dictOf (lexEs w t u si dq1 dq2 wc v tok ln) n) news news') (h : ∀ h' tk, Fr h₀ L h' m → News h₀ L h' news' → Q () { s with heap := h', toks := tk }) :
    wpAny (model prog w) A (setAttr (.ref lx) (Str.ofString "state") v) Q E s :=
  set_dict F X₀ N (InstAt.of_news N m1 m2) rfl (by kernel_rfl) (by kernel_rfl) (by kernel_rfl) (by kernel_rfl) (by kernel_rfl) (by kernel_rfl) U (Nat.le_of_ble_eq_true rfl) fun h' F' N' => h h' _ F' N'
theorem set_token (U : Upd dlx (dictOf (lexEs w t u si dq1 dq2 wc st tok ln) n) (dictOf (lexEs w t u si dq1 dq2 wc st v ln) n) news news') (h : ∀ h' tk, Fr h₀ L h' m → News h₀ L h' news' → Q () { s with heap := h', toks := tk }) :
    wpAny (model prog w) A (setAttr (.ref lx) (Str.ofString "token") v) Q E s :=
  set_dict F X₀ N (InstAt.of_news N m1 m2) rfl (by kernel_rfl) (by kernel_rfl) (by kernel_rfl) (by kernel_rfl) (by kernel_rfl) (by kernel_rfl) U (Nat.le_of_ble_eq_true rfl) fun h' F' N' => h h' _ F' N'
theorem set_lineno (U : Upd dlx (dictOf (lexEs w t u si dq1 dq2 wc st tok ln) n) (dictOf (lexEs w t u si dq1 dq2 wc st tok v) n) news news') (h : ∀ h' tk, Fr h₀ L h' m → News h₀ L h' news' → Q () { s with heap := h', toks := tk }) :
    wpAny (model prog w) A (setAttr (.ref lx) (Str.ofString "lineno") v) Q E s :=
  set_dict F X₀ N (InstAt.of_news N m1 m2) rfl (by kernel_rfl) (by kernel_rfl) (by kernel_rfl) (by kernel_rfl) (by kernel_rfl) (by kernel_rfl) U (Nat.le_of_ble_eq_true rfl) fun h' F' N' => h h' _ F' N'
end
noncomputable def inS (y x : Str) : Bool := !(Builtin.Str.occurrences x y 0 x.length 1).isEmpty
section
variable {prog : Program} {w : World} {A : Around} {E : Value → Shared → Prop} {s : Shared} {x y : Str} {t u : Tok}
theorem in_S {Q : Value → Shared → Prop} (h : Q (.bool (inS y x)) s) : wpAny (model prog w) A (compareOp .In (.str y u) (.str x t)) Q E s := PyProof.Rows.in_str h
theorem notIn_S {Q : Value → Shared → Prop} (h : Q (.bool (!inS y x)) s) : wpAny (model prog w) A (compareOp .NotIn (.str y u) (.str x t)) Q E s := notIn_str h
theorem truthy_S {Q : Bool → Shared → Prop} (e : x.length ≤ 1048576) (h : ∀ tk, Q (x != Str.ofString "") { s with toks := tk }) : wpAny (model prog w) A (truthy (.str x t)) Q E s := by
  refine SBL.truthy (by lia) ?_
  have : ((x.length : Int) != 0) = (x != Str.ofString "") := by
    by_cases q : (x.length : Int) = 0
    · rw [len_eq q]; simp [q]
    · rw [len_ne q]; simpa using q
  rw [this]; exact h _
end
theorem cutE {M : Model} {A : Around} {E : Value → Shared → Prop} {s : Shared} {t : Sem Flow} {Q : Flow → Shared → Prop} (P : Shared → Prop) (h1 : wpAny M A t (fun f s' => f = .next ∧ P s') E s) (h2 : ∀ s', P s' → Q .next s') : wpAny M A t Q E s :=
  wpAny_mono h1 (fun f s' ⟨e, hp⟩ => by subst e; exact h2 s' hp) fun _ _ x => x
inductive LexSt (res : Option (List Nat) × List Nat) : Value → Bool → Str → List Nat → Prop
  | eof : res = (none, []) → LexSt res .none false (Str.ofString "") []
  | s32 {t : Tok} {rem : List Nat} : tk 32 [] rem = some res → LexSt res (.str (Str.ofString " ") t) false (Str.ofString "") rem
  | s97 {t : Tok} {q : Bool} {tok : Str} {rem : List Nat} : tk 97 (cs tok) rem = some res → (tok ≠ Str.ofString "" ∨ q = true) → LexSt res (.str (Str.ofString "a") t) q tok rem
  | s39 {t : Tok} {q : Bool} {tok : Str} {rem : List Nat} : tk 39 (cs tok) rem = some res → LexSt res (.str (Str.ofString "'") t) q tok rem
  | s34 {t : Tok} {q : Bool} {tok : Str} {rem : List Nat} : tk 34 (cs tok) rem = some res → LexSt res (.str (Str.ofString "\"") t) q tok rem
structure LexK where
  (lx dlx si dsi dq1 dq2 : Addr)
  (t u : Nat → Tok)
  (a b c tx : Tok)
  (wc x : Str)
noncomputable abbrev lexN (w : World) (K : LexK) (S tok ln : Value) (k : Nat) (kt : Tok) (n1 n2 : Nat) : List (Addr × Obj) :=
  [(K.lx, instObj 867 K.dlx), (K.dlx, dictOf (lexEs w K.t K.u K.si K.dq1 K.dq2 K.wc S tok ln) n1), (K.si, instObj 732 K.dsi), (K.dsi, dictOf (sioEs w K.a K.b K.c (.str K.x K.tx) (.int (k : Nat) kt)) n2)]
inductive lexJ (w : World) (K : LexK) (res : Option (List Nat) × List Nat) (n : Nat) (m : Str → Option Value) (nw : List (Addr × Obj)) : Prop
  | mk (S : Value) (q : Bool) (tok : Str) (tt : Tok) (ln : Int) (lt kt : Tok) (n1 n2 k : Nat) (_ : n = K.x.length - k) (_ : k ≤ K.x.length) (_ : tok.length ≤ k) (_ : m (Str.ofString "self") = some (.ref K.lx)) (_ : m (Str.ofString "quoted") = some (.bool q)) (_ : nw = lexN w K S (.str tok tt) (.int ln lt) k kt n1 n2) (_ : LexSt res S q tok ((cs K.x).drop k)) : lexJ w K res n m nw
inductive lexA (w : World) (K : LexK) (res : Option (List Nat) × List Nat) (g : Heap) (L : Addr) (s s' : Shared) : Prop
  | mk (h' : Heap) (tk' : Nat) (m : Str → Option Value) (S : Value) (q : Bool) (tok : Str) (tt : Tok) (ln : Int) (lt kt : Tok) (n1 n2 k : Nat) (_ : s' = { s with heap := h', toks := tk' }) (_ : Fr g L h' m) (_ : k ≤ K.x.length) (_ : m (Str.ofString "self") = some (.ref K.lx)) (_ : m (Str.ofString "quoted") = some (.bool q)) (_ : News g L h' (lexN w K S (.str tok tt) (.int ln lt) k kt n1 n2)) (_ : (cs K.x).drop k = res.2) (_ : (S = .none ∧ res.2 = [] ∨ ∃ t, S = .str (Str.ofString " ") t)) (_ : (res.1 = none ∧ tok = Str.ofString "" ∧ q = false ∨ res.1 = some (cs tok) ∧ (tok ≠ Str.ofString "" ∨ q = true))) : lexA w K res g L s s'
inductive lexP (w : World) (K : LexK) (res : Option (List Nat) × List Nat) (v : Value) (nw : List (Addr × Obj)) : Prop
  | mk (S : Value) (tt : Tok) (ln : Int) (lt kt : Tok) (n1 n2 k : Nat) (_ : k ≤ K.x.length) (_ : nw = lexN w K S (.str (Str.ofString "") tt) (.int ln lt) k kt n1 n2) (_ : (cs K.x).drop k = res.2) (_ : (S = .none ∧ res.2 = [] ∨ ∃ t, S = .str (Str.ofString " ") t)) (_ : (res.1 = none ∧ v = .none ∨ ∃ y t, res.1 = some (cs y) ∧ v = .str y t)) : lexP w K res v nw
inductive lexB (w : World) (K : LexK) (g : Heap) (L : Addr) (s : Shared) (S : Value) (q : Bool) (tok : Str) (tt : Tok) (n1 k : Nat) (s' : Shared) : Prop
  | mk (h' : Heap) (tk' : Nat) (m : Str → Option Value) (ch : Str) (tc kt lt : Tok) (n2 : Nat) (ln : Int) (_ : s' = { s with heap := h', toks := tk' }) (_ : Fr g L h' m) (_ : m (Str.ofString "self") = some (.ref K.lx)) (_ : m (Str.ofString "quoted") = some (.bool q)) (_ : m (Str.ofString "nextchar") = some (.str ch tc)) (_ : News g L h' (lexN w K S (.str tok tt) (.int ln lt) (min (k + 1) K.x.length) kt n1 n2)) (_ : cs ch = ((cs K.x).drop k).take 1) : lexB w K g L s S q tok tt n1 k s'
theorem lexStep {w : World} {K : LexK} {res : Option (List Nat) × List Nat} {g h' : Heap} {L : Addr} {s : Shared} {Q : Flow → Shared → Prop} {n k n1 n2 tk' : Nat} {f : Flow} {m : Str → Option Value} {S : Value} {q : Bool} {tok : Str} {tt lt kt : Tok} {ln : Int}
    (hf : f = .next ∨ f = .cont) (F : Fr g L h' m) (N : News g L h' (lexN w K S (.str tok tt) (.int ln lt) k kt n1 n2)) (hlt : K.x.length - k < n) (hk : k ≤ K.x.length) (htl : tok.length ≤ k) (hm1 : m (Str.ofString "self") = some (.ref K.lx)) (hm2 : m (Str.ofString "quoted") = some (.bool q))
    (hst : LexSt res S q tok ((cs K.x).drop k)) : WhileStep2 g L s (lexJ w K res) Q n f { s with heap := h', toks := tk' } := by
  rcases hf with rfl | rfl <;> exact ⟨h', tk', m, _, _, rfl, F, N, hlt, S, q, tok, tt, ln, lt, kt, n1, n2, k, rfl, hk, htl, hm1, hm2, rfl, hst⟩
theorem inS_one {y x : Str} {c : Nat} (h : cs y = [c]) : inS y x = decide (c ∈ cs x) := by
  have e : y = ⟨#[c]⟩ := cs_ext h
  subst e
  exact StrLaws.found_one x c
theorem ne_one {y : Str} {c : Nat} (h : cs y = [c]) : (y != Str.ofString "") = true := by
  rw [bne_iff_ne]; intro e; rw [e] at h; cases h
theorem len_one {y : Str} {c : Nat} (h : cs y = [c]) : y.length = 1 := by rw [← len_cs, h]; rfl
theorem inS_ws {y : Str} {c : Nat} (h : cs y = [c]) : inS y (Str.ofString " \t\r\n") = wsp c := by
  rw [inS_one h]
  show decide (c ∈ [32, 9, 13, 10]) = _
  unfold wsp
  by_cases a : c = 32 <;> by_cases b : c = 9 <;> by_cases d : c = 13 <;> by_cases e : c = 10 <;> simp [a, b, d, e]
theorem inS_no {y : Str} {c : Nat} (h : cs y = [c]) : inS y (Str.ofString "") = false := by rw [inS_one h]; rfl
theorem inS_esc {y : Str} {c : Nat} (h : cs y = [c]) (hc : c ≠ 92) : inS y (Str.ofString "\\") = false := by
  rw [inS_one h]; exact decide_eq_false (by show ¬ c ∈ [92]; simpa using hc)
theorem inS_q {y : Str} {c : Nat} (h : cs y = [c]) (h1 : c ≠ 39) (h2 : c ≠ 34) : inS y (Str.ofString "'\"") = false := by
  rw [inS_one h]; exact decide_eq_false (by show ¬ c ∈ [39, 34]; simp [h1, h2])
theorem news_perm4 {h₀ h : Heap} {L : Addr} {a b c d : Addr × Obj} (N : News h₀ L h [a, b, c, d]) : News h₀ L h [c, d, a, b] := fun p hp => N p (by simp only [List.mem_cons, List.not_mem_nil, or_false] at hp ⊢; rcases hp with h | h | h | h <;> simp [h])
theorem lexBrk {w : World} {K : LexK} {res : Option (List Nat) × List Nat} {g h' : Heap} {L : Addr} {s s0 : Shared} {n k n1 n2 tk' : Nat} {m : Str → Option Value} {S : Value} {q : Bool} {tok : Str} {tt lt kt : Tok} {ln : Int} {J : Nat → (Str → Option Value) → List (Addr × Obj) → Prop}
    (F : Fr g L h' m) (N : News g L h' (lexN w K S (.str tok tt) (.int ln lt) k kt n1 n2)) (hk : k ≤ K.x.length) (hm1 : m (Str.ofString "self") = some (.ref K.lx)) (hm2 : m (Str.ofString "quoted") = some (.bool q))
    (hd : (cs K.x).drop k = res.2) (hS : S = .none ∧ res.2 = [] ∨ ∃ t, S = .str (Str.ofString " ") t) (hr : res.1 = none ∧ tok = Str.ofString "" ∧ q = false ∨ res.1 = some (cs tok) ∧ (tok ≠ Str.ofString "" ∨ q = true)) :
    WhileStep2 g L s0 J (fun f s' => f = .next ∧ lexA w K res g L s s') n .brk { s with heap := h', toks := tk' } :=
  ⟨rfl, h', tk', m, S, q, tok, tt, ln, lt, kt, n1, n2, k, rfl, F, hk, hm1, hm2, N, hd, hS, hr⟩
theorem drop1 {h₀ h : Heap} {L : Addr} {x : Addr × Obj} {r : List (Addr × Obj)} (N : News h₀ L h (x :: r)) : News h₀ L h r := fun p hp => N p (.tail _ hp)
theorem app_ne {a b : Str} {c : Nat} (h : cs b = [c]) : a ++ b ≠ Str.ofString "" := fun e => by
  have := congrArg cs e
  rw [cs_app, h] at this
  exact absurd this (by show ¬ (_ ++ [c] = []); simp)
theorem app_len {a b : Str} {c k : Nat} (h : cs b = [c]) (hk : a.length + 1 ≤ k) : (a ++ b).length ≤ k := by
  rw [← len_cs, cs_app, List.length_append, len_cs, h]; exact hk
section
set_option maxHeartbeats 4000000
theorem news_also {h₀ h : Heap} {L : Addr} {p : Addr × Obj} {news : List (Addr × Obj)} (N : News h₀ L h news) (hm : p ∈ news) : News h₀ L h (p :: news) := fun q hq => by
  rcases List.mem_cons.mp hq with rfl | hq
  · exact N _ hm
  · exact N _ hq
noncomputable def stB : Value → Bool
  | .str a _ => Txt.startswith a nS
  | _ => false
theorem c_commonpath (w : World) (la : Addr) (lo : Obj) (x y z : Str) (tx ty tz : Tok) (n : Nat) (hx : x.length ≤ 4096) (hy : y.length ≤ 4096) (hz : z.length ≤ 4096) (hlc : lo.cls = .type "list") (hld : lo.data = .seq #[.str x tx, .str y ty, .str z tz] n) :
    ClaimT w 2 179 [.ref la] (fun h => h.get? la = some lo) (fun _ v _ => (Txt.startswith x nS = Txt.startswith y nS ∧ Txt.startswith y nS = Txt.startswith z nS) ∧ ∃ t, v = .str (shP x y z) t)
      (¬ (Txt.startswith x nS = Txt.startswith y nS ∧ Txt.startswith y nS = Txt.startswith z nS)) := by
  unfold ClaimT; k_fill
  intro dp un gd cn cs a ccd cl outer A₀ base h₀ L m p loose mean mg mb s B F X T hk XB TB hpa hd hu env henv
  cases henv
  have hRz : Raising := ⟨⟩
  have hGr : Hid (∀ g, base.StaysIn g → (Mine.K w.params).In g ∧ TopRead p loose mg mb g) := Hid.mk fun g k => ⟨XB.keeps k, (topRead_of TB).keeps k⟩
  clear XB TB
  k_dflt (refine' enterCE [("paths", .ref la)] B F X T ?kA ?kF ?kK ?k6 ?k7 ?k8 ?k9 ?kB ?kD ?_ ?c2; ((case kA => exact rfl); (case kF => exact rfl); (case kK => assumption); (case k6 => k_is); (case k7 => k_is); (case k8 => ktr_room); (case k9 => exact BindsTo.of_eq rfl); (case kB => exact rfl); (case kD => decide +kernel); (case c2 => exact rfl); k_whole))
  clear T X B F
  intro L' h' tk' cells' F' N' Y' B' X' T' Qf Ef0 hQ hE0
  refine foldAE ?_; intro ee AA
  obtain ⟨oc1, oc2, hE, dc1, dc2⟩ := CellsAre.two Y'
  subst hE
  replace dc1 : oc1.data = .cell none := dc1
  replace dc2 : oc2.data = .cell none := dc2
  replace F' : Fr s.heap L' h' (fun y => if y = Str.ofString "paths" then some (.ref la) else none) := F'
  clear Y'
  (try dsimp only)
  (repeat' (first | ((with_reducible show wpAny _ _ (call (Value.ref 117) _) _ _ _); (k_here; k_dflt (refine' useS (c_fspath _ _ _) ?k1 ?k2 ?k3 ?k4 ?k5 ?k6 ?k7 ?k8 ?_; ((case k1 => k_asm); (case k2 => k_asm); (case k3 => k_asm); (case k4 => k_asm); (case k5 => k_asm); (case k6 => first | exact rfl | assumption); (case k7 => ktr_room); (case k8 => ktr_units)); k_whole; intro t' h' tk' F' N'; (try k_sweep); (try dsimp only)))) | ((with_reducible show wpAny _ _ (exec (Stmt.Try _ _ _ _ _) _) _ _ _); k_here; (have : Raising := by with_reducible assumption); refine stop9 ?_) | ((with_reducible show wpAny _ _ (exec (Stmt.Try _ _ _ _ _) _) _ _ _); k_here; (fail_if_success (have : Raising := by with_reducible assumption)); refine wpAny_Try_except (wpAny_noRaise ?_)) | ((with_reducible show wpAny _ _ (call (Value.builtin "min") _) _ _ _); refine stop9 ?_) | ((with_reducible show wpAny _ _ (call (Value.builtin "max") _) _ _ _); refine stop9 ?_) | (k_unfold; try dsimp only) | (k_end; wrow_close) | walk1 | (dsimp only; walk1) | (leave1; try dsimp only)))
  have hgl := F'.keep _ _ hpa
  have hnn : ∀ p ∈ [(L' + 1 + 1, oc1), (L' + 1, oc2)], p.1 < h'.objs.size := fun p hp => Heap.lt_size (N' p hp).1
  k_dflt (refine call_map hgl hlc hld ?_)
  intro h1 gM gT gI hs1 G1
  have F1 := F'.grownK G1
  have N1 := News.grown N' G1
  have hlt := Heap.lt_size hgl
  have hLt := F'.ns.lt
  have hab := F'.above
  k_sweep
  (repeat' (first | ((with_reducible show wpAny _ _ (call (Value.ref 117) _) _ _ _); (k_here; k_dflt (refine' useS (c_fspath _ _ _) ?k1 ?k2 ?k3 ?k4 ?k5 ?k6 ?k7 ?k8 ?_; ((case k1 => k_asm); (case k2 => k_asm); (case k3 => k_asm); (case k4 => k_asm); (case k5 => k_asm); (case k6 => first | exact rfl | assumption); (case k7 => ktr_room); (case k8 => ktr_units)); k_whole; intro t' h' tk' F' N'; (try k_sweep); (try dsimp only)))) | ((with_reducible show wpAny _ _ (exec (Stmt.Try _ _ _ _ _) _) _ _ _); k_here; (have : Raising := by with_reducible assumption); refine stop9 ?_) | ((with_reducible show wpAny _ _ (exec (Stmt.Try _ _ _ _ _) _) _ _ _); k_here; (fail_if_success (have : Raising := by with_reducible assumption)); refine wpAny_Try_except (wpAny_noRaise ?_)) | ((with_reducible show wpAny _ _ (call (Value.builtin "min") _) _ _ _); refine stop9 ?_) | ((with_reducible show wpAny _ _ (call (Value.builtin "max") _) _ _ _); refine stop9 ?_) | (k_unfold; try dsimp only) | (k_end; wrow_close) | walk1 | (dsimp only; walk1) | (leave1; try dsimp only)))
  refine itk_tuple (itk_map (lo := lo) (f := .ref 117) (R := fun x v => ∀ y t, x = .str y t → ∃ t', v = .str y t') rfl hs1 rfl rfl hlt hLt (Nat.le_trans hab (Nat.le_of_lt hLt)) hnn hlc hld ?hcall) (fun _ _ _ j q => map_pyIter j.1 q) (Nat.le_of_eq hs1.symm) ⟨gM, gT, gI, G1 _ _ hgl, F1, N1⟩ (by rw [sizeLine_eq]; exact Nat.le_of_ble_eq_true rfl) (by decide) ?fin
  case hcall =>
    intro x' hx' s2 F2 N2
    obtain ⟨y', t', rfl⟩ : ∃ y t, x' = .str y t := by
      simp only [List.mem_toArray, List.mem_cons, List.not_mem_nil, or_false] at hx'
      rcases hx' with rfl | rfl | rfl <;> exact ⟨_, _, rfl⟩
    refine use (c_fspath w y' t') B' F2 X' N2 T' rfl trivial ?_ ?_ fun v h' tk' _ _ g hv => ⟨fun y t e => by cases e; exact hv, h', tk', rfl, g⟩
    · ktr_room
    · exact (show un + 7 + 8 * 1 < cLine by ktr_units)
  case fin =>
    intro h2 tk2 acc ⟨F2, N2⟩ hacc
    obtain ⟨t1, t2, t3, rfl⟩ := three_strs hacc
    have F3 := Fr.pushS F2 { cls := .type "tuple", data := .seq #[.str x t1, .str y t2, .str z t3] }
    have N3 := News.push F2 N2 { cls := .type "tuple", data := .seq #[.str x t1, .str y t2, .str z t3] }
    have hl3 : ∀ p ∈ [(L' + 1 + 1, oc1), (L' + 1, oc2)], p.1 < h2.objs.size := fun p hp => Heap.lt_size (N2 p hp).1
    generalize h2.push { cls := .type "tuple", data := .seq #[.str x t1, .str y t2, .str z t3] } = h3 at F3 N3 ⊢
    generalize h2.objs.size = TP at N3 hl3 ⊢
    clear gM gT gI hs1 G1 F1 N1 hlt hLt hab F2 N2 hacc hnn
    k_lt hl3
    (repeat' (first | ((with_reducible show wpAny _ _ (call (Value.ref 117) _) _ _ _); (k_here; k_dflt (refine' useS (c_fspath _ _ _) ?k1 ?k2 ?k3 ?k4 ?k5 ?k6 ?k7 ?k8 ?_; ((case k1 => k_asm); (case k2 => k_asm); (case k3 => k_asm); (case k4 => k_asm); (case k5 => k_asm); (case k6 => first | exact rfl | assumption); (case k7 => ktr_room); (case k8 => ktr_units)); k_whole; intro t' h' tk' F' N'; (try k_sweep); (try dsimp only)))) | ((with_reducible show wpAny _ _ (exec (Stmt.Try _ _ _ _ _) _) _ _ _); k_here; (have : Raising := by with_reducible assumption); refine stop9 ?_) | ((with_reducible show wpAny _ _ (exec (Stmt.Try _ _ _ _ _) _) _ _ _); k_here; (fail_if_success (have : Raising := by with_reducible assumption)); refine wpAny_Try_except (wpAny_noRaise ?_)) | ((with_reducible show wpAny _ _ (call (Value.builtin "min") _) _ _ _); refine stop9 ?_) | ((with_reducible show wpAny _ _ (call (Value.builtin "max") _) _ _ _); refine stop9 ?_) | (k_unfold; try dsimp only) | (k_end; wrow_close) | walk1 | (dsimp only; walk1) | (leave1; try dsimp only)))
    unfold Stop9
    have hmem := fun (i : Nat) (v : Value) (hv : (#[Value.str x t1, .str y t2, .str z t3] : Array Value)[i]? = some v) => mem3 hx hy hz hv
    refine try_hide fun Ef1 hE1 hP1 => ?_
    (try dsimp only)
    (repeat' (first | ((with_reducible show wpAny _ _ (call (Value.ref 117) _) _ _ _); (k_here; k_dflt (refine' useS (c_fspath _ _ _) ?k1 ?k2 ?k3 ?k4 ?k5 ?k6 ?k7 ?k8 ?_; ((case k1 => k_asm); (case k2 => k_asm); (case k3 => k_asm); (case k4 => k_asm); (case k5 => k_asm); (case k6 => first | exact rfl | assumption); (case k7 => ktr_room); (case k8 => ktr_units)); k_whole; intro t' h' tk' F' N'; (try k_sweep); (try dsimp only)))) | ((with_reducible show wpAny _ _ (exec (Stmt.Try _ _ _ _ _) _) _ _ _); k_here; (have : Raising := by with_reducible assumption); refine stop9 ?_) | ((with_reducible show wpAny _ _ (exec (Stmt.Try _ _ _ _ _) _) _ _ _); k_here; (fail_if_success (have : Raising := by with_reducible assumption)); refine wpAny_Try_except (wpAny_noRaise ?_)) | ((with_reducible show wpAny _ _ (call (Value.builtin "min") _) _ _ _); refine stop9 ?_) | ((with_reducible show wpAny _ _ (call (Value.builtin "max") _) _ _ _); refine stop9 ?_) | (k_unfold; try dsimp only) | (k_end; wrow_close) | walk1 | (dsimp only; walk1) | (leave1; try dsimp only)))
    unfold Stop9
    k_dflt (refine' lgO_assign s.heap L' (fun _ => true) GS ?hsw ?hL ?hclos ?hsc ?hx ?hy ?hp ?_ ?hs; ((case hsw => with_unfolding_all rfl); (case hL => with_unfolding_all rfl); ((case hclos => with_unfolding_all rfl); (case hsc => with_unfolding_all rfl); (case hx => with_unfolding_all rfl)); (case hy => with_unfolding_all rfl); (case hp => with_unfolding_all rfl); (case hs => intro _; with_unfolding_all rfl); k_whole))
    (repeat' (first | ((with_reducible show wpAny _ _ (call (Value.ref 117) _) _ _ _); (k_here; k_dflt (refine' useS (c_fspath _ _ _) ?k1 ?k2 ?k3 ?k4 ?k5 ?k6 ?k7 ?k8 ?_; ((case k1 => k_asm); (case k2 => k_asm); (case k3 => k_asm); (case k4 => k_asm); (case k5 => k_asm); (case k6 => first | exact rfl | assumption); (case k7 => ktr_room); (case k8 => ktr_units)); k_whole; intro t' h' tk' F' N'; (try k_sweep); (try dsimp only)))) | ((with_reducible show wpAny _ _ (exec (Stmt.Try _ _ _ _ _) _) _ _ _); k_here; (have : Raising := by with_reducible assumption); refine stop9 ?_) | ((with_reducible show wpAny _ _ (exec (Stmt.Try _ _ _ _ _) _) _ _ _); k_here; (fail_if_success (have : Raising := by with_reducible assumption)); refine wpAny_Try_except (wpAny_noRaise ?_)) | ((with_reducible show wpAny _ _ (call (Value.builtin "min") _) _ _ _); refine stop9 ?_) | ((with_reducible show wpAny _ _ (call (Value.builtin "max") _) _ _ _); refine stop9 ?_) | (k_unfold; try dsimp only) | (k_end; wrow_close) | walk1 | (dsimp only; walk1) | (leave1; try dsimp only)))
    all_goals (try dsimp only)
    k_dflt (refine' lgO ?src ?size ?fr ?nws ?t ?e ?fin; (case src => (refine' src_tuple ?srch ?srcg ?srcc ?srcd; (case srch => with_unfolding_all rfl); (case srcg => walk_at "mo"); (case srcc => walk_at "mc"); (case srcd => walk_at "mc"))); (case size => (rw [sizeLine_eq]; exact Nat.le_of_ble_eq_true rfl)); (case fr => k_asm); (case nws => k_asm))
    case t => intros; exact lc_noTests
    case e =>
      intro C i v s₂ m₂ E' hv _ F N M hm g
      obtain ⟨a, t, rfl, ha⟩ := hmem i v hv
      (repeat' (first | ((with_reducible show wpAny _ _ (call (Value.ref 117) _) _ _ _); (k_here; k_dflt (refine' useS (c_fspath _ _ _) ?k1 ?k2 ?k3 ?k4 ?k5 ?k6 ?k7 ?k8 ?_; ((case k1 => k_asm); (case k2 => k_asm); (case k3 => k_asm); (case k4 => k_asm); (case k5 => k_asm); (case k6 => first | exact rfl | assumption); (case k7 => ktr_room); (case k8 => ktr_units)); k_whole; intro t' h' tk' F' N'; (try k_sweep); (try dsimp only)))) | ((with_reducible show wpAny _ _ (exec (Stmt.Try _ _ _ _ _) _) _ _ _); k_here; (have : Raising := by with_reducible assumption); refine stop9 ?_) | ((with_reducible show wpAny _ _ (exec (Stmt.Try _ _ _ _ _) _) _ _ _); k_here; (fail_if_success (have : Raising := by with_reducible assumption)); refine wpAny_Try_except (wpAny_noRaise ?_)) | ((with_reducible show wpAny _ _ (call (Value.builtin "min") _) _ _ _); refine stop9 ?_) | ((with_reducible show wpAny _ _ (call (Value.builtin "max") _) _ _ _); refine stop9 ?_) | (k_unfold; try dsimp only) | (k_end; wrow_close) | walk1 | (dsimp only; walk1) | (leave1; try dsimp only)))
      exact opost (by assumption) (News.get (by k_asm) (.head _)) rfl rfl (fun a' t' e => by cases e; assumption) (by assumption)
    case fin =>
      (with_reducible rename Fr _ _ _ _ => F0)
      intro D1 k1 ys1 h' tk vs hl hvs F N hne P hpw hneD
      refine foldP ?_; intro Gz
      rw [filter_true, three_of rfl hl hvs] at P
      obtain ⟨_, _, _, rfl, ⟨T1, i1, rfl, n1', l1, r1⟩, ⟨T2, i2, rfl, n2', l2, r2⟩, ⟨T3, i3, rfl, n3', l3, r3⟩⟩ := paired3 P
      have r1 := r1 _ _ rfl
      have r2 := r2 _ _ rfl
      have r3 := r3 _ _ rfl
      have hz1 : (Txt.split x nS).length ≤ 4097 := by have h1 := split_weight x nS (by decide); lia
      have hz2 : (Txt.split y nS).length ≤ 4097 := by have h1 := split_weight y nS (by decide); lia
      have hz3 : (Txt.split z nS).length ≤ 4097 := by have h1 := split_weight z nS (by decide); lia
      have hzb1 : ∀ b ∈ Txt.split x nS, b.length ≤ 8192 := fun b hb => by have h1 := split_weight x nS (by decide); have h2 := mem_weight hb; lia
      have hzb2 : ∀ b ∈ Txt.split y nS, b.length ≤ 8192 := fun b hb => by have h1 := split_weight y nS (by decide); have h2 := mem_weight hb; lia
      have hzb3 : ∀ b ∈ Txt.split z nS, b.length ≤ 8192 := fun b hb => by have h1 := split_weight z nS (by decide); have h2 := mem_weight hb; lia
      obtain ⟨o1, q1, c1, d1, N⟩ := news_lst F N F0.keep n1' l1
      obtain ⟨o2, q2, c2, d2, N⟩ := news_lst F N F0.keep n2' l2
      obtain ⟨o3, q3, c3, d3, N⟩ := news_lst F N F0.keep n3' l3
      clear P hpw hneD hne hvs hl n1' n2' n3' l1 l2 l3 F0
      (repeat' (first | ((with_reducible show wpAny _ _ (call (Value.ref 117) _) _ _ _); (k_here; k_dflt (refine' useS (c_fspath _ _ _) ?k1 ?k2 ?k3 ?k4 ?k5 ?k6 ?k7 ?k8 ?_; ((case k1 => k_asm); (case k2 => k_asm); (case k3 => k_asm); (case k4 => k_asm); (case k5 => k_asm); (case k6 => first | exact rfl | assumption); (case k7 => ktr_room); (case k8 => ktr_units)); k_whole; intro t' h' tk' F' N'; (try k_sweep); (try dsimp only)))) | ((with_reducible show wpAny _ _ (exec (Stmt.Try _ _ _ _ _) _) _ _ _); k_here; (have : Raising := by with_reducible assumption); refine stop9 ?_) | ((with_reducible show wpAny _ _ (exec (Stmt.Try _ _ _ _ _) _) _ _ _); k_here; (fail_if_success (have : Raising := by with_reducible assumption)); refine wpAny_Try_except (wpAny_noRaise ?_)) | ((with_reducible show wpAny _ _ (call (Value.builtin "min") _) _ _ _); refine stop9 ?_) | ((with_reducible show wpAny _ _ (call (Value.builtin "max") _) _ _ _); refine stop9 ?_) | (k_unfold; try dsimp only) | (k_end; wrow_close) | walk1 | (dsimp only; walk1) | (leave1; try dsimp only)))
      unfold Stop9
      refine try_hide fun Ef2 hE2 _ => ?_
      (try dsimp only)
      (repeat' (first | ((with_reducible show wpAny _ _ (call (Value.ref 117) _) _ _ _); (k_here; k_dflt (refine' useS (c_fspath _ _ _) ?k1 ?k2 ?k3 ?k4 ?k5 ?k6 ?k7 ?k8 ?_; ((case k1 => k_asm); (case k2 => k_asm); (case k3 => k_asm); (case k4 => k_asm); (case k5 => k_asm); (case k6 => first | exact rfl | assumption); (case k7 => ktr_room); (case k8 => ktr_units)); k_whole; intro t' h' tk' F' N'; (try k_sweep); (try dsimp only)))) | ((with_reducible show wpAny _ _ (exec (Stmt.Try _ _ _ _ _) _) _ _ _); k_here; (have : Raising := by with_reducible assumption); refine stop9 ?_) | ((with_reducible show wpAny _ _ (exec (Stmt.Try _ _ _ _ _) _) _ _ _); k_here; (fail_if_success (have : Raising := by with_reducible assumption)); refine wpAny_Try_except (wpAny_noRaise ?_)) | ((with_reducible show wpAny _ _ (call (Value.builtin "min") _) _ _ _); refine stop9 ?_) | ((with_reducible show wpAny _ _ (call (Value.builtin "max") _) _ _ _); refine stop9 ?_) | (k_unfold; try dsimp only) | (k_end; wrow_close) | walk1 | (dsimp only; walk1) | (leave1; try dsimp only)))
      k_dflt (refine' set_comp s.heap L' stB ?hclos ?hsc ?hx ?_ ?hs; (((case hclos => with_unfolding_all rfl); (case hsc => with_unfolding_all rfl); (case hx => with_unfolding_all rfl)); (case hs => intro _; with_unfolding_all rfl); k_whole))
      (repeat' (first | ((with_reducible show wpAny _ _ (call (Value.ref 117) _) _ _ _); (k_here; k_dflt (refine' useS (c_fspath _ _ _) ?k1 ?k2 ?k3 ?k4 ?k5 ?k6 ?k7 ?k8 ?_; ((case k1 => k_asm); (case k2 => k_asm); (case k3 => k_asm); (case k4 => k_asm); (case k5 => k_asm); (case k6 => first | exact rfl | assumption); (case k7 => ktr_room); (case k8 => ktr_units)); k_whole; intro t' h' tk' F' N'; (try k_sweep); (try dsimp only)))) | ((with_reducible show wpAny _ _ (exec (Stmt.Try _ _ _ _ _) _) _ _ _); k_here; (have : Raising := by with_reducible assumption); refine stop9 ?_) | ((with_reducible show wpAny _ _ (exec (Stmt.Try _ _ _ _ _) _) _ _ _); k_here; (fail_if_success (have : Raising := by with_reducible assumption)); refine wpAny_Try_except (wpAny_noRaise ?_)) | ((with_reducible show wpAny _ _ (call (Value.builtin "min") _) _ _ _); refine stop9 ?_) | ((with_reducible show wpAny _ _ (call (Value.builtin "max") _) _ _ _); refine stop9 ?_) | (k_unfold; try dsimp only) | (k_end; wrow_close) | walk1 | (dsimp only; walk1) | (leave1; try dsimp only)))
      all_goals (try dsimp only)
      k_dflt (refine' lsE ?src ?size ?fr ?nws ?e ?fin; (case src => (refine' src_tuple ?srch ?srcg ?srcc ?srcd; (case srch => with_unfolding_all rfl); (case srcg => walk_at "mo"); (case srcc => walk_at "mc"); (case srcd => walk_at "mc"))); (case size => exact Nat.le_of_ble_eq_true rfl); (case fr => k_asm); (case nws => k_asm))
      case e =>
        intro C i v s₂ m₂ E' hv F N M hm g
        obtain ⟨a, t, rfl, ha⟩ := hmem i v hv
        (repeat' (first | ((with_reducible show wpAny _ _ (call (Value.ref 117) _) _ _ _); (k_here; k_dflt (refine' useS (c_fspath _ _ _) ?k1 ?k2 ?k3 ?k4 ?k5 ?k6 ?k7 ?k8 ?_; ((case k1 => k_asm); (case k2 => k_asm); (case k3 => k_asm); (case k4 => k_asm); (case k5 => k_asm); (case k6 => first | exact rfl | assumption); (case k7 => ktr_room); (case k8 => ktr_units)); k_whole; intro t' h' tk' F' N'; (try k_sweep); (try dsimp only)))) | ((with_reducible show wpAny _ _ (exec (Stmt.Try _ _ _ _ _) _) _ _ _); k_here; (have : Raising := by with_reducible assumption); refine stop9 ?_) | ((with_reducible show wpAny _ _ (exec (Stmt.Try _ _ _ _ _) _) _ _ _); k_here; (fail_if_success (have : Raising := by with_reducible assumption)); refine wpAny_Try_except (wpAny_noRaise ?_)) | ((with_reducible show wpAny _ _ (call (Value.builtin "min") _) _ _ _); refine stop9 ?_) | ((with_reducible show wpAny _ _ (call (Value.builtin "max") _) _ _ _); refine stop9 ?_) | (k_unfold; try dsimp only) | (k_end; wrow_close) | walk1 | (dsimp only; walk1) | (leave1; try dsimp only)))
        exact ⟨_, _, rfl, fun _ _ e => e⟩
      case fin =>
        intro D h' tk vs hl hvs F N hS
        refine foldP ?_; intro Gz
        rw [three_of rfl hl hvs] at hS
        by_cases hmix : Txt.startswith x nS = Txt.startswith y nS ∧ Txt.startswith y nS = Txt.startswith z nS
        · replace hS := hS.trans (congrArg some (setOf_alike w hmix))
          refine set_assign1 F N rfl hS rfl fun h2 F2 N2 => ?_
          clear hS hl hvs vs F N hE2
          (repeat' (first | ((with_reducible show wpAny _ _ (call (Value.ref 117) _) _ _ _); (k_here; k_dflt (refine' useS (c_fspath _ _ _) ?k1 ?k2 ?k3 ?k4 ?k5 ?k6 ?k7 ?k8 ?_; ((case k1 => k_asm); (case k2 => k_asm); (case k3 => k_asm); (case k4 => k_asm); (case k5 => k_asm); (case k6 => first | exact rfl | assumption); (case k7 => ktr_room); (case k8 => ktr_units)); k_whole; intro t' h' tk' F' N'; (try k_sweep); (try dsimp only)))) | ((with_reducible show wpAny _ _ (exec (Stmt.Try _ _ _ _ _) _) _ _ _); k_here; (have : Raising := by with_reducible assumption); refine stop9 ?_) | ((with_reducible show wpAny _ _ (exec (Stmt.Try _ _ _ _ _) _) _ _ _); k_here; (fail_if_success (have : Raising := by with_reducible assumption)); refine wpAny_Try_except (wpAny_noRaise ?_)) | ((with_reducible show wpAny _ _ (call (Value.builtin "min") _) _ _ _); refine stop9 ?_) | ((with_reducible show wpAny _ _ (call (Value.builtin "max") _) _ _ _); refine stop9 ?_) | (k_unfold; try dsimp only) | (k_end; wrow_close) | walk1 | (dsimp only; walk1) | (leave1; try dsimp only)))
          all_goals (try dsimp only)
          unfold Stop9
          k_dflt (refine' lgO_assign s.heap L' (fun _ => true) (GC [(T3, o3), (T2, o2), (T1, o1)]) ?hsw ?hL ?hclos ?hsc ?hx ?hy ?hp ?_ ?hs; ((case hsw => with_unfolding_all rfl); (case hL => with_unfolding_all rfl); ((case hclos => with_unfolding_all rfl); (case hsc => with_unfolding_all rfl); (case hx => with_unfolding_all rfl)); (case hy => with_unfolding_all rfl); (case hp => with_unfolding_all rfl); (case hs => intro _; with_unfolding_all rfl); k_whole))
          (repeat' (first | ((with_reducible show wpAny _ _ (call (Value.ref 117) _) _ _ _); (k_here; k_dflt (refine' useS (c_fspath _ _ _) ?k1 ?k2 ?k3 ?k4 ?k5 ?k6 ?k7 ?k8 ?_; ((case k1 => k_asm); (case k2 => k_asm); (case k3 => k_asm); (case k4 => k_asm); (case k5 => k_asm); (case k6 => first | exact rfl | assumption); (case k7 => ktr_room); (case k8 => ktr_units)); k_whole; intro t' h' tk' F' N'; (try k_sweep); (try dsimp only)))) | ((with_reducible show wpAny _ _ (exec (Stmt.Try _ _ _ _ _) _) _ _ _); k_here; (have : Raising := by with_reducible assumption); refine stop9 ?_) | ((with_reducible show wpAny _ _ (exec (Stmt.Try _ _ _ _ _) _) _ _ _); k_here; (fail_if_success (have : Raising := by with_reducible assumption)); refine wpAny_Try_except (wpAny_noRaise ?_)) | ((with_reducible show wpAny _ _ (call (Value.builtin "min") _) _ _ _); refine stop9 ?_) | ((with_reducible show wpAny _ _ (call (Value.builtin "max") _) _ _ _); refine stop9 ?_) | (k_unfold; try dsimp only) | (k_end; wrow_close) | walk1 | (dsimp only; walk1) | (leave1; try dsimp only)))
          all_goals (try dsimp only)
          k_dflt (refine' lgO ?src ?size ?fr ?nws ?t ?e ?fin; (case src => (refine' src_list ?srch ?srcg ?srcc ?srcd; (case srch => with_unfolding_all rfl); (case srcg => walk_at "mo"); (case srcc => walk_at "mc"); (case srcd => walk_at "mc"))); (case size => (rw [sizeLine_eq]; exact Nat.le_of_ble_eq_true rfl)); (case fr => k_asm); (case nws => k_asm))
          case t => intros; exact lc_noTests
          case e =>
            intro C i v s₂ m₂ E' hv _ F N M hm g
            obtain ⟨T, o, its, q, ys, rfl, hmem, hmem2, hc, hd, hs, hz, hzb⟩ : ∃ T o its q ys, v = .ref T ∧ (T, o) ∈ [(T3, o3), (T2, o2), (T1, o1)] ∧ s₂.heap.get? T = some o ∧ o.cls = .type "list" ∧ o.data = .seq its q ∧ StrsAre its.toList ys ∧ ys.length ≤ 4097 ∧ ∀ b ∈ ys, b.length ≤ 8192 := by
              match i, hv with
              | 0, hv => simp at hv; exact ⟨T1, o1, i1, q1, _, hv.symm, by simp, News.get N (by simp), c1, d1, r1, hz1, hzb1⟩
              | 1, hv => simp at hv; exact ⟨T2, o2, i2, q2, _, hv.symm, by simp, News.get N (by simp), c2, d2, r2, hz2, hzb2⟩
              | 2, hv => simp at hv; exact ⟨T3, o3, i3, q3, _, hv.symm, by simp, News.get N (by simp), c3, d3, r3, hz3, hzb3⟩
            clear hv
            (repeat' (first | ((with_reducible show wpAny _ _ (call (Value.ref 117) _) _ _ _); (k_here; k_dflt (refine' useS (c_fspath _ _ _) ?k1 ?k2 ?k3 ?k4 ?k5 ?k6 ?k7 ?k8 ?_; ((case k1 => k_asm); (case k2 => k_asm); (case k3 => k_asm); (case k4 => k_asm); (case k5 => k_asm); (case k6 => first | exact rfl | assumption); (case k7 => ktr_room); (case k8 => ktr_units)); k_whole; intro t' h' tk' F' N'; (try k_sweep); (try dsimp only)))) | ((with_reducible show wpAny _ _ (exec (Stmt.Try _ _ _ _ _) _) _ _ _); k_here; (have : Raising := by with_reducible assumption); refine stop9 ?_) | ((with_reducible show wpAny _ _ (exec (Stmt.Try _ _ _ _ _) _) _ _ _); k_here; (fail_if_success (have : Raising := by with_reducible assumption)); refine wpAny_Try_except (wpAny_noRaise ?_)) | ((with_reducible show wpAny _ _ (call (Value.builtin "min") _) _ _ _); refine stop9 ?_) | ((with_reducible show wpAny _ _ (call (Value.builtin "max") _) _ _ _); refine stop9 ?_) | (k_unfold; try dsimp only) | (k_end; wrow_close) | walk1 | (dsimp only; walk1) | (leave1; try dsimp only)))
            unfold Stop9
            k_dflt (refine' lg_list s.heap L' (fP fun n => n != nE && n != n1) (RS id) ?hclos ?hsc ?hx ?_ ?hs; (((case hclos => with_unfolding_all rfl); (case hsc => with_unfolding_all rfl); (case hx => with_unfolding_all rfl)); (case hs => intro _; with_unfolding_all rfl); k_whole))
            (repeat' (first | ((with_reducible show wpAny _ _ (call (Value.ref 117) _) _ _ _); (k_here; k_dflt (refine' useS (c_fspath _ _ _) ?k1 ?k2 ?k3 ?k4 ?k5 ?k6 ?k7 ?k8 ?_; ((case k1 => k_asm); (case k2 => k_asm); (case k3 => k_asm); (case k4 => k_asm); (case k5 => k_asm); (case k6 => first | exact rfl | assumption); (case k7 => ktr_room); (case k8 => ktr_units)); k_whole; intro t' h' tk' F' N'; (try k_sweep); (try dsimp only)))) | ((with_reducible show wpAny _ _ (exec (Stmt.Try _ _ _ _ _) _) _ _ _); k_here; (have : Raising := by with_reducible assumption); refine stop9 ?_) | ((with_reducible show wpAny _ _ (exec (Stmt.Try _ _ _ _ _) _) _ _ _); k_here; (fail_if_success (have : Raising := by with_reducible assumption)); refine wpAny_Try_except (wpAny_noRaise ?_)) | ((with_reducible show wpAny _ _ (call (Value.builtin "min") _) _ _ _); refine stop9 ?_) | ((with_reducible show wpAny _ _ (call (Value.builtin "max") _) _ _ _); refine stop9 ?_) | (k_unfold; try dsimp only) | (k_end; wrow_close) | walk1 | (dsimp only; walk1) | (leave1; try dsimp only)))
            all_goals (try dsimp only)
            k_dflt (refine' lgE ?src ?size ?fr ?nws ?t2 ?e2 ?fin2; (case src => (refine' src_list ?srch ?srcg ?srcc ?srcd; (case srch => with_unfolding_all rfl); (case srcg => walk_at "mo"); (case srcc => walk_at "mc"); (case srcd => walk_at "mc"))); (case size => (have hq' := strsAre_len hs; rw [Array.length_toList] at hq'; rw [sizeLine_eq]; lia)); (case fr => k_asm); (case nws => k_asm))
            case t2 =>
              intro C i v s₂ m₂ E' hv F N M hm g
              obtain ⟨b, t, rfl, hy⟩ := mem_strs hs (List.mem_of_getElem? (by simpa using hv))
              have hbz := hzb b hy
              clear hv
              (repeat' (first | ((with_reducible show wpAny _ _ (call (Value.ref 117) _) _ _ _); (k_here; k_dflt (refine' useS (c_fspath _ _ _) ?k1 ?k2 ?k3 ?k4 ?k5 ?k6 ?k7 ?k8 ?_; ((case k1 => k_asm); (case k2 => k_asm); (case k3 => k_asm); (case k4 => k_asm); (case k5 => k_asm); (case k6 => first | exact rfl | assumption); (case k7 => ktr_room); (case k8 => ktr_units)); k_whole; intro t' h' tk' F' N'; (try k_sweep); (try dsimp only)))) | ((with_reducible show wpAny _ _ (exec (Stmt.Try _ _ _ _ _) _) _ _ _); k_here; (have : Raising := by with_reducible assumption); refine stop9 ?_) | ((with_reducible show wpAny _ _ (exec (Stmt.Try _ _ _ _ _) _) _ _ _); k_here; (fail_if_success (have : Raising := by with_reducible assumption)); refine wpAny_Try_except (wpAny_noRaise ?_)) | ((with_reducible show wpAny _ _ (call (Value.builtin "min") _) _ _ _); refine stop9 ?_) | ((with_reducible show wpAny _ _ (call (Value.builtin "max") _) _ _ _); refine stop9 ?_) | (k_unfold; try dsimp only) | (k_end; wrow_close) | walk1 | (dsimp only; walk1) | (leave1; try dsimp only)))
              all_goals first
                | exact ⟨_, _, rfl, fun _ _ e => e⟩
                | (show _ = (b != Str.ofString "" && b != Str.ofString "."); first | (rw [len_eq (by assumption)]; rfl) | (rw [len_ne (by assumption), Bool.true_and]; exact Eq.symm (by assumption)))
            case e2 =>
              intro C i v s₂ m₂ E' hv _ F N M hm g
              obtain ⟨b, t, rfl, hy⟩ := mem_strs hs (List.mem_of_getElem? (by simpa using hv))
              clear hv
              (repeat' (first | ((with_reducible show wpAny _ _ (call (Value.ref 117) _) _ _ _); (k_here; k_dflt (refine' useS (c_fspath _ _ _) ?k1 ?k2 ?k3 ?k4 ?k5 ?k6 ?k7 ?k8 ?_; ((case k1 => k_asm); (case k2 => k_asm); (case k3 => k_asm); (case k4 => k_asm); (case k5 => k_asm); (case k6 => first | exact rfl | assumption); (case k7 => ktr_room); (case k8 => ktr_units)); k_whole; intro t' h' tk' F' N'; (try k_sweep); (try dsimp only)))) | ((with_reducible show wpAny _ _ (exec (Stmt.Try _ _ _ _ _) _) _ _ _); k_here; (have : Raising := by with_reducible assumption); refine stop9 ?_) | ((with_reducible show wpAny _ _ (exec (Stmt.Try _ _ _ _ _) _) _ _ _); k_here; (fail_if_success (have : Raising := by with_reducible assumption)); refine wpAny_Try_except (wpAny_noRaise ?_)) | ((with_reducible show wpAny _ _ (call (Value.builtin "min") _) _ _ _); refine stop9 ?_) | ((with_reducible show wpAny _ _ (call (Value.builtin "max") _) _ _ _); refine stop9 ?_) | (k_unfold; try dsimp only) | (k_end; wrow_close) | walk1 | (dsimp only; walk1) | (leave1; try dsimp only)))
              · exact rs_of rfl
              · exact ⟨_, _, rfl, fun _ _ e => e⟩
            case fin2 =>
              intro D2 k2 ys2 h' tk vs hl hvs F N hne g2 hnone P
              refine foldP ?_; intro Gz
              rw [all_of hl hvs] at P
              have hS := paired_filter hs P
              rw [List.map_id] at hS
              exact opost hnone (News.get N (.head _)) rfl rfl ⟨T, o, its, q, ys, rfl, hmem, hd, hs, hS⟩ g2
          case fin =>
            (with_reducible rename Fr _ _ _ _ => F0)
            intro D2 k2 ys2 h' tk vs hl hvs F N hne P hpw hneD
            refine foldP ?_; intro Gz
            rw [filter_true, three_of rfl hl hvs] at P
            obtain ⟨_, _, _, rfl, ⟨U1, j1, rfl, n1', l1, r1'⟩, ⟨U2, j2, rfl, n2', l2, r2'⟩, ⟨U3, j3, rfl, n3', l3, r3'⟩⟩ := paired3 P
            replace r1' := gc_row (news_sub3 N) (.tail _ (.tail _ (.head _))) d1 r1 r1'
            replace r2' := gc_row (news_sub3 N) (.tail _ (.head _)) d2 r2 r2'
            replace r3' := gc_row (news_sub3 N) (.head _) d3 r3 r3'
            have hy1 : (rowOf x).length ≤ 4097 := Nat.le_trans (List.length_filter_le _ _) hz1
            have hy2 : (rowOf y).length ≤ 4097 := Nat.le_trans (List.length_filter_le _ _) hz2
            have hy3 : (rowOf z).length ≤ 4097 := Nat.le_trans (List.length_filter_le _ _) hz3
            obtain ⟨p1, u1, e1, g1, N⟩ := news_lst F N F0.keep n1' l1
            obtain ⟨p2, u2, e2, g2, N⟩ := news_lst F N F0.keep n2' l2
            obtain ⟨p3, u3, e3, g3, N⟩ := news_lst F N F0.keep n3' l3
            clear P hpw hneD hne hvs hl n1' n2' n3' l1 l2 l3 F0 r1 r2 r3 hz1 hz2 hz3 hzb1 hzb2 hzb3
            (repeat' (first | ((with_reducible show wpAny _ _ (call (Value.ref 117) _) _ _ _); (k_here; k_dflt (refine' useS (c_fspath _ _ _) ?k1 ?k2 ?k3 ?k4 ?k5 ?k6 ?k7 ?k8 ?_; ((case k1 => k_asm); (case k2 => k_asm); (case k3 => k_asm); (case k4 => k_asm); (case k5 => k_asm); (case k6 => first | exact rfl | assumption); (case k7 => ktr_room); (case k8 => ktr_units)); k_whole; intro t' h' tk' F' N'; (try k_sweep); (try dsimp only)))) | ((with_reducible show wpAny _ _ (exec (Stmt.Try _ _ _ _ _) _) _ _ _); k_here; (have : Raising := by with_reducible assumption); refine stop9 ?_) | ((with_reducible show wpAny _ _ (exec (Stmt.Try _ _ _ _ _) _) _ _ _); k_here; (fail_if_success (have : Raising := by with_reducible assumption)); refine wpAny_Try_except (wpAny_noRaise ?_)) | ((with_reducible show wpAny _ _ (call (Value.builtin "min") _) _ _ _); refine stop9 ?_) | ((with_reducible show wpAny _ _ (call (Value.builtin "max") _) _ _ _); refine stop9 ?_) | (k_unfold; try dsimp only) | (k_end; wrow_close) | walk1 | (dsimp only; walk1) | (leave1; try dsimp only)))
            unfold Stop9
            k_dflt (refine' min_lists (U1, rowOf x) [(U2, rowOf y), (U3, rowOf z)] ?h ?u ?o ?c ?d ?L ?_)
            ((case h => exact rfl); (case u => units_room); (case o => walk_at "mo"); (case c => walk_at "mc"); (case d => first | with_reducible assumption | exact rfl | assumption); (case L => walk_at "mLists"))
            have hE := ends_of (U1, rowOf x) [(U2, rowOf y), (U3, rowOf z)]
            obtain ⟨mS, _⟩ := minP_spec (U1, rowOf x) [(U2, rowOf y), (U3, rowOf z)]
            obtain ⟨mM, _⟩ := maxP_spec (U1, rowOf x) [(U2, rowOf y), (U3, rowOf z)]
            generalize minP (U1, rowOf x) [(U2, rowOf y), (U3, rowOf z)] = S at *
            intro h2 tk2 G2
            have F2 := Fr.grownK (by k_asm) G2
            have N2 := News.grown (by k_asm) G2
            k_sweep
            (repeat' (first | ((with_reducible show wpAny _ _ (call (Value.ref 117) _) _ _ _); (k_here; k_dflt (refine' useS (c_fspath _ _ _) ?k1 ?k2 ?k3 ?k4 ?k5 ?k6 ?k7 ?k8 ?_; ((case k1 => k_asm); (case k2 => k_asm); (case k3 => k_asm); (case k4 => k_asm); (case k5 => k_asm); (case k6 => first | exact rfl | assumption); (case k7 => ktr_room); (case k8 => ktr_units)); k_whole; intro t' h' tk' F' N'; (try k_sweep); (try dsimp only)))) | ((with_reducible show wpAny _ _ (exec (Stmt.Try _ _ _ _ _) _) _ _ _); k_here; (have : Raising := by with_reducible assumption); refine stop9 ?_) | ((with_reducible show wpAny _ _ (exec (Stmt.Try _ _ _ _ _) _) _ _ _); k_here; (fail_if_success (have : Raising := by with_reducible assumption)); refine wpAny_Try_except (wpAny_noRaise ?_)) | ((with_reducible show wpAny _ _ (call (Value.builtin "min") _) _ _ _); refine stop9 ?_) | ((with_reducible show wpAny _ _ (call (Value.builtin "max") _) _ _ _); refine stop9 ?_) | (k_unfold; try dsimp only) | (k_end; wrow_close) | walk1 | (dsimp only; walk1) | (leave1; try dsimp only)))
            unfold Stop9
            k_dflt (refine' max_lists (U1, rowOf x) [(U2, rowOf y), (U3, rowOf z)] ?h ?u ?o ?c ?d ?L ?_)
            ((case h => exact rfl); (case u => units_room); (case o => walk_at "mo"); (case c => walk_at "mc"); (case d => first | with_reducible assumption | exact rfl | assumption); (case L => walk_at "mLists"))
            generalize maxP (U1, rowOf x) [(U2, rowOf y), (U3, rowOf z)] = M at *
            intro h3 tk3 G3
            have F3 := Fr.grownK (by k_asm) G3
            have N3 := News.grown (by k_asm) G3
            k_sweep
            (repeat' (first | ((with_reducible show wpAny _ _ (call (Value.ref 117) _) _ _ _); (k_here; k_dflt (refine' useS (c_fspath _ _ _) ?k1 ?k2 ?k3 ?k4 ?k5 ?k6 ?k7 ?k8 ?_; ((case k1 => k_asm); (case k2 => k_asm); (case k3 => k_asm); (case k4 => k_asm); (case k5 => k_asm); (case k6 => first | exact rfl | assumption); (case k7 => ktr_room); (case k8 => ktr_units)); k_whole; intro t' h' tk' F' N'; (try k_sweep); (try dsimp only)))) | ((with_reducible show wpAny _ _ (exec (Stmt.Try _ _ _ _ _) _) _ _ _); k_here; (have : Raising := by with_reducible assumption); refine stop9 ?_) | ((with_reducible show wpAny _ _ (exec (Stmt.Try _ _ _ _ _) _) _ _ _); k_here; (fail_if_success (have : Raising := by with_reducible assumption)); refine wpAny_Try_except (wpAny_noRaise ?_)) | ((with_reducible show wpAny _ _ (call (Value.builtin "min") _) _ _ _); refine stop9 ?_) | ((with_reducible show wpAny _ _ (call (Value.builtin "max") _) _ _ _); refine stop9 ?_) | (k_unfold; try dsimp only) | (k_end; wrow_close) | walk1 | (dsimp only; walk1) | (leave1; try dsimp only)))
            unfold Stop9
            have hSS : ∃ oS iS nS, (S.1, oS) ∈ [(U3, p3), (U2, p2), (U1, p1)] ∧ oS.cls = .type "list" ∧ oS.data = .seq iS nS ∧ StrsAre iS.toList S.2 ∧ S.2.length ≤ 4097 := by
              simp only [List.mem_cons, List.not_mem_nil, or_false] at mS
              rcases mS with rfl | rfl | rfl
              · exact ⟨p1, j1, u1, .tail _ (.tail _ (.head _)), e1, g1, r1', hy1⟩
              · exact ⟨p2, j2, u2, .tail _ (.head _), e2, g2, r2', hy2⟩
              · exact ⟨p3, j3, u3, .head _, e3, g3, r3', hy3⟩
            have hMM : ∃ oS iS nS, (M.1, oS) ∈ [(U3, p3), (U2, p2), (U1, p1)] ∧ oS.cls = .type "list" ∧ oS.data = .seq iS nS ∧ StrsAre iS.toList M.2 ∧ M.2.length ≤ 4097 := by
              simp only [List.mem_cons, List.not_mem_nil, or_false] at mM
              rcases mM with rfl | rfl | rfl
              · exact ⟨p1, j1, u1, .tail _ (.tail _ (.head _)), e1, g1, r1', hy1⟩
              · exact ⟨p2, j2, u2, .tail _ (.head _), e2, g2, r2', hy2⟩
              · exact ⟨p3, j3, u3, .head _, e3, g3, r3', hy3⟩
            obtain ⟨oS, iS, nS', mS', cS, dS, sS, hSz⟩ := hSS
            obtain ⟨oM, iM, nM, mM', cM, dM, sM, hMz⟩ := hMM
            replace hE : Ends S.2 M.2 [rowOf x, rowOf y, rowOf z] := hE
            obtain ⟨hl3, ht3⟩ := hE.three
            have hSl : iS.size ≤ 1048576 := by have := strsAre_len sS; simp at this; lia
            have hMl : iM.size ≤ 1048576 := by have := strsAre_len sM; simp at this; lia
            have hjb : ∀ k, (Txt.join nS (S.2.take k)).length ≤ 5000 ∧ ((S.2.take k).map (·.length)).sum + (S.2.take k).length * nS.length ≤ 5000 := by
              intro k
              simp only [List.mem_cons, List.not_mem_nil, or_false] at mS
              rcases mS with rfl | rfl | rfl
              · exact ⟨Nat.le_trans (len_shJ x k).1 (by lia), Nat.le_trans (len_shJ x k).2 (by lia)⟩
              · exact ⟨Nat.le_trans (len_shJ y k).1 (by lia), Nat.le_trans (len_shJ y k).2 (by lia)⟩
              · exact ⟨Nat.le_trans (len_shJ z k).1 (by lia), Nat.le_trans (len_shJ z k).2 (by lia)⟩
            have hv3 : shP x y z = (if Txt.startswith z nS = true then nS else nE) ++ Txt.join nS (S.2.take (lcpN S.2 M.2)) := by
              unfold shP; rw [ht3, hmix.1, hmix.2]
            clear mS mM r1' r2' r3' hy1 hy2 hy3 e1 e2 e3 g1 g2 g3
            refine wpAny_noRaise ?_
            refine' for_enum (fun i => S.2.take i = M.2.take i) ?q1 ?q2 (.inl (List.mem_append_left _ mS')) cS (vs := iS.toList) ?q3 sS rfl ?step ?done ?q4 ?q5 ?q6 ?q7 ?q8 ?q9 ?q10
            case q1 => k_asm
            case q2 => k_asm
            case q3 => simpa using dS
            case q4 => exact rfl
            case q5 => exact rfl
            case q6 => exact rfl
            case q7 => exact rfl
            case q8 => passes_own
            case q9 =>
              intro Q' hQ'
              (repeat' (first | ((with_reducible show wpAny _ _ (call (Value.ref 117) _) _ _ _); (k_here; k_dflt (refine' useS (c_fspath _ _ _) ?k1 ?k2 ?k3 ?k4 ?k5 ?k6 ?k7 ?k8 ?_; ((case k1 => k_asm); (case k2 => k_asm); (case k3 => k_asm); (case k4 => k_asm); (case k5 => k_asm); (case k6 => first | exact rfl | assumption); (case k7 => ktr_room); (case k8 => ktr_units)); k_whole; intro t' h' tk' F' N'; (try k_sweep); (try dsimp only)))) | ((with_reducible show wpAny _ _ (exec (Stmt.Try _ _ _ _ _) _) _ _ _); k_here; (have : Raising := by with_reducible assumption); refine stop9 ?_) | ((with_reducible show wpAny _ _ (exec (Stmt.Try _ _ _ _ _) _) _ _ _); k_here; (fail_if_success (have : Raising := by with_reducible assumption)); refine wpAny_Try_except (wpAny_noRaise ?_)) | ((with_reducible show wpAny _ _ (call (Value.builtin "min") _) _ _ _); refine stop9 ?_) | ((with_reducible show wpAny _ _ (call (Value.builtin "max") _) _ _ _); refine stop9 ?_) | (k_unfold; try dsimp only) | (k_end; wrow_close) | walk1 | (dsimp only; walk1) | (leave1; try dsimp only)))
            case q10 => intro _; rfl
            case step =>
              intro i y' t ti h tk e oe it oi hy' hJ ne1 ne2 F N
              simp only [AllNe, and_true, List.cons_append, List.nil_append] at ne1 ne2
              (try dsimp only [List.cons_append, List.nil_append] at N)
              obtain ⟨hi, hy''⟩ := List.getElem?_eq_some_iff.mp hy'
              have hiM := hE.go hi hJ
              have hz := List.getElem?_eq_getElem hiM
              generalize M.2[i] = zz at hz
              have gS := News.get N (List.mem_append_left _ mS')
              have gM := News.get N (List.mem_append_left _ mM')
              k_sweep
              (repeat' (first | ((with_reducible show wpAny _ _ (call (Value.ref 117) _) _ _ _); (k_here; k_dflt (refine' useS (c_fspath _ _ _) ?k1 ?k2 ?k3 ?k4 ?k5 ?k6 ?k7 ?k8 ?_; ((case k1 => k_asm); (case k2 => k_asm); (case k3 => k_asm); (case k4 => k_asm); (case k5 => k_asm); (case k6 => first | exact rfl | assumption); (case k7 => ktr_room); (case k8 => ktr_units)); k_whole; intro t' h' tk' F' N'; (try k_sweep); (try dsimp only)))) | ((with_reducible show wpAny _ _ (exec (Stmt.Try _ _ _ _ _) _) _ _ _); k_here; (have : Raising := by with_reducible assumption); refine stop9 ?_) | ((with_reducible show wpAny _ _ (exec (Stmt.Try _ _ _ _ _) _) _ _ _); k_here; (fail_if_success (have : Raising := by with_reducible assumption)); refine wpAny_Try_except (wpAny_noRaise ?_)) | ((with_reducible show wpAny _ _ (call (Value.builtin "min") _) _ _ _); refine stop9 ?_) | ((with_reducible show wpAny _ _ (call (Value.builtin "max") _) _ _ _); refine stop9 ?_) | (k_unfold; try dsimp only) | (k_end; wrow_close) | walk1 | (dsimp only; walk1) | (leave1; try dsimp only)))
              · have hi3 : lcpN S.2 M.2 = i := lcpN_at hJ hy' hz (by simpa using ‹(y' != zz) = true›)
                obtain ⟨hj1, hj2⟩ := hjb i
                replace hj1 : (Txt.join (Str.ofString "/") (S.2.take i)).length ≤ 5000 := hj1
                replace hj2 : ((S.2.take i).map (·.length)).sum + (S.2.take i).length * (Str.ofString "/").length ≤ 16777216 := Nat.le_trans hj2 (by decide)
                have hl0 : (Str.ofString "").length = 0 := rfl
                have hl1 : (Str.ofString "/").length = 1 := rfl
                rw [hi3] at hv3
                have hv := Hid.mk hv3
                clear hjb hv3 ht3 hl3 hE hJ hy' hz hi3 hiM hi hy''
                (try dsimp only)
                (repeat' (first | ((with_reducible show wpAny _ _ (call (Value.ref 117) _) _ _ _); (k_here; k_dflt (refine' useS (c_fspath _ _ _) ?k1 ?k2 ?k3 ?k4 ?k5 ?k6 ?k7 ?k8 ?_; ((case k1 => k_asm); (case k2 => k_asm); (case k3 => k_asm); (case k4 => k_asm); (case k5 => k_asm); (case k6 => first | exact rfl | assumption); (case k7 => ktr_room); (case k8 => ktr_units)); k_whole; intro t' h' tk' F' N'; (try k_sweep); (try dsimp only)))) | ((with_reducible show wpAny _ _ (exec (Stmt.Try _ _ _ _ _) _) _ _ _); k_here; (have : Raising := by with_reducible assumption); refine stop9 ?_) | ((with_reducible show wpAny _ _ (exec (Stmt.Try _ _ _ _ _) _) _ _ _); k_here; (fail_if_success (have : Raising := by with_reducible assumption)); refine wpAny_Try_except (wpAny_noRaise ?_)) | ((with_reducible show wpAny _ _ (call (Value.builtin "min") _) _ _ _); refine stop9 ?_) | ((with_reducible show wpAny _ _ (call (Value.builtin "max") _) _ _ _); refine stop9 ?_) | (k_unfold; try dsimp only) | (k_end; wrow_close) | walk1 | (dsimp only; walk1) | (leave1; try dsimp only)))
                unfold TurnE
                (try dsimp only)
                (repeat' (first | ((with_reducible show wpAny _ _ (call (Value.ref 117) _) _ _ _); (k_here; k_dflt (refine' useS (c_fspath _ _ _) ?k1 ?k2 ?k3 ?k4 ?k5 ?k6 ?k7 ?k8 ?_; ((case k1 => k_asm); (case k2 => k_asm); (case k3 => k_asm); (case k4 => k_asm); (case k5 => k_asm); (case k6 => first | exact rfl | assumption); (case k7 => ktr_room); (case k8 => ktr_units)); k_whole; intro t' h' tk' F' N'; (try k_sweep); (try dsimp only)))) | ((with_reducible show wpAny _ _ (exec (Stmt.Try _ _ _ _ _) _) _ _ _); k_here; (have : Raising := by with_reducible assumption); refine stop9 ?_) | ((with_reducible show wpAny _ _ (exec (Stmt.Try _ _ _ _ _) _) _ _ _); k_here; (fail_if_success (have : Raising := by with_reducible assumption)); refine wpAny_Try_except (wpAny_noRaise ?_)) | ((with_reducible show wpAny _ _ (call (Value.builtin "min") _) _ _ _); refine stop9 ?_) | ((with_reducible show wpAny _ _ (call (Value.builtin "max") _) _ _ _); refine stop9 ?_) | (k_unfold; try dsimp only) | (k_end; wrow_close) | walk1 | (dsimp only; walk1) | (leave1; try dsimp only)))
                all_goals first
                  | exact hQ (by assumption) ⟨hmix, _, congrArg (Value.str · _) (hv.out.trans (congrArg (· ++ _) (if_pos (‹stB (.str z t3) = true›)))).symm⟩
                  | exact hQ (by assumption) ⟨hmix, _, congrArg (Value.str · _) (hv.out.trans (congrArg (· ++ _) (if_neg fun q => Bool.false_ne_true ((‹stB (.str z t3) = false›).symm.trans q)))).symm⟩
              · refine ⟨_, _, _, rfl, by assumption, fun z h1 h2 => (if_neg h2).trans (if_neg h1), by assumption, ?_⟩
                have e : y' = zz := by simpa using ‹(y' != zz) = false›
                exact take_next hJ hy' (e ▸ hz)
            case done =>
              intro h tk u F N hJ
              replace N := news_also N (List.mem_append_left _ mS')
              have hi3 : lcpN S.2 M.2 = S.2.length := lcpN_all hJ
              obtain ⟨hj1, hj2⟩ := hjb S.2.length
              rw [hi3] at hv3
              rw [List.take_length] at hj1 hj2 hv3
              replace hj1 : (Txt.join (Str.ofString "/") S.2).length ≤ 5000 := hj1
              replace hj2 : (S.2.map (·.length)).sum + S.2.length * (Str.ofString "/").length ≤ 16777216 := Nat.le_trans hj2 (by decide)
              have hl0 : (Str.ofString "").length = 0 := rfl
              have hl1 : (Str.ofString "/").length = 1 := rfl
              have hv := Hid.mk hv3
              clear hjb hv3 ht3 hl3 hE hJ hi3
              k_sweep
              (repeat' (first | ((with_reducible show wpAny _ _ (call (Value.ref 117) _) _ _ _); (k_here; k_dflt (refine' useS (c_fspath _ _ _) ?k1 ?k2 ?k3 ?k4 ?k5 ?k6 ?k7 ?k8 ?_; ((case k1 => k_asm); (case k2 => k_asm); (case k3 => k_asm); (case k4 => k_asm); (case k5 => k_asm); (case k6 => first | exact rfl | assumption); (case k7 => ktr_room); (case k8 => ktr_units)); k_whole; intro t' h' tk' F' N'; (try k_sweep); (try dsimp only)))) | ((with_reducible show wpAny _ _ (exec (Stmt.Try _ _ _ _ _) _) _ _ _); k_here; (have : Raising := by with_reducible assumption); refine stop9 ?_) | ((with_reducible show wpAny _ _ (exec (Stmt.Try _ _ _ _ _) _) _ _ _); k_here; (fail_if_success (have : Raising := by with_reducible assumption)); refine wpAny_Try_except (wpAny_noRaise ?_)) | ((with_reducible show wpAny _ _ (call (Value.builtin "min") _) _ _ _); refine stop9 ?_) | ((with_reducible show wpAny _ _ (call (Value.builtin "max") _) _ _ _); refine stop9 ?_) | (k_unfold; try dsimp only) | (k_end; wrow_close) | walk1 | (dsimp only; walk1) | (leave1; try dsimp only)))
              all_goals first
                | exact hQ (by assumption) ⟨hmix, _, congrArg (Value.str · _) (hv.out.trans (congrArg (· ++ _) (if_pos (‹stB (.str z t3) = true›)))).symm⟩
                | exact hQ (by assumption) ⟨hmix, _, congrArg (Value.str · _) (hv.out.trans (congrArg (· ++ _) (if_neg fun q => Bool.false_ne_true ((‹stB (.str z t3) = false›).symm.trans q)))).symm⟩
        · replace hS := hS.trans (congrArg some (setOf_mixed w hmix))
          refine set_assign2 F N rfl hS rfl fun h1 h2 tk e F1 N1 hx => ?_
          refine hE2 _ _ ?_
          refine second_raise (Gd := fun g => (Mine.K w.params).In g ∧ TopRead p loose mg mb g) B' rfl rfl rfl F1 hx hP1 hGr.out ?ev1 ?ev2 ?ev3 ?q
          case ev1 => exact fun hd E' s0 G => nameG G (by k_is) (by boot_fast) (by decide) ⟨rfl, rfl⟩ rfl rfl (by decide)
          case ev2 => exact fun hd E' s0 G => madeG G (by k_is) (by boot_fast) (by decide) rfl rfl (by decide)
          case ev3 => exact fun hd E' s0 => wpAny_Constant_none ⟨rfl, rfl⟩
          case q =>
            intro e2 g g' tk' k1 k2 k3 M
            refine hE1 _ _ ?_
            refine second_miss B' rfl rfl k1 k2 k3 M hGr.out (fun hd E' s0 G => tup2G G (by k_is) (by boot_by_name) (by decide) (by k_is) (by boot_by_name) (by decide) rfl rfl (by decide) rfl (by decide)) ?_
            intro a0 g2 tk2 hh u
            refine hE0 _ _ ?_
            exact second_leaves rfl hh u fun h' hfl u' => ⟨hmix, e2, a0, h', tk2, rfl, rfl, u', hfl⟩
end
section
set_option maxHeartbeats 4000000
noncomputable def RB (v y : Value) : Prop := ∀ a t, v = .str a t → y = .bool (Txt.startswith a nS)
theorem starts_slice (x : Str) : (Txt.slice x none (some 1) == nS) = Txt.startswith x nS := by
  have h := is_slash (cs_slice_to1 x)
  rw [starts_cs]
  rw [bne] at h
  simpa using congrArg (!·) h
noncomputable def GR (v : Value) (its : Array Value) : Prop := ∀ a t, v = .str a t → StrsAre its.toList (rowOf a)
theorem c_law_shared (w : World) (la : Addr) (lo : Obj) (x y z : Str) (tx ty tz : Tok) (n : Nat) (hx : x.length ≤ 4096) (hy : y.length ≤ 4096) (hz : z.length ≤ 4096) (hlc : lo.cls = .type "list") (hld : lo.data = .seq #[.str x tx, .str y ty, .str z tz] n) :
    Claim w 1 916 [.ref la] (fun h => h.get? la = some lo)
      (fun _ v h' => ∃ r t k, v = .ref r ∧ h'.get? r = some (W.listOf (if Txt.startswith x nS = Txt.startswith y nS ∧ Txt.startswith y nS = Txt.startswith z nS then #[.str (shP x y z) t] else #[]) k)) := by
  unfold Claim; k_fill
  intro dp un gd cn cs a ccd cl outer A₀ base h₀ L m p loose mean mg mb s B F X T hk hpa hd hu
  k_dflt (refine' enterN [("paths", .ref la)] B F X T ?kA ?kF ?kK ?k6 ?k7 ?k8 ?k9 ?kB ?_ ?c2; ((case kA => exact rfl); (case kF => exact rfl); (case kK => assumption); (case k6 => k_is); (case k7 => k_is); (case k8 => ktr_room); (case k9 => exact BindsTo.of_eq rfl); (case kB => exact rfl); (case c2 => exact rfl); k_whole))
  clear T X B F
  intro L' h' F' N' B' X' T' Qf hQ; (try dsimp only)
  refine foldAE ?_; intro ee AA
  have hmem := fun (i : Nat) (v : Value) (hv : (#[Value.str x tx, .str y ty, .str z tz] : Array Value)[i]? = some v) => mem3 hx hy hz hv
  (repeat' (first | (k_here; (with_reducible show wpAny _ _ (isTrue (Expr.BoolOp BoolOp.And [Expr.Compare (Expr.Constant _ _ _) [CmpOp.In] _ _, _] _) _ _) _ _ _); (fail_if_success (with_reducible show wpAny _ _ _ (TestT _ _) _ _)); refine stop9 ?_) | ((with_reducible show wpAny _ _ (subscriptTail (Expr.Subscript _ _ _) _ _ _) _ _ _); refine turnN ?_) | (k_unfold; try dsimp only) | (k_end; wrow_close) | walk1 | (dsimp only; walk1) | (leave1; try dsimp only)))
  unfold Stop9; (try k_fold)
  k_dflt (refine' lg_assign s.heap L' (fun _ => true) RB ?hsw ?hL ?hclos ?hsc ?hx ?hy ?hp ?_ ?hs; ((case hsw => with_unfolding_all rfl); (case hL => with_unfolding_all rfl); ((case hclos => with_unfolding_all rfl); (case hsc => with_unfolding_all rfl); (case hx => with_unfolding_all rfl)); (case hy => with_unfolding_all rfl); (case hp => with_unfolding_all rfl); (case hs => intro _; with_unfolding_all rfl); k_whole))
  (repeat' (first | (k_here; (with_reducible show wpAny _ _ (isTrue (Expr.BoolOp BoolOp.And [Expr.Compare (Expr.Constant _ _ _) [CmpOp.In] _ _, _] _) _ _) _ _ _); (fail_if_success (with_reducible show wpAny _ _ _ (TestT _ _) _ _)); refine stop9 ?_) | ((with_reducible show wpAny _ _ (subscriptTail (Expr.Subscript _ _ _) _ _ _) _ _ _); refine turnN ?_) | (k_unfold; try dsimp only) | (k_end; wrow_close) | walk1 | (dsimp only; walk1) | (leave1; try dsimp only)))
  all_goals (try dsimp only)
  k_dflt (refine' lgA ?src ?size ?fr ?nws ?t ?e ?fin; (case src => (refine' src_list ?srch ?srcg ?srcc ?srcd; (case srch => with_unfolding_all rfl); (case srcg => walk_at "mo"); (case srcc => walk_at "mc"); (case srcd => walk_at "mc"))); (case size => (rw [sizeLine_eq]; exact Nat.le_of_ble_eq_true rfl)); (case fr => k_asm); (case nws => k_asm))
  case t => intros; exact lc_noTests
  case e =>
    intro C i v s₂ m₂ E' hv _ F N M hm g
    obtain ⟨a, t, rfl, ha⟩ := hmem i v hv
    (repeat' (first | (k_here; (with_reducible show wpAny _ _ (isTrue (Expr.BoolOp BoolOp.And [Expr.Compare (Expr.Constant _ _ _) [CmpOp.In] _ _, _] _) _ _) _ _ _); (fail_if_success (with_reducible show wpAny _ _ _ (TestT _ _) _ _)); refine stop9 ?_) | ((with_reducible show wpAny _ _ (subscriptTail (Expr.Subscript _ _ _) _ _ _) _ _ _); refine turnN ?_) | (k_unfold; try dsimp only) | (k_end; wrow_close) | walk1 | (dsimp only; walk1) | (leave1; try dsimp only)))
    · intro a' t' e; cases e; rw [← starts_slice]
    · exact ⟨_, _, rfl, by assumption⟩
  case fin =>
    intro D kD ys h' tk vs hl hvs F N hne P
    refine foldP ?_; intro Gz
    rw [filter_true, three_of rfl hl hvs] at P
    obtain ⟨b1, b2, b3, rfl, r1, r2, r3⟩ := paired3 P
    have r1 := r1 _ _ rfl
    have r2 := r2 _ _ rfl
    have r3 := r3 _ _ rfl
    subst r1 r2 r3
    clear P hvs hl hne vs
    (repeat' (first | (k_here; (with_reducible show wpAny _ _ (isTrue (Expr.BoolOp BoolOp.And [Expr.Compare (Expr.Constant _ _ _) [CmpOp.In] _ _, _] _) _ _) _ _ _); (fail_if_success (with_reducible show wpAny _ _ _ (TestT _ _) _ _)); refine stop9 ?_) | ((with_reducible show wpAny _ _ (subscriptTail (Expr.Subscript _ _ _) _ _ _) _ _ _); refine turnN ?_) | (k_unfold; try dsimp only) | (k_end; wrow_close) | walk1 | (dsimp only; walk1) | (leave1; try dsimp only)))
    unfold Stop9; (try k_fold)
    refine test_cut (decide (¬ (Txt.startswith x nS = Txt.startswith y nS ∧ Txt.startswith y nS = Txt.startswith z nS))) ?_ fun tk => ?_
    · (repeat' (first | (k_here; (with_reducible show wpAny _ _ (isTrue (Expr.BoolOp BoolOp.And [Expr.Compare (Expr.Constant _ _ _) [CmpOp.In] _ _, _] _) _ _) _ _ _); (fail_if_success (with_reducible show wpAny _ _ _ (TestT _ _) _ _)); refine stop9 ?_) | ((with_reducible show wpAny _ _ (subscriptTail (Expr.Subscript _ _ _) _ _ _) _ _ _); refine turnN ?_) | (k_unfold; try dsimp only) | (k_end; wrow_close) | walk1 | (dsimp only; walk1) | (leave1; try dsimp only)))
      all_goals refine testT ?_
      all_goals (generalize Txt.startswith x nS = b1 at *; generalize Txt.startswith y nS = b2 at *; generalize Txt.startswith z nS = b3 at *)
      all_goals (cases b1 <;> cases b2 <;> cases b3 <;> simp_all)
    by_cases hmix : Txt.startswith x nS = Txt.startswith y nS ∧ Txt.startswith y nS = Txt.startswith z nS
    · rw [decide_eq_false (fun q => q hmix)]; (try (k_unfold; dsimp only)); (try rw [if_neg Bool.false_ne_true])
      simp only [if_pos hmix] at hQ
      (repeat' (first | (k_here; (with_reducible show wpAny _ _ (isTrue (Expr.BoolOp BoolOp.And [Expr.Compare (Expr.Constant _ _ _) [CmpOp.In] _ _, _] _) _ _) _ _ _); (fail_if_success (with_reducible show wpAny _ _ _ (TestT _ _) _ _)); refine stop9 ?_) | ((with_reducible show wpAny _ _ (subscriptTail (Expr.Subscript _ _ _) _ _ _) _ _ _); refine turnN ?_) | (k_unfold; try dsimp only) | (k_end; wrow_close) | walk1 | (dsimp only; walk1) | (leave1; try dsimp only)))
      unfold Stop9; (try k_fold)
      k_dflt (refine' lgO_assign s.heap L' (fun _ => true) GR ?hsw ?hL ?hclos ?hsc ?hx ?hy ?hp ?_ ?hs; ((case hsw => with_unfolding_all rfl); (case hL => with_unfolding_all rfl); ((case hclos => with_unfolding_all rfl); (case hsc => with_unfolding_all rfl); (case hx => with_unfolding_all rfl)); (case hy => with_unfolding_all rfl); (case hp => with_unfolding_all rfl); (case hs => intro _; with_unfolding_all rfl); k_whole))
      (repeat' (first | (k_here; (with_reducible show wpAny _ _ (isTrue (Expr.BoolOp BoolOp.And [Expr.Compare (Expr.Constant _ _ _) [CmpOp.In] _ _, _] _) _ _) _ _ _); (fail_if_success (with_reducible show wpAny _ _ _ (TestT _ _) _ _)); refine stop9 ?_) | ((with_reducible show wpAny _ _ (subscriptTail (Expr.Subscript _ _ _) _ _ _) _ _ _); refine turnN ?_) | (k_unfold; try dsimp only) | (k_end; wrow_close) | walk1 | (dsimp only; walk1) | (leave1; try dsimp only)))
      all_goals (try dsimp only)
      k_dflt (refine' lgO ?src ?size ?fr ?nws ?t ?e ?fin; (case src => (refine' src_list ?srch ?srcg ?srcc ?srcd; (case srch => with_unfolding_all rfl); (case srcg => walk_at "mo"); (case srcc => walk_at "mc"); (case srcd => walk_at "mc"))); (case size => (rw [sizeLine_eq]; exact Nat.le_of_ble_eq_true rfl)); (case fr => k_asm); (case nws => k_asm))
      case t => intros; exact lc_noTests
      case e =>
        intro C i v s₂ m₂ E' hv _ F N M hm g
        obtain ⟨a, t, rfl, ha⟩ := hmem i v hv
        (repeat' (first | (k_here; (with_reducible show wpAny _ _ (isTrue (Expr.BoolOp BoolOp.And [Expr.Compare (Expr.Constant _ _ _) [CmpOp.In] _ _, _] _) _ _) _ _ _); (fail_if_success (with_reducible show wpAny _ _ _ (TestT _ _) _ _)); refine stop9 ?_) | ((with_reducible show wpAny _ _ (subscriptTail (Expr.Subscript _ _ _) _ _ _) _ _ _); refine turnN ?_) | (k_unfold; try dsimp only) | (k_end; wrow_close) | walk1 | (dsimp only; walk1) | (leave1; try dsimp only)))
        unfold Stop9; (try k_fold)
        k_dflt (refine' lg_list s.heap L' (fP fun n => n != nE && n != n1) (RS id) ?hclos ?hsc ?hx ?_ ?hs; (((case hclos => with_unfolding_all rfl); (case hsc => with_unfolding_all rfl); (case hx => with_unfolding_all rfl)); (case hs => intro _; with_unfolding_all rfl); k_whole))
        (repeat' (first | (k_here; (with_reducible show wpAny _ _ (isTrue (Expr.BoolOp BoolOp.And [Expr.Compare (Expr.Constant _ _ _) [CmpOp.In] _ _, _] _) _ _) _ _ _); (fail_if_success (with_reducible show wpAny _ _ _ (TestT _ _) _ _)); refine stop9 ?_) | ((with_reducible show wpAny _ _ (subscriptTail (Expr.Subscript _ _ _) _ _ _) _ _ _); refine turnN ?_) | (k_unfold; try dsimp only) | (k_end; wrow_close) | walk1 | (dsimp only; walk1) | (leave1; try dsimp only)))
        all_goals (try dsimp only)
        k_dflt (refine' lgE ?src ?size ?fr ?nws ?t2 ?e2 ?fin2; (case src => (refine' src_list ?srch ?srcg ?srcc ?srcd; (case srch => with_unfolding_all rfl); (case srcg => walk_at "mo"); (case srcc => walk_at "mc"); (case srcd => walk_at "mc"))); (case size => (first | (rw [sizeLine_eq]; exact Nat.le_of_ble_eq_true rfl) | ((have hq' := strsAre_len (by assumption)); rw [sizeLine_eq]; simp only [List.size_toArray]; lia))); (case fr => k_asm); (case nws => k_asm))
        case t2 =>
          intro C i v s₂ m₂ E' hv F N M hm g
          obtain ⟨b, t, rfl, hy⟩ := mem_strs (by assumption) (List.mem_of_getElem? (by simpa using hv))
          clear hv
          (repeat' (first | (k_here; (with_reducible show wpAny _ _ (isTrue (Expr.BoolOp BoolOp.And [Expr.Compare (Expr.Constant _ _ _) [CmpOp.In] _ _, _] _) _ _) _ _ _); (fail_if_success (with_reducible show wpAny _ _ _ (TestT _ _) _ _)); refine stop9 ?_) | ((with_reducible show wpAny _ _ (subscriptTail (Expr.Subscript _ _ _) _ _ _) _ _ _); refine turnN ?_) | (k_unfold; try dsimp only) | (k_end; wrow_close) | walk1 | (dsimp only; walk1) | (leave1; try dsimp only)))
          all_goals first
            | exact ⟨_, _, rfl, fun _ _ e => e⟩
            | (show _ = (b != Str.ofString "" && b != Str.ofString "."); simp only [*, Bool.and_true, Bool.and_false, Bool.false_and]; done)
        case e2 =>
          intro C i v s₂ m₂ E' hv _ F N M hm g
          obtain ⟨b, t, rfl, hy⟩ := mem_strs (by assumption) (List.mem_of_getElem? (by simpa using hv))
          clear hv
          (repeat' (first | (k_here; (with_reducible show wpAny _ _ (isTrue (Expr.BoolOp BoolOp.And [Expr.Compare (Expr.Constant _ _ _) [CmpOp.In] _ _, _] _) _ _) _ _ _); (fail_if_success (with_reducible show wpAny _ _ _ (TestT _ _) _ _)); refine stop9 ?_) | ((with_reducible show wpAny _ _ (subscriptTail (Expr.Subscript _ _ _) _ _ _) _ _ _); refine turnN ?_) | (k_unfold; try dsimp only) | (k_end; wrow_close) | walk1 | (dsimp only; walk1) | (leave1; try dsimp only)))
          · exact rs_of rfl
          · exact ⟨_, _, rfl, fun _ _ e => e⟩
        case fin2 =>
          intro D2 k2 ys2 h' tk vs hl hvs F N hne g2 hnone P
          refine foldP ?_; intro Gz
          rw [all_of hl hvs] at P
          have hS := paired_filter (by assumption) P
          rw [List.map_id] at hS
          rename_i g1 f1q l1q
          exact opost (none_back g1 hnone) (News.get N (.head _)) rfl rfl (fun a' t' e => by cases e; exact hS) (fun b o e => g2 b o (g1 b o e))
      case fin =>
        (with_reducible rename Fr _ _ _ _ => F0)
        intro D1 k1 ys1 h' tk vs hl hvs F N hne P hpw hneD
        refine foldP ?_; intro Gz
        rw [filter_true, three_of rfl hl hvs] at P
        obtain ⟨_, _, _, rfl, ⟨T1, i1, rfl, n1', l1, r1⟩, ⟨T2, i2, rfl, n2', l2, r2⟩, ⟨T3, i3, rfl, n3', l3, r3⟩⟩ := paired3 P
        have r1 := r1 _ _ rfl
        have r2 := r2 _ _ rfl
        have r3 := r3 _ _ rfl
        have hz1 : (rowOf x).length ≤ 4097 := by have h1 := split_weight x nS (by decide); have h2 := List.length_filter_le (fun n => n != nE && n != n1) (Txt.split x nS); unfold rowOf; lia
        have hz2 : (rowOf y).length ≤ 4097 := by have h1 := split_weight y nS (by decide); have h2 := List.length_filter_le (fun n => n != nE && n != n1) (Txt.split y nS); unfold rowOf; lia
        have hz3 : (rowOf z).length ≤ 4097 := by have h1 := split_weight z nS (by decide); have h2 := List.length_filter_le (fun n => n != nE && n != n1) (Txt.split z nS); unfold rowOf; lia
        have N1 := N
        obtain ⟨o1, q1, c1, d1, N⟩ := news_lst F N F0.keep n1' l1
        obtain ⟨o2, q2, c2, d2, N⟩ := news_lst F N F0.keep n2' l2
        obtain ⟨o3, q3, c3, d3, N⟩ := news_lst F N F0.keep n3' l3
        clear P hpw hneD hne hvs hl N1 n1' n2' n3' l1 l2 l3 F0
        (repeat' (first | (k_here; (with_reducible show wpAny _ _ (isTrue (Expr.BoolOp BoolOp.And [Expr.Compare (Expr.Constant _ _ _) [CmpOp.In] _ _, _] _) _ _) _ _ _); (fail_if_success (with_reducible show wpAny _ _ _ (TestT _ _) _ _)); refine stop9 ?_) | ((with_reducible show wpAny _ _ (subscriptTail (Expr.Subscript _ _ _) _ _ _) _ _ _); refine turnN ?_) | (k_unfold; try dsimp only) | (k_end; wrow_close) | walk1 | (dsimp only; walk1) | (leave1; try dsimp only)))
        unfold Stop9; (try k_fold)
        (with_reducible rename Fr _ _ _ _ => F5)
        (with_reducible rename News _ _ _ _ => N5)
        refine' While_inv (h₀ := s.heap) (L := L') (shJ _ _ (rowOf x) (rowOf y) (rowOf z)) F5 N5 ⟨0, _, rfl, rfl, rfl, Nat.zero_le _, Nat.zero_le _, Nat.zero_le _, rfl, rfl⟩ ?turn
        case turn =>
          clear F5 N5
          intro n m₁ news₁ h₁ tk₁ F N zz; refine foldP ?_; intro Gz; obtain ⟨k, t, rfl, rfl, rfl, hk1, hk2, hk3, ht1, ht2⟩ := zz; (try k_unfold)
          refine wpAny_mono (Q := fun b s₂ => (∃ h tk, s₂ = { s with heap := h, toks := tk } ∧ Fr s.heap L' h (fun q => if q = Str.ofString "same" then some (.int (k : Nat) t) else if q = Str.ofString "rows" then some (Value.ref D1) else if q = Str.ofString "rooted" then some (Value.ref D) else List.lookup q [(Str.ofString "paths", Value.ref la)].reverse) ∧
            News s.heap L' h [(T3, o3), (T2, o2), (T1, o1), (D1, W.listOf #[Value.ref T1, Value.ref T2, Value.ref T3] k1), (D, W.listOf #[Value.bool (Txt.startswith x nS), Value.bool (Txt.startswith y nS), Value.bool (Txt.startswith z nS)] kD)]) ∧ shT (rowOf x) (rowOf y) (rowOf z) k b) ?test ?after (fun _ _ e => e)
          case test =>
            (repeat' (first | (k_here; (with_reducible show wpAny _ _ (isTrue (Expr.BoolOp BoolOp.And [Expr.Compare (Expr.Constant _ _ _) [CmpOp.In] _ _, _] _) _ _) _ _ _); (fail_if_success (with_reducible show wpAny _ _ _ (TestT _ _) _ _)); refine stop9 ?_) | ((with_reducible show wpAny _ _ (subscriptTail (Expr.Subscript _ _ _) _ _ _) _ _ _); refine turnN ?_) | (k_unfold; try dsimp only) | (k_end; wrow_close) | walk1 | (dsimp only; walk1) | (leave1; try dsimp only)))
            unfold Stop9; (try k_fold)
            k_dflt (refine' lg_list s.heap L' (fun _ => true) (RL [(T3, o3), (T2, o2), (T1, o1), (D1, W.listOf #[Value.ref T1, Value.ref T2, Value.ref T3] k1), (D, W.listOf #[Value.bool (Txt.startswith x nS), Value.bool (Txt.startswith y nS), Value.bool (Txt.startswith z nS)] kD)]) ?hclos ?hsc ?hx ?_ ?hs; (((case hclos => with_unfolding_all rfl); (case hsc => with_unfolding_all rfl); (case hx => with_unfolding_all rfl)); (case hs => intro _; with_unfolding_all rfl); k_whole))
            (repeat' (first | (k_here; (with_reducible show wpAny _ _ (isTrue (Expr.BoolOp BoolOp.And [Expr.Compare (Expr.Constant _ _ _) [CmpOp.In] _ _, _] _) _ _) _ _ _); (fail_if_success (with_reducible show wpAny _ _ _ (TestT _ _) _ _)); refine stop9 ?_) | ((with_reducible show wpAny _ _ (subscriptTail (Expr.Subscript _ _ _) _ _ _) _ _ _); refine turnN ?_) | (k_unfold; try dsimp only) | (k_end; wrow_close) | walk1 | (dsimp only; walk1) | (leave1; try dsimp only)))
            all_goals (try dsimp only)
            k_dflt (refine' lgE ?src ?size ?fr ?nws ?t3 ?e3 ?fin3; (case src => (refine' src_list ?srch ?srcg ?srcc ?srcd; (case srch => with_unfolding_all rfl); (case srcg => walk_at "mo"); (case srcc => walk_at "mc"); (case srcd => walk_at "mc"))); (case size => (first | (rw [sizeLine_eq]; exact Nat.le_of_ble_eq_true rfl) | ((have hq' := strsAre_len (by assumption)); rw [sizeLine_eq]; simp only [List.size_toArray]; lia))); (case fr => k_asm); (case nws => k_asm))
            case t3 => intros; exact lc_noTests
            case e3 =>
              intro C i v s₂ m₂ E' hv _ F N M hm g
              obtain ⟨T, o, its, q, ys, rfl, hmem, hc, hd, hs, hz⟩ : ∃ T o its q ys, v = .ref T ∧ (T, o) ∈ [(T3, o3), (T2, o2), (T1, o1), (D1, W.listOf #[Value.ref T1, Value.ref T2, Value.ref T3] k1), (D, W.listOf #[Value.bool (Txt.startswith x nS), Value.bool (Txt.startswith y nS), Value.bool (Txt.startswith z nS)] kD)] ∧ o.cls = .type "list" ∧ o.data = .seq its q ∧ StrsAre its.toList ys ∧ ys.length ≤ 4097 := by
                match i, hv with
                | 0, hv => simp at hv; exact ⟨T1, o1, i1, q1, _, hv.symm, by simp, c1, d1, r1, hz1⟩
                | 1, hv => simp at hv; exact ⟨T2, o2, i2, q2, _, hv.symm, by simp, c2, d2, r2, hz2⟩
                | 2, hv => simp at hv; exact ⟨T3, o3, i3, q3, _, hv.symm, by simp, c3, d3, r3, hz3⟩
              have hg := News.get N hmem
              clear hv
              (repeat' (first | (k_here; (with_reducible show wpAny _ _ (isTrue (Expr.BoolOp BoolOp.And [Expr.Compare (Expr.Constant _ _ _) [CmpOp.In] _ _, _] _) _ _) _ _ _); (fail_if_success (with_reducible show wpAny _ _ _ (TestT _ _) _ _)); refine stop9 ?_) | ((with_reducible show wpAny _ _ (subscriptTail (Expr.Subscript _ _ _) _ _ _) _ _ _); refine turnN ?_) | (k_unfold; try dsimp only) | (k_end; wrow_close) | walk1 | (dsimp only; walk1) | (leave1; try dsimp only)))
              · have hq := strsAre_len hs
                rw [Array.length_toList] at hq
                exact ⟨T, o, its, q, _, rfl, hmem, hd, by rw [hq]⟩
              · exact ⟨_, _, rfl, fun _ _ e => e⟩
            case fin3 =>
              intro D3 k3 ys3 h' tk vs hl hvs F N hne g2 hnone P
              refine foldP ?_; intro Gz
              rw [filter_true, three_of rfl hl hvs] at P
              obtain ⟨_, _, _, rfl, p1, p2, p3⟩ := paired3 P
              obtain ⟨t1', rfl⟩ := rl_len (fun q hq => N q (.tail _ hq)) (by simp) d1 r1 p1
              obtain ⟨t2', rfl⟩ := rl_len (fun q hq => N q (.tail _ hq)) (by simp) d2 r2 p2
              obtain ⟨t3', rfl⟩ := rl_len (fun q hq => N q (.tail _ hq)) (by simp) d3 r3 p3
              clear P hvs hl hne p1 p2 p3 g2 hnone
              have hgx : k < (rowOf x).length → ∃ e, (rowOf x)[k]? = some e := fun q => ⟨_, List.getElem?_eq_getElem q⟩
              have hgy : k < (rowOf y).length → ∃ e, (rowOf y)[k]? = some e := fun q => ⟨_, List.getElem?_eq_getElem q⟩
              have hgz : k < (rowOf z).length → ∃ e, (rowOf z)[k]? = some e := fun q => ⟨_, List.getElem?_eq_getElem q⟩
              (repeat' (first | (k_here; (with_reducible show wpAny _ _ (isTrue (Expr.BoolOp BoolOp.And [Expr.Compare (Expr.Constant _ _ _) [CmpOp.In] _ _, _] _) _ _) _ _ _); (fail_if_success (with_reducible show wpAny _ _ _ (TestT _ _) _ _)); refine stop9 ?_) | ((with_reducible show wpAny _ _ (subscriptTail (Expr.Subscript _ _ _) _ _ _) _ _ _); refine turnN ?_) | (k_unfold; try dsimp only) | (k_end; wrow_close) | walk1 | (dsimp only; walk1) | (leave1; try dsimp only)))
              · obtain ⟨q1, q2, q3⟩ := min3 (k := k) (a := (rowOf x).length) (b := (rowOf y).length) (c := (rowOf z).length) (by with_reducible assumption) (by with_reducible assumption)
                obtain ⟨ex, hex⟩ := hgx q1
                obtain ⟨ey, hey⟩ := hgy q2
                obtain ⟨ez, hez⟩ := hgz q3
                clear q1 q2 q3
                (repeat' (first | (k_here; (with_reducible show wpAny _ _ (isTrue (Expr.BoolOp BoolOp.And [Expr.Compare (Expr.Constant _ _ _) [CmpOp.In] _ _, _] _) _ _) _ _ _); (fail_if_success (with_reducible show wpAny _ _ _ (TestT _ _) _ _)); refine stop9 ?_) | ((with_reducible show wpAny _ _ (subscriptTail (Expr.Subscript _ _ _) _ _ _) _ _ _); refine turnN ?_) | (k_unfold; try dsimp only) | (k_end; wrow_close) | walk1 | (dsimp only; walk1) | (leave1; try dsimp only)))
                all_goals first
                  | assumption
                  | (intro p hp; exact (by assumption : News _ _ _ (_ :: _)) p (.tail _ hp))
                  | (with_reducible first | exact shT_t hex hey hez (by assumption) (by assumption) | exact shT_f2 hex hey hez (by assumption) | exact shT_f1 hex hey hez (by assumption))
              · assumption
              · intro p hp; exact (by assumption : News _ _ _ (_ :: _)) p (.tail _ hp)
              · exact ⟨(fun q => nomatch q), fun _ => stop3 (by with_reducible assumption) (by with_reducible assumption)⟩
          case after =>
            intro b s₂ zz; refine foldP ?_; intro Gz; obtain ⟨⟨h, tk, rfl, F, N⟩, hb⟩ := zz
            cases b with
            | true =>
              obtain ⟨l1, l2, l3, e1, e2⟩ := hb.1 rfl
              (try k_unfold); (try k_unfold); (try k_unfold); (try dsimp only); rw [if_pos rfl]
              clear hb
              (repeat' (first | (k_here; (with_reducible show wpAny _ _ (isTrue (Expr.BoolOp BoolOp.And [Expr.Compare (Expr.Constant _ _ _) [CmpOp.In] _ _, _] _) _ _) _ _ _); (fail_if_success (with_reducible show wpAny _ _ _ (TestT _ _) _ _)); refine stop9 ?_) | ((with_reducible show wpAny _ _ (subscriptTail (Expr.Subscript _ _ _) _ _ _) _ _ _); refine turnN ?_) | (k_unfold; try dsimp only) | (k_end; wrow_close) | walk1 | (dsimp only; walk1) | (leave1; try dsimp only)))
              (with_reducible rename Fr _ _ _ _ => Fz)
              (with_reducible rename News _ _ _ _ => Nz)
              refine' WhileStep.intro Fz Nz (n' := (rowOf x).length - (k + 1)) (Nat.sub_lt_sub_left l1 (Nat.lt_succ_self k)) ⟨k + 1, ?tt, rfl, ?mm, rfl, l1, l2, l3, take_eq_next ht1 e1, take_eq_next ht2 e2⟩
              case mm =>
                funext q
                dsimp +zetaDelta only
                split
                · rfl
                · rfl
            | false =>
              (try k_unfold); (try k_unfold); (try k_unfold); (try dsimp only); rw [if_neg Bool.false_ne_true]
              have hstop := lcp3_stop hk1 hk2 hk3 ht1 ht2 (hb.2 rfl)
              clear hb
              have hj2 := (len_shJ x k).2
              have hj1 : (Txt.join (Str.ofString "/") ((rowOf x).take k)).length ≤ 5000 := Nat.le_trans (len_shJ x k).1 (by lia)
              have hl0 : (Str.ofString "").length = 0 := rfl
              have hl1 : (Str.ofString "/").length = 1 := rfl
              have hj3 : (((rowOf x).take k).map (·.length)).sum + ((rowOf x).take k).length * (Str.ofString "/").length ≤ 16777216 := by
                have hj4 : (((rowOf x).take k).map (·.length)).sum + ((rowOf x).take k).length * (Str.ofString "/").length ≤ x.length + 1 := hj2
                lia
              have hv : shP x y z = (if Txt.startswith x nS = true then nS else nE) ++ Txt.join nS ((rowOf x).take k) := by unfold shP; rw [hstop]
              replace hv := Hid.mk hv
              clear hj2 ht1 ht2 hstop
              (repeat' (first | (k_here; (with_reducible show wpAny _ _ (isTrue (Expr.BoolOp BoolOp.And [Expr.Compare (Expr.Constant _ _ _) [CmpOp.In] _ _, _] _) _ _) _ _ _); (fail_if_success (with_reducible show wpAny _ _ _ (TestT _ _) _ _)); refine stop9 ?_) | ((with_reducible show wpAny _ _ (subscriptTail (Expr.Subscript _ _ _) _ _ _) _ _ _); refine turnN ?_) | (k_unfold; try dsimp only) | (k_end; wrow_close) | walk1 | (dsimp only; walk1) | (leave1; try dsimp only)))
              all_goals first
                | (have e := hv.out; rw [if_pos (by with_reducible assumption)] at e; exact hQ (by assumption) ⟨_, _, _, rfl, by rw [e]; exact News.get (by k_asm) (.head _)⟩)
                | (have e := hv.out; rw [if_neg (by rw [‹Txt.startswith x nS = false›]; exact Bool.false_ne_true)] at e; exact hQ (by assumption) ⟨_, _, _, rfl, by rw [e]; exact News.get (by k_asm) (.head _)⟩)
    · rw [decide_eq_true hmix]; (try (k_unfold; dsimp only)); (try rw [if_pos rfl])
      simp only [if_neg hmix] at hQ
      (repeat' (first | (k_here; (with_reducible show wpAny _ _ (isTrue (Expr.BoolOp BoolOp.And [Expr.Compare (Expr.Constant _ _ _) [CmpOp.In] _ _, _] _) _ _) _ _ _); (fail_if_success (with_reducible show wpAny _ _ _ (TestT _ _) _ _)); refine stop9 ?_) | ((with_reducible show wpAny _ _ (subscriptTail (Expr.Subscript _ _ _) _ _ _) _ _ _); refine turnN ?_) | (k_unfold; try dsimp only) | (k_end; wrow_close) | walk1 | (dsimp only; walk1) | (leave1; try dsimp only)))
      refine hQ (by assumption) ⟨_, 0, _, rfl, News.get (by k_asm) (.head _)⟩
end
section
set_option maxHeartbeats 4000000
noncomputable def toldR (x y z : Str) : List Str :=
  [npR x, npR y, npR z, rpR (nS ++ x) (nS ++ z), rpR (nS ++ y) (nS ++ x), rpR (nS ++ z) (nS ++ y)] ++ (if Txt.startswith x nS = Txt.startswith y nS ∧ Txt.startswith y nS = Txt.startswith z nS then [shP x y z] else [])
theorem starts_ns (x : Str) : Txt.startswith (nS ++ x) nS = true := by
  rw [starts_cs, cs_app]; rfl
theorem len_ns (x : Str) : (nS ++ x).length = x.length + 1 := by
  show (cs (nS ++ x)).length = _
  rw [cs_app, List.length_append]
  show 1 + (cs x).length = (cs x).length + 1
  lia
noncomputable def RN (v y : Value) : Prop := ∀ a t, v = .str a t → ∃ t', y = .str (npR a) t'
noncomputable def RP (x y z : Str) (v w : Value) : Prop := ∀ (i : Nat) t, v = .int (i : Nat) t → ∃ t', w = .str (rpR (nS ++ pick3 x y z i) (nS ++ pick3 z x y i)) t'
theorem told_6 {x y z : Str} {t1 t2 t3 t4 t5 t6 : Tok} (h : ¬ (Txt.startswith x nS = Txt.startswith y nS ∧ Txt.startswith y nS = Txt.startswith z nS)) :
    StrsAre ([.str (npR x) t1, .str (npR y) t2, .str (npR z) t3] ++ [.str (rpR (nS ++ x) (nS ++ z)) t4, .str (rpR (nS ++ y) (nS ++ x)) t5, .str (rpR (nS ++ z) (nS ++ y)) t6]) (toldR x y z) := by
  unfold toldR; rw [if_neg h]
  exact .cons _ _ (.cons _ _ (.cons _ _ (.cons _ _ (.cons _ _ (.cons _ _ .nil)))))
theorem told_7 {x y z : Str} {t1 t2 t3 t4 t5 t6 t7 : Tok} (h : Txt.startswith x nS = Txt.startswith y nS ∧ Txt.startswith y nS = Txt.startswith z nS) :
    StrsAre ([.str (npR x) t1, .str (npR y) t2, .str (npR z) t3] ++ [.str (rpR (nS ++ x) (nS ++ z)) t4, .str (rpR (nS ++ y) (nS ++ x)) t5, .str (rpR (nS ++ z) (nS ++ y)) t6] ++ [.str (shP x y z) t7]) (toldR x y z) := by
  unfold toldR; rw [if_pos h]
  exact .cons _ _ (.cons _ _ (.cons _ _ (.cons _ _ (.cons _ _ (.cons _ _ (.cons _ _ .nil))))))
theorem three_int {vs : List Value} (hl : vs.length = 3) (h : ∀ j v, vs[j]? = some v → j < 3 ∧ ∃ t, v = Value.int (j : Nat) t) : ∃ a b c, vs = [.int (0 : Nat) a, .int (1 : Nat) b, .int (2 : Nat) c] := by
  obtain ⟨u, v, w, rfl⟩ := len3 hl
  obtain ⟨_, a, e1⟩ := h 0 u rfl
  obtain ⟨_, b, e2⟩ := h 1 v rfl
  obtain ⟨_, c, e3⟩ := h 2 w rfl
  exact ⟨a, b, c, by rw [e1, e2, e3]⟩
theorem c_law_told (w : World) (la : Addr) (lo : Obj) (x y z : Str) (tx ty tz : Tok) (n : Nat) (hx : x.length ≤ 4096) (hy : y.length ≤ 4096) (hz : z.length ≤ 4096) (hlc : lo.cls = .type "list") (hld : lo.data = .seq #[.str x tx, .str y ty, .str z tz] n) :
    ClaimL w 6 921 [.ref la] (fun h => h.get? la = some lo) (fun h v h' => ∃ D its k, v = .ref D ∧ h.get? D = none ∧ h'.get? D = some (W.listOf its k) ∧ StrsAre its.toList (toldR x y z)) := by
  unfold ClaimL; k_fill
  intro dp un gd cn cs a ccd cl A₀ h₀ L m p loose mean mg mb s B F X T hk hpa hd hu env henv
  cases henv
  have hRz : Raising := ⟨⟩
  have hGr := Hid.mk X
  have hGt := Hid.mk T
  k_dflt (refine' enterCL [("paths", .ref la)] B F X T ?kA ?kF ?kK ?k6 ?k7 ?k8 ?k9 ?kB ?kD ?_ ?c2; ((case kA => exact rfl); (case kF => exact rfl); (case kK => assumption); (case k6 => k_is); (case k7 => k_is); (case k8 => ktr_room); (case k9 => exact BindsTo.of_eq rfl); (case kB => exact rfl); (case kD => decide +kernel); (case c2 => exact rfl); k_whole))
  clear T X B F
  intro L' h' tk' cells' F' N' Y' B' X' T' Qf hQ
  refine foldAE ?_; intro ee AA
  obtain ⟨oc1, hE, dc1⟩ := CellsAre.one Y'
  subst hE
  replace dc1 : oc1.data = .cell (some (.ref la)) := dc1
  replace F' : Fr s.heap L' h' (fun y => none) := F'
  clear Y'
  (try dsimp only)
  have hmem := fun (i : Nat) (v : Value) (hv : (#[Value.str x tx, .str y ty, .str z tz] : Array Value)[i]? = some v) => mem3 hx hy hz hv
  (repeat' (first | ((with_reducible show wpAny _ _ (call (Value.ref 159) _) _ _ _); (k_here; k_dflt (refine' useGB (c_normpath _ _ _ ?hx) (len_npR _) ?k1 ?k2 ?k3 ?k4 ?k5 ?k6 ?k7 ?k8 ?_; (case hx => walk_at "mz"); ((case k1 => k_asm); (case k2 => k_asm); (case k3 => k_asm); (case k4 => k_asm); (case k5 => k_asm); (case k6 => first | exact rfl | assumption); (case k7 => ktr_room); (case k8 => ktr_units)); k_whole; intro t' h' tk' F' N' G' hB'; (try k_sweep); (try dsimp only)))) | ((with_reducible show wpAny _ _ (call (Value.ref 174) _) _ _ _); (k_here; k_dflt (refine' useGB (c_relpath _ _ _ _ _ ?hx ?hsx ?hy ?hsy) (Nat.le_refl _) ?k1 ?k2 ?k3 ?k4 ?k5 ?k6 ?k7 ?k8 ?_; (case hx => walk_at "mz"); (case hsx => with_reducible assumption); (case hy => walk_at "mz"); (case hsy => with_reducible assumption); ((case k1 => k_asm); (case k2 => k_asm); (case k3 => k_asm); (case k4 => k_asm); (case k5 => k_asm); (case k6 => first | exact rfl | assumption); (case k7 => ktr_room); (case k8 => ktr_units)); k_whole; intro t' h' tk' F' N' G' _; (try k_sweep); (try dsimp only)))) | ((with_reducible show wpAny _ _ (exec (Stmt.Try _ _ _ _ _) _) _ _ _); k_here; (have : Raising := by with_reducible assumption); refine stop9 ?_) | ((with_reducible show wpAny _ _ (exec (Stmt.Try _ _ _ _ _) _) _ _ _); k_here; (fail_if_success (have : Raising := by with_reducible assumption)); refine wpAny_Try_except (wpAny_noRaise ?_)) | ((with_reducible show wpAny _ _ (subscriptTail (Expr.Name _ _) _ (Value.ref _) (Value.int _ _)) _ _ _); refine stop9 ?_) | (k_unfold; try dsimp only) | (k_end; wrow_close) | walk1 | (dsimp only; walk1) | (leave1; try dsimp only)))
  unfold Stop9
  k_dflt (refine' lg_assign s.heap L' (fun _ => true) RN ?hsw ?hL ?hclos ?hsc ?hx ?hy ?hp ?_ ?hs; ((case hsw => with_unfolding_all rfl); (case hL => with_unfolding_all rfl); ((case hclos => with_unfolding_all rfl); (case hsc => with_unfolding_all rfl); (case hx => with_unfolding_all rfl)); (case hy => with_unfolding_all rfl); (case hp => with_unfolding_all rfl); (case hs => intro _; with_unfolding_all rfl); k_whole))
  (repeat' (first | ((with_reducible show wpAny _ _ (call (Value.ref 159) _) _ _ _); (k_here; k_dflt (refine' useGB (c_normpath _ _ _ ?hx) (len_npR _) ?k1 ?k2 ?k3 ?k4 ?k5 ?k6 ?k7 ?k8 ?_; (case hx => walk_at "mz"); ((case k1 => k_asm); (case k2 => k_asm); (case k3 => k_asm); (case k4 => k_asm); (case k5 => k_asm); (case k6 => first | exact rfl | assumption); (case k7 => ktr_room); (case k8 => ktr_units)); k_whole; intro t' h' tk' F' N' G' hB'; (try k_sweep); (try dsimp only)))) | ((with_reducible show wpAny _ _ (call (Value.ref 174) _) _ _ _); (k_here; k_dflt (refine' useGB (c_relpath _ _ _ _ _ ?hx ?hsx ?hy ?hsy) (Nat.le_refl _) ?k1 ?k2 ?k3 ?k4 ?k5 ?k6 ?k7 ?k8 ?_; (case hx => walk_at "mz"); (case hsx => with_reducible assumption); (case hy => walk_at "mz"); (case hsy => with_reducible assumption); ((case k1 => k_asm); (case k2 => k_asm); (case k3 => k_asm); (case k4 => k_asm); (case k5 => k_asm); (case k6 => first | exact rfl | assumption); (case k7 => ktr_room); (case k8 => ktr_units)); k_whole; intro t' h' tk' F' N' G' _; (try k_sweep); (try dsimp only)))) | ((with_reducible show wpAny _ _ (exec (Stmt.Try _ _ _ _ _) _) _ _ _); k_here; (have : Raising := by with_reducible assumption); refine stop9 ?_) | ((with_reducible show wpAny _ _ (exec (Stmt.Try _ _ _ _ _) _) _ _ _); k_here; (fail_if_success (have : Raising := by with_reducible assumption)); refine wpAny_Try_except (wpAny_noRaise ?_)) | ((with_reducible show wpAny _ _ (subscriptTail (Expr.Name _ _) _ (Value.ref _) (Value.int _ _)) _ _ _); refine stop9 ?_) | (k_unfold; try dsimp only) | (k_end; wrow_close) | walk1 | (dsimp only; walk1) | (leave1; try dsimp only)))
  all_goals (try dsimp only)
  k_dflt (refine' lgA ?src ?size ?fr ?nws ?t ?e ?fin; (case src => (refine' src_list ?srch ?srcg ?srcc ?srcd; (case srch => with_unfolding_all rfl); (case srcg => walk_at "mo"); (case srcc => walk_at "mc"); (case srcd => walk_at "mc"))); (case size => (rw [sizeLine_eq]; exact Nat.le_of_ble_eq_true rfl)); (case fr => k_asm); (case nws => k_asm))
  case t => intros; exact lc_noTests
  case e =>
    intro C i v s₂ m₂ E' hv _ F N M hm g
    obtain ⟨a, t, rfl, ha⟩ := hmem i v hv
    (repeat' (first | ((with_reducible show wpAny _ _ (call (Value.ref 159) _) _ _ _); (k_here; k_dflt (refine' useGB (c_normpath _ _ _ ?hx) (len_npR _) ?k1 ?k2 ?k3 ?k4 ?k5 ?k6 ?k7 ?k8 ?_; (case hx => walk_at "mz"); ((case k1 => k_asm); (case k2 => k_asm); (case k3 => k_asm); (case k4 => k_asm); (case k5 => k_asm); (case k6 => first | exact rfl | assumption); (case k7 => ktr_room); (case k8 => ktr_units)); k_whole; intro t' h' tk' F' N' G' hB'; (try k_sweep); (try dsimp only)))) | ((with_reducible show wpAny _ _ (call (Value.ref 174) _) _ _ _); (k_here; k_dflt (refine' useGB (c_relpath _ _ _ _ _ ?hx ?hsx ?hy ?hsy) (Nat.le_refl _) ?k1 ?k2 ?k3 ?k4 ?k5 ?k6 ?k7 ?k8 ?_; (case hx => walk_at "mz"); (case hsx => with_reducible assumption); (case hy => walk_at "mz"); (case hsy => with_reducible assumption); ((case k1 => k_asm); (case k2 => k_asm); (case k3 => k_asm); (case k4 => k_asm); (case k5 => k_asm); (case k6 => first | exact rfl | assumption); (case k7 => ktr_room); (case k8 => ktr_units)); k_whole; intro t' h' tk' F' N' G' _; (try k_sweep); (try dsimp only)))) | ((with_reducible show wpAny _ _ (exec (Stmt.Try _ _ _ _ _) _) _ _ _); k_here; (have : Raising := by with_reducible assumption); refine stop9 ?_) | ((with_reducible show wpAny _ _ (exec (Stmt.Try _ _ _ _ _) _) _ _ _); k_here; (fail_if_success (have : Raising := by with_reducible assumption)); refine wpAny_Try_except (wpAny_noRaise ?_)) | ((with_reducible show wpAny _ _ (subscriptTail (Expr.Name _ _) _ (Value.ref _) (Value.int _ _)) _ _ _); refine stop9 ?_) | (k_unfold; try dsimp only) | (k_end; wrow_close) | walk1 | (dsimp only; walk1) | (leave1; try dsimp only)))
    · intro a' t' e; cases e; exact ⟨_, rfl⟩
    · exact ⟨_, _, rfl, by assumption⟩
  case fin =>
    intro D kD ys h' tk vs hl hvs F N hne P
    simp only [AllNe, and_true] at hne
    rw [filter_true, three_of rfl hl hvs] at P
    obtain ⟨b1, b2, b3, rfl, r1, r2, r3⟩ := paired3 P
    obtain ⟨t1, rfl⟩ := r1 _ _ rfl
    obtain ⟨t2, rfl⟩ := r2 _ _ rfl
    obtain ⟨t3, rfl⟩ := r3 _ _ rfl
    clear P hvs hl vs
    (repeat' (first | ((with_reducible show wpAny _ _ (call (Value.ref 159) _) _ _ _); (k_here; k_dflt (refine' useGB (c_normpath _ _ _ ?hx) (len_npR _) ?k1 ?k2 ?k3 ?k4 ?k5 ?k6 ?k7 ?k8 ?_; (case hx => walk_at "mz"); ((case k1 => k_asm); (case k2 => k_asm); (case k3 => k_asm); (case k4 => k_asm); (case k5 => k_asm); (case k6 => first | exact rfl | assumption); (case k7 => ktr_room); (case k8 => ktr_units)); k_whole; intro t' h' tk' F' N' G' hB'; (try k_sweep); (try dsimp only)))) | ((with_reducible show wpAny _ _ (call (Value.ref 174) _) _ _ _); (k_here; k_dflt (refine' useGB (c_relpath _ _ _ _ _ ?hx ?hsx ?hy ?hsy) (Nat.le_refl _) ?k1 ?k2 ?k3 ?k4 ?k5 ?k6 ?k7 ?k8 ?_; (case hx => walk_at "mz"); (case hsx => with_reducible assumption); (case hy => walk_at "mz"); (case hsy => with_reducible assumption); ((case k1 => k_asm); (case k2 => k_asm); (case k3 => k_asm); (case k4 => k_asm); (case k5 => k_asm); (case k6 => first | exact rfl | assumption); (case k7 => ktr_room); (case k8 => ktr_units)); k_whole; intro t' h' tk' F' N' G' _; (try k_sweep); (try dsimp only)))) | ((with_reducible show wpAny _ _ (exec (Stmt.Try _ _ _ _ _) _) _ _ _); k_here; (have : Raising := by with_reducible assumption); refine stop9 ?_) | ((with_reducible show wpAny _ _ (exec (Stmt.Try _ _ _ _ _) _) _ _ _); k_here; (fail_if_success (have : Raising := by with_reducible assumption)); refine wpAny_Try_except (wpAny_noRaise ?_)) | ((with_reducible show wpAny _ _ (subscriptTail (Expr.Name _ _) _ (Value.ref _) (Value.int _ _)) _ _ _); refine stop9 ?_) | (k_unfold; try dsimp only) | (k_end; wrow_close) | walk1 | (dsimp only; walk1) | (leave1; try dsimp only)))
    unfold Stop9
    have gla := (by assumption : Fr s.heap L' h' _).keep _ _ hpa
    k_dflt (refine' lg_list s.heap L' (fun _ => true) (RP x y z) ?hclos ?hsc ?hx ?_ ?hs; (((case hclos => with_unfolding_all rfl); (case hsc => with_unfolding_all rfl); (case hx => with_unfolding_all rfl)); (case hs => intro _; with_unfolding_all rfl); k_whole))
    (repeat' (first | ((with_reducible show wpAny _ _ (call (Value.ref 159) _) _ _ _); (k_here; k_dflt (refine' useGB (c_normpath _ _ _ ?hx) (len_npR _) ?k1 ?k2 ?k3 ?k4 ?k5 ?k6 ?k7 ?k8 ?_; (case hx => walk_at "mz"); ((case k1 => k_asm); (case k2 => k_asm); (case k3 => k_asm); (case k4 => k_asm); (case k5 => k_asm); (case k6 => first | exact rfl | assumption); (case k7 => ktr_room); (case k8 => ktr_units)); k_whole; intro t' h' tk' F' N' G' hB'; (try k_sweep); (try dsimp only)))) | ((with_reducible show wpAny _ _ (call (Value.ref 174) _) _ _ _); (k_here; k_dflt (refine' useGB (c_relpath _ _ _ _ _ ?hx ?hsx ?hy ?hsy) (Nat.le_refl _) ?k1 ?k2 ?k3 ?k4 ?k5 ?k6 ?k7 ?k8 ?_; (case hx => walk_at "mz"); (case hsx => with_reducible assumption); (case hy => walk_at "mz"); (case hsy => with_reducible assumption); ((case k1 => k_asm); (case k2 => k_asm); (case k3 => k_asm); (case k4 => k_asm); (case k5 => k_asm); (case k6 => first | exact rfl | assumption); (case k7 => ktr_room); (case k8 => ktr_units)); k_whole; intro t' h' tk' F' N' G' _; (try k_sweep); (try dsimp only)))) | ((with_reducible show wpAny _ _ (exec (Stmt.Try _ _ _ _ _) _) _ _ _); k_here; (have : Raising := by with_reducible assumption); refine stop9 ?_) | ((with_reducible show wpAny _ _ (exec (Stmt.Try _ _ _ _ _) _) _ _ _); k_here; (fail_if_success (have : Raising := by with_reducible assumption)); refine wpAny_Try_except (wpAny_noRaise ?_)) | ((with_reducible show wpAny _ _ (subscriptTail (Expr.Name _ _) _ (Value.ref _) (Value.int _ _)) _ _ _); refine stop9 ?_) | (k_unfold; try dsimp only) | (k_end; wrow_close) | walk1 | (dsimp only; walk1) | (leave1; try dsimp only)))
    all_goals (try dsimp only)
    k_dflt (refine' lgE (src_lt (src_range (n := 3) rfl (by assumption) (by decide))) ?size ?fr ?nws ?t ?e ?fin2; (case size => (rw [sizeLine_eq]; exact Nat.le_of_ble_eq_true rfl)); (case fr => k_asm); (case nws => k_asm))
    case t => intros; exact lc_noTests
    case e =>
      intro C i v s₂ m₂ E' zz _ F N M hm g; refine foldP ?_; intro Gz; obtain ⟨hi, t, hv⟩ := zz
      subst hv
      have g2 := F.keep _ _ hpa
      have ha := len_pick3 hx hy hz i
      have hb := len_pick3 hz hx hy i
      have la1 := len_ns (pick3 x y z i)
      have lb1 := len_ns (pick3 z x y i)
      have sa := starts_ns (pick3 x y z i)
      have sb := starts_ns (pick3 z x y i)
      unfold nS at la1 lb1 sa sb
      (repeat' (first | ((with_reducible show wpAny _ _ (call (Value.ref 159) _) _ _ _); (k_here; k_dflt (refine' useGB (c_normpath _ _ _ ?hx) (len_npR _) ?k1 ?k2 ?k3 ?k4 ?k5 ?k6 ?k7 ?k8 ?_; (case hx => walk_at "mz"); ((case k1 => k_asm); (case k2 => k_asm); (case k3 => k_asm); (case k4 => k_asm); (case k5 => k_asm); (case k6 => first | exact rfl | assumption); (case k7 => ktr_room); (case k8 => ktr_units)); k_whole; intro t' h' tk' F' N' G' hB'; (try k_sweep); (try dsimp only)))) | ((with_reducible show wpAny _ _ (call (Value.ref 174) _) _ _ _); (k_here; k_dflt (refine' useGB (c_relpath _ _ _ _ _ ?hx ?hsx ?hy ?hsy) (Nat.le_refl _) ?k1 ?k2 ?k3 ?k4 ?k5 ?k6 ?k7 ?k8 ?_; (case hx => walk_at "mz"); (case hsx => with_reducible assumption); (case hy => walk_at "mz"); (case hsy => with_reducible assumption); ((case k1 => k_asm); (case k2 => k_asm); (case k3 => k_asm); (case k4 => k_asm); (case k5 => k_asm); (case k6 => first | exact rfl | assumption); (case k7 => ktr_room); (case k8 => ktr_units)); k_whole; intro t' h' tk' F' N' G' _; (try k_sweep); (try dsimp only)))) | ((with_reducible show wpAny _ _ (exec (Stmt.Try _ _ _ _ _) _) _ _ _); k_here; (have : Raising := by with_reducible assumption); refine stop9 ?_) | ((with_reducible show wpAny _ _ (exec (Stmt.Try _ _ _ _ _) _) _ _ _); k_here; (fail_if_success (have : Raising := by with_reducible assumption)); refine wpAny_Try_except (wpAny_noRaise ?_)) | ((with_reducible show wpAny _ _ (subscriptTail (Expr.Name _ _) _ (Value.ref _) (Value.int _ _)) _ _ _); refine stop9 ?_) | (k_unfold; try dsimp only) | (k_end; wrow_close) | walk1 | (dsimp only; walk1) | (leave1; try dsimp only)))
      refine item3 g2 hlc hld hi fun t1 => ?_
      (repeat' (first | ((with_reducible show wpAny _ _ (call (Value.ref 159) _) _ _ _); (k_here; k_dflt (refine' useGB (c_normpath _ _ _ ?hx) (len_npR _) ?k1 ?k2 ?k3 ?k4 ?k5 ?k6 ?k7 ?k8 ?_; (case hx => walk_at "mz"); ((case k1 => k_asm); (case k2 => k_asm); (case k3 => k_asm); (case k4 => k_asm); (case k5 => k_asm); (case k6 => first | exact rfl | assumption); (case k7 => ktr_room); (case k8 => ktr_units)); k_whole; intro t' h' tk' F' N' G' hB'; (try k_sweep); (try dsimp only)))) | ((with_reducible show wpAny _ _ (call (Value.ref 174) _) _ _ _); (k_here; k_dflt (refine' useGB (c_relpath _ _ _ _ _ ?hx ?hsx ?hy ?hsy) (Nat.le_refl _) ?k1 ?k2 ?k3 ?k4 ?k5 ?k6 ?k7 ?k8 ?_; (case hx => walk_at "mz"); (case hsx => with_reducible assumption); (case hy => walk_at "mz"); (case hsy => with_reducible assumption); ((case k1 => k_asm); (case k2 => k_asm); (case k3 => k_asm); (case k4 => k_asm); (case k5 => k_asm); (case k6 => first | exact rfl | assumption); (case k7 => ktr_room); (case k8 => ktr_units)); k_whole; intro t' h' tk' F' N' G' _; (try k_sweep); (try dsimp only)))) | ((with_reducible show wpAny _ _ (exec (Stmt.Try _ _ _ _ _) _) _ _ _); k_here; (have : Raising := by with_reducible assumption); refine stop9 ?_) | ((with_reducible show wpAny _ _ (exec (Stmt.Try _ _ _ _ _) _) _ _ _); k_here; (fail_if_success (have : Raising := by with_reducible assumption)); refine wpAny_Try_except (wpAny_noRaise ?_)) | ((with_reducible show wpAny _ _ (subscriptTail (Expr.Name _ _) _ (Value.ref _) (Value.int _ _)) _ _ _); refine stop9 ?_) | (k_unfold; try dsimp only) | (k_end; wrow_close) | walk1 | (dsimp only; walk1) | (leave1; try dsimp only)))
      refine item3p g2 hlc hld hi fun t2 => ?_
      (repeat' (first | ((with_reducible show wpAny _ _ (call (Value.ref 159) _) _ _ _); (k_here; k_dflt (refine' useGB (c_normpath _ _ _ ?hx) (len_npR _) ?k1 ?k2 ?k3 ?k4 ?k5 ?k6 ?k7 ?k8 ?_; (case hx => walk_at "mz"); ((case k1 => k_asm); (case k2 => k_asm); (case k3 => k_asm); (case k4 => k_asm); (case k5 => k_asm); (case k6 => first | exact rfl | assumption); (case k7 => ktr_room); (case k8 => ktr_units)); k_whole; intro t' h' tk' F' N' G' hB'; (try k_sweep); (try dsimp only)))) | ((with_reducible show wpAny _ _ (call (Value.ref 174) _) _ _ _); (k_here; k_dflt (refine' useGB (c_relpath _ _ _ _ _ ?hx ?hsx ?hy ?hsy) (Nat.le_refl _) ?k1 ?k2 ?k3 ?k4 ?k5 ?k6 ?k7 ?k8 ?_; (case hx => walk_at "mz"); (case hsx => with_reducible assumption); (case hy => walk_at "mz"); (case hsy => with_reducible assumption); ((case k1 => k_asm); (case k2 => k_asm); (case k3 => k_asm); (case k4 => k_asm); (case k5 => k_asm); (case k6 => first | exact rfl | assumption); (case k7 => ktr_room); (case k8 => ktr_units)); k_whole; intro t' h' tk' F' N' G' _; (try k_sweep); (try dsimp only)))) | ((with_reducible show wpAny _ _ (exec (Stmt.Try _ _ _ _ _) _) _ _ _); k_here; (have : Raising := by with_reducible assumption); refine stop9 ?_) | ((with_reducible show wpAny _ _ (exec (Stmt.Try _ _ _ _ _) _) _ _ _); k_here; (fail_if_success (have : Raising := by with_reducible assumption)); refine wpAny_Try_except (wpAny_noRaise ?_)) | ((with_reducible show wpAny _ _ (subscriptTail (Expr.Name _ _) _ (Value.ref _) (Value.int _ _)) _ _ _); refine stop9 ?_) | (k_unfold; try dsimp only) | (k_end; wrow_close) | walk1 | (dsimp only; walk1) | (leave1; try dsimp only)))
      · intro j t' e
        obtain ⟨h1, _⟩ := Value.int.inj e
        have h2 : i = j := nat_int h1
        subst h2
        exact ⟨_, rfl⟩
      · exact ⟨_, _, rfl, by assumption⟩
    case fin2 =>
      intro D2 k2 ys2 h' tk vs hl hvs F N hne2 g2 hnone P
      simp only [AllNe, and_true] at hne2
      rw [filter_true] at P
      obtain ⟨i1, i2, i3, rfl⟩ := three_int hl hvs
      obtain ⟨b1, b2, b3, rfl, r1, r2, r3⟩ := paired3 P
      obtain ⟨t4, rfl⟩ := r1 0 _ rfl
      obtain ⟨t5, rfl⟩ := r2 1 _ rfl
      obtain ⟨t6, rfl⟩ := r3 2 _ rfl
      clear P hvs hl g2 gla hmem hnone
      (repeat' (first | ((with_reducible show wpAny _ _ (call (Value.ref 159) _) _ _ _); (k_here; k_dflt (refine' useGB (c_normpath _ _ _ ?hx) (len_npR _) ?k1 ?k2 ?k3 ?k4 ?k5 ?k6 ?k7 ?k8 ?_; (case hx => walk_at "mz"); ((case k1 => k_asm); (case k2 => k_asm); (case k3 => k_asm); (case k4 => k_asm); (case k5 => k_asm); (case k6 => first | exact rfl | assumption); (case k7 => ktr_room); (case k8 => ktr_units)); k_whole; intro t' h' tk' F' N' G' hB'; (try k_sweep); (try dsimp only)))) | ((with_reducible show wpAny _ _ (call (Value.ref 174) _) _ _ _); (k_here; k_dflt (refine' useGB (c_relpath _ _ _ _ _ ?hx ?hsx ?hy ?hsy) (Nat.le_refl _) ?k1 ?k2 ?k3 ?k4 ?k5 ?k6 ?k7 ?k8 ?_; (case hx => walk_at "mz"); (case hsx => with_reducible assumption); (case hy => walk_at "mz"); (case hsy => with_reducible assumption); ((case k1 => k_asm); (case k2 => k_asm); (case k3 => k_asm); (case k4 => k_asm); (case k5 => k_asm); (case k6 => first | exact rfl | assumption); (case k7 => ktr_room); (case k8 => ktr_units)); k_whole; intro t' h' tk' F' N' G' _; (try k_sweep); (try dsimp only)))) | ((with_reducible show wpAny _ _ (exec (Stmt.Try _ _ _ _ _) _) _ _ _); k_here; (have : Raising := by with_reducible assumption); refine stop9 ?_) | ((with_reducible show wpAny _ _ (exec (Stmt.Try _ _ _ _ _) _) _ _ _); k_here; (fail_if_success (have : Raising := by with_reducible assumption)); refine wpAny_Try_except (wpAny_noRaise ?_)) | ((with_reducible show wpAny _ _ (subscriptTail (Expr.Name _ _) _ (Value.ref _) (Value.int _ _)) _ _ _); refine stop9 ?_) | (k_unfold; try dsimp only) | (k_end; wrow_close) | walk1 | (dsimp only; walk1) | (leave1; try dsimp only)))
      k_dflt (refine' iadd_L ?F ?N ?U ?b ?z ?_; (case F => k_asm); (case N => k_asm); (case U => k_upd); (case b => exact News.get (by k_asm) (.head _)); (case z => exact Nat.le_of_ble_eq_true rfl))
      intro h2 F2 N2
      k_sweep
      (repeat' (first | ((with_reducible show wpAny _ _ (call (Value.ref 159) _) _ _ _); (k_here; k_dflt (refine' useGB (c_normpath _ _ _ ?hx) (len_npR _) ?k1 ?k2 ?k3 ?k4 ?k5 ?k6 ?k7 ?k8 ?_; (case hx => walk_at "mz"); ((case k1 => k_asm); (case k2 => k_asm); (case k3 => k_asm); (case k4 => k_asm); (case k5 => k_asm); (case k6 => first | exact rfl | assumption); (case k7 => ktr_room); (case k8 => ktr_units)); k_whole; intro t' h' tk' F' N' G' hB'; (try k_sweep); (try dsimp only)))) | ((with_reducible show wpAny _ _ (call (Value.ref 174) _) _ _ _); (k_here; k_dflt (refine' useGB (c_relpath _ _ _ _ _ ?hx ?hsx ?hy ?hsy) (Nat.le_refl _) ?k1 ?k2 ?k3 ?k4 ?k5 ?k6 ?k7 ?k8 ?_; (case hx => walk_at "mz"); (case hsx => with_reducible assumption); (case hy => walk_at "mz"); (case hsy => with_reducible assumption); ((case k1 => k_asm); (case k2 => k_asm); (case k3 => k_asm); (case k4 => k_asm); (case k5 => k_asm); (case k6 => first | exact rfl | assumption); (case k7 => ktr_room); (case k8 => ktr_units)); k_whole; intro t' h' tk' F' N' G' _; (try k_sweep); (try dsimp only)))) | ((with_reducible show wpAny _ _ (exec (Stmt.Try _ _ _ _ _) _) _ _ _); k_here; (have : Raising := by with_reducible assumption); refine stop9 ?_) | ((with_reducible show wpAny _ _ (exec (Stmt.Try _ _ _ _ _) _) _ _ _); k_here; (fail_if_success (have : Raising := by with_reducible assumption)); refine wpAny_Try_except (wpAny_noRaise ?_)) | ((with_reducible show wpAny _ _ (subscriptTail (Expr.Name _ _) _ (Value.ref _) (Value.int _ _)) _ _ _); refine stop9 ?_) | (k_unfold; try dsimp only) | (k_end; wrow_close) | walk1 | (dsimp only; walk1) | (leave1; try dsimp only)))
      unfold Stop9
      refine try_hide fun Ef1 hE1 _ => ?_
      (try dsimp only)
      (repeat' (first | ((with_reducible show wpAny _ _ (call (Value.ref 159) _) _ _ _); (k_here; k_dflt (refine' useGB (c_normpath _ _ _ ?hx) (len_npR _) ?k1 ?k2 ?k3 ?k4 ?k5 ?k6 ?k7 ?k8 ?_; (case hx => walk_at "mz"); ((case k1 => k_asm); (case k2 => k_asm); (case k3 => k_asm); (case k4 => k_asm); (case k5 => k_asm); (case k6 => first | exact rfl | assumption); (case k7 => ktr_room); (case k8 => ktr_units)); k_whole; intro t' h' tk' F' N' G' hB'; (try k_sweep); (try dsimp only)))) | ((with_reducible show wpAny _ _ (call (Value.ref 174) _) _ _ _); (k_here; k_dflt (refine' useGB (c_relpath _ _ _ _ _ ?hx ?hsx ?hy ?hsy) (Nat.le_refl _) ?k1 ?k2 ?k3 ?k4 ?k5 ?k6 ?k7 ?k8 ?_; (case hx => walk_at "mz"); (case hsx => with_reducible assumption); (case hy => walk_at "mz"); (case hsy => with_reducible assumption); ((case k1 => k_asm); (case k2 => k_asm); (case k3 => k_asm); (case k4 => k_asm); (case k5 => k_asm); (case k6 => first | exact rfl | assumption); (case k7 => ktr_room); (case k8 => ktr_units)); k_whole; intro t' h' tk' F' N' G' _; (try k_sweep); (try dsimp only)))) | ((with_reducible show wpAny _ _ (exec (Stmt.Try _ _ _ _ _) _) _ _ _); k_here; (have : Raising := by with_reducible assumption); refine stop9 ?_) | ((with_reducible show wpAny _ _ (exec (Stmt.Try _ _ _ _ _) _) _ _ _); k_here; (fail_if_success (have : Raising := by with_reducible assumption)); refine wpAny_Try_except (wpAny_noRaise ?_)) | ((with_reducible show wpAny _ _ (subscriptTail (Expr.Name _ _) _ (Value.ref _) (Value.int _ _)) _ _ _); refine stop9 ?_) | (k_unfold; try dsimp only) | (k_end; wrow_close) | walk1 | (dsimp only; walk1) | (leave1; try dsimp only)))
      have hlaw : s.heap.get? la = some lo := hpa
      k_dflt (refine' useT (c_commonpath w la lo x y z tx ty tz n hx hy hz hlc hld) ?k1 ?k2 ?k3 ?k4 ?k5 ?k6 hGr.out hGt.out ?kp ?k7 ?k8 ?kA ?_ ?kE; ((case k1 => k_asm); (case k2 => k_asm); (case k3 => k_asm); (case k4 => k_asm); (case k5 => k_asm); (case k6 => first | exact rfl | assumption); (case k7 => ktr_room); (case k8 => ktr_units)); (case kp => exact Fr.keep (by k_asm) _ _ hpa); (case kA => exact rfl))
      case kE =>
        intro e1 s1 hmix zz; refine foldP ?_; intro Gz; obtain ⟨e, a0, h9, tk9, he, hs, u9, fl9⟩ := zz
        subst he hs; (try k_unfold)
        refine hE1 _ _ ?_
        (with_reducible rename Fr _ _ _ _ => F5)
        (with_reducible rename News _ _ _ _ => N5)
        refine caught_ret fl9 rfl rfl (fun hd E' s0 k0 => nameG (K := Mine.K w.params) (p := p) (loose := loose) (mg := mg) (mb := mb) ⟨hGr.out.keeps ?_, (topRead_of hGt.out).keeps ?_⟩ (by k_is) (by boot_fast) (by decide) ⟨rfl, rfl⟩ rfl rfl (by decide)) fun g kg ug => ?_
        · exact fun b o q => k0 b o (hid_base2 B' F5 rfl b o q)
        · exact fun b o q => k0 b o (hid_base2 B' F5 rfl b o q)
        · refine ret_name (L := L') (ug.ns (u9.ns F5.ns)) rfl rfl rfl (by decide) ?_
          refine hQ (hid_pass F5 rfl kg) ((Heap.UpToSlots.of_keeps F5.keep).trans (u9.trans ug)) ⟨_, _, _, rfl, (N5 _ (.tail _ (.head _))).2.2, kg _ _ (hid_new B' N5 rfl (.tail _ (.head _))), ?_⟩
          rw [Array.toList_append]
          exact told_6 hmix
      intro v h' tk' F' N' G' hv
      obtain ⟨hmix, t7, rfl⟩ := hv
      k_sweep
      (repeat' (first | ((with_reducible show wpAny _ _ (call (Value.ref 159) _) _ _ _); (k_here; k_dflt (refine' useGB (c_normpath _ _ _ ?hx) (len_npR _) ?k1 ?k2 ?k3 ?k4 ?k5 ?k6 ?k7 ?k8 ?_; (case hx => walk_at "mz"); ((case k1 => k_asm); (case k2 => k_asm); (case k3 => k_asm); (case k4 => k_asm); (case k5 => k_asm); (case k6 => first | exact rfl | assumption); (case k7 => ktr_room); (case k8 => ktr_units)); k_whole; intro t' h' tk' F' N' G' hB'; (try k_sweep); (try dsimp only)))) | ((with_reducible show wpAny _ _ (call (Value.ref 174) _) _ _ _); (k_here; k_dflt (refine' useGB (c_relpath _ _ _ _ _ ?hx ?hsx ?hy ?hsy) (Nat.le_refl _) ?k1 ?k2 ?k3 ?k4 ?k5 ?k6 ?k7 ?k8 ?_; (case hx => walk_at "mz"); (case hsx => with_reducible assumption); (case hy => walk_at "mz"); (case hsy => with_reducible assumption); ((case k1 => k_asm); (case k2 => k_asm); (case k3 => k_asm); (case k4 => k_asm); (case k5 => k_asm); (case k6 => first | exact rfl | assumption); (case k7 => ktr_room); (case k8 => ktr_units)); k_whole; intro t' h' tk' F' N' G' _; (try k_sweep); (try dsimp only)))) | ((with_reducible show wpAny _ _ (exec (Stmt.Try _ _ _ _ _) _) _ _ _); k_here; (have : Raising := by with_reducible assumption); refine stop9 ?_) | ((with_reducible show wpAny _ _ (exec (Stmt.Try _ _ _ _ _) _) _ _ _); k_here; (fail_if_success (have : Raising := by with_reducible assumption)); refine wpAny_Try_except (wpAny_noRaise ?_)) | ((with_reducible show wpAny _ _ (subscriptTail (Expr.Name _ _) _ (Value.ref _) (Value.int _ _)) _ _ _); refine stop9 ?_) | (k_unfold; try dsimp only) | (k_end; wrow_close) | walk1 | (dsimp only; walk1) | (leave1; try dsimp only)))
      (with_reducible rename Fr _ _ _ _ => F5)
      (with_reducible rename News _ _ _ _ => N5)
      (try dsimp only)
      refine hQ (hid_in F5) (Heap.UpToSlots.of_keeps F5.keep) ⟨_, _, _, rfl, (N5 _ (.tail _ (.head _))).2.2, N5.get (.tail _ (.head _)), ?_⟩
      rw [Array.toList_push, Array.toList_append]
      exact told_7 hmix
end
local macro_rules | `(tactic| k_room) => wk "kr"
section
set_option maxHeartbeats 4000000
open PySem.Builtin.Str in
theorem slice_neg (n : Nat) : strSliceIndices none (some (-1)) 1 n = strSliceIndices none (some ((n - 1 : Nat) : Int)) 1 n := by
  have h2 : (1 : Int) > 0 := by decide
  have a2 : ¬ (((n - 1 : Nat) : Int) < 0) := Int.not_lt.mpr (Int.natCast_nonneg _)
  have a3 : ((-1 : Int) < 0) := by decide
  simp only [strSliceIndices, a2, a3, h2, if_false, if_true]
  congr 1
  cases n with
  | zero => rfl
  | succ m =>
    rw [Nat.add_sub_cancel]
    have e : (-1 : Int) + ((m + 1 : Nat) : Int) = (m : Int) := by rw [Int.natCast_succ, Int.add_comm]; exact Int.add_neg_cancel_right _ _
    rw [e]
theorem cs_slice_neg (y : Str) : cs (Txt.slice y none (some (-1))) = (cs y).dropLast := by
  have e : Txt.slice y none (some (-1)) = Txt.slice y none (some ((y.length - 1 : Nat) : Int)) := by
    unfold Txt.slice
    rw [slice_neg]
  rw [e, cs_slice_to, List.dropLast_eq_take, len_cs]
theorem read_0 {x : Str} {k : Nat} (h : (x.length : Int) ≤ k) : cs (Str.ofString "") = ((cs x).drop k).take 1 := by
  have : (cs x).length ≤ k := (len_cs x).symm ▸ Int.ofNat_le.mp h
  rw [List.drop_eq_nil_of_le this]; rfl
theorem read_1 {x : Str} {k : Nat} (h : k + 1 < x.length) : cs (Txt.slice (Txt.slice x (some (k : Int)) (some ((k : Int) + 1)) ++ Str.ofString " ") none (some (-1))) = ((cs x).drop k).take 1 := by
  rw [cs_slice_neg, cs_app, show ((k : Int) + 1) = ((k + 1 : Nat) : Int) from rfl, cs_slice_ss x k (k + 1) (Nat.le_succ k)]
  show (_ ++ [32]).dropLast = _
  rw [List.dropLast_concat, List.drop_take]
  congr 1; exact Nat.add_sub_cancel_left _ _
theorem read_2 {x : Str} {k : Nat} (h : x.length = k + 1) : cs (Txt.slice (Txt.slice x (some (k : Int)) (some (x.length : Int)) ++ Str.ofString " ") none (some (-1))) = ((cs x).drop k).take 1 := by
  rw [cs_slice_neg, cs_app, cs_slice_ss x k x.length (by rw [h]; exact Nat.le_succ k)]
  show (_ ++ [32]).dropLast = _
  rw [List.dropLast_concat, List.drop_take, h]
  congr 1; exact Nat.add_sub_cancel_left _ _
theorem c_read (w : World) (si dsi : Addr) (t0 t1 t2 tx kt ot : Tok) (n k : Nat) (x : Str) (hx : x.length ≤ 65536) (hk : k ≤ x.length) (hlt : @LT.lt Nat _ dsi si) :
    ClaimM w 2 678 [.ref si, .int 1 ot] [(si, instObj 732 dsi), (dsi, dictOf (sioEs w t0 t1 t2 (.str x tx) (.int (k : Nat) kt)) n)]
      (fun v news' => ∃ ch tc kt', v = .str ch tc ∧ cs ch = ((cs x).drop k).take 1 ∧ news' = [(si, instObj 732 dsi), (dsi, dictOf (sioEs w t0 t1 t2 (.str x tx) (.int (min (k + 1) x.length : Nat) kt')) n)]) := by
  unfold ClaimM; k_fill
  intro dp un gd cn cs a ccd cl outer A₀ base h₀ L m p loose mean mg mb s B F X T hkk N hd hu
  k_dflt (refine' enterM [("self", .ref si), ("size", .int 1 ot)] _ N B F X T ?kA ?kF ?kK ?k6 ?k7 ?k8 ?k9 ?kB ?_ ?c2; ((case kA => exact rfl); (case kF => exact rfl); (case kK => assumption); (case k6 => k_is); (case k7 => k_is); (case k8 => ktr_room); (case k9 => exact binds_K (by k_in) rfl (by k_is) rfl rfl rfl); (case kB => exact rfl); (case c2 => exact rfl); k_whole))
  clear T X B F N
  intro g L' h' F' N' B' X' T' Qf Ef hQ _
  (try dsimp only)
  refine wpAny_noRaise ?_
  refine foldAE ?_; intro ee AA
  (repeat' (first | ((with_reducible show wpAny _ _ (setAttr _ _ _) _ _ _); walk_at "set sio") | ((with_reducible show wpAny _ _ (subscriptTail _ _ _ _) _ _ _); (fail_if_success (with_reducible show wpAny _ _ (subscriptTail (Expr.Name _ _) _ _ _) _ _ _)); refine turnN ?_) | (k_unfold; try dsimp only) | (k_end; wrow_close) | walk1 | (dsimp only; walk1) | (leave1; try dsimp only)))
  · refine' hQ (by assumption) (by assumption) ⟨_, _, kt, rfl, read_0 (by assumption), ?_⟩
    rw [show min (k + 1) x.length = k from (Nat.min_eq_right (Nat.le_trans (Int.ofNat_le.mp (by assumption)) (Nat.le_succ k))).trans (Nat.le_antisymm (Int.ofNat_le.mp (by assumption)) hk)]
  · have e0 : k + 1 < x.length := Int.ofNat_lt.mp (by assumption)
    have e : min (k + 1) x.length = k + 1 := Nat.min_eq_left (Nat.le_of_lt e0)
    refine' hQ (by assumption) (by assumption) ⟨_, _, _, rfl, read_1 e0, ?_⟩
    rotate_left
    rw [e]; rfl
  · have e0 : x.length = k + 1 := Nat.le_antisymm (Int.ofNat_le.mp (Int.not_lt.mp (by assumption))) (Int.ofNat_lt.mp (Int.not_le.mp (by assumption)))
    have e : min (k + 1) x.length = x.length := Nat.min_eq_right (Nat.le_of_eq e0)
    refine' hQ (by assumption) (by assumption) ⟨_, _, _, rfl, read_2 e0, ?_⟩
    rotate_left
    rw [e]
end
section
set_option maxHeartbeats 4000000
noncomputable def lexNames : List Str := [Str.ofString "state", Str.ofString "token", Str.ofString "quotes", Str.ofString "escape", Str.ofString "posix", Str.ofString "whitespace", Str.ofString "commenters", Str.ofString "wordchars", Str.ofString "whitespace_split", Str.ofString "escapedquotes", Str.ofString "lineno", Str.ofString "debug", Str.ofString "instream"]
theorem lexName {w : World} {name : Str} (h : lexNames.elem name = true) : plainGet (Mine.K w.params) 867 name = true ∧ ∃ a, findIn (Mine.K w.params) (.ref 867) name = some a ∧ noGet (Mine.K w.params) a = true := by
  replace h := List.mem_of_elem_eq_true h
  simp only [lexNames, List.mem_cons, List.not_mem_nil, or_false] at h
  rcases h with rfl | rfl | rfl | rfl | rfl | rfl | rfl | rfl | rfl | rfl | rfl | rfl | rfl <;> exact ⟨by kernel_rfl, none, by kernel_rfl, by kernel_rfl⟩
theorem lexGet {w : World} {A : Around} {E : Value → Shared → Prop} {s : Shared} {h₀ : Heap} {L : Addr} {m : Str → Option Value} {K : LexK} {S tok ln v : Value} {k : Nat} {kt : Tok} {n1 n2 : Nat} {env : Env} {name : Str} {xp pos : Pos} {Q : Value → Shared → Prop} {prog : Program}
    (X₀ : (Mine.K w.params).In h₀) (hL : env.locals = L) (hk : env.scope.kind = .function) (hx : env.kindOf (Str.ofString "self") = some .local) (F : Fr h₀ L s.heap m) (N : News h₀ L s.heap (lexN w K S tok ln k kt n1 n2)) (hm : m (Str.ofString "self") = some (.ref K.lx))
    (hn : lexNames.elem name = true) (hl : getL name (lexEs w K.t K.u K.si K.dq1 K.dq2 K.wc S tok ln) = some (some v)) (hv : handedIn v = true) (h : Q v { s with toks := s.toks + 1 }) :
    wpAny (model prog w) A (eval (.Attribute (.Name (Str.ofString "self") xp) name pos) env) Q E s := by
  subst hL
  obtain ⟨hg, at', ha, ho⟩ := lexName (w := w) hn
  exact Attribute_Name_ (wpAny_Name (wpAny_loadName_local hk hx F.ns hm (get_own F X₀ (InstAt.of_news N (.head _) (.tail _ (.head _))) hg (by kernel_rfl) ha ho hl hv h)) (by decide))
theorem c_read_token (w : World) (K : LexK) (res : Option (List Nat) × List Nat) (S : Value) (tt lt kt : Tok) (ln : Int) (n1 n2 k : Nat) (hx : K.x.length ≤ 65536) (hk : k ≤ K.x.length) (hst : LexSt res S false (Str.ofString "") ((cs K.x).drop k))
    (h39 : inS (Str.ofString "'") K.wc = false) (h34 : inS (Str.ofString "\"") K.wc = false) (l1 : @LT.lt Nat _ K.dsi K.si) (l2 : @LT.lt Nat _ K.dlx K.dsi) (l3 : @LT.lt Nat _ K.dlx K.lx) (l4 : @Ne Nat K.lx K.dsi) (l5 : @Ne Nat K.lx K.si) :
    ClaimM w 4 835 [.ref K.lx] (lexN w K S (.str (Str.ofString "") tt) (.int ln lt) k kt n1 n2) (lexP w K res) := by
  unfold ClaimM; k_fill
  intro dp un gd cn cs' a ccd cl outer A₀ base h₀ L m p loose mean mg mb s B F X T hkk N hd hu
  k_dflt (refine' enterM [("self", .ref K.lx)] _ N B F X T ?kA ?kF ?kK ?k6 ?k7 ?k8 ?k9 ?kB ?_ ?c2; ((case kA => exact rfl); (case kF => exact rfl); (case kK => assumption); (case k6 => k_is); (case k7 => k_is); (case k8 => ktr_room); (case k9 => exact BindsTo.of_eq rfl); (case kB => exact rfl); (case c2 => exact rfl); k_whole))
  clear T X B F N
  intro g L' h' F' N' B' X' T' Qf Ef hQ _
  (try dsimp only)
  refine wpAny_noRaise ?_
  refine foldAE ?_; intro ee AA
  have GA := fun {E : Value → Shared → Prop} {s : Shared} {m : Str → Option Value} {S tok ln v : Value} {k : Nat} {kt : Tok} {n1 n2 : Nat} {name : Str} {xp pos : Pos} {Q : Value → Shared → Prop} =>
    @lexGet w AA E s g L' m K S tok ln v k kt n1 n2 ee name xp pos Q PySem.Challenge.rw_in0312_01.row.prog X' rfl rfl rfl
  (repeat' (first | (k_here; (with_reducible show wpAny _ _ (isTrue (Expr.BoolOp BoolOp.And [Expr.Compare (Expr.Constant _ _ _) [CmpOp.In] _ _, _] _) _ _) _ _ _); (fail_if_success (with_reducible show wpAny _ _ _ (TestT _ _) _ _)); refine stop9 ?_) | ((with_reducible show wpAny _ _ (call (Value.ref _) [Value.ref _, Value.int _ _]) _ _ _); refine stop9 ?_) | ((with_reducible show wpAny _ _ (compareOp CmpOp.In (Value.str _ _) (Value.str _ _)) _ _ _); with_reducible refine in_S ?_) | ((with_reducible show wpAny _ _ (compareOp CmpOp.NotIn (Value.str _ _) (Value.str _ _)) _ _ _); with_reducible refine notIn_S ?_) | ((with_reducible show wpAny _ _ (truthy (Value.str _ _)) _ _ _); with_reducible refine' truthy_S ?tsz ?_; (case tsz => first | with_reducible assumption | decide | lia); intro tk') | ((with_reducible show wpAny _ _ (setAttr _ (PySem.Str.ofString "state") _) _ _ _); walk_at "set state") | ((with_reducible show wpAny _ _ (setAttr _ (PySem.Str.ofString "token") _) _ _ _); walk_at "set token") | ((with_reducible show wpAny _ _ (setAttr _ (PySem.Str.ofString "lineno") _) _ _ _); walk_at "set lineno") | (k_unfold; try dsimp only) | (k_end; wrow_close) | walk1 | (dsimp only; walk1) | (leave1; try dsimp only)))
  unfold Stop9
  refine cutE (lexA w K res g L' s) ?_ ?_
  · k_dflt (refine' While_inv2 (h₀ := g) (L := L') (lexJ w K res) ?F ?N ⟨S, false, Str.ofString "", tt, ln, lt, kt, n1, n2, k, rfl, hk, Nat.zero_le _, ?s1, ?s2, rfl, hst⟩ ?turn ?kE)
    case F => k_asm
    case N => k_asm
    case s1 => exact rfl
    case s2 => exact rfl
    case kE => passes_own
    case turn =>
      intro n m1 nw h1 tk1 F1 N1 zz; obtain ⟨S, q, tok, tt, ln, lt, kt, n1, n2, k, hn, hk, htl, hm1, hm2, hnw, hst⟩ := zz
      subst hnw
      replace F1 := fr_two F1 hm1 hm2
      clear hm1 hm2
      k_sweep
      (try k_unfold)
      refine test_cut true (by (repeat' (first | (k_here; (with_reducible show wpAny _ _ (isTrue (Expr.BoolOp BoolOp.And [Expr.Compare (Expr.Constant _ _ _) [CmpOp.In] _ _, _] _) _ _) _ _ _); (fail_if_success (with_reducible show wpAny _ _ _ (TestT _ _) _ _)); refine stop9 ?_) | ((with_reducible show wpAny _ _ (call (Value.ref _) [Value.ref _, Value.int _ _]) _ _ _); refine stop9 ?_) | ((with_reducible show wpAny _ _ (compareOp CmpOp.In (Value.str _ _) (Value.str _ _)) _ _ _); with_reducible refine in_S ?_) | ((with_reducible show wpAny _ _ (compareOp CmpOp.NotIn (Value.str _ _) (Value.str _ _)) _ _ _); with_reducible refine notIn_S ?_) | ((with_reducible show wpAny _ _ (truthy (Value.str _ _)) _ _ _); with_reducible refine' truthy_S ?tsz ?_; (case tsz => first | with_reducible assumption | decide | lia); intro tk') | ((with_reducible show wpAny _ _ (setAttr _ (PySem.Str.ofString "state") _) _ _ _); walk_at "set state") | ((with_reducible show wpAny _ _ (setAttr _ (PySem.Str.ofString "token") _) _ _ _); walk_at "set token") | ((with_reducible show wpAny _ _ (setAttr _ (PySem.Str.ofString "lineno") _) _ _ _); walk_at "set lineno") | (k_unfold; try dsimp only) | (k_end; wrow_close) | walk1 | (dsimp only; walk1) | (leave1; try dsimp only))); exact testT rfl) fun tk2 => ?_
      rw [if_pos rfl]
      refine cutS (lexB w K g L' s S q tok tt n1 k) ?_ ?_
      · (repeat' (first | (k_here; (with_reducible show wpAny _ _ (isTrue (Expr.BoolOp BoolOp.And [Expr.Compare (Expr.Constant _ _ _) [CmpOp.In] _ _, _] _) _ _) _ _ _); (fail_if_success (with_reducible show wpAny _ _ _ (TestT _ _) _ _)); refine stop9 ?_) | ((with_reducible show wpAny _ _ (call (Value.ref _) [Value.ref _, Value.int _ _]) _ _ _); refine stop9 ?_) | ((with_reducible show wpAny _ _ (compareOp CmpOp.In (Value.str _ _) (Value.str _ _)) _ _ _); with_reducible refine in_S ?_) | ((with_reducible show wpAny _ _ (compareOp CmpOp.NotIn (Value.str _ _) (Value.str _ _)) _ _ _); with_reducible refine notIn_S ?_) | ((with_reducible show wpAny _ _ (truthy (Value.str _ _)) _ _ _); with_reducible refine' truthy_S ?tsz ?_; (case tsz => first | with_reducible assumption | decide | lia); intro tk') | ((with_reducible show wpAny _ _ (setAttr _ (PySem.Str.ofString "state") _) _ _ _); walk_at "set state") | ((with_reducible show wpAny _ _ (setAttr _ (PySem.Str.ofString "token") _) _ _ _); walk_at "set token") | ((with_reducible show wpAny _ _ (setAttr _ (PySem.Str.ofString "lineno") _) _ _ _); walk_at "set lineno") | (k_unfold; try dsimp only) | (k_end; wrow_close) | walk1 | (dsimp only; walk1) | (leave1; try dsimp only)))
        unfold Stop9
        (with_reducible rename News _ _ _ _ => N9)
        k_dflt (refine' useM (c_read w K.si K.dsi K.a K.b K.c K.tx kt _ n2 k K.x hx hk l1) [(K.lx, instObj 867 K.dlx), (K.dlx, dictOf (lexEs w K.t K.u K.si K.dq1 K.dq2 K.wc S (.str tok tt) (.int ln lt)) n1)] ?k1 ?k2 ?k3 ?k4 ?k5 ?N ?Nk ?hdj ?k7 ?k8 ?_)
        case k1 => k_asm
        case k2 => k_asm
        case k3 => k_asm
        case k4 => k_asm
        case k5 => exact rfl
        case k7 => ktr_room
        case k8 => ktr_units
        case N => exact fun p hp => N9 p (.tail _ (.tail _ hp))
        case Nk => exact fun p hp => N9 p (List.mem_append_left (as := [_, _]) _ hp)
        case hdj =>
          intro p hp q hq
          simp only [List.mem_cons, List.not_mem_nil, or_false] at hp hq
          rcases hp with rfl | rfl <;> rcases hq with rfl | rfl <;> (show @Ne Nat _ _; first | walk_at "mN" | lia)
        intro v h3 tk3 news' F3 N3 zz; refine foldP ?_; intro Gz; obtain ⟨ch, tc, kt', e1, hch, e2⟩ := zz
        subst e1 e2
        clear N9
        k_sweep
        (repeat' (first | (k_here; (with_reducible show wpAny _ _ (isTrue (Expr.BoolOp BoolOp.And [Expr.Compare (Expr.Constant _ _ _) [CmpOp.In] _ _, _] _) _ _) _ _ _); (fail_if_success (with_reducible show wpAny _ _ _ (TestT _ _) _ _)); refine stop9 ?_) | ((with_reducible show wpAny _ _ (call (Value.ref _) [Value.ref _, Value.int _ _]) _ _ _); refine stop9 ?_) | ((with_reducible show wpAny _ _ (compareOp CmpOp.In (Value.str _ _) (Value.str _ _)) _ _ _); with_reducible refine in_S ?_) | ((with_reducible show wpAny _ _ (compareOp CmpOp.NotIn (Value.str _ _) (Value.str _ _)) _ _ _); with_reducible refine notIn_S ?_) | ((with_reducible show wpAny _ _ (truthy (Value.str _ _)) _ _ _); with_reducible refine' truthy_S ?tsz ?_; (case tsz => first | with_reducible assumption | decide | lia); intro tk') | ((with_reducible show wpAny _ _ (setAttr _ (PySem.Str.ofString "state") _) _ _ _); walk_at "set state") | ((with_reducible show wpAny _ _ (setAttr _ (PySem.Str.ofString "token") _) _ _ _); walk_at "set token") | ((with_reducible show wpAny _ _ (setAttr _ (PySem.Str.ofString "lineno") _) _ _ _); walk_at "set lineno") | (k_unfold; try dsimp only) | (k_end; wrow_close) | walk1 | (dsimp only; walk1) | (leave1; try dsimp only)))
        exact ⟨_, _, _, ch, tc, kt', lt, n2, ln, rfl, by assumption, rfl, rfl, rfl, news_perm4 (by assumption), hch⟩
      · intro s4 zz; obtain ⟨h4, tk4, m4, ch, tc, kt, lt, n2, ln, e, F4, hm1, hm2, hm3, N4, hch⟩ := zz
        subst e
        replace F4 := fr_three F4 hm1 hm2 hm3
        clear hm1 hm2 hm3
        k_sweep
        (try k_unfold)
        refine cutS (lexB w K g L' s S q tok tt n1 k) ?_ ?_
        · (repeat' (first | (k_here; (with_reducible show wpAny _ _ (isTrue (Expr.BoolOp BoolOp.And [Expr.Compare (Expr.Constant _ _ _) [CmpOp.In] _ _, _] _) _ _) _ _ _); (fail_if_success (with_reducible show wpAny _ _ _ (TestT _ _) _ _)); refine stop9 ?_) | ((with_reducible show wpAny _ _ (call (Value.ref _) [Value.ref _, Value.int _ _]) _ _ _); refine stop9 ?_) | ((with_reducible show wpAny _ _ (compareOp CmpOp.In (Value.str _ _) (Value.str _ _)) _ _ _); with_reducible refine in_S ?_) | ((with_reducible show wpAny _ _ (compareOp CmpOp.NotIn (Value.str _ _) (Value.str _ _)) _ _ _); with_reducible refine notIn_S ?_) | ((with_reducible show wpAny _ _ (truthy (Value.str _ _)) _ _ _); with_reducible refine' truthy_S ?tsz ?_; (case tsz => first | with_reducible assumption | decide | lia); intro tk') | ((with_reducible show wpAny _ _ (setAttr _ (PySem.Str.ofString "state") _) _ _ _); walk_at "set state") | ((with_reducible show wpAny _ _ (setAttr _ (PySem.Str.ofString "token") _) _ _ _); walk_at "set token") | ((with_reducible show wpAny _ _ (setAttr _ (PySem.Str.ofString "lineno") _) _ _ _); walk_at "set lineno") | (k_unfold; try dsimp only) | (k_end; wrow_close) | walk1 | (dsimp only; walk1) | (leave1; try dsimp only)))
          all_goals exact ⟨_, _, _, ch, tc, kt, _, n2, _, rfl, by assumption, rfl, rfl, rfl, by assumption, hch⟩
        · intro s5 zz; obtain ⟨h5, tk5, m5, ch, tc, kt, lt, n2, ln, e, F5, hm1, hm2, hm3, N5, hch⟩ := zz
          subst e
          replace F5 := fr_three F5 hm1 hm2 hm3
          clear hm1 hm2 hm3
          k_sweep
          (try k_unfold)
          have hk' : min (k + 1) K.x.length ≤ K.x.length := Nat.min_le_right _ _
          have hkk : k ≤ min (k + 1) K.x.length := Nat.le_min.mpr ⟨Nat.le_succ k, hk⟩
          have hlen := len_cs K.x
          have fa1 : inS (Str.ofString "a") (Str.ofString "'\"") = false := by kernel_rfl
          have fa2 : inS (Str.ofString "a") (Str.ofString "\\") = false := by kernel_rfl
          have f39 : inS (Str.ofString "'") (Str.ofString "'\"") = true := by kernel_rfl
          have f34 : inS (Str.ofString "\"") (Str.ofString "'\"") = true := by kernel_rfl
          have fe39 : inS (Str.ofString "'") (Str.ofString "\"") = false := by kernel_rfl
          generalize hrem : (cs K.x).drop k = rem at hst hch
          cases rem with
          | nil =>
            have hd' : (cs K.x).drop (min (k + 1) K.x.length) = [] := by
              have h0 := congrArg List.length hrem
              rw [List.length_drop, hlen] at h0
              have h0 : K.x.length - k = 0 := h0
              exact List.drop_eq_nil_of_le (by rw [hlen]; exact Nat.le_min.mpr ⟨Nat.le_succ_of_le (Nat.le_of_sub_eq_zero h0), Nat.le_refl _⟩)
            have e : ch = Str.ofString "" := cs_ext hch
            subst e
            clear hrem hn hch
            generalize min (k + 1) K.x.length = k' at *
            cases hst with
            | eof hr =>
              subst hr
              (repeat' (first | (k_here; (with_reducible show wpAny _ _ (isTrue (Expr.BoolOp BoolOp.And [Expr.Compare (Expr.Constant _ _ _) [CmpOp.In] _ _, _] _) _ _) _ _ _); (fail_if_success (with_reducible show wpAny _ _ _ (TestT _ _) _ _)); refine stop9 ?_) | ((with_reducible show wpAny _ _ (call (Value.ref _) [Value.ref _, Value.int _ _]) _ _ _); refine stop9 ?_) | ((with_reducible show wpAny _ _ (compareOp CmpOp.In (Value.str _ _) (Value.str _ _)) _ _ _); with_reducible refine in_S ?_) | ((with_reducible show wpAny _ _ (compareOp CmpOp.NotIn (Value.str _ _) (Value.str _ _)) _ _ _); with_reducible refine notIn_S ?_) | ((with_reducible show wpAny _ _ (truthy (Value.str _ _)) _ _ _); with_reducible refine' truthy_S ?tsz ?_; (case tsz => first | with_reducible assumption | decide | lia); intro tk') | ((with_reducible show wpAny _ _ (setAttr _ (PySem.Str.ofString "state") _) _ _ _); walk_at "set state") | ((with_reducible show wpAny _ _ (setAttr _ (PySem.Str.ofString "token") _) _ _ _); walk_at "set token") | ((with_reducible show wpAny _ _ (setAttr _ (PySem.Str.ofString "lineno") _) _ _ _); walk_at "set lineno") | (k_unfold; try dsimp only) | (k_end; wrow_close) | walk1 | (dsimp only; walk1) | (leave1; try dsimp only)))
              exact lexBrk (by assumption) (by assumption) hk' rfl rfl hd' (.inl ⟨rfl, rfl⟩) (.inl ⟨rfl, rfl, rfl⟩)
            | s32 hr =>
              cases hr
              (repeat' (first | (k_here; (with_reducible show wpAny _ _ (isTrue (Expr.BoolOp BoolOp.And [Expr.Compare (Expr.Constant _ _ _) [CmpOp.In] _ _, _] _) _ _) _ _ _); (fail_if_success (with_reducible show wpAny _ _ _ (TestT _ _) _ _)); refine stop9 ?_) | ((with_reducible show wpAny _ _ (call (Value.ref _) [Value.ref _, Value.int _ _]) _ _ _); refine stop9 ?_) | ((with_reducible show wpAny _ _ (compareOp CmpOp.In (Value.str _ _) (Value.str _ _)) _ _ _); with_reducible refine in_S ?_) | ((with_reducible show wpAny _ _ (compareOp CmpOp.NotIn (Value.str _ _) (Value.str _ _)) _ _ _); with_reducible refine notIn_S ?_) | ((with_reducible show wpAny _ _ (truthy (Value.str _ _)) _ _ _); with_reducible refine' truthy_S ?tsz ?_; (case tsz => first | with_reducible assumption | decide | lia); intro tk') | ((with_reducible show wpAny _ _ (setAttr _ (PySem.Str.ofString "state") _) _ _ _); walk_at "set state") | ((with_reducible show wpAny _ _ (setAttr _ (PySem.Str.ofString "token") _) _ _ _); walk_at "set token") | ((with_reducible show wpAny _ _ (setAttr _ (PySem.Str.ofString "lineno") _) _ _ _); walk_at "set lineno") | (k_unfold; try dsimp only) | (k_end; wrow_close) | walk1 | (dsimp only; walk1) | (leave1; try dsimp only)))
              exact lexBrk (by assumption) (by assumption) hk' rfl rfl hd' (.inl ⟨rfl, rfl⟩) (.inl ⟨rfl, rfl, rfl⟩)
            | s97 hr hq =>
              cases hr
              (repeat' (first | (k_here; (with_reducible show wpAny _ _ (isTrue (Expr.BoolOp BoolOp.And [Expr.Compare (Expr.Constant _ _ _) [CmpOp.In] _ _, _] _) _ _) _ _ _); (fail_if_success (with_reducible show wpAny _ _ _ (TestT _ _) _ _)); refine stop9 ?_) | ((with_reducible show wpAny _ _ (call (Value.ref _) [Value.ref _, Value.int _ _]) _ _ _); refine stop9 ?_) | ((with_reducible show wpAny _ _ (compareOp CmpOp.In (Value.str _ _) (Value.str _ _)) _ _ _); with_reducible refine in_S ?_) | ((with_reducible show wpAny _ _ (compareOp CmpOp.NotIn (Value.str _ _) (Value.str _ _)) _ _ _); with_reducible refine notIn_S ?_) | ((with_reducible show wpAny _ _ (truthy (Value.str _ _)) _ _ _); with_reducible refine' truthy_S ?tsz ?_; (case tsz => first | with_reducible assumption | decide | lia); intro tk') | ((with_reducible show wpAny _ _ (setAttr _ (PySem.Str.ofString "state") _) _ _ _); walk_at "set state") | ((with_reducible show wpAny _ _ (setAttr _ (PySem.Str.ofString "token") _) _ _ _); walk_at "set token") | ((with_reducible show wpAny _ _ (setAttr _ (PySem.Str.ofString "lineno") _) _ _ _); walk_at "set lineno") | (k_unfold; try dsimp only) | (k_end; wrow_close) | walk1 | (dsimp only; walk1) | (leave1; try dsimp only)))
              all_goals exact lexBrk (by assumption) (by first | assumption | exact drop1 (by assumption)) hk' rfl rfl hd' (.inl ⟨rfl, rfl⟩) (.inr ⟨rfl, hq⟩)
            | s39 hr => cases hr
            | s34 hr => cases hr
          | cons c r =>
            have h0 := congrArg List.length hrem
            rw [List.length_drop, hlen, List.length_cons] at h0
            have hk1 : k + 1 ≤ K.x.length := Nat.lt_of_sub_eq_succ h0
            have hmin : min (k + 1) K.x.length = k + 1 := Nat.min_eq_left hk1
            have hd' : (cs K.x).drop (min (k + 1) K.x.length) = r := by
              rw [hmin, ← List.tail_drop, hrem]; rfl
            have hlt : K.x.length - min (k + 1) K.x.length < n := by rw [hmin, hn]; exact Nat.sub_lt_sub_left hk1 (Nat.lt_succ_self k)
            have ht1 : tok.length + 1 ≤ min (k + 1) K.x.length := by rw [hmin]; exact Nat.add_le_add_right htl 1
            have ht0 : tok.length ≤ min (k + 1) K.x.length := Nat.le_of_succ_le ht1
            have htb : tok.length ≤ 1000000 := Nat.le_trans htl (Nat.le_trans hk (Nat.le_trans hx (Nat.le_of_ble_eq_true rfl)))
            clear hk1 hmin
            replace hch : cs ch = [c] := hch
            have hne := ne_one hch
            have hcb : ch.length ≤ 1048576 := by rw [len_one hch]; decide
            have hcl : ch.length = 1 := len_one hch
            have hws := inS_ws hch
            have hcm := inS_no hch
            clear hrem hn h0 hkk
            generalize min (k + 1) K.x.length = k' at *
            subst hd'
            cases hst with
            | s32 hr =>
              rw [Mine.tk, if_pos rfl] at hr
              by_cases w1 : wsp c = true
              · rw [if_pos w1] at hr
                rw [w1] at hws
                (repeat' (first | (k_here; (with_reducible show wpAny _ _ (isTrue (Expr.BoolOp BoolOp.And [Expr.Compare (Expr.Constant _ _ _) [CmpOp.In] _ _, _] _) _ _) _ _ _); (fail_if_success (with_reducible show wpAny _ _ _ (TestT _ _) _ _)); refine stop9 ?_) | ((with_reducible show wpAny _ _ (call (Value.ref _) [Value.ref _, Value.int _ _]) _ _ _); refine stop9 ?_) | ((with_reducible show wpAny _ _ (compareOp CmpOp.In (Value.str _ _) (Value.str _ _)) _ _ _); with_reducible refine in_S ?_) | ((with_reducible show wpAny _ _ (compareOp CmpOp.NotIn (Value.str _ _) (Value.str _ _)) _ _ _); with_reducible refine notIn_S ?_) | ((with_reducible show wpAny _ _ (truthy (Value.str _ _)) _ _ _); with_reducible refine' truthy_S ?tsz ?_; (case tsz => first | with_reducible assumption | decide | lia); intro tk') | ((with_reducible show wpAny _ _ (setAttr _ (PySem.Str.ofString "state") _) _ _ _); walk_at "set state") | ((with_reducible show wpAny _ _ (setAttr _ (PySem.Str.ofString "token") _) _ _ _); walk_at "set token") | ((with_reducible show wpAny _ _ (setAttr _ (PySem.Str.ofString "lineno") _) _ _ _); walk_at "set lineno") | (k_unfold; try dsimp only) | (k_end; wrow_close) | walk1 | (dsimp only; walk1) | (leave1; try dsimp only)))
                exact lexStep (.inr rfl) (by assumption) (by first | assumption | exact drop1 (by assumption)) hlt hk' ht0 rfl rfl (.s32 hr)
              · rw [if_neg w1] at hr
                replace w1 : wsp c = false := by simpa using w1
                rw [w1] at hws
                by_cases h92 : c = 92
                · rw [if_pos h92] at hr; cases hr
                · rw [if_neg h92] at hr
                  have hes := inS_esc hch h92
                  by_cases hqq : c = 39 ∨ c = 34
                  · rw [if_pos hqq] at hr
                    rcases hqq with e | e
                    · subst e
                      have e : ch = Str.ofString "'" := cs_ext hch
                      have hwc : inS ch K.wc = false := by rw [e]; exact h39
                      have hqs : inS ch (Str.ofString "'\"") = true := by rw [e]; exact f39
                      (repeat' (first | (k_here; (with_reducible show wpAny _ _ (isTrue (Expr.BoolOp BoolOp.And [Expr.Compare (Expr.Constant _ _ _) [CmpOp.In] _ _, _] _) _ _) _ _ _); (fail_if_success (with_reducible show wpAny _ _ _ (TestT _ _) _ _)); refine stop9 ?_) | ((with_reducible show wpAny _ _ (call (Value.ref _) [Value.ref _, Value.int _ _]) _ _ _); refine stop9 ?_) | ((with_reducible show wpAny _ _ (compareOp CmpOp.In (Value.str _ _) (Value.str _ _)) _ _ _); with_reducible refine in_S ?_) | ((with_reducible show wpAny _ _ (compareOp CmpOp.NotIn (Value.str _ _) (Value.str _ _)) _ _ _); with_reducible refine notIn_S ?_) | ((with_reducible show wpAny _ _ (truthy (Value.str _ _)) _ _ _); with_reducible refine' truthy_S ?tsz ?_; (case tsz => first | with_reducible assumption | decide | lia); intro tk') | ((with_reducible show wpAny _ _ (setAttr _ (PySem.Str.ofString "state") _) _ _ _); walk_at "set state") | ((with_reducible show wpAny _ _ (setAttr _ (PySem.Str.ofString "token") _) _ _ _); walk_at "set token") | ((with_reducible show wpAny _ _ (setAttr _ (PySem.Str.ofString "lineno") _) _ _ _); walk_at "set lineno") | (k_unfold; try dsimp only) | (k_end; wrow_close) | walk1 | (dsimp only; walk1) | (leave1; try dsimp only)))
                      exact lexStep (.inl rfl) (by assumption) (by first | assumption | exact drop1 (by assumption)) hlt hk' ht0 rfl rfl (by rw [e]; exact .s39 hr)
                    · subst e
                      have e : ch = Str.ofString "\"" := cs_ext hch
                      have hwc : inS ch K.wc = false := by rw [e]; exact h34
                      have hqs : inS ch (Str.ofString "'\"") = true := by rw [e]; exact f34
                      (repeat' (first | (k_here; (with_reducible show wpAny _ _ (isTrue (Expr.BoolOp BoolOp.And [Expr.Compare (Expr.Constant _ _ _) [CmpOp.In] _ _, _] _) _ _) _ _ _); (fail_if_success (with_reducible show wpAny _ _ _ (TestT _ _) _ _)); refine stop9 ?_) | ((with_reducible show wpAny _ _ (call (Value.ref _) [Value.ref _, Value.int _ _]) _ _ _); refine stop9 ?_) | ((with_reducible show wpAny _ _ (compareOp CmpOp.In (Value.str _ _) (Value.str _ _)) _ _ _); with_reducible refine in_S ?_) | ((with_reducible show wpAny _ _ (compareOp CmpOp.NotIn (Value.str _ _) (Value.str _ _)) _ _ _); with_reducible refine notIn_S ?_) | ((with_reducible show wpAny _ _ (truthy (Value.str _ _)) _ _ _); with_reducible refine' truthy_S ?tsz ?_; (case tsz => first | with_reducible assumption | decide | lia); intro tk') | ((with_reducible show wpAny _ _ (setAttr _ (PySem.Str.ofString "state") _) _ _ _); walk_at "set state") | ((with_reducible show wpAny _ _ (setAttr _ (PySem.Str.ofString "token") _) _ _ _); walk_at "set token") | ((with_reducible show wpAny _ _ (setAttr _ (PySem.Str.ofString "lineno") _) _ _ _); walk_at "set lineno") | (k_unfold; try dsimp only) | (k_end; wrow_close) | walk1 | (dsimp only; walk1) | (leave1; try dsimp only)))
                      exact lexStep (.inl rfl) (by assumption) (by first | assumption | exact drop1 (by assumption)) hlt hk' ht0 rfl rfl (by rw [e]; exact .s34 hr)
                  · rw [if_neg hqq] at hr
                    have hqs := inS_q hch (fun e => hqq (.inl e)) (fun e => hqq (.inr e))
                    (repeat' (first | (k_here; (with_reducible show wpAny _ _ (isTrue (Expr.BoolOp BoolOp.And [Expr.Compare (Expr.Constant _ _ _) [CmpOp.In] _ _, _] _) _ _) _ _ _); (fail_if_success (with_reducible show wpAny _ _ _ (TestT _ _) _ _)); refine stop9 ?_) | ((with_reducible show wpAny _ _ (call (Value.ref _) [Value.ref _, Value.int _ _]) _ _ _); refine stop9 ?_) | ((with_reducible show wpAny _ _ (compareOp CmpOp.In (Value.str _ _) (Value.str _ _)) _ _ _); with_reducible refine in_S ?_) | ((with_reducible show wpAny _ _ (compareOp CmpOp.NotIn (Value.str _ _) (Value.str _ _)) _ _ _); with_reducible refine notIn_S ?_) | ((with_reducible show wpAny _ _ (truthy (Value.str _ _)) _ _ _); with_reducible refine' truthy_S ?tsz ?_; (case tsz => first | with_reducible assumption | decide | lia); intro tk') | ((with_reducible show wpAny _ _ (setAttr _ (PySem.Str.ofString "state") _) _ _ _); walk_at "set state") | ((with_reducible show wpAny _ _ (setAttr _ (PySem.Str.ofString "token") _) _ _ _); walk_at "set token") | ((with_reducible show wpAny _ _ (setAttr _ (PySem.Str.ofString "lineno") _) _ _ _); walk_at "set lineno") | (k_unfold; try dsimp only) | (k_end; wrow_close) | walk1 | (dsimp only; walk1) | (leave1; try dsimp only)))
                    all_goals exact lexStep (.inl rfl) (by assumption) (by first | assumption | exact drop1 (by assumption)) hlt hk' (by rw [hcl]; exact ht1) rfl rfl (.s97 (by rw [hch]; exact hr) (.inl (bne_iff_ne.mp hne)))
            | s97 hr hq =>
              rw [Mine.tk, if_neg (by decide), if_pos rfl] at hr
              generalize hs : Str.ofString "a" = sS at N5
              have e1 : (sS == Str.ofString " ") = false := by rw [← hs]; rfl
              have e2 : inS sS (Str.ofString "'\"") = false := by rw [← hs]; exact fa1
              have e3 : inS sS (Str.ofString "\\") = false := by rw [← hs]; exact fa2
              have e4 : (sS == Str.ofString "c") = false := by rw [← hs]; rfl
              have e5 : (sS == Str.ofString "a") = true := by rw [← hs]; rfl
              have e6 : ([sS, Str.ofString "c"].any fun x => x == sS) = true := by simp
              by_cases w1 : wsp c = true
              · rw [if_pos w1] at hr
                rw [w1] at hws
                cases hr
                rcases id hq with htok | hq1
                · have htn : (tok != Str.ofString "") = true := bne_iff_ne.mpr htok
                  (repeat' (first | (k_here; (with_reducible show wpAny _ _ (isTrue (Expr.BoolOp BoolOp.And [Expr.Compare (Expr.Constant _ _ _) [CmpOp.In] _ _, _] _) _ _) _ _ _); (fail_if_success (with_reducible show wpAny _ _ _ (TestT _ _) _ _)); refine stop9 ?_) | ((with_reducible show wpAny _ _ (call (Value.ref _) [Value.ref _, Value.int _ _]) _ _ _); refine stop9 ?_) | ((with_reducible show wpAny _ _ (compareOp CmpOp.In (Value.str _ _) (Value.str _ _)) _ _ _); with_reducible refine in_S ?_) | ((with_reducible show wpAny _ _ (compareOp CmpOp.NotIn (Value.str _ _) (Value.str _ _)) _ _ _); with_reducible refine notIn_S ?_) | ((with_reducible show wpAny _ _ (truthy (Value.str _ _)) _ _ _); with_reducible refine' truthy_S ?tsz ?_; (case tsz => first | with_reducible assumption | decide | lia); intro tk') | ((with_reducible show wpAny _ _ (setAttr _ (PySem.Str.ofString "state") _) _ _ _); walk_at "set state") | ((with_reducible show wpAny _ _ (setAttr _ (PySem.Str.ofString "token") _) _ _ _); walk_at "set token") | ((with_reducible show wpAny _ _ (setAttr _ (PySem.Str.ofString "lineno") _) _ _ _); walk_at "set lineno") | (k_unfold; try dsimp only) | (k_end; wrow_close) | walk1 | (dsimp only; walk1) | (leave1; try dsimp only)))
                  exact lexBrk (by assumption) (by first | assumption | exact drop1 (by assumption) | exact drop1 (drop1 (by assumption))) hk' rfl rfl rfl (.inr ⟨_, rfl⟩) (.inr ⟨rfl, hq⟩)
                · subst hq1
                  (repeat' (first | (k_here; (with_reducible show wpAny _ _ (isTrue (Expr.BoolOp BoolOp.And [Expr.Compare (Expr.Constant _ _ _) [CmpOp.In] _ _, _] _) _ _) _ _ _); (fail_if_success (with_reducible show wpAny _ _ _ (TestT _ _) _ _)); refine stop9 ?_) | ((with_reducible show wpAny _ _ (call (Value.ref _) [Value.ref _, Value.int _ _]) _ _ _); refine stop9 ?_) | ((with_reducible show wpAny _ _ (compareOp CmpOp.In (Value.str _ _) (Value.str _ _)) _ _ _); with_reducible refine in_S ?_) | ((with_reducible show wpAny _ _ (compareOp CmpOp.NotIn (Value.str _ _) (Value.str _ _)) _ _ _); with_reducible refine notIn_S ?_) | ((with_reducible show wpAny _ _ (truthy (Value.str _ _)) _ _ _); with_reducible refine' truthy_S ?tsz ?_; (case tsz => first | with_reducible assumption | decide | lia); intro tk') | ((with_reducible show wpAny _ _ (setAttr _ (PySem.Str.ofString "state") _) _ _ _); walk_at "set state") | ((with_reducible show wpAny _ _ (setAttr _ (PySem.Str.ofString "token") _) _ _ _); walk_at "set token") | ((with_reducible show wpAny _ _ (setAttr _ (PySem.Str.ofString "lineno") _) _ _ _); walk_at "set lineno") | (k_unfold; try dsimp only) | (k_end; wrow_close) | walk1 | (dsimp only; walk1) | (leave1; try dsimp only)))
                  all_goals exact lexBrk (by assumption) (by first | assumption | exact drop1 (by assumption) | exact drop1 (drop1 (by assumption))) hk' rfl rfl rfl (.inr ⟨_, rfl⟩) (.inr ⟨rfl, hq⟩)
              · rw [if_neg w1] at hr
                replace w1 : wsp c = false := by simpa using w1
                rw [w1] at hws
                by_cases hqq : c = 39 ∨ c = 34
                · rw [if_pos hqq] at hr
                  have hqs : inS ch (Str.ofString "'\"") = true := by
                    rw [inS_one hch]; rcases hqq with e | e <;> (subst e; rfl)
                  (repeat' (first | (k_here; (with_reducible show wpAny _ _ (isTrue (Expr.BoolOp BoolOp.And [Expr.Compare (Expr.Constant _ _ _) [CmpOp.In] _ _, _] _) _ _) _ _ _); (fail_if_success (with_reducible show wpAny _ _ _ (TestT _ _) _ _)); refine stop9 ?_) | ((with_reducible show wpAny _ _ (call (Value.ref _) [Value.ref _, Value.int _ _]) _ _ _); refine stop9 ?_) | ((with_reducible show wpAny _ _ (compareOp CmpOp.In (Value.str _ _) (Value.str _ _)) _ _ _); with_reducible refine in_S ?_) | ((with_reducible show wpAny _ _ (compareOp CmpOp.NotIn (Value.str _ _) (Value.str _ _)) _ _ _); with_reducible refine notIn_S ?_) | ((with_reducible show wpAny _ _ (truthy (Value.str _ _)) _ _ _); with_reducible refine' truthy_S ?tsz ?_; (case tsz => first | with_reducible assumption | decide | lia); intro tk') | ((with_reducible show wpAny _ _ (setAttr _ (PySem.Str.ofString "state") _) _ _ _); walk_at "set state") | ((with_reducible show wpAny _ _ (setAttr _ (PySem.Str.ofString "token") _) _ _ _); walk_at "set token") | ((with_reducible show wpAny _ _ (setAttr _ (PySem.Str.ofString "lineno") _) _ _ _); walk_at "set lineno") | (k_unfold; try dsimp only) | (k_end; wrow_close) | walk1 | (dsimp only; walk1) | (leave1; try dsimp only)))
                  rcases hqq with e | e
                  · subst e
                    have e : ch = Str.ofString "'" := cs_ext hch
                    exact lexStep (.inl rfl) (by assumption) (by first | assumption | exact drop1 (by assumption) | exact drop1 (drop1 (by assumption))) hlt hk' ht0 rfl rfl (by rw [e]; exact .s39 hr)
                  · subst e
                    have e : ch = Str.ofString "\"" := cs_ext hch
                    exact lexStep (.inl rfl) (by assumption) (by first | assumption | exact drop1 (by assumption) | exact drop1 (drop1 (by assumption))) hlt hk' ht0 rfl rfl (by rw [e]; exact .s34 hr)
                · rw [if_neg hqq] at hr
                  by_cases h92 : c = 92
                  · rw [if_pos h92] at hr; cases hr
                  · rw [if_neg h92] at hr
                    have hes := inS_esc hch h92
                    have hqs := inS_q hch (fun e => hqq (.inl e)) (fun e => hqq (.inr e))
                    have hsz : tok.length + ch.length ≤ 1048576 := by lia
                    (repeat' (first | (k_here; (with_reducible show wpAny _ _ (isTrue (Expr.BoolOp BoolOp.And [Expr.Compare (Expr.Constant _ _ _) [CmpOp.In] _ _, _] _) _ _) _ _ _); (fail_if_success (with_reducible show wpAny _ _ _ (TestT _ _) _ _)); refine stop9 ?_) | ((with_reducible show wpAny _ _ (call (Value.ref _) [Value.ref _, Value.int _ _]) _ _ _); refine stop9 ?_) | ((with_reducible show wpAny _ _ (compareOp CmpOp.In (Value.str _ _) (Value.str _ _)) _ _ _); with_reducible refine in_S ?_) | ((with_reducible show wpAny _ _ (compareOp CmpOp.NotIn (Value.str _ _) (Value.str _ _)) _ _ _); with_reducible refine notIn_S ?_) | ((with_reducible show wpAny _ _ (truthy (Value.str _ _)) _ _ _); with_reducible refine' truthy_S ?tsz ?_; (case tsz => first | with_reducible assumption | decide | lia); intro tk') | ((with_reducible show wpAny _ _ (setAttr _ (PySem.Str.ofString "state") _) _ _ _); walk_at "set state") | ((with_reducible show wpAny _ _ (setAttr _ (PySem.Str.ofString "token") _) _ _ _); walk_at "set token") | ((with_reducible show wpAny _ _ (setAttr _ (PySem.Str.ofString "lineno") _) _ _ _); walk_at "set lineno") | (k_unfold; try dsimp only) | (k_end; wrow_close) | walk1 | (dsimp only; walk1) | (leave1; try dsimp only)))
                    all_goals exact lexStep (.inl rfl) (by assumption) (by first | assumption | exact drop1 (by assumption) | exact drop1 (drop1 (by assumption))) hlt hk' (app_len hch ht1) rfl rfl (by rw [← hs]; exact .s97 (by rw [cs_app, hch]; exact hr) (.inl (app_ne hch)))
            | s39 hr =>
              rw [Mine.tk, if_neg (by decide), if_neg (by decide)] at hr
              generalize hs : Str.ofString "'" = sS at N5
              have e1 : (sS == Str.ofString " ") = false := by rw [← hs]; rfl
              have e2 : inS sS (Str.ofString "'\"") = true := by rw [← hs]; exact f39
              have e3 : inS sS (Str.ofString "\"") = false := by rw [← hs]; exact fe39
              have hsz : tok.length + ch.length ≤ 1048576 := by lia
              by_cases hq : c = 39
              · rw [if_pos hq] at hr
                subst hq
                have e : ch = sS := (cs_ext hch : ch = Str.ofString "'").trans hs
                have e4 : (ch == sS) = true := by rw [e]; simp
                (repeat' (first | (k_here; (with_reducible show wpAny _ _ (isTrue (Expr.BoolOp BoolOp.And [Expr.Compare (Expr.Constant _ _ _) [CmpOp.In] _ _, _] _) _ _) _ _ _); (fail_if_success (with_reducible show wpAny _ _ _ (TestT _ _) _ _)); refine stop9 ?_) | ((with_reducible show wpAny _ _ (call (Value.ref _) [Value.ref _, Value.int _ _]) _ _ _); refine stop9 ?_) | ((with_reducible show wpAny _ _ (compareOp CmpOp.In (Value.str _ _) (Value.str _ _)) _ _ _); with_reducible refine in_S ?_) | ((with_reducible show wpAny _ _ (compareOp CmpOp.NotIn (Value.str _ _) (Value.str _ _)) _ _ _); with_reducible refine notIn_S ?_) | ((with_reducible show wpAny _ _ (truthy (Value.str _ _)) _ _ _); with_reducible refine' truthy_S ?tsz ?_; (case tsz => first | with_reducible assumption | decide | lia); intro tk') | ((with_reducible show wpAny _ _ (setAttr _ (PySem.Str.ofString "state") _) _ _ _); walk_at "set state") | ((with_reducible show wpAny _ _ (setAttr _ (PySem.Str.ofString "token") _) _ _ _); walk_at "set token") | ((with_reducible show wpAny _ _ (setAttr _ (PySem.Str.ofString "lineno") _) _ _ _); walk_at "set lineno") | (k_unfold; try dsimp only) | (k_end; wrow_close) | walk1 | (dsimp only; walk1) | (leave1; try dsimp only)))
                exact lexStep (.inl rfl) (by assumption) (by first | assumption | exact drop1 (by assumption) | exact drop1 (drop1 (by assumption))) hlt hk' ht0 rfl rfl (.s97 hr (.inr rfl))
              · rw [if_neg hq, if_neg (by simp)] at hr
                have e4 : (ch == sS) = false := by
                  rw [← hs]; refine beq_eq_false_iff_ne.mpr fun e => hq ?_
                  rw [e] at hch; exact (List.head_eq_of_cons_eq hch).symm
                (repeat' (first | (k_here; (with_reducible show wpAny _ _ (isTrue (Expr.BoolOp BoolOp.And [Expr.Compare (Expr.Constant _ _ _) [CmpOp.In] _ _, _] _) _ _) _ _ _); (fail_if_success (with_reducible show wpAny _ _ _ (TestT _ _) _ _)); refine stop9 ?_) | ((with_reducible show wpAny _ _ (call (Value.ref _) [Value.ref _, Value.int _ _]) _ _ _); refine stop9 ?_) | ((with_reducible show wpAny _ _ (compareOp CmpOp.In (Value.str _ _) (Value.str _ _)) _ _ _); with_reducible refine in_S ?_) | ((with_reducible show wpAny _ _ (compareOp CmpOp.NotIn (Value.str _ _) (Value.str _ _)) _ _ _); with_reducible refine notIn_S ?_) | ((with_reducible show wpAny _ _ (truthy (Value.str _ _)) _ _ _); with_reducible refine' truthy_S ?tsz ?_; (case tsz => first | with_reducible assumption | decide | lia); intro tk') | ((with_reducible show wpAny _ _ (setAttr _ (PySem.Str.ofString "state") _) _ _ _); walk_at "set state") | ((with_reducible show wpAny _ _ (setAttr _ (PySem.Str.ofString "token") _) _ _ _); walk_at "set token") | ((with_reducible show wpAny _ _ (setAttr _ (PySem.Str.ofString "lineno") _) _ _ _); walk_at "set lineno") | (k_unfold; try dsimp only) | (k_end; wrow_close) | walk1 | (dsimp only; walk1) | (leave1; try dsimp only)))
                all_goals exact lexStep (.inl rfl) (by assumption) (by first | assumption | exact drop1 (by assumption) | exact drop1 (drop1 (by assumption))) hlt hk' (app_len hch ht1) rfl rfl (by rw [← hs]; exact .s39 (by rw [cs_app, hch]; exact hr))
            | s34 hr =>
              rw [Mine.tk, if_neg (by decide), if_neg (by decide)] at hr
              generalize hs : Str.ofString "\"" = sS at N5
              have e1 : (sS == Str.ofString " ") = false := by rw [← hs]; rfl
              have e2 : inS sS (Str.ofString "'\"") = true := by rw [← hs]; exact f34
              have hsz : tok.length + ch.length ≤ 1048576 := by lia
              by_cases hq : c = 34
              · rw [if_pos hq] at hr
                subst hq
                have e : ch = sS := (cs_ext hch : ch = Str.ofString "\"").trans hs
                have e4 : (ch == sS) = true := by rw [e]; simp
                (repeat' (first | (k_here; (with_reducible show wpAny _ _ (isTrue (Expr.BoolOp BoolOp.And [Expr.Compare (Expr.Constant _ _ _) [CmpOp.In] _ _, _] _) _ _) _ _ _); (fail_if_success (with_reducible show wpAny _ _ _ (TestT _ _) _ _)); refine stop9 ?_) | ((with_reducible show wpAny _ _ (call (Value.ref _) [Value.ref _, Value.int _ _]) _ _ _); refine stop9 ?_) | ((with_reducible show wpAny _ _ (compareOp CmpOp.In (Value.str _ _) (Value.str _ _)) _ _ _); with_reducible refine in_S ?_) | ((with_reducible show wpAny _ _ (compareOp CmpOp.NotIn (Value.str _ _) (Value.str _ _)) _ _ _); with_reducible refine notIn_S ?_) | ((with_reducible show wpAny _ _ (truthy (Value.str _ _)) _ _ _); with_reducible refine' truthy_S ?tsz ?_; (case tsz => first | with_reducible assumption | decide | lia); intro tk') | ((with_reducible show wpAny _ _ (setAttr _ (PySem.Str.ofString "state") _) _ _ _); walk_at "set state") | ((with_reducible show wpAny _ _ (setAttr _ (PySem.Str.ofString "token") _) _ _ _); walk_at "set token") | ((with_reducible show wpAny _ _ (setAttr _ (PySem.Str.ofString "lineno") _) _ _ _); walk_at "set lineno") | (k_unfold; try dsimp only) | (k_end; wrow_close) | walk1 | (dsimp only; walk1) | (leave1; try dsimp only)))
                exact lexStep (.inl rfl) (by assumption) (by first | assumption | exact drop1 (by assumption) | exact drop1 (drop1 (by assumption))) hlt hk' ht0 rfl rfl (.s97 hr (.inr rfl))
              · rw [if_neg hq] at hr
                by_cases h92 : c = 92
                · rw [if_pos ⟨h92, rfl⟩] at hr; cases hr
                · rw [if_neg (fun e => h92 e.1)] at hr
                  have hes := inS_esc hch h92
                  have e4 : (ch == sS) = false := by
                    rw [← hs]; refine beq_eq_false_iff_ne.mpr fun e => hq ?_
                    rw [e] at hch; exact (List.head_eq_of_cons_eq hch).symm
                  (repeat' (first | (k_here; (with_reducible show wpAny _ _ (isTrue (Expr.BoolOp BoolOp.And [Expr.Compare (Expr.Constant _ _ _) [CmpOp.In] _ _, _] _) _ _) _ _ _); (fail_if_success (with_reducible show wpAny _ _ _ (TestT _ _) _ _)); refine stop9 ?_) | ((with_reducible show wpAny _ _ (call (Value.ref _) [Value.ref _, Value.int _ _]) _ _ _); refine stop9 ?_) | ((with_reducible show wpAny _ _ (compareOp CmpOp.In (Value.str _ _) (Value.str _ _)) _ _ _); with_reducible refine in_S ?_) | ((with_reducible show wpAny _ _ (compareOp CmpOp.NotIn (Value.str _ _) (Value.str _ _)) _ _ _); with_reducible refine notIn_S ?_) | ((with_reducible show wpAny _ _ (truthy (Value.str _ _)) _ _ _); with_reducible refine' truthy_S ?tsz ?_; (case tsz => first | with_reducible assumption | decide | lia); intro tk') | ((with_reducible show wpAny _ _ (setAttr _ (PySem.Str.ofString "state") _) _ _ _); walk_at "set state") | ((with_reducible show wpAny _ _ (setAttr _ (PySem.Str.ofString "token") _) _ _ _); walk_at "set token") | ((with_reducible show wpAny _ _ (setAttr _ (PySem.Str.ofString "lineno") _) _ _ _); walk_at "set lineno") | (k_unfold; try dsimp only) | (k_end; wrow_close) | walk1 | (dsimp only; walk1) | (leave1; try dsimp only)))
                  all_goals exact lexStep (.inl rfl) (by assumption) (by first | assumption | exact drop1 (by assumption) | exact drop1 (drop1 (by assumption))) hlt hk' (app_len hch ht1) rfl rfl (by rw [← hs]; exact .s34 (by rw [cs_app, hch]; exact hr))
  · intro s2 zz; refine foldP ?_; intro Gz; obtain ⟨h2, tk2, m2, S2, q, tok, tt2, ln2, lt2, kt2, n3, n4, k2, e, F2, hk2, hm1, hm2, N2, hrem, hS2, hres⟩ := zz
    subst e
    replace F2 := fr_two F2 hm1 hm2
    clear hm1 hm2
    (try dsimp only)
    k_sweep
    rcases hres with ⟨hr, e1, e2⟩ | ⟨hr, hq⟩
    · subst e1 e2
      (repeat' (first | (k_here; (with_reducible show wpAny _ _ (isTrue (Expr.BoolOp BoolOp.And [Expr.Compare (Expr.Constant _ _ _) [CmpOp.In] _ _, _] _) _ _) _ _ _); (fail_if_success (with_reducible show wpAny _ _ _ (TestT _ _) _ _)); refine stop9 ?_) | ((with_reducible show wpAny _ _ (call (Value.ref _) [Value.ref _, Value.int _ _]) _ _ _); refine stop9 ?_) | ((with_reducible show wpAny _ _ (compareOp CmpOp.In (Value.str _ _) (Value.str _ _)) _ _ _); with_reducible refine in_S ?_) | ((with_reducible show wpAny _ _ (compareOp CmpOp.NotIn (Value.str _ _) (Value.str _ _)) _ _ _); with_reducible refine notIn_S ?_) | ((with_reducible show wpAny _ _ (truthy (Value.str _ _)) _ _ _); with_reducible refine' truthy_S ?tsz ?_; (case tsz => first | with_reducible assumption | decide | lia); intro tk') | ((with_reducible show wpAny _ _ (setAttr _ (PySem.Str.ofString "state") _) _ _ _); walk_at "set state") | ((with_reducible show wpAny _ _ (setAttr _ (PySem.Str.ofString "token") _) _ _ _); walk_at "set token") | ((with_reducible show wpAny _ _ (setAttr _ (PySem.Str.ofString "lineno") _) _ _ _); walk_at "set lineno") | (k_unfold; try dsimp only) | (k_end; wrow_close) | walk1 | (dsimp only; walk1) | (leave1; try dsimp only)))
      exact hQ (by assumption) (by assumption) ⟨S2, _, ln2, lt2, kt2, n3, n4, k2, hk2, rfl, hrem, hS2, .inl ⟨hr, rfl⟩⟩
    · rcases hq with htok | hq
      · have hb : (tok == Str.ofString "") = false := by simpa using htok
        (repeat' (first | (k_here; (with_reducible show wpAny _ _ (isTrue (Expr.BoolOp BoolOp.And [Expr.Compare (Expr.Constant _ _ _) [CmpOp.In] _ _, _] _) _ _) _ _ _); (fail_if_success (with_reducible show wpAny _ _ _ (TestT _ _) _ _)); refine stop9 ?_) | ((with_reducible show wpAny _ _ (call (Value.ref _) [Value.ref _, Value.int _ _]) _ _ _); refine stop9 ?_) | ((with_reducible show wpAny _ _ (compareOp CmpOp.In (Value.str _ _) (Value.str _ _)) _ _ _); with_reducible refine in_S ?_) | ((with_reducible show wpAny _ _ (compareOp CmpOp.NotIn (Value.str _ _) (Value.str _ _)) _ _ _); with_reducible refine notIn_S ?_) | ((with_reducible show wpAny _ _ (truthy (Value.str _ _)) _ _ _); with_reducible refine' truthy_S ?tsz ?_; (case tsz => first | with_reducible assumption | decide | lia); intro tk') | ((with_reducible show wpAny _ _ (setAttr _ (PySem.Str.ofString "state") _) _ _ _); walk_at "set state") | ((with_reducible show wpAny _ _ (setAttr _ (PySem.Str.ofString "token") _) _ _ _); walk_at "set token") | ((with_reducible show wpAny _ _ (setAttr _ (PySem.Str.ofString "lineno") _) _ _ _); walk_at "set lineno") | (k_unfold; try dsimp only) | (k_end; wrow_close) | walk1 | (dsimp only; walk1) | (leave1; try dsimp only)))
        all_goals exact hQ (by assumption) (by assumption) ⟨S2, _, ln2, lt2, kt2, n3, n4, k2, hk2, rfl, hrem, hS2, .inr ⟨tok, tt2, hr, rfl⟩⟩
      · subst hq
        (repeat' (first | (k_here; (with_reducible show wpAny _ _ (isTrue (Expr.BoolOp BoolOp.And [Expr.Compare (Expr.Constant _ _ _) [CmpOp.In] _ _, _] _) _ _) _ _ _); (fail_if_success (with_reducible show wpAny _ _ _ (TestT _ _) _ _)); refine stop9 ?_) | ((with_reducible show wpAny _ _ (call (Value.ref _) [Value.ref _, Value.int _ _]) _ _ _); refine stop9 ?_) | ((with_reducible show wpAny _ _ (compareOp CmpOp.In (Value.str _ _) (Value.str _ _)) _ _ _); with_reducible refine in_S ?_) | ((with_reducible show wpAny _ _ (compareOp CmpOp.NotIn (Value.str _ _) (Value.str _ _)) _ _ _); with_reducible refine notIn_S ?_) | ((with_reducible show wpAny _ _ (truthy (Value.str _ _)) _ _ _); with_reducible refine' truthy_S ?tsz ?_; (case tsz => first | with_reducible assumption | decide | lia); intro tk') | ((with_reducible show wpAny _ _ (setAttr _ (PySem.Str.ofString "state") _) _ _ _); walk_at "set state") | ((with_reducible show wpAny _ _ (setAttr _ (PySem.Str.ofString "token") _) _ _ _); walk_at "set token") | ((with_reducible show wpAny _ _ (setAttr _ (PySem.Str.ofString "lineno") _) _ _ _); walk_at "set lineno") | (k_unfold; try dsimp only) | (k_end; wrow_close) | walk1 | (dsimp only; walk1) | (leave1; try dsimp only)))
        exact hQ (by assumption) (by assumption) ⟨S2, _, ln2, lt2, kt2, n3, n4, k2, hk2, rfl, hrem, hS2, .inr ⟨tok, tt2, hr, rfl⟩⟩
end
section
set_option maxHeartbeats 4000000
noncomputable abbrev nextN (w : World) (K : LexK) (S tok ln : Value) (k : Nat) (kt : Tok) (n1 n2 : Nat) : List (Addr × Obj) :=
  [(K.lx, instObj 867 K.dlx), (K.dlx, dictOf (lexEs w K.t K.u K.si K.dq1 K.dq2 K.wc S tok ln) n1), (K.si, instObj 732 K.dsi), (K.dsi, dictOf (sioEs w K.a K.b K.c (.str K.x K.tx) (.int (k : Nat) kt)) n2), (K.dq1, dqObj 0), (K.dq2, dqObj 0)]
inductive nextP (w : World) (K : LexK) (res : Option (List Nat) × List Nat) (v : Value) (nw : List (Addr × Obj)) : Prop
  | mk (S : Value) (tt : Tok) (ln : Int) (lt kt : Tok) (n1 n2 k : Nat) (_ : k ≤ K.x.length) (_ : nw = nextN w K S (.str (Str.ofString "") tt) (.int ln lt) k kt n1 n2) (_ : (cs K.x).drop k = res.2) (_ : S = .none ∧ res.2 = [] ∨ ∃ t, S = .str (Str.ofString " ") t)
    (_ : ∃ y t, res.1 = some (cs y) ∧ v = .str y t) : nextP w K res v nw
theorem c_next (w : World) (K : LexK) (res : Option (List Nat) × List Nat) (S : Value) (tt lt kt : Tok) (ln : Int) (n1 n2 k : Nat) (hx : K.x.length ≤ 65536) (hk : k ≤ K.x.length) (hst : LexSt res S false (Str.ofString "") ((cs K.x).drop k))
    (h39 : inS (Str.ofString "'") K.wc = false) (h34 : inS (Str.ofString "\"") K.wc = false) (l1 : @LT.lt Nat _ K.dsi K.si) (l2 : @LT.lt Nat _ K.dlx K.dsi) (l3 : @LT.lt Nat _ K.dlx K.lx) (l4 : @Ne Nat K.lx K.dsi) (l5 : @Ne Nat K.lx K.si)
    (l6 : ∀ p ∈ [K.lx, K.dlx, K.si, K.dsi], @LT.lt Nat _ p K.dq1 ∧ @LT.lt Nat _ p K.dq2) :
    ClaimS w 6 864 [.ref K.lx] (nextN w K S (.str (Str.ofString "") tt) (.int ln lt) k kt n1 n2) (nextP w K res) (res.1 = none) := by
  unfold ClaimS; k_fill
  intro dp un gd cn cs' a ccd cl outer A₀ base h₀ L m p loose mean mg mb s B F X T hkk N hd hu env henv
  cases henv
  k_dflt (refine' enterS (EE := fun g e s' => res.1 = none ∧ StopE s (_ :: outer) g e s') [("self", .ref K.lx)] _ N B F X T ?kA ?kF ?kK ?k6 ?k7 ?k8 ?k9 ?kB ?_ ?c2; ((case kA => exact rfl); (case kF => exact rfl); (case kK => assumption); (case k6 => k_is); (case k7 => k_is); (case k8 => ktr_room); (case k9 => exact BindsTo.of_eq rfl); (case kB => exact rfl); (case c2 => exact rfl); k_whole))
  clear T X B F N
  intro g L' h' F' N' B' X' T' Qf Ef hQ hE
  (try dsimp only)
  refine foldAE ?_; intro ee AA
  (repeat' (first | ((with_reducible show wpAny _ _ (call (Value.ref 835) _ _) _ _ _); refine stop9 ?_) | (k_unfold; try dsimp only) | (k_end; wrow_close) | walk1 | (dsimp only; walk1) | (leave1; try dsimp only)))
  unfold Stop9
  (try dsimp only [List.append_nil, List.nil_append, List.cons_append])
  (with_reducible rename News _ _ _ _ => N9)
  k_dflt (refine' useM (c_read_token w K res S tt lt kt ln n1 n2 k hx hk hst h39 h34 l1 l2 l3 l4 l5) [(K.dq1, dqObj 0), (K.dq2, dqObj 0)] ?k1 ?k2 ?k3 ?k4 ?k5 ?N ?Nk ?hdj ?k7 ?k8 ?_)
  case k1 => k_asm
  case k2 => k_asm
  case k3 => k_asm
  case k4 => k_asm
  case k5 => exact rfl
  case k7 => ktr_room
  case k8 => ktr_units
  case N => exact fun p hp => N9 p (List.mem_append_left (as := [_, _, _, _]) _ hp)
  case Nk => exact fun p hp => N9 p (.tail _ (.tail _ (.tail _ (.tail _ hp))))
  case hdj =>
    intro p hp q hq
    simp only [List.mem_cons, List.not_mem_nil, or_false, forall_eq_or_imp, forall_eq] at hp hq l6
    obtain ⟨⟨a1, a2⟩, ⟨b1, b2⟩, ⟨c1, c2⟩, d1, d2⟩ := l6
    rcases hp with rfl | rfl <;> rcases hq with rfl | rfl | rfl | rfl <;> (show @Ne Nat _ _; first | walk_at "mN" | lia)
  intro v h3 tk3 nw F3 N3 zz; refine foldP ?_; intro Gz; obtain ⟨S2, tt2, ln2, lt2, kt2, n3, n4, k2, hk2, e, hd2, hS2, hv⟩ := zz
  subst e
  clear N9
  k_sweep
  (try dsimp only [List.cons_append, List.nil_append] at N3)
  rcases hv with ⟨hr, rfl⟩ | ⟨y, ty, hr, rfl⟩
  · (repeat' (first | ((with_reducible show wpAny _ _ (call (Value.ref 835) _ _) _ _ _); refine stop9 ?_) | (k_unfold; try dsimp only) | (k_end; wrow_close) | walk1 | (dsimp only; walk1) | (leave1; try dsimp only)))
    refine hE _ _ ?_
    (with_reducible rename Heap.MadeExc _ _ _ _ _ => hM)
    (with_reducible rename Fr _ _ _ _ => F9)
    refine wpAny_mono (stop_leaves (s0 := s) B' rfl rfl rfl F9 hM fun _ _ => rfl) (fun _ s'' hz => ⟨hr, hz⟩) fun _ _ x => x
  · (repeat' (first | ((with_reducible show wpAny _ _ (call (Value.ref 835) _ _) _ _ _); refine stop9 ?_) | (k_unfold; try dsimp only) | (k_end; wrow_close) | walk1 | (dsimp only; walk1) | (leave1; try dsimp only)))
    unfold Stop9
    k_dflt (refine' While_inv2 (fun _ m1 nw => m1 = ?M ∧ nw = ?NW) (n₀ := 0) ?F ?N ⟨rfl, rfl⟩ ?turn ?kE)
    case F => k_asm
    case N => k_asm
    case kE => passes_own
    case turn =>
      intro n m1 nw h1 tk1 F1 N1 zz; refine foldP ?_; intro Gz; obtain ⟨e1, e2⟩ := zz
      subst e1 e2
      k_sweep
      (repeat' (first | ((with_reducible show wpAny _ _ (call (Value.ref 835) _ _) _ _ _); refine stop9 ?_) | (k_unfold; try dsimp only) | (k_end; wrow_close) | walk1 | (dsimp only; walk1) | (leave1; try dsimp only)))
      exact hQ (by assumption) (by assumption) ⟨S2, tt2, ln2, lt2, kt2, n3, n4, k2, hk2, rfl, hd2, hS2, y, ty, hr, rfl⟩
end
section
set_option maxHeartbeats 4000000
noncomputable def tl (l : List Tok) (i : Nat) : Tok := l.getD i 0
inductive splitJ (w : World) (K : LexK) (ts : List (List Nat)) (hs : Heap) (L : Addr) (m : Str → Option Value) (i : Nat) (h : Heap) : Prop
  | mk (S : Value) (tt : Tok) (ln : Int) (lt kt : Tok) (n1 n2 k : Nat) (_ : Fr hs L h m) (_ : News hs L h (nextN w K S (.str (Str.ofString "") tt) (.int ln lt) k kt n1 n2)) (_ : k ≤ K.x.length ∧ (S = .none ∧ (cs K.x).drop k = [] ∨ ∃ t, S = .str (Str.ofString " ") t) ∧ Toks ((cs K.x).drop k) (ts.drop i)) : splitJ w K ts hs L m i h
theorem splitJ_stab {w : World} {K : LexK} {ts : List (List Nat)} {hs h h' : Heap} {L N : Addr} {m : Str → Option Value} {i : Nat} (hL : L < N) (hN : ∀ p ∈ [K.lx, K.dlx, K.si, K.dsi, K.dq1, K.dq2], p < N) (J : splitJ w K ts hs L m i h) (k : ∀ b o, b < N → h.get? b = some o → h'.get? b = some o) : splitJ w K ts hs L m i h' := by
  obtain ⟨S, tt, ln, lt, kt, n1, n2, kk, F, Nw, r⟩ := J
  obtain ⟨oL, es, ep, hL', q⟩ := F.ns
  refine ⟨S, tt, ln, lt, kt, n1, n2, kk, ⟨⟨oL, es, ep, k _ _ hL hL', q⟩, fun b o e => k b o (Nat.lt_trans (Nat.lt_of_lt_of_le (Heap.lt_size e) F.above) hL) (F.keep b o e), F.above⟩, fun p hp => ⟨k _ _ ?_ (Nw p hp).1, (Nw p hp).2⟩, r⟩
  simp only [List.mem_cons, List.not_mem_nil, or_false] at hp
  rcases hp with rfl | rfl | rfl | rfl | rfl | rfl <;> exact hN _ (by simp)
theorem lexSt_of {S : Value} {rem : List Nat} {res : Option (List Nat) × List Nat} (hS : S = .none ∧ rem = [] ∨ ∃ t, S = .str (Str.ofString " ") t) (h : Mine.tk 32 [] rem = some res) : LexSt res S false (Str.ofString "") rem := by
  rcases hS with ⟨rfl, rfl⟩ | ⟨t, rfl⟩
  · have e : res = (none, []) := (Option.some.inj h).symm
    exact .eof e
  · exact .s32 h
theorem hide_none2 {h : Heap} {as : List Addr} {b : Addr} (e : h.get? b = none) : (hideAll h as).get? b = none := by
  cases q : (hideAll h as).get? b with
  | none => rfl
  | some o => have := of_hideAll _ q; rw [e] at this; cases this
theorem c_iter (w : World) (x : Addr) : Claim w 1 857 [.ref x] (fun _ => True) (fun _ v _ => v = .ref x) := by
  unfold Claim; k_fill
  intro dp un gd cn cs a ccd cl outer A₀ base h₀ L m p loose mean mg mb s B F X T hk _ hd hu
  k_dflt (refine' enterN [("self", .ref x)] B F X T ?kA ?kF ?kK ?k6 ?k7 ?k8 ?k9 ?kB ?_ ?c2; ((case kA => exact rfl); (case kF => exact rfl); (case kK => assumption); (case k6 => k_is); (case k7 => k_is); (case k8 => ktr_room); (case k9 => exact BindsTo.of_eq rfl); (case kB => exact rfl); (case c2 => exact rfl); k_whole))
  clear T X B F
  intro L' h' F' N' B' X' T' Qf hQ; (try dsimp only)
  refine foldAE ?_; intro ee AA
  (repeat' (first | ((fail_if_success (have _q : Around := AA2)); (with_reducible show wpAny _ (Around.deeper _ _) (execs (Stmt.If (Expr.Call _ _ _ _) _ _ _ :: _) _) _ _ _); refine foldAI ?ihd ?ihu ?_; (case ihd => exact (roomD1 (k := 6) hd rfl : dp + 6 < recursionLimit)); (case ihu => exact (unitsD1 (k := 31) hu rfl : un + 31 < cLine)); intro ee2 AA2 hA1 hA2; (with_reducible rename Fr _ _ _ _ => FI); replace FI : Fr _ _ _ (fun y => List.lookup y [(Str.ofString "punctuation_chars", _), (Str.ofString "posix", _), (Str.ofString "infile", _), (Str.ofString "instream", _), (Str.ofString "self", _)]) := FI) | ((with_reducible show wpAny _ _ (call (Value.ref 732) [Value.str _ _]) _ _ _); refine stop9 ?_) | (k_unfold; try dsimp only) | (k_end; wrow_close) | walk1 | (dsimp only; walk1) | (leave1; try dsimp only)))
  exact hQ (by assumption) rfl
section
variable {w : World} {K : LexK} {ts : List (List Nat)} {dp un : Nat} {gd : Option (List Code)} {cn : Str} {cs' : Scope} {a : Addr} {ccd : Value} {cl : List (Str × Addr)} {outer : List Env} {A₀ : Around} {base hs : Heap} {L N : Addr} {m : Str → Option Value}
    {p : Program} {loose : List Str} {mean : ExcName → Option Value} {mg mb : Str → Option Value}
theorem split_self (B : Below A₀ base outer hs) (X : (Mine.K w.params).In hs) (T : Top p loose mean mg mb hs) (hk : cs'.kind = .function) (hd : dp + 7 < recursionLimit) (hu : un + 56 < cLine)
    (s : Shared) (Q E : Value → Shared → Prop) (J : splitJ w K ts hs L m 0 s.heap) (k : ∀ h' tk, splitJ w K ts hs L m 0 h' → (∀ b o, N ≤ b → s.heap.get? b = some o → h'.get? b = some o) → Q (.ref K.lx) { s with heap := h', toks := tk }) :
    wpAny (model PySem.Challenge.rw_in0312_01.row.prog w) (ktrTop dp un gd cn cs' L a ccd cl outer) (pyIter (.ref K.lx)) Q E s := by
  obtain ⟨S, tt, ln, lt, kt, n1, n2, kk, F, Nw, r⟩ := J
  refine owit_iter (f := 857) F X (InstAt.of_news Nw (.head _) (.tail _ (.head _))) (by kernel_rfl) (by kernel_rfl) ?_
  refine use (c_iter w K.lx) B F X Nw T hk trivial (by omega) (by omega) fun v h' tk' F' N' g hv => ?_
  subst hv
  exact owit_it (g := .ref 864) F' X (InstAt.of_news N' (.head _) (.tail _ (.head _))) (by kernel_rfl) (k h' tk' ⟨S, tt, ln, lt, kt, n1, n2, kk, F', N', r⟩ fun b o _ e => g b o e)
theorem split_it (hx : K.x.length ≤ 65536) (h39 : inS (Str.ofString "'") K.wc = false) (h34 : inS (Str.ofString "\"") K.wc = false) (l1 : @LT.lt Nat _ K.dsi K.si) (l2 : @LT.lt Nat _ K.dlx K.dsi) (l3 : @LT.lt Nat _ K.dlx K.lx) (l4 : @Ne Nat K.lx K.dsi) (l5 : @Ne Nat K.lx K.si)
    (l6 : ∀ p ∈ [K.lx, K.dlx, K.si, K.dsi], @LT.lt Nat _ p K.dq1 ∧ @LT.lt Nat _ p K.dq2) (hLN : L < N) (hN : ∀ p ∈ [K.lx, K.dlx, K.si, K.dsi, K.dq1, K.dq2], p < N) (hoN : ∀ b ∈ outer.filterMap (·.frame), b < N)
    (B : Below A₀ base outer hs) (X : (Mine.K w.params).In hs) (T : Top p loose mean mg mb hs) (hk : cs'.kind = .function) (hd : dp + 7 < recursionLimit) (hu : un + 56 < cLine) :
    ItK PySem.Challenge.rw_in0312_01.row.prog w (ktrTop dp un gd cn cs' L a ccd cl outer) K.lx N (.ref 867) ts.length (fun i v => ∃ y t, ts[i]? = some (cs y) ∧ v = .str y t) (splitJ w K ts hs L m)
      (fun h => (hid hs outer).StaysIn h ∧ hs.UpToSlots h) where
  low := hN _ (.head _)
  stab := fun i h h' J k => splitJ_stab hLN hN J k
  cls := ⟨rfl, rfl⟩
  ty := fun M _ s Q E J q => by
    obtain ⟨S, tt, ln, lt, kt, n1, n2, kk, F, Nw, r⟩ := J
    exact Looks.here ((Looks.ld (Nw.get (.head _))).andThen .now : Looks M s.heap (typeOf (.ref K.lx)) (.ref 867)) q
  nolen := fun M _ s Q E J q => by
    obtain ⟨S, tt, ln, lt, kt, n1, n2, kk, F, Nw, r⟩ := J
    unfold specialOf
    exact wpAny_bind (Looks.here ((Looks.ld (Nw.get (.head _))).andThen .now : Looks M s.heap (typeOf (.ref K.lx)) (.ref 867)) (Looks.here (Looks.of_peek (X.keeps F.keep) (by kernel_rfl)) q))
  nohint := fun M _ s Q E J q => by
    obtain ⟨S, tt, ln, lt, kt, n1, n2, kk, F, Nw, r⟩ := J
    unfold specialOf
    exact wpAny_bind (Looks.here ((Looks.ld (Nw.get (.head _))).andThen .now : Looks M s.heap (typeOf (.ref K.lx)) (.ref 867)) (Looks.here (Looks.of_peek (X.keeps F.keep) (by kernel_rfl)) q))
  item := fun i s Q E hi J k => by
    obtain ⟨S, tt, ln, lt, kt, n1, n2, kk, F, Nw, hkk, hS, hT⟩ := J
    rw [List.drop_eq_getElem_cons hi] at hT
    cases hT with
    | cons e1 e2 =>
      refine owit_next (f := 864) F X (InstAt.of_news Nw (.head _) (.tail _ (.head _))) (by kernel_rfl) (by kernel_rfl) ?_
      refine wpAny_mono (c_next w K _ S tt lt kt ln n1 n2 kk hx hkk (lexSt_of hS e1) h39 h34 l1 l2 l3 l4 l5 l6 dp un gd cn cs' a ccd cl outer A₀ base hs L m p loose mean mg mb s B F X T hk Nw (by omega) (by omega) _ rfl) (fun v s' hv => ?_) fun e s' he => nomatch he.1
      obtain ⟨h', tk', nw, e, k1, k2, S', tt', ln', lt', kt', n1', n2', kk', hkk', hnw, hdr, hS', y, ty, hr, rfl⟩ := hv
      subst e hnw
      obtain ⟨F', N'⟩ := backM (keep := []) F Nw k1 k2 News.nil (fun p hp => nomatch hp)
      rw [List.append_nil] at N'
      refine k _ h' tk' ⟨y, ty, by rw [List.getElem?_eq_getElem hi]; exact hr, rfl⟩ ⟨S', tt', ln', lt', kt', n1', n2', kk', F', N', hkk', ?_, by rw [hdr]; exact e2⟩ fun b o hb e => k1 b o (hideAll_get _ e fun hm => ?_)
      · rw [hdr]; exact hS'
      · have hb' : b ∈ [K.lx, K.dlx, K.si, K.dsi, K.dq1, K.dq2] := hm
        exact absurd (hN b hb') (Nat.not_lt.mpr hb)
  done := fun s Q E J k => by
    obtain ⟨S, tt, ln, lt, kt, n1, n2, kk, F, Nw, hkk, hS, hT⟩ := J
    rw [List.drop_length] at hT
    cases hT with
    | nil e1 =>
      refine owit_next (f := 864) F X (InstAt.of_news Nw (.head _) (.tail _ (.head _))) (by kernel_rfl) (by kernel_rfl) ?_
      refine wpAny_mono (c_next w K _ S tt lt kt ln n1 n2 kk hx hkk (lexSt_of hS e1) h39 h34 l1 l2 l3 l4 l5 l6 dp un gd cn cs' a ccd cl outer A₀ base hs L m p loose mean mg mb s B F X T hk Nw (by omega) (by omega) _ rfl) (fun v s' hv => ?_) fun e s' he => ?_
      · obtain ⟨h', tk', nw, e, k1, k2, S', tt', ln', lt', kt', n1', n2', kk', hkk', hnw, hdr, hS', y, ty, hr, rfl⟩ := hv
        cases hr
      · obtain ⟨-, ea, a0, h', tk', rfl, rfl, hfl, hup⟩ := he
        obtain ⟨ob, hob, hoc⟩ := hfl.there
        have nads : ∀ b o, hs.get? b = some o → b ∉ (nextN w K S (.str (Str.ofString "") tt) (.int ln lt) kk kt n1 n2).map Prod.fst := fun b o q hm => by
          obtain ⟨q', hq', e⟩ := List.mem_map.mp hm
          rw [← e, (Nw q' hq').2.2] at q; cases q
        have nL : hs.get? L = none := Heap.get?_none_of_le F.above
        unfold OwitStop
        refine wpAny_isInstance (b := true) (T := "StopIteration") ⟨ob, hob, hoc⟩ (by rw [qS]; kernel_rfl) ?_
        rw [if_pos rfl]
        refine k h' tk' ⟨fun b o q => ?_, fun b o q hn => hup b o (hideAll_get _ (F.keep b o q) (nads b o q)) hn⟩ fun b o hb q => hfl.1 b o (hideAll_get _ (hideAll_get _ q fun hm => ?_) fun hm => ?_)
        · have q1 := of_hideAll _ q
          refine hfl.1 b o (hideAll_get _ (hideAll_get _ (F.keep b o q1) (nads b o q1)) fun hm => ?_)
          rcases List.mem_cons.mp hm with e | hm
          · rw [e, nL] at q1; cases q1
          · rw [show (hid hs outer).get? b = none from hideAll_none _ hm] at q; cases q
        · have hb' : b ∈ [K.lx, K.dlx, K.si, K.dsi, K.dq1, K.dq2] := hm
          exact absurd (hN b hb') (Nat.not_lt.mpr hb)
        · rcases List.mem_cons.mp hm with e | hm
          · rw [e] at hb; exact absurd hLN (Nat.not_lt.mpr hb)
          · exact absurd (hoN b hm) (Nat.not_lt.mpr hb)
end
theorem lex_start {w : World} {h₀ h : Heap} {L lx dlx si dsi dq1 dq2 : Addr} {news : List (Addr × Obj)} {t0 t1 t2 t3 t4 t5 t6 t7 t8 t9 t10 t11 t12 t13 t14 t15 t16 t17 t18 u0 u1 u2 u3 u4 u5 u6 u7 a b c tx st tt lt kt : Tok} {wc x : Str} {n1 n2 : Nat}
    (N : News h₀ L h news) (m1 : (lx, instObj 867 dlx) ∈ news)
    (m2 : (dlx, dictOf (lexEs w (tl [t0, t1, t2, t3, t4, t5, t6, t7, t8, t9, t10, t11, t12, t13, t14, t15, t16, t17, t18]) (tl [u0, u1, u2, u3, u4, u5, u6, u7]) si dq1 dq2 wc (.str (Str.ofString " ") st) (.str (Str.ofString "") tt) (.int 1 lt)) n1) ∈ news)
    (m3 : (si, instObj 732 dsi) ∈ news) (m4 : (dsi, dictOf (sioEs w a b c (.str x tx) (.int (0 : Nat) kt)) n2) ∈ news) (m5 : (dq1, dqObj 0) ∈ news) (m6 : (dq2, dqObj 0) ∈ news) :
    ∃ K : LexK, (K.lx = lx ∧ K.dlx = dlx ∧ K.si = si ∧ K.dsi = dsi ∧ K.dq1 = dq1 ∧ K.dq2 = dq2) ∧ K.wc = wc ∧ K.x = x ∧ News h₀ L h (nextN w K (.str (Str.ofString " ") st) (.str (Str.ofString "") tt) (.int 1 lt) 0 kt n1 n2) := by
  refine ⟨⟨lx, dlx, si, dsi, dq1, dq2, tl [t0, t1, t2, t3, t4, t5, t6, t7, t8, t9, t10, t11, t12, t13, t14, t15, t16, t17, t18], tl [u0, u1, u2, u3, u4, u5, u6, u7], a, b, c, tx, wc, x⟩, ⟨rfl, rfl, rfl, rfl, rfl, rfl⟩, rfl, rfl, fun p hp => ?_⟩
  simp only [List.mem_cons, List.not_mem_nil, or_false] at hp
  rcases hp with rfl | rfl | rfl | rfl | rfl | rfl
  · exact N _ m1
  · exact N _ m2
  · exact N _ m3
  · exact N _ m4
  · exact N _ m5
  · exact N _ m6
theorem strs_items : ∀ (l : List Value) (ts : List (List Nat)), l.length = ts.length → (∀ (i : Nat) (v : Value), l[i]? = some v → ∃ y t, ts[i]? = some (cs y) ∧ v = Value.str y t) → ∃ ys, StrsAre l ys ∧ ys.map cs = ts
  | [], [], _, _ => ⟨[], .nil, rfl⟩
  | v :: l, t :: ts, hl, h => by
    obtain ⟨y, ty, e1, rfl⟩ := h 0 v rfl
    obtain ⟨ys, h1, h2⟩ := strs_items l ts (Nat.succ.inj hl) fun i v hv => h (i + 1) v hv
    refine ⟨y :: ys, .cons y ty h1, ?_⟩
    rw [List.map_cons, h2]
    exact congrArg (· :: ts) (Option.some.inj e1).symm
theorem foldAI {M : Model} {A : Around} {b : List Stmt} {env : Env} {Q : Flow → Shared → Prop} {E : Value → Shared → Prop} {s : Shared} (hd : (A.deeper env).depth + 3 < recursionLimit) (hu : (A.deeper env).units + 8 * 3 < cLine)
    (H : let e' := env; let A' := A.deeper e'; A'.depth + 3 < recursionLimit → A'.units + 8 * 3 < cLine → wpAny M A' (execs b e') Q E s) : wpAny M (A.deeper env) (execs b env) Q E s := H hd hu
theorem c_split (w : World) (x : Str) (tx : Tok) (ts : List (List Nat)) (hx : x.length ≤ 65536) (hts : Toks (cs x) ts) (hn : ts.length ≤ 64) :
    ClaimL w 8 879 [.str x tx] (fun _ => True) (fun h v h' => ∃ D its k, v = .ref D ∧ h.get? D = none ∧ h'.get? D = some (W.listOf its k) ∧ ∃ ys, StrsAre its.toList ys ∧ ys.map cs = ts) := by
  unfold ClaimL; k_fill
  intro dp un gd cn cs' a ccd cl A₀ h₀ L m p loose mean mg mb s B F X T hk _ hd hu env henv
  cases henv
  k_dflt (refine' enterCL [("s", .str x tx), ("comments", .bool false), ("posix", .bool true)] B F X T ?kA ?kF ?kK ?k6 ?k7 ?k8 ?k9 ?kB ?kD ?_ ?c2; (case kA => exact rfl); (case kF => exact rfl); (case kK => assumption); (case k6 => k_is); (case k7 => k_is); (case k8 => ktr_room); (case k9 => exact binds_K (by k_in) rfl (by k_is) rfl rfl rfl); (case kB => exact rfl); (case kD => decide +kernel); (case c2 => exact rfl); k_whole)
  clear T X B F
  intro L' h' tk' cells' F' N' Y' B' X' T' Qf hQ
  cases Y'
  replace F' : Fr s.heap L' h' (fun y => if y = Str.ofString "posix" then some (.bool true) else if y = Str.ofString "comments" then some (.bool false) else if y = Str.ofString "s" then some (.str x tx) else none) := F'
  (try dsimp only)
  (repeat' (first | ((fail_if_success (have _q : Around := AA2)); (with_reducible show wpAny _ (Around.deeper _ _) (execs (Stmt.If (Expr.Call _ _ _ _) _ _ _ :: _) _) _ _ _); refine foldAI ?ihd ?ihu ?_; (case ihd => exact (roomD1 (k := 6) hd rfl : dp + 6 < recursionLimit)); (case ihu => exact (unitsD1 (k := 31) hu rfl : un + 31 < cLine)); intro ee2 AA2 hA1 hA2; (with_reducible rename Fr _ _ _ _ => FI); replace FI : Fr _ _ _ (fun y => List.lookup y [(Str.ofString "punctuation_chars", _), (Str.ofString "posix", _), (Str.ofString "infile", _), (Str.ofString "instream", _), (Str.ofString "self", _)]) := FI) | ((with_reducible show wpAny _ _ (call (Value.ref 732) [Value.str _ _]) _ _ _); refine stop9 ?_) | (k_unfold; try dsimp only) | (k_end; wrow_close) | walk1 | (dsimp only; walk1) | (leave1; try dsimp only)))
  unfold Stop9
  refine sio_type (by k_in) (fun Q' hq => ?_) fun tk => ?_
  · (repeat' (first | ((fail_if_success (have _q : Around := AA2)); (with_reducible show wpAny _ (Around.deeper _ _) (execs (Stmt.If (Expr.Call _ _ _ _) _ _ _ :: _) _) _ _ _); refine foldAI ?ihd ?ihu ?_; (case ihd => exact (roomD1 (k := 6) hd rfl : dp + 6 < recursionLimit)); (case ihu => exact (unitsD1 (k := 31) hu rfl : un + 31 < cLine)); intro ee2 AA2 hA1 hA2; (with_reducible rename Fr _ _ _ _ => FI); replace FI : Fr _ _ _ (fun y => List.lookup y [(Str.ofString "punctuation_chars", _), (Str.ofString "posix", _), (Str.ofString "infile", _), (Str.ofString "instream", _), (Str.ofString "self", _)]) := FI) | ((with_reducible show wpAny _ _ (call (Value.ref 732) [Value.str _ _]) _ _ _); refine stop9 ?_) | (k_unfold; try dsimp only) | (k_end; wrow_close) | walk1 | (dsimp only; walk1) | (leave1; try dsimp only)))
    exact hq _
  · (repeat' (first | ((fail_if_success (have _q : Around := AA2)); (with_reducible show wpAny _ (Around.deeper _ _) (execs (Stmt.If (Expr.Call _ _ _ _) _ _ _ :: _) _) _ _ _); refine foldAI ?ihd ?ihu ?_; (case ihd => exact (roomD1 (k := 6) hd rfl : dp + 6 < recursionLimit)); (case ihu => exact (unitsD1 (k := 31) hu rfl : un + 31 < cLine)); intro ee2 AA2 hA1 hA2; (with_reducible rename Fr _ _ _ _ => FI); replace FI : Fr _ _ _ (fun y => List.lookup y [(Str.ofString "punctuation_chars", _), (Str.ofString "posix", _), (Str.ofString "infile", _), (Str.ofString "instream", _), (Str.ofString "self", _)]) := FI) | ((with_reducible show wpAny _ _ (call (Value.ref 732) [Value.str _ _]) _ _ _); refine stop9 ?_) | (k_unfold; try dsimp only) | (k_end; wrow_close) | walk1 | (dsimp only; walk1) | (leave1; try dsimp only)))
    unfold SioMid
    refine ⟨_, _, rfl, by k_in, News.get (by k_asm) (.head _), ?_⟩
    (repeat' (first | ((fail_if_success (have _q : Around := AA2)); (with_reducible show wpAny _ (Around.deeper _ _) (execs (Stmt.If (Expr.Call _ _ _ _) _ _ _ :: _) _) _ _ _); refine foldAI ?ihd ?ihu ?_; (case ihd => exact (roomD1 (k := 6) hd rfl : dp + 6 < recursionLimit)); (case ihu => exact (unitsD1 (k := 31) hu rfl : un + 31 < cLine)); intro ee2 AA2 hA1 hA2; (with_reducible rename Fr _ _ _ _ => FI); replace FI : Fr _ _ _ (fun y => List.lookup y [(Str.ofString "punctuation_chars", _), (Str.ofString "posix", _), (Str.ofString "infile", _), (Str.ofString "instream", _), (Str.ofString "self", _)]) := FI) | ((with_reducible show wpAny _ _ (call (Value.ref 732) [Value.str _ _]) _ _ _); refine stop9 ?_) | (k_unfold; try dsimp only) | (k_end; wrow_close) | walk1 | (dsimp only; walk1) | (leave1; try dsimp only)))
    (with_reducible rename News _ _ _ _ => N9)
    (with_reducible rename Fr _ _ _ _ => F9)
    obtain ⟨K, ⟨e1, e2, e3, e4, e5, e6⟩, hwc, hKx, NK⟩ := lex_start N9 (by k_dflt k_mem) (by k_dflt k_mem) (by k_dflt k_mem) (by k_dflt k_mem) (by k_dflt k_mem) (by k_dflt k_mem)
    obtain ⟨mm, FM⟩ : ∃ mm, Fr s.heap L' _ mm := ⟨_, F9⟩
    clear F9
    clear N9
    subst e1 e2 e3 e4 e5 e6
    have hlt : ∀ b ∈ [K.lx, K.dlx, K.si, K.dsi, K.dq1, K.dq2], b < _ := fun b hb => by
      obtain ⟨p, hp, e⟩ := List.mem_map.mp (show b ∈ (nextN w K _ _ _ _ _ _ _).map Prod.fst from hb)
      exact e ▸ Heap.lt_size (NK p hp).1
    refine' itk_list ?K ?hself ?hN ?hJ ?hn ?fin
    case K =>
      k_dflt (refine' split_it (K := K) (ts := ts) (hs := s.heap) (m := mm) ?hx ?h39 ?h34 ?l1 ?l2 ?l3 ?l4 ?l5 ?l6 ?hLN hlt ?hoN B' X' T' ?hk ?hd ?hu)
      case hx => rw [hKx]; exact hx
      case h39 => rw [hwc]; kernel_rfl
      case h34 => rw [hwc]; kernel_rfl
      case hk => exact rfl
      case hd => ktr_room
      case hu => ktr_units
      case hLN => exact FM.ns.lt
      case hoN =>
        intro b hb
        obtain ⟨_, o, ho, _⟩ := B'.frames.mem hb
        exact Heap.lt_size (FM.keep _ _ ho)
      case l6 =>
        intro p hp
        simp only [List.mem_cons, List.not_mem_nil, or_false] at hp
        rcases hp with rfl | rfl | rfl | rfl <;> (refine ⟨?_, ?_⟩ <;> (show @LT.lt Nat _ _ _; first | walk_at "mD" | omega))
      all_goals first | (show @LT.lt Nat _ _ _; walk_at "mD") | (show @Ne Nat _ _; walk_at "mN") | omega
    case hself =>
      intro s Q E J k
      k_dflt (refine' split_self (K := K) (ts := ts) (m := mm) B' X' T' ?hk ?hd ?hu s Q E J k)
      case hk => exact rfl
      case hd => ktr_room
      case hu => ktr_units
    case hN => exact Nat.le_refl _
    case hJ => exact ⟨_, _, 1, _, _, _, _, 0, FM, NK, Nat.zero_le _, .inr ⟨_, rfl⟩, by rw [hKx, List.drop_zero, List.drop_zero]; exact hts⟩
    case hn => exact Nat.le_trans hn (Nat.le_of_ble_eq_true rfl)
    case fin =>
      intro h2 tk2 acc q ⟨st, up⟩ hD hacc
      refine hQ st up ⟨_, acc, q, rfl, Heap.get?_none_of_le (Nat.le_trans FM.above (Nat.le_of_lt FM.ns.lt)), hD, ?_⟩
      exact strs_items acc.toList ts (by rw [Array.length_toList]; exact hacc.1) fun i v hv => hacc.2 i v (by simpa using hv)
end
noncomputable def RQ (v y : Value) : Prop := ∃ p t, y = .str p t ∧ p.length ≤ 80
noncomputable def RI (v y : Value) : Prop := ∃ p t, y = .str p t ∧ p.length ≤ 3
theorem ints_mem {vs : List Value} {ns : List Int} (h : IntsAre vs ns) (v : Value) (hv : v ∈ vs) : ∃ n t, v = Value.int n t := by
  induction h with
  | nil => cases hv
  | cons n t h ih =>
    rcases List.mem_cons.mp hv with rfl | hv
    · exact ⟨_, _, rfl⟩
    · exact ih hv
theorem pick_ints {vs : List Value} {ns : List Int} (h : IntsAre vs ns) {lo hi st : Option Int} {i : Nat} {v : Value} (e : (slicePick vs.toArray lo hi st)[i]? = some v) : ∃ n t, v = Value.int n t := by
  have e2 : (slicePick vs.toArray lo hi st).toList[i]? = some v := by simpa using e
  exact ints_mem (h.pick lo hi st) v (List.mem_of_getElem? e2)
theorem pick_size {vs : List Value} {ns : List Int} (h : IntsAre vs (List.take 12 ns ++ [3, 3, 3, 4, 2, 5])) {lo hi st : Option Int} : (slicePick vs.toArray lo hi st).size ≤ 18 := by
  have h1 := slicePick_size_le vs.toArray lo hi st
  have h2 := h.length
  rw [List.length_append, List.length_take] at h2
  have h3 : vs.toArray.size = vs.length := by simp
  have h4 : [(3 : Int), 3, 3, 4, 2, 5].length = 6 := rfl
  lia
theorem paired_RI {vs ys : List Value} (p : Paired RI vs ys) : ∃ zs, StrsAre ys zs ∧ zs.length = vs.length ∧ (zs.map (·.length)).sum ≤ 3 * zs.length := by
  induction p with
  | nil => exact ⟨[], .nil, rfl, Nat.le_refl _⟩
  | cons h p ih =>
    obtain ⟨a, t, rfl, ha⟩ := h
    obtain ⟨zs, h1, h2, h3⟩ := ih
    refine ⟨a :: zs, .cons _ _ h1, by rw [List.length_cons, List.length_cons, h2], ?_⟩
    rw [List.map_cons, List.sum_cons, List.length_cons]
    lia
theorem join_names {zs : List Str} {n : Nat} (h1 : zs.length = n) (h2 : n ≤ 18) (h3 : (zs.map (·.length)).sum ≤ 3 * zs.length) :
    (Txt.join (Str.ofString "/") zs).length ≤ 80 ∧ (zs.map (·.length)).sum + zs.length * (Str.ofString "/").length ≤ 16777216 := by
  have h := len_join1 (sep := Str.ofString "/") rfl zs
  rw [show (Str.ofString "/").length = 1 from rfl]
  lia
section
variable {prog : Program} {w : World} {A : Around} {E : Value → Shared → Prop} {s : Shared} {h₀ : Heap} {L : Addr} {m : Str → Option Value} {news : List (Addr × Obj)}
theorem sliceGL {value e1 e2 : Expr} {p1 : Pos} {l : Addr} {its : Array Value} {vl vu vk : Value} {lo hi st : Option Int} {ops : List Value} {Q : Value → Shared → Prop}
    (F : Fr h₀ L s.heap m) (N : News h₀ L s.heap news) (hl : s.heap.IsList l its) (pl : IsPart vl lo) (pu : IsPart vu hi) (pk : IsPart vk st) (h0 : st ≠ some 0) (hz : its.size ≤ sizeLine)
    (h : ∀ D h', Fr h₀ L h' m → News h₀ L h' ((D, W.listOf (slicePick its lo hi st) 0) :: news) → Grow s.heap h' → Q (.ref D) { s with heap := h' })
    (hs : subscripted (.Slice (some e1) none (some e2) p1) false (.ref l) (.ref s.heap.objs.size) = operate ops (getItem (.ref l) (.ref s.heap.objs.size)))
    (ht : ∀ r, letTemporaryGo value (.ref l) r = pure ()) :
    wpAny (model prog w) A (subscriptTail value (.Slice (some e1) none (some e2) p1) (.ref l) (.ref s.heap.objs.size)) Q E { s with heap := s.heap.push { cls := .type "slice", data := .fields #[vl, vu, vk] } } := by
  have g1 : Grow s.heap (s.heap.push { cls := .type "slice", data := .fields #[vl, vu, vk] }) := fun _ _ e => Heap.get?_push_of_some _ e
  have hl1 := hl.push { cls := .type "slice", data := .fields #[vl, vu, vk] }
  have hk := wpAny_getItem_list_slice (prog := prog) (w := w) (A := A) (E := E) (s := { s with heap := s.heap.push { cls := .type "slice", data := .fields #[vl, vu, vk] } }) (Q := Q) hl1 (Heap.IsSliceOf.new ..) pl pu pk h0
    (h _ _ ((F.push _).push _) (News.push (F.push _) (N.grown g1) _) fun _ _ e => Heap.get?_push_of_some _ (g1 _ _ e)) hz
  exact subscriptTail_ops (Heap.IsList.typeIs hl1) list_getitem_lookup hk hs ht
end
theorem ints18 {vs : List Value} {ns : List Int} (h : IntsAre vs (List.take 12 ns ++ [3, 3, 3, 4, 2, 5])) : vs.toArray.size ≤ sizeLine := by
  have h2 := h.length
  rw [List.length_append, List.length_take] at h2
  have h3 : vs.toArray.size = vs.length := by simp
  have h4 : [(3 : Int), 3, 3, 4, 2, 5].length = 6 := rfl
  rw [sizeLine_eq]
  lia
theorem back_hid {h₀ hs h' : Heap} {L : Addr} {m : Str → Option Value} {news : List (Addr × Obj)} {env : Env} (F : Fr h₀ L hs m) (N : News h₀ L hs news) (hf : env.frame = some L) (k : (hid hs [env]).StaysIn h') (u : hs.UpToSlots h') : Fr h₀ L h' m ∧ News h₀ L h' news := by
  have hL0 : h₀.get? L = none := by
    cases q : h₀.get? L with
    | none => rfl
    | some o => exact absurd (Nat.lt_of_lt_of_le (Heap.lt_size q) F.above) (Nat.lt_irrefl _)
  have e : [env].filterMap (·.frame) = [L] := by rw [List.filterMap_cons, hf]; rfl
  have st : ∀ b o, b ≠ L → hs.get? b = some o → h'.get? b = some o := fun b o n q => k b o (hideAll_get _ q (by rw [e]; exact fun hm => n (List.mem_singleton.mp hm)))
  refine ⟨F.of_stays (fun b o q => st b o (fun e => by rw [e, hL0] at q; cases q) (F.keep b o q)) u, fun p hp => ?_⟩
  obtain ⟨h1, h2, h3⟩ := N p hp
  exact ⟨st _ _ h2 h1, h2, h3⟩
theorem useL {w : World} {d : Nat} {f : Addr} {vs : List Value} {pre : Heap → Prop} {post : Heap → Value → Heap → Prop} (c : ClaimL w d f vs pre post)
    {dp un : Nat} {gd : Option (List Code)} {cn : Str} {cs : Scope} {a : Addr} {ccd : Value} {cl : List (Str × Addr)} {A₀ : Around} {h₀ : Heap} {L : Addr} {m : Str → Option Value}
    {p : Program} {loose : List Str} {mean : ExcName → Option Value} {mg mb : Str → Option Value} {s : Shared} {news : List (Addr × Obj)} {Q E : Value → Shared → Prop} {env : Env}
    (B : Below A₀ h₀ [] h₀) (F : Fr h₀ L s.heap m) (X : (Mine.K w.params).In h₀) (N : News h₀ L s.heap news) (T : Top p loose mean mg mb h₀) (hk : cs.kind = .function)
    (hp : pre s.heap) (hd : dp + d < recursionLimit) (hu : un + 8 * d < cLine) (hA : (ktrTop dp un gd cn cs L a ccd cl []).frames = some [env]) (hf : env.frame = some L)
    (h : ∀ v h' tk', Fr h₀ L h' m → News h₀ L h' news → (hid s.heap [env]).StaysIn h' → post s.heap v h' → Q v { s with heap := h', toks := tk' }) :
    wpAny (model PySem.Challenge.rw_in0312_01.row.prog w) (ktrTop dp un gd cn cs L a ccd cl []) (call (.ref f) vs) Q E s :=
  wpAny_mono (c dp un gd cn cs a ccd cl A₀ h₀ L m p loose mean mg mb s B F X T hk hp hd hu env hA)
    (fun v s' ⟨h', tk', e, k, u, hv⟩ => by subst e; have q := back_hid F N hf k u; exact h v h' tk' q.1 q.2 k hv) fun _ _ x => x.elim
theorem useLS {w : World} {d : Nat} {f : Addr} {vs : List Value} {pre : Heap → Prop} {R : List Value → Prop} (c : ClaimL w d f vs pre fun h v h' => ∃ D its k, v = .ref D ∧ h.get? D = none ∧ h'.get? D = some (W.listOf its k) ∧ R its.toList)
    {dp un : Nat} {gd : Option (List Code)} {cn : Str} {cs : Scope} {a : Addr} {ccd : Value} {cl : List (Str × Addr)} {A₀ : Around} {h₀ : Heap} {L : Addr} {m : Str → Option Value}
    {p : Program} {loose : List Str} {mean : ExcName → Option Value} {mg mb : Str → Option Value} {s : Shared} {news : List (Addr × Obj)} {Q E : Value → Shared → Prop} {env : Env}
    (B : Below A₀ h₀ [] h₀) (F : Fr h₀ L s.heap m) (X : (Mine.K w.params).In h₀) (N : News h₀ L s.heap news) (T : Top p loose mean mg mb h₀) (hk : cs.kind = .function)
    (hp : pre s.heap) (hd : dp + d < recursionLimit) (hu : un + 8 * d < cLine) (hA : (ktrTop dp un gd cn cs L a ccd cl []).frames = some [env]) (hf : env.frame = some L)
    (h : ∀ D its k h' tk', Fr h₀ L h' m → News h₀ L h' ((D, W.listOf its k) :: news) → AllNe D news → R its.toList → Q (.ref D) { s with heap := h', toks := tk' }) :
    wpAny (model PySem.Challenge.rw_in0312_01.row.prog w) (ktrTop dp un gd cn cs L a ccd cl []) (call (.ref f) vs) Q E s :=
  useL c B F X N T hk hp hd hu hA hf fun v h' tk' F' N' _ zz => by
    obtain ⟨D, its, k, e, h1, h2, hr⟩ := zz
    subst e
    exact h D its k h' tk' F' (NewObj.news ⟨h1, h2⟩ F N') (NewObj.ne (h := s.heap) (h' := h') ⟨h1, h2⟩ N) hr
noncomputable def dueR (x y z : Str) : List Str :=
  [lsR x, lsR y, lsR z] ++ [wayR (nS ++ x) (nS ++ z), wayR (nS ++ y) (nS ++ x), wayR (nS ++ z) (nS ++ y)] ++ (if Txt.startswith x nS = Txt.startswith y nS ∧ Txt.startswith y nS = Txt.startswith z nS then [shP x y z] else [])
theorem told_due (x y z : Str) : toldR x y z = dueR x y z := by
  unfold toldR dueR
  rw [np_ls, np_ls, np_ls, rp_way (starts_pre _) (starts_pre _), rp_way (starts_pre _) (starts_pre _), rp_way (starts_pre _) (starts_pre _)]; rfl
theorem way_lw (x y : Str) : wayR (nS ++ lwR x) (nS ++ lwR y) = lwR (wayR (nS ++ x) (nS ++ y)) := by
  rw [wayR_rel (starts_pre _) (starts_pre _), wayR_rel (starts_pre _) (starts_pre _), lw_pre, lw_pre, rel_lw]
theorem due_lw (x y z : Str) : toldR (lwR x) (lwR y) (lwR z) = (dueR x y z).map lwR := by
  rw [told_due]
  unfold dueR
  rw [ls_lw, ls_lw, ls_lw, way_lw, way_lw, way_lw, sh_lw, starts_lw, starts_lw, starts_lw]
  split <;> rfl
theorem due_len (x y z : Str) : (dueR x y z).length ≤ 7 := by
  unfold dueR; split <;> exact Nat.le_of_ble_eq_true rfl
theorem due_le {x y z : Str} (hx : x.length ≤ 80) (hy : y.length ≤ 80) (hz : z.length ≤ 80) : ∀ a ∈ dueR x y z, a.length ≤ 1100 := by
  have ls : ∀ {a : Str}, a.length ≤ 80 → (lsR a).length ≤ 1100 := fun {a} h => Nat.le_trans (len_lsR a (by lia)) (by lia)
  have wy : ∀ {a b : Str}, a.length ≤ 80 → b.length ≤ 80 → (wayR (nS ++ a) (nS ++ b)).length ≤ 1100 := fun {a b} ha hb =>
    Nat.le_trans (len_wayR _ _ (by rw [len_ns]; lia) (by rw [len_ns]; lia)) (by rw [len_ns, len_ns]; lia)
  have sh : (shP x y z).length ≤ 1100 := Nat.le_trans (len_shP x y z) (by lia)
  intro a ha
  unfold dueR at ha
  rcases List.mem_append.mp ha with ha | ha
  · simp only [List.cons_append, List.nil_append, List.mem_cons, List.not_mem_nil, or_false] at ha
    rcases ha with e | e | e | e | e | e
    · exact e ▸ ls hx
    · exact e ▸ ls hy
    · exact e ▸ ls hz
    · exact e ▸ wy hx hz
    · exact e ▸ wy hy hx
    · exact e ▸ wy hz hy
  · split at ha
    · exact List.mem_singleton.mp ha ▸ sh
    · cases ha
theorem cs_inj : ∀ {a b : List Str}, a.map cs = b.map cs → a = b
  | [], [], _ => rfl
  | [], _ :: _, h => nomatch h
  | _ :: _, [], h => nomatch h
  | x :: a, y :: b, h => by
    rw [List.map_cons, List.map_cons] at h
    obtain ⟨h1, h2⟩ := List.cons.inj h
    rw [cs_ext h1, cs_inj h2]
noncomputable def RW (x y z : Str) (v w : Value) : Prop := ∀ (i : Nat) t, v = .int (i : Nat) t → ∃ t', w = .str (wayR (nS ++ pick3 x y z i) (nS ++ pick3 z x y i)) t'
theorem paired_RW {x y z : Str} {vs ys : List Value} (hl : vs.length = 3) (h : ∀ j v, vs[j]? = some v → j < 3 ∧ ∃ t, v = Value.int (j : Nat) t) (P : Paired (RW x y z) vs ys) :
    StrsAre ys [wayR (nS ++ x) (nS ++ z), wayR (nS ++ y) (nS ++ x), wayR (nS ++ z) (nS ++ y)] := by
  obtain ⟨i1, i2, i3, rfl⟩ := three_int hl h
  obtain ⟨_, _, _, rfl, r1, r2, r3⟩ := paired3 P
  obtain ⟨t4, rfl⟩ := r1 0 _ rfl
  obtain ⟨t5, rfl⟩ := r2 1 _ rfl
  obtain ⟨t6, rfl⟩ := r3 2 _ rfl
  exact .cons _ _ (.cons _ _ (.cons _ _ .nil))
theorem two_sizes {a b : List Value} {zs : List Str} (h : StrsAre (a ++ b) zs) (hz : zs.length ≤ 1000) : a.toArray.size + b.toArray.size ≤ 1048576 := by
  have := strsAre_len h
  rw [List.length_append] at this
  rw [List.size_toArray, List.size_toArray]
  lia
theorem due_all {x y z : Str} {t : Tok} {ys2 ys3 : List Value} (h : StrsAre (ys2 ++ ys3) (List.map lsR [x, y, z] ++ [wayR (nS ++ x) (nS ++ z), wayR (nS ++ y) (nS ++ x), wayR (nS ++ z) (nS ++ y)])) :
    ∃ its : Array Value, ys2.toArray ++ ys3.toArray ++ (if Txt.startswith x nS = Txt.startswith y nS ∧ Txt.startswith y nS = Txt.startswith z nS then #[Value.str (shP x y z) t] else #[]) = its ∧ StrsAre its.toList (dueR x y z) ∧
      (ys2.toArray ++ ys3.toArray).size + (if Txt.startswith x nS = Txt.startswith y nS ∧ Txt.startswith y nS = Txt.startswith z nS then #[Value.str (shP x y z) t] else #[]).size ≤ 1048576 := by
  refine ⟨_, rfl, ?_, ?_⟩
  · rw [Array.toList_append, Array.toList_append]
    refine strsAre_app h ?_
    split
    · exact .cons _ _ .nil
    · exact .nil
  · have h1 := two_sizes h (Nat.le_of_ble_eq_true rfl)
    have h2 := strsAre_len h
    rw [List.length_append] at h2
    have h3 : (List.map lsR [x, y, z] ++ [wayR (nS ++ x) (nS ++ z), wayR (nS ++ y) (nS ++ x), wayR (nS ++ z) (nS ++ y)]).length = 6 := rfl
    rw [Array.size_append, List.size_toArray, List.size_toArray]
    split
    · show _ + 1 ≤ _; lia
    · show _ + 0 ≤ _; lia
theorem sum_lwR : ∀ ps : List Str, ((ps.map lwR).map (·.length)).sum ≤ 7 * (ps.map (·.length)).sum + 7 * ps.length
  | [] => Nat.le_refl _
  | p :: ps => by
    have h1 := sum_lwR ps
    have h2 := len_lwR p
    rw [List.map_cons, List.map_cons, List.map_cons, List.sum_cons, List.sum_cons, List.length_cons]
    lia
theorem sum_le {b : Nat} : ∀ {ps : List Str}, (∀ a ∈ ps, a.length ≤ b) → (ps.map (·.length)).sum ≤ b * ps.length
  | [], _ => Nat.zero_le _
  | p :: ps, h => by
    have h1 := sum_le fun a ha => h a (.tail _ ha)
    have h2 := h p (.head _)
    rw [List.map_cons, List.sum_cons, List.length_cons, Nat.mul_succ]
    lia
noncomputable def lineL (x y z : Str) : List Str := [lwR x, lwR y, lwR z] ++ (dueR x y z).map lwR
noncomputable def askL (x y z : Str) : List Str := ([x, y, z] ++ dueR x y z).filter fun p => p != nE
theorem line_sum {x y z : Str} (hx : x.length ≤ 80) (hy : y.length ≤ 80) (hz : z.length ≤ 80) : ((lineL x y z).map (·.length)).sum ≤ 65000 ∧ (lineL x y z).length ≤ 10 := by
  have e : lineL x y z = ([x, y, z] ++ dueR x y z).map lwR := by rw [List.map_append]; rfl
  have h1 := sum_lwR ([x, y, z] ++ dueR x y z)
  have h2 := sum_le (due_le hx hy hz)
  have h3 := due_len x y z
  have h4 : (([x, y, z] ++ dueR x y z).map (·.length)).sum = x.length + y.length + z.length + ((dueR x y z).map (·.length)).sum := by
    rw [List.map_append, List.sum_append]
    show x.length + (y.length + (z.length + 0)) + _ = _
    lia
  have h5 : ([x, y, z] ++ dueR x y z).length = 3 + (dueR x y z).length := by rw [List.length_append]; rfl
  rw [e, List.length_map]
  generalize (dueR x y z).length = k at *
  generalize ((dueR x y z).map (·.length)).sum = q at *
  generalize ((([x, y, z] ++ dueR x y z).map lwR).map (·.length)).sum = q2 at *
  have h6 : q ≤ 1100 * 7 := Nat.le_trans h2 (Nat.mul_le_mul_left _ h3)
  lia
theorem line_join {x y z : Str} (hx : x.length ≤ 80) (hy : y.length ≤ 80) (hz : z.length ≤ 80) : ((lineL x y z).map (·.length)).sum + (lineL x y z).length * (Str.ofString " ").length ≤ 16777216 := by
  have := line_sum hx hy hz
  rw [show (Str.ofString " ").length = 1 from rfl]
  lia
theorem line_len {x y z : Str} (hx : x.length ≤ 80) (hy : y.length ≤ 80) (hz : z.length ≤ 80) : (Txt.join (Str.ofString " ") (lineL x y z)).length ≤ 65536 := by
  have h := line_sum hx hy hz
  exact Nat.le_trans (len_join1 rfl _) (by lia)
theorem line_ask (x y z : Str) : Toks (cs (Txt.join (Str.ofString " ") (lineL x y z))) ((askL x y z).map cs) := by
  have h := line_toks ([x, y, z] ++ dueR x y z)
  rw [List.map_append] at h
  exact h
theorem ask_len (x y z : Str) : ((askL x y z).map cs).length ≤ 64 := by
  rw [List.length_map]
  have h1 := List.length_filter_le (fun p => p != nE) ([x, y, z] ++ dueR x y z)
  have h2 := due_len x y z
  rw [List.length_append] at h1
  have h3 : [x, y, z].length = 3 := rfl
  unfold askL
  lia
theorem due_size {its : Array Value} {x y z : Str} (hs : StrsAre its.toList (dueR x y z)) : its.size ≤ sizeLine := by
  have h1 := strsAre_len hs
  have h2 := due_len x y z
  rw [Array.length_toList] at h1
  rw [sizeLine_eq]
  lia
theorem line_size {its : Array Value} {x y z : Str} (hs : StrsAre its.toList ([x, y, z] ++ dueR x y z)) : its.size ≤ sizeLine := by
  have h1 := strsAre_len hs
  have h2 := due_len x y z
  rw [Array.length_toList, List.length_append] at h1
  have h3 : [x, y, z].length = 3 := rfl
  rw [sizeLine_eq]
  lia
section
set_option maxHeartbeats 4000000
theorem lawEnd {a b : List PyData} {v : List Int} {q p : Bool} : (PySem.Spec.Tm.eq .res (.lit (.bool p))).value (PySem.Spec.Ctx.mk a (some (.bool q)) b v) = some (.bool (q == p)) := v_eq_bool (v_res rfl) v_lit
local macro_rules | `(tactic| tm_at "eq") => `(tactic| with_reducible exact lawEnd)
theorem drop2 {h₀ h : Heap} {L : Addr} {a b : Addr × Obj} {r : List (Addr × Obj)} (N : News h₀ L h (a :: b :: r)) : News h₀ L h (a :: r) := fun p hp => N p ((List.mem_cons.mp hp).elim (fun e => e ▸ .head _) fun q => .tail _ (.tail _ q))
theorem drop23 {h₀ h : Heap} {L : Addr} {a b c : Addr × Obj} {r : List (Addr × Obj)} (N : News h₀ L h (a :: b :: c :: r)) : News h₀ L h (a :: r) := drop2 (drop2 N)
theorem c_law : PySem.Challenge.rw_in0312_01.Holds := by
  refine Mine.hd.top ?_
  k_go0
  rename Shared => s0
  refine foldAE ?_; intro ee AA
  (repeat' (first | ((with_reducible show wpAny _ _ (call (Value.ref 894) _) _ _ _); (k_here; k_dflt (refine' use (c_law_name _ _ _) ?k1 ?k2 ?k3 ?k4 ?k5 ?k6 ?kp ?k7 ?k8 ?_; (case kp => exact trivial); ((case k1 => k_asm); (case k2 => k_asm); (case k3 => k_asm); (case k4 => k_asm); (case k5 => k_asm); (case k6 => first | exact rfl | assumption); (case k7 => ktr_room); (case k8 => ktr_units)); k_whole; intro v' h' tk' F' N' G' hv'; obtain ⟨y', t', e0', hy', hl'⟩ := hv'; subst e0'; (try k_sweep); (try dsimp only)))) | ((with_reducible show wpAny _ _ (call (Value.ref 899) _) _ _ _); (k_here; k_dflt (refine' useGB (c_law_written _ _ _ ?hx) (len_lwR _) ?k1 ?k2 ?k3 ?k4 ?k5 ?k6 ?k7 ?k8 ?_; (case hx => walk_at "mz"); ((case k1 => k_asm); (case k2 => k_asm); (case k3 => k_asm); (case k4 => k_asm); (case k5 => k_asm); (case k6 => first | exact rfl | assumption); (case k7 => ktr_room); (case k8 => ktr_units)); k_whole; intro t' h' tk' F' N' G' hB'; (try k_sweep); (try dsimp only)))) | ((with_reducible show wpAny _ _ (call (Value.ref 906) _) _ _ _); (k_here; k_dflt (refine' useGB (c_law_straight _ _ _ ?hx) (len_lsR _ ?hx2) ?k1 ?k2 ?k3 ?k4 ?k5 ?k6 ?k7 ?k8 ?_; (case hx => walk_at "mz"); (case hx2 => walk_at "mz"); ((case k1 => k_asm); (case k2 => k_asm); (case k3 => k_asm); (case k4 => k_asm); (case k5 => k_asm); (case k6 => first | exact rfl | assumption); (case k7 => ktr_room); (case k8 => ktr_units)); k_whole; intro t' h' tk' F' N' G' hB'; (try k_sweep); (try dsimp only)))) | ((with_reducible show wpAny _ _ (call (Value.ref 911) _) _ _ _); (k_here; k_dflt (refine' useGB (c_law_way _ _ _ _ _ ?hx ?hy) (len_wayR _ _ ?hx2 ?hy2) ?k1 ?k2 ?k3 ?k4 ?k5 ?k6 ?k7 ?k8 ?_; (case hx => walk_at "mz"); (case hx2 => walk_at "mz"); (case hy => walk_at "mz"); (case hy2 => walk_at "mz"); ((case k1 => k_asm); (case k2 => k_asm); (case k3 => k_asm); (case k4 => k_asm); (case k5 => k_asm); (case k6 => first | exact rfl | assumption); (case k7 => ktr_room); (case k8 => ktr_units)); k_whole; intro t' h' tk' F' N' G' hB'; (try k_sweep); (try dsimp only)))) | ((with_reducible show wpAny _ _ (subscriptTail (Expr.Name _ _) _ (Value.ref _) (Value.int _ _)) _ _ _); refine stop9 ?_) | ((with_reducible show wpAny _ _ (call (Value.ref _) _) _ _ _); refine stop9 ?_) | (k_unfold; try dsimp only) | (k_end; wrow_close) | walk1 | (dsimp only; walk1) | (leave1; try dsimp only)))
  unfold Stop9
  (with_reducible rename News _ _ _ _ => N0)
  replace N0 := drop23 N0
  (with_reducible rename Top _ _ _ _ _ _ => TT)
  (with_reducible rename Frag.In _ _ => KX)
  (with_reducible rename Below _ _ _ _ => K0)
  (with_reducible rename World => w)
  refine wpAny_Assign_Name (hs := ?hs) ?h
  case hs => with_unfolding_all rfl
  (repeat' (first | ((with_reducible show wpAny _ _ (call (Value.ref 894) _) _ _ _); (k_here; k_dflt (refine' use (c_law_name _ _ _) ?k1 ?k2 ?k3 ?k4 ?k5 ?k6 ?kp ?k7 ?k8 ?_; (case kp => exact trivial); ((case k1 => k_asm); (case k2 => k_asm); (case k3 => k_asm); (case k4 => k_asm); (case k5 => k_asm); (case k6 => first | exact rfl | assumption); (case k7 => ktr_room); (case k8 => ktr_units)); k_whole; intro v' h' tk' F' N' G' hv'; obtain ⟨y', t', e0', hy', hl'⟩ := hv'; subst e0'; (try k_sweep); (try dsimp only)))) | ((with_reducible show wpAny _ _ (call (Value.ref 899) _) _ _ _); (k_here; k_dflt (refine' useGB (c_law_written _ _ _ ?hx) (len_lwR _) ?k1 ?k2 ?k3 ?k4 ?k5 ?k6 ?k7 ?k8 ?_; (case hx => walk_at "mz"); ((case k1 => k_asm); (case k2 => k_asm); (case k3 => k_asm); (case k4 => k_asm); (case k5 => k_asm); (case k6 => first | exact rfl | assumption); (case k7 => ktr_room); (case k8 => ktr_units)); k_whole; intro t' h' tk' F' N' G' hB'; (try k_sweep); (try dsimp only)))) | ((with_reducible show wpAny _ _ (call (Value.ref 906) _) _ _ _); (k_here; k_dflt (refine' useGB (c_law_straight _ _ _ ?hx) (len_lsR _ ?hx2) ?k1 ?k2 ?k3 ?k4 ?k5 ?k6 ?k7 ?k8 ?_; (case hx => walk_at "mz"); (case hx2 => walk_at "mz"); ((case k1 => k_asm); (case k2 => k_asm); (case k3 => k_asm); (case k4 => k_asm); (case k5 => k_asm); (case k6 => first | exact rfl | assumption); (case k7 => ktr_room); (case k8 => ktr_units)); k_whole; intro t' h' tk' F' N' G' hB'; (try k_sweep); (try dsimp only)))) | ((with_reducible show wpAny _ _ (call (Value.ref 911) _) _ _ _); (k_here; k_dflt (refine' useGB (c_law_way _ _ _ _ _ ?hx ?hy) (len_wayR _ _ ?hx2 ?hy2) ?k1 ?k2 ?k3 ?k4 ?k5 ?k6 ?k7 ?k8 ?_; (case hx => walk_at "mz"); (case hx2 => walk_at "mz"); (case hy => walk_at "mz"); (case hy2 => walk_at "mz"); ((case k1 => k_asm); (case k2 => k_asm); (case k3 => k_asm); (case k4 => k_asm); (case k5 => k_asm); (case k6 => first | exact rfl | assumption); (case k7 => ktr_room); (case k8 => ktr_units)); k_whole; intro t' h' tk' F' N' G' hB'; (try k_sweep); (try dsimp only)))) | ((with_reducible show wpAny _ _ (subscriptTail (Expr.Name _ _) _ (Value.ref _) (Value.int _ _)) _ _ _); refine stop9 ?_) | ((with_reducible show wpAny _ _ (call (Value.ref _) _) _ _ _); refine stop9 ?_) | (k_unfold; try dsimp only) | (k_end; wrow_close) | walk1 | (dsimp only; walk1) | (leave1; try dsimp only)))
  unfold Stop9
  k_dflt (refine' lg_list s0.heap s0.heap.objs.size (fun _ => true) RQ ?hclos ?hsc ?hx ?_ ?hs; (((case hclos => with_unfolding_all rfl); (case hsc => with_unfolding_all rfl); (case hx => with_unfolding_all rfl)); (case hs => intro _; with_unfolding_all rfl); k_whole))
  (repeat' (first | ((with_reducible show wpAny _ _ (call (Value.ref 894) _) _ _ _); (k_here; k_dflt (refine' use (c_law_name _ _ _) ?k1 ?k2 ?k3 ?k4 ?k5 ?k6 ?kp ?k7 ?k8 ?_; (case kp => exact trivial); ((case k1 => k_asm); (case k2 => k_asm); (case k3 => k_asm); (case k4 => k_asm); (case k5 => k_asm); (case k6 => first | exact rfl | assumption); (case k7 => ktr_room); (case k8 => ktr_units)); k_whole; intro v' h' tk' F' N' G' hv'; obtain ⟨y', t', e0', hy', hl'⟩ := hv'; subst e0'; (try k_sweep); (try dsimp only)))) | ((with_reducible show wpAny _ _ (call (Value.ref 899) _) _ _ _); (k_here; k_dflt (refine' useGB (c_law_written _ _ _ ?hx) (len_lwR _) ?k1 ?k2 ?k3 ?k4 ?k5 ?k6 ?k7 ?k8 ?_; (case hx => walk_at "mz"); ((case k1 => k_asm); (case k2 => k_asm); (case k3 => k_asm); (case k4 => k_asm); (case k5 => k_asm); (case k6 => first | exact rfl | assumption); (case k7 => ktr_room); (case k8 => ktr_units)); k_whole; intro t' h' tk' F' N' G' hB'; (try k_sweep); (try dsimp only)))) | ((with_reducible show wpAny _ _ (call (Value.ref 906) _) _ _ _); (k_here; k_dflt (refine' useGB (c_law_straight _ _ _ ?hx) (len_lsR _ ?hx2) ?k1 ?k2 ?k3 ?k4 ?k5 ?k6 ?k7 ?k8 ?_; (case hx => walk_at "mz"); (case hx2 => walk_at "mz"); ((case k1 => k_asm); (case k2 => k_asm); (case k3 => k_asm); (case k4 => k_asm); (case k5 => k_asm); (case k6 => first | exact rfl | assumption); (case k7 => ktr_room); (case k8 => ktr_units)); k_whole; intro t' h' tk' F' N' G' hB'; (try k_sweep); (try dsimp only)))) | ((with_reducible show wpAny _ _ (call (Value.ref 911) _) _ _ _); (k_here; k_dflt (refine' useGB (c_law_way _ _ _ _ _ ?hx ?hy) (len_wayR _ _ ?hx2 ?hy2) ?k1 ?k2 ?k3 ?k4 ?k5 ?k6 ?k7 ?k8 ?_; (case hx => walk_at "mz"); (case hx2 => walk_at "mz"); (case hy => walk_at "mz"); (case hy2 => walk_at "mz"); ((case k1 => k_asm); (case k2 => k_asm); (case k3 => k_asm); (case k4 => k_asm); (case k5 => k_asm); (case k6 => first | exact rfl | assumption); (case k7 => ktr_room); (case k8 => ktr_units)); k_whole; intro t' h' tk' F' N' G' hB'; (try k_sweep); (try dsimp only)))) | ((with_reducible show wpAny _ _ (subscriptTail (Expr.Name _ _) _ (Value.ref _) (Value.int _ _)) _ _ _); refine stop9 ?_) | ((with_reducible show wpAny _ _ (call (Value.ref _) _) _ _ _); refine stop9 ?_) | (k_unfold; try dsimp only) | (k_end; wrow_close) | walk1 | (dsimp only; walk1) | (leave1; try dsimp only)))
  all_goals (try dsimp only)
  k_dflt (refine' lgE (src_lt (src_range (n := 3) rfl (by assumption) (by decide))) ?size ?fr ?nws ?ct ?ce ?cfin; (case size => (rw [sizeLine_eq]; exact Nat.le_of_ble_eq_true rfl)); (case fr => k_asm); (case nws => k_asm))
  case ct => intros; exact lc_noTests
  case ce =>
    intro C i v s₂ m₂ E' hv _ F N M hm g
    obtain ⟨hi, t, rfl⟩ := hv
    (repeat' (first | ((with_reducible show wpAny _ _ (call (Value.ref 894) _) _ _ _); (k_here; k_dflt (refine' use (c_law_name _ _ _) ?k1 ?k2 ?k3 ?k4 ?k5 ?k6 ?kp ?k7 ?k8 ?_; (case kp => exact trivial); ((case k1 => k_asm); (case k2 => k_asm); (case k3 => k_asm); (case k4 => k_asm); (case k5 => k_asm); (case k6 => first | exact rfl | assumption); (case k7 => ktr_room); (case k8 => ktr_units)); k_whole; intro v' h' tk' F' N' G' hv'; obtain ⟨y', t', e0', hy', hl'⟩ := hv'; subst e0'; (try k_sweep); (try dsimp only)))) | ((with_reducible show wpAny _ _ (call (Value.ref 899) _) _ _ _); (k_here; k_dflt (refine' useGB (c_law_written _ _ _ ?hx) (len_lwR _) ?k1 ?k2 ?k3 ?k4 ?k5 ?k6 ?k7 ?k8 ?_; (case hx => walk_at "mz"); ((case k1 => k_asm); (case k2 => k_asm); (case k3 => k_asm); (case k4 => k_asm); (case k5 => k_asm); (case k6 => first | exact rfl | assumption); (case k7 => ktr_room); (case k8 => ktr_units)); k_whole; intro t' h' tk' F' N' G' hB'; (try k_sweep); (try dsimp only)))) | ((with_reducible show wpAny _ _ (call (Value.ref 906) _) _ _ _); (k_here; k_dflt (refine' useGB (c_law_straight _ _ _ ?hx) (len_lsR _ ?hx2) ?k1 ?k2 ?k3 ?k4 ?k5 ?k6 ?k7 ?k8 ?_; (case hx => walk_at "mz"); (case hx2 => walk_at "mz"); ((case k1 => k_asm); (case k2 => k_asm); (case k3 => k_asm); (case k4 => k_asm); (case k5 => k_asm); (case k6 => first | exact rfl | assumption); (case k7 => ktr_room); (case k8 => ktr_units)); k_whole; intro t' h' tk' F' N' G' hB'; (try k_sweep); (try dsimp only)))) | ((with_reducible show wpAny _ _ (call (Value.ref 911) _) _ _ _); (k_here; k_dflt (refine' useGB (c_law_way _ _ _ _ _ ?hx ?hy) (len_wayR _ _ ?hx2 ?hy2) ?k1 ?k2 ?k3 ?k4 ?k5 ?k6 ?k7 ?k8 ?_; (case hx => walk_at "mz"); (case hx2 => walk_at "mz"); (case hy => walk_at "mz"); (case hy2 => walk_at "mz"); ((case k1 => k_asm); (case k2 => k_asm); (case k3 => k_asm); (case k4 => k_asm); (case k5 => k_asm); (case k6 => first | exact rfl | assumption); (case k7 => ktr_room); (case k8 => ktr_units)); k_whole; intro t' h' tk' F' N' G' hB'; (try k_sweep); (try dsimp only)))) | ((with_reducible show wpAny _ _ (subscriptTail (Expr.Name _ _) _ (Value.ref _) (Value.int _ _)) _ _ _); refine stop9 ?_) | ((with_reducible show wpAny _ _ (call (Value.ref _) _) _ _ _); refine stop9 ?_) | (k_unfold; try dsimp only) | (k_end; wrow_close) | walk1 | (dsimp only; walk1) | (leave1; try dsimp only)))
    unfold Stop9
    k_dflt (refine' lg_list s0.heap s0.heap.objs.size (fun _ => true) RI ?hclos2 ?hsc2 ?hx2 ?_ ?hs2; (case hclos2 => rfl); (case hsc2 => rfl); (case hx2 => rfl); (case hs2 => intro x; rfl))
    (repeat' (first | ((with_reducible show wpAny _ _ (call (Value.ref 894) _) _ _ _); (k_here; k_dflt (refine' use (c_law_name _ _ _) ?k1 ?k2 ?k3 ?k4 ?k5 ?k6 ?kp ?k7 ?k8 ?_; (case kp => exact trivial); ((case k1 => k_asm); (case k2 => k_asm); (case k3 => k_asm); (case k4 => k_asm); (case k5 => k_asm); (case k6 => first | exact rfl | assumption); (case k7 => ktr_room); (case k8 => ktr_units)); k_whole; intro v' h' tk' F' N' G' hv'; obtain ⟨y', t', e0', hy', hl'⟩ := hv'; subst e0'; (try k_sweep); (try dsimp only)))) | ((with_reducible show wpAny _ _ (call (Value.ref 899) _) _ _ _); (k_here; k_dflt (refine' useGB (c_law_written _ _ _ ?hx) (len_lwR _) ?k1 ?k2 ?k3 ?k4 ?k5 ?k6 ?k7 ?k8 ?_; (case hx => walk_at "mz"); ((case k1 => k_asm); (case k2 => k_asm); (case k3 => k_asm); (case k4 => k_asm); (case k5 => k_asm); (case k6 => first | exact rfl | assumption); (case k7 => ktr_room); (case k8 => ktr_units)); k_whole; intro t' h' tk' F' N' G' hB'; (try k_sweep); (try dsimp only)))) | ((with_reducible show wpAny _ _ (call (Value.ref 906) _) _ _ _); (k_here; k_dflt (refine' useGB (c_law_straight _ _ _ ?hx) (len_lsR _ ?hx2) ?k1 ?k2 ?k3 ?k4 ?k5 ?k6 ?k7 ?k8 ?_; (case hx => walk_at "mz"); (case hx2 => walk_at "mz"); ((case k1 => k_asm); (case k2 => k_asm); (case k3 => k_asm); (case k4 => k_asm); (case k5 => k_asm); (case k6 => first | exact rfl | assumption); (case k7 => ktr_room); (case k8 => ktr_units)); k_whole; intro t' h' tk' F' N' G' hB'; (try k_sweep); (try dsimp only)))) | ((with_reducible show wpAny _ _ (call (Value.ref 911) _) _ _ _); (k_here; k_dflt (refine' useGB (c_law_way _ _ _ _ _ ?hx ?hy) (len_wayR _ _ ?hx2 ?hy2) ?k1 ?k2 ?k3 ?k4 ?k5 ?k6 ?k7 ?k8 ?_; (case hx => walk_at "mz"); (case hx2 => walk_at "mz"); (case hy => walk_at "mz"); (case hy2 => walk_at "mz"); ((case k1 => k_asm); (case k2 => k_asm); (case k3 => k_asm); (case k4 => k_asm); (case k5 => k_asm); (case k6 => first | exact rfl | assumption); (case k7 => ktr_room); (case k8 => ktr_units)); k_whole; intro t' h' tk' F' N' G' hB'; (try k_sweep); (try dsimp only)))) | ((with_reducible show wpAny _ _ (subscriptTail (Expr.Name _ _) _ (Value.ref _) (Value.int _ _)) _ _ _); refine stop9 ?_) | ((with_reducible show wpAny _ _ (call (Value.ref _) _) _ _ _); refine stop9 ?_) | (k_unfold; try dsimp only) | (k_end; wrow_close) | walk1 | (dsimp only; walk1) | (leave1; try dsimp only)))
    all_goals (try dsimp only)
    k_dflt (refine' lgE (src_list ?yh ?yg ?yc ?yd) ?size2 ?fr2 ?nws2 ?ct2 ?ce2 ?cfin2; (case yh => with_unfolding_all rfl); (case yg => exact News.get (by assumption) (.head _)); (case yc => rfl); (case yd => rfl); (case size2 => (rw [sizeLine_eq]; exact Nat.le_trans (pick_size (by assumption)) (Nat.le_of_ble_eq_true rfl))); (case fr2 => k_asm); (case nws2 => k_asm))
    case ct2 => intros; exact lc_noTests
    case ce2 =>
      intro C i v s₂ m₂ E' hv _ F N M hm g
      obtain ⟨z, tz, rfl⟩ := pick_ints (by assumption) hv
      (repeat' (first | ((with_reducible show wpAny _ _ (call (Value.ref 894) _) _ _ _); (k_here; k_dflt (refine' use (c_law_name _ _ _) ?k1 ?k2 ?k3 ?k4 ?k5 ?k6 ?kp ?k7 ?k8 ?_; (case kp => exact trivial); ((case k1 => k_asm); (case k2 => k_asm); (case k3 => k_asm); (case k4 => k_asm); (case k5 => k_asm); (case k6 => first | exact rfl | assumption); (case k7 => ktr_room); (case k8 => ktr_units)); k_whole; intro v' h' tk' F' N' G' hv'; obtain ⟨y', t', e0', hy', hl'⟩ := hv'; subst e0'; (try k_sweep); (try dsimp only)))) | ((with_reducible show wpAny _ _ (call (Value.ref 899) _) _ _ _); (k_here; k_dflt (refine' useGB (c_law_written _ _ _ ?hx) (len_lwR _) ?k1 ?k2 ?k3 ?k4 ?k5 ?k6 ?k7 ?k8 ?_; (case hx => walk_at "mz"); ((case k1 => k_asm); (case k2 => k_asm); (case k3 => k_asm); (case k4 => k_asm); (case k5 => k_asm); (case k6 => first | exact rfl | assumption); (case k7 => ktr_room); (case k8 => ktr_units)); k_whole; intro t' h' tk' F' N' G' hB'; (try k_sweep); (try dsimp only)))) | ((with_reducible show wpAny _ _ (call (Value.ref 906) _) _ _ _); (k_here; k_dflt (refine' useGB (c_law_straight _ _ _ ?hx) (len_lsR _ ?hx2) ?k1 ?k2 ?k3 ?k4 ?k5 ?k6 ?k7 ?k8 ?_; (case hx => walk_at "mz"); (case hx2 => walk_at "mz"); ((case k1 => k_asm); (case k2 => k_asm); (case k3 => k_asm); (case k4 => k_asm); (case k5 => k_asm); (case k6 => first | exact rfl | assumption); (case k7 => ktr_room); (case k8 => ktr_units)); k_whole; intro t' h' tk' F' N' G' hB'; (try k_sweep); (try dsimp only)))) | ((with_reducible show wpAny _ _ (call (Value.ref 911) _) _ _ _); (k_here; k_dflt (refine' useGB (c_law_way _ _ _ _ _ ?hx ?hy) (len_wayR _ _ ?hx2 ?hy2) ?k1 ?k2 ?k3 ?k4 ?k5 ?k6 ?k7 ?k8 ?_; (case hx => walk_at "mz"); (case hx2 => walk_at "mz"); (case hy => walk_at "mz"); (case hy2 => walk_at "mz"); ((case k1 => k_asm); (case k2 => k_asm); (case k3 => k_asm); (case k4 => k_asm); (case k5 => k_asm); (case k6 => first | exact rfl | assumption); (case k7 => ktr_room); (case k8 => ktr_units)); k_whole; intro t' h' tk' F' N' G' hB'; (try k_sweep); (try dsimp only)))) | ((with_reducible show wpAny _ _ (subscriptTail (Expr.Name _ _) _ (Value.ref _) (Value.int _ _)) _ _ _); refine stop9 ?_) | ((with_reducible show wpAny _ _ (call (Value.ref _) _) _ _ _); refine stop9 ?_) | (k_unfold; try dsimp only) | (k_end; wrow_close) | walk1 | (dsimp only; walk1) | (leave1; try dsimp only)))
      · exact ⟨_, _, rfl, by assumption⟩
      · exact ⟨_, _, rfl, by assumption⟩
    case cfin2 =>
      intro D kD ys h' tk vs hl hvs F N hne g hnone P
      refine foldP ?_; intro Gz
      rw [filter_true] at P
      obtain ⟨zs, hzs, hz1, hz2⟩ := paired_RI P
      obtain ⟨hj1, hj2⟩ := join_names hz1 (by rw [hl]; exact pick_size (by assumption)) hz2
      clear P hvs hl hz1 hz2 hne hnone
      (repeat' (first | ((with_reducible show wpAny _ _ (call (Value.ref 894) _) _ _ _); (k_here; k_dflt (refine' use (c_law_name _ _ _) ?k1 ?k2 ?k3 ?k4 ?k5 ?k6 ?kp ?k7 ?k8 ?_; (case kp => exact trivial); ((case k1 => k_asm); (case k2 => k_asm); (case k3 => k_asm); (case k4 => k_asm); (case k5 => k_asm); (case k6 => first | exact rfl | assumption); (case k7 => ktr_room); (case k8 => ktr_units)); k_whole; intro v' h' tk' F' N' G' hv'; obtain ⟨y', t', e0', hy', hl'⟩ := hv'; subst e0'; (try k_sweep); (try dsimp only)))) | ((with_reducible show wpAny _ _ (call (Value.ref 899) _) _ _ _); (k_here; k_dflt (refine' useGB (c_law_written _ _ _ ?hx) (len_lwR _) ?k1 ?k2 ?k3 ?k4 ?k5 ?k6 ?k7 ?k8 ?_; (case hx => walk_at "mz"); ((case k1 => k_asm); (case k2 => k_asm); (case k3 => k_asm); (case k4 => k_asm); (case k5 => k_asm); (case k6 => first | exact rfl | assumption); (case k7 => ktr_room); (case k8 => ktr_units)); k_whole; intro t' h' tk' F' N' G' hB'; (try k_sweep); (try dsimp only)))) | ((with_reducible show wpAny _ _ (call (Value.ref 906) _) _ _ _); (k_here; k_dflt (refine' useGB (c_law_straight _ _ _ ?hx) (len_lsR _ ?hx2) ?k1 ?k2 ?k3 ?k4 ?k5 ?k6 ?k7 ?k8 ?_; (case hx => walk_at "mz"); (case hx2 => walk_at "mz"); ((case k1 => k_asm); (case k2 => k_asm); (case k3 => k_asm); (case k4 => k_asm); (case k5 => k_asm); (case k6 => first | exact rfl | assumption); (case k7 => ktr_room); (case k8 => ktr_units)); k_whole; intro t' h' tk' F' N' G' hB'; (try k_sweep); (try dsimp only)))) | ((with_reducible show wpAny _ _ (call (Value.ref 911) _) _ _ _); (k_here; k_dflt (refine' useGB (c_law_way _ _ _ _ _ ?hx ?hy) (len_wayR _ _ ?hx2 ?hy2) ?k1 ?k2 ?k3 ?k4 ?k5 ?k6 ?k7 ?k8 ?_; (case hx => walk_at "mz"); (case hx2 => walk_at "mz"); (case hy => walk_at "mz"); (case hy2 => walk_at "mz"); ((case k1 => k_asm); (case k2 => k_asm); (case k3 => k_asm); (case k4 => k_asm); (case k5 => k_asm); (case k6 => first | exact rfl | assumption); (case k7 => ktr_room); (case k8 => ktr_units)); k_whole; intro t' h' tk' F' N' G' hB'; (try k_sweep); (try dsimp only)))) | ((with_reducible show wpAny _ _ (subscriptTail (Expr.Name _ _) _ (Value.ref _) (Value.int _ _)) _ _ _); refine stop9 ?_) | ((with_reducible show wpAny _ _ (call (Value.ref _) _) _ _ _); refine stop9 ?_) | (k_unfold; try dsimp only) | (k_end; wrow_close) | walk1 | (dsimp only; walk1) | (leave1; try dsimp only)))
      · exact ⟨_, _, rfl, hj1⟩
      · exact ⟨_, _, rfl, fun b o e => g _ _ ((by assumption : Grow s₂.heap _) _ _ e)⟩
  case cfin =>
    intro D kD ys h' tk vs hl hvs F N hne g hnone P
    refine foldP ?_; intro Gz
    simp only [AllNe, and_true] at hne
    rw [filter_true] at P
    obtain ⟨i1, i2, i3, rfl⟩ := three_int hl hvs
    obtain ⟨_, _, _, rfl, ⟨x, tx, rfl, hx⟩, ⟨y, ty, rfl, hy⟩, ⟨z, tz, rfl, hz⟩⟩ := paired3 P
    clear P hvs hl g hnone
    obtain ⟨lo, hlc, hld, hlo⟩ : ∃ lo : Obj, lo.cls = .type "list" ∧ lo.data = .seq #[.str x tx, .str y ty, .str z tz] kD ∧ W.listOf #[.str x tx, .str y ty, .str z tz] kD = lo := ⟨_, rfl, rfl, rfl⟩
    have hlo : W.listOf [Value.str x tx, .str y ty, .str z tz].toArray kD = lo := hlo
    rw [hlo] at N
    clear hlo
    replace N := drop2 N
    (repeat' (first | ((with_reducible show wpAny _ _ (call (Value.ref 894) _) _ _ _); (k_here; k_dflt (refine' use (c_law_name _ _ _) ?k1 ?k2 ?k3 ?k4 ?k5 ?k6 ?kp ?k7 ?k8 ?_; (case kp => exact trivial); ((case k1 => k_asm); (case k2 => k_asm); (case k3 => k_asm); (case k4 => k_asm); (case k5 => k_asm); (case k6 => first | exact rfl | assumption); (case k7 => ktr_room); (case k8 => ktr_units)); k_whole; intro v' h' tk' F' N' G' hv'; obtain ⟨y', t', e0', hy', hl'⟩ := hv'; subst e0'; (try k_sweep); (try dsimp only)))) | ((with_reducible show wpAny _ _ (call (Value.ref 899) _) _ _ _); (k_here; k_dflt (refine' useGB (c_law_written _ _ _ ?hx) (len_lwR _) ?k1 ?k2 ?k3 ?k4 ?k5 ?k6 ?k7 ?k8 ?_; (case hx => walk_at "mz"); ((case k1 => k_asm); (case k2 => k_asm); (case k3 => k_asm); (case k4 => k_asm); (case k5 => k_asm); (case k6 => first | exact rfl | assumption); (case k7 => ktr_room); (case k8 => ktr_units)); k_whole; intro t' h' tk' F' N' G' hB'; (try k_sweep); (try dsimp only)))) | ((with_reducible show wpAny _ _ (call (Value.ref 906) _) _ _ _); (k_here; k_dflt (refine' useGB (c_law_straight _ _ _ ?hx) (len_lsR _ ?hx2) ?k1 ?k2 ?k3 ?k4 ?k5 ?k6 ?k7 ?k8 ?_; (case hx => walk_at "mz"); (case hx2 => walk_at "mz"); ((case k1 => k_asm); (case k2 => k_asm); (case k3 => k_asm); (case k4 => k_asm); (case k5 => k_asm); (case k6 => first | exact rfl | assumption); (case k7 => ktr_room); (case k8 => ktr_units)); k_whole; intro t' h' tk' F' N' G' hB'; (try k_sweep); (try dsimp only)))) | ((with_reducible show wpAny _ _ (call (Value.ref 911) _) _ _ _); (k_here; k_dflt (refine' useGB (c_law_way _ _ _ _ _ ?hx ?hy) (len_wayR _ _ ?hx2 ?hy2) ?k1 ?k2 ?k3 ?k4 ?k5 ?k6 ?k7 ?k8 ?_; (case hx => walk_at "mz"); (case hx2 => walk_at "mz"); (case hy => walk_at "mz"); (case hy2 => walk_at "mz"); ((case k1 => k_asm); (case k2 => k_asm); (case k3 => k_asm); (case k4 => k_asm); (case k5 => k_asm); (case k6 => first | exact rfl | assumption); (case k7 => ktr_room); (case k8 => ktr_units)); k_whole; intro t' h' tk' F' N' G' hB'; (try k_sweep); (try dsimp only)))) | ((with_reducible show wpAny _ _ (subscriptTail (Expr.Name _ _) _ (Value.ref _) (Value.int _ _)) _ _ _); refine stop9 ?_) | ((with_reducible show wpAny _ _ (call (Value.ref _) _) _ _ _); refine stop9 ?_) | (k_unfold; try dsimp only) | (k_end; wrow_close) | walk1 | (dsimp only; walk1) | (leave1; try dsimp only)))
    unfold Stop9
    k_dflt (refine' lg_assign s0.heap s0.heap.objs.size (fun _ => true) (RS lsR) ?hsw ?hL ?hclos ?hsc ?hx ?hy ?hp ?_ ?hs; ((case hsw => with_unfolding_all rfl); (case hL => with_unfolding_all rfl); ((case hclos => with_unfolding_all rfl); (case hsc => with_unfolding_all rfl); (case hx => with_unfolding_all rfl)); (case hy => with_unfolding_all rfl); (case hp => with_unfolding_all rfl); (case hs => intro _; with_unfolding_all rfl); k_whole))
    (repeat' (first | ((with_reducible show wpAny _ _ (call (Value.ref 894) _) _ _ _); (k_here; k_dflt (refine' use (c_law_name _ _ _) ?k1 ?k2 ?k3 ?k4 ?k5 ?k6 ?kp ?k7 ?k8 ?_; (case kp => exact trivial); ((case k1 => k_asm); (case k2 => k_asm); (case k3 => k_asm); (case k4 => k_asm); (case k5 => k_asm); (case k6 => first | exact rfl | assumption); (case k7 => ktr_room); (case k8 => ktr_units)); k_whole; intro v' h' tk' F' N' G' hv'; obtain ⟨y', t', e0', hy', hl'⟩ := hv'; subst e0'; (try k_sweep); (try dsimp only)))) | ((with_reducible show wpAny _ _ (call (Value.ref 899) _) _ _ _); (k_here; k_dflt (refine' useGB (c_law_written _ _ _ ?hx) (len_lwR _) ?k1 ?k2 ?k3 ?k4 ?k5 ?k6 ?k7 ?k8 ?_; (case hx => walk_at "mz"); ((case k1 => k_asm); (case k2 => k_asm); (case k3 => k_asm); (case k4 => k_asm); (case k5 => k_asm); (case k6 => first | exact rfl | assumption); (case k7 => ktr_room); (case k8 => ktr_units)); k_whole; intro t' h' tk' F' N' G' hB'; (try k_sweep); (try dsimp only)))) | ((with_reducible show wpAny _ _ (call (Value.ref 906) _) _ _ _); (k_here; k_dflt (refine' useGB (c_law_straight _ _ _ ?hx) (len_lsR _ ?hx2) ?k1 ?k2 ?k3 ?k4 ?k5 ?k6 ?k7 ?k8 ?_; (case hx => walk_at "mz"); (case hx2 => walk_at "mz"); ((case k1 => k_asm); (case k2 => k_asm); (case k3 => k_asm); (case k4 => k_asm); (case k5 => k_asm); (case k6 => first | exact rfl | assumption); (case k7 => ktr_room); (case k8 => ktr_units)); k_whole; intro t' h' tk' F' N' G' hB'; (try k_sweep); (try dsimp only)))) | ((with_reducible show wpAny _ _ (call (Value.ref 911) _) _ _ _); (k_here; k_dflt (refine' useGB (c_law_way _ _ _ _ _ ?hx ?hy) (len_wayR _ _ ?hx2 ?hy2) ?k1 ?k2 ?k3 ?k4 ?k5 ?k6 ?k7 ?k8 ?_; (case hx => walk_at "mz"); (case hx2 => walk_at "mz"); (case hy => walk_at "mz"); (case hy2 => walk_at "mz"); ((case k1 => k_asm); (case k2 => k_asm); (case k3 => k_asm); (case k4 => k_asm); (case k5 => k_asm); (case k6 => first | exact rfl | assumption); (case k7 => ktr_room); (case k8 => ktr_units)); k_whole; intro t' h' tk' F' N' G' hB'; (try k_sweep); (try dsimp only)))) | ((with_reducible show wpAny _ _ (subscriptTail (Expr.Name _ _) _ (Value.ref _) (Value.int _ _)) _ _ _); refine stop9 ?_) | ((with_reducible show wpAny _ _ (call (Value.ref _) _) _ _ _); refine stop9 ?_) | (k_unfold; try dsimp only) | (k_end; wrow_close) | walk1 | (dsimp only; walk1) | (leave1; try dsimp only)))
    all_goals (try dsimp only)
    k_dflt (refine' lgA ?src ?size ?fr ?nws ?ct3 ?ce3 ?cfin3; (case src => (refine' src_list ?srch ?srcg ?srcc ?srcd; (case srch => with_unfolding_all rfl); (case srcg => walk_at "mo"); (case srcc => walk_at "mc"); (case srcd => walk_at "mc"))); (case size => (rw [sizeLine_eq]; exact Nat.le_of_ble_eq_true rfl)); (case fr => k_asm); (case nws => k_asm))
    case ct3 => intros; exact lc_noTests
    case ce3 =>
      intro C i v s₂ m₂ E' hv _ F N M hm g
      obtain ⟨a, t, rfl, ha⟩ := mem3 hx hy hz hv
      (repeat' (first | ((with_reducible show wpAny _ _ (call (Value.ref 894) _) _ _ _); (k_here; k_dflt (refine' use (c_law_name _ _ _) ?k1 ?k2 ?k3 ?k4 ?k5 ?k6 ?kp ?k7 ?k8 ?_; (case kp => exact trivial); ((case k1 => k_asm); (case k2 => k_asm); (case k3 => k_asm); (case k4 => k_asm); (case k5 => k_asm); (case k6 => first | exact rfl | assumption); (case k7 => ktr_room); (case k8 => ktr_units)); k_whole; intro v' h' tk' F' N' G' hv'; obtain ⟨y', t', e0', hy', hl'⟩ := hv'; subst e0'; (try k_sweep); (try dsimp only)))) | ((with_reducible show wpAny _ _ (call (Value.ref 899) _) _ _ _); (k_here; k_dflt (refine' useGB (c_law_written _ _ _ ?hx) (len_lwR _) ?k1 ?k2 ?k3 ?k4 ?k5 ?k6 ?k7 ?k8 ?_; (case hx => walk_at "mz"); ((case k1 => k_asm); (case k2 => k_asm); (case k3 => k_asm); (case k4 => k_asm); (case k5 => k_asm); (case k6 => first | exact rfl | assumption); (case k7 => ktr_room); (case k8 => ktr_units)); k_whole; intro t' h' tk' F' N' G' hB'; (try k_sweep); (try dsimp only)))) | ((with_reducible show wpAny _ _ (call (Value.ref 906) _) _ _ _); (k_here; k_dflt (refine' useGB (c_law_straight _ _ _ ?hx) (len_lsR _ ?hx2) ?k1 ?k2 ?k3 ?k4 ?k5 ?k6 ?k7 ?k8 ?_; (case hx => walk_at "mz"); (case hx2 => walk_at "mz"); ((case k1 => k_asm); (case k2 => k_asm); (case k3 => k_asm); (case k4 => k_asm); (case k5 => k_asm); (case k6 => first | exact rfl | assumption); (case k7 => ktr_room); (case k8 => ktr_units)); k_whole; intro t' h' tk' F' N' G' hB'; (try k_sweep); (try dsimp only)))) | ((with_reducible show wpAny _ _ (call (Value.ref 911) _) _ _ _); (k_here; k_dflt (refine' useGB (c_law_way _ _ _ _ _ ?hx ?hy) (len_wayR _ _ ?hx2 ?hy2) ?k1 ?k2 ?k3 ?k4 ?k5 ?k6 ?k7 ?k8 ?_; (case hx => walk_at "mz"); (case hx2 => walk_at "mz"); (case hy => walk_at "mz"); (case hy2 => walk_at "mz"); ((case k1 => k_asm); (case k2 => k_asm); (case k3 => k_asm); (case k4 => k_asm); (case k5 => k_asm); (case k6 => first | exact rfl | assumption); (case k7 => ktr_room); (case k8 => ktr_units)); k_whole; intro t' h' tk' F' N' G' hB'; (try k_sweep); (try dsimp only)))) | ((with_reducible show wpAny _ _ (subscriptTail (Expr.Name _ _) _ (Value.ref _) (Value.int _ _)) _ _ _); refine stop9 ?_) | ((with_reducible show wpAny _ _ (call (Value.ref _) _) _ _ _); refine stop9 ?_) | (k_unfold; try dsimp only) | (k_end; wrow_close) | walk1 | (dsimp only; walk1) | (leave1; try dsimp only)))
      · intro a' t' e; cases e; exact ⟨_, rfl⟩
      · exact ⟨_, _, rfl, by assumption⟩
    case cfin3 =>
      intro D2 k2 ys2 h' tk vs hl hvs F N hne2 P
      refine foldP ?_; intro Gz
      simp only [AllNe, and_true] at hne2
      rw [filter_true, three_of rfl hl hvs] at P
      have hd1 := paired_strs (.cons x tx (.cons y ty (.cons z tz .nil))) P
      clear P hvs hl vs
      (repeat' (first | ((with_reducible show wpAny _ _ (call (Value.ref 894) _) _ _ _); (k_here; k_dflt (refine' use (c_law_name _ _ _) ?k1 ?k2 ?k3 ?k4 ?k5 ?k6 ?kp ?k7 ?k8 ?_; (case kp => exact trivial); ((case k1 => k_asm); (case k2 => k_asm); (case k3 => k_asm); (case k4 => k_asm); (case k5 => k_asm); (case k6 => first | exact rfl | assumption); (case k7 => ktr_room); (case k8 => ktr_units)); k_whole; intro v' h' tk' F' N' G' hv'; obtain ⟨y', t', e0', hy', hl'⟩ := hv'; subst e0'; (try k_sweep); (try dsimp only)))) | ((with_reducible show wpAny _ _ (call (Value.ref 899) _) _ _ _); (k_here; k_dflt (refine' useGB (c_law_written _ _ _ ?hx) (len_lwR _) ?k1 ?k2 ?k3 ?k4 ?k5 ?k6 ?k7 ?k8 ?_; (case hx => walk_at "mz"); ((case k1 => k_asm); (case k2 => k_asm); (case k3 => k_asm); (case k4 => k_asm); (case k5 => k_asm); (case k6 => first | exact rfl | assumption); (case k7 => ktr_room); (case k8 => ktr_units)); k_whole; intro t' h' tk' F' N' G' hB'; (try k_sweep); (try dsimp only)))) | ((with_reducible show wpAny _ _ (call (Value.ref 906) _) _ _ _); (k_here; k_dflt (refine' useGB (c_law_straight _ _ _ ?hx) (len_lsR _ ?hx2) ?k1 ?k2 ?k3 ?k4 ?k5 ?k6 ?k7 ?k8 ?_; (case hx => walk_at "mz"); (case hx2 => walk_at "mz"); ((case k1 => k_asm); (case k2 => k_asm); (case k3 => k_asm); (case k4 => k_asm); (case k5 => k_asm); (case k6 => first | exact rfl | assumption); (case k7 => ktr_room); (case k8 => ktr_units)); k_whole; intro t' h' tk' F' N' G' hB'; (try k_sweep); (try dsimp only)))) | ((with_reducible show wpAny _ _ (call (Value.ref 911) _) _ _ _); (k_here; k_dflt (refine' useGB (c_law_way _ _ _ _ _ ?hx ?hy) (len_wayR _ _ ?hx2 ?hy2) ?k1 ?k2 ?k3 ?k4 ?k5 ?k6 ?k7 ?k8 ?_; (case hx => walk_at "mz"); (case hx2 => walk_at "mz"); (case hy => walk_at "mz"); (case hy2 => walk_at "mz"); ((case k1 => k_asm); (case k2 => k_asm); (case k3 => k_asm); (case k4 => k_asm); (case k5 => k_asm); (case k6 => first | exact rfl | assumption); (case k7 => ktr_room); (case k8 => ktr_units)); k_whole; intro t' h' tk' F' N' G' hB'; (try k_sweep); (try dsimp only)))) | ((with_reducible show wpAny _ _ (subscriptTail (Expr.Name _ _) _ (Value.ref _) (Value.int _ _)) _ _ _); refine stop9 ?_) | ((with_reducible show wpAny _ _ (call (Value.ref _) _) _ _ _); refine stop9 ?_) | (k_unfold; try dsimp only) | (k_end; wrow_close) | walk1 | (dsimp only; walk1) | (leave1; try dsimp only)))
      unfold Stop9
      k_dflt (refine' lg_list s0.heap s0.heap.objs.size (fun _ => true) (RW x y z) ?hclos ?hsc ?hx ?_ ?hs; (((case hclos => with_unfolding_all rfl); (case hsc => with_unfolding_all rfl); (case hx => with_unfolding_all rfl)); (case hs => intro _; with_unfolding_all rfl); k_whole))
      (repeat' (first | ((with_reducible show wpAny _ _ (call (Value.ref 894) _) _ _ _); (k_here; k_dflt (refine' use (c_law_name _ _ _) ?k1 ?k2 ?k3 ?k4 ?k5 ?k6 ?kp ?k7 ?k8 ?_; (case kp => exact trivial); ((case k1 => k_asm); (case k2 => k_asm); (case k3 => k_asm); (case k4 => k_asm); (case k5 => k_asm); (case k6 => first | exact rfl | assumption); (case k7 => ktr_room); (case k8 => ktr_units)); k_whole; intro v' h' tk' F' N' G' hv'; obtain ⟨y', t', e0', hy', hl'⟩ := hv'; subst e0'; (try k_sweep); (try dsimp only)))) | ((with_reducible show wpAny _ _ (call (Value.ref 899) _) _ _ _); (k_here; k_dflt (refine' useGB (c_law_written _ _ _ ?hx) (len_lwR _) ?k1 ?k2 ?k3 ?k4 ?k5 ?k6 ?k7 ?k8 ?_; (case hx => walk_at "mz"); ((case k1 => k_asm); (case k2 => k_asm); (case k3 => k_asm); (case k4 => k_asm); (case k5 => k_asm); (case k6 => first | exact rfl | assumption); (case k7 => ktr_room); (case k8 => ktr_units)); k_whole; intro t' h' tk' F' N' G' hB'; (try k_sweep); (try dsimp only)))) | ((with_reducible show wpAny _ _ (call (Value.ref 906) _) _ _ _); (k_here; k_dflt (refine' useGB (c_law_straight _ _ _ ?hx) (len_lsR _ ?hx2) ?k1 ?k2 ?k3 ?k4 ?k5 ?k6 ?k7 ?k8 ?_; (case hx => walk_at "mz"); (case hx2 => walk_at "mz"); ((case k1 => k_asm); (case k2 => k_asm); (case k3 => k_asm); (case k4 => k_asm); (case k5 => k_asm); (case k6 => first | exact rfl | assumption); (case k7 => ktr_room); (case k8 => ktr_units)); k_whole; intro t' h' tk' F' N' G' hB'; (try k_sweep); (try dsimp only)))) | ((with_reducible show wpAny _ _ (call (Value.ref 911) _) _ _ _); (k_here; k_dflt (refine' useGB (c_law_way _ _ _ _ _ ?hx ?hy) (len_wayR _ _ ?hx2 ?hy2) ?k1 ?k2 ?k3 ?k4 ?k5 ?k6 ?k7 ?k8 ?_; (case hx => walk_at "mz"); (case hx2 => walk_at "mz"); (case hy => walk_at "mz"); (case hy2 => walk_at "mz"); ((case k1 => k_asm); (case k2 => k_asm); (case k3 => k_asm); (case k4 => k_asm); (case k5 => k_asm); (case k6 => first | exact rfl | assumption); (case k7 => ktr_room); (case k8 => ktr_units)); k_whole; intro t' h' tk' F' N' G' hB'; (try k_sweep); (try dsimp only)))) | ((with_reducible show wpAny _ _ (subscriptTail (Expr.Name _ _) _ (Value.ref _) (Value.int _ _)) _ _ _); refine stop9 ?_) | ((with_reducible show wpAny _ _ (call (Value.ref _) _) _ _ _); refine stop9 ?_) | (k_unfold; try dsimp only) | (k_end; wrow_close) | walk1 | (dsimp only; walk1) | (leave1; try dsimp only)))
      all_goals (try dsimp only)
      k_dflt (refine' lgE (src_lt (src_range (n := 3) rfl (by assumption) (by decide))) ?size ?fr ?nws ?ct4 ?ce4 ?cfin4; (case size => (rw [sizeLine_eq]; exact Nat.le_of_ble_eq_true rfl)); (case fr => k_asm); (case nws => k_asm))
      case ct4 => intros; exact lc_noTests
      case ce4 =>
        intro C i v s₂ m₂ E' hv _ F N M hm g
        obtain ⟨hi, t, rfl⟩ := hv
        have gD : s₂.heap.get? D = some lo := N.get (.tail _ (.head _))
        have ha := len_pick3 hx hy hz i
        have hb := len_pick3 hz hx hy i
        have la1 : (Str.ofString "/" ++ pick3 x y z i).length ≤ 81 := bd1 (len_ns _) ha rfl
        have lb1 : (Str.ofString "/" ++ pick3 z x y i).length ≤ 81 := bd1 (len_ns _) hb rfl
        (repeat' (first | ((with_reducible show wpAny _ _ (call (Value.ref 894) _) _ _ _); (k_here; k_dflt (refine' use (c_law_name _ _ _) ?k1 ?k2 ?k3 ?k4 ?k5 ?k6 ?kp ?k7 ?k8 ?_; (case kp => exact trivial); ((case k1 => k_asm); (case k2 => k_asm); (case k3 => k_asm); (case k4 => k_asm); (case k5 => k_asm); (case k6 => first | exact rfl | assumption); (case k7 => ktr_room); (case k8 => ktr_units)); k_whole; intro v' h' tk' F' N' G' hv'; obtain ⟨y', t', e0', hy', hl'⟩ := hv'; subst e0'; (try k_sweep); (try dsimp only)))) | ((with_reducible show wpAny _ _ (call (Value.ref 899) _) _ _ _); (k_here; k_dflt (refine' useGB (c_law_written _ _ _ ?hx) (len_lwR _) ?k1 ?k2 ?k3 ?k4 ?k5 ?k6 ?k7 ?k8 ?_; (case hx => walk_at "mz"); ((case k1 => k_asm); (case k2 => k_asm); (case k3 => k_asm); (case k4 => k_asm); (case k5 => k_asm); (case k6 => first | exact rfl | assumption); (case k7 => ktr_room); (case k8 => ktr_units)); k_whole; intro t' h' tk' F' N' G' hB'; (try k_sweep); (try dsimp only)))) | ((with_reducible show wpAny _ _ (call (Value.ref 906) _) _ _ _); (k_here; k_dflt (refine' useGB (c_law_straight _ _ _ ?hx) (len_lsR _ ?hx2) ?k1 ?k2 ?k3 ?k4 ?k5 ?k6 ?k7 ?k8 ?_; (case hx => walk_at "mz"); (case hx2 => walk_at "mz"); ((case k1 => k_asm); (case k2 => k_asm); (case k3 => k_asm); (case k4 => k_asm); (case k5 => k_asm); (case k6 => first | exact rfl | assumption); (case k7 => ktr_room); (case k8 => ktr_units)); k_whole; intro t' h' tk' F' N' G' hB'; (try k_sweep); (try dsimp only)))) | ((with_reducible show wpAny _ _ (call (Value.ref 911) _) _ _ _); (k_here; k_dflt (refine' useGB (c_law_way _ _ _ _ _ ?hx ?hy) (len_wayR _ _ ?hx2 ?hy2) ?k1 ?k2 ?k3 ?k4 ?k5 ?k6 ?k7 ?k8 ?_; (case hx => walk_at "mz"); (case hx2 => walk_at "mz"); (case hy => walk_at "mz"); (case hy2 => walk_at "mz"); ((case k1 => k_asm); (case k2 => k_asm); (case k3 => k_asm); (case k4 => k_asm); (case k5 => k_asm); (case k6 => first | exact rfl | assumption); (case k7 => ktr_room); (case k8 => ktr_units)); k_whole; intro t' h' tk' F' N' G' hB'; (try k_sweep); (try dsimp only)))) | ((with_reducible show wpAny _ _ (subscriptTail (Expr.Name _ _) _ (Value.ref _) (Value.int _ _)) _ _ _); refine stop9 ?_) | ((with_reducible show wpAny _ _ (call (Value.ref _) _) _ _ _); refine stop9 ?_) | (k_unfold; try dsimp only) | (k_end; wrow_close) | walk1 | (dsimp only; walk1) | (leave1; try dsimp only)))
        unfold Stop9
        refine item3 gD hlc hld hi fun t1 => ?_
        (repeat' (first | ((with_reducible show wpAny _ _ (call (Value.ref 894) _) _ _ _); (k_here; k_dflt (refine' use (c_law_name _ _ _) ?k1 ?k2 ?k3 ?k4 ?k5 ?k6 ?kp ?k7 ?k8 ?_; (case kp => exact trivial); ((case k1 => k_asm); (case k2 => k_asm); (case k3 => k_asm); (case k4 => k_asm); (case k5 => k_asm); (case k6 => first | exact rfl | assumption); (case k7 => ktr_room); (case k8 => ktr_units)); k_whole; intro v' h' tk' F' N' G' hv'; obtain ⟨y', t', e0', hy', hl'⟩ := hv'; subst e0'; (try k_sweep); (try dsimp only)))) | ((with_reducible show wpAny _ _ (call (Value.ref 899) _) _ _ _); (k_here; k_dflt (refine' useGB (c_law_written _ _ _ ?hx) (len_lwR _) ?k1 ?k2 ?k3 ?k4 ?k5 ?k6 ?k7 ?k8 ?_; (case hx => walk_at "mz"); ((case k1 => k_asm); (case k2 => k_asm); (case k3 => k_asm); (case k4 => k_asm); (case k5 => k_asm); (case k6 => first | exact rfl | assumption); (case k7 => ktr_room); (case k8 => ktr_units)); k_whole; intro t' h' tk' F' N' G' hB'; (try k_sweep); (try dsimp only)))) | ((with_reducible show wpAny _ _ (call (Value.ref 906) _) _ _ _); (k_here; k_dflt (refine' useGB (c_law_straight _ _ _ ?hx) (len_lsR _ ?hx2) ?k1 ?k2 ?k3 ?k4 ?k5 ?k6 ?k7 ?k8 ?_; (case hx => walk_at "mz"); (case hx2 => walk_at "mz"); ((case k1 => k_asm); (case k2 => k_asm); (case k3 => k_asm); (case k4 => k_asm); (case k5 => k_asm); (case k6 => first | exact rfl | assumption); (case k7 => ktr_room); (case k8 => ktr_units)); k_whole; intro t' h' tk' F' N' G' hB'; (try k_sweep); (try dsimp only)))) | ((with_reducible show wpAny _ _ (call (Value.ref 911) _) _ _ _); (k_here; k_dflt (refine' useGB (c_law_way _ _ _ _ _ ?hx ?hy) (len_wayR _ _ ?hx2 ?hy2) ?k1 ?k2 ?k3 ?k4 ?k5 ?k6 ?k7 ?k8 ?_; (case hx => walk_at "mz"); (case hx2 => walk_at "mz"); (case hy => walk_at "mz"); (case hy2 => walk_at "mz"); ((case k1 => k_asm); (case k2 => k_asm); (case k3 => k_asm); (case k4 => k_asm); (case k5 => k_asm); (case k6 => first | exact rfl | assumption); (case k7 => ktr_room); (case k8 => ktr_units)); k_whole; intro t' h' tk' F' N' G' hB'; (try k_sweep); (try dsimp only)))) | ((with_reducible show wpAny _ _ (subscriptTail (Expr.Name _ _) _ (Value.ref _) (Value.int _ _)) _ _ _); refine stop9 ?_) | ((with_reducible show wpAny _ _ (call (Value.ref _) _) _ _ _); refine stop9 ?_) | (k_unfold; try dsimp only) | (k_end; wrow_close) | walk1 | (dsimp only; walk1) | (leave1; try dsimp only)))
        unfold Stop9
        refine item3p gD hlc hld hi fun t2 => ?_
        (repeat' (first | ((with_reducible show wpAny _ _ (call (Value.ref 894) _) _ _ _); (k_here; k_dflt (refine' use (c_law_name _ _ _) ?k1 ?k2 ?k3 ?k4 ?k5 ?k6 ?kp ?k7 ?k8 ?_; (case kp => exact trivial); ((case k1 => k_asm); (case k2 => k_asm); (case k3 => k_asm); (case k4 => k_asm); (case k5 => k_asm); (case k6 => first | exact rfl | assumption); (case k7 => ktr_room); (case k8 => ktr_units)); k_whole; intro v' h' tk' F' N' G' hv'; obtain ⟨y', t', e0', hy', hl'⟩ := hv'; subst e0'; (try k_sweep); (try dsimp only)))) | ((with_reducible show wpAny _ _ (call (Value.ref 899) _) _ _ _); (k_here; k_dflt (refine' useGB (c_law_written _ _ _ ?hx) (len_lwR _) ?k1 ?k2 ?k3 ?k4 ?k5 ?k6 ?k7 ?k8 ?_; (case hx => walk_at "mz"); ((case k1 => k_asm); (case k2 => k_asm); (case k3 => k_asm); (case k4 => k_asm); (case k5 => k_asm); (case k6 => first | exact rfl | assumption); (case k7 => ktr_room); (case k8 => ktr_units)); k_whole; intro t' h' tk' F' N' G' hB'; (try k_sweep); (try dsimp only)))) | ((with_reducible show wpAny _ _ (call (Value.ref 906) _) _ _ _); (k_here; k_dflt (refine' useGB (c_law_straight _ _ _ ?hx) (len_lsR _ ?hx2) ?k1 ?k2 ?k3 ?k4 ?k5 ?k6 ?k7 ?k8 ?_; (case hx => walk_at "mz"); (case hx2 => walk_at "mz"); ((case k1 => k_asm); (case k2 => k_asm); (case k3 => k_asm); (case k4 => k_asm); (case k5 => k_asm); (case k6 => first | exact rfl | assumption); (case k7 => ktr_room); (case k8 => ktr_units)); k_whole; intro t' h' tk' F' N' G' hB'; (try k_sweep); (try dsimp only)))) | ((with_reducible show wpAny _ _ (call (Value.ref 911) _) _ _ _); (k_here; k_dflt (refine' useGB (c_law_way _ _ _ _ _ ?hx ?hy) (len_wayR _ _ ?hx2 ?hy2) ?k1 ?k2 ?k3 ?k4 ?k5 ?k6 ?k7 ?k8 ?_; (case hx => walk_at "mz"); (case hx2 => walk_at "mz"); (case hy => walk_at "mz"); (case hy2 => walk_at "mz"); ((case k1 => k_asm); (case k2 => k_asm); (case k3 => k_asm); (case k4 => k_asm); (case k5 => k_asm); (case k6 => first | exact rfl | assumption); (case k7 => ktr_room); (case k8 => ktr_units)); k_whole; intro t' h' tk' F' N' G' hB'; (try k_sweep); (try dsimp only)))) | ((with_reducible show wpAny _ _ (subscriptTail (Expr.Name _ _) _ (Value.ref _) (Value.int _ _)) _ _ _); refine stop9 ?_) | ((with_reducible show wpAny _ _ (call (Value.ref _) _) _ _ _); refine stop9 ?_) | (k_unfold; try dsimp only) | (k_end; wrow_close) | walk1 | (dsimp only; walk1) | (leave1; try dsimp only)))
        · intro j t' e
          obtain ⟨h1, _⟩ := Value.int.inj e
          have h2 : i = j := nat_int h1
          subst h2
          exact ⟨_, rfl⟩
        · exact ⟨_, _, rfl, by assumption⟩
      case cfin4 =>
        intro D3 k3 ys3 h' tk vs hl hvs F N hne3 g2 hnone P
        refine foldP ?_; intro Gz
        simp only [AllNe, and_true] at hne3
        rw [filter_true] at P
        have hd2 := strsAre_app hd1 (paired_RW hl hvs P)
        clear P hvs hl g2 hnone hd1
        (repeat' (first | ((with_reducible show wpAny _ _ (call (Value.ref 894) _) _ _ _); (k_here; k_dflt (refine' use (c_law_name _ _ _) ?k1 ?k2 ?k3 ?k4 ?k5 ?k6 ?kp ?k7 ?k8 ?_; (case kp => exact trivial); ((case k1 => k_asm); (case k2 => k_asm); (case k3 => k_asm); (case k4 => k_asm); (case k5 => k_asm); (case k6 => first | exact rfl | assumption); (case k7 => ktr_room); (case k8 => ktr_units)); k_whole; intro v' h' tk' F' N' G' hv'; obtain ⟨y', t', e0', hy', hl'⟩ := hv'; subst e0'; (try k_sweep); (try dsimp only)))) | ((with_reducible show wpAny _ _ (call (Value.ref 899) _) _ _ _); (k_here; k_dflt (refine' useGB (c_law_written _ _ _ ?hx) (len_lwR _) ?k1 ?k2 ?k3 ?k4 ?k5 ?k6 ?k7 ?k8 ?_; (case hx => walk_at "mz"); ((case k1 => k_asm); (case k2 => k_asm); (case k3 => k_asm); (case k4 => k_asm); (case k5 => k_asm); (case k6 => first | exact rfl | assumption); (case k7 => ktr_room); (case k8 => ktr_units)); k_whole; intro t' h' tk' F' N' G' hB'; (try k_sweep); (try dsimp only)))) | ((with_reducible show wpAny _ _ (call (Value.ref 906) _) _ _ _); (k_here; k_dflt (refine' useGB (c_law_straight _ _ _ ?hx) (len_lsR _ ?hx2) ?k1 ?k2 ?k3 ?k4 ?k5 ?k6 ?k7 ?k8 ?_; (case hx => walk_at "mz"); (case hx2 => walk_at "mz"); ((case k1 => k_asm); (case k2 => k_asm); (case k3 => k_asm); (case k4 => k_asm); (case k5 => k_asm); (case k6 => first | exact rfl | assumption); (case k7 => ktr_room); (case k8 => ktr_units)); k_whole; intro t' h' tk' F' N' G' hB'; (try k_sweep); (try dsimp only)))) | ((with_reducible show wpAny _ _ (call (Value.ref 911) _) _ _ _); (k_here; k_dflt (refine' useGB (c_law_way _ _ _ _ _ ?hx ?hy) (len_wayR _ _ ?hx2 ?hy2) ?k1 ?k2 ?k3 ?k4 ?k5 ?k6 ?k7 ?k8 ?_; (case hx => walk_at "mz"); (case hx2 => walk_at "mz"); (case hy => walk_at "mz"); (case hy2 => walk_at "mz"); ((case k1 => k_asm); (case k2 => k_asm); (case k3 => k_asm); (case k4 => k_asm); (case k5 => k_asm); (case k6 => first | exact rfl | assumption); (case k7 => ktr_room); (case k8 => ktr_units)); k_whole; intro t' h' tk' F' N' G' hB'; (try k_sweep); (try dsimp only)))) | ((with_reducible show wpAny _ _ (subscriptTail (Expr.Name _ _) _ (Value.ref _) (Value.int _ _)) _ _ _); refine stop9 ?_) | ((with_reducible show wpAny _ _ (call (Value.ref _) _) _ _ _); refine stop9 ?_) | (k_unfold; try dsimp only) | (k_end; wrow_close) | walk1 | (dsimp only; walk1) | (leave1; try dsimp only)))
        k_dflt (refine' iadd_L ?iF ?iN ?iU ?ib ?iz ?_; (case iF => k_asm); (case iN => k_asm); (case iU => k_upd); (case ib => exact News.get (by k_asm) (.head _)); (case iz => exact two_sizes hd2 (by exact Nat.le_of_ble_eq_true rfl)))
        intro h2 F2 N2
        k_sweep
        (repeat' (first | ((with_reducible show wpAny _ _ (call (Value.ref 894) _) _ _ _); (k_here; k_dflt (refine' use (c_law_name _ _ _) ?k1 ?k2 ?k3 ?k4 ?k5 ?k6 ?kp ?k7 ?k8 ?_; (case kp => exact trivial); ((case k1 => k_asm); (case k2 => k_asm); (case k3 => k_asm); (case k4 => k_asm); (case k5 => k_asm); (case k6 => first | exact rfl | assumption); (case k7 => ktr_room); (case k8 => ktr_units)); k_whole; intro v' h' tk' F' N' G' hv'; obtain ⟨y', t', e0', hy', hl'⟩ := hv'; subst e0'; (try k_sweep); (try dsimp only)))) | ((with_reducible show wpAny _ _ (call (Value.ref 899) _) _ _ _); (k_here; k_dflt (refine' useGB (c_law_written _ _ _ ?hx) (len_lwR _) ?k1 ?k2 ?k3 ?k4 ?k5 ?k6 ?k7 ?k8 ?_; (case hx => walk_at "mz"); ((case k1 => k_asm); (case k2 => k_asm); (case k3 => k_asm); (case k4 => k_asm); (case k5 => k_asm); (case k6 => first | exact rfl | assumption); (case k7 => ktr_room); (case k8 => ktr_units)); k_whole; intro t' h' tk' F' N' G' hB'; (try k_sweep); (try dsimp only)))) | ((with_reducible show wpAny _ _ (call (Value.ref 906) _) _ _ _); (k_here; k_dflt (refine' useGB (c_law_straight _ _ _ ?hx) (len_lsR _ ?hx2) ?k1 ?k2 ?k3 ?k4 ?k5 ?k6 ?k7 ?k8 ?_; (case hx => walk_at "mz"); (case hx2 => walk_at "mz"); ((case k1 => k_asm); (case k2 => k_asm); (case k3 => k_asm); (case k4 => k_asm); (case k5 => k_asm); (case k6 => first | exact rfl | assumption); (case k7 => ktr_room); (case k8 => ktr_units)); k_whole; intro t' h' tk' F' N' G' hB'; (try k_sweep); (try dsimp only)))) | ((with_reducible show wpAny _ _ (call (Value.ref 911) _) _ _ _); (k_here; k_dflt (refine' useGB (c_law_way _ _ _ _ _ ?hx ?hy) (len_wayR _ _ ?hx2 ?hy2) ?k1 ?k2 ?k3 ?k4 ?k5 ?k6 ?k7 ?k8 ?_; (case hx => walk_at "mz"); (case hx2 => walk_at "mz"); (case hy => walk_at "mz"); (case hy2 => walk_at "mz"); ((case k1 => k_asm); (case k2 => k_asm); (case k3 => k_asm); (case k4 => k_asm); (case k5 => k_asm); (case k6 => first | exact rfl | assumption); (case k7 => ktr_room); (case k8 => ktr_units)); k_whole; intro t' h' tk' F' N' G' hB'; (try k_sweep); (try dsimp only)))) | ((with_reducible show wpAny _ _ (subscriptTail (Expr.Name _ _) _ (Value.ref _) (Value.int _ _)) _ _ _); refine stop9 ?_) | ((with_reducible show wpAny _ _ (call (Value.ref _) _) _ _ _); refine stop9 ?_) | (k_unfold; try dsimp only) | (k_end; wrow_close) | walk1 | (dsimp only; walk1) | (leave1; try dsimp only)))
        unfold Stop9
        k_dflt (refine' use (c_law_shared w D lo x y z tx ty tz kD (bd hx rfl) (bd hy rfl) (bd hz rfl) hlc hld) ?k1 ?k2 ?k3 ?k4 ?k5 ?k6 ?kp ?k7 ?k8 ?_; (case kp => exact News.get (by k_asm) (.tail _ (.tail _ (.head _)))); ((case k1 => k_asm); (case k2 => k_asm); (case k3 => k_asm); (case k4 => k_asm); (case k5 => k_asm); (case k6 => first | exact rfl | assumption); (case k7 => ktr_room); (case k8 => ktr_units)); k_whole)
        intro v4 h4 tk4 F4 N4 G4 hv4
        obtain ⟨r4, t4, n4, rfl, g4⟩ := hv4
        obtain ⟨its4, e4, hs4, z4⟩ := due_all (t := t4) hd2
        clear G4 hd2
        k_sweep
        (repeat' (first | ((with_reducible show wpAny _ _ (call (Value.ref 894) _) _ _ _); (k_here; k_dflt (refine' use (c_law_name _ _ _) ?k1 ?k2 ?k3 ?k4 ?k5 ?k6 ?kp ?k7 ?k8 ?_; (case kp => exact trivial); ((case k1 => k_asm); (case k2 => k_asm); (case k3 => k_asm); (case k4 => k_asm); (case k5 => k_asm); (case k6 => first | exact rfl | assumption); (case k7 => ktr_room); (case k8 => ktr_units)); k_whole; intro v' h' tk' F' N' G' hv'; obtain ⟨y', t', e0', hy', hl'⟩ := hv'; subst e0'; (try k_sweep); (try dsimp only)))) | ((with_reducible show wpAny _ _ (call (Value.ref 899) _) _ _ _); (k_here; k_dflt (refine' useGB (c_law_written _ _ _ ?hx) (len_lwR _) ?k1 ?k2 ?k3 ?k4 ?k5 ?k6 ?k7 ?k8 ?_; (case hx => walk_at "mz"); ((case k1 => k_asm); (case k2 => k_asm); (case k3 => k_asm); (case k4 => k_asm); (case k5 => k_asm); (case k6 => first | exact rfl | assumption); (case k7 => ktr_room); (case k8 => ktr_units)); k_whole; intro t' h' tk' F' N' G' hB'; (try k_sweep); (try dsimp only)))) | ((with_reducible show wpAny _ _ (call (Value.ref 906) _) _ _ _); (k_here; k_dflt (refine' useGB (c_law_straight _ _ _ ?hx) (len_lsR _ ?hx2) ?k1 ?k2 ?k3 ?k4 ?k5 ?k6 ?k7 ?k8 ?_; (case hx => walk_at "mz"); (case hx2 => walk_at "mz"); ((case k1 => k_asm); (case k2 => k_asm); (case k3 => k_asm); (case k4 => k_asm); (case k5 => k_asm); (case k6 => first | exact rfl | assumption); (case k7 => ktr_room); (case k8 => ktr_units)); k_whole; intro t' h' tk' F' N' G' hB'; (try k_sweep); (try dsimp only)))) | ((with_reducible show wpAny _ _ (call (Value.ref 911) _) _ _ _); (k_here; k_dflt (refine' useGB (c_law_way _ _ _ _ _ ?hx ?hy) (len_wayR _ _ ?hx2 ?hy2) ?k1 ?k2 ?k3 ?k4 ?k5 ?k6 ?k7 ?k8 ?_; (case hx => walk_at "mz"); (case hx2 => walk_at "mz"); (case hy => walk_at "mz"); (case hy2 => walk_at "mz"); ((case k1 => k_asm); (case k2 => k_asm); (case k3 => k_asm); (case k4 => k_asm); (case k5 => k_asm); (case k6 => first | exact rfl | assumption); (case k7 => ktr_room); (case k8 => ktr_units)); k_whole; intro t' h' tk' F' N' G' hB'; (try k_sweep); (try dsimp only)))) | ((with_reducible show wpAny _ _ (subscriptTail (Expr.Name _ _) _ (Value.ref _) (Value.int _ _)) _ _ _); refine stop9 ?_) | ((with_reducible show wpAny _ _ (call (Value.ref _) _) _ _ _); refine stop9 ?_) | (k_unfold; try dsimp only) | (k_end; wrow_close) | walk1 | (dsimp only; walk1) | (leave1; try dsimp only)))
        k_dflt (refine' iadd_L ?iF ?iN ?iU ?ib ?iz ?_; (case iF => k_asm); (case iN => k_asm); (case iU => k_upd); (case ib => exact g4); (case iz => exact z4))
        rw [e4]
        intro h5 F5 N5
        clear g4 z4 e4
        k_sweep
        (repeat' (first | ((with_reducible show wpAny _ _ (call (Value.ref 894) _) _ _ _); (k_here; k_dflt (refine' use (c_law_name _ _ _) ?k1 ?k2 ?k3 ?k4 ?k5 ?k6 ?kp ?k7 ?k8 ?_; (case kp => exact trivial); ((case k1 => k_asm); (case k2 => k_asm); (case k3 => k_asm); (case k4 => k_asm); (case k5 => k_asm); (case k6 => first | exact rfl | assumption); (case k7 => ktr_room); (case k8 => ktr_units)); k_whole; intro v' h' tk' F' N' G' hv'; obtain ⟨y', t', e0', hy', hl'⟩ := hv'; subst e0'; (try k_sweep); (try dsimp only)))) | ((with_reducible show wpAny _ _ (call (Value.ref 899) _) _ _ _); (k_here; k_dflt (refine' useGB (c_law_written _ _ _ ?hx) (len_lwR _) ?k1 ?k2 ?k3 ?k4 ?k5 ?k6 ?k7 ?k8 ?_; (case hx => walk_at "mz"); ((case k1 => k_asm); (case k2 => k_asm); (case k3 => k_asm); (case k4 => k_asm); (case k5 => k_asm); (case k6 => first | exact rfl | assumption); (case k7 => ktr_room); (case k8 => ktr_units)); k_whole; intro t' h' tk' F' N' G' hB'; (try k_sweep); (try dsimp only)))) | ((with_reducible show wpAny _ _ (call (Value.ref 906) _) _ _ _); (k_here; k_dflt (refine' useGB (c_law_straight _ _ _ ?hx) (len_lsR _ ?hx2) ?k1 ?k2 ?k3 ?k4 ?k5 ?k6 ?k7 ?k8 ?_; (case hx => walk_at "mz"); (case hx2 => walk_at "mz"); ((case k1 => k_asm); (case k2 => k_asm); (case k3 => k_asm); (case k4 => k_asm); (case k5 => k_asm); (case k6 => first | exact rfl | assumption); (case k7 => ktr_room); (case k8 => ktr_units)); k_whole; intro t' h' tk' F' N' G' hB'; (try k_sweep); (try dsimp only)))) | ((with_reducible show wpAny _ _ (call (Value.ref 911) _) _ _ _); (k_here; k_dflt (refine' useGB (c_law_way _ _ _ _ _ ?hx ?hy) (len_wayR _ _ ?hx2 ?hy2) ?k1 ?k2 ?k3 ?k4 ?k5 ?k6 ?k7 ?k8 ?_; (case hx => walk_at "mz"); (case hx2 => walk_at "mz"); (case hy => walk_at "mz"); (case hy2 => walk_at "mz"); ((case k1 => k_asm); (case k2 => k_asm); (case k3 => k_asm); (case k4 => k_asm); (case k5 => k_asm); (case k6 => first | exact rfl | assumption); (case k7 => ktr_room); (case k8 => ktr_units)); k_whole; intro t' h' tk' F' N' G' hB'; (try k_sweep); (try dsimp only)))) | ((with_reducible show wpAny _ _ (subscriptTail (Expr.Name _ _) _ (Value.ref _) (Value.int _ _)) _ _ _); refine stop9 ?_) | ((with_reducible show wpAny _ _ (call (Value.ref _) _) _ _ _); refine stop9 ?_) | (k_unfold; try dsimp only) | (k_end; wrow_close) | walk1 | (dsimp only; walk1) | (leave1; try dsimp only)))
        unfold Stop9
        k_dflt (refine' useLS (R := fun l => StrsAre l (toldR x y z)) (c_law_told w D lo x y z tx ty tz kD (bd hx rfl) (bd hy rfl) (bd hz rfl) hlc hld) ?k1 ?k2 ?k3 ?k4 ?k5 ?k6 ?kp ?k7 ?k8 ?kA ?kf ?_; (case kp => exact News.get (by k_asm) (.tail _ (.tail _ (.head _)))); (case kA => exact rfl); (case kf => exact rfl); ((case k1 => k_asm); (case k2 => k_asm); (case k3 => k_asm); (case k4 => k_asm); (case k5 => k_asm); (case k6 => first | exact rfl | assumption); (case k7 => ktr_room); (case k8 => ktr_units)); k_whole)
        intro D6 its6 k6 h6 tk6 F6 N6 hne6 hs6
        rw [told_due] at hs6
        clear hne6
        k_sweep
        (repeat' (first | ((with_reducible show wpAny _ _ (call (Value.ref 894) _) _ _ _); (k_here; k_dflt (refine' use (c_law_name _ _ _) ?k1 ?k2 ?k3 ?k4 ?k5 ?k6 ?kp ?k7 ?k8 ?_; (case kp => exact trivial); ((case k1 => k_asm); (case k2 => k_asm); (case k3 => k_asm); (case k4 => k_asm); (case k5 => k_asm); (case k6 => first | exact rfl | assumption); (case k7 => ktr_room); (case k8 => ktr_units)); k_whole; intro v' h' tk' F' N' G' hv'; obtain ⟨y', t', e0', hy', hl'⟩ := hv'; subst e0'; (try k_sweep); (try dsimp only)))) | ((with_reducible show wpAny _ _ (call (Value.ref 899) _) _ _ _); (k_here; k_dflt (refine' useGB (c_law_written _ _ _ ?hx) (len_lwR _) ?k1 ?k2 ?k3 ?k4 ?k5 ?k6 ?k7 ?k8 ?_; (case hx => walk_at "mz"); ((case k1 => k_asm); (case k2 => k_asm); (case k3 => k_asm); (case k4 => k_asm); (case k5 => k_asm); (case k6 => first | exact rfl | assumption); (case k7 => ktr_room); (case k8 => ktr_units)); k_whole; intro t' h' tk' F' N' G' hB'; (try k_sweep); (try dsimp only)))) | ((with_reducible show wpAny _ _ (call (Value.ref 906) _) _ _ _); (k_here; k_dflt (refine' useGB (c_law_straight _ _ _ ?hx) (len_lsR _ ?hx2) ?k1 ?k2 ?k3 ?k4 ?k5 ?k6 ?k7 ?k8 ?_; (case hx => walk_at "mz"); (case hx2 => walk_at "mz"); ((case k1 => k_asm); (case k2 => k_asm); (case k3 => k_asm); (case k4 => k_asm); (case k5 => k_asm); (case k6 => first | exact rfl | assumption); (case k7 => ktr_room); (case k8 => ktr_units)); k_whole; intro t' h' tk' F' N' G' hB'; (try k_sweep); (try dsimp only)))) | ((with_reducible show wpAny _ _ (call (Value.ref 911) _) _ _ _); (k_here; k_dflt (refine' useGB (c_law_way _ _ _ _ _ ?hx ?hy) (len_wayR _ _ ?hx2 ?hy2) ?k1 ?k2 ?k3 ?k4 ?k5 ?k6 ?k7 ?k8 ?_; (case hx => walk_at "mz"); (case hx2 => walk_at "mz"); (case hy => walk_at "mz"); (case hy2 => walk_at "mz"); ((case k1 => k_asm); (case k2 => k_asm); (case k3 => k_asm); (case k4 => k_asm); (case k5 => k_asm); (case k6 => first | exact rfl | assumption); (case k7 => ktr_room); (case k8 => ktr_units)); k_whole; intro t' h' tk' F' N' G' hB'; (try k_sweep); (try dsimp only)))) | ((with_reducible show wpAny _ _ (subscriptTail (Expr.Name _ _) _ (Value.ref _) (Value.int _ _)) _ _ _); refine stop9 ?_) | ((with_reducible show wpAny _ _ (call (Value.ref _) _) _ _ _); refine stop9 ?_) | (k_unfold; try dsimp only) | (k_end; wrow_close) | walk1 | (dsimp only; walk1) | (leave1; try dsimp only)))
        unfold Stop9
        k_dflt (refine' lg_assign s0.heap s0.heap.objs.size (fun _ => true) (RS lwR) ?hsw ?hL ?hclos ?hsc ?hx ?hy ?hp ?_ ?hs; ((case hsw => with_unfolding_all rfl); (case hL => with_unfolding_all rfl); ((case hclos => with_unfolding_all rfl); (case hsc => with_unfolding_all rfl); (case hx => with_unfolding_all rfl)); (case hy => with_unfolding_all rfl); (case hp => with_unfolding_all rfl); (case hs => intro _; with_unfolding_all rfl); k_whole))
        (repeat' (first | ((with_reducible show wpAny _ _ (call (Value.ref 894) _) _ _ _); (k_here; k_dflt (refine' use (c_law_name _ _ _) ?k1 ?k2 ?k3 ?k4 ?k5 ?k6 ?kp ?k7 ?k8 ?_; (case kp => exact trivial); ((case k1 => k_asm); (case k2 => k_asm); (case k3 => k_asm); (case k4 => k_asm); (case k5 => k_asm); (case k6 => first | exact rfl | assumption); (case k7 => ktr_room); (case k8 => ktr_units)); k_whole; intro v' h' tk' F' N' G' hv'; obtain ⟨y', t', e0', hy', hl'⟩ := hv'; subst e0'; (try k_sweep); (try dsimp only)))) | ((with_reducible show wpAny _ _ (call (Value.ref 899) _) _ _ _); (k_here; k_dflt (refine' useGB (c_law_written _ _ _ ?hx) (len_lwR _) ?k1 ?k2 ?k3 ?k4 ?k5 ?k6 ?k7 ?k8 ?_; (case hx => walk_at "mz"); ((case k1 => k_asm); (case k2 => k_asm); (case k3 => k_asm); (case k4 => k_asm); (case k5 => k_asm); (case k6 => first | exact rfl | assumption); (case k7 => ktr_room); (case k8 => ktr_units)); k_whole; intro t' h' tk' F' N' G' hB'; (try k_sweep); (try dsimp only)))) | ((with_reducible show wpAny _ _ (call (Value.ref 906) _) _ _ _); (k_here; k_dflt (refine' useGB (c_law_straight _ _ _ ?hx) (len_lsR _ ?hx2) ?k1 ?k2 ?k3 ?k4 ?k5 ?k6 ?k7 ?k8 ?_; (case hx => walk_at "mz"); (case hx2 => walk_at "mz"); ((case k1 => k_asm); (case k2 => k_asm); (case k3 => k_asm); (case k4 => k_asm); (case k5 => k_asm); (case k6 => first | exact rfl | assumption); (case k7 => ktr_room); (case k8 => ktr_units)); k_whole; intro t' h' tk' F' N' G' hB'; (try k_sweep); (try dsimp only)))) | ((with_reducible show wpAny _ _ (call (Value.ref 911) _) _ _ _); (k_here; k_dflt (refine' useGB (c_law_way _ _ _ _ _ ?hx ?hy) (len_wayR _ _ ?hx2 ?hy2) ?k1 ?k2 ?k3 ?k4 ?k5 ?k6 ?k7 ?k8 ?_; (case hx => walk_at "mz"); (case hx2 => walk_at "mz"); (case hy => walk_at "mz"); (case hy2 => walk_at "mz"); ((case k1 => k_asm); (case k2 => k_asm); (case k3 => k_asm); (case k4 => k_asm); (case k5 => k_asm); (case k6 => first | exact rfl | assumption); (case k7 => ktr_room); (case k8 => ktr_units)); k_whole; intro t' h' tk' F' N' G' hB'; (try k_sweep); (try dsimp only)))) | ((with_reducible show wpAny _ _ (subscriptTail (Expr.Name _ _) _ (Value.ref _) (Value.int _ _)) _ _ _); refine stop9 ?_) | ((with_reducible show wpAny _ _ (call (Value.ref _) _) _ _ _); refine stop9 ?_) | (k_unfold; try dsimp only) | (k_end; wrow_close) | walk1 | (dsimp only; walk1) | (leave1; try dsimp only)))
        all_goals (try dsimp only)
        k_dflt (refine' lgA ?src ?size ?fr ?nws ?ct5 ?ce5 ?cfin5; (case src => (refine' src_list ?srch ?srcg ?srcc ?srcd; (case srch => with_unfolding_all rfl); (case srcg => walk_at "mo"); (case srcc => walk_at "mc"); (case srcd => walk_at "mc"))); (case size => (rw [sizeLine_eq]; exact Nat.le_of_ble_eq_true rfl)); (case fr => k_asm); (case nws => k_asm))
        case ct5 => intros; exact lc_noTests
        case ce5 =>
          intro C i v s₂ m₂ E' hv _ F N M hm g
          obtain ⟨a, t, rfl, ha⟩ := mem3 hx hy hz hv
          (repeat' (first | ((with_reducible show wpAny _ _ (call (Value.ref 894) _) _ _ _); (k_here; k_dflt (refine' use (c_law_name _ _ _) ?k1 ?k2 ?k3 ?k4 ?k5 ?k6 ?kp ?k7 ?k8 ?_; (case kp => exact trivial); ((case k1 => k_asm); (case k2 => k_asm); (case k3 => k_asm); (case k4 => k_asm); (case k5 => k_asm); (case k6 => first | exact rfl | assumption); (case k7 => ktr_room); (case k8 => ktr_units)); k_whole; intro v' h' tk' F' N' G' hv'; obtain ⟨y', t', e0', hy', hl'⟩ := hv'; subst e0'; (try k_sweep); (try dsimp only)))) | ((with_reducible show wpAny _ _ (call (Value.ref 899) _) _ _ _); (k_here; k_dflt (refine' useGB (c_law_written _ _ _ ?hx) (len_lwR _) ?k1 ?k2 ?k3 ?k4 ?k5 ?k6 ?k7 ?k8 ?_; (case hx => walk_at "mz"); ((case k1 => k_asm); (case k2 => k_asm); (case k3 => k_asm); (case k4 => k_asm); (case k5 => k_asm); (case k6 => first | exact rfl | assumption); (case k7 => ktr_room); (case k8 => ktr_units)); k_whole; intro t' h' tk' F' N' G' hB'; (try k_sweep); (try dsimp only)))) | ((with_reducible show wpAny _ _ (call (Value.ref 906) _) _ _ _); (k_here; k_dflt (refine' useGB (c_law_straight _ _ _ ?hx) (len_lsR _ ?hx2) ?k1 ?k2 ?k3 ?k4 ?k5 ?k6 ?k7 ?k8 ?_; (case hx => walk_at "mz"); (case hx2 => walk_at "mz"); ((case k1 => k_asm); (case k2 => k_asm); (case k3 => k_asm); (case k4 => k_asm); (case k5 => k_asm); (case k6 => first | exact rfl | assumption); (case k7 => ktr_room); (case k8 => ktr_units)); k_whole; intro t' h' tk' F' N' G' hB'; (try k_sweep); (try dsimp only)))) | ((with_reducible show wpAny _ _ (call (Value.ref 911) _) _ _ _); (k_here; k_dflt (refine' useGB (c_law_way _ _ _ _ _ ?hx ?hy) (len_wayR _ _ ?hx2 ?hy2) ?k1 ?k2 ?k3 ?k4 ?k5 ?k6 ?k7 ?k8 ?_; (case hx => walk_at "mz"); (case hx2 => walk_at "mz"); (case hy => walk_at "mz"); (case hy2 => walk_at "mz"); ((case k1 => k_asm); (case k2 => k_asm); (case k3 => k_asm); (case k4 => k_asm); (case k5 => k_asm); (case k6 => first | exact rfl | assumption); (case k7 => ktr_room); (case k8 => ktr_units)); k_whole; intro t' h' tk' F' N' G' hB'; (try k_sweep); (try dsimp only)))) | ((with_reducible show wpAny _ _ (subscriptTail (Expr.Name _ _) _ (Value.ref _) (Value.int _ _)) _ _ _); refine stop9 ?_) | ((with_reducible show wpAny _ _ (call (Value.ref _) _) _ _ _); refine stop9 ?_) | (k_unfold; try dsimp only) | (k_end; wrow_close) | walk1 | (dsimp only; walk1) | (leave1; try dsimp only)))
          · intro a' t' e; cases e; exact ⟨_, rfl⟩
          · exact ⟨_, _, rfl, by assumption⟩
        case cfin5 =>
          intro D7 k7 ys7 h' tk vs hl hvs F N hne7 P
          refine foldP ?_; intro Gz
          simp only [AllNe, and_true] at hne7
          rw [filter_true, three_of rfl hl hvs] at P
          obtain ⟨_, _, _, rfl, r1, r2, r3⟩ := paired3 P
          obtain ⟨t1, rfl⟩ := r1 _ _ rfl
          obtain ⟨t2, rfl⟩ := r2 _ _ rfl
          obtain ⟨t3, rfl⟩ := r3 _ _ rfl
          clear P hvs hl vs
          have hw7 : StrsAre (#[Value.str (lwR x) t1, .str (lwR y) t2, .str (lwR z) t3] : Array Value).toList [lwR x, lwR y, lwR z] := .cons _ _ (.cons _ _ (.cons _ _ .nil))
          obtain ⟨lo7, hlc7, hld7, hlo7⟩ : ∃ lo : Obj, lo.cls = .type "list" ∧ lo.data = .seq #[.str (lwR x) t1, .str (lwR y) t2, .str (lwR z) t3] k7 ∧ W.listOf #[.str (lwR x) t1, .str (lwR y) t2, .str (lwR z) t3] k7 = lo := ⟨_, rfl, rfl, rfl⟩
          have hlo7 : W.listOf [Value.str (lwR x) t1, .str (lwR y) t2, .str (lwR z) t3].toArray k7 = lo7 := hlo7
          rw [hlo7] at N
          clear hlo7
          (repeat' (first | ((with_reducible show wpAny _ _ (call (Value.ref 894) _) _ _ _); (k_here; k_dflt (refine' use (c_law_name _ _ _) ?k1 ?k2 ?k3 ?k4 ?k5 ?k6 ?kp ?k7 ?k8 ?_; (case kp => exact trivial); ((case k1 => k_asm); (case k2 => k_asm); (case k3 => k_asm); (case k4 => k_asm); (case k5 => k_asm); (case k6 => first | exact rfl | assumption); (case k7 => ktr_room); (case k8 => ktr_units)); k_whole; intro v' h' tk' F' N' G' hv'; obtain ⟨y', t', e0', hy', hl'⟩ := hv'; subst e0'; (try k_sweep); (try dsimp only)))) | ((with_reducible show wpAny _ _ (call (Value.ref 899) _) _ _ _); (k_here; k_dflt (refine' useGB (c_law_written _ _ _ ?hx) (len_lwR _) ?k1 ?k2 ?k3 ?k4 ?k5 ?k6 ?k7 ?k8 ?_; (case hx => walk_at "mz"); ((case k1 => k_asm); (case k2 => k_asm); (case k3 => k_asm); (case k4 => k_asm); (case k5 => k_asm); (case k6 => first | exact rfl | assumption); (case k7 => ktr_room); (case k8 => ktr_units)); k_whole; intro t' h' tk' F' N' G' hB'; (try k_sweep); (try dsimp only)))) | ((with_reducible show wpAny _ _ (call (Value.ref 906) _) _ _ _); (k_here; k_dflt (refine' useGB (c_law_straight _ _ _ ?hx) (len_lsR _ ?hx2) ?k1 ?k2 ?k3 ?k4 ?k5 ?k6 ?k7 ?k8 ?_; (case hx => walk_at "mz"); (case hx2 => walk_at "mz"); ((case k1 => k_asm); (case k2 => k_asm); (case k3 => k_asm); (case k4 => k_asm); (case k5 => k_asm); (case k6 => first | exact rfl | assumption); (case k7 => ktr_room); (case k8 => ktr_units)); k_whole; intro t' h' tk' F' N' G' hB'; (try k_sweep); (try dsimp only)))) | ((with_reducible show wpAny _ _ (call (Value.ref 911) _) _ _ _); (k_here; k_dflt (refine' useGB (c_law_way _ _ _ _ _ ?hx ?hy) (len_wayR _ _ ?hx2 ?hy2) ?k1 ?k2 ?k3 ?k4 ?k5 ?k6 ?k7 ?k8 ?_; (case hx => walk_at "mz"); (case hx2 => walk_at "mz"); (case hy => walk_at "mz"); (case hy2 => walk_at "mz"); ((case k1 => k_asm); (case k2 => k_asm); (case k3 => k_asm); (case k4 => k_asm); (case k5 => k_asm); (case k6 => first | exact rfl | assumption); (case k7 => ktr_room); (case k8 => ktr_units)); k_whole; intro t' h' tk' F' N' G' hB'; (try k_sweep); (try dsimp only)))) | ((with_reducible show wpAny _ _ (subscriptTail (Expr.Name _ _) _ (Value.ref _) (Value.int _ _)) _ _ _); refine stop9 ?_) | ((with_reducible show wpAny _ _ (call (Value.ref _) _) _ _ _); refine stop9 ?_) | (k_unfold; try dsimp only) | (k_end; wrow_close) | walk1 | (dsimp only; walk1) | (leave1; try dsimp only)))
          unfold Stop9
          k_dflt (refine' useLS (R := fun l => StrsAre l (toldR (lwR x) (lwR y) (lwR z))) (c_law_told w D7 lo7 (lwR x) (lwR y) (lwR z) t1 t2 t3 k7 (Nat.le_trans (len_lwR x) (bd7 hx rfl)) (Nat.le_trans (len_lwR y) (bd7 hy rfl)) (Nat.le_trans (len_lwR z) (bd7 hz rfl)) hlc7 hld7) ?k1 ?k2 ?k3 ?k4 ?k5 ?k6 ?kp ?k7 ?k8 ?kA ?kf ?_; (case kp => exact News.get (by k_asm) (.head _)); (case kA => exact rfl); (case kf => exact rfl); ((case k1 => k_asm); (case k2 => k_asm); (case k3 => k_asm); (case k4 => k_asm); (case k5 => k_asm); (case k6 => first | exact rfl | assumption); (case k7 => ktr_room); (case k8 => ktr_units)); k_whole)
          intro D8 its8 k8 h8 tk8 F8 N8 hne8 hs8
          rw [due_lw] at hs8
          clear hne8
          k_sweep
          (repeat' (first | ((with_reducible show wpAny _ _ (call (Value.ref 894) _) _ _ _); (k_here; k_dflt (refine' use (c_law_name _ _ _) ?k1 ?k2 ?k3 ?k4 ?k5 ?k6 ?kp ?k7 ?k8 ?_; (case kp => exact trivial); ((case k1 => k_asm); (case k2 => k_asm); (case k3 => k_asm); (case k4 => k_asm); (case k5 => k_asm); (case k6 => first | exact rfl | assumption); (case k7 => ktr_room); (case k8 => ktr_units)); k_whole; intro v' h' tk' F' N' G' hv'; obtain ⟨y', t', e0', hy', hl'⟩ := hv'; subst e0'; (try k_sweep); (try dsimp only)))) | ((with_reducible show wpAny _ _ (call (Value.ref 899) _) _ _ _); (k_here; k_dflt (refine' useGB (c_law_written _ _ _ ?hx) (len_lwR _) ?k1 ?k2 ?k3 ?k4 ?k5 ?k6 ?k7 ?k8 ?_; (case hx => walk_at "mz"); ((case k1 => k_asm); (case k2 => k_asm); (case k3 => k_asm); (case k4 => k_asm); (case k5 => k_asm); (case k6 => first | exact rfl | assumption); (case k7 => ktr_room); (case k8 => ktr_units)); k_whole; intro t' h' tk' F' N' G' hB'; (try k_sweep); (try dsimp only)))) | ((with_reducible show wpAny _ _ (call (Value.ref 906) _) _ _ _); (k_here; k_dflt (refine' useGB (c_law_straight _ _ _ ?hx) (len_lsR _ ?hx2) ?k1 ?k2 ?k3 ?k4 ?k5 ?k6 ?k7 ?k8 ?_; (case hx => walk_at "mz"); (case hx2 => walk_at "mz"); ((case k1 => k_asm); (case k2 => k_asm); (case k3 => k_asm); (case k4 => k_asm); (case k5 => k_asm); (case k6 => first | exact rfl | assumption); (case k7 => ktr_room); (case k8 => ktr_units)); k_whole; intro t' h' tk' F' N' G' hB'; (try k_sweep); (try dsimp only)))) | ((with_reducible show wpAny _ _ (call (Value.ref 911) _) _ _ _); (k_here; k_dflt (refine' useGB (c_law_way _ _ _ _ _ ?hx ?hy) (len_wayR _ _ ?hx2 ?hy2) ?k1 ?k2 ?k3 ?k4 ?k5 ?k6 ?k7 ?k8 ?_; (case hx => walk_at "mz"); (case hx2 => walk_at "mz"); (case hy => walk_at "mz"); (case hy2 => walk_at "mz"); ((case k1 => k_asm); (case k2 => k_asm); (case k3 => k_asm); (case k4 => k_asm); (case k5 => k_asm); (case k6 => first | exact rfl | assumption); (case k7 => ktr_room); (case k8 => ktr_units)); k_whole; intro t' h' tk' F' N' G' hB'; (try k_sweep); (try dsimp only)))) | ((with_reducible show wpAny _ _ (subscriptTail (Expr.Name _ _) _ (Value.ref _) (Value.int _ _)) _ _ _); refine stop9 ?_) | ((with_reducible show wpAny _ _ (call (Value.ref _) _) _ _ _); refine stop9 ?_) | (k_unfold; try dsimp only) | (k_end; wrow_close) | walk1 | (dsimp only; walk1) | (leave1; try dsimp only)))
          unfold Stop9
          k_dflt (refine' lg_list s0.heap s0.heap.objs.size (fun _ => true) (RS lwR) ?hclos ?hsc ?hx ?_ ?hs; (((case hclos => with_unfolding_all rfl); (case hsc => with_unfolding_all rfl); (case hx => with_unfolding_all rfl)); (case hs => intro _; with_unfolding_all rfl); k_whole))
          (repeat' (first | ((with_reducible show wpAny _ _ (call (Value.ref 894) _) _ _ _); (k_here; k_dflt (refine' use (c_law_name _ _ _) ?k1 ?k2 ?k3 ?k4 ?k5 ?k6 ?kp ?k7 ?k8 ?_; (case kp => exact trivial); ((case k1 => k_asm); (case k2 => k_asm); (case k3 => k_asm); (case k4 => k_asm); (case k5 => k_asm); (case k6 => first | exact rfl | assumption); (case k7 => ktr_room); (case k8 => ktr_units)); k_whole; intro v' h' tk' F' N' G' hv'; obtain ⟨y', t', e0', hy', hl'⟩ := hv'; subst e0'; (try k_sweep); (try dsimp only)))) | ((with_reducible show wpAny _ _ (call (Value.ref 899) _) _ _ _); (k_here; k_dflt (refine' useGB (c_law_written _ _ _ ?hx) (len_lwR _) ?k1 ?k2 ?k3 ?k4 ?k5 ?k6 ?k7 ?k8 ?_; (case hx => walk_at "mz"); ((case k1 => k_asm); (case k2 => k_asm); (case k3 => k_asm); (case k4 => k_asm); (case k5 => k_asm); (case k6 => first | exact rfl | assumption); (case k7 => ktr_room); (case k8 => ktr_units)); k_whole; intro t' h' tk' F' N' G' hB'; (try k_sweep); (try dsimp only)))) | ((with_reducible show wpAny _ _ (call (Value.ref 906) _) _ _ _); (k_here; k_dflt (refine' useGB (c_law_straight _ _ _ ?hx) (len_lsR _ ?hx2) ?k1 ?k2 ?k3 ?k4 ?k5 ?k6 ?k7 ?k8 ?_; (case hx => walk_at "mz"); (case hx2 => walk_at "mz"); ((case k1 => k_asm); (case k2 => k_asm); (case k3 => k_asm); (case k4 => k_asm); (case k5 => k_asm); (case k6 => first | exact rfl | assumption); (case k7 => ktr_room); (case k8 => ktr_units)); k_whole; intro t' h' tk' F' N' G' hB'; (try k_sweep); (try dsimp only)))) | ((with_reducible show wpAny _ _ (call (Value.ref 911) _) _ _ _); (k_here; k_dflt (refine' useGB (c_law_way _ _ _ _ _ ?hx ?hy) (len_wayR _ _ ?hx2 ?hy2) ?k1 ?k2 ?k3 ?k4 ?k5 ?k6 ?k7 ?k8 ?_; (case hx => walk_at "mz"); (case hx2 => walk_at "mz"); (case hy => walk_at "mz"); (case hy2 => walk_at "mz"); ((case k1 => k_asm); (case k2 => k_asm); (case k3 => k_asm); (case k4 => k_asm); (case k5 => k_asm); (case k6 => first | exact rfl | assumption); (case k7 => ktr_room); (case k8 => ktr_units)); k_whole; intro t' h' tk' F' N' G' hB'; (try k_sweep); (try dsimp only)))) | ((with_reducible show wpAny _ _ (subscriptTail (Expr.Name _ _) _ (Value.ref _) (Value.int _ _)) _ _ _); refine stop9 ?_) | ((with_reducible show wpAny _ _ (call (Value.ref _) _) _ _ _); refine stop9 ?_) | (k_unfold; try dsimp only) | (k_end; wrow_close) | walk1 | (dsimp only; walk1) | (leave1; try dsimp only)))
          all_goals (try dsimp only)
          k_dflt (refine' lgE ?src ?size ?fr ?nws ?ct6 ?ce6 ?cfin6; (case src => (refine' src_list ?srch ?srcg ?srcc ?srcd; (case srch => with_unfolding_all rfl); (case srcg => walk_at "mo"); (case srcc => walk_at "mc"); (case srcd => walk_at "mc"))); (case size => exact due_size hs4); (case fr => k_asm); (case nws => k_asm))
          case ct6 => intros; exact lc_noTests
          case ce6 =>
            intro C i v s₂ m₂ E' hv _ F N M hm g
            obtain ⟨a, t, rfl, ha⟩ := mem_arr hs4 hv
            have ha := due_le hx hy hz a ha
            (repeat' (first | ((with_reducible show wpAny _ _ (call (Value.ref 894) _) _ _ _); (k_here; k_dflt (refine' use (c_law_name _ _ _) ?k1 ?k2 ?k3 ?k4 ?k5 ?k6 ?kp ?k7 ?k8 ?_; (case kp => exact trivial); ((case k1 => k_asm); (case k2 => k_asm); (case k3 => k_asm); (case k4 => k_asm); (case k5 => k_asm); (case k6 => first | exact rfl | assumption); (case k7 => ktr_room); (case k8 => ktr_units)); k_whole; intro v' h' tk' F' N' G' hv'; obtain ⟨y', t', e0', hy', hl'⟩ := hv'; subst e0'; (try k_sweep); (try dsimp only)))) | ((with_reducible show wpAny _ _ (call (Value.ref 899) _) _ _ _); (k_here; k_dflt (refine' useGB (c_law_written _ _ _ ?hx) (len_lwR _) ?k1 ?k2 ?k3 ?k4 ?k5 ?k6 ?k7 ?k8 ?_; (case hx => walk_at "mz"); ((case k1 => k_asm); (case k2 => k_asm); (case k3 => k_asm); (case k4 => k_asm); (case k5 => k_asm); (case k6 => first | exact rfl | assumption); (case k7 => ktr_room); (case k8 => ktr_units)); k_whole; intro t' h' tk' F' N' G' hB'; (try k_sweep); (try dsimp only)))) | ((with_reducible show wpAny _ _ (call (Value.ref 906) _) _ _ _); (k_here; k_dflt (refine' useGB (c_law_straight _ _ _ ?hx) (len_lsR _ ?hx2) ?k1 ?k2 ?k3 ?k4 ?k5 ?k6 ?k7 ?k8 ?_; (case hx => walk_at "mz"); (case hx2 => walk_at "mz"); ((case k1 => k_asm); (case k2 => k_asm); (case k3 => k_asm); (case k4 => k_asm); (case k5 => k_asm); (case k6 => first | exact rfl | assumption); (case k7 => ktr_room); (case k8 => ktr_units)); k_whole; intro t' h' tk' F' N' G' hB'; (try k_sweep); (try dsimp only)))) | ((with_reducible show wpAny _ _ (call (Value.ref 911) _) _ _ _); (k_here; k_dflt (refine' useGB (c_law_way _ _ _ _ _ ?hx ?hy) (len_wayR _ _ ?hx2 ?hy2) ?k1 ?k2 ?k3 ?k4 ?k5 ?k6 ?k7 ?k8 ?_; (case hx => walk_at "mz"); (case hx2 => walk_at "mz"); (case hy => walk_at "mz"); (case hy2 => walk_at "mz"); ((case k1 => k_asm); (case k2 => k_asm); (case k3 => k_asm); (case k4 => k_asm); (case k5 => k_asm); (case k6 => first | exact rfl | assumption); (case k7 => ktr_room); (case k8 => ktr_units)); k_whole; intro t' h' tk' F' N' G' hB'; (try k_sweep); (try dsimp only)))) | ((with_reducible show wpAny _ _ (subscriptTail (Expr.Name _ _) _ (Value.ref _) (Value.int _ _)) _ _ _); refine stop9 ?_) | ((with_reducible show wpAny _ _ (call (Value.ref _) _) _ _ _); refine stop9 ?_) | (k_unfold; try dsimp only) | (k_end; wrow_close) | walk1 | (dsimp only; walk1) | (leave1; try dsimp only)))
            · intro a' t' e; cases e; exact ⟨_, rfl⟩
            · exact ⟨_, _, rfl, by assumption⟩
          case cfin6 =>
            intro D9 k9 ys9 h' tk vs hl hvs F N hne9 g9 hnone9 P
            refine foldP ?_; intro Gz
            simp only [AllNe, and_true] at hne9
            rw [filter_true, same_list hl hvs] at P
            have hw9 : StrsAre ys9.toArray.toList ((dueR x y z).map lwR) := paired_strs hs4 P
            clear P hvs hl g9 hnone9 vs
            have hdl := due_len x y z
            have hj := line_join hx hy hz
            have hp0 : StrsAre (#[Value.str x tx, .str y ty, .str z tz] : Array Value).toList [x, y, z] := .cons _ _ (.cons _ _ (.cons _ _ .nil))
            unfold lineL at hj
            (repeat' (first | ((with_reducible show wpAny _ _ (call (Value.ref 894) _) _ _ _); (k_here; k_dflt (refine' use (c_law_name _ _ _) ?k1 ?k2 ?k3 ?k4 ?k5 ?k6 ?kp ?k7 ?k8 ?_; (case kp => exact trivial); ((case k1 => k_asm); (case k2 => k_asm); (case k3 => k_asm); (case k4 => k_asm); (case k5 => k_asm); (case k6 => first | exact rfl | assumption); (case k7 => ktr_room); (case k8 => ktr_units)); k_whole; intro v' h' tk' F' N' G' hv'; obtain ⟨y', t', e0', hy', hl'⟩ := hv'; subst e0'; (try k_sweep); (try dsimp only)))) | ((with_reducible show wpAny _ _ (call (Value.ref 899) _) _ _ _); (k_here; k_dflt (refine' useGB (c_law_written _ _ _ ?hx) (len_lwR _) ?k1 ?k2 ?k3 ?k4 ?k5 ?k6 ?k7 ?k8 ?_; (case hx => walk_at "mz"); ((case k1 => k_asm); (case k2 => k_asm); (case k3 => k_asm); (case k4 => k_asm); (case k5 => k_asm); (case k6 => first | exact rfl | assumption); (case k7 => ktr_room); (case k8 => ktr_units)); k_whole; intro t' h' tk' F' N' G' hB'; (try k_sweep); (try dsimp only)))) | ((with_reducible show wpAny _ _ (call (Value.ref 906) _) _ _ _); (k_here; k_dflt (refine' useGB (c_law_straight _ _ _ ?hx) (len_lsR _ ?hx2) ?k1 ?k2 ?k3 ?k4 ?k5 ?k6 ?k7 ?k8 ?_; (case hx => walk_at "mz"); (case hx2 => walk_at "mz"); ((case k1 => k_asm); (case k2 => k_asm); (case k3 => k_asm); (case k4 => k_asm); (case k5 => k_asm); (case k6 => first | exact rfl | assumption); (case k7 => ktr_room); (case k8 => ktr_units)); k_whole; intro t' h' tk' F' N' G' hB'; (try k_sweep); (try dsimp only)))) | ((with_reducible show wpAny _ _ (call (Value.ref 911) _) _ _ _); (k_here; k_dflt (refine' useGB (c_law_way _ _ _ _ _ ?hx ?hy) (len_wayR _ _ ?hx2 ?hy2) ?k1 ?k2 ?k3 ?k4 ?k5 ?k6 ?k7 ?k8 ?_; (case hx => walk_at "mz"); (case hx2 => walk_at "mz"); (case hy => walk_at "mz"); (case hy2 => walk_at "mz"); ((case k1 => k_asm); (case k2 => k_asm); (case k3 => k_asm); (case k4 => k_asm); (case k5 => k_asm); (case k6 => first | exact rfl | assumption); (case k7 => ktr_room); (case k8 => ktr_units)); k_whole; intro t' h' tk' F' N' G' hB'; (try k_sweep); (try dsimp only)))) | ((with_reducible show wpAny _ _ (subscriptTail (Expr.Name _ _) _ (Value.ref _) (Value.int _ _)) _ _ _); refine stop9 ?_) | ((with_reducible show wpAny _ _ (call (Value.ref _) _) _ _ _); refine stop9 ?_) | (k_unfold; try dsimp only) | (k_end; wrow_close) | walk1 | (dsimp only; walk1) | (leave1; try dsimp only)))
            unfold Stop9
            k_dflt (refine' useLS (R := fun l => ∃ ys, StrsAre l ys ∧ ys.map cs = (askL x y z).map cs) (c_split w (Txt.join (Str.ofString " ") (lineL x y z)) _ ((askL x y z).map cs) (line_len hx hy hz) (line_ask x y z) (ask_len x y z)) ?k1 ?k2 ?k3 ?k4 ?k5 ?k6 ?kp ?k7 ?k8 ?kA ?kf ?_; (case kp => trivial); (case kA => exact rfl); (case kf => exact rfl); ((case k1 => k_asm); (case k2 => k_asm); (case k3 => k_asm); (case k4 => k_asm); (case k5 => k_asm); (case k6 => first | exact rfl | assumption); (case k7 => ktr_room); (case k8 => ktr_units)); k_whole)
            intro D10 its10 k10 h10 tk10 F10 N10 hne10 ⟨ys10, hs10, hy10⟩
            obtain rfl := cs_inj hy10
            clear hne10 hy10
            k_sweep
            (repeat' (first | ((with_reducible show wpAny _ _ (call (Value.ref 894) _) _ _ _); (k_here; k_dflt (refine' use (c_law_name _ _ _) ?k1 ?k2 ?k3 ?k4 ?k5 ?k6 ?kp ?k7 ?k8 ?_; (case kp => exact trivial); ((case k1 => k_asm); (case k2 => k_asm); (case k3 => k_asm); (case k4 => k_asm); (case k5 => k_asm); (case k6 => first | exact rfl | assumption); (case k7 => ktr_room); (case k8 => ktr_units)); k_whole; intro v' h' tk' F' N' G' hv'; obtain ⟨y', t', e0', hy', hl'⟩ := hv'; subst e0'; (try k_sweep); (try dsimp only)))) | ((with_reducible show wpAny _ _ (call (Value.ref 899) _) _ _ _); (k_here; k_dflt (refine' useGB (c_law_written _ _ _ ?hx) (len_lwR _) ?k1 ?k2 ?k3 ?k4 ?k5 ?k6 ?k7 ?k8 ?_; (case hx => walk_at "mz"); ((case k1 => k_asm); (case k2 => k_asm); (case k3 => k_asm); (case k4 => k_asm); (case k5 => k_asm); (case k6 => first | exact rfl | assumption); (case k7 => ktr_room); (case k8 => ktr_units)); k_whole; intro t' h' tk' F' N' G' hB'; (try k_sweep); (try dsimp only)))) | ((with_reducible show wpAny _ _ (call (Value.ref 906) _) _ _ _); (k_here; k_dflt (refine' useGB (c_law_straight _ _ _ ?hx) (len_lsR _ ?hx2) ?k1 ?k2 ?k3 ?k4 ?k5 ?k6 ?k7 ?k8 ?_; (case hx => walk_at "mz"); (case hx2 => walk_at "mz"); ((case k1 => k_asm); (case k2 => k_asm); (case k3 => k_asm); (case k4 => k_asm); (case k5 => k_asm); (case k6 => first | exact rfl | assumption); (case k7 => ktr_room); (case k8 => ktr_units)); k_whole; intro t' h' tk' F' N' G' hB'; (try k_sweep); (try dsimp only)))) | ((with_reducible show wpAny _ _ (call (Value.ref 911) _) _ _ _); (k_here; k_dflt (refine' useGB (c_law_way _ _ _ _ _ ?hx ?hy) (len_wayR _ _ ?hx2 ?hy2) ?k1 ?k2 ?k3 ?k4 ?k5 ?k6 ?k7 ?k8 ?_; (case hx => walk_at "mz"); (case hx2 => walk_at "mz"); (case hy => walk_at "mz"); (case hy2 => walk_at "mz"); ((case k1 => k_asm); (case k2 => k_asm); (case k3 => k_asm); (case k4 => k_asm); (case k5 => k_asm); (case k6 => first | exact rfl | assumption); (case k7 => ktr_room); (case k8 => ktr_units)); k_whole; intro t' h' tk' F' N' G' hB'; (try k_sweep); (try dsimp only)))) | ((with_reducible show wpAny _ _ (subscriptTail (Expr.Name _ _) _ (Value.ref _) (Value.int _ _)) _ _ _); refine stop9 ?_) | ((with_reducible show wpAny _ _ (call (Value.ref _) _) _ _ _); refine stop9 ?_) | (k_unfold; try dsimp only) | (k_end; wrow_close) | walk1 | (dsimp only; walk1) | (leave1; try dsimp only)))
            unfold Stop9
            k_dflt (refine' lg_list s0.heap s0.heap.objs.size (fP fun n => n != nE) (RS id) ?hclos ?hsc ?hx ?_ ?hs; (((case hclos => with_unfolding_all rfl); (case hsc => with_unfolding_all rfl); (case hx => with_unfolding_all rfl)); (case hs => intro _; with_unfolding_all rfl); k_whole))
            (repeat' (first | ((with_reducible show wpAny _ _ (call (Value.ref 894) _) _ _ _); (k_here; k_dflt (refine' use (c_law_name _ _ _) ?k1 ?k2 ?k3 ?k4 ?k5 ?k6 ?kp ?k7 ?k8 ?_; (case kp => exact trivial); ((case k1 => k_asm); (case k2 => k_asm); (case k3 => k_asm); (case k4 => k_asm); (case k5 => k_asm); (case k6 => first | exact rfl | assumption); (case k7 => ktr_room); (case k8 => ktr_units)); k_whole; intro v' h' tk' F' N' G' hv'; obtain ⟨y', t', e0', hy', hl'⟩ := hv'; subst e0'; (try k_sweep); (try dsimp only)))) | ((with_reducible show wpAny _ _ (call (Value.ref 899) _) _ _ _); (k_here; k_dflt (refine' useGB (c_law_written _ _ _ ?hx) (len_lwR _) ?k1 ?k2 ?k3 ?k4 ?k5 ?k6 ?k7 ?k8 ?_; (case hx => walk_at "mz"); ((case k1 => k_asm); (case k2 => k_asm); (case k3 => k_asm); (case k4 => k_asm); (case k5 => k_asm); (case k6 => first | exact rfl | assumption); (case k7 => ktr_room); (case k8 => ktr_units)); k_whole; intro t' h' tk' F' N' G' hB'; (try k_sweep); (try dsimp only)))) | ((with_reducible show wpAny _ _ (call (Value.ref 906) _) _ _ _); (k_here; k_dflt (refine' useGB (c_law_straight _ _ _ ?hx) (len_lsR _ ?hx2) ?k1 ?k2 ?k3 ?k4 ?k5 ?k6 ?k7 ?k8 ?_; (case hx => walk_at "mz"); (case hx2 => walk_at "mz"); ((case k1 => k_asm); (case k2 => k_asm); (case k3 => k_asm); (case k4 => k_asm); (case k5 => k_asm); (case k6 => first | exact rfl | assumption); (case k7 => ktr_room); (case k8 => ktr_units)); k_whole; intro t' h' tk' F' N' G' hB'; (try k_sweep); (try dsimp only)))) | ((with_reducible show wpAny _ _ (call (Value.ref 911) _) _ _ _); (k_here; k_dflt (refine' useGB (c_law_way _ _ _ _ _ ?hx ?hy) (len_wayR _ _ ?hx2 ?hy2) ?k1 ?k2 ?k3 ?k4 ?k5 ?k6 ?k7 ?k8 ?_; (case hx => walk_at "mz"); (case hx2 => walk_at "mz"); (case hy => walk_at "mz"); (case hy2 => walk_at "mz"); ((case k1 => k_asm); (case k2 => k_asm); (case k3 => k_asm); (case k4 => k_asm); (case k5 => k_asm); (case k6 => first | exact rfl | assumption); (case k7 => ktr_room); (case k8 => ktr_units)); k_whole; intro t' h' tk' F' N' G' hB'; (try k_sweep); (try dsimp only)))) | ((with_reducible show wpAny _ _ (subscriptTail (Expr.Name _ _) _ (Value.ref _) (Value.int _ _)) _ _ _); refine stop9 ?_) | ((with_reducible show wpAny _ _ (call (Value.ref _) _) _ _ _); refine stop9 ?_) | (k_unfold; try dsimp only) | (k_end; wrow_close) | walk1 | (dsimp only; walk1) | (leave1; try dsimp only)))
            all_goals (try dsimp only)
            (with_reducible rename StrsAre _ _ => hsA)
            k_dflt (refine' lgE ?src ?size ?fr ?nws ?ct7 ?ce7 ?cfin7; (case src => (refine' src_list ?srch ?srcg ?srcc ?srcd; (case srch => with_unfolding_all rfl); (case srcg => walk_at "mo"); (case srcc => walk_at "mc"); (case srcd => walk_at "mc"))); (case size => exact line_size hsA); (case fr => k_asm); (case nws => k_asm))
            case ct7 =>
              intro C i v s₂ m₂ E' hv F N M hm g
              obtain ⟨b, t, rfl, hb⟩ := mem_arr hsA hv
              clear hv
              (repeat' (first | ((with_reducible show wpAny _ _ (call (Value.ref 894) _) _ _ _); (k_here; k_dflt (refine' use (c_law_name _ _ _) ?k1 ?k2 ?k3 ?k4 ?k5 ?k6 ?kp ?k7 ?k8 ?_; (case kp => exact trivial); ((case k1 => k_asm); (case k2 => k_asm); (case k3 => k_asm); (case k4 => k_asm); (case k5 => k_asm); (case k6 => first | exact rfl | assumption); (case k7 => ktr_room); (case k8 => ktr_units)); k_whole; intro v' h' tk' F' N' G' hv'; obtain ⟨y', t', e0', hy', hl'⟩ := hv'; subst e0'; (try k_sweep); (try dsimp only)))) | ((with_reducible show wpAny _ _ (call (Value.ref 899) _) _ _ _); (k_here; k_dflt (refine' useGB (c_law_written _ _ _ ?hx) (len_lwR _) ?k1 ?k2 ?k3 ?k4 ?k5 ?k6 ?k7 ?k8 ?_; (case hx => walk_at "mz"); ((case k1 => k_asm); (case k2 => k_asm); (case k3 => k_asm); (case k4 => k_asm); (case k5 => k_asm); (case k6 => first | exact rfl | assumption); (case k7 => ktr_room); (case k8 => ktr_units)); k_whole; intro t' h' tk' F' N' G' hB'; (try k_sweep); (try dsimp only)))) | ((with_reducible show wpAny _ _ (call (Value.ref 906) _) _ _ _); (k_here; k_dflt (refine' useGB (c_law_straight _ _ _ ?hx) (len_lsR _ ?hx2) ?k1 ?k2 ?k3 ?k4 ?k5 ?k6 ?k7 ?k8 ?_; (case hx => walk_at "mz"); (case hx2 => walk_at "mz"); ((case k1 => k_asm); (case k2 => k_asm); (case k3 => k_asm); (case k4 => k_asm); (case k5 => k_asm); (case k6 => first | exact rfl | assumption); (case k7 => ktr_room); (case k8 => ktr_units)); k_whole; intro t' h' tk' F' N' G' hB'; (try k_sweep); (try dsimp only)))) | ((with_reducible show wpAny _ _ (call (Value.ref 911) _) _ _ _); (k_here; k_dflt (refine' useGB (c_law_way _ _ _ _ _ ?hx ?hy) (len_wayR _ _ ?hx2 ?hy2) ?k1 ?k2 ?k3 ?k4 ?k5 ?k6 ?k7 ?k8 ?_; (case hx => walk_at "mz"); (case hx2 => walk_at "mz"); (case hy => walk_at "mz"); (case hy2 => walk_at "mz"); ((case k1 => k_asm); (case k2 => k_asm); (case k3 => k_asm); (case k4 => k_asm); (case k5 => k_asm); (case k6 => first | exact rfl | assumption); (case k7 => ktr_room); (case k8 => ktr_units)); k_whole; intro t' h' tk' F' N' G' hB'; (try k_sweep); (try dsimp only)))) | ((with_reducible show wpAny _ _ (subscriptTail (Expr.Name _ _) _ (Value.ref _) (Value.int _ _)) _ _ _); refine stop9 ?_) | ((with_reducible show wpAny _ _ (call (Value.ref _) _) _ _ _); refine stop9 ?_) | (k_unfold; try dsimp only) | (k_end; wrow_close) | walk1 | (dsimp only; walk1) | (leave1; try dsimp only)))
              exact ⟨_, _, rfl, fun _ _ e => e⟩
            case ce7 =>
              intro C i v s₂ m₂ E' hv _ F N M hm g
              obtain ⟨b, t, rfl, hb⟩ := mem_arr hsA hv
              clear hv
              (repeat' (first | ((with_reducible show wpAny _ _ (call (Value.ref 894) _) _ _ _); (k_here; k_dflt (refine' use (c_law_name _ _ _) ?k1 ?k2 ?k3 ?k4 ?k5 ?k6 ?kp ?k7 ?k8 ?_; (case kp => exact trivial); ((case k1 => k_asm); (case k2 => k_asm); (case k3 => k_asm); (case k4 => k_asm); (case k5 => k_asm); (case k6 => first | exact rfl | assumption); (case k7 => ktr_room); (case k8 => ktr_units)); k_whole; intro v' h' tk' F' N' G' hv'; obtain ⟨y', t', e0', hy', hl'⟩ := hv'; subst e0'; (try k_sweep); (try dsimp only)))) | ((with_reducible show wpAny _ _ (call (Value.ref 899) _) _ _ _); (k_here; k_dflt (refine' useGB (c_law_written _ _ _ ?hx) (len_lwR _) ?k1 ?k2 ?k3 ?k4 ?k5 ?k6 ?k7 ?k8 ?_; (case hx => walk_at "mz"); ((case k1 => k_asm); (case k2 => k_asm); (case k3 => k_asm); (case k4 => k_asm); (case k5 => k_asm); (case k6 => first | exact rfl | assumption); (case k7 => ktr_room); (case k8 => ktr_units)); k_whole; intro t' h' tk' F' N' G' hB'; (try k_sweep); (try dsimp only)))) | ((with_reducible show wpAny _ _ (call (Value.ref 906) _) _ _ _); (k_here; k_dflt (refine' useGB (c_law_straight _ _ _ ?hx) (len_lsR _ ?hx2) ?k1 ?k2 ?k3 ?k4 ?k5 ?k6 ?k7 ?k8 ?_; (case hx => walk_at "mz"); (case hx2 => walk_at "mz"); ((case k1 => k_asm); (case k2 => k_asm); (case k3 => k_asm); (case k4 => k_asm); (case k5 => k_asm); (case k6 => first | exact rfl | assumption); (case k7 => ktr_room); (case k8 => ktr_units)); k_whole; intro t' h' tk' F' N' G' hB'; (try k_sweep); (try dsimp only)))) | ((with_reducible show wpAny _ _ (call (Value.ref 911) _) _ _ _); (k_here; k_dflt (refine' useGB (c_law_way _ _ _ _ _ ?hx ?hy) (len_wayR _ _ ?hx2 ?hy2) ?k1 ?k2 ?k3 ?k4 ?k5 ?k6 ?k7 ?k8 ?_; (case hx => walk_at "mz"); (case hx2 => walk_at "mz"); (case hy => walk_at "mz"); (case hy2 => walk_at "mz"); ((case k1 => k_asm); (case k2 => k_asm); (case k3 => k_asm); (case k4 => k_asm); (case k5 => k_asm); (case k6 => first | exact rfl | assumption); (case k7 => ktr_room); (case k8 => ktr_units)); k_whole; intro t' h' tk' F' N' G' hB'; (try k_sweep); (try dsimp only)))) | ((with_reducible show wpAny _ _ (subscriptTail (Expr.Name _ _) _ (Value.ref _) (Value.int _ _)) _ _ _); refine stop9 ?_) | ((with_reducible show wpAny _ _ (call (Value.ref _) _) _ _ _); refine stop9 ?_) | (k_unfold; try dsimp only) | (k_end; wrow_close) | walk1 | (dsimp only; walk1) | (leave1; try dsimp only)))
              · exact rs_of rfl
              · exact ⟨_, _, rfl, fun _ _ e => e⟩
            case cfin7 =>
              intro D11 k11 ys11 h' tk vs hl hvs F N hne11 g11 hnone11 P
              refine foldP ?_; intro Gz
              rw [same_list hl hvs] at P
              have hS : StrsAre ys11.toArray.toList (askL x y z) := by have h := paired_filter hsA P; rw [List.map_id] at h; exact h
              clear P hvs hl g11 hnone11 hne11 vs
              (repeat' (first | ((with_reducible show wpAny _ _ (call (Value.ref 894) _) _ _ _); (k_here; k_dflt (refine' use (c_law_name _ _ _) ?k1 ?k2 ?k3 ?k4 ?k5 ?k6 ?kp ?k7 ?k8 ?_; (case kp => exact trivial); ((case k1 => k_asm); (case k2 => k_asm); (case k3 => k_asm); (case k4 => k_asm); (case k5 => k_asm); (case k6 => first | exact rfl | assumption); (case k7 => ktr_room); (case k8 => ktr_units)); k_whole; intro v' h' tk' F' N' G' hv'; obtain ⟨y', t', e0', hy', hl'⟩ := hv'; subst e0'; (try k_sweep); (try dsimp only)))) | ((with_reducible show wpAny _ _ (call (Value.ref 899) _) _ _ _); (k_here; k_dflt (refine' useGB (c_law_written _ _ _ ?hx) (len_lwR _) ?k1 ?k2 ?k3 ?k4 ?k5 ?k6 ?k7 ?k8 ?_; (case hx => walk_at "mz"); ((case k1 => k_asm); (case k2 => k_asm); (case k3 => k_asm); (case k4 => k_asm); (case k5 => k_asm); (case k6 => first | exact rfl | assumption); (case k7 => ktr_room); (case k8 => ktr_units)); k_whole; intro t' h' tk' F' N' G' hB'; (try k_sweep); (try dsimp only)))) | ((with_reducible show wpAny _ _ (call (Value.ref 906) _) _ _ _); (k_here; k_dflt (refine' useGB (c_law_straight _ _ _ ?hx) (len_lsR _ ?hx2) ?k1 ?k2 ?k3 ?k4 ?k5 ?k6 ?k7 ?k8 ?_; (case hx => walk_at "mz"); (case hx2 => walk_at "mz"); ((case k1 => k_asm); (case k2 => k_asm); (case k3 => k_asm); (case k4 => k_asm); (case k5 => k_asm); (case k6 => first | exact rfl | assumption); (case k7 => ktr_room); (case k8 => ktr_units)); k_whole; intro t' h' tk' F' N' G' hB'; (try k_sweep); (try dsimp only)))) | ((with_reducible show wpAny _ _ (call (Value.ref 911) _) _ _ _); (k_here; k_dflt (refine' useGB (c_law_way _ _ _ _ _ ?hx ?hy) (len_wayR _ _ ?hx2 ?hy2) ?k1 ?k2 ?k3 ?k4 ?k5 ?k6 ?k7 ?k8 ?_; (case hx => walk_at "mz"); (case hx2 => walk_at "mz"); (case hy => walk_at "mz"); (case hy2 => walk_at "mz"); ((case k1 => k_asm); (case k2 => k_asm); (case k3 => k_asm); (case k4 => k_asm); (case k5 => k_asm); (case k6 => first | exact rfl | assumption); (case k7 => ktr_room); (case k8 => ktr_units)); k_whole; intro t' h' tk' F' N' G' hB'; (try k_sweep); (try dsimp only)))) | ((with_reducible show wpAny _ _ (subscriptTail (Expr.Name _ _) _ (Value.ref _) (Value.int _ _)) _ _ _); refine stop9 ?_) | ((with_reducible show wpAny _ _ (call (Value.ref _) _) _ _ _); refine stop9 ?_) | (k_unfold; try dsimp only) | (k_end; wrow_close) | walk1 | (dsimp only; walk1) | (leave1; try dsimp only)))
end
end Mine
theorem PySem.Challenge.cw_in0312_01_holds : PySem.Challenge.rw_in0312_01.Holds :=
  Mine.c_law
