import PyProof.Rows.All
import Wide.All
import OpenK.AllK
import Wide.FinOn
import Lean
import PySem.Challenge.RW_dn0005_06
section
open PySem PySem.W PyProof.Rows
set_option Elab.async false
set_option maxRecDepth 100000
set_option maxHeartbeats 8000000
namespace Mine
def q0 : Str := Str.ofString "a"
theorem q0e : q0 = q0 := rfl
end Mine
name_quick tw14684218893798390057 for Mine.q0 by Mine.q0e
name_quick tw1037219693850711018 for Mine.q0 by Mine.q0e
name_quick tw4318194375511269489 for Mine.q0 by Mine.q0e
name_quick tw7054479732324191140 for Mine.q0 by Mine.q0e
name_quick tw4964249194337563727 for Mine.q0 by Mine.q0e
name_quick tw2731866988779192292 for Mine.q0 by Mine.q0e
name_quick tw3609577455239288347 for Mine.q0 by Mine.q0e
name_quick tw2364234203996011284 for Mine.q0 by Mine.q0e
name_quick tw17136060568024414387 for Mine.q0 by Mine.q0e
name_quick tw1736923579871996304 for Mine.q0 by Mine.q0e
name_quick tw8414015042107675685 for Mine.q0 by Mine.q0e
name_quick tw3459941094613570947 for Mine.q0 by Mine.q0e
name_quick tw6245416936036607836 for Mine.q0 by Mine.q0e
name_quick tw9453240124441890074 for Mine.q0 by Mine.q0e
name_quick tw18091748691723100095 for Mine.q0 by Mine.q0e
name_quick tw14112335018156703739 for Mine.q0 by Mine.q0e
name_quick tw16884644209475396805 for Mine.q0 by Mine.q0e
name_quick tw14460877935000890014 for Mine.q0 by Mine.q0e
name_quick tw6992386658363356270 for Mine.q0 by Mine.q0e
name_quick tw11621191129234692350 for Mine.q0 by Mine.q0e
name_quick tw1771909219166161428 for Mine.q0 by Mine.q0e
name_quick tw11703554873771448042 for Mine.q0 by Mine.q0e
name_quick tw11989623502376575707 for Mine.q0 by Mine.q0e
name_quick tw1830361970749272537 for Mine.q0 by Mine.q0e
name_quick tw1749841160712360578 for Mine.q0 by Mine.q0e
name_quick tw18300758211263986766 for Mine.q0 by Mine.q0e
name_quick tw11348238255165845385 for Mine.q0 by Mine.q0e
name_quick tw6247290972083685883 for Mine.q0 by Mine.q0e
name_quick tw10292788394049808535 for Mine.q0 by Mine.q0e
name_quick tw11405101074465347804 for Mine.q0 by Mine.q0e
name_quick tw5590650594239786507 for Mine.q0 by Mine.q0e
name_quick tw5956761138903801041 for Mine.q0 by Mine.q0e
name_quick tw8461075152539368677 for Mine.q0 by Mine.q0e
name_quick tw17578564630141103043 for Mine.q0 by Mine.q0e
name_quick tw11118659570049597307 for Mine.q0 by Mine.q0e
name_quick tw7914766359406632394 for Mine.q0 by Mine.q0e
name_quick tw4219015862662891669 for Mine.q0 by Mine.q0e
name_quick tw8551346963877560813 for Mine.q0 by Mine.q0e
name_quick tw13580223434302122540 for Mine.q0 by Mine.q0e
name_quick tw7782909536999457002 for Mine.q0 by Mine.q0e
name_quick tw2395252983101669542 for Mine.q0 by Mine.q0e
name_quick tw4099878249496826267 for Mine.q0 by Mine.q0e
name_quick tw10377528823496426184 for Mine.q0 by Mine.q0e
name_quick tw12699904798061882273 for Mine.q0 by Mine.q0e
name_quick tw3119926986505941301 for Mine.q0 by Mine.q0e
name_quick tw14221605535120724295 for Mine.q0 by Mine.q0e
name_quick tw3734399282537805278 for Mine.q0 by Mine.q0e
name_quick tw14442092557307731294 for Mine.q0 by Mine.q0e
name_quick tw2063228743436290111 for Mine.q0 by Mine.q0e
name_quick tw10400198691359853563 for Mine.q0 by Mine.q0e
name_quick tw18407504221288773063 for Mine.q0 by Mine.q0e
name_quick tw1761871793648000536 for Mine.q0 by Mine.q0e
name_quick tw5795601909879511631 for Mine.q0 by Mine.q0e
name_quick tw47994172860145911 for Mine.q0 by Mine.q0e
name_quick tw9944094632600404304 for Mine.q0 by Mine.q0e
name_quick tw5804126959233166272 for Mine.q0 by Mine.q0e
name_quick tw17878608269631007948 for Mine.q0 by Mine.q0e
name_quick tw13034057294906431587 for Mine.q0 by Mine.q0e
name_quick tw2055435136402584854 for Mine.q0 by Mine.q0e
name_quick tw13402490259133077870 for Mine.q0 by Mine.q0e
name_quick tw1391806798891574752 for Mine.q0 by Mine.q0e
name_quick tw15247354242961159086 for Mine.q0 by Mine.q0e
name_quick tw9304214865983137351 for Mine.q0 by Mine.q0e
name_quick tw1787290234414420213 for Mine.q0 by Mine.q0e
name_quick tw11305106095378905745 for Mine.q0 by Mine.q0e
name_quick tw2117164521370909923 for Mine.q0 by Mine.q0e
name_quick tw11542977677328005500 for Mine.q0 by Mine.q0e
name_quick tw8912019470464815795 for Mine.q0 by Mine.q0e
name_quick tw9576088070338138775 for Mine.q0 by Mine.q0e
name_quick tw12937303980385204135 for Mine.q0 by Mine.q0e
name_quick tw15279269811871699382 for Mine.q0 by Mine.q0e
name_quick tw10630794360951567574 for Mine.q0 by Mine.q0e
name_quick tw14772994650174676063 for Mine.q0 by Mine.q0e
name_quick tw6558755776480521201 for Mine.q0 by Mine.q0e
name_quick tw16846983211415190082 for Mine.q0 by Mine.q0e
name_quick tw6413099092944966220 for Mine.q0 by Mine.q0e
name_quick tw8694600366440780513 for Mine.q0 by Mine.q0e
name_quick tw10346067680693192123 for Mine.q0 by Mine.q0e
name_quick tw17389498445117047528 for Mine.q0 by Mine.q0e
name_quick tw6445745478541590083 for Mine.q0 by Mine.q0e
name_quick tw31501998510001991 for Mine.q0 by Mine.q0e
name_quick tw16503525030242580720 for Mine.q0 by Mine.q0e
name_quick tw3472331230554927092 for Mine.q0 by Mine.q0e
name_quick tw13446022102883671520 for Mine.q0 by Mine.q0e
name_quick tw209977579443205740 for Mine.q0 by Mine.q0e
name_quick tw1501017492951649096 for Mine.q0 by Mine.q0e
name_quick tw17196912655887597275 for Mine.q0 by Mine.q0e
name_quick tw92657554859240705 for Mine.q0 by Mine.q0e
name_quick tw3814478089947972234 for Mine.q0 by Mine.q0e
name_quick tw2940786572921492978 for Mine.q0 by Mine.q0e
name_quick tw6960482965995759791 for Mine.q0 by Mine.q0e
name_quick tw17073151743448872921 for Mine.q0 by Mine.q0e
name_quick tw1803785273452313263 for Mine.q0 by Mine.q0e
name_quick tw3027993163381831341 for Mine.q0 by Mine.q0e
name_quick tw2233334236866964821 for Mine.q0 by Mine.q0e
name_quick tw5519940268950439431 for Mine.q0 by Mine.q0e
name_quick tw7195924619128027813 for Mine.q0 by Mine.q0e
name_quick tw426240681192546261 for Mine.q0 by Mine.q0e
name_quick tw17634316499620616750 for Mine.q0 by Mine.q0e
name_quick tw12620016817256956014 for Mine.q0 by Mine.q0e
name_quick tw11313096088596976737 for Mine.q0 by Mine.q0e
name_quick tw11094260644196256423 for Mine.q0 by Mine.q0e
name_quick tw16268468227252608229 for Mine.q0 by Mine.q0e
name_quick tw14709160583438134647 for Mine.q0 by Mine.q0e
name_quick tw13195354933046519778 for Mine.q0 by Mine.q0e
name_quick tw3348210212934681343 for Mine.q0 by Mine.q0e
name_quick tw875515477321036821 for Mine.q0 by Mine.q0e
name_quick tw2764222869887271416 for Mine.q0 by Mine.q0e
name_quick tw1745348919332338354 for Mine.q0 by Mine.q0e
name_quick tw4187664377804343232 for Mine.q0 by Mine.q0e
name_quick tw13154389207276935057 for Mine.q0 by Mine.q0e
name_quick tw13904547919459431697 for Mine.q0 by Mine.q0e
name_quick tw10130362988884101835 for Mine.q0 by Mine.q0e
name_quick tw10453300309888044957 for Mine.q0 by Mine.q0e
name_quick tw10177666962712268627 for Mine.q0 by Mine.q0e
name_quick tw8464282272898255845 for Mine.q0 by Mine.q0e
name_quick tw4337000254839061048 for Mine.q0 by Mine.q0e
name_quick tw4229248348872501777 for Mine.q0 by Mine.q0e
name_quick tw18332077222424518349 for Mine.q0 by Mine.q0e
name_quick tw11661295744911405748 for Mine.q0 by Mine.q0e
name_quick tw11538620956934003115 for Mine.q0 by Mine.q0e
name_quick tw14560791684614569217 for Mine.q0 by Mine.q0e
name_quick tw255012939647373324 for Mine.q0 by Mine.q0e
name_quick tw10251942879336439512 for Mine.q0 by Mine.q0e
name_quick tw12653685149354592972 for Mine.q0 by Mine.q0e
name_quick tw835589126967579580 for Mine.q0 by Mine.q0e
name_quick tw3348244915966937979 for Mine.q0 by Mine.q0e
name_quick tw12280638263607970639 for Mine.q0 by Mine.q0e
name_quick tw11431242866432510122 for Mine.q0 by Mine.q0e
name_quick tw16441009690935892607 for Mine.q0 by Mine.q0e
name_quick tw186980315649378688 for Mine.q0 by Mine.q0e
name_quick tw16393311551800884655 for Mine.q0 by Mine.q0e
name_quick tw8216672393818233465 for Mine.q0 by Mine.q0e
name_quick tw7636216554652399668 for Mine.q0 by Mine.q0e
name_quick tw13635182215947663988 for Mine.q0 by Mine.q0e
name_quick tw11262969817673124189 for Mine.q0 by Mine.q0e
name_quick tw3628122884259012890 for Mine.q0 by Mine.q0e
name_quick tw18436656884224187099 for Mine.q0 by Mine.q0e
name_quick tw10618737951127855601 for Mine.q0 by Mine.q0e
name_quick tw4387943900944954510 for Mine.q0 by Mine.q0e
name_quick tw8018763043220712348 for Mine.q0 by Mine.q0e
name_quick tw422836097657897921 for Mine.q0 by Mine.q0e
name_quick tw7018264471347613063 for Mine.q0 by Mine.q0e
name_quick tw903174868466710824 for Mine.q0 by Mine.q0e
name_quick tw2560284653182984263 for Mine.q0 by Mine.q0e
name_quick tw13034423960710598317 for Mine.q0 by Mine.q0e
name_quick tw1785972964050292334 for Mine.q0 by Mine.q0e
name_quick tw3362122045581933303 for Mine.q0 by Mine.q0e
name_quick tw3024958624686698592 for Mine.q0 by Mine.q0e
name_quick tw2717898383774331539 for Mine.q0 by Mine.q0e
name_quick tw9924578470441382719 for Mine.q0 by Mine.q0e
name_quick tw1405673752220771380 for Mine.q0 by Mine.q0e
name_quick tw5939705242598295927 for Mine.q0 by Mine.q0e
name_quick tw8464694487085681824 for Mine.q0 by Mine.q0e
name_quick tw1499976790228000434 for Mine.q0 by Mine.q0e
name_quick tw13641397906079130296 for Mine.q0 by Mine.q0e
name_quick tw4446009975166171434 for Mine.q0 by Mine.q0e
name_quick tw15955755924748266246 for Mine.q0 by Mine.q0e
name_quick tw2857708412957307303 for Mine.q0 by Mine.q0e
name_quick tw6292457246940011441 for Mine.q0 by Mine.q0e
name_quick tw4847420266990960575 for Mine.q0 by Mine.q0e
name_quick tw12875610682900685435 for Mine.q0 by Mine.q0e
name_quick tw10931939761376242155 for Mine.q0 by Mine.q0e
name_quick tw5892711594867998462 for Mine.q0 by Mine.q0e
name_quick tw2997986142383058547 for Mine.q0 by Mine.q0e
name_quick tw14278655085930871442 for Mine.q0 by Mine.q0e
name_quick tw4783685984219231323 for Mine.q0 by Mine.q0e
name_quick tw2056414050211107813 for Mine.q0 by Mine.q0e
name_quick tw7494715473929335776 for Mine.q0 by Mine.q0e
name_quick tw3361258531074165858 for Mine.q0 by Mine.q0e
name_quick tw8901077337986445235 for Mine.q0 by Mine.q0e
name_quick tw16365386001955232453 for Mine.q0 by Mine.q0e
name_quick tw17845384965103964504 for Mine.q0 by Mine.q0e
name_quick tw399162493451576087 for Mine.q0 by Mine.q0e
name_quick tw1291908129182248035 for Mine.q0 by Mine.q0e
name_quick tw11346838244784130570 for Mine.q0 by Mine.q0e
name_quick tw7023696037805598170 for Mine.q0 by Mine.q0e
name_quick tw16552880034939301217 for Mine.q0 by Mine.q0e
name_quick tw2528291043848245680 for Mine.q0 by Mine.q0e
name_quick tw9400366505081787891 for Mine.q0 by Mine.q0e
name_quick tw17168217198244199303 for Mine.q0 by Mine.q0e
name_quick tw9899190702579754515 for Mine.q0 by Mine.q0e
name_quick tw2280937863597221913 for Mine.q0 by Mine.q0e
name_quick tw6948748870442775039 for Mine.q0 by Mine.q0e
name_quick tw14662123601378968879 for Mine.q0 by Mine.q0e
name_quick tw6457548640972865506 for Mine.q0 by Mine.q0e
name_quick tw16851788418635566938 for Mine.q0 by Mine.q0e
name_quick tw6811751785553728459 for Mine.q0 by Mine.q0e
name_quick tw4186837216331383858 for Mine.q0 by Mine.q0e
name_quick tw1981474606580438533 for Mine.q0 by Mine.q0e
name_quick tw5548034682967952461 for Mine.q0 by Mine.q0e
name_quick tw6328515000686115572 for Mine.q0 by Mine.q0e
name_quick tw6301314484175903835 for Mine.q0 by Mine.q0e
name_quick tw3097769288622827694 for Mine.q0 by Mine.q0e
name_quick tw368415844791163632 for Mine.q0 by Mine.q0e
name_quick tw13275329383823523478 for Mine.q0 by Mine.q0e
name_quick tw14618487191132173216 for Mine.q0 by Mine.q0e
name_quick tw16473424219314548934 for Mine.q0 by Mine.q0e
name_quick tw3190586032329231951 for Mine.q0 by Mine.q0e
name_quick tw3750026843928538215 for Mine.q0 by Mine.q0e
name_quick tw3387077207288418648 for Mine.q0 by Mine.q0e
name_quick tw1824068060771334740 for Mine.q0 by Mine.q0e
name_quick tw7432075507000497211 for Mine.q0 by Mine.q0e
name_quick tw1868857571213046282 for Mine.q0 by Mine.q0e
name_quick tw1921947565113155444 for Mine.q0 by Mine.q0e
name_quick tw10776676320573291797 for Mine.q0 by Mine.q0e
name_quick tw16473236372207774641 for Mine.q0 by Mine.q0e
name_quick tw12293607351854635942 for Mine.q0 by Mine.q0e
name_quick tw4568231734656062766 for Mine.q0 by Mine.q0e
name_quick tw1141891278187231189 for Mine.q0 by Mine.q0e
name_quick tw12181729697211289521 for Mine.q0 by Mine.q0e
name_quick tw9545377981251116807 for Mine.q0 by Mine.q0e
name_quick tw1238247699639997358 for Mine.q0 by Mine.q0e
name_quick tw7276599222457204934 for Mine.q0 by Mine.q0e
name_quick tw6188537415423465102 for Mine.q0 by Mine.q0e
name_quick tw5836210507732357380 for Mine.q0 by Mine.q0e
name_quick tw1440925991389398126 for Mine.q0 by Mine.q0e
name_quick tw7349051771014658738 for Mine.q0 by Mine.q0e
name_quick tw3396559016045605105 for Mine.q0 by Mine.q0e
name_quick tw2519836378983319321 for Mine.q0 by Mine.q0e
name_quick tw10581054237522515212 for Mine.q0 by Mine.q0e
name_quick tw7401783338014077257 for Mine.q0 by Mine.q0e
name_quick tw15042413154734172138 for Mine.q0 by Mine.q0e
name_quick tw14755284998736169174 for Mine.q0 by Mine.q0e
name_quick tw5856078396383530128 for Mine.q0 by Mine.q0e
name_quick tw11272278790633629406 for Mine.q0 by Mine.q0e
name_quick tw14704836192912275440 for Mine.q0 by Mine.q0e
name_quick tw16928769689019015424 for Mine.q0 by Mine.q0e
name_quick tw17617628250266001179 for Mine.q0 by Mine.q0e
name_quick tw14315420235061914638 for Mine.q0 by Mine.q0e
name_quick tw14679594618774764950 for Mine.q0 by Mine.q0e
name_quick tw14384032536260897386 for Mine.q0 by Mine.q0e
name_quick tw3869512718580470387 for Mine.q0 by Mine.q0e
name_quick tw10666230915492857423 for Mine.q0 by Mine.q0e
name_quick tw13949008629212064959 for Mine.q0 by Mine.q0e
name_quick tw3699669049929171201 for Mine.q0 by Mine.q0e
name_quick tw607785246319213798 for Mine.q0 by Mine.q0e
name_quick tw11719791994797175363 for Mine.q0 by Mine.q0e
name_quick tw3667885223334497794 for Mine.q0 by Mine.q0e
name_quick tw7110698489081602085 for Mine.q0 by Mine.q0e
name_quick tw3151833923435795072 for Mine.q0 by Mine.q0e
name_quick tw10219403506945479583 for Mine.q0 by Mine.q0e
name_quick tw7096670011360274856 for Mine.q0 by Mine.q0e
name_quick tw10630461982445062793 for Mine.q0 by Mine.q0e
name_quick tw15130507784484880352 for Mine.q0 by Mine.q0e
name_quick tw5249606148911105711 for Mine.q0 by Mine.q0e
name_quick tw12871385635139139161 for Mine.q0 by Mine.q0e
name_quick tw9478097319033065968 for Mine.q0 by Mine.q0e
name_quick tw7938496611607695269 for Mine.q0 by Mine.q0e
name_quick tw16132945103216286170 for Mine.q0 by Mine.q0e
name_quick tw2996877806005300315 for Mine.q0 by Mine.q0e
name_quick tw12329274318854773214 for Mine.q0 by Mine.q0e
name_quick tw4096060504894143975 for Mine.q0 by Mine.q0e
name_quick tw3339810385384616778 for Mine.q0 by Mine.q0e
name_quick tw8926003839542507322 for Mine.q0 by Mine.q0e
name_quick tw10506130462341347694 for Mine.q0 by Mine.q0e
name_quick tw404710069323398350 for Mine.q0 by Mine.q0e
name_quick tw1114387409760082867 for Mine.q0 by Mine.q0e
name_quick tw14346468831612735496 for Mine.q0 by Mine.q0e
name_quick tw15284613909377646413 for Mine.q0 by Mine.q0e
name_quick tw10037700627699590008 for Mine.q0 by Mine.q0e
name_quick tw9661890109997609334 for Mine.q0 by Mine.q0e
name_quick tw16286699269195287593 for Mine.q0 by Mine.q0e
name_quick tw8586511532840310278 for Mine.q0 by Mine.q0e
name_quick tw2311371025466826865 for Mine.q0 by Mine.q0e
name_quick tw3220997004630875883 for Mine.q0 by Mine.q0e
name_quick tw6384541625054496123 for Mine.q0 by Mine.q0e
name_quick tw3797622123027605116 for Mine.q0 by Mine.q0e
name_quick tw12397894507334542058 for Mine.q0 by Mine.q0e
name_quick tw5078454896471470463 for Mine.q0 by Mine.q0e
name_quick tw1032731996498994428 for Mine.q0 by Mine.q0e
name_quick tw18240003242791026207 for Mine.q0 by Mine.q0e
name_quick tw3068017240793577932 for Mine.q0 by Mine.q0e
name_quick tw12771566195252910229 for Mine.q0 by Mine.q0e
name_quick tw6792628402094588056 for Mine.q0 by Mine.q0e
name_quick tw11369138926541066870 for Mine.q0 by Mine.q0e
name_quick tw687323404391500892 for Mine.q0 by Mine.q0e
name_quick tw4304537823736872660 for Mine.q0 by Mine.q0e
name_quick tw1292909307128086066 for Mine.q0 by Mine.q0e
name_quick tw1615631967008566801 for Mine.q0 by Mine.q0e
name_quick tw16265364142632549908 for Mine.q0 by Mine.q0e
name_quick tw12236581821467584669 for Mine.q0 by Mine.q0e
name_quick tw1619859422219995939 for Mine.q0 by Mine.q0e
name_quick tw7501911608114577967 for Mine.q0 by Mine.q0e
name_quick tw9866854615337177008 for Mine.q0 by Mine.q0e
name_quick tw10705553359886421571 for Mine.q0 by Mine.q0e
name_quick tw11086262625737562711 for Mine.q0 by Mine.q0e
name_quick tw11425777893206846785 for Mine.q0 by Mine.q0e
name_quick tw16638768573674985563 for Mine.q0 by Mine.q0e
name_quick tw5865537885632411649 for Mine.q0 by Mine.q0e
name_quick tw775573328666813235 for Mine.q0 by Mine.q0e
name_quick tw13626525979552651900 for Mine.q0 by Mine.q0e
name_quick tw2147408077913963783 for Mine.q0 by Mine.q0e
name_quick tw6299967953596122245 for Mine.q0 by Mine.q0e
name_quick tw7188093731747043992 for Mine.q0 by Mine.q0e
name_quick tw14124769603783658872 for Mine.q0 by Mine.q0e
name_quick tw18289243773828378652 for Mine.q0 by Mine.q0e
name_quick tw8559691605700783528 for Mine.q0 by Mine.q0e
name_quick tw10029095277006044902 for Mine.q0 by Mine.q0e
name_quick tw3759915289358347100 for Mine.q0 by Mine.q0e
name_quick tw851743737228232562 for Mine.q0 by Mine.q0e
name_quick tw1117328756070929740 for Mine.q0 by Mine.q0e
name_quick tw4672650022946338543 for Mine.q0 by Mine.q0e
name_quick tw10356354158210725512 for Mine.q0 by Mine.q0e
name_quick tw9617786149334046081 for Mine.q0 by Mine.q0e
name_quick tw18220807950765962477 for Mine.q0 by Mine.q0e
name_quick tw13031584623317720856 for Mine.q0 by Mine.q0e
name_quick tw17052152467359789155 for Mine.q0 by Mine.q0e
name_quick tw547619413476314176 for Mine.q0 by Mine.q0e
name_quick tw2387812729517849512 for Mine.q0 by Mine.q0e
name_quick tw3118853928500350380 for Mine.q0 by Mine.q0e
name_quick tw11075129411123950444 for Mine.q0 by Mine.q0e
name_quick tw14649222059292258750 for Mine.q0 by Mine.q0e
name_quick tw1904150583397386301 for Mine.q0 by Mine.q0e
name_quick tw847858708174490206 for Mine.q0 by Mine.q0e
name_quick tw15981378453406654470 for Mine.q0 by Mine.q0e
name_quick tw8256062616204715403 for Mine.q0 by Mine.q0e
name_quick tw13303347555953493479 for Mine.q0 by Mine.q0e
name_quick tw4514953225790032954 for Mine.q0 by Mine.q0e
name_quick tw15753679842326997029 for Mine.q0 by Mine.q0e
name_quick tw2179550399065662800 for Mine.q0 by Mine.q0e
name_quick tw5194653098694927524 for Mine.q0 by Mine.q0e
name_quick tw3951865021940058822 for Mine.q0 by Mine.q0e
name_quick tw1402540441896759050 for Mine.q0 by Mine.q0e
name_quick tw5418874694003001292 for Mine.q0 by Mine.q0e
name_quick tw8041600593241897309 for Mine.q0 by Mine.q0e
name_quick tw14375064598694593735 for Mine.q0 by Mine.q0e
name_quick tw1555618730256829317 for Mine.q0 by Mine.q0e
name_quick tw10282256523298744483 for Mine.q0 by Mine.q0e
name_quick tw2882110933342632704 for Mine.q0 by Mine.q0e
name_quick tw15404407891538762639 for Mine.q0 by Mine.q0e
name_quick tw6930950985091884169 for Mine.q0 by Mine.q0e
name_quick tw7518921873746154406 for Mine.q0 by Mine.q0e
name_quick tw1563943742604981316 for Mine.q0 by Mine.q0e
name_quick tw3236993678611335608 for Mine.q0 by Mine.q0e
name_quick tw135607109008517425 for Mine.q0 by Mine.q0e
name_quick tw14222872499854684683 for Mine.q0 by Mine.q0e
name_quick tw11559773543059053865 for Mine.q0 by Mine.q0e
name_quick tw16902891016666863678 for Mine.q0 by Mine.q0e
name_quick tw10493838717795664309 for Mine.q0 by Mine.q0e
name_quick tw5415135033976594937 for Mine.q0 by Mine.q0e
name_quick tw9263616767166035096 for Mine.q0 by Mine.q0e
name_quick tw90336575370720944 for Mine.q0 by Mine.q0e
name_quick tw17667430312738142372 for Mine.q0 by Mine.q0e
name_quick tw6480030433537991532 for Mine.q0 by Mine.q0e
name_quick tw1787548524450469653 for Mine.q0 by Mine.q0e
name_quick tw3311696319115886713 for Mine.q0 by Mine.q0e
name_quick tw3693712232685676711 for Mine.q0 by Mine.q0e
name_quick tw6313686068429437480 for Mine.q0 by Mine.q0e
name_quick tw16001147456050706881 for Mine.q0 by Mine.q0e
name_quick tw11458361271357458974 for Mine.q0 by Mine.q0e
name_quick tw7599761809475492540 for Mine.q0 by Mine.q0e
name_quick tw8363169640639844068 for Mine.q0 by Mine.q0e
name_quick tw10300492735431248898 for Mine.q0 by Mine.q0e
name_quick tw13335367448173984202 for Mine.q0 by Mine.q0e
name_quick tw7901705223635268528 for Mine.q0 by Mine.q0e
name_quick tw15869401405745245344 for Mine.q0 by Mine.q0e
name_quick tw18102066943863122514 for Mine.q0 by Mine.q0e
name_quick tw11353716267257421168 for Mine.q0 by Mine.q0e
name_quick tw12521554993603048258 for Mine.q0 by Mine.q0e
name_quick tw8657873912856363833 for Mine.q0 by Mine.q0e
name_quick tw15533302196826525726 for Mine.q0 by Mine.q0e
name_quick tw5296321055968910641 for Mine.q0 by Mine.q0e
name_quick tw14621788055076397066 for Mine.q0 by Mine.q0e
name_quick tw7166079220896495921 for Mine.q0 by Mine.q0e
name_quick tw10503711838159542257 for Mine.q0 by Mine.q0e
name_quick tw17247085945907060421 for Mine.q0 by Mine.q0e
name_quick tw7110097269306230694 for Mine.q0 by Mine.q0e
name_quick tw14499175626481324158 for Mine.q0 by Mine.q0e
name_quick tw13169389337317329405 for Mine.q0 by Mine.q0e
name_quick tw9460711912950085863 for Mine.q0 by Mine.q0e
name_quick tw16295182950733535885 for Mine.q0 by Mine.q0e
name_quick tw18093481021237410096 for Mine.q0 by Mine.q0e
name_quick tw10789089918791207346 for Mine.q0 by Mine.q0e
name_quick tw17489164181819069259 for Mine.q0 by Mine.q0e
name_quick tw7990292250140072814 for Mine.q0 by Mine.q0e
name_quick tw6108736063196272896 for Mine.q0 by Mine.q0e
name_quick tw1141611956775903532 for Mine.q0 by Mine.q0e
name_quick tw13434795620476987448 for Mine.q0 by Mine.q0e
name_quick tw5012808497456090790 for Mine.q0 by Mine.q0e
name_quick tw15836219013761503044 for Mine.q0 by Mine.q0e
name_quick tw1537279586605230084 for Mine.q0 by Mine.q0e
name_quick tw5842049266221903297 for Mine.q0 by Mine.q0e
name_quick tw14942626533004061410 for Mine.q0 by Mine.q0e
name_quick tw7224061392700562163 for Mine.q0 by Mine.q0e
name_quick tw8751673820495650704 for Mine.q0 by Mine.q0e
name_quick tw9100130502625563061 for Mine.q0 by Mine.q0e
name_quick tw14396620456704762459 for Mine.q0 by Mine.q0e
name_quick tw4809139849179622268 for Mine.q0 by Mine.q0e
name_quick tw17434530982902033820 for Mine.q0 by Mine.q0e
name_quick tw3279583183054695083 for Mine.q0 by Mine.q0e
name_quick tw8895252162680581629 for Mine.q0 by Mine.q0e
name_quick tw7685018449643046294 for Mine.q0 by Mine.q0e
name_quick tw15712150545889125353 for Mine.q0 by Mine.q0e
name_quick tw7599093509646263296 for Mine.q0 by Mine.q0e
name_quick tw2168496502299625930 for Mine.q0 by Mine.q0e
name_quick tw4228134696400015281 for Mine.q0 by Mine.q0e
name_quick tw13631343413177180400 for Mine.q0 by Mine.q0e
name_quick tw9164687801757967951 for Mine.q0 by Mine.q0e
name_quick tw5128426517998776032 for Mine.q0 by Mine.q0e
name_quick tw6602857110649300916 for Mine.q0 by Mine.q0e
name_quick tw5602354200136291181 for Mine.q0 by Mine.q0e
name_quick tw11542252421494442327 for Mine.q0 by Mine.q0e
name_quick tw426349616821505295 for Mine.q0 by Mine.q0e
name_quick tw12280103165027813282 for Mine.q0 by Mine.q0e
name_quick tw407255015380427582 for Mine.q0 by Mine.q0e
name_quick tw7022184397125752183 for Mine.q0 by Mine.q0e
name_quick tw6156598379721225754 for Mine.q0 by Mine.q0e
name_quick tw1472375156665800851 for Mine.q0 by Mine.q0e
name_quick tw7994939294199480229 for Mine.q0 by Mine.q0e
name_quick tw14548856636756580196 for Mine.q0 by Mine.q0e
name_quick tw13980405925056728520 for Mine.q0 by Mine.q0e
name_quick tw1450442605447189738 for Mine.q0 by Mine.q0e
name_quick tw1081769021628040528 for Mine.q0 by Mine.q0e
name_quick tw2357647337388007087 for Mine.q0 by Mine.q0e
name_quick tw6792574968428667102 for Mine.q0 by Mine.q0e
name_quick tw4335000246891447990 for Mine.q0 by Mine.q0e
name_quick tw1034473867040141655 for Mine.q0 by Mine.q0e
name_quick tw11372036285779103734 for Mine.q0 by Mine.q0e
name_quick tw13208643228024144127 for Mine.q0 by Mine.q0e
name_quick tw13123079476655623034 for Mine.q0 by Mine.q0e
name_quick tw8408220899937858369 for Mine.q0 by Mine.q0e
name_quick tw16239981270109627909 for Mine.q0 by Mine.q0e
name_quick tw15029639302581278930 for Mine.q0 by Mine.q0e
name_quick tw11723654571826666403 for Mine.q0 by Mine.q0e
name_quick tw16794541227502467497 for Mine.q0 by Mine.q0e
name_quick tw13145545959368395637 for Mine.q0 by Mine.q0e
name_quick tw10725100186459314217 for Mine.q0 by Mine.q0e
name_quick tw1480794731293924641 for Mine.q0 by Mine.q0e
name_quick tw17281050354568302368 for Mine.q0 by Mine.q0e
name_quick tw4763132831088135630 for Mine.q0 by Mine.q0e
name_quick tw7130653908190123712 for Mine.q0 by Mine.q0e
name_quick tw3793699747385391138 for Mine.q0 by Mine.q0e
name_quick tw7195485377987555076 for Mine.q0 by Mine.q0e
name_quick tw3274341271858790347 for Mine.q0 by Mine.q0e
name_quick tw15240109435151075516 for Mine.q0 by Mine.q0e
name_quick tw17501707257035598946 for Mine.q0 by Mine.q0e
name_quick tw12627290809812381841 for Mine.q0 by Mine.q0e
name_quick tw4871196908228475004 for Mine.q0 by Mine.q0e
name_quick tw904537965115157863 for Mine.q0 by Mine.q0e
name_quick tw15015759354513516766 for Mine.q0 by Mine.q0e
name_quick tw15267534813052671750 for Mine.q0 by Mine.q0e
name_quick tw6051944865414943840 for Mine.q0 by Mine.q0e
name_quick tw14965192523358548195 for Mine.q0 by Mine.q0e
name_quick tw13368903344790639122 for Mine.q0 by Mine.q0e
name_quick tw8888940216809193171 for Mine.q0 by Mine.q0e
name_quick tw8986454646331585641 for Mine.q0 by Mine.q0e
name_quick tw11009000459829018264 for Mine.q0 by Mine.q0e
name_quick tw8644894714781121530 for Mine.q0 by Mine.q0e
name_quick tw14152372245822376010 for Mine.q0 by Mine.q0e
name_quick tw12321555165961762529 for Mine.q0 by Mine.q0e
name_quick tw9797627854019099066 for Mine.q0 by Mine.q0e
name_quick tw18217711225840680850 for Mine.q0 by Mine.q0e
name_quick tw7062901724085266866 for Mine.q0 by Mine.q0e
name_quick tw8058638024655451960 for Mine.q0 by Mine.q0e
name_quick tw1322868862866992132 for Mine.q0 by Mine.q0e
name_quick tw15897251927022310486 for Mine.q0 by Mine.q0e
name_quick tw4302939259362212039 for Mine.q0 by Mine.q0e
name_quick tw14814798688484770786 for Mine.q0 by Mine.q0e
name_quick tw11671704254290721191 for Mine.q0 by Mine.q0e
name_quick tw15906758424564107656 for Mine.q0 by Mine.q0e
name_quick tw10596226578541047781 for Mine.q0 by Mine.q0e
name_quick tw1192112478380688735 for Mine.q0 by Mine.q0e
name_quick tw17489830160475342467 for Mine.q0 by Mine.q0e
name_quick tw623027556750005527 for Mine.q0 by Mine.q0e
name_quick tw15588170602538853380 for Mine.q0 by Mine.q0e
name_quick tw10025866851150212349 for Mine.q0 by Mine.q0e
name_quick tw1925768053707290873 for Mine.q0 by Mine.q0e
name_quick tw765321346537155333 for Mine.q0 by Mine.q0e
name_quick tw12612769129042795530 for Mine.q0 by Mine.q0e
name_quick tw14254822957242234497 for Mine.q0 by Mine.q0e
name_quick tw11093004337865706643 for Mine.q0 by Mine.q0e
name_quick tw3592499814938296143 for Mine.q0 by Mine.q0e
name_quick tw11403757718501482167 for Mine.q0 by Mine.q0e
name_quick tw12204677185127301396 for Mine.q0 by Mine.q0e
name_quick tw6369969364566553862 for Mine.q0 by Mine.q0e
name_quick tw5697346068903468054 for Mine.q0 by Mine.q0e
name_quick tw1141920431170859442 for Mine.q0 by Mine.q0e
name_quick tw2273639520168508509 for Mine.q0 by Mine.q0e
name_quick tw4992948316955736074 for Mine.q0 by Mine.q0e
name_quick tw15494436357012093635 for Mine.q0 by Mine.q0e
name_quick tw6596157126277794342 for Mine.q0 by Mine.q0e
name_quick tw6760370334622241079 for Mine.q0 by Mine.q0e
name_quick tw2285653653558597879 for Mine.q0 by Mine.q0e
name_quick tw11217822191339606252 for Mine.q0 by Mine.q0e
name_quick tw6900186427285357014 for Mine.q0 by Mine.q0e
name_quick tw10365904022226240385 for Mine.q0 by Mine.q0e
name_quick tw3268210516559839052 for Mine.q0 by Mine.q0e
name_quick tw10437520799036400291 for Mine.q0 by Mine.q0e
name_quick tw6753881449966052756 for Mine.q0 by Mine.q0e
name_quick tw12358007136468187419 for Mine.q0 by Mine.q0e
name_quick tw925864557188271820 for Mine.q0 by Mine.q0e
name_quick tw3909261517183516362 for Mine.q0 by Mine.q0e
name_quick tw9495586022086989838 for Mine.q0 by Mine.q0e
name_quick tw7932097149246060255 for Mine.q0 by Mine.q0e
name_quick tw3962187522043151813 for Mine.q0 by Mine.q0e
name_quick tw11886230583881479693 for Mine.q0 by Mine.q0e
name_quick tw6558966285576230335 for Mine.q0 by Mine.q0e
name_quick tw10570761982026526974 for Mine.q0 by Mine.q0e
name_quick tw14710819558009331310 for Mine.q0 by Mine.q0e
name_quick tw14273998624502768688 for Mine.q0 by Mine.q0e
name_quick tw4312936315946205866 for Mine.q0 by Mine.q0e
name_quick tw11080252407634709753 for Mine.q0 by Mine.q0e
name_quick tw7429240336108166085 for Mine.q0 by Mine.q0e
name_quick tw13711109819328853418 for Mine.q0 by Mine.q0e
name_quick tw18163541930925794309 for Mine.q0 by Mine.q0e
name_quick tw16555249146671875664 for Mine.q0 by Mine.q0e
name_quick tw8093325420150759414 for Mine.q0 by Mine.q0e
name_quick tw9935586300896432083 for Mine.q0 by Mine.q0e
name_quick tw17406311922708125731 for Mine.q0 by Mine.q0e
name_quick tw17694772977269767788 for Mine.q0 by Mine.q0e
name_quick tw13419445800152829365 for Mine.q0 by Mine.q0e
name_quick tw14455480551220646052 for Mine.q0 by Mine.q0e
name_quick tw13377178935680462974 for Mine.q0 by Mine.q0e
name_quick tw17952808044050603890 for Mine.q0 by Mine.q0e
name_quick tw8676193581128612940 for Mine.q0 by Mine.q0e
name_quick tw12404057602843838297 for Mine.q0 by Mine.q0e
name_quick tw10457259217571230050 for Mine.q0 by Mine.q0e
name_quick tw9058018591567955750 for Mine.q0 by Mine.q0e
name_quick tw13680432157221507356 for Mine.q0 by Mine.q0e
name_quick tw2380234515846894049 for Mine.q0 by Mine.q0e
name_quick tw11268927340152986174 for Mine.q0 by Mine.q0e
name_quick tw18286909525782823329 for Mine.q0 by Mine.q0e
name_quick tw4986892656639864356 for Mine.q0 by Mine.q0e
name_quick tw7331663897681117341 for Mine.q0 by Mine.q0e
name_quick tw17841216814474443982 for Mine.q0 by Mine.q0e
name_quick tw5066765444204073719 for Mine.q0 by Mine.q0e
name_quick tw14104442911012531422 for Mine.q0 by Mine.q0e
name_quick tw17968887696514580201 for Mine.q0 by Mine.q0e
name_quick tw12425967971459808190 for Mine.q0 by Mine.q0e
name_quick tw10279983262067111662 for Mine.q0 by Mine.q0e
name_quick tw13452083775695447629 for Mine.q0 by Mine.q0e
name_quick tw3040243178818767375 for Mine.q0 by Mine.q0e
name_quick tw9859773861461364896 for Mine.q0 by Mine.q0e
name_quick tw4619976019786609070 for Mine.q0 by Mine.q0e
name_quick tw16193097776373890944 for Mine.q0 by Mine.q0e
name_quick tw11410539321382041143 for Mine.q0 by Mine.q0e
name_quick tw16129693181207703699 for Mine.q0 by Mine.q0e
name_quick tw8374206892982560752 for Mine.q0 by Mine.q0e
name_quick tw11790432185259358616 for Mine.q0 by Mine.q0e
name_quick tw11300465690136295919 for Mine.q0 by Mine.q0e
name_quick tw14538876703206337949 for Mine.q0 by Mine.q0e
name_quick tw17441475879270706615 for Mine.q0 by Mine.q0e
name_quick tw8916438665483059519 for Mine.q0 by Mine.q0e
name_quick tw11254173800311080736 for Mine.q0 by Mine.q0e
name_quick tw3170415591542826943 for Mine.q0 by Mine.q0e
name_quick tw6210652196149118890 for Mine.q0 by Mine.q0e
name_quick tw188173439969033168 for Mine.q0 by Mine.q0e
name_quick tw13363714902522345108 for Mine.q0 by Mine.q0e
name_quick tw12391742321052907514 for Mine.q0 by Mine.q0e
name_quick tw7072493166011436612 for Mine.q0 by Mine.q0e
name_quick tw15320013005490943749 for Mine.q0 by Mine.q0e
name_quick tw11655850127637963913 for Mine.q0 by Mine.q0e
name_quick tw7337371906967401977 for Mine.q0 by Mine.q0e
name_quick tw3002371348656556292 for Mine.q0 by Mine.q0e
name_quick tw9326803765858693754 for Mine.q0 by Mine.q0e
name_quick tw18182058527755407555 for Mine.q0 by Mine.q0e
name_quick tw10644848721347405487 for Mine.q0 by Mine.q0e
name_quick tw8771198705680839441 for Mine.q0 by Mine.q0e
name_quick tw7448965083700150730 for Mine.q0 by Mine.q0e
name_quick tw17527326662153588953 for Mine.q0 by Mine.q0e
name_quick tw17532055103983416468 for Mine.q0 by Mine.q0e
name_quick tw1315453648257586677 for Mine.q0 by Mine.q0e
name_quick tw1310184646164520010 for Mine.q0 by Mine.q0e
name_quick tw12105246465087504796 for Mine.q0 by Mine.q0e
name_quick tw11087694801240429463 for Mine.q0 by Mine.q0e
name_quick tw1670630947554001370 for Mine.q0 by Mine.q0e
name_quick tw11990333859327605153 for Mine.q0 by Mine.q0e
name_quick tw83968285360874682 for Mine.q0 by Mine.q0e
name_quick tw1847920263737117478 for Mine.q0 by Mine.q0e
name_quick tw10911249305975938413 for Mine.q0 by Mine.q0e
name_quick tw2121845646918960520 for Mine.q0 by Mine.q0e
name_quick tw12777152042900115107 for Mine.q0 by Mine.q0e
name_quick tw574752002660760720 for Mine.q0 by Mine.q0e
name_quick tw18099786505301880874 for Mine.q0 by Mine.q0e
name_quick tw15933658302574435239 for Mine.q0 by Mine.q0e
name_quick tw4192890635338208673 for Mine.q0 by Mine.q0e
name_quick tw16511242760820707013 for Mine.q0 by Mine.q0e
name_quick tw14865978014678549623 for Mine.q0 by Mine.q0e
name_quick tw11207283908942413723 for Mine.q0 by Mine.q0e
name_quick tw6512729978447515165 for Mine.q0 by Mine.q0e
name_quick tw150772252399689986 for Mine.q0 by Mine.q0e
name_quick tw16471504250687209982 for Mine.q0 by Mine.q0e
name_quick tw9953154983797022342 for Mine.q0 by Mine.q0e
name_quick tw10785151896036426494 for Mine.q0 by Mine.q0e
name_quick tw6198106889575786099 for Mine.q0 by Mine.q0e
name_quick tw10635610151707303934 for Mine.q0 by Mine.q0e
name_quick tw13345240238006868713 for Mine.q0 by Mine.q0e
name_quick tw9060474364280733582 for Mine.q0 by Mine.q0e
name_quick tw2563090830332672684 for Mine.q0 by Mine.q0e
name_quick tw3494413122386993189 for Mine.q0 by Mine.q0e
name_quick tw16592985876908967762 for Mine.q0 by Mine.q0e
name_quick tw9266089244611237378 for Mine.q0 by Mine.q0e
name_quick tw931523392105056396 for Mine.q0 by Mine.q0e
name_quick tw11977157220307230832 for Mine.q0 by Mine.q0e
name_quick tw11313872219487108985 for Mine.q0 by Mine.q0e
name_quick tw6453906922241949796 for Mine.q0 by Mine.q0e
name_quick tw12870774956939570978 for Mine.q0 by Mine.q0e
name_quick tw1568724254149317493 for Mine.q0 by Mine.q0e
name_quick tw4009189101393291924 for Mine.q0 by Mine.q0e
name_quick tw8863429781998859585 for Mine.q0 by Mine.q0e
name_quick tw4754151131613200900 for Mine.q0 by Mine.q0e
name_quick tw641608939696107578 for Mine.q0 by Mine.q0e
name_quick tw3098054354963794608 for Mine.q0 by Mine.q0e
name_quick tw8704156609068059308 for Mine.q0 by Mine.q0e
name_quick tw9663275056923193286 for Mine.q0 by Mine.q0e
name_quick tw17399052045343463595 for Mine.q0 by Mine.q0e
name_quick tw15660535162994162333 for Mine.q0 by Mine.q0e
name_quick tw4577294428125455948 for Mine.q0 by Mine.q0e
name_quick tw17165047000006775474 for Mine.q0 by Mine.q0e
name_quick tw6912398296100563064 for Mine.q0 by Mine.q0e
name_quick tw9802904379532968153 for Mine.q0 by Mine.q0e
name_quick tw17254468120855073088 for Mine.q0 by Mine.q0e
name_quick tw18413676206518072147 for Mine.q0 by Mine.q0e
name_quick tw12418083291377482830 for Mine.q0 by Mine.q0e
name_quick tw2343144036393349962 for Mine.q0 by Mine.q0e
name_quick tw16958914691240497378 for Mine.q0 by Mine.q0e
name_quick tw7142314487425143617 for Mine.q0 by Mine.q0e
name_quick tw9598303394667565895 for Mine.q0 by Mine.q0e
name_quick tw17154459647505061727 for Mine.q0 by Mine.q0e
name_quick tw5721331935796467323 for Mine.q0 by Mine.q0e
name_quick tw1072084404894814805 for Mine.q0 by Mine.q0e
name_quick tw5995278000531190863 for Mine.q0 by Mine.q0e
name_quick tw7318338513458364527 for Mine.q0 by Mine.q0e
name_quick tw5020437202739040237 for Mine.q0 by Mine.q0e
name_quick tw11362763155171131540 for Mine.q0 by Mine.q0e
name_quick tw15106600989046925697 for Mine.q0 by Mine.q0e
name_quick tw1899689187967709548 for Mine.q0 by Mine.q0e
name_quick tw17042064833488387145 for Mine.q0 by Mine.q0e
name_quick tw7873925264696593480 for Mine.q0 by Mine.q0e
name_quick tw798340397698146541 for Mine.q0 by Mine.q0e
name_quick tw2258441810450061696 for Mine.q0 by Mine.q0e
name_quick tw11604693576678468733 for Mine.q0 by Mine.q0e
name_quick tw17088921947798598093 for Mine.q0 by Mine.q0e
name_quick tw2497554777414050962 for Mine.q0 by Mine.q0e
name_quick tw6824109337756308274 for Mine.q0 by Mine.q0e
name_quick tw15280770565137882502 for Mine.q0 by Mine.q0e
name_quick tw17252680043633491329 for Mine.q0 by Mine.q0e
name_quick tw10408977430641882178 for Mine.q0 by Mine.q0e
name_quick tw4577109345066085664 for Mine.q0 by Mine.q0e
name_quick tw12840125163830614599 for Mine.q0 by Mine.q0e
name_quick tw17670991949920017900 for Mine.q0 by Mine.q0e
name_quick tw11493173199130671272 for Mine.q0 by Mine.q0e
name_quick tw17034355726588483600 for Mine.q0 by Mine.q0e
name_quick tw5405318033196235315 for Mine.q0 by Mine.q0e
name_quick tw11786966679343175050 for Mine.q0 by Mine.q0e
name_quick tw8947764446053890767 for Mine.q0 by Mine.q0e
name_quick tw3130769217181434498 for Mine.q0 by Mine.q0e
name_quick tw6046815186929744814 for Mine.q0 by Mine.q0e
name_quick tw10247849547904127905 for Mine.q0 by Mine.q0e
name_quick tw11458716074866740785 for Mine.q0 by Mine.q0e
name_quick tw16078781917361697555 for Mine.q0 by Mine.q0e
name_quick tw13471662352978872034 for Mine.q0 by Mine.q0e
name_quick tw4159989776556986788 for Mine.q0 by Mine.q0e
name_quick tw11843688031345946780 for Mine.q0 by Mine.q0e
name_quick tw14795149115841511033 for Mine.q0 by Mine.q0e
name_quick tw16213158569757872943 for Mine.q0 by Mine.q0e
name_quick tw1821225603214937429 for Mine.q0 by Mine.q0e
name_quick tw5765204054179444600 for Mine.q0 by Mine.q0e
name_quick tw13892457343445758509 for Mine.q0 by Mine.q0e
name_quick tw3484437649188088976 for Mine.q0 by Mine.q0e
name_quick tw8635444782839173210 for Mine.q0 by Mine.q0e
name_quick tw4937180126492463365 for Mine.q0 by Mine.q0e
name_quick tw8596856377417247999 for Mine.q0 by Mine.q0e
name_quick tw5446156330175450399 for Mine.q0 by Mine.q0e
name_quick tw7043583225881926117 for Mine.q0 by Mine.q0e
name_quick tw6309097950853735112 for Mine.q0 by Mine.q0e
name_quick tw1207917076559788260 for Mine.q0 by Mine.q0e
name_quick tw4272145844210104054 for Mine.q0 by Mine.q0e
name_quick tw5147874577738965824 for Mine.q0 by Mine.q0e
name_quick tw7299273736367409576 for Mine.q0 by Mine.q0e
name_quick tw1904069900136671366 for Mine.q0 by Mine.q0e
name_quick tw5833930531688949418 for Mine.q0 by Mine.q0e
name_quick tw14689970625632749576 for Mine.q0 by Mine.q0e
name_quick tw6103986640361658620 for Mine.q0 by Mine.q0e
name_quick tw4579119327817573615 for Mine.q0 by Mine.q0e
name_quick tw240609244856420475 for Mine.q0 by Mine.q0e
name_quick tw7345440621815378128 for Mine.q0 by Mine.q0e
name_quick tw3647337189127802190 for Mine.q0 by Mine.q0e
name_quick tw1511926046051236505 for Mine.q0 by Mine.q0e
name_quick tw1568138561281439514 for Mine.q0 by Mine.q0e
name_quick tw6650485433729322824 for Mine.q0 by Mine.q0e
name_quick tw2054788207380699555 for Mine.q0 by Mine.q0e
name_quick tw14609064061558153175 for Mine.q0 by Mine.q0e
name_quick tw16358434022277551430 for Mine.q0 by Mine.q0e
name_quick tw6729803473752977681 for Mine.q0 by Mine.q0e
name_quick tw12148907838868036591 for Mine.q0 by Mine.q0e
name_quick tw8695810364351773067 for Mine.q0 by Mine.q0e
name_quick tw2742869501723569397 for Mine.q0 by Mine.q0e
name_quick tw8278384633872228894 for Mine.q0 by Mine.q0e
name_quick tw2917244683607650117 for Mine.q0 by Mine.q0e
name_quick tw2231130738321343275 for Mine.q0 by Mine.q0e
name_quick tw3911988901107944199 for Mine.q0 by Mine.q0e
name_quick tw627279063199515621 for Mine.q0 by Mine.q0e
name_quick tw14924073087312263871 for Mine.q0 by Mine.q0e
name_quick tw5319028809865634385 for Mine.q0 by Mine.q0e
name_quick tw1079593842890369022 for Mine.q0 by Mine.q0e
name_quick tw15893964313361912405 for Mine.q0 by Mine.q0e
name_quick tw8283794695550177780 for Mine.q0 by Mine.q0e
name_quick tw11492413997586875434 for Mine.q0 by Mine.q0e
name_quick tw8024690687244944303 for Mine.q0 by Mine.q0e
name_quick tw14788769141444153311 for Mine.q0 by Mine.q0e
name_quick tw1299058990130908972 for Mine.q0 by Mine.q0e
name_quick tw6180756950487307987 for Mine.q0 by Mine.q0e
name_quick tw9658772974524320433 for Mine.q0 by Mine.q0e
name_quick tw14565074573270454413 for Mine.q0 by Mine.q0e
name_quick tw8837619707527078489 for Mine.q0 by Mine.q0e
name_quick tw3088645600018226609 for Mine.q0 by Mine.q0e
name_quick tw8128304460838156085 for Mine.q0 by Mine.q0e
name_quick tw4115231886746302013 for Mine.q0 by Mine.q0e
name_quick tw17225216356557458206 for Mine.q0 by Mine.q0e
name_quick tw17959368131612950224 for Mine.q0 by Mine.q0e
name_quick tw8386957007813909726 for Mine.q0 by Mine.q0e
name_quick tw8918620098088106977 for Mine.q0 by Mine.q0e
name_quick tw13453520508141253911 for Mine.q0 by Mine.q0e
name_quick tw1202625584335754552 for Mine.q0 by Mine.q0e
name_quick tw451590623409685335 for Mine.q0 by Mine.q0e
name_quick tw9654686994113813117 for Mine.q0 by Mine.q0e
name_quick tw3354793505682534863 for Mine.q0 by Mine.q0e
name_quick tw12794476188170470860 for Mine.q0 by Mine.q0e
name_quick tw6279700763091477309 for Mine.q0 by Mine.q0e
name_quick tw9085196943740619383 for Mine.q0 by Mine.q0e
name_quick tw18029050752501096701 for Mine.q0 by Mine.q0e
name_quick tw10683160265842234244 for Mine.q0 by Mine.q0e
name_quick tw9752899836786663245 for Mine.q0 by Mine.q0e
name_quick tw13439462592168354065 for Mine.q0 by Mine.q0e
name_quick tw12602932969945758794 for Mine.q0 by Mine.q0e
name_quick tw8343379121622407021 for Mine.q0 by Mine.q0e
name_quick tw14685597519822501605 for Mine.q0 by Mine.q0e
name_quick tw4475363875505563805 for Mine.q0 by Mine.q0e
name_quick tw1679488171184924592 for Mine.q0 by Mine.q0e
name_quick tw16935008159946214693 for Mine.q0 by Mine.q0e
name_quick tw16240646158009441489 for Mine.q0 by Mine.q0e
name_quick tw7807271995693017134 for Mine.q0 by Mine.q0e
name_quick tw14287372514527726166 for Mine.q0 by Mine.q0e
name_quick tw14968081507769302925 for Mine.q0 by Mine.q0e
name_quick tw16855872723261338192 for Mine.q0 by Mine.q0e
name_quick tw1793884554605159960 for Mine.q0 by Mine.q0e
name_quick tw4029854255288747319 for Mine.q0 by Mine.q0e
name_quick tw7481886011059439444 for Mine.q0 by Mine.q0e
name_quick tw16105684143981883138 for Mine.q0 by Mine.q0e
name_quick tw3247194849394111017 for Mine.q0 by Mine.q0e
name_quick tw18280885759478132773 for Mine.q0 by Mine.q0e
name_quick tw7928351815562673549 for Mine.q0 by Mine.q0e
name_quick tw1011536220446568611 for Mine.q0 by Mine.q0e
name_quick tw2252329550631460469 for Mine.q0 by Mine.q0e
name_quick tw8056699891865320818 for Mine.q0 by Mine.q0e
name_quick tw1931478697369170709 for Mine.q0 by Mine.q0e
name_quick tw4621943072310801698 for Mine.q0 by Mine.q0e
name_quick tw10134761672717894643 for Mine.q0 by Mine.q0e
name_quick tw14667245894305406122 for Mine.q0 by Mine.q0e
name_quick tw17546374838105404417 for Mine.q0 by Mine.q0e
name_quick tw17806081847146916318 for Mine.q0 by Mine.q0e
name_quick tw4116786416151904608 for Mine.q0 by Mine.q0e
name_quick tw11641301618512480110 for Mine.q0 by Mine.q0e
name_quick tw4385164942463845718 for Mine.q0 by Mine.q0e
name_quick tw6462965028155412382 for Mine.q0 by Mine.q0e
name_quick tw13945513990945016137 for Mine.q0 by Mine.q0e
name_quick tw11322614414530875214 for Mine.q0 by Mine.q0e
name_quick tw14293094770896010015 for Mine.q0 by Mine.q0e
name_quick tw954206474755925407 for Mine.q0 by Mine.q0e
name_quick tw2267512220628952687 for Mine.q0 by Mine.q0e
name_quick tw15309774853585850536 for Mine.q0 by Mine.q0e
name_quick tw15901328847361604615 for Mine.q0 by Mine.q0e
name_quick tw7701753693108399792 for Mine.q0 by Mine.q0e
name_quick tw5489216206985411317 for Mine.q0 by Mine.q0e
name_quick tw18195731017389777615 for Mine.q0 by Mine.q0e
name_quick tw12546305636311149307 for Mine.q0 by Mine.q0e
name_quick tw2191121567762219181 for Mine.q0 by Mine.q0e
name_quick tw109108923479322919 for Mine.q0 by Mine.q0e
name_quick tw12094523665695847659 for Mine.q0 by Mine.q0e
name_quick tw11334781183410715966 for Mine.q0 by Mine.q0e
name_quick tw25813714422389695 for Mine.q0 by Mine.q0e
name_quick tw11615111565737001351 for Mine.q0 by Mine.q0e
name_quick tw18421890247549514373 for Mine.q0 by Mine.q0e
name_quick tw5919145377949127153 for Mine.q0 by Mine.q0e
name_quick tw10958174718808134460 for Mine.q0 by Mine.q0e
name_quick tw9451797598382349011 for Mine.q0 by Mine.q0e
name_quick tw14233001236209154855 for Mine.q0 by Mine.q0e
name_quick tw5207227835976408300 for Mine.q0 by Mine.q0e
name_quick tw5626297318403931709 for Mine.q0 by Mine.q0e
name_quick tw15386703285521739609 for Mine.q0 by Mine.q0e
name_quick tw10265377958212638238 for Mine.q0 by Mine.q0e
name_quick tw15016779668886088161 for Mine.q0 by Mine.q0e
name_quick tw433345214267623031 for Mine.q0 by Mine.q0e
name_quick tw8632194578292523614 for Mine.q0 by Mine.q0e
name_quick tw1210602443911792515 for Mine.q0 by Mine.q0e
name_quick tw13622910320309373853 for Mine.q0 by Mine.q0e
name_quick tw14245187812051775983 for Mine.q0 by Mine.q0e
name_quick tw7347020887351314031 for Mine.q0 by Mine.q0e
name_quick tw4504384736755586342 for Mine.q0 by Mine.q0e
name_quick tw15447877184402776161 for Mine.q0 by Mine.q0e
name_quick tw16033131359737634337 for Mine.q0 by Mine.q0e
name_quick tw8992070070757650786 for Mine.q0 by Mine.q0e
name_quick tw4124431840509112338 for Mine.q0 by Mine.q0e
name_quick tw11807290330406390281 for Mine.q0 by Mine.q0e
name_quick tw6361305071402328345 for Mine.q0 by Mine.q0e
name_quick tw8492014178724851758 for Mine.q0 by Mine.q0e
name_quick tw16894734144521431347 for Mine.q0 by Mine.q0e
name_quick tw16276685200536972269 for Mine.q0 by Mine.q0e
name_quick tw16025756690876659258 for Mine.q0 by Mine.q0e
name_quick tw6377656859738628300 for Mine.q0 by Mine.q0e
name_quick tw5503010380889338452 for Mine.q0 by Mine.q0e
name_quick tw813323938525453831 for Mine.q0 by Mine.q0e
name_quick tw15055726007690497753 for Mine.q0 by Mine.q0e
name_quick tw3143342168049438645 for Mine.q0 by Mine.q0e
name_quick tw5342706759992150818 for Mine.q0 by Mine.q0e
name_quick tw6867833380892088059 for Mine.q0 by Mine.q0e
name_quick tw5069825137118278753 for Mine.q0 by Mine.q0e
name_quick tw3016322100375858454 for Mine.q0 by Mine.q0e
name_quick tw8493918092256809 for Mine.q0 by Mine.q0e
name_quick tw1522200826293408537 for Mine.q0 by Mine.q0e
name_quick tw1843632079584730568 for Mine.q0 by Mine.q0e
name_quick tw17510549912811585130 for Mine.q0 by Mine.q0e
name_quick tw12280541028804636576 for Mine.q0 by Mine.q0e
name_quick tw13677323299754493723 for Mine.q0 by Mine.q0e
name_quick tw2559535759380953950 for Mine.q0 by Mine.q0e
name_quick tw7175668257746621074 for Mine.q0 by Mine.q0e
name_quick tw14585088831282570646 for Mine.q0 by Mine.q0e
name_quick tw11102677794351862506 for Mine.q0 by Mine.q0e
name_quick tw13636497930064286216 for Mine.q0 by Mine.q0e
name_quick tw721442766246916197 for Mine.q0 by Mine.q0e
name_quick tw14804844782346942194 for Mine.q0 by Mine.q0e
name_quick tw14882403923392005671 for Mine.q0 by Mine.q0e
name_quick tw16585352738934521516 for Mine.q0 by Mine.q0e
name_quick tw4356013403823243688 for Mine.q0 by Mine.q0e
name_quick tw14144585539680342074 for Mine.q0 by Mine.q0e
name_quick tw8992689043100964838 for Mine.q0 by Mine.q0e
name_quick tw11257741744628717716 for Mine.q0 by Mine.q0e
name_quick tw14531585970180471455 for Mine.q0 by Mine.q0e
name_quick tw6105221479137424137 for Mine.q0 by Mine.q0e
name_quick tw5707790803298254076 for Mine.q0 by Mine.q0e
name_quick tw2365153079154021023 for Mine.q0 by Mine.q0e
name_quick tw17914253550145315540 for Mine.q0 by Mine.q0e
name_quick tw15787385767547604062 for Mine.q0 by Mine.q0e
name_quick tw6395508248289628978 for Mine.q0 by Mine.q0e
name_quick tw17694280251418894267 for Mine.q0 by Mine.q0e
name_quick tw7888746931845944237 for Mine.q0 by Mine.q0e
name_quick tw10391641507189625452 for Mine.q0 by Mine.q0e
name_quick tw1768457349718721356 for Mine.q0 by Mine.q0e
name_quick tw12262929071916047621 for Mine.q0 by Mine.q0e
name_quick tw4508470608902264287 for Mine.q0 by Mine.q0e
name_quick tw7105572262690707330 for Mine.q0 by Mine.q0e
name_quick tw18397979998164552735 for Mine.q0 by Mine.q0e
name_quick tw16998672482806368794 for Mine.q0 by Mine.q0e
name_quick tw7312617756350304006 for Mine.q0 by Mine.q0e
name_quick tw1922876538030590956 for Mine.q0 by Mine.q0e
name_quick tw1363845039446507528 for Mine.q0 by Mine.q0e
name_quick tw10894367309564539586 for Mine.q0 by Mine.q0e
name_quick tw18361567064455449584 for Mine.q0 by Mine.q0e
name_quick tw633586999196155799 for Mine.q0 by Mine.q0e
name_quick tw7891451698417241588 for Mine.q0 by Mine.q0e
name_quick tw15097270771900654403 for Mine.q0 by Mine.q0e
name_quick tw655563750174174399 for Mine.q0 by Mine.q0e
name_quick tw16758935137215648504 for Mine.q0 by Mine.q0e
name_quick tw6359314702728487571 for Mine.q0 by Mine.q0e
name_quick tw2371918853026653179 for Mine.q0 by Mine.q0e
name_quick tw830230099630849776 for Mine.q0 by Mine.q0e
name_quick tw4201916492683015902 for Mine.q0 by Mine.q0e
name_quick tw10225032003210728260 for Mine.q0 by Mine.q0e
name_quick tw2642729134054368576 for Mine.q0 by Mine.q0e
name_quick tw7098733277758664377 for Mine.q0 by Mine.q0e
name_quick tw8396798255829850424 for Mine.q0 by Mine.q0e
name_quick tw2236626387213078234 for Mine.q0 by Mine.q0e
name_quick tw10915312273138920363 for Mine.q0 by Mine.q0e
name_quick tw2781649651329924309 for Mine.q0 by Mine.q0e
name_quick tw15193390876106492472 for Mine.q0 by Mine.q0e
name_quick tw9045614235479281275 for Mine.q0 by Mine.q0e
name_quick tw13334031027882585115 for Mine.q0 by Mine.q0e
name_quick tw12479097543255038029 for Mine.q0 by Mine.q0e
name_quick tw5167487241081801908 for Mine.q0 by Mine.q0e
name_quick tw2028467442991929212 for Mine.q0 by Mine.q0e
name_quick tw8535739208797057973 for Mine.q0 by Mine.q0e
name_quick tw14279981328993582438 for Mine.q0 by Mine.q0e
name_quick tw4527532708129902150 for Mine.q0 by Mine.q0e
name_quick tw9728101262280198742 for Mine.q0 by Mine.q0e
name_quick tw5853514535651415074 for Mine.q0 by Mine.q0e
name_quick tw7346061261384425427 for Mine.q0 by Mine.q0e
name_quick tw313198706051673823 for Mine.q0 by Mine.q0e
name_quick tw7058962013253521436 for Mine.q0 by Mine.q0e
name_quick tw7414471895749010991 for Mine.q0 by Mine.q0e
name_quick tw5272130570108616342 for Mine.q0 by Mine.q0e
name_quick tw6368170150671438742 for Mine.q0 by Mine.q0e
name_quick tw8270596021823697704 for Mine.q0 by Mine.q0e
name_quick tw9323816418740800473 for Mine.q0 by Mine.q0e
name_quick tw42378196276338573 for Mine.q0 by Mine.q0e
name_quick tw1204408864149162915 for Mine.q0 by Mine.q0e
name_quick tw9689897285762145003 for Mine.q0 by Mine.q0e
name_quick tw15968580660623250403 for Mine.q0 by Mine.q0e
name_quick tw4649230922872042812 for Mine.q0 by Mine.q0e
name_quick tw13473601141720189123 for Mine.q0 by Mine.q0e
name_quick tw1909813078851543444 for Mine.q0 by Mine.q0e
name_quick tw2649743967679698207 for Mine.q0 by Mine.q0e
name_quick tw8257987440375043986 for Mine.q0 by Mine.q0e
name_quick tw1985007649735857870 for Mine.q0 by Mine.q0e
name_quick tw14133837102970693074 for Mine.q0 by Mine.q0e
name_quick tw10785842159562750876 for Mine.q0 by Mine.q0e
name_quick tw5850712488576584304 for Mine.q0 by Mine.q0e
name_quick tw9298527733107465235 for Mine.q0 by Mine.q0e
name_quick tw17309525834579458104 for Mine.q0 by Mine.q0e
name_quick tw6359407843459646322 for Mine.q0 by Mine.q0e
name_quick tw16214474219555493108 for Mine.q0 by Mine.q0e
name_quick tw6365363778869706759 for Mine.q0 by Mine.q0e
name_quick tw14665149858861428118 for Mine.q0 by Mine.q0e
name_quick tw480534203003071351 for Mine.q0 by Mine.q0e
name_quick tw553791830187334198 for Mine.q0 by Mine.q0e
name_quick tw4983070593411054960 for Mine.q0 by Mine.q0e
name_quick tw4597833814633357500 for Mine.q0 by Mine.q0e
name_quick tw13309899915298713023 for Mine.q0 by Mine.q0e
name_quick tw7200737883098535792 for Mine.q0 by Mine.q0e
name_quick tw17533787404719111327 for Mine.q0 by Mine.q0e
name_quick tw16771742142646996620 for Mine.q0 by Mine.q0e
name_quick tw13683447813723328738 for Mine.q0 by Mine.q0e
name_quick tw15041539991673854103 for Mine.q0 by Mine.q0e
name_quick tw10245307985239378792 for Mine.q0 by Mine.q0e
name_quick tw4605239391985247573 for Mine.q0 by Mine.q0e
name_quick tw7895329622100115270 for Mine.q0 by Mine.q0e
name_quick tw4392698690506480755 for Mine.q0 by Mine.q0e
name_quick tw4220462964228399629 for Mine.q0 by Mine.q0e
name_quick tw9050185253074712921 for Mine.q0 by Mine.q0e
name_quick tw6848151140918530702 for Mine.q0 by Mine.q0e
name_quick tw3588147192159186112 for Mine.q0 by Mine.q0e
name_quick tw5861155489376168059 for Mine.q0 by Mine.q0e
name_quick tw2715957651794924267 for Mine.q0 by Mine.q0e
name_quick tw17489565038928701142 for Mine.q0 by Mine.q0e
name_quick tw14051040156597302251 for Mine.q0 by Mine.q0e
name_quick tw12127799114538907367 for Mine.q0 by Mine.q0e
name_quick tw12971470821614189011 for Mine.q0 by Mine.q0e
name_quick tw6742264079650757978 for Mine.q0 by Mine.q0e
name_quick tw13753389571848686843 for Mine.q0 by Mine.q0e
name_quick tw11037527486258212206 for Mine.q0 by Mine.q0e
name_quick tw6123278001134651988 for Mine.q0 by Mine.q0e
name_quick tw6365142290233813214 for Mine.q0 by Mine.q0e
name_quick tw14398574246472820738 for Mine.q0 by Mine.q0e
name_quick tw7684177522966690090 for Mine.q0 by Mine.q0e
name_quick tw11532496037813491823 for Mine.q0 by Mine.q0e
name_quick tw9080775363011178143 for Mine.q0 by Mine.q0e
name_quick tw1799921591739751063 for Mine.q0 by Mine.q0e
name_quick tw15510960337311459956 for Mine.q0 by Mine.q0e
name_quick tw13715199342160996229 for Mine.q0 by Mine.q0e
name_quick tw16181758540069104616 for Mine.q0 by Mine.q0e
name_quick tw17206110055579765791 for Mine.q0 by Mine.q0e
name_quick tw16950934574776864458 for Mine.q0 by Mine.q0e
name_quick tw6106582170820110557 for Mine.q0 by Mine.q0e
name_quick tw189466276316442178 for Mine.q0 by Mine.q0e
name_quick tw330282660577191959 for Mine.q0 by Mine.q0e
name_quick tw18279010956346159714 for Mine.q0 by Mine.q0e
name_quick tw3964119584801675578 for Mine.q0 by Mine.q0e
name_quick tw18356047780532554102 for Mine.q0 by Mine.q0e
name_quick tw277088470259370023 for Mine.q0 by Mine.q0e
name_quick tw5587166803621238561 for Mine.q0 by Mine.q0e
name_quick tw18039308551417232332 for Mine.q0 by Mine.q0e
name_quick tw6472532753425455198 for Mine.q0 by Mine.q0e
name_quick tw2170663259136688372 for Mine.q0 by Mine.q0e
name_quick tw13867483555664346312 for Mine.q0 by Mine.q0e
name_quick tw7471083804184981408 for Mine.q0 by Mine.q0e
name_quick tw3366373411556886572 for Mine.q0 by Mine.q0e
name_quick tw6806924906490737940 for Mine.q0 by Mine.q0e
name_quick tw15280279122636970521 for Mine.q0 by Mine.q0e
name_quick tw5758724496359360694 for Mine.q0 by Mine.q0e
name_quick tw1519100365843463339 for Mine.q0 by Mine.q0e
name_quick tw13049852164401628403 for Mine.q0 by Mine.q0e
name_quick tw5548483673651336989 for Mine.q0 by Mine.q0e
name_quick tw3000466346994306601 for Mine.q0 by Mine.q0e
name_quick tw4137239784197319605 for Mine.q0 by Mine.q0e
name_quick tw15693585305589267572 for Mine.q0 by Mine.q0e
name_quick tw18305385179384940708 for Mine.q0 by Mine.q0e
name_quick tw10890716758086123994 for Mine.q0 by Mine.q0e
name_quick tw17881374594016661430 for Mine.q0 by Mine.q0e
name_quick tw8046265582665710598 for Mine.q0 by Mine.q0e
name_quick tw4804773935225943232 for Mine.q0 by Mine.q0e
name_quick tw12693592056756084720 for Mine.q0 by Mine.q0e
name_quick tw15370652721060957926 for Mine.q0 by Mine.q0e
name_quick tw2807092035920939089 for Mine.q0 by Mine.q0e
name_quick tw16802692434376742845 for Mine.q0 by Mine.q0e
name_quick tw881642803864526036 for Mine.q0 by Mine.q0e
name_quick tw17677853587098276903 for Mine.q0 by Mine.q0e
name_quick tw9841137731680110688 for Mine.q0 by Mine.q0e
name_quick tw17502289031622853005 for Mine.q0 by Mine.q0e
name_quick tw12383828417908606972 for Mine.q0 by Mine.q0e
name_quick tw3423334872891323993 for Mine.q0 by Mine.q0e
name_quick tw15303724251916736682 for Mine.q0 by Mine.q0e
name_quick tw14919085355970497561 for Mine.q0 by Mine.q0e
name_quick tw6096018577385649257 for Mine.q0 by Mine.q0e
name_quick tw544425823939109569 for Mine.q0 by Mine.q0e
name_quick tw9991051380490209750 for Mine.q0 by Mine.q0e
name_quick tw9126986327864265737 for Mine.q0 by Mine.q0e
name_quick tw8523045926547768574 for Mine.q0 by Mine.q0e
name_quick tw15091719739886360933 for Mine.q0 by Mine.q0e
name_quick tw13277604025178328030 for Mine.q0 by Mine.q0e
name_quick tw11932458217474939025 for Mine.q0 by Mine.q0e
name_quick tw5974876888668929559 for Mine.q0 by Mine.q0e
name_quick tw1607464807807561183 for Mine.q0 by Mine.q0e
name_quick tw1865097279289348188 for Mine.q0 by Mine.q0e
name_quick tw3254986533745923088 for Mine.q0 by Mine.q0e
name_quick tw2258633761974532213 for Mine.q0 by Mine.q0e
name_quick tw14408909487849179321 for Mine.q0 by Mine.q0e
name_quick tw2641113205852077283 for Mine.q0 by Mine.q0e
name_quick tw996236524812314676 for Mine.q0 by Mine.q0e
name_quick tw13635860857538901580 for Mine.q0 by Mine.q0e
name_quick tw6696546074467178954 for Mine.q0 by Mine.q0e
name_quick tw10604370770307462328 for Mine.q0 by Mine.q0e
name_quick tw3182317543567801794 for Mine.q0 by Mine.q0e
name_quick tw16408482957245607149 for Mine.q0 by Mine.q0e
name_quick tw6028123945379728458 for Mine.q0 by Mine.q0e
name_quick tw11139684737284815103 for Mine.q0 by Mine.q0e
name_quick tw5977043222922418525 for Mine.q0 by Mine.q0e
name_quick tw10051102829875527069 for Mine.q0 by Mine.q0e
name_quick tw16474356101969442500 for Mine.q0 by Mine.q0e
name_quick tw11300786644907173027 for Mine.q0 by Mine.q0e
name_quick tw14186417409865000482 for Mine.q0 by Mine.q0e
name_quick tw1280029181418451352 for Mine.q0 by Mine.q0e
name_quick tw2135191982210713380 for Mine.q0 by Mine.q0e
name_quick tw13880472578968267372 for Mine.q0 by Mine.q0e
name_quick tw11085789890597650367 for Mine.q0 by Mine.q0e
name_quick tw17059684844054653762 for Mine.q0 by Mine.q0e
name_quick tw14024600771209185119 for Mine.q0 by Mine.q0e
name_quick tw17657661392605133321 for Mine.q0 by Mine.q0e
name_quick tw4447839781912432671 for Mine.q0 by Mine.q0e
name_quick tw11729715891131263680 for Mine.q0 by Mine.q0e
name_quick tw14796375479984987040 for Mine.q0 by Mine.q0e
name_quick tw1506818386867928956 for Mine.q0 by Mine.q0e
name_quick tw11295677179315598390 for Mine.q0 by Mine.q0e
name_quick tw4109742991422300179 for Mine.q0 by Mine.q0e
name_quick tw8569269482533931714 for Mine.q0 by Mine.q0e
name_quick tw11686102964820021296 for Mine.q0 by Mine.q0e
name_quick tw13909549375351243360 for Mine.q0 by Mine.q0e
name_quick tw297503019256895750 for Mine.q0 by Mine.q0e
name_quick tw12307353649792167776 for Mine.q0 by Mine.q0e
name_quick tw10195360527423021625 for Mine.q0 by Mine.q0e
name_quick tw13687167144176118705 for Mine.q0 by Mine.q0e
name_quick tw3170996646982484260 for Mine.q0 by Mine.q0e
name_quick tw10588593166604287450 for Mine.q0 by Mine.q0e
name_quick tw9781333200925635233 for Mine.q0 by Mine.q0e
name_quick tw17380333914012921024 for Mine.q0 by Mine.q0e
name_quick tw7435648700770924911 for Mine.q0 by Mine.q0e
name_quick tw17703256956918389359 for Mine.q0 by Mine.q0e
name_quick tw2281503741196974344 for Mine.q0 by Mine.q0e
name_quick tw18363432263873437619 for Mine.q0 by Mine.q0e
name_quick tw12544539233849918420 for Mine.q0 by Mine.q0e
name_quick tw12415294857506874857 for Mine.q0 by Mine.q0e
name_quick tw770453038793256355 for Mine.q0 by Mine.q0e
name_quick tw10314596301375484773 for Mine.q0 by Mine.q0e
name_quick tw3979466495354809178 for Mine.q0 by Mine.q0e
name_quick tw7295436328543365740 for Mine.q0 by Mine.q0e
name_quick tw4834857134525198128 for Mine.q0 by Mine.q0e
name_quick tw6224479632796868816 for Mine.q0 by Mine.q0e
name_quick tw4020205374630329451 for Mine.q0 by Mine.q0e
name_quick tw2722817139640093443 for Mine.q0 by Mine.q0e
name_quick tw2857000111893663937 for Mine.q0 by Mine.q0e
name_quick tw15633429636391144025 for Mine.q0 by Mine.q0e
name_quick tw12421023035523063195 for Mine.q0 by Mine.q0e
name_quick tw8676516037965827677 for Mine.q0 by Mine.q0e
name_quick tw14724292069462192387 for Mine.q0 by Mine.q0e
name_quick tw14779619358310361619 for Mine.q0 by Mine.q0e
name_quick tw14079182540043666332 for Mine.q0 by Mine.q0e
name_quick tw11154560062591202021 for Mine.q0 by Mine.q0e
name_quick tw8634544186616137686 for Mine.q0 by Mine.q0e
name_quick tw15793188103481614499 for Mine.q0 by Mine.q0e
name_quick tw8989917449508221696 for Mine.q0 by Mine.q0e
name_quick tw17319467361037841884 for Mine.q0 by Mine.q0e
name_quick tw3997622163126067028 for Mine.q0 by Mine.q0e
name_quick tw1425884619334404288 for Mine.q0 by Mine.q0e
name_quick tw830009179191747492 for Mine.q0 by Mine.q0e
name_quick tw13962160794327893992 for Mine.q0 by Mine.q0e
name_quick tw4758737126173583216 for Mine.q0 by Mine.q0e
name_quick tw18272360742301419183 for Mine.q0 by Mine.q0e
name_quick tw586532499486702088 for Mine.q0 by Mine.q0e
name_quick tw9234691002180888972 for Mine.q0 by Mine.q0e
name_quick tw14533142077664581958 for Mine.q0 by Mine.q0e
name_quick tw11763304365487140424 for Mine.q0 by Mine.q0e
name_quick tw5043192008623215112 for Mine.q0 by Mine.q0e
name_quick tw13973650870768903916 for Mine.q0 by Mine.q0e
name_quick tw8452676066738393313 for Mine.q0 by Mine.q0e
name_quick tw11565181936022312940 for Mine.q0 by Mine.q0e
name_quick tw1123785455515668482 for Mine.q0 by Mine.q0e
name_quick tw713656725292906307 for Mine.q0 by Mine.q0e
name_quick tw10428625354861714854 for Mine.q0 by Mine.q0e
name_quick tw3977572794287446309 for Mine.q0 by Mine.q0e
name_quick tw4395166757136246951 for Mine.q0 by Mine.q0e
name_quick tw7933192931762956493 for Mine.q0 by Mine.q0e
name_quick tw1549454605952202848 for Mine.q0 by Mine.q0e
name_quick tw12613554621693019292 for Mine.q0 by Mine.q0e
name_quick tw11441354262574188695 for Mine.q0 by Mine.q0e
name_quick tw14720830161552430220 for Mine.q0 by Mine.q0e
name_quick tw1567450451261847735 for Mine.q0 by Mine.q0e
name_quick tw17524773003128991604 for Mine.q0 by Mine.q0e
name_quick tw10018614012132500117 for Mine.q0 by Mine.q0e
name_quick tw9693135394224770002 for Mine.q0 by Mine.q0e
name_quick tw18333952784243915392 for Mine.q0 by Mine.q0e
name_quick tw12289731940377946071 for Mine.q0 by Mine.q0e
name_quick tw16460487496184403589 for Mine.q0 by Mine.q0e
name_quick tw4015559997482164798 for Mine.q0 by Mine.q0e
name_quick tw11018650448354359147 for Mine.q0 by Mine.q0e
name_quick tw5356756115612156086 for Mine.q0 by Mine.q0e
name_quick tw7296170887772854161 for Mine.q0 by Mine.q0e
name_quick tw11099594203084976951 for Mine.q0 by Mine.q0e
name_quick tw2981050236599531919 for Mine.q0 by Mine.q0e
name_quick tw11321708569330347032 for Mine.q0 by Mine.q0e
name_quick tw1062240118957312233 for Mine.q0 by Mine.q0e
name_quick tw3818434529673204842 for Mine.q0 by Mine.q0e
name_quick tw9993110019427129383 for Mine.q0 by Mine.q0e
name_quick tw16730415421212555779 for Mine.q0 by Mine.q0e
name_quick tw17107487094132686110 for Mine.q0 by Mine.q0e
name_quick tw5536366391482884245 for Mine.q0 by Mine.q0e
name_quick tw2472606279688967255 for Mine.q0 by Mine.q0e
name_quick tw3028362063157234466 for Mine.q0 by Mine.q0e
name_quick tw5121207402158329952 for Mine.q0 by Mine.q0e
name_quick tw2866975157942908276 for Mine.q0 by Mine.q0e
name_quick tw16656941721881519289 for Mine.q0 by Mine.q0e
name_quick tw14907083208816792583 for Mine.q0 by Mine.q0e
name_quick tw756296459632680823 for Mine.q0 by Mine.q0e
name_quick tw9521992057019396790 for Mine.q0 by Mine.q0e
name_quick tw3652587585601684386 for Mine.q0 by Mine.q0e
name_quick tw9033325665838046283 for Mine.q0 by Mine.q0e
name_quick tw10409926113146296079 for Mine.q0 by Mine.q0e
name_quick tw8161180510649779885 for Mine.q0 by Mine.q0e
name_quick tw11876837876571882976 for Mine.q0 by Mine.q0e
name_quick tw6993956243908567429 for Mine.q0 by Mine.q0e
name_quick tw7298464796218041419 for Mine.q0 by Mine.q0e
name_quick tw18153642442279874790 for Mine.q0 by Mine.q0e
name_quick tw8167404717449602541 for Mine.q0 by Mine.q0e
name_quick tw4149065935888702755 for Mine.q0 by Mine.q0e
name_quick tw10598684683777182555 for Mine.q0 by Mine.q0e
name_quick tw8740349287424318482 for Mine.q0 by Mine.q0e
name_quick tw340164254224942648 for Mine.q0 by Mine.q0e
name_quick tw7055224331916008584 for Mine.q0 by Mine.q0e
name_quick tw2023755550065233934 for Mine.q0 by Mine.q0e
name_quick tw12030090380795435927 for Mine.q0 by Mine.q0e
name_quick tw3772443513758885158 for Mine.q0 by Mine.q0e
name_quick tw3348233731664552732 for Mine.q0 by Mine.q0e
name_quick tw700783106826260423 for Mine.q0 by Mine.q0e
name_quick tw13819665398170195097 for Mine.q0 by Mine.q0e
name_quick tw2634148702228648207 for Mine.q0 by Mine.q0e
name_quick tw2526151632499557325 for Mine.q0 by Mine.q0e
name_quick tw11970148053749632586 for Mine.q0 by Mine.q0e
name_quick tw12503920868030383832 for Mine.q0 by Mine.q0e
name_quick tw14285181404622087850 for Mine.q0 by Mine.q0e
name_quick tw9905712719303330538 for Mine.q0 by Mine.q0e
name_quick tw4415178796065332281 for Mine.q0 by Mine.q0e
name_quick tw10103283239200685856 for Mine.q0 by Mine.q0e
name_quick tw9046991600251676815 for Mine.q0 by Mine.q0e
name_quick tw4711142744192133980 for Mine.q0 by Mine.q0e
name_quick tw16270754899384463998 for Mine.q0 by Mine.q0e
name_quick tw8201610177217884245 for Mine.q0 by Mine.q0e
name_quick tw2546548459542531673 for Mine.q0 by Mine.q0e
name_quick tw10773861729927042623 for Mine.q0 by Mine.q0e
name_quick tw5971183253241216387 for Mine.q0 by Mine.q0e
name_quick tw6710050540487542677 for Mine.q0 by Mine.q0e
name_quick tw8431517326166499710 for Mine.q0 by Mine.q0e
name_quick tw10777760113628242136 for Mine.q0 by Mine.q0e
name_quick tw8420849032939174270 for Mine.q0 by Mine.q0e
name_quick tw11304208757403365064 for Mine.q0 by Mine.q0e
name_quick tw14930850535929152239 for Mine.q0 by Mine.q0e
name_quick tw7227415315075454910 for Mine.q0 by Mine.q0e
name_quick tw7999457229599781036 for Mine.q0 by Mine.q0e
name_quick tw12169490208265250898 for Mine.q0 by Mine.q0e
name_quick tw13772845945672257267 for Mine.q0 by Mine.q0e
name_quick tw13173889859614737023 for Mine.q0 by Mine.q0e
name_quick tw7014845618396392950 for Mine.q0 by Mine.q0e
name_quick tw10775029870240962176 for Mine.q0 by Mine.q0e
name_quick tw7274415374739567571 for Mine.q0 by Mine.q0e
name_quick tw11321270500691583539 for Mine.q0 by Mine.q0e
name_quick tw7305923454041719317 for Mine.q0 by Mine.q0e
name_quick tw7439491538148251545 for Mine.q0 by Mine.q0e
name_quick tw6900337051960865508 for Mine.q0 by Mine.q0e
name_quick tw14458306970921635232 for Mine.q0 by Mine.q0e
name_quick tw7544307104507110565 for Mine.q0 by Mine.q0e
name_quick tw9636937920737243376 for Mine.q0 by Mine.q0e
name_quick tw2959230586623213994 for Mine.q0 by Mine.q0e
name_quick tw4409500273581812944 for Mine.q0 by Mine.q0e
name_quick tw16273840308480608465 for Mine.q0 by Mine.q0e
name_quick tw981834178095112303 for Mine.q0 by Mine.q0e
name_quick tw3487335138356045920 for Mine.q0 by Mine.q0e
name_quick tw12654044840830594647 for Mine.q0 by Mine.q0e
name_quick tw13747706568547116894 for Mine.q0 by Mine.q0e
name_quick tw1832197750641048406 for Mine.q0 by Mine.q0e
name_quick tw14530082421125423254 for Mine.q0 by Mine.q0e
name_quick tw17464675230087454721 for Mine.q0 by Mine.q0e
name_quick tw9861042570663704931 for Mine.q0 by Mine.q0e
name_quick tw2019965202867420060 for Mine.q0 by Mine.q0e
name_quick tw12175501277282143411 for Mine.q0 by Mine.q0e
name_quick tw7525823702112007053 for Mine.q0 by Mine.q0e
name_quick tw9709265954968874044 for Mine.q0 by Mine.q0e
name_quick tw9492623734323394660 for Mine.q0 by Mine.q0e
name_quick tw7253527595873658256 for Mine.q0 by Mine.q0e
name_quick tw12790219143506164695 for Mine.q0 by Mine.q0e
name_quick tw341637658752030014 for Mine.q0 by Mine.q0e
name_quick tw12825669924887119755 for Mine.q0 by Mine.q0e
name_quick tw12867603821237080155 for Mine.q0 by Mine.q0e
name_quick tw7060524456817000810 for Mine.q0 by Mine.q0e
name_quick tw3246521730310913606 for Mine.q0 by Mine.q0e
name_quick tw15422247314819124260 for Mine.q0 by Mine.q0e
name_quick tw14215310556881429743 for Mine.q0 by Mine.q0e
name_quick tw1103278986156585342 for Mine.q0 by Mine.q0e
name_quick tw13160373856282987055 for Mine.q0 by Mine.q0e
name_quick tw4141083312864612541 for Mine.q0 by Mine.q0e
name_quick tw5479320884565138077 for Mine.q0 by Mine.q0e
name_quick tw1598253139962337459 for Mine.q0 by Mine.q0e
name_quick tw5441748128117543656 for Mine.q0 by Mine.q0e
name_quick tw16358741654635072867 for Mine.q0 by Mine.q0e
name_quick tw17362939023313856554 for Mine.q0 by Mine.q0e
name_quick tw3111436939014801646 for Mine.q0 by Mine.q0e
name_quick tw16068530780808424926 for Mine.q0 by Mine.q0e
name_quick tw7646602837006072439 for Mine.q0 by Mine.q0e
name_quick tw1430628740357030269 for Mine.q0 by Mine.q0e
name_quick tw8249226726400193869 for Mine.q0 by Mine.q0e
name_quick tw18332110927071746488 for Mine.q0 by Mine.q0e
name_quick tw18090096312005347052 for Mine.q0 by Mine.q0e
name_quick tw4778161471842907810 for Mine.q0 by Mine.q0e
name_quick tw1606191845254991511 for Mine.q0 by Mine.q0e
name_quick tw4136324439290892523 for Mine.q0 by Mine.q0e
name_quick tw12046167307374765941 for Mine.q0 by Mine.q0e
name_quick tw293291185292859299 for Mine.q0 by Mine.q0e
name_quick tw12077171753747285342 for Mine.q0 by Mine.q0e
name_quick tw11411323652378134730 for Mine.q0 by Mine.q0e
name_quick tw13121128643967467937 for Mine.q0 by Mine.q0e
name_quick tw5827878978563738718 for Mine.q0 by Mine.q0e
name_quick tw2826913971049833419 for Mine.q0 by Mine.q0e
name_quick tw6328228277180901936 for Mine.q0 by Mine.q0e
name_quick tw17103892409366817711 for Mine.q0 by Mine.q0e
name_quick tw12782113460501105040 for Mine.q0 by Mine.q0e
name_quick tw14916193628097751363 for Mine.q0 by Mine.q0e
name_quick tw11841062971783702462 for Mine.q0 by Mine.q0e
name_quick tw15747398488187811274 for Mine.q0 by Mine.q0e
name_quick tw12500464079354998399 for Mine.q0 by Mine.q0e
name_quick tw15935673248220322533 for Mine.q0 by Mine.q0e
name_quick tw2531106711780633281 for Mine.q0 by Mine.q0e
name_quick tw13654688377212302143 for Mine.q0 by Mine.q0e
name_quick tw7650240303705623703 for Mine.q0 by Mine.q0e
name_quick tw16483041449079289957 for Mine.q0 by Mine.q0e
name_quick tw5650630634170837318 for Mine.q0 by Mine.q0e
name_quick tw4222651268978943976 for Mine.q0 by Mine.q0e
name_quick tw12959495805845477229 for Mine.q0 by Mine.q0e
name_quick tw3722677450111136111 for Mine.q0 by Mine.q0e
name_quick tw8391004799551819401 for Mine.q0 by Mine.q0e
name_quick tw14004039595539861495 for Mine.q0 by Mine.q0e
name_quick tw11351731596522933474 for Mine.q0 by Mine.q0e
name_quick tw4623713839208972252 for Mine.q0 by Mine.q0e
name_quick tw7979252424201653678 for Mine.q0 by Mine.q0e
name_quick tw9704403698427490834 for Mine.q0 by Mine.q0e
name_quick tw15873875116468053479 for Mine.q0 by Mine.q0e
name_quick tw1912422016657034307 for Mine.q0 by Mine.q0e
name_quick tw2276860310199867358 for Mine.q0 by Mine.q0e
name_quick tw5539660456753382706 for Mine.q0 by Mine.q0e
name_quick tw7219534857075784551 for Mine.q0 by Mine.q0e
name_quick tw7116420448495793904 for Mine.q0 by Mine.q0e
name_quick tw9800327017143299931 for Mine.q0 by Mine.q0e
name_quick tw5419196864974196301 for Mine.q0 by Mine.q0e
name_quick tw11983455579063807168 for Mine.q0 by Mine.q0e
name_quick tw11924008666009669073 for Mine.q0 by Mine.q0e
name_quick tw618560738850700413 for Mine.q0 by Mine.q0e
name_quick tw12073599506867688423 for Mine.q0 by Mine.q0e
name_quick tw18079448737470852952 for Mine.q0 by Mine.q0e
name_quick tw8278729013524789899 for Mine.q0 by Mine.q0e
name_quick tw10279010501424464953 for Mine.q0 by Mine.q0e
name_quick tw15178915263418249683 for Mine.q0 by Mine.q0e
name_quick tw9010975794291340423 for Mine.q0 by Mine.q0e
name_quick tw1983798011930760913 for Mine.q0 by Mine.q0e
name_quick tw6812967135759522821 for Mine.q0 by Mine.q0e
name_quick tw6355416862900439096 for Mine.q0 by Mine.q0e
name_quick tw16082585798216480412 for Mine.q0 by Mine.q0e
name_quick tw3713985697914247665 for Mine.q0 by Mine.q0e
name_quick tw2928683320666112081 for Mine.q0 by Mine.q0e
name_quick tw2541286305198740783 for Mine.q0 by Mine.q0e
name_quick tw5701661245811853528 for Mine.q0 by Mine.q0e
name_quick tw5906545926679513162 for Mine.q0 by Mine.q0e
name_quick tw13839800613181319747 for Mine.q0 by Mine.q0e
name_quick tw2119662408408572755 for Mine.q0 by Mine.q0e
name_quick tw6799604542515995139 for Mine.q0 by Mine.q0e
name_quick tw8206055676719038957 for Mine.q0 by Mine.q0e
name_quick tw15653240061640279651 for Mine.q0 by Mine.q0e
name_quick tw18427749840648296699 for Mine.q0 by Mine.q0e
name_quick tw1893520119724844100 for Mine.q0 by Mine.q0e
name_quick tw8419829408697478686 for Mine.q0 by Mine.q0e
name_quick tw16062704862301133856 for Mine.q0 by Mine.q0e
name_quick tw4773455102400952336 for Mine.q0 by Mine.q0e
name_quick tw12104052420502100024 for Mine.q0 by Mine.q0e
name_quick tw8630657313849698201 for Mine.q0 by Mine.q0e
name_quick tw6385248383371897379 for Mine.q0 by Mine.q0e
name_quick tw6489245754233042780 for Mine.q0 by Mine.q0e
name_quick tw11231866996567151949 for Mine.q0 by Mine.q0e
name_quick tw17211543198952082746 for Mine.q0 by Mine.q0e
name_quick tw3851468268245012521 for Mine.q0 by Mine.q0e
name_quick tw12015186391368205945 for Mine.q0 by Mine.q0e
name_quick tw16780600337855293987 for Mine.q0 by Mine.q0e
name_quick tw6878787959699532275 for Mine.q0 by Mine.q0e
name_quick tw4499994205643111061 for Mine.q0 by Mine.q0e
name_quick tw8820250552507009833 for Mine.q0 by Mine.q0e
name_quick tw9591633647768496513 for Mine.q0 by Mine.q0e
name_quick tw1307627995091509954 for Mine.q0 by Mine.q0e
name_quick tw2002891369757377612 for Mine.q0 by Mine.q0e
name_quick tw1634531765965346776 for Mine.q0 by Mine.q0e
name_quick tw6257336862887254449 for Mine.q0 by Mine.q0e
name_quick tw7999538448971852201 for Mine.q0 by Mine.q0e
name_quick tw16487473256551010400 for Mine.q0 by Mine.q0e
name_quick tw11645379256966734769 for Mine.q0 by Mine.q0e
name_quick tw9070693732771445606 for Mine.q0 by Mine.q0e
name_quick tw6477949049882898503 for Mine.q0 by Mine.q0e
name_quick tw17523730372206420210 for Mine.q0 by Mine.q0e
name_quick tw9612287154378947568 for Mine.q0 by Mine.q0e
name_quick tw5132825745957343928 for Mine.q0 by Mine.q0e
name_quick tw10990165208150707251 for Mine.q0 by Mine.q0e
name_quick tw11741946672969055762 for Mine.q0 by Mine.q0e
name_quick tw14599200270542988787 for Mine.q0 by Mine.q0e
name_quick tw11291723414359437284 for Mine.q0 by Mine.q0e
name_quick tw1919914172300851847 for Mine.q0 by Mine.q0e
name_quick tw9744111965720010990 for Mine.q0 by Mine.q0e
name_quick tw15384322371523653450 for Mine.q0 by Mine.q0e
name_quick tw2954595955770988125 for Mine.q0 by Mine.q0e
name_quick tw5384284867639529088 for Mine.q0 by Mine.q0e
name_quick tw11926789122093233986 for Mine.q0 by Mine.q0e
name_quick tw14718519496743625696 for Mine.q0 by Mine.q0e
name_quick tw11805546878321501016 for Mine.q0 by Mine.q0e
name_quick tw13508218407156843251 for Mine.q0 by Mine.q0e
name_quick tw323626486131328109 for Mine.q0 by Mine.q0e
name_quick tw10988635084744617887 for Mine.q0 by Mine.q0e
name_quick tw395784905023199403 for Mine.q0 by Mine.q0e
name_quick tw4292257621870629491 for Mine.q0 by Mine.q0e
name_quick tw1907394088766073964 for Mine.q0 by Mine.q0e
name_quick tw19690522118451689 for Mine.q0 by Mine.q0e
name_quick tw12039574554310195987 for Mine.q0 by Mine.q0e
name_quick tw8271624958119546639 for Mine.q0 by Mine.q0e
name_quick tw9536021602044619198 for Mine.q0 by Mine.q0e
name_quick tw11592330779325110086 for Mine.q0 by Mine.q0e
name_quick tw6666391636161178798 for Mine.q0 by Mine.q0e
name_quick tw16984095103356699576 for Mine.q0 by Mine.q0e
name_quick tw11772582469202195596 for Mine.q0 by Mine.q0e
name_quick tw11010236883238512041 for Mine.q0 by Mine.q0e
name_quick tw16573657687020565268 for Mine.q0 by Mine.q0e
name_quick tw5038737391755971902 for Mine.q0 by Mine.q0e
name_quick tw10063694178592947880 for Mine.q0 by Mine.q0e
name_quick tw16602723937166676927 for Mine.q0 by Mine.q0e
name_quick tw15500389749749522264 for Mine.q0 by Mine.q0e
name_quick tw11296168702270764516 for Mine.q0 by Mine.q0e
name_quick tw16623534993067086678 for Mine.q0 by Mine.q0e
name_quick tw6140981065564998324 for Mine.q0 by Mine.q0e
name_quick tw9669993782988665428 for Mine.q0 by Mine.q0e
name_quick tw8695271196975883463 for Mine.q0 by Mine.q0e
name_quick tw14276240600769392579 for Mine.q0 by Mine.q0e
name_quick tw16011272903124791670 for Mine.q0 by Mine.q0e
name_quick tw15928952425712481779 for Mine.q0 by Mine.q0e
name_quick tw7114720625934494857 for Mine.q0 by Mine.q0e
name_quick tw12279760218071189222 for Mine.q0 by Mine.q0e
name_quick tw16622779046047493700 for Mine.q0 by Mine.q0e
name_quick tw5513890087720741230 for Mine.q0 by Mine.q0e
name_quick tw17562088902680118164 for Mine.q0 by Mine.q0e
name_quick tw760852614467619585 for Mine.q0 by Mine.q0e
name_quick tw8522492631662764460 for Mine.q0 by Mine.q0e
name_quick tw630733789879493332 for Mine.q0 by Mine.q0e
name_quick tw5427745143843265128 for Mine.q0 by Mine.q0e
name_quick tw17369095735466288371 for Mine.q0 by Mine.q0e
name_quick tw15819248047086072728 for Mine.q0 by Mine.q0e
name_quick tw1751557497784361686 for Mine.q0 by Mine.q0e
name_quick tw17196656451571198452 for Mine.q0 by Mine.q0e
name_quick tw5449707631158509935 for Mine.q0 by Mine.q0e
name_quick tw8116476273683517053 for Mine.q0 by Mine.q0e
name_quick tw14199849324270158043 for Mine.q0 by Mine.q0e
name_quick tw12099675025237198113 for Mine.q0 by Mine.q0e
name_quick tw10108219676749436513 for Mine.q0 by Mine.q0e
name_quick tw15454367552378974184 for Mine.q0 by Mine.q0e
name_quick tw4359490222262290406 for Mine.q0 by Mine.q0e
name_quick tw149558581139716222 for Mine.q0 by Mine.q0e
name_quick tw15701104804261263541 for Mine.q0 by Mine.q0e
name_quick tw15920102053662751361 for Mine.q0 by Mine.q0e
name_quick tw15498128597317514836 for Mine.q0 by Mine.q0e
name_quick tw13836106707964606482 for Mine.q0 by Mine.q0e
name_quick tw8440747490006978169 for Mine.q0 by Mine.q0e
name_quick tw17829725999507705993 for Mine.q0 by Mine.q0e
name_quick tw18006409440473552071 for Mine.q0 by Mine.q0e
name_quick tw16297814365897035790 for Mine.q0 by Mine.q0e
name_quick tw17343619456529246877 for Mine.q0 by Mine.q0e
name_quick tw9350848240468389962 for Mine.q0 by Mine.q0e
name_quick tw18065558276027839462 for Mine.q0 by Mine.q0e
name_quick tw609188389730207533 for Mine.q0 by Mine.q0e
name_quick tw12563132767667160339 for Mine.q0 by Mine.q0e
name_quick tw7711452615488919027 for Mine.q0 by Mine.q0e
name_quick tw4843641827089283017 for Mine.q0 by Mine.q0e
name_quick tw18120629209088555669 for Mine.q0 by Mine.q0e
name_quick tw14434380255526016843 for Mine.q0 by Mine.q0e
name_quick tw17985008629564560134 for Mine.q0 by Mine.q0e
name_quick tw7129723298167978078 for Mine.q0 by Mine.q0e
name_quick tw16556635040526668686 for Mine.q0 by Mine.q0e
name_quick tw7516468897516933762 for Mine.q0 by Mine.q0e
name_quick tw7021741833601667750 for Mine.q0 by Mine.q0e
name_quick tw5241538419748033505 for Mine.q0 by Mine.q0e
name_quick tw14316845235256472916 for Mine.q0 by Mine.q0e
name_quick tw16386119837041148647 for Mine.q0 by Mine.q0e
name_quick tw32125505180736944 for Mine.q0 by Mine.q0e
name_quick tw11530960251990171236 for Mine.q0 by Mine.q0e
name_quick tw5247372507817124288 for Mine.q0 by Mine.q0e
name_quick tw7855089420762490742 for Mine.q0 by Mine.q0e
name_quick tw16030318193106254810 for Mine.q0 by Mine.q0e
name_quick tw10101999494309863606 for Mine.q0 by Mine.q0e
name_quick tw7553427835997088773 for Mine.q0 by Mine.q0e
name_quick tw3760782400048510190 for Mine.q0 by Mine.q0e
name_quick tw13616630657184822135 for Mine.q0 by Mine.q0e
name_quick tw12710719272205249155 for Mine.q0 by Mine.q0e
name_quick tw18035758070719383285 for Mine.q0 by Mine.q0e
name_quick tw2922496372404503314 for Mine.q0 by Mine.q0e
name_quick tw15054338622852568488 for Mine.q0 by Mine.q0e
name_quick tw760085674664267115 for Mine.q0 by Mine.q0e
name_quick tw1571525970667340249 for Mine.q0 by Mine.q0e
name_quick tw11033675696093874291 for Mine.q0 by Mine.q0e
name_quick tw4755274178508406947 for Mine.q0 by Mine.q0e
name_quick tw13382304668189889193 for Mine.q0 by Mine.q0e
name_quick tw17653004646769020513 for Mine.q0 by Mine.q0e
name_quick tw9114696974001155481 for Mine.q0 by Mine.q0e
name_quick tw17928460678236334441 for Mine.q0 by Mine.q0e
name_quick tw17681742821960346190 for Mine.q0 by Mine.q0e
name_quick tw8991271465348753454 for Mine.q0 by Mine.q0e
name_quick tw5894209790109822674 for Mine.q0 by Mine.q0e
name_quick tw10437852737349049725 for Mine.q0 by Mine.q0e
name_quick tw3982539368056108626 for Mine.q0 by Mine.q0e
name_quick tw18299318176601907439 for Mine.q0 by Mine.q0e
name_quick tw10259397474423778040 for Mine.q0 by Mine.q0e
name_quick tw7180789734964620610 for Mine.q0 by Mine.q0e
name_quick tw5190468931287076271 for Mine.q0 by Mine.q0e
name_quick tw14052625172931613010 for Mine.q0 by Mine.q0e
name_quick tw3714645259633495363 for Mine.q0 by Mine.q0e
name_quick tw8280902966108056345 for Mine.q0 by Mine.q0e
name_quick tw10520299828471107644 for Mine.q0 by Mine.q0e
name_quick tw12402469151261153630 for Mine.q0 by Mine.q0e
name_quick tw5918408856169897030 for Mine.q0 by Mine.q0e
name_quick tw3901454007326257275 for Mine.q0 by Mine.q0e
name_quick tw6289545609341232287 for Mine.q0 by Mine.q0e
name_quick tw11458031274623666664 for Mine.q0 by Mine.q0e
name_quick tw5710054287740053930 for Mine.q0 by Mine.q0e
name_quick tw4415004962190643827 for Mine.q0 by Mine.q0e
name_quick tw5982245163051267923 for Mine.q0 by Mine.q0e
name_quick tw9493338523305855925 for Mine.q0 by Mine.q0e
name_quick tw2731347336301545878 for Mine.q0 by Mine.q0e
name_quick tw15079570568197776302 for Mine.q0 by Mine.q0e
name_quick tw18353970254157654952 for Mine.q0 by Mine.q0e
name_quick tw13894027964990550046 for Mine.q0 by Mine.q0e
name_quick tw17818942874852778944 for Mine.q0 by Mine.q0e
name_quick tw449959116059086026 for Mine.q0 by Mine.q0e
name_quick tw4949131504047368242 for Mine.q0 by Mine.q0e
name_quick tw11272501757804577325 for Mine.q0 by Mine.q0e
name_quick tw17439562414921380943 for Mine.q0 by Mine.q0e
name_quick tw4702459420706113632 for Mine.q0 by Mine.q0e
name_quick tw13716987178763400830 for Mine.q0 by Mine.q0e
name_quick tw2213273442667393824 for Mine.q0 by Mine.q0e
name_quick tw8658224060292136572 for Mine.q0 by Mine.q0e
name_quick tw18412800569782317491 for Mine.q0 by Mine.q0e
name_quick tw6292513691559601718 for Mine.q0 by Mine.q0e
name_quick tw7701647234173394983 for Mine.q0 by Mine.q0e
name_quick tw10891374673656132551 for Mine.q0 by Mine.q0e
name_quick tw7812016160368023347 for Mine.q0 by Mine.q0e
name_quick tw17171572038397738114 for Mine.q0 by Mine.q0e
name_quick tw14418558680209585448 for Mine.q0 by Mine.q0e
name_quick tw12871359999669822966 for Mine.q0 by Mine.q0e
name_quick tw6228941402598205027 for Mine.q0 by Mine.q0e
name_quick tw15455218571567061681 for Mine.q0 by Mine.q0e
name_quick tw14041838388647156113 for Mine.q0 by Mine.q0e
name_quick tw12852908741553803730 for Mine.q0 by Mine.q0e
name_quick tw15677603190857477031 for Mine.q0 by Mine.q0e
name_quick tw2216653745450328011 for Mine.q0 by Mine.q0e
name_quick tw17060574320871606858 for Mine.q0 by Mine.q0e
name_quick tw2173964767726572953 for Mine.q0 by Mine.q0e
name_quick tw5130035320265681130 for Mine.q0 by Mine.q0e
name_quick tw13011302697564339574 for Mine.q0 by Mine.q0e
name_quick tw3680480896311115727 for Mine.q0 by Mine.q0e
name_quick tw2886379888193169899 for Mine.q0 by Mine.q0e
name_quick tw10631813990750979244 for Mine.q0 by Mine.q0e
name_quick tw16952772161966793742 for Mine.q0 by Mine.q0e
name_quick tw5591464991233176052 for Mine.q0 by Mine.q0e
name_quick tw3269771491018705632 for Mine.q0 by Mine.q0e
name_quick tw7359448382443188657 for Mine.q0 by Mine.q0e
name_quick tw16659048882521844205 for Mine.q0 by Mine.q0e
namespace Mine
open_top hd06 for PySem.Challenge.rw_dn0005_06
end Mine
namespace Mine
theorem off06 : True := by
  w_top off
  trivial
end Mine
end
section
open PySem PySem.W PyProof.Rows PySem.Calls PySem.Spec
set_option Elab.async false
set_option maxRecDepth 100000
set_option maxHeartbeats 3000000
namespace Mine
noncomputable def vv : Program := Mine.hd06.view_39
noncomputable def lv : List Str := looseW Mine.hd06.view_39
      [Str.ofString "Iterable", Str.ofString "Sized", Str.ofString "Container", Str.ofString "Collection",
        Str.ofString "Set", Str.ofString "Mapping", Str.ofString "MappingView", Str.ofString "KeysView",
        Str.ofString "ItemsView", Str.ofString "ValuesView", Str.ofString "nlargest", Str.ofString "chain",
        Str.ofString "repeat", Str.ofString "starmap", Str.ofString "itemgetter", Str.ofString "Counter"]
/-- the names that a top may bind -/
noncomputable def ls : List Str := lv ++ (recsOf Mine.hd06.view_39).map (·.name) ++ (litsOf Mine.hd06.view_39).map (·.1) ++ (clssOf Mine.hd06.view_39 lv).map (·.name)
noncomputable def vw : Program := topProg
noncomputable abbrev KK (w : World) : Frag := Mine.hd06.heap_39 w.params
theorem fill : PySem.Challenge.rw_dn0005_06 = PySem.Challenge.rw_dn0005_06 ∧ Mine.hd06.heap_39 = Mine.hd06.heap_39 := by
  k_fill
  exact ⟨rfl, rfl⟩
abbrev ek (e0 : Env) (L : Addr) : Env := { e0 with frame := some L, scope := { e0.scope with kind := .function } }
abbrev AK (l : Nat) (e : Env) (outer : List Env) : Around := { handled := none, depth := 400 + 10 * l, frames := some (e :: outer), guards := some [], units := 1000 + 100 * l }
/-- a mark: the walk stops here, the text goes on by hand -/
def Halt (p : Prop) : Prop := p
theorem halt {p : Prop} (h : Halt p) : p := h
theorem ek_eq {e : Env} {L : Addr} (hf : e.frame = some L) (hk : e.scope.kind = .function) : ek e L = e := by
  cases e with
  | mk scope locals globals cells qual func code frame builtins =>
    cases scope
    simp only at hf hk
    subst hf hk
    rfl
theorem codeAny_weak {M : Model} {A A' : Around} {c : Code} {R : Result → Shared → Prop} {s : Shared} (h1 : A.handled = A'.handled) (h2 : A.depth ≤ A'.depth) (h3 : A.frames = A'.frames) (h4 : A.guards = A'.guards) (h5 : A.units ≤ A'.units)
    (h : codeAny M A' c R s) : codeAny M A c R s := fun Γ p hc hΓ => h Γ p hc ⟨hΓ.1.trans h1, Nat.le_trans hΓ.2.1 h2, fun l hl => hΓ.2.2.1 l (h3.trans hl), fun g hg => hΓ.2.2.2.1 g (h4.trans hg), Nat.le_trans hΓ.2.2.2.2 h5⟩
/-- a spec at the level l serves a call from any place below it -/
theorem use_at {prog : Program} {w : World} (l : Nat) {A : Around} {env : Env} {outer : List Env} {L : Addr} {f : Value} {pos : List Value} {kw : List (Str × Value)} {Q : Value → Shared → Prop} {E : Value → Shared → Prop} {s : Shared}
    (hA : A.frames = some (env :: outer)) (hf : env.frame = some L) (hk : env.scope.kind = .function) (hh : A.handled = none) (hg : A.guards = some []) (hd : A.depth ≤ 400 + 10 * l) (hu : A.units ≤ 1000 + 100 * l)
    (h : codeAny (model prog w) (AK l (ek env L) outer) (.call f ⟨pos, kw⟩) (fun r s' => match r with | .ok (.ret v) => Q v s' | .ok _ => False | .error e => E e s') s) : wpAny (model prog w) A (call f pos kw) Q E s :=
  wpAny_call (codeAny_weak hh hd (by rw [hA, ek_eq hf hk]) hg hu h)
theorem news_sub {h₀ h : Heap} {L : Addr} {l l' : List (Addr × Obj)} (N : News h₀ L h l) (hs : ∀ p ∈ l', p ∈ l) : News h₀ L h l' := fun p hp => N p (hs p hp)
theorem rest_ind {prog : Program} {w : World} {A : Around} {h₀ : Heap} {L : Addr} {m : Str → Option Value} {env : Env} {elt : PySem.Expr} {x : Str} {scope : Scope} {cl : List (Str × Addr)} {s : Shared} {S : List (Addr × Obj) → Prop} {P : Nat → Value → Prop}
    {Fin : List Value → List (Addr × Obj) → Prop} (J : Nat → List Value → List (Addr × Obj) → Prop) {n : Nat}
    (el : ∀ i ys news v I oI C oC D m₂ h tk (E' : Value → Shared → Prop), i < n → J i ys news → P i v → LCg.NsObj oC m₂ → m₂ x = some v → Fr h₀ L h m → News h₀ L h ((I, oI) :: (C, oC) :: (D, LCg.lst ys) :: news) → LCg.Off3 I C D news → ((@Ne Nat I C) ∧ (@Ne Nat I D) ∧ (@Ne Nat C D)) →
      wpAny (model prog w) A (eval elt (compEnvC scope cl C env)) (LCg.CompEnd h₀ L m { s with heap := h, toks := tk } I oI C oC D (LCg.lst ys) S (fun y news' => J (i + 1) (ys ++ [y]) news')) E' { s with heap := h, toks := tk })
    (fin : ∀ ys news, J n ys news → Fin ys news) : ∀ k i ys news, i + k = n → J i ys news → LCg.CompRest prog w A h₀ L m env elt x scope cl s S P Fin k i ys news
  | 0, i, ys, news, e, j => by
    have : i = n := by omega
    subst this
    exact LCg.CompRest.zero (fin _ _ j)
  | k + 1, i, ys, news, e, j => LCg.CompRest.succ fun v I oI C oC D m₂ h tk E' hP hC hx F N off ne =>
      wpAny_mono (el i ys news v I oI C oC D m₂ h tk E' (by omega) j hP hC hx F N off ne) (fun y s' ⟨h', tk', news', e1, F', N', off', hS, hj⟩ => ⟨h', tk', news', e1, F', N', off', hS, rest_ind J el fin k (i + 1) _ _ (by omega) hj⟩) fun _ _ e => e
theorem isDict_nil {prog : Program} {w : World} : (dictOf [] 0).IsDictOf (strKind prog w) [] := ⟨#[], 0, ⟨rfl, rfl, rfl⟩, rfl, by intro e he; simp at he, by first | exact List.Forall₂.nil | constructor, List.nodup_nil⟩
/-- the end of the pairs of a display: what stands then, and what the made dict is -/
def DictDone (prog : Program) (w : World) (h₀ : Heap) (L : Addr) (m : Str → Option Value) (d : Addr) (Q : Value → Shared → Prop) (vs : List (Value × Value)) (s₁ : Shared) : Prop :=
  ∃ kvs news, Carries (strKind prog w) vs kvs ∧ Fr h₀ L s₁.heap m ∧ News h₀ L s₁.heap ((d, dictOf [] 0) :: news) ∧ (∀ p ∈ news, p.1 ≠ d) ∧
    ∀ h' o tk, o.IsDictOf (strKind prog w) (merged [] kvs) → Fr h₀ L h' m → News h₀ L h' ((d, o) :: news) → Q (.ref d) { s₁ with heap := h', toks := tk }
theorem Dict_K {prog : Program} {w : World} {A : Around} {E : Value → Shared → Prop} {s : Shared} {h₀ : Heap} {L : Addr} {m : Str → Option Value} {news : List (Addr × Obj)} {env : Env} {keys : List (Option PySem.Expr)} {values : List PySem.Expr} {pos : Pos} {pairs : List (Sem Value × Sem Value)} {Q : Value → Shared → Prop}
    (F : Fr h₀ L s.heap m) (N : News h₀ L s.heap news)
    (hshape : (evalEachOpt keys env).zip ((evalEach values env).map fun v => do let x ← v; standAt pos; pure x) = pairs.map fun p => (some p.1, p.2)) (h0 : pairs ≠ []) (hlen : pairs.length ≤ 15)
    (h : ∀ d h₁, Fr h₀ L h₁ m → News h₀ L h₁ ((d, dictOf [] 0) :: news) → (∀ p ∈ news, p.1 < d) → wpAny (model prog w) A (evalPairs pairs) (DictDone prog w h₀ L m d Q) E { s with heap := h₁ }) :
    wpAny (model prog w) A (eval (.Dict keys values pos) env) Q E s := by
  refine wpAny_Dict_pairs (knd := strKind prog w) hshape h0 hlen (wpAny_mono (h s.heap.objs.size _ (F.push _) (N.push F _) (fun p hp => Heap.lt_size (N p hp).1)) (fun vs s₁ h₁ => ?_) fun _ _ e => e)
  obtain ⟨kvs, nw, hc, F₁, N₁, hne, k⟩ := h₁
  have hd := (N₁ _ (.head _))
  refine ⟨kvs, hc, (Heap.dictOf_iff).mpr ⟨_, hd.1, isDict_nil⟩, fun h' hdict hs => ?_⟩
  obtain ⟨o, ho, hio⟩ := (Heap.dictOf_iff).mp hdict
  refine k h' o _ hio (F₁.change hs hd.2.1 hd.2.2) fun p hp => ?_
  rcases List.mem_cons.mp hp with rfl | hp
  · exact ⟨ho, hd.2⟩
  · have z := N₁ p (.tail _ hp)
    exact ⟨(hs.2 p.1 (hne p hp)).trans z.1, z.2⟩
theorem then_stand {M : Model} {A : Around} {E : Value → Shared → Prop} {s : Shared} {x : Sem Value} {pos : Pos} {Q : Value → Shared → Prop} (h : wpAny M A x Q E s) : wpAny M A (do let v ← x; standAt pos; pure v) Q E s :=
  wpAny_bind (wpAny_mono h (fun _ _ q => wpAny_bind (wpAny_standAt (wpAny_pure q))) fun _ _ e => e)
theorem Dict2_K {prog : Program} {w : World} {A : Around} {E : Value → Shared → Prop} {s : Shared} {h₀ : Heap} {L : Addr} {m : Str → Option Value} {news : List (Addr × Obj)} {env : Env} {k1 k2 v1 v2 : PySem.Expr} {pos : Pos} {Q : Value → Shared → Prop}
    (F : Fr h₀ L s.heap m) (N : News h₀ L s.heap news)
    (h : ∀ d h₁, Fr h₀ L h₁ m → News h₀ L h₁ ((d, dictOf [] 0) :: news) → (∀ p ∈ news, p.1 < d) →
      wpAny (model prog w) A (eval k1 env) (fun a s₁ => wpAny (model prog w) A (eval v1 env) (fun b s₂ => wpAny (model prog w) A (eval k2 env) (fun c s₃ => wpAny (model prog w) A (eval v2 env) (fun e s₄ => DictDone prog w h₀ L m d Q [(a, b), (c, e)] s₄) E s₃) E s₂) E s₁) E { s with heap := h₁ }) :
    wpAny (model prog w) A (eval (.Dict [some k1, some k2] [v1, v2] pos) env) Q E s := by
  refine Dict_K (pairs := [(eval k1 env, do let x ← eval v1 env; standAt pos; pure x), (eval k2 env, do let x ← eval v2 env; standAt pos; pure x)]) F N rfl (by simp) (Nat.le_of_ble_eq_true rfl) fun d h₁ F₁ N₁ l₁ => ?_
  refine evalPairs_cons (wpAny_mono (h d h₁ F₁ N₁ l₁) (fun a s₁ h => then_stand (wpAny_mono h (fun b s₂ h => evalPairs_cons (wpAny_mono h (fun c s₃ h => then_stand (wpAny_mono h (fun e s₄ h => evalPairs_nil h) fun _ _ e => e)) fun _ _ e => e)) fun _ _ e => e)) fun _ _ e => e)
end Mine
end
section
open PySem PySem.W PyProof.Rows PySem.Calls PySem.Spec
set_option Elab.async false
set_option maxRecDepth 100000
set_option maxHeartbeats 3000000
namespace Mine
theorem fill2 : PySem.Challenge.rw_dn0005_06 = PySem.Challenge.rw_dn0005_06 ∧ Mine.hd06.heap_39 = Mine.hd06.heap_39 := by
  k_fill
  exact ⟨rfl, rfl⟩
def nmL : List Str := [Str.ofString "self", Str.ofString "iterable", Str.ofString "a", Str.ofString "b"]
def nm (n : Int) : Str := nmL.getD (n % 4).toNat (Str.ofString "self")
theorem item4 {prog : Program} {w : World} {A : Around} {E : Value → Shared → Prop} {s : Shared} {h₀ : Heap} {L l : Addr} {news : List (Addr × Obj)} {value slice : PySem.Expr} {v0 v1 v2 v3 : Value} {n : Nat} {k : Int} {u : Tok} {Q : Value → Shared → Prop}
   (N : News h₀ L s.heap news) (hm : (l, listOf #[v0, v1, v2, v3] n) ∈ news)
   (hs : subscripted slice false (.ref l) (.int (Int.fmod k 4) u) = operate [.ref l, .int (Int.fmod k 4) u] (getItem (.ref l) (.int (Int.fmod k 4) u)))
   (h0 : k % 4 = 0 → Q v0 s) (h1 : k % 4 = 1 → Q v1 s) (h2 : k % 4 = 2 → Q v2 s) (h3 : k % 4 = 3 → Q v3 s) :
   wpAny (model prog w) A (subscriptTail value slice (.ref l) (.int (Int.fmod k 4) u)) Q E s := by
  have hl := News.isList N hm
  have e : Int.fmod k 4 = k % 4 := Int.fmod_eq_emod_of_nonneg k (by decide)
  have b := Int.emod_nonneg k (show (4 : Int) ≠ 0 by decide)
  have b' := Int.emod_lt_of_pos k (show (0 : Int) < 4 by decide)
  generalize hq : k % 4 = q at *
  rw [e] at hs ⊢
  have c : q = 0 ∨ q = 1 ∨ q = 2 ∨ q = 3 := by omega
  rcases c with rfl | rfl | rfl | rfl
  · exact tail_any hl.typeIs slot_list_getitem.lookup (wpAny_getItem_list hl (by decide) (by decide) rfl (h0 rfl)) hs
  · exact tail_any hl.typeIs slot_list_getitem.lookup (wpAny_getItem_list hl (by decide) (by decide) rfl (h1 rfl)) hs
  · exact tail_any hl.typeIs slot_list_getitem.lookup (wpAny_getItem_list hl (by decide) (by decide) rfl (h2 rfl)) hs
  · exact tail_any hl.typeIs slot_list_getitem.lookup (wpAny_getItem_list hl (by decide) (by decide) rfl (h3 rfl)) hs
local macro_rules | `(tactic| walk_at "subscriptTail") => `(tactic| (k_here; (with_reducible show wpAny _ _ (subscriptTail _ _ (Value.ref _) (Value.int (Int.fmod _ _) _)) _ _ _); (with_unfolding_all refine' item4 ?k1 ?k2 ?k3 ?_ ?_ ?_ ?_; (case k1 => k_asm); (case k2 => k_mem); (case k3 => with_unfolding_all rfl); k_whole)))
theorem nm_of {k : Int} {i : Nat} (h : k % 4 = (i : Int)) : nmL.getD i (Str.ofString "self") = nm k := by
  unfold nm; rw [h]; rfl
section
variable {prog : Program} {w : World} {A₀ : Around} {base h₀ : Heap} {outer : List Env} {e0 : Env} {L : Addr} {m mg mb : Str → Option Value} {mean : ExcName → Option Value} {s : Shared} {R : Result → Shared → Prop} {rest : List (Addr × Obj)}
theorem spec_name {n : Int} {t : Tok}
   (B : Below A₀ base outer h₀) (F : Fr h₀ L s.heap m) (X : (Mine.hd06.heap_39 w.params).In h₀) (N : News h₀ L s.heap rest) (T : Top vw ls mean mg mb h₀)
   (k : ∀ h' x tx tk, x = nm n → Fr h₀ L h' m → News h₀ L h' rest → R (.ok (.ret (.str x tx))) {s with heap := h', toks := tk})
   : codeAny (model prog w) (AK 20 (ek e0 L) outer) (.call (.ref 1104) ⟨[.int n t], []⟩) R s := by
  k_enter
  k_steps
  all_goals exact k _ _ _ _ (by rw [← nm_of (by assumption)]; rfl) (by assumption) (news_sub (by assumption) fun p hp => .tail _ hp)
theorem call_name {A : Around} {env : Env} {E Q} {n : Int} {t : Tok} (hA : A.frames = some (env :: outer)) (hf : env.frame = some L) (hk : env.scope.kind = .function) (hh : A.handled = none) (hg : A.guards = some []) (hd : A.depth ≤ 600) (hu : A.units ≤ 3000)
   (B : Below A₀ base outer h₀) (F : Fr h₀ L s.heap m) (X : (Mine.hd06.heap_39 w.params).In h₀) (N : News h₀ L s.heap rest) (T : Top vw ls mean mg mb h₀)
   (k : ∀ h' tx tk, Fr h₀ L h' m → News h₀ L h' rest → Q (.str (nm n) tx) {s with heap := h', toks := tk})
   : wpAny (model prog w) A (call (.ref 1104) [.int n t] []) Q E s :=
  use_at 20 hA hf hk hh hg hd hu (spec_name B F X N T fun h' x tx tk e F' N' => by subst e; exact k h' tx tk F' N')
end
end Mine
end
section
open PySem PySem.W PyProof.Rows PySem.Calls PySem.Spec
set_option Elab.async false
set_option maxRecDepth 100000
set_option maxHeartbeats 3000000
namespace Mine
theorem fill3 : PySem.Challenge.rw_dn0005_06 = PySem.Challenge.rw_dn0005_06 ∧ Mine.hd06.heap_39 = Mine.hd06.heap_39 := by
  k_fill
  exact ⟨rfl, rfl⟩
local macro_rules | `(tactic| walk_at "CompSrc") => `(tactic| (k_here; refine halt ?_))
local macro_rules | `(tactic| walk_at "call ref") => `(tactic| (k_here; refine halt ?_))
local macro_rules | `(tactic| walk_at "CompEnd") => `(tactic| (refine halt ?_))
local macro_rules | `(tactic| walk_at "evalPairs cons") => `(tactic| (refine evalPairs_cons ?_))
local macro_rules | `(tactic| walk_at "evalPairs nil") => `(tactic| (refine evalPairs_nil ?_))
/-- the names of a listed form, whatever their tokens -/
def Names (n : Int) (i : Nat) (ys : List Value) : Prop := ys.length = i ∧ ∀ j, j < i → ∃ t, ys[j]? = some (.str (nm (Int.fdiv n (4 ^ j))) t)
theorem Names.nil (n : Int) : Names n 0 [] := ⟨rfl, fun j h => by omega⟩
theorem Names.snoc {n : Int} {i : Nat} {ys : List Value} {t : Tok} (h : Names n i ys) : Names n (i + 1) (ys ++ [.str (nm (Int.fdiv n (4 ^ i))) t]) := by
  refine ⟨by rw [List.length_append, h.1]; rfl, fun j hj => ?_⟩
  rcases Nat.lt_or_ge j i with q | q
  · obtain ⟨t', e⟩ := h.2 j q
    exact ⟨t', by rw [List.getElem?_append_left (by rw [h.1]; exact q)]; exact e⟩
  · have : j = i := by omega
    subst this
    exact ⟨t, by rw [List.getElem?_append_right (by rw [h.1]; exact Nat.le_refl _), h.1, Nat.sub_self]; rfl⟩
def howMany (n : Int) : Nat := (Int.fmod (n + 2) 4).toNat
theorem fmod4_lo (n : Int) : 0 ≤ Int.fmod n 4 := Int.fmod_nonneg_of_pos n (by decide)
theorem fmod4_hi (n : Int) : Int.fmod n 4 < 4 := Int.fmod_lt_of_pos n (by decide)
section
variable {prog : Program} {w : World} {A₀ : Around} {base h₀ : Heap} {outer : List Env} {e0 : Env} {L : Addr} {m mg mb : Str → Option Value} {mean : ExcName → Option Value} {s : Shared} {R : Result → Shared → Prop} {rest : List (Addr × Obj)}
end
theorem Dict2_L {prog : Program} {w : World} {A : Around} {E : Value → Shared → Prop} {s : Shared} {h₀ : Heap} {L : Addr} {m : Str → Option Value} {news : List (Addr × Obj)} {env : Env} {k1 k2 v1 v2 : PySem.Expr} {pos : Pos} {Q : Value → Shared → Prop}
    (hlow : sysModules < h₀.objs.size) (F : Fr h₀ L s.heap m) (N : News h₀ L s.heap news)
    (h : ∀ d h₁, Fr h₀ L h₁ m → News h₀ L h₁ ((d, dictOf [] 0) :: news) → (∀ p ∈ news, p.1 < d) → (d == sysModules) = false →
      wpAny (model prog w) A (eval k1 env) (fun a s₁ => wpAny (model prog w) A (eval v1 env) (fun b s₂ => wpAny (model prog w) A (eval k2 env) (fun c s₃ => wpAny (model prog w) A (eval v2 env) (fun e s₄ => DictDone prog w h₀ L m d Q [(a, b), (c, e)] s₄) E s₃) E s₂) E s₁) E { s with heap := h₁ }) :
    wpAny (model prog w) A (eval (.Dict [some k1, some k2] [v1, v2] pos) env) Q E s := by
  refine wpAny_Dict_pairs (knd := PySem.strKind prog w) (pairs := [(eval k1 env, do let x ← eval v1 env; standAt pos; pure x), (eval k2 env, do let x ← eval v2 env; standAt pos; pure x)]) rfl (by simp) (Nat.le_of_ble_eq_true rfl) (wpAny_mono (evalPairs_cons (wpAny_mono (h s.heap.objs.size _ (F.push _) (N.push F _) (fun p hp => Heap.lt_size (N p hp).1) (F.notModules hlow)) (fun a s₁ h => then_stand (wpAny_mono h (fun b s₂ h => evalPairs_cons (wpAny_mono h (fun c s₃ h => then_stand (wpAny_mono h (fun e s₄ h => evalPairs_nil h) fun _ _ e => e)) fun _ _ e => e)) fun _ _ e => e)) fun _ _ e => e)) (fun vs s₁ h₁ => ?_) fun _ _ e => e)
  obtain ⟨kvs, nw, hc, F₁, N₁, hne, k⟩ := h₁
  have hd := (N₁ _ (.head _))
  refine ⟨kvs, hc, (Heap.dictOf_iff).mpr ⟨_, hd.1, isDict_nil⟩, fun h' hdict hs => ?_⟩
  obtain ⟨o, ho, hio⟩ := (Heap.dictOf_iff).mp hdict
  refine k h' o _ hio (F₁.change hs hd.2.1 hd.2.2) fun p hp => ?_
  rcases List.mem_cons.mp hp with rfl | hp
  · exact ⟨ho, hd.2⟩
  · have z := N₁ p (.tail _ hp)
    exact ⟨(hs.2 p.1 (hne p hp)).trans z.1, z.2⟩
section
variable {prog : Program} {w : World} {A₀ : Around} {base h₀ : Heap} {outer : List Env} {e0 : Env} {L : Addr} {m mg mb : Str → Option Value} {mean : ExcName → Option Value} {s : Shared} {R : Result → Shared → Prop} {rest : List (Addr × Obj)}
/-- what a table holds -/
def tab (n : Int) (t1 t2 : Tok) : List (Str × Value) := [(nm n, .int n t1), (nm (n + 1), .int (Int.fdiv (-n) 3) t2)]
theorem nm_ne (n : Int) : nm n ≠ nm (n + 1) := by
  have a := Int.emod_nonneg n (show (4 : Int) ≠ 0 by decide)
  have b := Int.emod_lt_of_pos n (show (0 : Int) < 4 by decide)
  have c : n % 4 = 0 ∨ n % 4 = 1 ∨ n % 4 = 2 ∨ n % 4 = 3 := by omega
  unfold nm
  rcases c with c | c | c | c
  · rw [c, show (n + 1) % 4 = 1 by omega]; decide
  · rw [c, show (n + 1) % 4 = 2 by omega]; decide
  · rw [c, show (n + 1) % 4 = 3 by omega]; decide
  · rw [c, show (n + 1) % 4 = 0 by omega]; decide
theorem merged_tab (n : Int) (t1 t2 : Tok) : merged [] (tab n t1 t2) = tab n t1 t2 := by
  unfold merged tab
  simp only [List.foldl_cons, List.foldl_nil, stored, List.any_nil, Bool.false_eq_true, if_false, List.nil_append]
  rw [if_neg (by simp [nm_ne n])]
  rfl
local macro_rules | `(tactic| walk_at "use name") => `(tactic| (unfold Halt; (refine call_name rfl rfl rfl rfl rfl (Nat.le_of_ble_eq_true rfl) (Nat.le_of_ble_eq_true rfl) (by k_asm) (by k_asm) (by k_asm) (by k_asm) (by k_asm) ?_); intro h' tx' tk' F' N'; dsimp only))
theorem spec_table {n : Int} {t : Tok}
   (B : Below A₀ base outer h₀) (F : Fr h₀ L s.heap m) (X : (Mine.hd06.heap_39 w.params).In h₀) (N : News h₀ L s.heap rest) (T : Top vw ls mean mg mb h₀)
   (k : ∀ h' D o t1 t2 tk, (D == sysModules) = false → o.IsDictOf (strKind prog w) (tab n t1 t2) → Fr h₀ L h' m → News h₀ L h' ((D, o) :: rest) → R (.ok (.ret (.ref D))) {s with heap := h', toks := tk})
   : codeAny (model prog w) (AK 19 (ek e0 L) outer) (.call (.ref 1116) ⟨[.int n t], []⟩) R s := by
  k_enter
  k_steps
  refine Dict2_L (modules_low (TopRead.nolimit (by k_asm))) (by k_asm) (by k_asm) ?_
  intro d h1 F1 N1 l1 hs1
  dsimp only
  k_steps
  walk_at "use name"
  k_steps
  walk_at "use name"
  k_steps
  refine ⟨tab n _ _, rest, ⟨strKind_is _ _ _ _, rfl, strKind_is _ _ _ _, rfl, trivial⟩, by assumption, by assumption, fun p hp => Nat.ne_of_lt (l1 p hp), ?_⟩
  intro h' o tk ho F' N'
  rw [merged_tab] at ho
  dsimp only
  k_steps
  exact k _ _ _ _ _ _ hs1 ho (by assumption) (by assumption)
end
end Mine
end
section
open PySem PySem.W PyProof.Rows PySem.Calls PySem.Spec
set_option Elab.async false
set_option maxRecDepth 100000
set_option maxHeartbeats 3000000
namespace Mine
theorem fillS3 : PySem.Challenge.rw_dn0005_06 = PySem.Challenge.rw_dn0005_06 ∧ Mine.hd06.heap_39 = Mine.hd06.heap_39 := by
  k_fill
  exact ⟨rfl, rfl⟩
theorem off1_mem {D : Addr} : ∀ {l : List (Addr × Obj)}, LCg.Off1 D l → ∀ p ∈ l, p.1 ≠ D
  | [], _, _, h => nomatch h
  | _ :: _, x, p, h => by
    rcases List.mem_cons.mp h with rfl | h
    · exact x.1
    · exact off1_mem x.2 p h
local macro_rules | `(tactic| walk_at "CompSrc") => `(tactic| (k_here; refine halt ?_))
local macro_rules | `(tactic| walk_at "call ref") => `(tactic| (k_here; refine halt ?_))
local macro_rules | `(tactic| walk_at "CompEnd") => `(tactic| (refine halt ?_))
section
variable {prog : Program} {w : World} {A₀ : Around} {base h₀ : Heap} {outer : List Env} {e0 : Env} {L : Addr} {m mg mb : Str → Option Value} {mean : ExcName → Option Value} {s : Shared} {R : Result → Shared → Prop} {rest : List (Addr × Obj)}
/-- the listed form; the list lies off the other objects -/
theorem spec_listed2 {n : Int} {t : Tok}
   (B : Below A₀ base outer h₀) (F : Fr h₀ L s.heap m) (X : (Mine.hd06.heap_39 w.params).In h₀) (N : News h₀ L s.heap rest) (T : Top vw ls mean mg mb h₀)
   (k : ∀ h' D ys tk, Names n (howMany n) ys → Fr h₀ L h' m → News h₀ L h' ((D, LCg.lst ys) :: rest) → (∀ p ∈ rest, p.1 ≠ D) → R (.ok (.ret (.ref D))) {s with heap := h', toks := tk})
   : codeAny (model prog w) (AK 19 (ek e0 L) outer) (.call (.ref 1109) ⟨[.int n t], []⟩) R s := by
  have b1 := fmod4_lo (n + 2)
  have b2 := fmod4_hi (n + 2)
  k_enter
  k_steps
  unfold Halt
  refine LCg.CompSrc.range (by rfl) (by k_asm) (by k_asm) (by assumption) (small_one (by omega) (by omega) (by omega) (by omega)) (rangeSize_nat _ _) (by rw [PySem.sizeLine_eq]; omega) ?_
  intro g'
  refine rest_ind (fun i ys nw => Names n i ys ∧ nw = _) ?_ ?_ _ 0 [] _ (Nat.zero_add _) ⟨Names.nil n, rfl⟩
  · rintro i ys news v I oI C oC D m₂ h tk E' hi ⟨hE, rfl⟩ ⟨t', rfl⟩ hC hx F' N' off' ne'
    (try simp only [LCg.Off3] at off')
    dsimp only
    have hi' : (i : Int) < 4 := by omega
    have hq : (4 : Int) ^ ((0 : Int) + (i : Int)).toNat ≠ 0 := Int.pow_ne_zero (by decide)
    k_steps
    refine floordiv_int hq ?_ (Or.inl (PyProof.noPylong_small (by
      have c : i = 0 ∨ i = 1 ∨ i = 2 ∨ i = 3 := by omega
      rcases c with rfl | rfl | rfl | rfl <;> decide)))
    k_steps
    unfold Halt
    refine call_name (by exact rfl) (by exact rfl) (by exact rfl) (by exact rfl) (by exact rfl) (Nat.le_of_ble_eq_true rfl) (Nat.le_of_ble_eq_true rfl) (by k_asm) (by k_asm) (by k_asm) (by k_asm) (by k_asm) ?_
    intro h2 tx tk2 F2 N2
    refine LCg.CompEnd.intro (by assumption) N2 _ (fun p hp => hp) off' trivial ⟨?_, rfl⟩
    have e : ((0 : Int) + (i : Int)).toNat = i := by omega
    rw [e]
    exact hE.snoc
  · rintro ys news ⟨hE, rfl⟩
    dsimp only
    k_steps
    rename_i Df hf tkf Ff Nf off kF kN Tc kX
    exact k _ _ ys _ (by rw [Int.sub_zero] at hE; exact hE) kF (news_sub kN fun p hp => by
      rcases List.mem_cons.mp hp with rfl | hp
      · exact .head _
      · exact .tail _ (.tail _ hp)) (off1_mem off.2)
end
end Mine
end
section
open PySem PySem.W PyProof.Rows PySem.Calls PySem.Spec
set_option Elab.async false
set_option maxRecDepth 100000
set_option maxHeartbeats 3000000
namespace Mine
section
variable {prog : Program} {w : World} {A : Around} {E : Value → Shared → Prop} {s : Shared} {K : Frag}
theorem isi_hook {v t mc : Value} {C f : Addr} {b : Bool} {Q : Value → Shared → Prop} (X : K.In s.heap) (ht : ∀ M, Looks M s.heap (typeOf v) t) (hx : v ≠ .builtin "__main__.__loader__#opaque") (hne : (t == Value.ref C) = false)
    (hm : typeIn K (.ref C) = some mc) (hm1 : (mc == Value.type "type") = false) (hm2 : (mc == Value.type "types.UnionType") = false) (htup : instIn K (.ref C) (.type "tuple") = some false)
    (hs : specialIn K (.ref C) "__instancecheck__" = some (some (.ref f))) (hf : typeIn K (.ref f) = some (.type "function")) (hu : A.units + 1 < cLine)
    (h : wpAny (model prog w) A.in1 (call (.ref f) [.ref C, v] []) (fun r s' => r = .bool b ∧ Q (.bool b) s') E s) :
    wpAny (model prog w) A (call (.builtin "isinstance") [v, .ref C]) Q E s := by
  refine call_isinstance_of ?_ hx
  obtain ⟨hh, g, d, tt, os⟩ := s
  unfold Builtin.«isinstance.nested»
  refine wpAny_bind ((ht _).at ?_)
  rw [if_neg (by rw [hne]; exact Bool.false_ne_true)]
  refine wpAny_bind ((looks_typeIn X hm).at ?_)
  rw [if_neg (by rw [hm1]; exact Bool.false_ne_true)]
  unfold Builtin.Builtins.unionMembers
  refine wpAny_bind (wpAny_bind ((looks_typeIn X hm).at ?_))
  rw [if_neg (by rw [hm2]; exact Bool.false_ne_true)]
  refine wpAny_pure ?_
  refine wpAny_bind ((looks_instIn X htup).at ?_)
  rw [if_neg Bool.false_ne_true]
  refine wpAny_bind (wpAny_cRoom hu ?_)
  unfold callSpecial?
  refine wpAny_bind (wpAny_bind ((looks_specialIn X hs).at ?_))
  dsimp only
  refine wpAny_holding (wpAny_bind ((bind_fn X (.ref C) hf).at ?_))
  dsimp only
  refine wpAny_bind (wpAny_mono h (fun r s' hr => ?_) fun _ _ e => e)
  obtain ⟨rfl, hq⟩ := hr
  refine wpAny_pure ?_
  dsimp only
  refine wpAny_bind (wpAny_rule ?_)
  refine wpAny_bind (wpAny_holding (wpAny_truthy_bool ?_))
  exact wpAny_bind (wpAny_letGo (wpAny_pure hq))
end
end Mine
end
section
open PySem PySem.W PyProof.Rows PySem.Calls PySem.Spec
set_option Elab.async false
set_option maxRecDepth 100000
set_option maxHeartbeats 3000000
namespace Mine
section
variable {prog : Program} {w : World} {A : Around} {E : Value → Shared → Prop} {h : Heap} {g : Array GenState} {d : Drawn} {t : Nat} {os : OsState} {a : Addr} {o : Obj}
theorem class_at_dict {b : Bool} {Q : Value → Shared → Prop} (hx : h.get? a = some o) (hc : o.cls = .type "dict") (hq : ∀ t', Q (.type "dict") ⟨h, g, d, t', os⟩) : wpAny (model prog w) A (getAttr (.ref a) (Str.ofString "__class__") b) Q E ⟨h, g, d, t, os⟩ := by
  have hT : ∀ t, (⟨h, g, d, t, os⟩ : Shared).TypeIs (.ref a) "dict" := fun t => ⟨_, hx, hc⟩
  have hT' := hT (t + 1)
  have f2 := F.slot_dict_getattribute.lookup
  have f3 := F.slot_dict_getattribute.bind (.ref a)
  have q' := hq (t + 1)
  unfold getAttr
  repeat (any_goals (first | assumption | wp_step))
  rw [if_neg (by cases b <;> decide)]
  unfold boundAndCalled
  repeat (any_goals (first | assumption | wp_step))
  refine class_call_dict hx hc ?_
  repeat (any_goals (first | assumption | wp_step))
theorem class_at_list {b : Bool} {Q : Value → Shared → Prop} (hx : h.get? a = some o) (hc : o.cls = .type "list") (hq : ∀ t', Q (.type "list") ⟨h, g, d, t', os⟩) : wpAny (model prog w) A (getAttr (.ref a) (Str.ofString "__class__") b) Q E ⟨h, g, d, t, os⟩ := by
  have hT : ∀ t, (⟨h, g, d, t, os⟩ : Shared).TypeIs (.ref a) "list" := fun t => ⟨_, hx, hc⟩
  have hT' := hT (t + 1)
  have f2 := F.slot_list_getattribute.lookup
  have f3 := F.slot_list_getattribute.bind (.ref a)
  have q' := hq (t + 1)
  unfold getAttr
  repeat (any_goals (first | assumption | wp_step))
  rw [if_neg (by cases b <;> decide)]
  unfold boundAndCalled
  repeat (any_goals (first | assumption | wp_step))
  refine class_call_list hx hc ?_
  repeat (any_goals (first | assumption | wp_step))
end
end Mine
end
section
open PySem PySem.W PyProof.Rows PySem.Calls PySem.Spec
set_option Elab.async false
set_option maxRecDepth 100000
set_option maxHeartbeats 3000000
namespace Mine
theorem entry_tsc : entryFor table "type.__subclasscheck__" = some Builtin.«type.__subclasscheck__» := entryFor_of_tree (by kernel_rfl)
theorem plain_tsc : plainId "type.__subclasscheck__" = true := by decide +kernel
theorem kind_tsc : builtinKind "type.__subclasscheck__" = some .method := by decide +kernel
theorem split_tsc : splitId "type.__subclasscheck__" = some ("type", "__subclasscheck__") := by decide +kernel
section
variable {prog : Program} {w : World} {A : Around} {E : Value → Shared → Prop} {s : Shared} {K : Frag}
theorem tsc_call {C : Addr} {n : String} {b : Bool} {Q : Value → Shared → Prop} (X : K.In s.heap) (hi : instIn K (.ref C) (.type "type") = some true) (hS : ∀ M, Looks M s.heap (isSubtype (.type n) (.ref C)) b) (h : Q (.bool b) s) :
    wpAny (model prog w) A (call (.builtin "type.__subclasscheck__") [.ref C, .type n] []) Q E s := by
  obtain ⟨hh, g, d, t, os⟩ := s
  have L1 := looks_instIn (M := model prog w) X hi
  have L2 := hS (model prog w)
  refine wpAny_call (codeAny_call_builtin plain_tsc entry_tsc ?_)
  unfold checkBuiltinCall
  rw [kind_tsc, split_tsc]
  dsimp only
  repeat lk
  exact h
end
end Mine
end
section
open PySem PySem.W PyProof.Rows PySem.Calls PySem.Spec Builtin Builtin.ObjectAttr
set_option Elab.async false
set_option maxRecDepth 100000
set_option maxHeartbeats 3000000
namespace Mine
theorem kind_dict_ga : builtinKind "dict.__getattribute__" = some .slot := by decide +kernel
theorem split_dict_ga : splitId "dict.__getattribute__" = some ("dict", "__getattribute__") := by decide +kernel
section
variable {prog : Program} {w : World} {A : Around} {E : Value → Shared → Prop} {s : Shared} {K : Frag}
/-- an attribute of an instance of a class below dict that has no hook of its own: what the look-up finds, bound -/
theorem sub_get_bind {x C : Addr} {ox od : Obj} {name : Str} {b : Bool} {gg a : Value} {Q : Value → Shared → Prop} (X : K.In s.heap) (I : InstAt s.heap x ox C (some od)) (h1 : findIn K (.ref C) "__getattribute__" = some (some (.builtin "dict.__getattribute__")))
    (h2 : findIn K (.ref C) "__getattr__" = some none) (h3 : subIn K (.ref C) (.type "dict") = some true) (h4 : findObj K C (some od) name = some (.bind gg a))
    (h : codeAny (model prog w) A.in1 (.call gg ⟨[a, .ref x, .ref C], []⟩) (fun r s' => match r with | .ok (.ret v) => wpAny (model prog w) A (handedOut v) Q E s' | .ok _ => False | .error e => wpAny (model prog w) A (getattributeRaised (.ref x) (.str name s.toks) (.ref C) e none true b) Q E s') { s with toks := s.toks + 1 }) :
    wpAny (model prog w) A (getAttr (.ref x) name b) Q E s := by
  obtain ⟨hh, g, d, t, os⟩ := s
  have L0 := I.type (M := model prog w)
  have L1 := looks_findIn (M := model prog w) X h1
  have L2 := looks_findIn (M := model prog w) X h2
  have L3 : Looks (model prog w) hh (isInstance (.ref x) (.type "dict")) true := L0.andThen (looks_subIn X h3)
  have L4 := looks_find (M := model prog w) X I h4
  have f3 := F.slot_dict_getattribute.bind (.ref x)
  unfold getAttr
  repeat lk
  refine wpAny_tryCatch (wpAny_bind (wpAny_holding ?_))
  unfold callGetattribute
  rw [if_neg (by cases b <;> decide)]
  unfold boundAndCalled
  refine wpAny_bind (wpAny_of_eq f3 ?_)
  dsimp only
  refine wpAny_call (codeAny_call_builtin F.slot_dict_getattribute.plain F.entry_dict_ga ?_)
  unfold checkBuiltinCall
  rw [kind_dict_ga, split_dict_ga]
  dsimp only
  repeat lk
  refine PySem.W.X.x_call (codeAny_mono h fun r s' hr => ?_) (by intro e; cases e)
  rcases r with e | f
  · exact wpAny_throw (wpAny_pure hr)
  · cases f with
    | ret v => exact wpAny_pure (wpAny_pure (wpAny_pure (wpAny_pure hr)))
    | _ => exact hr.elim
theorem sub_get_value {x C : Addr} {ox od : Obj} {name : Str} {b : Bool} {v : Value} {Q : Value → Shared → Prop} (X : K.In s.heap) (I : InstAt s.heap x ox C (some od)) (h1 : findIn K (.ref C) "__getattribute__" = some (some (.builtin "dict.__getattribute__")))
    (h2 : findIn K (.ref C) "__getattr__" = some none) (h3 : subIn K (.ref C) (.type "dict") = some true) (h4 : findObj K C (some od) name = some (.value v))
    (h : wpAny (model prog w) A (handedOut v) Q E { s with toks := s.toks + 1 }) :
    wpAny (model prog w) A (getAttr (.ref x) name b) Q E s := by
  obtain ⟨hh, g, d, t, os⟩ := s
  have L0 := I.type (M := model prog w)
  have L1 := looks_findIn (M := model prog w) X h1
  have L2 := looks_findIn (M := model prog w) X h2
  have L3 : Looks (model prog w) hh (isInstance (.ref x) (.type "dict")) true := L0.andThen (looks_subIn X h3)
  have L4 := looks_find (M := model prog w) X I h4
  have f3 := F.slot_dict_getattribute.bind (.ref x)
  unfold getAttr
  repeat lk
  refine wpAny_tryCatch (wpAny_bind (wpAny_holding ?_))
  unfold callGetattribute
  rw [if_neg (by cases b <;> decide)]
  unfold boundAndCalled
  refine wpAny_bind (wpAny_of_eq f3 ?_)
  dsimp only
  refine wpAny_call (codeAny_call_builtin F.slot_dict_getattribute.plain F.entry_dict_ga ?_)
  unfold checkBuiltinCall
  rw [kind_dict_ga, split_dict_ga]
  dsimp only
  repeat lk
  exact h
end
end Mine
end
section
open PySem PySem.W PyProof.Rows PySem.Calls PySem.Spec Builtin Builtin.ObjectAttr
set_option Elab.async false
set_option maxRecDepth 100000
set_option maxHeartbeats 3000000
namespace Mine
theorem canon_dict_ga : (Manifest.canonical "dict.__getattribute__" != "object.__getattribute__") = false := by decide +kernel
theorem slot_md : Slot "method_descriptor" "__get__" "method_descriptor.__get__" :=
  .of (owner := "method_descriptor") (n := "__get__") (by rw [typeLookup_type, builtinLookup_eq_fast]; kernel_rfl) (by decide +kernel) (by decide +kernel) (by decide +kernel)
    (by first | exact .inl (by decide +kernel) | exact .inr (by decide +kernel)) (by rw [isSubtype_type]; kernel_rfl)
theorem entry_md : entryFor table "method_descriptor.__get__" = some Builtin.«method_descriptor.__get__» := entryFor_of_tree (by kernel_rfl)
theorem args_md (a b c : Value) : argsOk "method_descriptor.__get__" ⟨[a, b, c], []⟩ := by unfold argsOk; kernel_rfl
section
variable {prog : Program} {w : World} {A : Around} {E : Value → Shared → Prop} {s : Shared} {K : Frag}
theorem sub_method {x C : Addr} {ox od : Obj} {name : Str} {pl : Sem Bool} {f : Value} {tn : String} {Q : Value × List Value → Shared → Prop} (X : K.In s.heap) (I : InstAt s.heap x ox C (some od)) (h1 : findIn K (.ref C) "__getattribute__" = some (some (.builtin "dict.__getattribute__")))
    (hk : findIn K (.ref C) "__getattr__" = some none) (hf : findIn K (.ref C) name = some (some f)) (ht : typeIn K f = some (.type tn)) (htn : (Value.type tn != .type "function" && Value.type tn != .type "method_descriptor" && Value.type tn != .type "wrapper_descriptor") = false) (hs : shadowIn (some od) name = some false) (h : Q (f, [.ref x]) s) :
    wpAny (model prog w) A (getMethod (.ref x) name pl) Q E s := by
  unfold getMethod specialOf
  refine wpAny_bind (wpAny_bind (I.type.here ((looks_findIn X h1).here ?_)))
  dsimp only
  rw [canon_dict_ga, if_neg (by decide)]
  refine wpAny_bind (wpAny_bind (I.type.here ((looks_findIn X hk).here ?_)))
  refine wpAny_bind (wpAny_bind (I.type.here ((looks_findIn X hf).here (wpAny_bind ((looks_typeIn X ht).here ?_)))))
  rw [if_neg (by rw [htn]; decide)]
  refine wpAny_bind (wpAny_loadPart I.at_ ?_)
  have hd := I.dict
  cases e : ox.dict with
  | none => exact wpAny_bind (wpAny_rule (wpAny_pure h))
  | some dx =>
    rw [e] at hd
    obtain ⟨r, a, b⟩ := Option.map_eq_some_iff.mp hs
    refine wpAny_bind (wpAny_bind (wpAny_loadPart hd ?_))
    rw [nsLook_of a]
    refine wpAny_pure ?_
    rw [if_neg (by rw [b]; exact Bool.false_ne_true)]
    exact wpAny_bind (wpAny_rule (wpAny_pure h))
theorem own_get : ".".intercalate ("dict.get".cutAt '.').dropLast = "dict" := by decide +kernel
theorem own_upd : ".".intercalate ("dict.update".cutAt '.').dropLast = "dict" := by decide +kernel
theorem md_get {id : String} {x C : Addr} {ox : Obj} {od : Option Obj} {R : Result → Shared → Prop} (hid : id = "dict.get" ∨ id = "dict.update") (hT : typeOf (.builtin id) = pure (.type "method_descriptor")) (ht : Manifest.toldItsClass.contains id = false)
    (I : InstAt s.heap x ox C od) (hi : Looks (model prog w) s.heap (isSubtype (.ref C) (.type "dict")) true)
    (h : R (.ok (.ret (.ref s.heap.objs.size))) { s with heap := s.heap.push { cls := .type "builtin_function_or_method", data := .fields #[.builtin id, .ref x] } }) :
    codeAny (model prog w) A (.call (.builtin "method_descriptor.__get__") ⟨[.builtin id, .ref x, .ref C], []⟩) R s := by
  obtain ⟨hh, g, d, t, os⟩ := s
  have hx := I.at_
  obtain ⟨c, dd, da, sl⟩ := ox
  have hc : c = .ref C := I.cls
  subst hc
  refine codeAny_call_builtin slot_md.plain entry_md (slot_md.check _ _ _ _ _ _ _ _ hT (args_md _ _ _) ?_)
  unfold Builtin.«method_descriptor.__get__»
  repeat lk
  rw [if_neg (by rw [ht]; exact Bool.false_ne_true)]
  rcases hid with rfl | rfl
  · have hi' := hi
    rw [← own_get] at hi'
    repeat lk
    exact h
  · have hi' := hi
    rw [← own_upd] at hi'
    repeat lk
    exact h
end
end Mine
end
section
open PySem PySem.W PyProof.Rows PySem.Calls PySem.Spec
set_option Elab.async false
set_option maxRecDepth 100000
set_option maxHeartbeats 3000000
namespace Mine
theorem fill4 : PySem.Challenge.rw_dn0005_06 = PySem.Challenge.rw_dn0005_06 ∧ Mine.hd06.heap_39 = Mine.hd06.heap_39 := by
  k_fill
  exact ⟨rfl, rfl⟩
section
variable {prog : Program} {w : World} {A : Around} {E : Value → Shared → Prop} {s : Shared} {h₀ : Heap} {L x : Addr} {news : List (Addr × Obj)} {o : Obj} {b : Bool} {Q : Value → Shared → Prop}
theorem class_dict_K (N : News h₀ L s.heap news) (hm : (x, o) ∈ news) (hc : o.cls = .type "dict") (h : ∀ t, Q (.type "dict") { s with toks := t }) : wpAny (model prog w) A (getAttr (.ref x) (Str.ofString "__class__") b) Q E s := by
  obtain ⟨hh, g, d, t, os⟩ := s
  exact class_at_dict (N _ hm).1 hc h
theorem class_list_K (N : News h₀ L s.heap news) (hm : (x, o) ∈ news) (hc : o.cls = .type "list") (h : ∀ t, Q (.type "list") { s with toks := t }) : wpAny (model prog w) A (getAttr (.ref x) (Str.ofString "__class__") b) Q E s := by
  obtain ⟨hh, g, d, t, os⟩ := s
  exact class_at_list (N _ hm).1 hc h
theorem type_K {T : String} (N : News h₀ L s.heap news) (hm : (x, o) ∈ news) (hc : o.cls = .type T) (hb : (Value.type T == Value.type "builtin_function_or_method") = false) (h : Q (.type T) s) : wpAny (model prog w) A (call (.type "type") [.ref x]) Q E s :=
  call_type_of (x := .ref x) ⟨o, (N _ hm).1, hc⟩ hb h
end
section
variable {prog : Program} {w : World} {A : Around} {E : Value → Shared → Prop} {s : Shared}
theorem issub_any {a : Value} {U : String} {b : Bool} {Q : Value → Shared → Prop} (hT : ∀ M, Looks M s.heap (isType a) true) (hS : ∀ M, Looks M s.heap (isSubtype a (.type U)) b) (hU : typeOf (.type U) = pure (.type "type")) (hU2 : isType (.type U) = pure true)
    (h : Q (.bool b) s) : wpAny (model prog w) A (call (.builtin "issubclass") [a, .type U]) Q E s := by
  refine call_issubclass (S := fun _ R s => ((∀ M, Looks M s.heap (isType a) true) ∧ ∀ M, Looks M s.heap (isSubtype a (.type U)) b) ∧ R (.ok (.ret (.bool b))) s) (fun _ _ _ _ _ hs => issubclass_outer ?_) ⟨⟨hT, hS⟩, h⟩
  rename_i s'
  obtain ⟨⟨h1, h2⟩, h3⟩ := hs
  obtain ⟨hh, g, d, t, os⟩ := s'
  unfold Builtin.«issubclass.nested»
  refine wpAny_bind (wpAny_of_eq hU ?_)
  rw [if_pos (by decide)]
  k_delta "plainIsSubclass"
  refine wpAny_bind (wpAny_bind ((h1 _).at ?_))
  refine wpAny_bind (wpAny_of_eq hU2 ?_)
  simp only [Bool.and_self, if_true]
  refine (h2 _).at ?_
  exact wpAny_pure h3
theorem sub_dict_dict : isSubtype (.type "dict") (.type "dict") = pure true := by rw [isSubtype_type]; kernel_rfl
theorem sub_list_dict : isSubtype (.type "list") (.type "dict") = pure false := by rw [isSubtype_type]; kernel_rfl
theorem mt_dict : typeOf (.type "dict") = pure (.type "type") := by kernel_rfl
end
local macro_rules | `(tactic| walk_at "call builtin:issubclass") => `(tactic| (k_here; first
  | refine issub_any (fun _ => Looks.of_pure rfl) (fun _ => Looks.of_pure sub_dict_dict) mt_dict rfl ?_
  | refine issub_any (fun _ => Looks.of_pure rfl) (fun _ => Looks.of_pure sub_list_dict) mt_dict rfl ?_))
theorem mt_type : typeOf (.type "type") = pure (.type "type") := by kernel_rfl
local macro_rules | `(tactic| walk_at "getMethod type:type") => `(tactic| (k_here; refine' method_type ?F ?X ?m (by decide +kernel) ?e ?h ?_; (case F => k_asm); (case X => k_asm); (case m => exact mt_type); (case e => k_dflt k_is); (case h => k_handed); k_whole))
local macro_rules | `(tactic| walk_at "call builtin:type.__subclasscheck__") => `(tactic| (k_here; refine tsc_call (K := _) (by k_in) (by k_is) (fun _ => Looks.of_pure (by rfl)) ?_))
local macro_rules | `(tactic| walk_at "call type:type") => `(tactic| (k_here; refine type_K (by k_asm) (by k_mem) (by assumption) (by decide) ?_))
local macro_rules | `(tactic| walk_at "getAttr ref") => `(tactic| (k_here; (with_reducible show wpAny _ _ (getAttr (Value.ref _) (Str.ofString "__class__") _) _ _ _); first
  | (refine class_dict_K (by k_asm) (by k_mem) (by assumption) ?_; intro t')
  | (refine class_list_K (by k_asm) (by k_mem) (by assumption) ?_; intro t')))
section
variable {prog : Program} {w : World} {A₀ : Around} {base h₀ : Heap} {outer : List Env} {e0 : Env} {L : Addr} {m mg mb : Str → Option Value} {mean : ExcName → Option Value} {s : Shared} {R : Result → Shared → Prop} {rest : List (Addr × Obj)}
theorem spec_ic_dict {x : Addr} {o : Obj} (hc : o.cls = .type "dict")
   (B : Below A₀ base outer h₀) (F : Fr h₀ L s.heap m) (X : (Mine.hd06.heap_39 w.params).In h₀) (N : News h₀ L s.heap ((x, o) :: rest)) (T : Top vw ls mean mg mb h₀)
   (k : ∀ h' tk, Fr h₀ L h' m → News h₀ L h' ((x, o) :: rest) → R (.ok (.ret (.bool true))) {s with heap := h', toks := tk})
   : codeAny (model prog w) (AK 15 (ek e0 L) outer) (.call (.ref 100) ⟨[.ref 471, .ref x], []⟩) R s := by
  k_enter
  k_steps
  exact k _ _ (by assumption) (by assumption)
theorem spec_ic_list {x : Addr} {o : Obj} (hc : o.cls = .type "list")
   (B : Below A₀ base outer h₀) (F : Fr h₀ L s.heap m) (X : (Mine.hd06.heap_39 w.params).In h₀) (N : News h₀ L s.heap ((x, o) :: rest)) (T : Top vw ls mean mg mb h₀)
   (k : ∀ h' tk, Fr h₀ L h' m → News h₀ L h' ((x, o) :: rest) → R (.ok (.ret (.bool false))) {s with heap := h', toks := tk})
   : codeAny (model prog w) (AK 15 (ek e0 L) outer) (.call (.ref 100) ⟨[.ref 471, .ref x], []⟩) R s := by
  k_enter
  k_steps
  exact k _ _ (by assumption) (by assumption)
end
end Mine
end
section
open PySem PySem.W PyProof.Rows PySem.Calls PySem.Spec Builtin Builtin.ObjectAttr
set_option Elab.async false
set_option maxRecDepth 100000
set_option maxHeartbeats 3000000
namespace Mine
theorem fill5 : PySem.Challenge.rw_dn0005_06 = PySem.Challenge.rw_dn0005_06 ∧ Mine.hd06.heap_39 = Mine.hd06.heap_39 := by
  k_fill
  exact ⟨rfl, rfl⟩
/-- a Counter as the call makes it -/
abbrev cnt (es : Array DictEntry) (n : Nat) (dx : Addr) : Obj := { cls := .ref 1093, dict := some dx, data := .dict es n, slots := #[] }
theorem inst_cnt {h₀ h : Heap} {L x dx : Addr} {news : List (Addr × Obj)} {od : Obj} {es : Array DictEntry} {n : Nat} (N : News h₀ L h news) (h1 : (x, cnt es n dx) ∈ news) (h2 : (dx, od) ∈ news) : InstAt h x (cnt es n dx) 1093 (some od) :=
  ⟨(N _ h1).1, rfl, rfl, (N _ h2).1⟩
section
variable (P : Params)
theorem c_ga : findIn (Mine.hd06.heap_39 P) (.ref 1093) (Str.ofString "__getattribute__") = some (some (.builtin "dict.__getattribute__")) := by k_is
theorem c_gt : findIn (Mine.hd06.heap_39 P) (.ref 1093) (Str.ofString "__getattr__") = some none := by k_is
theorem c_sub : subIn (Mine.hd06.heap_39 P) (.ref 1093) (.type "dict") = some true := by k_is
theorem c_has : hasDictIn (Mine.hd06.heap_39 P) 1093 = true := by k_is
theorem c_obj : mroIn (Mine.hd06.heap_39 P) 1093 (.type "object") = some true := by k_is
theorem c_class : findIn (Mine.hd06.heap_39 P) (.ref 1093) (Str.ofString "__class__") = some (some (.builtin "object.__class__")) := by k_is
theorem c_class_get : specialIn (Mine.hd06.heap_39 P) (.builtin "object.__class__") (Str.ofString "__get__") = some (some (.builtin "getset_descriptor.__get__")) := by k_is
theorem c_class_takes : takesIn (Mine.hd06.heap_39 P) (.builtin "object.__class__") = some true := by k_is
theorem c_get : findIn (Mine.hd06.heap_39 P) (.ref 1093) (Str.ofString "get") = some (some (.builtin "dict.get")) := by k_is
theorem c_get_get : specialIn (Mine.hd06.heap_39 P) (.builtin "dict.get") (Str.ofString "__get__") = some (some (.builtin "method_descriptor.__get__")) := by k_is
theorem c_get_takes : takesIn (Mine.hd06.heap_39 P) (.builtin "dict.get") = some false := by k_is
theorem c_clsIn0 : isClsIn (Mine.hd06.heap_39 P) 1093 = true := by k_is
theorem c_clsIn : (clsIn (Mine.hd06.heap_39 P) 1093).isSome = true := c_clsIn0 P
theorem c_get_told : Manifest.toldItsClass.contains "dict.get" = false := by decide +kernel
theorem c_get_type : typeOf (.builtin "dict.get") = pure (.type "method_descriptor") := by show builtinType _ = _; rw [builtinType_eq_fast]; kernel_rfl
end
theorem findObj_meth {K : Frag} {C : Addr} {od : Obj} {name : Str} {a g : Value} (hh : hasDictIn K C = true) (ha : findIn K (.ref C) name = some (some a)) (hg : specialIn K a "__get__" = some (some g)) (ht : takesIn K a = some false) (hc : copiedNames.contains name = false) (hl : lookIn name od = some none) :
    findObj K C (some od) name = some (.bind g a) := by
  obtain ⟨cd, hc', hd⟩ := any_some hh
  unfold findObj
  have ho : W.ownOf cd (some od) name = some none := by unfold W.ownOf; rw [if_pos hd]; exact hl
  rw [hc', Option.bind_some, ha, Option.bind_some]
  simp only [hg, ht, Option.bind_some, ho, hc, Bool.false_and, Bool.false_eq_true, if_false]
section
variable {prog : Program} {w : World} {A : Around} {E : Value → Shared → Prop} {s : Shared} {h₀ : Heap} {L x dx : Addr} {m : Str → Option Value} {news : List (Addr × Obj)} {es : Array DictEntry} {n : Nat} {b : Bool} {Q : Value → Shared → Prop}
theorem cnt_class_K (F : Fr h₀ L s.heap m) (X₀ : (Mine.hd06.heap_39 w.params).In h₀) (N : News h₀ L s.heap news) (hm : (x, cnt es n dx) ∈ news) (hdx : (dx, dictOf [] 0) ∈ news) (h : Q (.ref 1093) { s with toks := s.toks + 1 }) :
    wpAny (model prog w) A (getAttr (.ref x) (Str.ofString "__class__") b) Q E s := by
  have X := X₀.keeps F.keep
  have I := inst_cnt N hm hdx
  refine sub_get_bind X I (c_ga _) (c_gt _) (c_sub _) (findObj_data (c_clsIn _) (c_class _) (c_class_get _) (c_class_takes _)) ?_
  exact class_get (s := { s with toks := s.toks + 1 }) X I (c_obj _) (by show wpAny _ _ (handedOut (.ref 1093)) _ _ _; exact wpAny_pure h)
theorem cnt_get_K (F : Fr h₀ L s.heap m) (X₀ : (Mine.hd06.heap_39 w.params).In h₀) (N : News h₀ L s.heap news) (hm : (x, cnt es n dx) ∈ news) (hdx : (dx, dictOf [] 0) ∈ news)
    (h : ∀ q h', Fr h₀ L h' m → News h₀ L h' ((q, { cls := .type "builtin_function_or_method", data := .fields #[.builtin "dict.get", .ref x] }) :: news) → (∀ p ∈ news, p.1 < q) → Q (.ref q) { s with heap := h', toks := s.toks + 1 }) :
    wpAny (model prog w) A (getAttr (.ref x) (Str.ofString "get") b) Q E s := by
  have X := X₀.keeps F.keep
  have I := inst_cnt N hm hdx
  refine sub_get_bind X I (c_ga _) (c_gt _) (c_sub _) (findObj_meth (c_has _) (c_get _) (c_get_get _) (c_get_takes _) (by decide) (by rw [lookIn_dict]; rfl)) ?_
  refine md_get (s := { s with toks := s.toks + 1 }) (.inl rfl) c_get_type c_get_told I (looks_subIn X (c_sub _)) ?_
  show wpAny _ _ (handedOut (.ref _)) _ _ _
  exact wpAny_pure (h _ _ (F.push _) (N.push F _) fun p hp => Heap.lt_size (N p hp).1)
end
end Mine
end
section
open PySem PySem.W PyProof.Rows PySem.Calls PySem.Spec
set_option Elab.async false
set_option maxRecDepth 100000
set_option maxHeartbeats 3000000
namespace Mine
theorem fill6 : PySem.Challenge.rw_dn0005_06 = PySem.Challenge.rw_dn0005_06 ∧ Mine.hd06.heap_39 = Mine.hd06.heap_39 := by
  k_fill
  exact ⟨rfl, rfl⟩
local macro_rules | `(tactic| k_inst) => `(tactic| (refine' inst_cnt ?N ?h1 ?h2; (case N => k_asm); (case h1 => k_mem); (case h2 => k_mem)))
local macro_rules | `(tactic| walk_at "getAttr ref") => `(tactic| (k_here; (with_reducible show wpAny _ _ (getAttr (Value.ref _) (Str.ofString "__class__") _) _ _ _); refine cnt_class_K (by k_asm) (by k_asm) (by k_asm) (by k_mem) (by k_mem) ?_))
theorem looks_isType {K : Frag} {M : Model} {h : Heap} (X : K.In h) {C : Addr} (e : isClsIn K C = true) : Looks M h (isType (.ref C)) true := by
  obtain ⟨cd, hc⟩ := Option.isSome_iff_exists.mp (show (clsIn K C).isSome = true from e)
  unfold clsIn at hc
  split at hc
  · rename_i ho
    cases hc
    exact (Looks.ld (part := some headPart) (X _ _ ho)).andThen .now
  · cases hc
local macro_rules | `(tactic| walk_at "call builtin:issubclass") => `(tactic| (k_here; refine issub_any (fun _ => looks_isType (by k_in) (by k_is)) (fun _ => looks_subIn (by k_in) (by k_is)) mt_dict rfl ?_))
section
variable {prog : Program} {w : World} {A₀ : Around} {base h₀ : Heap} {outer : List Env} {e0 : Env} {L : Addr} {m mg mb : Str → Option Value} {mean : ExcName → Option Value} {s : Shared} {R : Result → Shared → Prop} {rest : List (Addr × Obj)}
theorem spec_ic_cnt {x dx : Addr} {es : Array DictEntry} {n : Nat}
   (B : Below A₀ base outer h₀) (F : Fr h₀ L s.heap m) (X : (Mine.hd06.heap_39 w.params).In h₀) (N : News h₀ L s.heap ((x, cnt es n dx) :: (dx, dictOf [] 0) :: rest)) (T : Top vw ls mean mg mb h₀)
   (k : ∀ h' tk, Fr h₀ L h' m → News h₀ L h' ((x, cnt es n dx) :: (dx, dictOf [] 0) :: rest) → R (.ok (.ret (.bool true))) {s with heap := h', toks := tk})
   : codeAny (model prog w) (AK 15 (ek e0 L) outer) (.call (.ref 100) ⟨[.ref 471, .ref x], []⟩) R s := by
  k_enter
  k_steps
  exact k _ _ (by assumption) (by assumption)
end
end Mine
end
section
open PySem PySem.W PyProof.Rows PySem.Calls PySem.Spec Builtin Builtin.ObjectAttr
set_option Elab.async false
set_option maxRecDepth 100000
set_option maxHeartbeats 3000000
namespace Mine
theorem fill7 : PySem.Challenge.rw_dn0005_06 = PySem.Challenge.rw_dn0005_06 ∧ Mine.hd06.heap_39 = Mine.hd06.heap_39 := by
  k_fill
  exact ⟨rfl, rfl⟩
section
variable (P : Params)
theorem m_type : typeIn (Mine.hd06.heap_39 P) (.ref 471) = some (.ref 117) := by k_is
theorem m_tup : instIn (Mine.hd06.heap_39 P) (.ref 471) (.type "tuple") = some false := by k_is
theorem m_ic : specialIn (Mine.hd06.heap_39 P) (.ref 471) (Str.ofString "__instancecheck__") = some (some (.ref 100)) := by k_is
theorem m_fn : typeIn (Mine.hd06.heap_39 P) (.ref 100) = some (.type "function") := by k_is
end
section
variable {prog : Program} {w : World} {A A₀ : Around} {E : Value → Shared → Prop} {base h₀ : Heap} {outer : List Env} {env : Env} {L x dx : Addr} {m mg mb : Str → Option Value} {mean : ExcName → Option Value} {s : Shared} {news : List (Addr × Obj)} {o : Obj} {es : Array DictEntry} {n : Nat} {Q : Value → Shared → Prop}
theorem isi_dict_K (hA : A.frames = some (env :: outer)) (hf : env.frame = some L) (hk : env.scope.kind = .function) (hh : A.handled = none) (hg : A.guards = some []) (hd : A.depth ≤ 550) (hu : A.units + 1 ≤ 2500)
   (B : Below A₀ base outer h₀) (F : Fr h₀ L s.heap m) (X : (Mine.hd06.heap_39 w.params).In h₀) (N : News h₀ L s.heap news) (T : Top vw ls mean mg mb h₀) (hm : (x, o) ∈ news) (hc : o.cls = .type "dict")
   (h : ∀ h' tk, Fr h₀ L h' m → News h₀ L h' news → Q (.bool true) { s with heap := h', toks := tk }) :
   wpAny (model prog w) A (call (.builtin "isinstance") [.ref x, .ref 471]) Q E s := by
  have Xs := X.keeps F.keep
  refine isi_hook (t := .type "dict") (mc := .ref 117) (b := true) Xs (fun M => ?_) (by intro e; cases e) (by decide) (m_type _) (by decide) (by decide) (m_tup _) (m_ic _) (m_fn _) (by have : cLine = 9900 := rfl; omega) ?_
  · have := (Looks.ld (M := M) (part := none) (N _ hm).1).andThen (f := fun o => (pure o.cls : Sem Value)) (b := .type "dict") (by rw [hc]; exact .now)
    exact this
  · refine use_at 15 (A := A.in1) hA hf hk hh hg hd hu (spec_ic_dict hc B F X (fun p hp => by rcases List.mem_cons.mp hp with rfl | hp; exact N _ hm; exact N p hp) T fun h' tk F' N' => ⟨rfl, h h' tk F' fun p hp => N' p (.tail _ hp)⟩)
theorem isi_list_K (hA : A.frames = some (env :: outer)) (hf : env.frame = some L) (hk : env.scope.kind = .function) (hh : A.handled = none) (hg : A.guards = some []) (hd : A.depth ≤ 550) (hu : A.units + 1 ≤ 2500)
   (B : Below A₀ base outer h₀) (F : Fr h₀ L s.heap m) (X : (Mine.hd06.heap_39 w.params).In h₀) (N : News h₀ L s.heap news) (T : Top vw ls mean mg mb h₀) (hm : (x, o) ∈ news) (hc : o.cls = .type "list")
   (h : ∀ h' tk, Fr h₀ L h' m → News h₀ L h' news → Q (.bool false) { s with heap := h', toks := tk }) :
   wpAny (model prog w) A (call (.builtin "isinstance") [.ref x, .ref 471]) Q E s := by
  have Xs := X.keeps F.keep
  refine isi_hook (t := .type "list") (mc := .ref 117) (b := false) Xs (fun M => ?_) (by intro e; cases e) (by decide) (m_type _) (by decide) (by decide) (m_tup _) (m_ic _) (m_fn _) (by have : cLine = 9900 := rfl; omega) ?_
  · have := (Looks.ld (M := M) (part := none) (N _ hm).1).andThen (f := fun o => (pure o.cls : Sem Value)) (b := .type "list") (by rw [hc]; exact .now)
    exact this
  · refine use_at 15 (A := A.in1) hA hf hk hh hg hd hu (spec_ic_list hc B F X (fun p hp => by rcases List.mem_cons.mp hp with rfl | hp; exact N _ hm; exact N p hp) T fun h' tk F' N' => ⟨rfl, h h' tk F' fun p hp => N' p (.tail _ hp)⟩)
theorem isi_cnt_K (hA : A.frames = some (env :: outer)) (hf : env.frame = some L) (hk : env.scope.kind = .function) (hh : A.handled = none) (hg : A.guards = some []) (hd : A.depth ≤ 550) (hu : A.units + 1 ≤ 2500)
   (B : Below A₀ base outer h₀) (F : Fr h₀ L s.heap m) (X : (Mine.hd06.heap_39 w.params).In h₀) (N : News h₀ L s.heap news) (T : Top vw ls mean mg mb h₀) (hm : (x, cnt es n dx) ∈ news) (hdx : (dx, dictOf [] 0) ∈ news)
   (h : ∀ h' tk, Fr h₀ L h' m → News h₀ L h' news → Q (.bool true) { s with heap := h', toks := tk }) :
   wpAny (model prog w) A (call (.builtin "isinstance") [.ref x, .ref 471]) Q E s := by
  have Xs := X.keeps F.keep
  refine isi_hook (t := .ref 1093) (mc := .ref 117) (b := true) Xs (fun M => (inst_cnt N hm hdx).type) (by intro e; cases e) (by decide) (m_type _) (by decide) (by decide) (m_tup _) (m_ic _) (m_fn _) (by have : cLine = 9900 := rfl; omega) ?_
  refine use_at 15 (A := A.in1) hA hf hk hh hg hd hu (spec_ic_cnt B F X (fun p hp => by rcases List.mem_cons.mp hp with rfl | hp; exact N _ hm; rcases List.mem_cons.mp hp with rfl | hp; exact N _ hdx; exact N p hp) T fun h' tk F' N' => ⟨rfl, h h' tk F' fun p hp => N' p (.tail _ (.tail _ hp))⟩)
end
end Mine
end
section
open PySem PySem.W PyProof.Rows PySem.Calls PySem.Spec Builtin Builtin.ObjectAttr
set_option Elab.async false
set_option maxRecDepth 100000
set_option maxHeartbeats 3000000
namespace Mine
theorem fill8 : PySem.Challenge.rw_dn0005_06 = PySem.Challenge.rw_dn0005_06 ∧ Mine.hd06.heap_39 = Mine.hd06.heap_39 := by
  k_fill
  exact ⟨rfl, rfl⟩
section
variable {prog : Program} {w : World} {A : Around} {E : Value → Shared → Prop} {s : Shared} {K : Frag}
/-- a built-in method's look at its arguments, for an instance of a class below its own -/
theorem check_sub {M : Model} {id owner n : String} {self : Value} {rest : List Value} {kw : List (Str × Value)} {Q : Unit → Shared → Prop} (hsplit : splitId id = some (owner, n))
    (hkind : (Manifest.find? owner).bind (·.attrs.lookup n) = some .slot ∨ (Manifest.find? owner).bind (·.attrs.lookup n) = some .method)
    (hi : Looks M s.heap (isInstance self (.type owner)) true) (ha : argsOk id ⟨self :: rest, kw⟩) (hQ : Q () s) : wpAny M A (checkBuiltinCall id ⟨self :: rest, kw⟩) Q E s := by
  have hk : builtinKind id = (Manifest.find? owner).bind (·.attrs.lookup n) := by simp only [builtinKind, hsplit]
  obtain ⟨hh, g, d, t, os⟩ := s
  rcases hkind with h | h <;>
  · simp only [checkBuiltinCall, hk, h, hsplit]
    refine wpAny_bind (hi.at ?_)
    simp only [Bool.not_true, Bool.false_eq_true, if_false]
    cases hsig : Manifest.signature? id with
    | none => exact wpAny_pure hQ
    | some sig =>
      simp only [argsOk, hsig] at ha
      have h2 : Bind.checkArgs id sig ⟨self :: rest, kw⟩ = pure () := ha
      show wpAny M A (Bind.checkArgs id sig ⟨self :: rest, kw⟩) Q E _
      rw [h2]; exact wpAny_pure hQ
theorem call_sub {id owner n : String} {b : Builtin} {self : Value} {rest : List Value} {kw : List (Str × Value)} {Q : Value → Shared → Prop} (hp : plainId id = true) (hb : entryFor table id = some b) (hsplit : splitId id = some (owner, n))
    (hkind : (Manifest.find? owner).bind (·.attrs.lookup n) = some .slot ∨ (Manifest.find? owner).bind (·.attrs.lookup n) = some .method)
    (hi : Looks (model prog w) s.heap (isInstance self (.type owner)) true) (ha : argsOk id ⟨self :: rest, kw⟩)
    (hc : wpAny (model prog w) A.in1 (b ⟨self :: rest, kw⟩) (fun fin s' => ∃ v, fin = .done (.ret v) ∧ Q v s') E s) : wpAny (model prog w) A (call (.builtin id) (self :: rest) kw) Q E s := by
  refine wpAny_call (codeAny_call_builtin hp hb (check_sub hsplit hkind hi ha (wpAny_mono hc (fun fin s' h' => ?_) fun _ _ h' => h')))
  obtain ⟨v, rfl, hv⟩ := h'; exact hv
end
/-- the entries of a dict, told as a list of its pairs in their order -/
structure DIs {prog : Program} {w : World} {K : Type} [DecidableEq K] (knd : KeyKind prog w K) (es : Array DictEntry) (kvs : List (K × Value)) : Prop where
  keys : PySem.KeysOf knd es
  pairs : Pairs knd es.toList kvs
  nodup : (kvs.map (·.1)).Nodup
section
variable {prog : Program} {w : World} {K : Type} [DecidableEq K] {knd : KeyKind prog w K} {A : Around} {E : Value → Shared → Prop} {s : Shared} {d : Addr} {o : Obj} {es : Array DictEntry} {ep : Nat} {kvs : List (K × Value)} {k : K} {key v : Value}
theorem DIs.nil : DIs knd #[] [] := ⟨by intro e he; simp at he, Pairs.nil, List.nodup_nil⟩
theorem DIs.size (D : DIs knd es kvs) : es.size = kvs.length := by have e1 := D.pairs.length; have e2 : es.toList.length = es.size := by simp
                                                                   omega
theorem dget {Q : Option Value → Shared → Prop} (ho : s.heap.get? d = some o) (hd : o.data = .dict es ep) (D : DIs knd es kvs) (hkey : knd.is k key = true) (h : Q (valueAt kvs k) { s with toks := s.toks + 1 }) :
    wpAny (model prog w) A (dictGet d key) Q E s := by
  unfold dictGet
  refine wpAny_holding ?_
  refine wpAny_bind (knd.pyHash hkey (wpAny_bind (wpAny_dictFind_of (s := { s with toks := s.toks + 1 }) hkey ho hd D.keys ?_)))
  have hl : (es.toList.findIdx? fun e => knd.is k e.key) = es.findIdx? fun e => knd.is k e.key := by obtain ⟨l⟩ := es; simp
  cases hi : es.findIdx? fun e => knd.is k e.key with
  | none =>
    have hn : valueAt kvs k = none := by
      rw [← D.pairs.find k]
      have h1 : (es.toList.findIdx? fun e => knd.is k e.key) = none := hl.trans hi
      have h2 : (es.toList.find? fun e => knd.is k e.key) = none := by
        rw [List.find?_eq_none]
        rw [List.findIdx?_eq_none_iff] at h1
        intro x hx
        simp [h1 x hx]
      rw [h2]; rfl
    rw [hn] at h
    exact wpAny_pure h
  | some i =>
    obtain ⟨e, he, _, hv⟩ := D.pairs.at (hl.trans hi)
    rw [hv] at h
    refine wpAny_bind (wpAny_dictEntries (s := { s with toks := s.toks + 1 }) ho hd (wpAny_pure ?_))
    have : es[i]? = some e := by rw [← he, Array.getElem?_toList]
    rw [this]; exact h
theorem dset {Q : Unit → Shared → Prop} (ho : s.heap.get? d = some o) (hd : o.data = .dict es ep) (D : DIs knd es kvs) (hkey : knd.is k key = true) (hsz : kvs.length ≤ sizeLine)
    (h : ∀ h' es' ep', DIs knd es' (stored kvs k v) → h'.get? d = some { o with data := .dict es' ep' } → Heap.SameBut d s.heap h' → Q () { s with heap := h', toks := s.toks + 1 }) :
    wpAny (model prog w) A (dictSet d key v) Q E s := by
  obtain ⟨oc, od, oda, osl⟩ := o
  dsimp only at hd
  subst hd
  have hes : es.size ≤ sizeLine := by rw [D.size]; exact hsz
  unfold dictSet
  refine wpAny_holding ?_
  refine wpAny_bind (knd.pyHash hkey ?_)
  unfold dictSetHashed
  refine wpAny_holding ?_
  refine wpAny_bind (wpAny_dictFind_of (s := { s with toks := s.toks + 1 }) hkey ho rfl D.keys ?_)
  have hl : (es.toList.findIdx? fun e => knd.is k e.key) = es.findIdx? fun e => knd.is k e.key := by obtain ⟨l⟩ := es; simp
  have hidx : (es.findIdx? fun e => knd.is k e.key) = kvs.findIdx? fun kv => decide (kv.1 = k) := by rw [← hl, D.pairs.findIdx k]
  cases hi : es.findIdx? fun e => knd.is k e.key with
  | some i =>
    refine wpAny_bind (wpAny_rule (wpAny_bind (wpAny_updateDict (s := { s with toks := s.toks + 1 }) ho rfl (wpAny_point (h _ (es.modify i fun e => { e with val := v }) ep ?_ (Heap.get?_update_self _ ho rfl) (Heap.SameBut.update ..))))))
    refine ⟨D.keys.modify _ _, ?_, ?_⟩
    · rw [stored, if_pos (any_of_findIdx_some (hidx ▸ hi))]
      have := D.pairs.modify D.nodup (hl.trans hi) v
      obtain ⟨l⟩ := es
      simpa using this
    · rw [stored, if_pos (any_of_findIdx_some (hidx ▸ hi)), keys_map_store]; exact D.nodup
  | none =>
    refine wpAny_bind (wpAny_rule (wpAny_updateDictKeys (s := { s with toks := s.toks + 1 }) ho rfl (h _ (es.push ⟨knd.hash k, key, v⟩) (ep + 1) ?_ (Heap.get?_update_self _ ho rfl) (Heap.SameBut.update ..)) hes))
    have hno : (kvs.any fun kv => decide (kv.1 = k)) = false := by
      have h1 : (kvs.findIdx? fun kv => decide (kv.1 = k)) = none := hidx ▸ hi
      rw [List.findIdx?_eq_none_iff] at h1
      rw [List.any_eq_false]
      intro x hx
      simp [h1 x hx]
    refine ⟨D.keys.push hkey _, ?_, ?_⟩
    · rw [stored, if_neg (by rw [hno]; exact Bool.false_ne_true)]
      have := D.pairs.append hkey (knd.hash k) v
      obtain ⟨l⟩ := es
      simpa using this
    · rw [stored, if_neg (by rw [hno]; exact Bool.false_ne_true), List.map_append, List.nodup_append]
      refine ⟨D.nodup, by simp, ?_⟩
      intro a ha b hb e
      subst e
      obtain ⟨x, hx, rfl⟩ := List.mem_map.mp ha
      simp only [List.map_cons, List.map_nil, List.mem_singleton] at hb
      have := List.any_eq_false.mp hno x hx
      exact this (decide_eq_true hb)
end
end Mine
end
section
open PySem PySem.W PyProof.Rows PySem.Calls PySem.Spec Builtin Builtin.ObjectAttr
set_option Elab.async false
set_option maxRecDepth 100000
set_option maxHeartbeats 3000000
namespace Mine
theorem fill9 : PySem.Challenge.rw_dn0005_06 = PySem.Challenge.rw_dn0005_06 ∧ Mine.hd06.heap_39 = Mine.hd06.heap_39 := by
  k_fill
  exact ⟨rfl, rfl⟩
section
variable (P : Params)
theorem c_nomod : subIn (Mine.hd06.heap_39 P) (.ref 1093) (.type "module") = some false := by k_is
theorem c_noord : subIn (Mine.hd06.heap_39 P) (.ref 1093) (.type "collections.OrderedDict") = some false := by k_is
theorem c_noseq : noSeq (Mine.hd06.heap_39 P) 1093 = true := by k_is
theorem c_setitem : findIn (Mine.hd06.heap_39 P) (.ref 1093) (Str.ofString "__setitem__") = some (some (.builtin "dict.__setitem__")) := by k_is
theorem c_meta : typeIn (Mine.hd06.heap_39 P) (.ref 1093) = some (.type "type") := by k_is
end
theorem full_ne (a : String) : (a ++ toString "." ++ toString (Bind.lastOf "dict.get") != "*") = true := by
  rw [bne_iff_ne]
  show (a ++ "." ++ Bind.lastOf "dict.get") ≠ "*"
  intro h
  have h2 := congrArg String.length h
  rw [String.length_append, String.length_append] at h2
  have e1 : (Bind.lastOf "dict.get").length = 3 := by decide +kernel
  have e2 : ("." : String).length = 1 := by decide +kernel
  have e3 : ("*" : String).length = 1 := by decide +kernel
  omega
abbrev bm (id : String) (x : Addr) : Obj := { cls := .type "builtin_function_or_method", data := .fields #[.builtin id, .ref x] }
section
variable {prog : Program} {w : World} {A : Around} {E : Value → Shared → Prop} {s : Shared} {h₀ : Heap} {L x dx q : Addr} {m : Str → Option Value} {news : List (Addr × Obj)} {es : Array DictEntry} {n : Nat} {Q : Value → Shared → Prop}
  {K : Type} [DecidableEq K] {knd : KeyKind prog w K} {kvs : List (K × Value)} {k : K} {key dflt : Value}
theorem cnt_dget (Fr0 : Fr h₀ L s.heap m) (X₀ : (Mine.hd06.heap_39 w.params).In h₀) (N : News h₀ L s.heap news) (hm : (x, cnt es n dx) ∈ news) (hdx : (dx, dictOf [] 0) ∈ news) (hq : (q, bm "dict.get" x) ∈ news)
    (D : DIs knd es kvs) (hkey : knd.is k key = true) (hs : (x == sysModules) = false) (h : Q ((valueAt kvs k).getD dflt) { s with toks := s.toks + 1 }) : wpAny (model prog w) A (call (.ref q) [key, dflt] []) Q E s := by
  have X := X₀.keeps Fr0.keep
  have I := inst_cnt N hm hdx
  have hx := (N _ hm).1
  have hqo := (N _ hq).1
  have L1 := looks_subIn (M := model prog w) X (c_nomod _)
  have L2 := looks_typeIn (M := model prog w) X (c_meta _)
  have L3 := looks_subIn (M := model prog w) X (c_noord _)
  obtain ⟨hh, g, d, t, os⟩ := s
  refine wpAny_call (codeAny_of_tree ?_)
  show wpAny _ _ (callAny (.ref q) _) _ _ _
  dsimp only at hqo hx
  refine nd_load hqo ?_
  repeat lk
  obtain ⟨c1, d1, s1, cd, hC⟩ : ∃ c1 d1 s1 cd, hh.get? 1093 = some ⟨c1, d1, .cls cd, s1⟩ := by
    obtain ⟨cd, hc⟩ := Option.isSome_iff_exists.mp (c_clsIn w.params)
    unfold clsIn at hc
    split at hc
    · rename_i ho
      exact ⟨_, _, _, _, X _ _ ho⟩
    · cases hc
  have hfull := full_ne (toString cd.qualname.toString)
  refine nd_load hC ?_
  repeat lk
  rw [if_pos hfull]
  repeat lk
  refine ⟨rfl, codeAny_builtin F.entry_dict_get ?_⟩
  unfold Builtin.«dict.get» Builtin.Dict.keyAndDefault
  repeat ((fail_if_success (with_reducible show wpAny _ _ (dictGet _ _) _ _ _)); lk)
  refine dget hx rfl D hkey ?_
  cases hv : valueAt kvs k with
  | some v =>
    rw [hv] at h
    repeat lk
    exact h
  | none =>
    rw [hv] at h
    unfold Builtin.Dict.missed
    repeat lk
    rw [if_neg (by rw [hs]; exact Bool.false_ne_true)]
    repeat lk
    exact h
end
end Mine
end
section
open PySem PySem.W PyProof.Rows PySem.Calls PySem.Spec Builtin Builtin.ObjectAttr
set_option Elab.async false
set_option maxRecDepth 100000
set_option maxHeartbeats 3000000
namespace Mine
theorem fill8b : PySem.Challenge.rw_dn0005_06 = PySem.Challenge.rw_dn0005_06 ∧ Mine.hd06.heap_39 = Mine.hd06.heap_39 := by
  k_fill
  exact ⟨rfl, rfl⟩
section
variable (P : Params)
theorem c_bool : specialIn (Mine.hd06.heap_39 P) (.ref 1093) (Str.ofString "__bool__") = some none := by k_is
theorem c_bool0 : findIn (Mine.hd06.heap_39 P) (.ref 1093) (Str.ofString "__bool__") = some none := by k_is
theorem c_len : findIn (Mine.hd06.heap_39 P) (.ref 1093) (Str.ofString "__len__") = some (some (.builtin "dict.__len__")) := by k_is
end
section
variable {prog : Program} {w : World} {A : Around} {E : Value → Shared → Prop} {s : Shared} {h₀ : Heap} {L x dx q : Addr} {m : Str → Option Value} {news : List (Addr × Obj)} {es : Array DictEntry} {n : Nat} 
  {K : Type} [DecidableEq K] {knd : KeyKind prog w K} {kvs : List (K × Value)} {k : K} {key v : Value}
theorem cnt_setItem {Q : Unit → Shared → Prop} (Fr0 : Fr h₀ L s.heap m) (X₀ : (Mine.hd06.heap_39 w.params).In h₀) (N : News h₀ L s.heap news) (hm : (x, cnt es n dx) ∈ news) (hdx : (dx, dictOf [] 0) ∈ news)
    (D : DIs knd es kvs) (hkey : knd.is k key = true) (hsz : kvs.length ≤ sizeLine)
    (h : ∀ h' es' ep', DIs knd es' (stored kvs k v) → h'.get? x = some (cnt es' ep' dx) → Heap.SameBut x s.heap h' → Q () { s with heap := h', toks := s.toks + 1 }) : wpAny (model prog w) A (setItem (.ref x) key v) Q E s := by
  have X := X₀.keeps Fr0.keep
  have I := inst_cnt N hm hdx
  have hx := (N _ hm).1
  have L0 := I.type (M := model prog w)
  have L1 := looks_findIn (M := model prog w) X (c_setitem _)
  have L3 := looks_subIn (M := model prog w) X (c_noord _)
  obtain ⟨hh, g, d, t, os⟩ := s
  unfold setItem sequenceKey
  refine wpAny_holding (wpAny_bind (wpAny_bind (I.type.here ?_)))
  refine wpAny_bind ((anyM_none X (c_noseq _)).here ?_)
  rw [if_pos (show (!false) = true from rfl)]
  refine wpAny_pure (wpAny_bind ?_)
  unfold callSpecial?
  refine wpAny_bind ?_
  repeat ((fail_if_success (with_reducible show wpAny _ _ (call _ _ _) _ _ _)); lk)
  have L5 : Looks (model prog w) hh (isInstance (.ref x) (.type "dict")) true := L0.andThen (looks_subIn X (c_sub _))
  refine call_sub (owner := "dict") (n := "__setitem__") slot_dict_setitem.plain entry_dict_setitem (by decide +kernel) (.inl (by decide +kernel)) L5 (args_dict_setitem _ _ _) ?_
  unfold Builtin.«dict.__setitem__»
  repeat ((fail_if_success (with_reducible show wpAny _ _ (dictSet _ _ _) _ _ _)); lk)
  refine dset (ep := n) hx rfl D hkey hsz ?_
  intro h' es' ep' D' hx' hs'
  repeat lk
  refine ⟨_, rfl, ?_⟩
  repeat lk
  exact h h' es' ep' D' hx' hs'
theorem cnt_truthy {Q : Bool → Shared → Prop} (Fr0 : Fr h₀ L s.heap m) (X₀ : (Mine.hd06.heap_39 w.params).In h₀) (N : News h₀ L s.heap news) (hm : (x, cnt es n dx) ∈ news) (hdx : (dx, dictOf [] 0) ∈ news)
    (hs : (x == sysModules) = false) (hsz : es.size ≤ sizeLine) (h : ∀ t, Q (es.size != 0) { s with toks := t }) : wpAny (model prog w) A (truthy (.ref x)) Q E s := by
  have X := X₀.keeps Fr0.keep
  have I := inst_cnt N hm hdx
  have hx := (N _ hm).1
  have L0 := I.type (M := model prog w)
  have L1 := looks_findIn (M := model prog w) X (c_len _)
  have L2 := looks_findIn (M := model prog w) X (c_bool0 _)
  have L3 := looks_subIn (M := model prog w) X (c_noord _)
  have L4 := looks_subIn (M := model prog w) X (c_sub _)
  obtain ⟨hh, g, d, t, os⟩ := s
  unfold truthy
  repeat lk
  refine PySem.W.X.x_call (codeAny_builtin entry_len ?_) (by intro e; cases e)
  unfold Builtin.«len»
  repeat ((fail_if_success (with_reducible show wpAny _ _ (call _ _ _) _ _ _)); lk)
  have L5 : Looks (model prog w) hh (isInstance (.ref x) (.type "dict")) true := L0.andThen L4
  refine call_sub (owner := "dict") (n := "__len__") F.slot_dict_len.plain F.entry_dict_len (by decide +kernel) (.inl (by decide +kernel)) L5 (F.args_dict_len_1 _) ?_
  unfold Builtin.«dict.__len__»
  repeat ((fail_if_success (with_reducible show wpAny _ _ (call _ _ _) _ _ _)); lk)
  rw [if_neg (by rw [hs]; exact Bool.false_ne_true)]
  repeat lk
  refine ⟨_, rfl, ?_⟩
  refine wpAny_pure ?_
  dsimp only
  repeat lk
  have hlt : ¬ ((es.size : Int) + ((0 : Nat) : Int) ≥ 2 ^ 63) := by
    have := PySem.sizeLine_eq
    omega
  rw [if_neg hlt]
  repeat lk
  have e : (((es.size : Int) + ((0 : Nat) : Int)) != 0) = (es.size != 0) := by
    cases es.size with
    | zero => rfl
    | succ k => 
      rw [Bool.eq_iff_iff]; simp; omega
  rw [e]
  exact h _
end
end Mine
end
section
open PySem PySem.W PyProof.Rows PySem.Calls PySem.Spec Builtin Builtin.ObjectAttr
set_option Elab.async false
set_option maxRecDepth 100000
set_option maxHeartbeats 3000000
namespace Mine
theorem fill11 : PySem.Challenge.rw_dn0005_06 = PySem.Challenge.rw_dn0005_06 ∧ Mine.hd06.heap_39 = Mine.hd06.heap_39 := by
  k_fill
  exact ⟨rfl, rfl⟩
section
variable (P : Params)
theorem c_items : findIn (Mine.hd06.heap_39 P) (.ref 1093) (Str.ofString "items") = some (some (.builtin "dict.items")) := by k_is
end
theorem look_alive {M : Model} {A : Around} {E : Value → Shared → Prop} {s : Shared} {a : Addr} {o : Obj} {Q : Option Obj → Shared → Prop} (ho : s.heap.get? a = some o) (h : Q (some o) s) : wpAny M A (Sem.loadIfAlive a Sem.pure) Q E s := by
  have h2 : Q (s.heap.get? a) s := ho ▸ h
  exact fun _ _ _ => h2
/-- an object that holds a dict's entries, whatever its class -/
def DatAt {prog : Program} {w : World} {K : Type} [DecidableEq K] (knd : KeyKind prog w K) (h : Heap) (d : Addr) (kvs : List (K × Value)) (ep : Nat) : Prop :=
  ∃ o es, h.get? d = some o ∧ o.data = .dict es ep ∧ DIs knd es kvs
/-- an iterator over the items -/
abbrev itm (d : Addr) (i n ep : Nat) (a : Value) (f : Bool) (ok ov : Value) : Obj := { cls := .type "dict_itemiterator", dict := none, data := .fields #[a, .bool f, .ref d, .int i 0, .int n 0, .int ep 0, ok, ov], slots := #[] }
section
variable {prog : Program} {w : World} {A : Around} {E : Value → Shared → Prop} {s : Shared} {h₀ : Heap} {L x dx q vw it d : Addr} {m : Str → Option Value} {news : List (Addr × Obj)} {es : Array DictEntry} {n : Nat} 
  {K : Type} [DecidableEq K] {knd : KeyKind prog w K} {kvs : List (K × Value)} {k : K} {key v : Value} {ep i : Nat} {ok ov : Value}
theorem cnt_items {Q : Value → Shared → Prop} (Fr0 : Fr h₀ L s.heap m) (X₀ : (Mine.hd06.heap_39 w.params).In h₀) (N : News h₀ L s.heap news) (hm : (x, cnt es n dx) ∈ news) (hdx : (dx, dictOf [] 0) ∈ news)
    (hs : (x == sysModules) = false) (h : Q (.ref s.heap.objs.size) { s with heap := s.heap.push { cls := .type "dict_items", data := .fields #[.ref x] } }) : wpAny (model prog w) A (call (.builtin "dict.items") [.ref x]) Q E s := by
  have X := X₀.keeps Fr0.keep
  have I := inst_cnt N hm hdx
  have hx := (N _ hm).1
  have L0 := I.type (M := model prog w)
  have L3 := looks_subIn (M := model prog w) X (c_noord _)
  have L5 : Looks (model prog w) s.heap (isInstance (.ref x) (.type "dict")) true := L0.andThen (looks_subIn X (c_sub _))
  obtain ⟨hh, g, d, t, os⟩ := s
  refine call_sub (owner := "dict") (n := "items") F.slot_dict_items.plain F.entry_dict_items (by decide +kernel) (.inr (by decide +kernel)) L5 (F.args_dict_items_1 _) ?_
  unfold Builtin.«dict.items» Builtin.Dict.noArgs
  repeat lk
  rw [if_neg (by rw [hs]; exact Bool.false_ne_true)]
  repeat lk
  exact ⟨_, rfl, h⟩
theorem it_iter {Q : Value → Shared → Prop} (hv : s.heap.get? vw = some { cls := .type "dict_items", data := .fields #[.ref d] }) (hd : DatAt knd s.heap d kvs ep) (h : Q (.ref s.heap.objs.size) { s with heap := s.heap.push (itm d 0 kvs.length ep .none false .none .none) }) :
   wpAny (model prog w) A (pyIter (.ref vw)) Q E s := by
  obtain ⟨o, es, ho, hdat, D⟩ := hd
  obtain ⟨hh, g, dr, t, os⟩ := s
  obtain ⟨oc, od, oda, osl⟩ := o
  dsimp only at hdat ho hv
  subst hdat
  have hT : Shared.TypeIs ⟨hh, g, dr, t, os⟩ (.ref vw) "dict_items" := ⟨_, hv, rfl⟩
  refine wpAny_pyIter_slot hT F.slot_dict_items_iter (wpAny_call_entry F.slot_dict_items_iter hT F.entry_dict_items_iter ?_ (F.args_dict_items_iter_1 _))
  unfold Builtin.«dict_items.__iter__»
  repeat lk
  refine ⟨_, rfl, "dict_itemiterator", _, ⟨_, Heap.get?_push_size _ rfl, rfl⟩, F.slot_dict_itemiterator_next.lookup, ?_⟩
  rw [D.size]
  exact h
theorem it_next0 {Q : Option Value → Shared → Prop} (hi : s.heap.get? it = some (itm d i kvs.length ep .none false ok ov)) (hd : DatAt knd s.heap d kvs ep) (hx : kvs[i]? = some (k, v))
   (h : ∀ key h', knd.is k key = true → h'.get? it = some (itm d (i + 1) kvs.length ep (rawInt s.heap.objs.size) false key v) → h'.get? s.heap.objs.size = some { cls := .type "tuple", data := .seq #[key, v] } → h'.objs.size = s.heap.objs.size + 1 → 
      (∀ b o, b ≠ it → s.heap.get? b = some o → h'.get? b = some o) → Q (some (.ref s.heap.objs.size)) { s with heap := h' }) :
   wpAny (model prog w) A (pyNext (.ref it)) Q E s := by
  obtain ⟨o, es, ho, hdat, D⟩ := hd
  obtain ⟨hh, g, dr, t, os⟩ := s
  obtain ⟨oc, od, oda, osl⟩ := o
  dsimp only at hdat ho hi
  have hi0 := hi
  subst hdat
  have hT : Shared.TypeIs ⟨hh, g, dr, t, os⟩ (.ref it) "dict_itemiterator" := ⟨_, hi, rfl⟩
  have hsz := D.size
  have hlt : i < kvs.length := by
    rcases Nat.lt_or_ge i kvs.length with h | h
    · exact h
    · simp [List.getElem?_eq_none h] at hx
  unfold pyNext
  refine wpAny_bind (wpAny_attempt (wpAny_callSpecial?_slot (name := Str.ofString "__next__") hT PySem.F.slot_dict_itemiterator_next
    (wpAny_call_entry PySem.F.slot_dict_itemiterator_next hT PySem.F.entry_dict_itemiterator_next ?_ (PySem.F.args_dict_itemiterator_next_1 _))))
  unfold Builtin.«dict_itemiterator.__next__»
  repeat lk
  rw [if_neg (by rw [hsz]; simp)]
  repeat lk
  rw [if_neg (by simp)]
  repeat lk
  have hlt' : i < es.size := by rw [hsz]; exact hlt
  obtain ⟨hkey, hval⟩ := D.pairs.get? (e := es[i]) (by simp [hlt']) hx
  simp only [show ¬ ((i : Int) < 0) from by omega, if_false, Int.toNat_natCast, Array.getElem?_eq_getElem hlt']
  repeat ((fail_if_success (with_reducible show wpAny _ _ (setField _ _ _) _ _ _)); lk)
  (with_unfolding_all show wpAny _ _ (setField (.ref it) 3 (rawInt ((i : Int) + 1))) _ _ _)
  refine wpAny_setField_rec hi (by simp) fun h₁ he₁ hs₁ => ?_
  replace hs₁ : Heap.SameBut it hh h₁ := hs₁
  have he₁ : h₁.get? it = some (itm d (i + 1) kvs.length ep .none false ok ov) := by
    rw [he₁]
    rfl
  have hil : it < hh.objs.size := Heap.lt_size hi
  clear hi
  have hz₁ : h₁.objs.size = hh.objs.size := hs₁.1
  dsimp only
  repeat lk
  have he₂ : (h₁.push { cls := .type "tuple", data := .seq #[es[i].key, es[i].val] }).get? it = some (itm d (i + 1) kvs.length ep .none false ok ov) := Heap.get?_push_of_some _ he₁
  generalize hh₂ : h₁.push { cls := .type "tuple", data := .seq #[es[i].key, es[i].val] } = h₂ at he₂ ⊢
  have ht₂ : h₂.get? hh.objs.size = some { cls := .type "tuple", data := .seq #[es[i].key, es[i].val] } := by rw [← hh₂, ← hz₁]; exact Heap.get?_push_size _ rfl
  have hz₂ : h₂.objs.size = hh.objs.size + 1 := by rw [← hh₂, Heap.size_push, hz₁]
  have hk₂ : ∀ b o, b ≠ it → hh.get? b = some o → h₂.get? b = some o := fun b o hb e => by rw [← hh₂]; exact Heap.get?_push_of_some _ (hs₁.extBut b o hb e)
  rw [hz₁]
  clear hh₂ he₁ hs₁ hz₁
  repeat ((fail_if_success (with_reducible show wpAny _ _ (setField _ _ _) _ _ _)); lk)
  refine wpAny_setField_rec he₂ (by simp) fun h₃ he₃ hs₃ => ?_
  dsimp only
  refine wpAny_bind (wpAny_setField_rec he₃ (by simp) fun h₄ he₄ hs₄ => ?_)
  refine wpAny_bind (wpAny_setField_rec he₄ (by simp) fun h₅ he₅ hs₅ => ?_)
  refine wpAny_bind (wpAny_setField_rec he₅ (by simp) fun h₆ he₆ hs₆ => ?_)
  have step : ∀ {a b : Heap}, Heap.SameBut it a b → ∀ c o, c ≠ it → a.get? c = some o → b.get? c = some o := fun q c o hc e => q.extBut c o hc e
  have hk₆ : ∀ c o, c ≠ it → h₂.get? c = some o → h₆.get? c = some o := fun c o hc e => step hs₆ c o hc (step hs₅ c o hc (step hs₄ c o hc (step hs₃ c o hc e)))
  have hz₆ : h₆.objs.size = hh.objs.size + 1 := by rw [← hz₂]; exact hs₆.1.trans (hs₅.1.trans (hs₄.1.trans hs₃.1))
  refine wpAny_bind (wpAny_letGo (wpAny_pure (wpAny_pure ⟨_, rfl, wpAny_pure ?_⟩)))
  refine h es[i].key h₆ hkey ?_ ?_ hz₆ fun b o hb e => hk₆ b o hb (hk₂ b o hb e)
  · rw [he₆, ← hval]
    rfl
  · rw [← hval]
    exact hk₆ _ _ (Nat.ne_of_gt hil) ht₂
theorem it_next1 {a : Addr} {oa : Obj} {f : Bool} {Q : Option Value → Shared → Prop} (hi : s.heap.get? it = some (itm d i kvs.length ep (rawInt a) f ok ov)) (hal : s.heap.get? a = some oa) (hai : a ≠ it) (hd : DatAt knd s.heap d kvs ep) (hx : kvs[i]? = some (k, v))
   (h : ∀ key h', knd.is k key = true → h'.get? it = some (itm d (i + 1) kvs.length ep (rawInt a) true ok ov) → h'.get? s.heap.objs.size = some { cls := .type "tuple", data := .seq #[key, v] } → h'.objs.size = s.heap.objs.size + 1 → 
      (∀ b o, b ≠ it → s.heap.get? b = some o → h'.get? b = some o) → Q (some (.ref s.heap.objs.size)) { s with heap := h' }) :
   wpAny (model prog w) A (pyNext (.ref it)) Q E s := by
  obtain ⟨o, es, ho, hdat, D⟩ := hd
  obtain ⟨hh, g, dr, t, os⟩ := s
  obtain ⟨oc, od, oda, osl⟩ := o
  dsimp only at hdat ho hi hal
  subst hdat
  have hT : Shared.TypeIs ⟨hh, g, dr, t, os⟩ (.ref it) "dict_itemiterator" := ⟨_, hi, rfl⟩
  have hsz := D.size
  have hlt : i < kvs.length := by
    rcases Nat.lt_or_ge i kvs.length with h | h
    · exact h
    · simp [List.getElem?_eq_none h] at hx
  unfold pyNext
  refine wpAny_bind (wpAny_attempt (wpAny_callSpecial?_slot (name := Str.ofString "__next__") hT PySem.F.slot_dict_itemiterator_next
    (wpAny_call_entry PySem.F.slot_dict_itemiterator_next hT PySem.F.entry_dict_itemiterator_next ?_ (PySem.F.args_dict_itemiterator_next_1 _))))
  unfold Builtin.«dict_itemiterator.__next__»
  repeat lk
  rw [if_neg (by rw [hsz]; simp)]
  repeat lk
  rw [if_neg (by simp)]
  repeat lk
  have hlt' : i < es.size := by rw [hsz]; exact hlt
  obtain ⟨hkey, hval⟩ := D.pairs.get? (e := es[i]) (by simp [hlt']) hx
  simp only [show ¬ ((i : Int) < 0) from by omega, if_false, Int.toNat_natCast, Array.getElem?_eq_getElem hlt']
  repeat ((fail_if_success (with_reducible show wpAny _ _ (setField _ _ _) _ _ _)); lk)
  (with_unfolding_all show wpAny _ _ (setField (.ref it) 3 (rawInt ((i : Int) + 1))) _ _ _)
  refine wpAny_setField_rec hi (by simp) fun h₁ he₁ hs₁ => ?_
  replace hs₁ : Heap.SameBut it hh h₁ := hs₁
  have he₁ : h₁.get? it = some (itm d (i + 1) kvs.length ep (rawInt a) f ok ov) := by
    rw [he₁]
    rfl
  have hil : it < hh.objs.size := Heap.lt_size hi
  clear hi
  have hz₁ : h₁.objs.size = hh.objs.size := hs₁.1
  dsimp only
  repeat lk
  have he₂ : (h₁.push { cls := .type "tuple", data := .seq #[es[i].key, es[i].val] }).get? it = some (itm d (i + 1) kvs.length ep (rawInt a) f ok ov) := Heap.get?_push_of_some _ he₁
  generalize hh₂ : h₁.push { cls := .type "tuple", data := .seq #[es[i].key, es[i].val] } = h₂ at he₂ ⊢
  have ht₂ : h₂.get? hh.objs.size = some { cls := .type "tuple", data := .seq #[es[i].key, es[i].val] } := by rw [← hh₂, ← hz₁]; exact Heap.get?_push_size _ rfl
  have hz₂ : h₂.objs.size = hh.objs.size + 1 := by rw [← hh₂, Heap.size_push, hz₁]
  have hk₂ : ∀ b o, b ≠ it → hh.get? b = some o → h₂.get? b = some o := fun b o hb e => by rw [← hh₂]; exact Heap.get?_push_of_some _ (hs₁.extBut b o hb e)
  have hal₂ := hk₂ a oa hai hal
  rw [hz₁]
  clear hh₂ he₁ hs₁ hz₁
  repeat ((fail_if_success (with_reducible show wpAny _ _ (setField _ _ _) _ _ _)); lk)
  have fin : ∀ h₃ : Heap, h₃.get? it = some (itm d (i + 1) kvs.length ep (rawInt a) true ok ov) → Heap.SameBut it h₂ h₃ → Q (some (.ref hh.objs.size)) ⟨h₃, g, dr, t, os⟩ := fun h₃ he₃ hs₃ =>
    h es[i].key h₃ hkey he₃ (by rw [← hval]; exact hs₃.extBut _ _ (Nat.ne_of_gt hil) ht₂) (by show h₃.objs.size = hh.objs.size + 1; rw [hs₃.1, hz₂]) fun b o hb e => hs₃.extBut b o hb (hk₂ b o hb e)
  rw [Int.toNat_natCast]
  refine look_alive (s := ⟨h₂, g, dr, t, os⟩) hal₂ ?_
  cases f with
  | true =>
    simp only [Option.isNone_some, Bool.false_eq_true, if_false]
    repeat lk
    exact ⟨_, rfl, wpAny_pure (fin h₂ he₂ (Heap.SameBut.refl _ _))⟩
  | false =>
    simp only [Option.isNone_some, Bool.false_eq_true, if_false]
    repeat ((fail_if_success (with_reducible show wpAny _ _ (setField _ _ _) _ _ _)); lk)
    refine wpAny_setField_rec he₂ (by simp) fun h₃ he₃ hs₃ => ?_
    repeat lk
    refine ⟨_, rfl, wpAny_pure (fin h₃ ?_ hs₃)⟩
    rw [he₃]; rfl
theorem it_end {a : Value} {f : Bool} {Q : Option Value → Shared → Prop} (hh : A.handled = none) (hi : s.heap.get? it = some (itm d i kvs.length ep a f ok ov)) (hd : DatAt knd s.heap d kvs ep) (hx : kvs[i]? = none)
   (h : ∀ h', Heap.ExtBut it s.heap h' → Q none { s with heap := h' }) : wpAny (model prog w) A (pyNext (.ref it)) Q E s := by
  obtain ⟨o, es, ho, hdat, D⟩ := hd
  obtain ⟨hp, g, dr, t, os⟩ := s
  obtain ⟨oc, od, oda, osl⟩ := o
  dsimp only at hdat ho hi
  subst hdat
  have hT : Shared.TypeIs ⟨hp, g, dr, t, os⟩ (.ref it) "dict_itemiterator" := ⟨_, hi, rfl⟩
  have hsz := D.size
  have hge : es.size ≤ i := by rw [hsz]; simpa using hx
  unfold pyNext
  refine wpAny_bind (wpAny_attempt (wpAny_callSpecial?_slot (name := Str.ofString "__next__") hT PySem.F.slot_dict_itemiterator_next
    (wpAny_call_entry PySem.F.slot_dict_itemiterator_next hT PySem.F.entry_dict_itemiterator_next ?_ (PySem.F.args_dict_itemiterator_next_1 _))))
  unfold Builtin.«dict_itemiterator.__next__»
  repeat lk
  rw [if_neg (by rw [hsz]; simp)]
  repeat lk
  rw [if_neg (by simp)]
  repeat lk
  simp only [show ¬ ((i : Int) < 0) from by omega, if_false, Int.toNat_natCast, Array.getElem?_eq_none hge]
  repeat ((fail_if_success (with_reducible show wpAny _ _ (setField _ _ _) _ _ _)); lk)
  (with_unfolding_all show wpAny _ _ (setField (.ref it) 2 .none) _ _ _)
  refine wpAny_setField_rec hi (by simp) fun h₁ he₁ hs₁ => ?_
  repeat lk
  refine wpAny_handled ?_
  rw [show A.in1.handled = none from hh]
  repeat lk
  refine wpAny_throw ?_
  refine wpAny_bind (wpAny_isInstance (T := "StopIteration") (b := true) ⟨_, Heap.get?_push_size _ rfl, rfl⟩ isSubtype_stop ?_)
  exact wpAny_pure (h _ ((hs₁.extBut.push _).push _))
end
end Mine
end
section
open PySem PySem.W PyProof.Rows PyProof.V PySem.Calls PySem.Spec Builtin Builtin.ObjectAttr
set_option Elab.async false
set_option maxRecDepth 100000
set_option maxHeartbeats 3000000
namespace Mine
theorem strKind_only {prog : Program} {w : World} {k : Str} {v : Value} (h : (PySem.strKind prog w).is k v = true) : ∃ t, v = .str k t := Value.isStrOf_shape h
/-- entries whose values are whole numbers, whatever their tokens -/
inductive Ints : List (Str × Value) → List (Str × Int) → Prop
  | nil : Ints [] []
  | cons {a : Str × Value} {b : Str × Int} {r : List (Str × Value)} {r' : List (Str × Int)} (h : a.1 = b.1 ∧ ∃ t, a.2 = .int b.2 t) (hr : Ints r r') : Ints (a :: r) (b :: r')
def look (cs : List (Str × Int)) (k : Str) : Int := ((cs.find? fun p => p.1 = k).map (·.2)).getD 0
def put (cs : List (Str × Int)) (k : Str) (c : Int) : List (Str × Int) := if cs.any (fun p => p.1 = k) then cs.map (fun p => if p.1 = k then (p.1, c) else p) else cs ++ [(k, c)]
theorem Ints.any {k : Str} : ∀ {kvs : List (Str × Value)} {cs : List (Str × Int)}, Ints kvs cs → (kvs.any fun p => p.1 = k) = cs.any fun p => p.1 = k
  | _, _, .nil => rfl
  | _, _, .cons h r => by
    have := Ints.any (k := k) r
    simp only [List.any_cons, h.1, this]
theorem Ints.length {kvs : List (Str × Value)} {cs : List (Str × Int)} (h : Ints kvs cs) : kvs.length = cs.length := by
  induction h with
  | nil => rfl
  | cons _ _ ih => simp [ih]
theorem Ints.append {a b : List (Str × Value)} {c d : List (Str × Int)} (h : Ints a c) (h2 : Ints b d) : Ints (a ++ b) (c ++ d) := by
  induction h with
  | nil => exact h2
  | cons x _ ih => exact .cons x ih
theorem Ints.put {k : Str} {c : Int} {t : Tok} {kvs : List (Str × Value)} {cs : List (Str × Int)} (h : Ints kvs cs) : Ints (stored kvs k (.int c t)) (put cs k c) := by
  unfold stored Mine.put
  rw [h.any]
  generalize (cs.any fun p => decide (p.1 = k)) = bb
  cases bb
  rotate_left
  · induction h with
    | nil => exact .nil
    | @cons a b _ _ x _ ih =>
      refine .cons ?_ ih
      dsimp only
      by_cases e : a.1 = k
      · have e2 : b.1 = k := x.1 ▸ e
        rw [if_pos e, if_pos e2]
        exact ⟨x.1, t, rfl⟩
      · have e2 : b.1 ≠ k := x.1 ▸ e
        rw [if_neg e, if_neg e2]
        exact x
  · exact h.append (.cons ⟨rfl, t, rfl⟩ .nil)
theorem Ints.look {k : Str} {t0 : Tok} {kvs : List (Str × Value)} {cs : List (Str × Int)} (h : Ints kvs cs) : ∃ t, (valueAt kvs k).getD (.int 0 t0) = .int (look cs k) t := by
  unfold valueAt Mine.look
  induction h with
  | nil => exact ⟨t0, rfl⟩
  | @cons a b _ _ x _ ih =>
    by_cases e : a.1 = k
    · have e2 : b.1 = k := x.1 ▸ e
      obtain ⟨t, ht⟩ := x.2
      refine ⟨t, ?_⟩
      rw [List.find?_cons_of_pos (by simp [e]), List.find?_cons_of_pos (by simp [e2])]
      exact ht
    · have e2 : b.1 ≠ k := x.1 ▸ e
      rw [List.find?_cons_of_neg (by simp [e]), List.find?_cons_of_neg (by simp [e2])]
      exact ih
theorem Ints.at {i : Nat} {k : Str} {v : Value} {kvs : List (Str × Value)} {cs : List (Str × Int)} (h : Ints kvs cs) (e : kvs[i]? = some (k, v)) : ∃ c t, cs[i]? = some (k, c) ∧ v = .int c t := by
  induction h generalizing i with
  | nil => simp at e
  | @cons a b _ _ x _ ih =>
    cases i with
    | zero =>
      simp only [List.getElem?_cons_zero, Option.some.injEq] at e
      subst e
      obtain ⟨t, ht⟩ := x.2
      obtain ⟨b1, b2⟩ := b
      exact ⟨b2, t, by rw [List.getElem?_cons_zero]; exact congrArg some (by rw [show k = b1 from x.1]), ht⟩
    | succ i =>
      rw [List.getElem?_cons_succ] at e ⊢
      exact ih e
theorem put_length (cs : List (Str × Int)) (k : Str) (c : Int) : (put cs k c).length ≤ cs.length + 1 := by
  unfold put
  split <;> simp
section
variable {prog : Program} {w : World} {A : Around} {E : Value → Shared → Prop} {s : Shared} {h₀ : Heap} {L x dx q vw it d : Addr} {m : Str → Option Value} {news : List (Addr × Obj)} {es : Array DictEntry} {n : Nat} 
  {K : Type} [DecidableEq K] {knd : KeyKind prog w K} {kvs : List (K × Value)} {k : K} {key v : Value} {ep i : Nat} {ok ov : Value} {env : Env} {body : List Stmt} {Q : Flow → Shared → Prop}
theorem DatAt.at {h h' : Heap} (D : DatAt knd h d kvs ep) (e : ∀ o, h.get? d = some o → h'.get? d = some o) : DatAt knd h' d kvs ep := let ⟨o, es, ho, r⟩ := D; ⟨o, es, e o ho, r⟩
theorem cnt_turns {elts : List Expr} {kk : Nat} {pos : Pos} (hh : A.handled = none) (I d : Addr) (hne : d ≠ I) (kvs : List (K × Value)) (ep : Nat) :
    KTurns prog w A (.Tuple elts kk pos) I [I, d] [I] kvs.length
      (fun i v h => ∃ T key k x, v = .ref T ∧ kvs[i]? = some (k, x) ∧ knd.is k key = true ∧ h.IsTuple T #[key, x])
      (fun i v h => ∃ T key k x ok ov, v = .ref T ∧ kvs[i]? = some (k, x) ∧ knd.is k key = true ∧ h.IsTuple T #[key, x] ∧ h.get? I = some (itm d (i + 1) kvs.length ep (rawInt T) false ok ov) ∧ DatAt knd h d kvs ep ∧ T ≠ I)
      (fun i h => (∃ ok ov, h.get? I = some (itm d i kvs.length ep .none false ok ov)) ∧ DatAt knd h d kvs ep) where
  sub := fun b hb => by simp at hb; simp [hb]
  frame := fun i h h' st hk => ⟨let ⟨ok, ov, he⟩ := st.1; ⟨ok, ov, hk I (by simp) _ he⟩, st.2.at (hk d (by simp))⟩
  item := fun i s Q E hi st hQ => by
    obtain ⟨⟨ok, ov, he⟩, hm⟩ := st
    obtain ⟨⟨k, x⟩, hx⟩ : ∃ p, kvs[i]? = some p := ⟨kvs[i], by simp [hi]⟩
    refine it_next0 he hm hx fun key h' hkey ho hT hsz hk => ?_
    exact hQ (.ref s.heap.objs.size) h' s.toks ⟨s.heap.objs.size, key, k, x, key, x, rfl, hx, hkey, ⟨_, hT, rfl, _, rfl⟩, ho, hm.at (fun o e => hk d o hne e), Nat.ne_of_gt (Heap.lt_size he)⟩ fun b o hb e => hk b o (fun h => hb (by simp [h])) e
  go := fun i v s Q E hm hQ => by
    obtain ⟨T, key, k, x, ok, ov, rfl, hx, hkey, hT, ho, hd, hTI⟩ := hm
    refine wpAny_letOwnedTupleGo_items ho fun h' he hs => ?_
    exact hQ h' ⟨T, key, k, x, rfl, hx, hkey, hT.at fun o e => hs.extBut T o hTI e⟩ ⟨⟨ok, ov, he⟩, hd.at fun o e => hs.extBut d o hne e⟩ fun b o hb e => hs.extBut b o (fun h => hb (by simp [h])) e
  done := fun s Q E st hQ => by
    obtain ⟨⟨ok, ov, he⟩, hm⟩ := st
    exact it_end hh he hm (by simp) fun h' hx => hQ h' s.toks fun b o hb e => hx b o (fun h => hb (by simp [h])) e
/-- a loop over the items of an object that holds names and whole numbers -/
theorem iter_cnt {elts : List Expr} {kk : Nat} {pos : Pos} {od : Obj} {kvs : List (Str × Value)} {cs : List (Str × Int)} {m₀ : Str → Option Value}
    (hh : A.handled = none) (F : Fr h₀ env.locals s.heap m₀) (N : News h₀ env.locals s.heap news) (hv : s.heap.get? vw = some { cls := .type "dict_items", data := .fields #[.ref d] }) (hd : DatAt (strKind prog w) s.heap d kvs ep) (hi : Ints kvs cs) (hm : (d, od) ∈ news)
    (rest₀ : ∀ I : Addr, (∀ p ∈ news, p.1 < I) → ItemsRest prog w A E h₀ env (.Tuple elts kk pos) body Q s [(I, "dict_itemiterator")] [(d, od)] (cs.map fun p => Itm.pairF (fun t => .str p.1 t) (.int p.2)) m₀ news) :
    wpAny (model prog w) A (pyIter (.ref vw)) (fun it s₂ => TurnsAt prog w A h₀ env (.Tuple elts kk pos) body Q E it s₂) E s := by
  have hax := N _ hm
  have hne : d ≠ s.heap.objs.size := Nat.ne_of_lt (Heap.lt_size hax.1)
  refine it_iter hv hd ?_
  refine ktu_core (tk0 := s.toks) (keep := [(d, od)]) (cnt_turns (knd := strKind prog w) hh s.heap.objs.size d hne kvs ep) (by rw [List.length_map]; exact hi.length) ?_ ?_ ?_ ?_ ?_ ?_ ?_ ?_ (F.push _) (fun p hp => ⟨Heap.get?_push_of_some _ (N p hp).1, (N p hp).2⟩) (And.intro hm trivial) (rest₀ _ fun p hp => Heap.lt_size (N p hp).1)
  · rintro i v h ⟨T', key, k, x, rfl, hx, hk, hT⟩
    obtain ⟨c, t, hc, rfl⟩ := hi.at hx
    obtain ⟨t', rfl⟩ := strKind_only hk
    exact ⟨.pairF (fun t => .str k t) (.int c), by rw [List.getElem?_map, hc]; rfl, T', t', _, rfl, Flat.int c t, hT⟩
  · rintro i h ⟨⟨ok, ov, he⟩, _⟩
    exact ⟨[(s.heap.objs.size, itm d i kvs.length ep .none false ok ov)], ⟨⟨rfl, rfl⟩, trivial⟩, fun p hp => by rw [List.mem_singleton.mp hp]; exact he⟩
  · intro b hb
    have hb' : b = s.heap.objs.size := by simpa using hb
    rw [hb']
    exact ⟨List.mem_cons_self .., next_is_new F⟩
  · intro b hb
    simpa using hb
  · intro b hb
    have hb' : b = s.heap.objs.size ∨ b = d := by simpa using hb
    rcases hb' with e | e
    · exact .inl (by simp [e])
    · exact .inr ⟨od, by simp [e]⟩
  · intro hI
    have hb' : env.locals = s.heap.objs.size ∨ env.locals = d := by simpa using hI
    rcases hb' with e | e
    · exact absurd F.ns.lt (e ▸ Nat.lt_irrefl _)
    · exact hax.2.1 e.symm
  · intro p hp hI
    exact absurd (Heap.lt_size (N p hp).1) ((List.mem_singleton.mp hI) ▸ Nat.lt_irrefl _)
  · exact ⟨⟨.none, .none, Heap.get?_push_size _ rfl⟩, hd.at fun o e => Heap.get?_push_of_some _ e⟩
end
end Mine
end
section
open PySem PySem.W PyProof.Rows PyProof.V PySem.Calls PySem.Spec Builtin Builtin.ObjectAttr
set_option Elab.async false
set_option maxRecDepth 100000
set_option maxHeartbeats 3000000
namespace Mine
theorem fill12 : PySem.Challenge.rw_dn0005_06 = PySem.Challenge.rw_dn0005_06 ∧ Mine.hd06.heap_39 = Mine.hd06.heap_39 := by
  k_fill
  exact ⟨rfl, rfl⟩
def gain (sg : Int) (cs : List (Str × Int)) (p : Str × Int) : List (Str × Int) := put cs p.1 (look cs p.1 + sg * p.2)
def gains (sg : Int) (cs ps : List (Str × Int)) : List (Str × Int) := ps.foldl (gain sg) cs
theorem gain_length (sg : Int) (cs : List (Str × Int)) (p : Str × Int) : (gain sg cs p).length ≤ cs.length + 1 := put_length ..
theorem Ints.keys {kvs : List (Str × Value)} {cs : List (Str × Int)} (h : Ints kvs cs) : kvs.map (·.1) = cs.map (·.1) := by
  induction h with
  | nil => rfl
  | cons x _ ih => rw [List.map_cons, List.map_cons, ih, x.1]
theorem gains_new : ∀ (ps acc : List (Str × Int)), (ps.map (·.1)).Nodup → (∀ p ∈ ps, ∀ q ∈ acc, q.1 ≠ p.1) → gains 1 acc ps = acc ++ ps
  | [], acc, _, _ => (List.append_nil acc).symm
  | p :: r, acc, hn, hd => by
    obtain ⟨n1, n2⟩ := List.nodup_cons.mp (show (p.1 :: r.map (·.1)).Nodup from hn)
    have hno : (acc.any fun q => decide (q.1 = p.1)) = false := by
      rw [List.any_eq_false]
      intro q hq
      simp [hd p (.head _) q hq]
    have hl : look acc p.1 = 0 := by
      unfold look
      rw [List.find?_eq_none.mpr (by intro q hq; simp [hd p (.head _) q hq])]
      rfl
    have hg : gain 1 acc p = acc ++ [p] := by
      unfold gain put
      rw [hno, if_neg Bool.false_ne_true, hl, Int.one_mul, Int.zero_add]
    show gains 1 (gain 1 acc p) r = _
    rw [hg, gains_new r _ n2, List.append_assoc]
    · rfl
    · intro a ha q hq
      rcases List.mem_append.mp hq with hq | hq
      · exact hd a (.tail _ ha) q hq
      · obtain rfl := List.mem_singleton.mp hq
        exact fun e => n1 (e ▸ List.mem_map_of_mem ha)
theorem gains_nil {ps : List (Str × Int)} (hn : (ps.map (·.1)).Nodup) : gains 1 [] ps = ps := gains_new ps [] hn (fun _ _ _ h => nomatch h)
theorem ne_cls {h₀ h : Heap} {L x : Addr} {o : Obj} {news : List (Addr × Obj)} {p : Addr × Obj} (N : News h₀ L h news) (hm : (x, o) ∈ news) (hp : p ∈ news) (hc : p.2.cls ≠ o.cls) : p.1 ≠ x := by
  intro e
  have a := (N _ hm).1
  have b := (N _ hp).1
  rw [e] at b
  dsimp only at a
  rw [a] at b
  exact hc (congrArg Obj.cls (Option.some.inj b)).symm
section
variable {prog : Program} {w : World} {A : Around} {E : Value → Shared → Prop} {s : Shared} {h₀ : Heap} {L x dx q : Addr} {m : Str → Option Value} {news l : List (Addr × Obj)} {es : Array DictEntry} {n : Nat} {kvs : List (Str × Value)} {cs : List (Str × Int)} {k : Str} {u t0 : Tok} {c : Int}
theorem cnt_dget_K {Q : Value → Shared → Prop} (F : Fr h₀ L s.heap m) (X₀ : (Mine.hd06.heap_39 w.params).In h₀) (N : News h₀ L s.heap news) (hm : (x, cnt es n dx) ∈ news) (hdx : (dx, dictOf [] 0) ∈ news) (hq : (q, bm "dict.get" x) ∈ news)
    (D : DIs (strKind prog w) es kvs) (hi : Ints kvs cs) (hs : (x == sysModules) = false) (h : ∀ t tk, Q (.int (look cs k) t) { s with toks := tk }) : wpAny (model prog w) A (call (.ref q) [.str k u, .int 0 t0] []) Q E s := by
  obtain ⟨t, ht⟩ := hi.look (k := k) (t0 := t0)
  exact cnt_dget (knd := strKind prog w) (k := k) F X₀ N hm hdx hq D (strKind_is _ _ _ _) hs (by rw [ht]; exact h _ _)
theorem cnt_set_K {Q : Unit → Shared → Prop} (l : List (Addr × Obj)) (F : Fr h₀ L s.heap m) (X₀ : (Mine.hd06.heap_39 w.params).In h₀) (N : News h₀ L s.heap news) (hm : (x, cnt es n dx) ∈ news) (hdx : (dx, dictOf [] 0) ∈ news)
    (D : DIs (strKind prog w) es kvs) (hi : Ints kvs cs) (hsz : cs.length ≤ sizeLine) (hl : ∀ p ∈ l, p ∈ news ∧ p.1 ≠ x)
    (h : ∀ h' es' n' kvs' tk, DIs (strKind prog w) es' kvs' → Ints kvs' (put cs k c) → Fr h₀ L h' m → News h₀ L h' ((x, cnt es' n' dx) :: l) → Q () { s with heap := h', toks := tk }) : wpAny (model prog w) A (setItem (.ref x) (.str k u) (.int c t0)) Q E s := by
  refine cnt_setItem (knd := strKind prog w) (k := k) F X₀ N hm hdx D (strKind_is _ _ _ _) (by rw [hi.length]; exact hsz) fun h' es' n' D' hx' hs' => ?_
  have hmx := N _ hm
  refine h h' es' n' _ _ D' hi.put (F.change hs' hmx.2.1 hmx.2.2) fun p hp => ?_
  rcases List.mem_cons.mp hp with rfl | hp
  · exact ⟨hx', hmx.2⟩
  · have z := hl p hp
    exact ⟨(hs'.2 p.1 z.2).trans (N p z.1).1, (N p z.1).2⟩
abbrev iview (d : Addr) : Obj := { cls := .type "dict_items", data := .fields #[.ref d] }
theorem cnt_items_K {Q : Value → Shared → Prop} (F : Fr h₀ L s.heap m) (X₀ : (Mine.hd06.heap_39 w.params).In h₀) (N : News h₀ L s.heap news) (hm : (x, cnt es n dx) ∈ news) (hdx : (dx, dictOf [] 0) ∈ news) (hs : (x == sysModules) = false)
    (h : ∀ v h', Fr h₀ L h' m → News h₀ L h' ((v, iview x) :: news) → (∀ p ∈ news, p.1 < v) → Q (.ref v) { s with heap := h' }) : wpAny (model prog w) A (call (.builtin "dict.items") [.ref x]) Q E s :=
  cnt_items F X₀ N hm hdx hs (h _ _ (F.push _) (N.push F _) fun p hp => Heap.lt_size (N p hp).1)
def BmAt (q : Addr) (id : String) (x : Addr) (h : Heap) : Prop := h.get? q = some (bm id x)
theorem bm_of {id : String} {h : Heap} (N : News h₀ L h news) (hq : (q, bm id x) ∈ news) : BmAt q id x h := (N _ hq).1
theorem keeps_B {M : Model} {id : String} (h : Heap) (X : BmAt q id x h) : ∃ k, (k = Keeper.frame ∨ k = Keeper.machine ∨ k = Keeper.boundFrame) ∧ Looks M h (keeperOf (.ref q)) k :=
  ⟨.machine, .inr (.inl rfl), (Looks.ld (part := none) X).andThen .now⟩
theorem callWith_B {M : Model} {id : String} {first : List Value} {pos : Pos} {env : Env} {e : Expr} {rest : List Expr} {Q : Value → Shared → Prop} (_N : News h₀ L s.heap news) (_q : (q, bm id x) ∈ news)
    (h : wpAny M A (spliced (backTo pos (starEach (e :: rest) env))) (fun vs s₁ => BmAt q id x s₁.heap ∧ wpAny M A (call (.ref q) (first ++ vs)) Q E s₁) E s)
    (he : starEach (e :: rest) env = (false, eval e env) :: starEach rest env := by rfl) (hplain : (backTo pos (starEach rest env)).any (·.1) = false := by rfl) :
    wpAny M A (callWith pos (.ref q) first (backTo pos (starEach (e :: rest) env)) []) Q E s := by
  rw [he] at h ⊢
  exact callWith_of (by show ((false || (backTo pos (starEach rest env)).any (·.1)) || false) = false; rw [hplain]; rfl) keeps_B (evalArgs_plain h)
theorem isDict_DIs {o : Obj} (hc : o.IsDictOf (strKind prog w) kvs) : ∃ es n, o.data = .dict es n ∧ DIs (strKind prog w) es kvs := by
  obtain ⟨es, n, _, a, b, c, d⟩ := hc
  exact ⟨es, n, a, b, c, d⟩
theorem fr_fun {h : Heap} {m m' : Str → Option Value} (F : Fr h₀ L h m) (e : ∀ y, m y = m' y) : Fr h₀ L h m' := by
  have : m = m' := funext e
  exact this ▸ F
end
section
variable {prog : Program} {w : World} {A : Around} {E : Value → Shared → Prop} {s : Shared} {env : Env} {h₀ : Heap} {target : Expr} {body : List Stmt} {Q : Flow → Shared → Prop} {ws : List (Addr × String)} {keep : List (Addr × Obj)}
theorem allObj_mono : ∀ {ws : List (Addr × String)} {k k' : List (Addr × Obj) → Prop}, (∀ its, k its → k' its) → AllObj ws k → AllObj ws k'
  | [], _, _, h, a => h [] a
  | w :: _, _, _, h, a => fun o ho => allObj_mono (fun its => h ((w.1, o) :: its)) (a o ho)
/-- a loop over names and whole numbers, by its invariant -/
theorem items_fold {St : Type} (f : St → Str × Int → St) (J : Nat → St → (Str → Option Value) → List (Addr × Obj) → Prop) (n : Nat)
    (step : ∀ i cs p m news, i < n → J i cs m news → ∀ T t u h tk, IsTup h T #[.str p.1 t, .int p.2 u] → Fr h₀ env.locals h m → AllObj ws (fun its => News h₀ env.locals h (its ++ news) →
      wpAny (model prog w) A (assign target env (.ref T)) (fun _ s₂ => wpAny (model prog w) A (execs body env) (UnrPostW h₀ env.locals { s with heap := h, toks := tk } its (fun m' n' => SubL keep n' ∧ J (i + 1) (f cs p) m' n') Q) E s₂) E { s with heap := h, toks := tk })) :
    ∀ (ps : List (Str × Int)) i cs m news, i + ps.length ≤ n → J i cs m news → (∀ m' news', J (i + ps.length) (ps.foldl f cs) m' news' → ∀ h tk, Fr h₀ env.locals h m' → News h₀ env.locals h news' → Q .next { s with heap := h, toks := tk }) →
      ItemsRest prog w A E h₀ env target body Q s ws keep (ps.map fun p => Itm.pairF (fun t => .str p.1 t) (.int p.2)) m news
  | [], i, cs, m, news, _, j, fin => ItemsRest.zero (fin m news j)
  | p :: r, i, cs, m, news, hn, j, fin => ItemsRest.pairF (f := fun t => .str p.1 t) (d := .int p.2) fun T t x h tk hx hT F => by
    obtain ⟨u, rfl⟩ := hx.int_inv
    have e : i + (p :: r).length = (i + 1) + r.length := by simp; omega
    have := step i cs p m news (by rw [e] at hn; omega) j T t u h tk hT F
    have key : ∀ m' n', J (i + 1) (f cs p) m' n' → ItemsRest prog w A E h₀ env target body Q s ws keep (r.map fun p => Itm.pairF (fun t => .str p.1 t) (.int p.2)) m' n' := fun m' n' hj =>
      items_fold f J n step r (i + 1) (f cs p) m' n' (e ▸ hn) hj (fun m2 n2 h2 => fin m2 n2 (by rw [e]; exact h2))
    refine allObj_mono (fun its hh N => wpAny_mono (hh N) (fun _ s₂ h₂ => wpAny_mono h₂ (fun fl s₃ q => ?_) fun _ _ e => e) fun _ _ e => e) this
    cases fl with
    | ret v => exact q
    | brk => exact q
    | next => obtain ⟨h', tk', m', n', e1, F', N', off, hk, hj⟩ := q; exact ⟨h', tk', m', n', e1, F', N', off, hk, key _ _ hj⟩
    | cont => obtain ⟨h', tk', m', n', e1, F', N', off, hk, hj⟩ := q; exact ⟨h', tk', m', n', e1, F', N', off, hk, key _ _ hj⟩
end
abbrev mU (x q D y : Addr) (ev cv : Option Value) : Str → Option Value := fun z => if z = Str.ofString "count" then cv else if z = Str.ofString "elem" then ev else if z = Str.ofString "self_get" then some (.ref q) else [(Str.ofString "kwds", Value.ref D), (Str.ofString "iterable", .ref y), (Str.ofString "self", .ref x)].lookup z
theorem subL_of : ∀ {l all : List (Addr × Obj)}, (∀ p ∈ l, p ∈ all) → SubL l all
  | [], _, _ => trivial
  | p :: _, _, h => ⟨h p (.head _), subL_of fun q hq => h q (.tail _ hq)⟩
theorem mU_set {x q D y : Addr} {ev cv : Option Value} {e c : Value} (z : Str) : (if z = Str.ofString "count" then some c else if z = Str.ofString "elem" then some e else mU x q D y ev cv z) = mU x q D y (some e) (some c) z := by
  unfold mU
  by_cases h1 : z = Str.ofString "count"
  · rw [if_pos h1, if_pos h1]
  · rw [if_neg h1, if_neg h1]
    by_cases h2 : z = Str.ofString "elem"
    · rw [if_pos h2, if_neg h1, if_pos h2]
    · simp only [if_neg h1, if_neg h2]
theorem mU_new {x q D y : Addr} (z : Str) : (if z = Str.ofString "self_get" then some (Value.ref q) else [(Str.ofString "kwds", Value.ref D), (Str.ofString "iterable", .ref y), (Str.ofString "self", .ref x)].lookup z) = mU x q D y none none z := by
  unfold mU
  by_cases h1 : z = Str.ofString "count"
  · subst h1; rfl
  · rw [if_neg h1]
    by_cases h2 : z = Str.ofString "elem"
    · subst h2; rfl
    · rw [if_neg h2]
end Mine
end
section
open PySem PySem.W PyProof.Rows PyProof.V PySem.Calls PySem.Spec Builtin Builtin.ObjectAttr
set_option Elab.async false
set_option maxRecDepth 100000
set_option maxHeartbeats 3000000
namespace Mine
theorem fill13 : PySem.Challenge.rw_dn0005_06 = PySem.Challenge.rw_dn0005_06 ∧ Mine.hd06.heap_39 = Mine.hd06.heap_39 := by
  k_fill
  exact ⟨rfl, rfl⟩
section
variable {prog : Program} {w : World} {A A₀ : Around} {s : Shared} {K : Frag} {L : Addr} {h₀ base : Heap} {m mg mb : Str → Option Value} {news : List (Addr × Obj)} {p : Program} {loose : List Str} {mean : ExcName → Option Value}
/-- a function's frame, with the activation known: for super() -/
theorem frame_at {E : Value → Shared → Prop} {R : Result → Shared → Prop} {env : Env} {outer : List Env} {qual : Str} {scope : Scope} {cl : List (Str × Addr)} {binds : List (Str × Value)} {body : List Stmt} {f : Addr} {cdv : Value}
    (B : Below A₀ base outer h₀) (F : Fr h₀ L s.heap m) (N : News h₀ L s.heap news) (hlim : h₀.NoLimit) (hA : A.frames = some (env :: outer)) (hf : env.frame = some L) (hke : env.scope.kind = .function)
    (hloc : ∀ y ∈ binds, scope.names.lookup y.1 = some .local)
    (h : ∀ g L' h₁, Fr h₀ L g m → Fr g L' h₁ (fun y => binds.reverse.lookup y) → News g L' h₁ news → Below A base (env :: outer) g → h₀.StaysIn g →
      _root_.PySem.wpAt (model prog w) (A.deeper (envX qual scope L' f cdv cl)) (.func body (envX qual scope L' f cdv cl)) (execs body (envX qual scope L' f cdv cl))
        (fun fl s' => LeaveK h₀ L m g R (match fl with | .ret v => v | _ => .none) s')
        (fun e s' => wpAny (model prog w) (A.deeper (envX qual scope L' f cdv cl)) (leaving (envX qual scope L' f cdv cl) e) (fun _ s'' => R (.error e) s'') (fun e' s'' => R (.error e') s'') s')
        { s with heap := h₁, toks := s.toks + binds.length })
    (hcell : ∀ x ∈ scope.names, x.2 ≠ .cell) (hk : scope.kind = .function) :
    wpAny (model prog w) A.in1 (newFunctionEnv scope mainGlobals cl binds (qual ++ ".<locals>.") (some f) cdv none builtinsNs) (fun env' s₂ => s₂.heap.NoLimit ∧ codeAny (model prog w) A (.func body env') R s₂) E s := by
  obtain ⟨FG, BG, st, lv⟩ := groundX (R := R) B F N hA hf hke
  refine wpAny_newFunctionEnv hcell hloc (fun h₁ hns hsb => ⟨(hlim.keeps F.keep).fresh _ hsb, ks_codeAny_funcAt ?_⟩) hk
  have kp : ∀ b o, s.heap.get? b = some o → h₁.get? b = some o := fun b o e => hsb.extBut b o (Nat.ne_of_lt (Heap.lt_size e)) (Heap.get?_push_of_some _ e)
  refine ks_wpAt_mono (h _ s.heap.objs.size h₁ FG ⟨hns, fun b o e => kp b o (of_hideAll _ e), Nat.le_of_eq (hideAll_size _ _)⟩
    (fun p hp => ⟨kp _ _ (N p hp).1, Nat.ne_of_lt (Heap.lt_size (N p hp).1), hideAll_none _ (List.mem_map_of_mem hp)⟩) BG st) (fun fl s' hl => lv _ _ hl) fun _ _ y => y
theorem more_at {env : Env} {outer : List Env} {R : Result → Shared → Prop} {name qual : Str} {params : Arguments} {body : List Stmt} {scope : Scope} {cl : List (Str × Addr)} {dV kV doc pm cdv ct oc : Value} {an od : Option Addr} {osl : Array (Option Value)} {f : Addr} {args : Args} {nm : Str} {ex front : List (Str × Value)} {g₁ : Addr → Sem (List (Str × Value))}
    (B : Below A₀ base outer h₀) (F : Fr h₀ L s.heap m) (X₀ : K.In h₀) (N : News h₀ L s.heap news) (T : Top p loose mean mg mb h₀) (hA : A.frames = some (env :: outer)) (hf : env.frame = some L) (hke : env.scope.kind = .function)
    (ho : K.lookup f = some ⟨oc, od, .func (fnX name qual params body scope cl dV kV doc pm an cdv ct), osl⟩) (hcd : codeIn K cdv qual = true) (hroom : A.depth < recursionLimit)
    (hx : args.kw.filter (fun x => !ownKw params x.1) = ex) (hnm : params.kwarg.map (·.arg) = some nm) (hn : (ex.map (·.1)).Nodup)
    (hfr : peek K ⟨prog, w.params⟩ (bindArgs (fnCut (fnX name qual params body scope cl dV kV doc pm an cdv ct)) (argsCut params args)) = some front)
    (hp : peekA K ⟨prog, w.params⟩ (bindArgs (fnX name qual params body scope cl dV kV doc pm an cdv ct) args) = some (dictOf [] 0, g₁))
    (hk₁ : ∀ D, g₁ D = (forIn ex PUnit.unit (fun x _ => (nsSet D x.1 x.2 >>= fun _ => pure (ForInStep.yield PUnit.unit))) >>= fun _ => pure (front ++ [(nm, Value.ref D)])))
    (hloc : ∀ D, ∀ y ∈ front ++ [(nm, Value.ref D)], scope.names.lookup y.1 = some .local)
    (h : ∀ D o g L' h₁ tk, (∀ p ∈ news, p.1 < D) → (D == sysModules) = false → o.IsDictOf (PySem.strKind prog w) ex → Fr h₀ L g m → Fr g L' h₁ (fun y => (front ++ [(nm, Value.ref D)]).reverse.lookup y) → News g L' h₁ ((D, o) :: news) → Below A base (env :: outer) g → K.In g → Top p loose mean mg mb g →
      _root_.PySem.wpAt (model prog w) (A.deeper (envX qual scope L' f cdv cl)) (.func body (envX qual scope L' f cdv cl)) (execs body (envX qual scope L' f cdv cl))
        (fun fl s' => LeaveK h₀ L m g R (match fl with | .ret v => v | _ => .none) s')
        (fun e s' => wpAny (model prog w) (A.deeper (envX qual scope L' f cdv cl)) (leaving (envX qual scope L' f cdv cl) e) (fun _ s'' => R (.error e) s'') (fun e' s'' => R (.error e') s'') s')
        { s with heap := h₁, toks := tk })
    (hco : scope.isCoroutine = false) (hgen : scope.isGenerator = false) (hk : scope.kind = .function)
    (hcell : ∀ x ∈ scope.names, x.2 ≠ .cell) : codeAny (model prog w) A (.call (.ref f) args) R s := by
  have _ := hx
  have _ := hnm
  have _ := hfr
  refine codeAny_call_function (fd := fnX name qual params body scope cl dV kV doc pm an cdv ct) (body := body) hroom ((X₀.keeps F.keep) _ _ ho) rfl hco hgen rfl (codeRec_of (X₀.keeps F.keep) hcd) ?_
  refine wp_of_peekA (o := dictOf [] 0) F N (X₀.keeps F.keep) rfl _ g₁ hp fun h' F' N' l => ?_
  rw [hk₁]
  refine wpAny_bind (kp_fill ex { s with heap := h' } [] 0 F' N' (fun p hp => Nat.ne_of_lt (l p hp)) (fun _ he => nomatch he) (fun _ he => nomatch he) hn fun h'' F'' N'' => wpAny_pure ?_)
  exact frame_at (cl := cl) (s := { s with heap := h'', toks := s.toks + ex.length }) B F'' N'' T.nolimit hA hf hke (hloc _)
    (fun g L' h₁ FG FL NG BG st => h _ _ g L' h₁ _ l (F.notModules (modules_low T.nolimit)) (kp_isDict s.toks (0 + ex.length) hn) FG FL NG BG (X₀.keeps st) (T.keeps st)) hcell hk
end
end Mine
end
section
open PySem PySem.W PyProof.Rows PyProof.V PySem.Calls PySem.Spec Builtin Builtin.ObjectAttr
set_option Elab.async false
set_option maxRecDepth 100000
set_option maxHeartbeats 3000000
namespace Mine
theorem fill15 : PySem.Challenge.rw_dn0005_06 = PySem.Challenge.rw_dn0005_06 ∧ Mine.hd06.heap_39 = Mine.hd06.heap_39 := by
  k_fill
  exact ⟨rfl, rfl⟩
section
variable {prog : Program} {w : World} {M : Model} {A : Around} {E : Value → Shared → Prop} {h : Heap} {g : Array GenState} {d : Drawn} {t : Nat} {os : OsState} {so D x C : Addr} {l₀ l : List Value} {K : Frag} {name : Str} {o : Obj} {id G tn : String}
theorem super_ga {tk : Tok} {Q : Fin → Shared → Prop}
    (hso : h.get? so = some (ks_superObj D x C)) (hno : Looks (model prog w) h (opaqueClassAbove (.ref C)) none)
    (hC : Looks (model prog w) h (mroOf (.ref C)) l₀) (hl : (l₀.dropWhile (· != .ref D)).drop 1 = l) (X : K.In h)
    (hf : alongIn K name l = some (some (.builtin id))) (ht : typeOf (.builtin id) = pure (.type tn)) (hg : typeLookup (.type tn) "__get__" = pure (some (.builtin G))) (hxC : x ≠ C) (hn : (name == ("__class__" : Str)) = false)
    (hget : ∀ A, wpAny (model prog w) A (call (.builtin G) [.builtin id, .ref x, .ref C] []) (fun v s' => v = .ref h.objs.size ∧ s' = ⟨h.push o, g, d, t, os⟩) (fun _ _ => False) ⟨h, g, d, t, os⟩)
    (hq : Q (.done (.ret (.ref h.objs.size))) ⟨h.push o, g, d, t, os⟩) :
    wpAny (model prog w) A (Builtin.«super.__getattribute__» ⟨[.ref so, .str name tk], []⟩) Q E ⟨h, g, d, t, os⟩ := by
  have hne : (Value.ref x == Value.ref C) = false := by simp [hxC]
  unfold Builtin.«super.__getattribute__»
  repeat ((fail_if_success (with_reducible show wpAny _ _ (notOfAnOpaqueClass _ _ _) _ _ _)); lk)
  rw [if_neg (by rw [hn]; exact Bool.false_ne_true)]
  refine wpAny_bind (ks_wpAny_notOpaque (C := C) hno ?_)
  rw [if_neg (by exact Bool.false_ne_true)]
  refine wpAny_bind (Looks.at hC ?_)
  (show wpAny _ _ (forIn (List.drop 1 (List.dropWhile (fun x_1 => x_1 != Value.ref D) l₀)) _ _ >>= _) _ _ _)
  rw [hl]
  refine wpAny_bind (ks_forIn_along X (fun _ _ => rfl) rfl ?_ hf)
  dsimp only
  refine wpAny_bind (wpAny_of_eq ht (wpAny_bind (wpAny_of_eq hg ?_)))
  dsimp only
  rw [if_neg (by show ¬ ((Value.ref x == Value.ref C) = true); rw [hne]; exact Bool.false_ne_true)]
  refine wpAny_bind (wpAny_holding (wpAny_mono (hget _) (fun v s' hv => ?_) fun _ _ z => z.elim))
  obtain ⟨rfl, rfl⟩ := hv
  repeat lk
  exact hq
theorem super_method {pl : Sem Bool} {Q : Value × List Value → Shared → Prop}
    (hso : h.get? so = some (ks_superObj D x C)) (hno : Looks (model prog w) h (opaqueClassAbove (.ref C)) none)
    (hC : Looks (model prog w) h (mroOf (.ref C)) l₀) (hl : (l₀.dropWhile (· != .ref D)).drop 1 = l) (X : K.In h)
    (hf : alongIn K name l = some (some (.builtin id))) (ht : typeOf (.builtin id) = pure (.type tn)) (hg : typeLookup (.type tn) "__get__" = pure (some (.builtin G))) (hxC : x ≠ C) (hn : (name == ("__class__" : Str)) = false)
    (hget : ∀ A, wpAny (model prog w) A (call (.builtin G) [.builtin id, .ref x, .ref C] []) (fun v s' => v = .ref h.objs.size ∧ s' = ⟨h.push o, g, d, t + 1, os⟩) (fun _ _ => False) ⟨h, g, d, t + 1, os⟩)
    (hq : Q (.ref h.objs.size, []) ⟨h.push o, g, d, t + 1, os⟩) : wpAny (model prog w) A (getMethod (.ref so) name pl) Q E ⟨h, g, d, t, os⟩ := by
  have hlk := F.ks_slot_super_ga.lookup
  have hT : ∀ t', (⟨h, g, d, t', os⟩ : Shared).TypeIs (.ref so) "super" := fun _ => ⟨_, hso, rfl⟩
  unfold getMethod
  refine wpAny_bind (wpAny_specialOf (hT _) hlk ?_)
  dsimp only
  rw [if_pos F.ks_canon_super_ga]
  unfold getAttr getAttrBy
  refine wpAny_bind (wpAny_bind (wpAny_mkText (wpAny_holding (wpAny_bind (wpAny_typeOf (hT _) (wpAny_bind (wpAny_of_eq hlk ?_)))))))
  (show wpAny _ _ (getAttrByItsOwn (.ref so) (.str name t) (.type "super") (.builtin "super.__getattribute__") true false) _ _ _)
  unfold getAttrByItsOwn hookBefore callGetattribute boundAndCalled
  refine wpAny_bind (wpAny_of_eq (show (if onTheHeap (.type "super") then typeLookup (.type "super") "__getattr__" else pure none) = pure none from rfl) ?_)
  refine wpAny_bind (wpAny_attempt (wpAny_holding ?_))
  (show wpAny _ _ (bindSpecial (.builtin "super.__getattribute__") (.ref so) >>= _) _ _ _)
  refine wpAny_bind (wpAny_of_eq (F.ks_slot_super_ga.bind _) ?_)
  refine wpAny_mono (Q := fun v s' => v = .ref h.objs.size ∧ s' = ⟨h.push o, g, d, t + 1, os⟩) (E := fun _ _ => False)
    (wpAny_call_entry F.ks_slot_super_ga (hT _) F.ks_entry_super_ga (super_ga hso hno hC hl X hf ht hg hxC hn hget ⟨_, rfl, rfl, rfl⟩) (F.ks_gaArgs_super _ _)) (fun v s' hv => ?_) fun _ _ z => z.elim
  obtain ⟨rfl, rfl⟩ := hv
  exact wpAny_pure (wpAny_pure hq)
end
end Mine
end
section
open PySem PySem.W PyProof.Rows PyProof.V PySem.Calls PySem.Spec Builtin Builtin.ObjectAttr
set_option Elab.async false
set_option maxRecDepth 100000
set_option maxHeartbeats 3000000
namespace Mine
theorem fill16 : PySem.Challenge.rw_dn0005_06 = PySem.Challenge.rw_dn0005_06 ∧ Mine.hd06.heap_39 = Mine.hd06.heap_39 := by
  k_fill
  exact ⟨rfl, rfl⟩
theorem slot_wd : Slot "wrapper_descriptor" "__get__" "wrapper_descriptor.__get__" :=
  .of (owner := "wrapper_descriptor") (n := "__get__") (by rw [typeLookup_type, builtinLookup_eq_fast]; kernel_rfl) (by decide +kernel) (by decide +kernel) (by decide +kernel)
    (by first | exact .inl (by decide +kernel) | exact .inr (by decide +kernel)) (by rw [isSubtype_type]; kernel_rfl)
theorem entry_wd : entryFor table "wrapper_descriptor.__get__" = some Builtin.«wrapper_descriptor.__get__» := entryFor_of_tree (by kernel_rfl)
theorem args_wd (a b c : Value) : argsOk "wrapper_descriptor.__get__" ⟨[a, b, c], []⟩ := by unfold argsOk; kernel_rfl
theorem upd_told : Manifest.toldItsClass.contains "dict.update" = false := by decide +kernel
theorem upd_type : typeOf (.builtin "dict.update") = pure (.type "method_descriptor") := by show builtinType _ = _; rw [builtinType_eq_fast]; kernel_rfl
theorem init_type : typeOf (.builtin "dict.__init__") = pure (.type "wrapper_descriptor") := by show builtinType _ = _; rw [builtinType_eq_fast]; kernel_rfl
theorem init_told : Manifest.toldItsClass.contains "dict.__init__" = false := by decide +kernel
theorem own_init : ".".intercalate ("dict.__init__".cutAt '.').dropLast = "dict" := by decide +kernel
theorem c_sup_upd (P : Params) : ks_superIn (Mine.hd06.heap_39 P) 1093 1093 (Str.ofString "update") = some (some (.builtin "dict.update")) := by ks_is
theorem c_sup_init (P : Params) : ks_superIn (Mine.hd06.heap_39 P) 1093 1093 (Str.ofString "__init__") = some (some (.builtin "dict.__init__")) := by ks_is
theorem c_third (P : Params) : nsIn (Mine.hd06.heap_39 P) cStatics "thirdparty.any" = some none := by k_is
section
variable {prog : Program} {w : World} {A : Around} {E : Value → Shared → Prop} {s : Shared} {K : Frag} {h₀ : Heap} {L x dx so : Addr} {m : Str → Option Value} {news : List (Addr × Obj)} {es : Array DictEntry} {n : Nat}
abbrev mw (id : String) (x : Addr) : Obj := { cls := .type "method-wrapper", data := .fields #[.builtin id, .ref x] }
theorem wd_get {x C : Addr} {ox : Obj} {od : Option Obj} {R : Result → Shared → Prop} 
    (I : InstAt s.heap x ox C od) (hi : Looks (model prog w) s.heap (isSubtype (.ref C) (.type "dict")) true)
    (h : R (.ok (.ret (.ref s.heap.objs.size))) { s with heap := s.heap.push (mw "dict.__init__" x) }) :
    codeAny (model prog w) A (.call (.builtin "wrapper_descriptor.__get__") ⟨[.builtin "dict.__init__", .ref x, .ref C], []⟩) R s := by
  obtain ⟨hh, g, d, t, os⟩ := s
  have hx := I.at_
  obtain ⟨c, dd, da, sl⟩ := ox
  have hc : c = .ref C := I.cls
  subst hc
  refine codeAny_call_builtin slot_wd.plain entry_wd (slot_wd.check _ _ _ _ _ _ _ _ init_type (args_wd _ _ _) ?_)
  unfold Builtin.«wrapper_descriptor.__get__»
  have hi' := hi
  rw [← own_init] at hi'
  repeat lk
  exact h
theorem super_K {id G tn : String} {name : Str} {o : Obj} {pl : Sem Bool} {Q : Value × List Value → Shared → Prop} (F : Fr h₀ L s.heap m) (X₀ : (Mine.hd06.heap_39 w.params).In h₀) (N : News h₀ L s.heap news) (hso : (so, ks_superObj 1093 x 1093) ∈ news) (hm : (x, cnt es n dx) ∈ news) (hdx : (dx, dictOf [] 0) ∈ news)
    (hm2 : ks_superIn (Mine.hd06.heap_39 w.params) 1093 1093 name = some (some (.builtin id))) (ht : typeOf (.builtin id) = pure (.type tn)) (hg : typeLookup (.type tn) "__get__" = pure (some (.builtin G))) (hn : (name == ("__class__" : Str)) = false)
    (hget : ∀ (A : Around) (s : Shared) (R : Result → Shared → Prop), InstAt s.heap x (cnt es n dx) 1093 (some (dictOf [] 0)) → Looks (model prog w) s.heap (isSubtype (.ref 1093) (.type "dict")) true → R (.ok (.ret (.ref s.heap.objs.size))) { s with heap := s.heap.push o } →
      codeAny (model prog w) A (.call (.builtin G) ⟨[.builtin id, .ref x, .ref 1093], []⟩) R s)
    (h : ∀ q h', Fr h₀ L h' m → News h₀ L h' ((q, o) :: news) → (∀ p ∈ news, p.1 < q) → Q (.ref q, []) { s with heap := h', toks := s.toks + 1 }) (hof : o.isFreed = false) : wpAny (model prog w) A (getMethod (.ref so) name pl) Q E s := by
  have X : (Mine.hd06.heap_39 w.params).In s.heap := X₀.keeps F.keep
  have I := inst_cnt N hm hdx
  obtain ⟨hh, g, d, t, os⟩ := s
  cases hc : clsIn (Mine.hd06.heap_39 w.params) 1093 with
  | none => unfold ks_superIn at hm2; rw [hc] at hm2; cases hm2
  | some cd =>
    unfold ks_superIn at hm2
    rw [hc] at hm2
    refine super_method (o := o) (N _ hso).1 (looks_opaque X (c_third _)) (l₀ := cd.mro) (fun A Q E s k q => wpAny_bind ((looks_clsIn X hc) A _ E s k (wpAny_pure q))) rfl X hm2 ht hg (ks_ne X I hc) hn (fun A => ?_) ?_
    · exact wpAny_call (hget A ⟨hh, g, d, t + 1, os⟩ _ I (looks_subIn X (c_sub _)) ⟨rfl, rfl⟩)
    · exact h _ _ (F.push _) (News.push (hfree := hof) F N _) fun p hp => Heap.lt_size (N p hp).1
theorem get_md : typeLookup (.type "method_descriptor") "__get__" = pure (some (.builtin "method_descriptor.__get__")) := slot_md.lookup
theorem get_wd : typeLookup (.type "wrapper_descriptor") "__get__" = pure (some (.builtin "wrapper_descriptor.__get__")) := slot_wd.lookup
theorem super_upd_K {pl : Sem Bool} {Q : Value × List Value → Shared → Prop} (F : Fr h₀ L s.heap m) (X₀ : (Mine.hd06.heap_39 w.params).In h₀) (N : News h₀ L s.heap news) (hso : (so, ks_superObj 1093 x 1093) ∈ news) (hm : (x, cnt es n dx) ∈ news) (hdx : (dx, dictOf [] 0) ∈ news)
    (h : ∀ q h', Fr h₀ L h' m → News h₀ L h' ((q, bm "dict.update" x) :: news) → (∀ p ∈ news, p.1 < q) → Q (.ref q, []) { s with heap := h', toks := s.toks + 1 }) : wpAny (model prog w) A (getMethod (.ref so) (Str.ofString "update") pl) Q E s :=
  super_K F X₀ N hso hm hdx (c_sup_upd _) upd_type get_md (by decide) (fun A s R I hi h => md_get (.inr rfl) upd_type upd_told I hi h) h rfl
theorem super_init_K {pl : Sem Bool} {Q : Value × List Value → Shared → Prop} (F : Fr h₀ L s.heap m) (X₀ : (Mine.hd06.heap_39 w.params).In h₀) (N : News h₀ L s.heap news) (hso : (so, ks_superObj 1093 x 1093) ∈ news) (hm : (x, cnt es n dx) ∈ news) (hdx : (dx, dictOf [] 0) ∈ news)
    (h : ∀ q h', Fr h₀ L h' m → News h₀ L h' ((q, mw "dict.__init__" x) :: news) → (∀ p ∈ news, p.1 < q) → Q (.ref q, []) { s with heap := h', toks := s.toks + 1 }) : wpAny (model prog w) A (getMethod (.ref so) (Str.ofString "__init__") pl) Q E s :=
  super_K F X₀ N hso hm hdx (c_sup_init _) init_type get_wd (by decide) (fun A s R I hi h => wd_get I hi h) h rfl
end
end Mine
end
section
open PySem PySem.W PyProof.Rows PyProof.V PySem.Calls PySem.Spec Builtin Builtin.ObjectAttr
set_option Elab.async false
set_option maxRecDepth 100000
set_option maxHeartbeats 3000000
namespace Mine
theorem fill17 : PySem.Challenge.rw_dn0005_06 = PySem.Challenge.rw_dn0005_06 ∧ Mine.hd06.heap_39 = Mine.hd06.heap_39 := by
  k_fill
  exact ⟨rfl, rfl⟩
theorem c_iter (P : Params) : findIn (Mine.hd06.heap_39 P) (.ref 1093) (Str.ofString "__iter__") = some (some (.builtin "dict.__iter__")) := by k_is
section
variable {prog : Program} {w : World} {K : Type} [DecidableEq K] {knd : KeyKind prog w K} {A : Around} {E : Value → Shared → Prop} {s : Shared} {d o : Addr} {od oo : Obj} {es es2 : Array DictEntry} {ep ep2 : Nat} {kvs more : List (K × Value)} {k : K} {key v : Value}
theorem dsetH {Q : Unit → Shared → Prop} (ho : s.heap.get? d = some od) (hd : od.data = .dict es ep) (D : DIs knd es kvs) (hkey : knd.is k key = true) (hsz : kvs.length ≤ sizeLine)
    (h : ∀ h' es' ep', DIs knd es' (stored kvs k v) → h'.get? d = some { od with data := .dict es' ep' } → Heap.SameBut d s.heap h' → Q () { s with heap := h' }) :
    wpAny (model prog w) A (dictSetHashed d key (knd.hash k) v) Q E s := by
  obtain ⟨oc, odd, oda, osl⟩ := od
  dsimp only at hd
  subst hd
  have hes : es.size ≤ sizeLine := by rw [D.size]; exact hsz
  unfold dictSetHashed
  refine wpAny_holding ?_
  refine wpAny_bind (wpAny_dictFind_of hkey ho rfl D.keys ?_)
  have hl : (es.toList.findIdx? fun e => knd.is k e.key) = es.findIdx? fun e => knd.is k e.key := by obtain ⟨l⟩ := es; simp
  have hidx : (es.findIdx? fun e => knd.is k e.key) = kvs.findIdx? fun kv => decide (kv.1 = k) := by rw [← hl, D.pairs.findIdx k]
  cases hi : es.findIdx? fun e => knd.is k e.key with
  | some i =>
    refine wpAny_bind (wpAny_rule (wpAny_bind (wpAny_updateDict ho rfl (wpAny_point (h _ (es.modify i fun e => { e with val := v }) ep ?_ (Heap.get?_update_self _ ho rfl) (Heap.SameBut.update ..))))))
    refine ⟨D.keys.modify _ _, ?_, ?_⟩
    · rw [stored, if_pos (any_of_findIdx_some (hidx ▸ hi))]
      have := D.pairs.modify D.nodup (hl.trans hi) v
      obtain ⟨l⟩ := es
      simpa using this
    · rw [stored, if_pos (any_of_findIdx_some (hidx ▸ hi)), keys_map_store]; exact D.nodup
  | none =>
    refine wpAny_bind (wpAny_rule (wpAny_updateDictKeys ho rfl (h _ (es.push ⟨knd.hash k, key, v⟩) (ep + 1) ?_ (Heap.get?_update_self _ ho rfl) (Heap.SameBut.update ..)) hes))
    have hno : (kvs.any fun kv => decide (kv.1 = k)) = false := by
      have h1 : (kvs.findIdx? fun kv => decide (kv.1 = k)) = none := hidx ▸ hi
      rw [List.findIdx?_eq_none_iff] at h1
      rw [List.any_eq_false]
      intro x hx
      simp [h1 x hx]
    refine ⟨D.keys.push hkey _, ?_, ?_⟩
    · rw [stored, if_neg (by rw [hno]; exact Bool.false_ne_true)]
      have := D.pairs.append hkey (knd.hash k) v
      obtain ⟨l⟩ := es
      simpa using this
    · rw [stored, if_neg (by rw [hno]; exact Bool.false_ne_true), List.map_append, List.nodup_append]
      refine ⟨D.nodup, by simp, ?_⟩
      intro a ha b hb e
      subst e
      obtain ⟨x, hx, rfl⟩ := List.mem_map.mp ha
      simp only [List.map_cons, List.map_nil, List.mem_singleton] at hb
      have := List.any_eq_false.mp hno x hx
      exact this (decide_eq_true hb)
/-- the entries of the object o laid into the object d, where there are few and their keys are texts -/
theorem merge_in {nm : String} {Q : Unit → Shared → Prop} (hdo : d ≠ o) (hoS : (o == sysModules) = false) (ho : s.heap.get? d = some od) (hd : od.data = .dict es ep) (D : DIs knd es kvs)
    (ho2 : s.heap.get? o = some oo) (hd2 : oo.data = .dict es2 ep2) (D2 : DIs knd es2 more) (hfew : (decide (es2.size ≤ 8) && es2.all fun e => (keyPart e.key).isSome) = true) (hsz : kvs.length + more.length ≤ sizeLine)
    (h : ∀ h' es' ep', DIs knd es' (merged kvs more) → h'.get? d = some { od with data := .dict es' ep' } → Heap.SameBut d s.heap h' → Q () { s with heap := h' }) :
    wpAny (model prog w) A (Builtin.Dict.mergeDict nm d o) Q E s := by
  unfold Builtin.Dict.mergeDict
  rw [if_neg (by simpa using hdo)]
  unfold Builtin.Dict.showsAll
  rw [if_neg (by rw [hoS]; exact Bool.false_ne_true)]
  refine wpAny_bind (wpAny_pure ?_)
  refine wpAny_bind (wpAny_dictEntries ho2 hd2 ?_)
  have hlen : more.length = es2.size := D2.size.symm
  dsimp only
  rw [hfew]
  simp only [Bool.not_true, Bool.false_eq_true, if_false]
  refine wpAny_bind (wpAny_dictEpoch ho2 hd2 ?_)
  refine wpAny_bind (wpAny_dictEntries ho2 hd2 ?_)
  rw [Std.Legacy.Range.forIn_eq_forIn_range']
  simp only [Std.Legacy.Range.size, Nat.sub_zero, Nat.add_sub_cancel, Nat.div_one]
  refine wpAny_bind ?_
  refine wpAny_forIn_list _ (fun rest _ s' => ∃ h' es' ep' i, s' = { s with heap := h' } ∧ rest = List.range' i (es2.size - i) ∧ i ≤ es2.size ∧ DIs knd es' (merged kvs (more.take i)) ∧ h'.get? d = some { od with data := .dict es' ep' } ∧ h'.get? o = some oo ∧ Heap.SameBut d s.heap h') _ ?_ ?_ _ _
    ⟨s.heap, es, ep, 0, rfl, by simp, Nat.zero_le _, by simpa [merged] using D, by rw [ho]; congr 1; obtain ⟨a, b, c, e⟩ := od; dsimp only at hd; subst hd; rfl, ho2, Heap.SameBut.refl _ _⟩
  · rintro x rest b s' ⟨h', es', ep', i, rfl, hr, hi, D', hd', ho', hs'⟩
    have hlt : i < es2.size := by
      rcases Nat.lt_or_ge i es2.size with q | q
      · exact q
      · rw [Nat.sub_eq_zero_of_le q] at hr; simp at hr
    obtain ⟨rfl, hrest⟩ : x = i ∧ rest = List.range' (i + 1) (es2.size - (i + 1)) := by
      have e : es2.size - i = (es2.size - (i + 1)) + 1 := by omega
      rw [e, List.range'_succ] at hr
      injection hr with h1 h2
      exact ⟨h1, h2⟩
    refine wpAny_bind (wpAny_dictEntries (s := { s with heap := h' }) ho' hd2 ?_)
    rw [Array.getElem?_eq_getElem hlt]
    obtain ⟨⟨k, v⟩, hkv⟩ : ∃ kv, more[x]? = some kv := ⟨more[x]'(by rw [hlen]; exact hlt), List.getElem?_eq_getElem _⟩
    obtain ⟨hkey, hval⟩ := D2.pairs.get? (e := es2[x]) (by simp [hlt]) hkv
    obtain ⟨k', hkey', hhash⟩ := D2.keys es2[x] (Array.getElem_mem hlt)
    obtain rfl : k' = k := knd.inj _ _ _ hkey' hkey
    dsimp only
    rw [hhash, hval]
    have hmx : (merged kvs (more.take x)).length ≤ sizeLine := by
      have e1 := merged_length_le kvs (more.take x)
      have e2 : (more.take x).length ≤ more.length := by rw [List.length_take]; omega
      omega
    refine wpAny_bind (wpAny_holding (dsetH (s := { s with heap := h' }) hd' rfl D' hkey hmx fun h'' es'' ep'' D'' hd'' hs'' => ?_))
    have hoo'' : h''.get? o = some oo := (hs''.2 o (Ne.symm hdo)).trans ho'
    refine wpAny_bind (wpAny_dictEpoch (s := { s with heap := h'' }) hoo'' hd2 ?_)
    rw [if_neg (by simp)]
    exact wpAny_pure ⟨h'', es'', ep'', x + 1, rfl, hrest, hlt, by rw [merged_take_succ kvs more x (k', v) hkv]; exact D'', hd'', hoo'', hs'.trans hs''⟩
  · rintro b s' ⟨h', es', ep', i, rfl, hr, hi, D', hd', ho', hs'⟩
    have hin : i = es2.size := by
      rcases Nat.lt_or_ge i es2.size with q | q
      · have e : es2.size - i = (es2.size - (i + 1)) + 1 := by omega
        rw [e, List.range'_succ] at hr; exact nomatch hr
      · exact Nat.le_antisymm hi q
    rw [hin, ← hlen, List.take_length] at D'
    exact wpAny_pure (h h' es' ep' D' hd' hs')
end
section
variable {prog : Program} {w : World} {A : Around} {E : Value → Shared → Prop} {s : Shared} {h₀ : Heap} {L x y dx dy q : Addr} {m : Str → Option Value} {news l : List (Addr × Obj)} {es es2 : Array DictEntry} {n n2 : Nat} {kvs more : List (Str × Value)}
theorem few_keys (D : DIs (PySem.strKind prog w) es2 more) (h : more.length ≤ 8) : (decide (es2.size ≤ 8) && es2.all fun e => (keyPart e.key).isSome) = true := by
  rw [Bool.and_eq_true, decide_eq_true_eq]
  refine ⟨by rw [D.size]; exact h, Array.all_eq_true.mpr fun i hi => ?_⟩
  obtain ⟨k, hk, _⟩ := D.keys es2[i] (Array.getElem_mem hi)
  obtain ⟨t, ht⟩ := Value.isStrOf_shape hk
  rw [ht]
  rfl
theorem full_ne2 (a : String) : (a ++ toString "." ++ toString (Bind.lastOf "dict.update") != "*") = true := by
  rw [bne_iff_ne]
  show (a ++ "." ++ Bind.lastOf "dict.update") ≠ "*"
  intro h
  have h2 := congrArg String.length h
  rw [String.length_append, String.length_append] at h2
  have e1 : (Bind.lastOf "dict.update").length = 6 := by decide +kernel
  have e2 : ("." : String).length = 1 := by decide +kernel
  have e3 : ("*" : String).length = 1 := by decide +kernel
  omega
/-- the bound update of a Counter, with a dict -/
theorem upd_dict {o : Obj} {Q : Value → Shared → Prop} (Fr0 : Fr h₀ L s.heap m) (X₀ : (Mine.hd06.heap_39 w.params).In h₀) (N : News h₀ L s.heap news) (hm : (x, cnt es n dx) ∈ news) (hdx : (dx, dictOf [] 0) ∈ news) (hq : (q, bm "dict.update" x) ∈ news) (hy : (y, o) ∈ news) (hc : o.IsDictOf (PySem.strKind prog w) more)
    (D : DIs (PySem.strKind prog w) es kvs) (hl8 : more.length ≤ 8) (hsz : kvs.length + more.length ≤ sizeLine) (hxy : x ≠ y) (hsx : (x == sysModules) = false) (hsy : (y == sysModules) = false)
    (h : ∀ h' es' n' t', DIs (PySem.strKind prog w) es' (merged kvs more) → h'.get? x = some (cnt es' n' dx) → Heap.SameBut x s.heap h' → Q .none { s with heap := h', toks := t' }) : wpAny (model prog w) A (call (.ref q) [.ref y] []) Q E s := by
  have X := X₀.keeps Fr0.keep
  have I := inst_cnt N hm hdx
  have hx := (N _ hm).1
  have hqo := (N _ hq).1
  have hyo := (N _ hy).1
  have L1 := looks_subIn (M := model prog w) X (c_nomod _)
  have L2 := looks_typeIn (M := model prog w) X (c_meta _)
  have L3 := looks_subIn (M := model prog w) X (c_noord _)
  obtain ⟨es2, n2, hod, D2⟩ := isDict_DIs hc
  have hex := hc.choose_spec.choose_spec.1
  obtain ⟨hh, g, d, t, os⟩ := s
  refine wpAny_call (codeAny_of_tree ?_)
  show wpAny _ _ (callAny (.ref q) _) _ _ _
  dsimp only at hqo hx hyo
  refine nd_load hqo ?_
  repeat lk
  obtain ⟨c1, d1, s1, cd, hC⟩ : ∃ c1 d1 s1 cd, hh.get? 1093 = some ⟨c1, d1, .cls cd, s1⟩ := by
    obtain ⟨cd, hc⟩ := Option.isSome_iff_exists.mp (c_clsIn w.params)
    unfold clsIn at hc
    split at hc
    · rename_i ho
      exact ⟨_, _, _, _, X _ _ ho⟩
    · cases hc
  have hfull := full_ne2 (toString cd.qualname.toString)
  refine nd_load hC ?_
  repeat lk
  rw [if_pos hfull]
  repeat lk
  refine ⟨by first | rfl | (with_unfolding_all rfl) | kernel_rfl, codeAny_builtin F.entry_dict_update ?_⟩
  unfold Builtin.«dict.update» Builtin.Dict.selfAndRest Builtin.Dict.updateCommon
  have LY : ∀ M, Looks M hh (typeOf (.ref y)) (.type "dict") := fun M => (Looks.ld (part := none) hyo).andThen (f := fun o => (pure o.cls : Sem Value)) (by rw [hex.1]; exact .now)
  have LY1 := LY (model prog w)
  repeat ((fail_if_success (with_reducible show wpAny _ _ (Builtin.Dict.mergeDict _ _ _) _ _ _)); lk)
  refine merge_in (s := ⟨hh, g, d, t, os⟩) hxy hsy hx rfl D hyo hod D2 (few_keys D2 hl8) hsz fun h' es' n' D' hx' hs' => ?_
  repeat lk
  exact h h' es' n' t D' hx' hs'
theorem md_get2 {id : String} {x C : Addr} {ox : Obj} {od : Option Obj} {R : Result → Shared → Prop} (hown : ".".intercalate (id.cutAt '.').dropLast = "dict") (hT : typeOf (.builtin id) = pure (.type "method_descriptor")) (ht : Manifest.toldItsClass.contains id = false)
    (I : InstAt s.heap x ox C od) (hi : Looks (model prog w) s.heap (isSubtype (.ref C) (.type "dict")) true)
    (h : R (.ok (.ret (.ref s.heap.objs.size))) { s with heap := s.heap.push { cls := .type "builtin_function_or_method", data := .fields #[.builtin id, .ref x] } }) :
    codeAny (model prog w) A (.call (.builtin "method_descriptor.__get__") ⟨[.builtin id, .ref x, .ref C], []⟩) R s := by
  obtain ⟨hh, g, d, t, os⟩ := s
  have hx := I.at_
  obtain ⟨c, dd, da, sl⟩ := ox
  have hc : c = .ref C := I.cls
  subst hc
  refine codeAny_call_builtin slot_md.plain entry_md (slot_md.check _ _ _ _ _ _ _ _ hT (args_md _ _ _) ?_)
  unfold Builtin.«method_descriptor.__get__»
  repeat lk
  rw [if_neg (by rw [ht]; exact Bool.false_ne_true)]
  have hi' := hi
  rw [← hown] at hi'
  repeat lk
  exact h
theorem c_keys (P : Params) : findIn (Mine.hd06.heap_39 P) (.ref 1093) (Str.ofString "keys") = some (some (.builtin "dict.keys")) := by k_is
theorem c_keys_get (P : Params) : specialIn (Mine.hd06.heap_39 P) (.builtin "dict.keys") (Str.ofString "__get__") = some (some (.builtin "method_descriptor.__get__")) := by k_is
theorem c_keys_takes (P : Params) : takesIn (Mine.hd06.heap_39 P) (.builtin "dict.keys") = some false := by k_is
theorem keys_told : Manifest.toldItsClass.contains "dict.keys" = false := by decide +kernel
theorem keys_type : typeOf (.builtin "dict.keys") = pure (.type "method_descriptor") := by show builtinType _ = _; rw [builtinType_eq_fast]; kernel_rfl
theorem own_keys : ".".intercalate ("dict.keys".cutAt '.').dropLast = "dict" := by decide +kernel
theorem sub_try_bind {K : Frag} {x C : Addr} {ox od : Obj} {name : Str} {gg a : Value} {Q : Option Value → Shared → Prop} (X : K.In s.heap) (I : InstAt s.heap x ox C (some od)) (h1 : findIn K (.ref C) "__getattribute__" = some (some (.builtin "dict.__getattribute__")))
    (h2 : findIn K (.ref C) "__getattr__" = some none) (h3 : subIn K (.ref C) (.type "dict") = some true) (h4 : findObj K C (some od) name = some (.bind gg a)) 
    (h : codeAny (model prog w) A.in1 (.call gg ⟨[a, .ref x, .ref C], []⟩) (fun r s' => match r with | .ok (.ret (.ref q)) => Q (some (.ref q)) s' | _ => False) { s with toks := s.toks + 1 }) :
    wpAny (model prog w) A (getAttr? (.ref x) name) Q E s := by
  obtain ⟨hh, g, d, t, os⟩ := s
  have L0 := I.type (M := model prog w)
  have L1 := looks_findIn (M := model prog w) X h1
  have L2 := looks_findIn (M := model prog w) X h2
  have L3 : Looks (model prog w) hh (isInstance (.ref x) (.type "dict")) true := L0.andThen (looks_subIn X h3)
  have L4 := looks_find (M := model prog w) X I h4
  have f3 := F.slot_dict_getattribute.bind (.ref x)
  unfold getAttr?
  refine wpAny_bind (wpAny_mkText ?_)
  unfold getAttrBy?
  refine wpAny_bind (wpAny_attempt ?_)
  unfold getAttrBy
  refine wpAny_holding ?_
  repeat ((fail_if_success (with_reducible show wpAny _ _ (Sem.attempt _ >>= _) _ _ _)); lk)
  refine wpAny_bind (wpAny_attempt (wpAny_holding ?_))
  unfold callGetattribute
  rw [if_neg (by decide)]
  unfold boundAndCalled
  refine wpAny_bind (wpAny_of_eq f3 ?_)
  dsimp only
  refine wpAny_call (codeAny_call_builtin F.slot_dict_getattribute.plain F.entry_dict_ga ?_)
  unfold checkBuiltinCall
  rw [kind_dict_ga, split_dict_ga]
  dsimp only
  repeat lk
  refine PySem.W.X.x_call (codeAny_mono h fun r s' hr => ?_) (by intro e; cases e)
  rcases r with e | f
  · exact hr.elim
  · cases f with
    | ret v =>
      cases v with
      | ref q => exact wpAny_pure (wpAny_pure (wpAny_pure (wpAny_pure (wpAny_pure hr))))
      | _ => exact hr.elim
    | _ => exact hr.elim
theorem cnt_keys_K {Q : Option Value → Shared → Prop} (F : Fr h₀ L s.heap m) (X₀ : (Mine.hd06.heap_39 w.params).In h₀) (N : News h₀ L s.heap news) (hm : (x, cnt es n dx) ∈ news) (hdx : (dx, dictOf [] 0) ∈ news)
    (h : ∀ q h', Fr h₀ L h' m → News h₀ L h' news → (∀ b o, s.heap.get? b = some o → h'.get? b = some o) → Q (some (.ref q)) { s with heap := h', toks := s.toks + 1 }) :
    wpAny (model prog w) A (getAttr? (.ref x) (Str.ofString "keys")) Q E s := by
  have X := X₀.keeps F.keep
  have I := inst_cnt N hm hdx
  refine sub_try_bind X I (c_ga _) (c_gt _) (c_sub _) (findObj_meth (c_has _) (c_keys _) (c_keys_get _) (c_keys_takes _) (by decide) (by rw [lookIn_dict]; rfl)) ?_
  refine md_get2 (s := { s with toks := s.toks + 1 }) own_keys keys_type keys_told I (looks_subIn X (c_sub _)) ?_
  exact h _ _ (F.push _) (news_sub (N.push F _) fun p hp => .tail _ hp) fun b o e => Heap.get?_push_of_some _ e
/-- the bound update of a Counter, with a Counter -/
theorem upd_cnt {Q : Value → Shared → Prop} (Fr0 : Fr h₀ L s.heap m) (X₀ : (Mine.hd06.heap_39 w.params).In h₀) (N : News h₀ L s.heap news) (hm : (x, cnt es n dx) ∈ news) (hdx : (dx, dictOf [] 0) ∈ news) (hq : (q, bm "dict.update" x) ∈ news) (hy : (y, cnt es2 n2 dy) ∈ news) (hdy : (dy, dictOf [] 0) ∈ news)
    (D : DIs (PySem.strKind prog w) es kvs) (D2 : DIs (PySem.strKind prog w) es2 more) (hl8 : more.length ≤ 8) (hsz : kvs.length + more.length ≤ sizeLine) (hxy : x ≠ y) (hsx : (x == sysModules) = false) (hsy : (y == sysModules) = false)
    (h : ∀ h₁ h' es' n' t', Fr h₀ L h₁ m → News h₀ L h₁ news → DIs (PySem.strKind prog w) es' (merged kvs more) → h'.get? x = some (cnt es' n' dx) → Heap.SameBut x h₁ h' → Q .none { s with heap := h', toks := t' }) : wpAny (model prog w) A (call (.ref q) [.ref y] []) Q E s := by
  have X := X₀.keeps Fr0.keep
  have I := inst_cnt N hm hdx
  have Iy := inst_cnt N hy hdy
  have hx := (N _ hm).1
  have hqo := (N _ hq).1
  have hyo := (N _ hy).1
  have L1 := looks_subIn (M := model prog w) X (c_nomod _)
  have L2 := looks_typeIn (M := model prog w) X (c_meta _)
  have L3 := looks_subIn (M := model prog w) X (c_noord _)
  have LY := Iy.type (M := model prog w)
  obtain ⟨hh, g, d, t, os⟩ := s
  refine wpAny_call (codeAny_of_tree ?_)
  show wpAny _ _ (callAny (.ref q) _) _ _ _
  dsimp only at hqo hx hyo
  refine nd_load hqo ?_
  repeat lk
  obtain ⟨c1, d1, s1, cd, hC⟩ : ∃ c1 d1 s1 cd, hh.get? 1093 = some ⟨c1, d1, .cls cd, s1⟩ := by
    obtain ⟨cd, hc⟩ := Option.isSome_iff_exists.mp (c_clsIn w.params)
    unfold clsIn at hc
    split at hc
    · rename_i ho
      exact ⟨_, _, _, _, X _ _ ho⟩
    · cases hc
  have hfull := full_ne2 (toString cd.qualname.toString)
  refine nd_load hC ?_
  repeat lk
  rw [if_pos hfull]
  repeat lk
  refine ⟨by first | rfl | (with_unfolding_all rfl) | kernel_rfl, codeAny_builtin F.entry_dict_update ?_⟩
  unfold Builtin.«dict.update» Builtin.Dict.selfAndRest Builtin.Dict.updateCommon
  repeat ((fail_if_success (with_reducible show wpAny _ _ (getAttr? _ _) _ _ _)); lk)
  refine cnt_keys_K (s := ⟨hh, g, d, t, os⟩) Fr0 X₀ N hy hdy fun q' h₁ F₁ N₁ hk₁ => ?_
  have X1 : (Mine.hd06.heap_39 w.params).In h₁ := X₀.keeps F₁.keep
  have Iy1 := inst_cnt N₁ hy hdy
  have hx1 := hk₁ _ _ hx
  have hy1 := hk₁ _ _ hyo
  have LY1 := Iy1.type (M := model prog w)
  have LY2 : Looks (model prog w) h₁ (isInstance (.ref y) (.type "dict")) true := LY1.andThen (looks_subIn X1 (c_sub _))
  have LY3 := looks_findIn (M := model prog w) X1 (c_iter _)
  dsimp only
  repeat ((fail_if_success (with_reducible show wpAny _ _ (Builtin.Dict.mergeDict _ _ _) _ _ _)); lk)
  refine merge_in (s := ⟨h₁, g, d, t + 1, os⟩) hxy hsy hx1 rfl D hy1 rfl D2 (few_keys D2 hl8) hsz fun h' es' n' D' hx' hs' => ?_
  repeat lk
  exact h h₁ h' es' n' (t + 1) F₁ N₁ D' hx' hs'
theorem upd_dict_K {o : Obj} {Q : Value → Shared → Prop} (l : List (Addr × Obj)) (F : Fr h₀ L s.heap m) (X₀ : (Mine.hd06.heap_39 w.params).In h₀) (N : News h₀ L s.heap news) (hm : (x, cnt es n dx) ∈ news) (hdx : (dx, dictOf [] 0) ∈ news) (hq : (q, bm "dict.update" x) ∈ news) (hy : (y, o) ∈ news) (hc : o.IsDictOf (PySem.strKind prog w) more)
    (D : DIs (PySem.strKind prog w) es kvs) (hl8 : more.length ≤ 8) (hsz : kvs.length + more.length ≤ sizeLine) (hxy : y ≠ x) (hsx : (x == sysModules) = false) (hsy : (y == sysModules) = false) (hl : ∀ p ∈ l, p ∈ news ∧ p.1 ≠ x)
    (h : ∀ h' es' n' tk, DIs (PySem.strKind prog w) es' (merged kvs more) → Fr h₀ L h' m → News h₀ L h' ((x, cnt es' n' dx) :: l) → Q .none { s with heap := h', toks := tk }) : wpAny (model prog w) A (call (.ref q) [.ref y] []) Q E s := by
  have hmx := N _ hm
  refine upd_dict F X₀ N hm hdx hq hy hc D hl8 hsz (Ne.symm hxy) hsx hsy fun h' es' n' t' D' hx' hs' => h h' es' n' t' D' (F.change hs' hmx.2.1 hmx.2.2) fun p hp => ?_
  rcases List.mem_cons.mp hp with rfl | hp
  · exact ⟨hx', hmx.2⟩
  · have z := hl p hp
    exact ⟨(hs'.2 p.1 z.2).trans (N p z.1).1, (N p z.1).2⟩
theorem upd_cnt_K {Q : Value → Shared → Prop} (l : List (Addr × Obj)) (F : Fr h₀ L s.heap m) (X₀ : (Mine.hd06.heap_39 w.params).In h₀) (N : News h₀ L s.heap news) (hm : (x, cnt es n dx) ∈ news) (hdx : (dx, dictOf [] 0) ∈ news) (hq : (q, bm "dict.update" x) ∈ news) (hy : (y, cnt es2 n2 dy) ∈ news) (hdy : (dy, dictOf [] 0) ∈ news)
    (D : DIs (PySem.strKind prog w) es kvs) (D2 : DIs (PySem.strKind prog w) es2 more) (hl8 : more.length ≤ 8) (hsz : kvs.length + more.length ≤ sizeLine) (hxy : y ≠ x) (hsx : (x == sysModules) = false) (hsy : (y == sysModules) = false) (hl : ∀ p ∈ l, p ∈ news ∧ p.1 ≠ x)
    (h : ∀ h' es' n' tk, DIs (PySem.strKind prog w) es' (merged kvs more) → Fr h₀ L h' m → News h₀ L h' ((x, cnt es' n' dx) :: l) → Q .none { s with heap := h', toks := tk }) : wpAny (model prog w) A (call (.ref q) [.ref y] []) Q E s := by
  have hmx := N _ hm
  refine upd_cnt F X₀ N hm hdx hq hy hdy D D2 hl8 hsz (Ne.symm hxy) hsx hsy fun h₁ h' es' n' t' F₁ N₁ D' hx' hs' => h h' es' n' t' D' (F₁.change hs' hmx.2.1 hmx.2.2) fun p hp => ?_
  rcases List.mem_cons.mp hp with rfl | hp
  · exact ⟨hx', hmx.2⟩
  · have z := hl p hp
    exact ⟨(hs'.2 p.1 z.2).trans (N₁ p z.1).1, (N₁ p z.1).2⟩
theorem merged_nil (hn : (more.map (·.1)).Nodup) : merged [] more = more := merged_nil_of_nodup more hn
end
end Mine
end
section
open PySem PySem.W PyProof.Rows PyProof.V PySem.Calls PySem.Spec Builtin Builtin.ObjectAttr
set_option Elab.async false
set_option maxRecDepth 100000
set_option maxHeartbeats 3000000
namespace Mine
theorem fill18 : PySem.Challenge.rw_dn0005_06 = PySem.Challenge.rw_dn0005_06 ∧ Mine.hd06.heap_39 = Mine.hd06.heap_39 := by
  k_fill
  exact ⟨rfl, rfl⟩
/-- a mapping among the objects: a dict or a Counter -/
def MapIn (prog : Program) (w : World) (y : Addr) (l : List (Addr × Obj)) (kvs : List (Str × Value)) : Prop :=
  (∃ o, (y, o) ∈ l ∧ o.IsDictOf (PySem.strKind prog w) kvs) ∨ ∃ es n dy, (y, cnt es n dy) ∈ l ∧ (dy, dictOf [] 0) ∈ l ∧ DIs (PySem.strKind prog w) es kvs
theorem MapIn.sub {prog : Program} {w : World} {y : Addr} {l l' : List (Addr × Obj)} {kvs : List (Str × Value)} (h : MapIn prog w y l kvs) (hs : ∀ p ∈ l, p ∈ l') : MapIn prog w y l' kvs := by
  rcases h with ⟨o, a, b⟩ | ⟨es, n, dy, a, b, c⟩
  · exact .inl ⟨o, hs _ a, b⟩
  · exact .inr ⟨es, n, dy, hs _ a, hs _ b, c⟩
theorem MapIn.dis {prog : Program} {w : World} {y : Addr} {l : List (Addr × Obj)} {kvs : List (Str × Value)} (h : MapIn prog w y l kvs) : ∃ o es n, (y, o) ∈ l ∧ o.data = .dict es n ∧ DIs (PySem.strKind prog w) es kvs := by
  rcases h with ⟨o, a, b⟩ | ⟨es, n, dy, a, b, c⟩
  · obtain ⟨es, n, h1, h2⟩ := isDict_DIs b
    exact ⟨o, es, n, a, h1, h2⟩
  · exact ⟨_, es, n, a, rfl, c⟩
section
variable {prog : Program} {w : World} {A A₀ : Around} {E : Value → Shared → Prop} {base h₀ : Heap} {outer : List Env} {env : Env} {L x dx y q : Addr} {m mg mb : Str → Option Value} {mean : ExcName → Option Value} {s : Shared} {news : List (Addr × Obj)} {o : Obj} {es : Array DictEntry} {n : Nat} {kvs kvs' ex : List (Str × Value)}
theorem isi_map_K {Q : Value → Shared → Prop} (hA : A.frames = some (env :: outer)) (hf : env.frame = some L) (hk : env.scope.kind = .function) (hh : A.handled = none) (hg : A.guards = some []) (hd : A.depth ≤ 550) (hu : A.units + 1 ≤ 2500)
   (B : Below A₀ base outer h₀) (F : Fr h₀ L s.heap m) (X : (Mine.hd06.heap_39 w.params).In h₀) (N : News h₀ L s.heap news) (T : Top vw ls mean mg mb h₀) (hm : MapIn prog w y news kvs)
   (h : ∀ h' tk, Fr h₀ L h' m → News h₀ L h' news → Q (.bool true) { s with heap := h', toks := tk }) :
   wpAny (model prog w) A (call (.builtin "isinstance") [.ref y, .ref 471]) Q E s := by
  rcases hm with ⟨o, a, b⟩ | ⟨es, n, dy, a, b, c⟩
  · exact isi_dict_K hA hf hk hh hg hd hu B F X N T a b.choose_spec.choose_spec.1.1 h
  · exact isi_cnt_K hA hf hk hh hg hd hu B F X N T a b h
theorem meth_items_K {pl : Sem Bool} {Q : Value × List Value → Shared → Prop} (F : Fr h₀ L s.heap m) (X₀ : (Mine.hd06.heap_39 w.params).In h₀) (N : News h₀ L s.heap news) (hm : MapIn prog w y news kvs)
   (h : Q (.builtin "dict.items", [.ref y]) s) : wpAny (model prog w) A (getMethod (.ref y) (Str.ofString "items") pl) Q E s := by
  rcases hm with ⟨o, a, b⟩ | ⟨es, n, dy, a, b, c⟩
  · obtain ⟨_, _, hx, _⟩ := b
    exact getMethod_builtin ⟨o, (N _ a).1, hx.1⟩ PySem.F.plainAttrs_dict PySem.F.slot_dict_items PySem.F.type_dict_items (fun b e => by injection e with e; subst e; exact ⟨o, (N _ a).1, hx.2.1⟩) h
  · exact sub_method (tn := "method_descriptor") (X₀.keeps F.keep) (inst_cnt N a b) (c_ga _) (c_gt _) (c_items _) (by k_is) (by decide) (by show (lookIn (Str.ofString "items") (dictOf [] 0)).map _ = _; rw [lookIn_dict]; rfl) h
theorem items_map_K {Q : Value → Shared → Prop} (F : Fr h₀ L s.heap m) (X₀ : (Mine.hd06.heap_39 w.params).In h₀) (N : News h₀ L s.heap news) (hm : MapIn prog w y news kvs) (hs : (y == sysModules) = false)
    (h : ∀ v h', Fr h₀ L h' m → News h₀ L h' ((v, iview y) :: news) → (∀ p ∈ news, p.1 < v) → Q (.ref v) { s with heap := h' }) : wpAny (model prog w) A (call (.builtin "dict.items") [.ref y]) Q E s := by
  rcases hm with ⟨o, a, b⟩ | ⟨es, n, dy, a, b, c⟩
  · exact call_meetsIn PySem.F.slot_dict_items (T := "dict") ⟨o, (N _ a).1, b.choose_spec.choose_spec.1.1⟩ PySem.F.entry_dict_items (PySem.F.args_dict_items_1 _) (meets_dict_items (PySem.strKind prog w) y hs) ⟨⟨kvs, (Heap.dictOf_iff).mpr ⟨o, (N _ a).1, b⟩⟩,
      h _ _ (F.push _) (N.push F _) fun p hp => Heap.lt_size (N p hp).1⟩
  · exact cnt_items_K F X₀ N a b hs h
theorem upd_map_K {Q : Value → Shared → Prop} (l : List (Addr × Obj)) (F : Fr h₀ L s.heap m) (X₀ : (Mine.hd06.heap_39 w.params).In h₀) (N : News h₀ L s.heap news) (hm : (x, cnt es n dx) ∈ news) (hdx : (dx, dictOf [] 0) ∈ news) (hq : (q, bm "dict.update" x) ∈ news) (hy : MapIn prog w y news kvs')
    (D : DIs (PySem.strKind prog w) es kvs) (hl8 : kvs'.length ≤ 8) (hsz : kvs.length + kvs'.length ≤ sizeLine) (hxy : y ≠ x) (hsx : (x == sysModules) = false) (hsy : (y == sysModules) = false) (hl : ∀ p ∈ l, p ∈ news ∧ p.1 ≠ x)
    (h : ∀ h' es' n' tk, DIs (PySem.strKind prog w) es' (merged kvs kvs') → Fr h₀ L h' m → News h₀ L h' ((x, cnt es' n' dx) :: l) → Q .none { s with heap := h', toks := tk }) : wpAny (model prog w) A (call (.ref q) [.ref y] []) Q E s := by
  rcases hy with ⟨o, a, b⟩ | ⟨es, n, dy, a, b, c⟩
  · exact upd_dict_K l F X₀ N hm hdx hq a b D hl8 hsz hxy hsx hsy hl h
  · exact upd_cnt_K l F X₀ N hm hdx hq a b D c hl8 hsz hxy hsx hsy hl h
theorem dict_truthy_K {Q : Bool → Shared → Prop} (N : News h₀ L s.heap news) (hm : (y, o) ∈ news) (hc : o.IsDictOf (PySem.strKind prog w) ex) (hs : (y == sysModules) = false) (hl : ex.length ≤ 4000) (h : ∀ t, Q (!ex.isEmpty) { s with toks := t }) : wpAny (model prog w) A (truthy (.ref y)) Q E s :=
  wpAny_truthy_dict (knd := PySem.strKind prog w) hs ((Heap.dictOf_iff).mpr ⟨o, (N _ hm).1, hc⟩) (by omega) (h _)
end
end Mine
end
section
open PySem PySem.W PyProof.Rows PyProof.V PySem.Calls PySem.Spec Builtin Builtin.ObjectAttr
set_option Elab.async false
set_option maxRecDepth 100000
set_option maxHeartbeats 3000000
namespace Mine
theorem fill19 : PySem.Challenge.rw_dn0005_06 = PySem.Challenge.rw_dn0005_06 ∧ Mine.hd06.heap_39 = Mine.hd06.heap_39 := by
  k_fill
  exact ⟨rfl, rfl⟩
/-- what a call of the method f does with the mapping at D, two levels deeper than l -/
def RecSpec (prog : Program) (w : World) (f : Addr) (sg : Int) (l : Nat) (ex : List (Str × Value)) (cs2 : List (Str × Int)) : Prop :=
  ∀ {A₀ : Around} {base h₀ : Heap} {outer : List Env} {e0 : Env} {L : Addr} {m mg mb : Str → Option Value} {mean : ExcName → Option Value} {s : Shared} {R : Result → Shared → Prop} {rest : List (Addr × Obj)} {x dx D : Addr} {es : Array DictEntry} {n : Nat} {kvs : List (Str × Value)} {cs : List (Str × Int)},
    DIs (PySem.strKind prog w) es kvs → Ints kvs cs → (x == sysModules) = false → es.size ≤ sizeLine → cs.length + cs2.length ≤ 4000 → (∀ p ∈ rest, p.1 ≠ x) → MapIn prog w D rest ex → (D == sysModules) = false →
    Below A₀ base outer h₀ → Fr h₀ L s.heap m → (Mine.hd06.heap_39 w.params).In h₀ → News h₀ L s.heap ((x, cnt es n dx) :: (dx, dictOf [] 0) :: rest) → Top vw ls mean mg mb h₀ →
    (∀ h' tk es' n' kvs₁, DIs (PySem.strKind prog w) es' kvs₁ → Ints kvs₁ (gains sg cs cs2) → Fr h₀ L h' m → News h₀ L h' ((x, cnt es' n' dx) :: (dx, dictOf [] 0) :: rest) → R (.ok (.ret .none)) {s with heap := h', toks := tk}) →
    codeAny (model prog w) (AK l (ek e0 L) outer) (.call (.ref f) ⟨[.ref x, .ref D], []⟩) R s
theorem c_upd (P : Params) : findIn (Mine.hd06.heap_39 P) (.ref 1093) (Str.ofString "update") = some (some (.ref 936)) := by k_is
theorem c_upd_fn (P : Params) : typeIn (Mine.hd06.heap_39 P) (.ref 936) = some (.type "function") := by k_is
theorem c_subt (P : Params) : findIn (Mine.hd06.heap_39 P) (.ref 1093) (Str.ofString "subtract") = some (some (.ref 944)) := by k_is
theorem c_subt_fn (P : Params) : typeIn (Mine.hd06.heap_39 P) (.ref 944) = some (.type "function") := by k_is
/-- texts, whatever their tokens -/
inductive Strs : List Value → List Str → Prop
  | nil : Strs [] []
  | cons {k : Str} {t : Tok} {r : List Value} {r' : List Str} (hr : Strs r r') : Strs (.str k t :: r) (k :: r')
def ones (ks : List Str) : List (Str × Int) := ks.map fun k => (k, 1)
section
variable {prog : Program} {w : World} {A : Around} {E : Value → Shared → Prop} {s : Shared} {env : Env} {h₀ : Heap} {target : Expr} {body : List Stmt} {Q : Flow → Shared → Prop} {ws : List (Addr × String)} {keep : List (Addr × Obj)}
/-- a loop over texts, by its invariant -/
theorem vals_fold {St : Type} (f : St → Str × Int → St) (J : Nat → St → (Str → Option Value) → List (Addr × Obj) → Prop) (n : Nat)
    (step : ∀ i cs k t m news, i < n → J i cs m news → ∀ h tk, Fr h₀ env.locals h m → AllObj ws (fun its => News h₀ env.locals h (its ++ news) →
      wpAny (model prog w) A (assign target env (.str k t)) (fun _ s₂ => wpAny (model prog w) A (execs body env) (UnrPostW h₀ env.locals { s with heap := h, toks := tk } its (fun m' n' => SubL keep n' ∧ J (i + 1) (f cs (k, 1)) m' n') Q) E s₂) E { s with heap := h, toks := tk })) :
    ∀ {vs : List Value} {ks : List Str}, Strs vs ks → ∀ i cs m news, i + vs.length ≤ n → J i cs m news → (∀ m' news', J (i + vs.length) ((ones ks).foldl f cs) m' news' → ∀ h tk, Fr h₀ env.locals h m' → News h₀ env.locals h news' → Q .next { s with heap := h, toks := tk }) →
      ItemsRest prog w A E h₀ env target body Q s ws keep (vs.map .val) m news
  | _, _, .nil, i, cs, m, news, _, j, fin => ItemsRest.zero (fin m news j)
  | _, _, .cons (k := k) (t := t) (r := r) hr, i, cs, m, news, hn, j, fin => ItemsRest.val fun h tk F => by
    have e : i + (Value.str k t :: r).length = (i + 1) + r.length := by simp; omega
    have := step i cs k t m news (by rw [e] at hn; omega) j h tk F
    have key : ∀ m' n', J (i + 1) (f cs (k, 1)) m' n' → ItemsRest prog w A E h₀ env target body Q s ws keep (r.map .val) m' n' := fun m' n' hj =>
      vals_fold f J n step hr (i + 1) (f cs (k, 1)) m' n' (e ▸ hn) hj (fun m2 n2 h2 => fin m2 n2 (by rw [e]; exact h2))
    refine allObj_mono (fun its hh N => wpAny_mono (hh N) (fun _ s₂ h₂ => wpAny_mono h₂ (fun fl s₃ q => ?_) fun _ _ e => e) fun _ _ e => e) this
    cases fl with
    | ret v => exact q
    | brk => exact q
    | next => obtain ⟨h', tk', m', n', e1, F', N', off, hk, hj⟩ := q; exact ⟨h', tk', m', n', e1, F', N', off, hk, key _ _ hj⟩
    | cont => obtain ⟨h', tk', m', n', e1, F', N', off, hk, hj⟩ := q; exact ⟨h', tk', m', n', e1, F', N', off, hk, key _ _ hj⟩
end
theorem Strs.length {vs : List Value} {ks : List Str} (h : Strs vs ks) : vs.length = ks.length := by
  induction h with
  | nil => rfl
  | cons _ ih => simp [ih]
theorem gains_length (sg : Int) : ∀ (cs ps : List (Str × Int)), (gains sg cs ps).length ≤ cs.length + ps.length
  | cs, [] => Nat.le_refl _
  | cs, p :: r => by
    have a := gain_length sg cs p
    have b := gains_length sg (gain sg cs p) r
    show (gains sg (gain sg cs p) r).length ≤ _
    rw [List.length_cons]
    omega
abbrev mC (x q y : Addr) (ev : Option Value) : Str → Option Value := fun z => if z = Str.ofString "elem" then ev else if z = Str.ofString "mapping_get" then some (.ref q) else [(Str.ofString "iterable", Value.ref y), (Str.ofString "mapping", .ref x)].lookup z
theorem mC_set {x q y : Addr} {ev : Option Value} {e : Value} (z : Str) : (if z = Str.ofString "elem" then some e else mC x q y ev z) = mC x q y (some e) z := by
  unfold mC
  by_cases h2 : z = Str.ofString "elem"
  · rw [if_pos h2, if_pos h2]
  · simp only [if_neg h2]
theorem mC_new {x q y : Addr} (z : Str) : (if z = Str.ofString "mapping_get" then some (Value.ref q) else [(Str.ofString "iterable", Value.ref y), (Str.ofString "mapping", .ref x)].lookup z) = mC x q y none z := by
  unfold mC
  by_cases h1 : z = Str.ofString "elem"
  · subst h1; rfl
  · rw [if_neg h1]
abbrev mV (x D : Addr) (y : Value) (gv ev cv : Option Value) : Str → Option Value := fun z => if z = Str.ofString "count" then cv else if z = Str.ofString "elem" then ev else if z = Str.ofString "self_get" then gv else [(Str.ofString "kwds", Value.ref D), (Str.ofString "iterable", y), (Str.ofString "self", .ref x)].lookup z
theorem mV_new {x D : Addr} {y : Value} (z : Str) : ([(Str.ofString "kwds", Value.ref D), (Str.ofString "iterable", y), (Str.ofString "self", .ref x)].lookup z) = mV x D y none none none z := by
  unfold mV
  by_cases h1 : z = Str.ofString "count"
  · subst h1; rfl
  · rw [if_neg h1]
    by_cases h2 : z = Str.ofString "elem"
    · subst h2; rfl
    · rw [if_neg h2]
      by_cases h3 : z = Str.ofString "self_get"
      · subst h3; rfl
      · rw [if_neg h3]
local macro_rules | `(tactic| k_room) => `(tactic| ((try simp only [depth_under_make, depth_under_kw, depth_in1, depth_deeper, depth_caller]); (try dsimp only [AK]); (have h1000 : recursionLimit = 1000 := rfl); omega))
local macro_rules | `(tactic| walk_at "k le") => `(tactic| (first | exact Nat.le_of_ble_eq_true rfl | (dsimp only [Around.deeper, Around.in1]; omega)))
local macro_rules | `(tactic| walk_at "getAttr ref") => `(tactic| (k_here; (with_reducible show wpAny _ _ (getAttr (Value.ref _) (Str.ofString "get") _) _ _ _); (refine cnt_get_K (by k_asm) (by k_asm) (by k_asm) (by k_mem) (by k_mem) ?_; intro q' h' F' N' l')))
local macro_rules | `(tactic| walk_at "callWith ref") => `(tactic| (k_here; refine' callWith_B ?k1 ?k2 ?_; (case k1 => k_asm); (case k2 => k_mem); k_whole))
local macro_rules | `(tactic| walk_at "BmAt") => `(tactic| (exact bm_of (by k_asm) (by k_mem)))
local macro_rules | `(tactic| walk_at "call ref") => `(tactic| (k_here; (refine cnt_dget_K (by k_asm) (by k_asm) (by k_asm) (by k_mem) (by k_mem) (by k_mem) (by assumption) (by assumption) (by assumption) ?_; intro t' tk')))
local macro_rules | `(tactic| walk_at "setItem ref str") => `(tactic| (k_here; refine halt ?_))
local macro_rules | `(tactic| walk_at "pyIter ref") => `(tactic| (k_here; refine halt ?_))
local macro_rules | `(tactic| walk_at "call ref") => `(tactic| (k_here; (with_reducible first | show wpAny _ _ (call (Value.ref _) [Value.ref _] _) _ _ _ | show wpAny _ _ (call (Value.ref _) [Value.ref _, Value.ref _] _) _ _ _); refine halt ?_))
section
local macro_rules | `(tactic| walk_at "truthy ref") => `(tactic| (k_here; (refine dict_truthy_K (by k_asm) (by k_mem) (by assumption) (by assumption) (by assumption) ?_; intro t'; refine halt ?_)))
local macro_rules | `(tactic| walk_at "getMethod ref") => `(tactic| (refine halt ?_))
local macro_rules | `(tactic| walk_at "wpAt") => `(tactic| ((with_reducible show _root_.PySem.wpAt _ _ _ (exec (Stmt.Expr _ _) _) _ _ _); refine halt ?_))
variable {prog : Program} {w : World} {A₀ : Around} {base h₀ : Heap} {outer : List Env} {e0 : Env} {L : Addr} {m mg mb : Str → Option Value} {mean : ExcName → Option Value} {s : Shared} {R : Result → Shared → Prop} {rest : List (Addr × Obj)}
/-- the end of the method: the keywords, if any -/
theorem T_upd {l : Nat} (hlv : l ≤ 14) {name qual : Str} {params : Arguments} {body : List Stmt} {scope : Scope} {cl : List (Str × Addr)} {dV kV doc pm cdv ct oc : Value} {an od : Option Addr} {osl : Array (Option Value)}
    (ho : (Mine.hd06.heap_39 w.params).lookup 936 = some ⟨oc, od, .func (fnX name qual params body scope cl dV kV doc pm an cdv ct), osl⟩)
    {x dx D1 L1 : Addr} {y : Value} {o1 : Obj} {es8 : Array DictEntry} {n8 tk1 : Nat} {kvs8 ex : List (Str × Value)} {cs cs2 : List (Str × Int)} {g1 h1 : Heap} {gv ev cv : Option Value} {news : List (Addr × Obj)}
    (D8 : DIs (PySem.strKind prog w) es8 kvs8) (hi8 : Ints kvs8 cs) (hsx : (x == sysModules) = false) (hlim : cs.length + cs2.length ≤ 4000) (hxr : ∀ p ∈ (D1, o1) :: news, p.1 ≠ x) (hsub : ∀ p ∈ rest, p ∈ news)
    (hex : o1.IsDictOf (PySem.strKind prog w) ex) (hsD : (D1 == sysModules) = false) (hiex : Ints ex cs2) (hlex : ex.length ≤ 4000) (hrec : ex ≠ [] → RecSpec prog w 936 (1) (l + 1) ex cs2)
    (k : ∀ h' tk es' n' kvs₁, DIs (PySem.strKind prog w) es' kvs₁ → Ints kvs₁ (gains (1) cs cs2) → Fr h₀ L h' m → News h₀ L h' ((x, cnt es' n' dx) :: (dx, dictOf [] 0) :: rest) → R (.ok (.ret .none)) {s with heap := h', toks := tk})
    (B : Below A₀ base outer h₀) (F : Fr h₀ L s.heap m) (X : (Mine.hd06.heap_39 w.params).In h₀) (T : Top vw ls mean mg mb h₀)
    (FG1 : Fr h₀ L g1 m) (F1 : Fr g1 L1 h1 (mV x D1 y gv ev cv))
    (N1 : News g1 L1 h1 ((x, cnt es8 n8 dx) :: (dx, dictOf [] 0) :: (D1, o1) :: news)) (B1 : Below (AK l (ek e0 L) outer) base (ek e0 L :: outer) g1) (X1 : (Mine.hd06.heap_39 w.params).In g1) (T1 : Top vw ls mean mg mb g1) :
    wpAny (model prog w) ((AK l (ek e0 L) outer).deeper (envX qual scope L1 936 cdv cl)) (execs (body.drop (body.length - 1)) (envX qual scope L1 936 cdv cl))
        (fun fl s' => LeaveK h₀ L m g1 R (match fl with | .ret v => v | _ => .none) s')
        (fun e s' => wpAny (model prog w) ((AK l (ek e0 L) outer).deeper (envX qual scope L1 936 cdv cl)) (leaving (envX qual scope L1 936 cdv cl) e) (fun _ s'' => R (.error e) s'') (fun e' s'' => R (.error e') s'') s')
        { s with heap := h1, toks := tk1 } := by
  have e := ho.symm.trans (by k_is : (Mine.hd06.heap_39 w.params).lookup 936 = some _)
  cases e
  clear ho
  dsimp only [List.drop, List.length]
  k_steps
  unfold Halt
  cases ex with
  | nil =>
    cases hiex
    rw [show (!([] : List (Str × Value)).isEmpty) = false from rfl]
    k_steps
    refine k _ _ es8 n8 kvs8 D8 hi8 (by assumption) (news_sub (by assumption) fun p hp => ?_)
    simp only [List.mem_cons] at hp ⊢
    rcases hp with h | h | h
    · simp [h]
    · simp [h]
    · exact .inr (.inr (.inr (hsub p h)))
  | cons e₀ r₀ =>
    dsimp only [List.isEmpty_cons, Bool.not_false]
    k_steps
    unfold Halt
    refine sub_method (tn := "function") (by k_in) (inst_cnt (by k_asm) (by k_mem) (by k_mem)) (c_ga _) (c_gt _) (c_upd _) (c_upd_fn _) (by decide) (by show (lookIn (Str.ofString "update") (dictOf [] 0)).map _ = _; rw [lookIn_dict]; rfl) ?_
    k_steps
    unfold Halt
    refine use_at (l + 1) rfl rfl rfl rfl rfl (by walk_at "k le") (by walk_at "k le") (hrec (List.cons_ne_nil _ _) D8 hi8 hsx (by rw [D8.size, hi8.length, PySem.sizeLine_eq]; omega) (by omega) hxr (.inl ⟨o1, .head _, hex⟩) hsD B1 F1 X1 N1 T1 ?_)
    intro h9 tk9 es9 n9 kvs9 D9 hi9 F9 N9
    dsimp only
    k_steps
    refine k _ _ es9 n9 kvs9 D9 hi9 (by assumption) (news_sub (by assumption) fun p hp => ?_)
    simp only [List.mem_cons] at hp ⊢
    rcases hp with h | h | h
    · simp [h]
    · simp [h]
    · exact .inr (.inr (.inr (hsub p h)))
/-- the end of the method: the keywords, if any -/
theorem T_sub {l : Nat} (hlv : l ≤ 14) {name qual : Str} {params : Arguments} {body : List Stmt} {scope : Scope} {cl : List (Str × Addr)} {dV kV doc pm cdv ct oc : Value} {an od : Option Addr} {osl : Array (Option Value)}
    (ho : (Mine.hd06.heap_39 w.params).lookup 944 = some ⟨oc, od, .func (fnX name qual params body scope cl dV kV doc pm an cdv ct), osl⟩)
    {x dx D1 L1 : Addr} {y : Value} {o1 : Obj} {es8 : Array DictEntry} {n8 tk1 : Nat} {kvs8 ex : List (Str × Value)} {cs cs2 : List (Str × Int)} {g1 h1 : Heap} {gv ev cv : Option Value} {news : List (Addr × Obj)}
    (D8 : DIs (PySem.strKind prog w) es8 kvs8) (hi8 : Ints kvs8 cs) (hsx : (x == sysModules) = false) (hlim : cs.length + cs2.length ≤ 4000) (hxr : ∀ p ∈ (D1, o1) :: news, p.1 ≠ x) (hsub : ∀ p ∈ rest, p ∈ news)
    (hex : o1.IsDictOf (PySem.strKind prog w) ex) (hsD : (D1 == sysModules) = false) (hiex : Ints ex cs2) (hlex : ex.length ≤ 4000) (hrec : ex ≠ [] → RecSpec prog w 944 (-1) (l + 1) ex cs2)
    (k : ∀ h' tk es' n' kvs₁, DIs (PySem.strKind prog w) es' kvs₁ → Ints kvs₁ (gains (-1) cs cs2) → Fr h₀ L h' m → News h₀ L h' ((x, cnt es' n' dx) :: (dx, dictOf [] 0) :: rest) → R (.ok (.ret .none)) {s with heap := h', toks := tk})
    (B : Below A₀ base outer h₀) (F : Fr h₀ L s.heap m) (X : (Mine.hd06.heap_39 w.params).In h₀) (T : Top vw ls mean mg mb h₀)
    (FG1 : Fr h₀ L g1 m) (F1 : Fr g1 L1 h1 (mV x D1 y gv ev cv))
    (N1 : News g1 L1 h1 ((x, cnt es8 n8 dx) :: (dx, dictOf [] 0) :: (D1, o1) :: news)) (B1 : Below (AK l (ek e0 L) outer) base (ek e0 L :: outer) g1) (X1 : (Mine.hd06.heap_39 w.params).In g1) (T1 : Top vw ls mean mg mb g1) :
    wpAny (model prog w) ((AK l (ek e0 L) outer).deeper (envX qual scope L1 944 cdv cl)) (execs (body.drop (body.length - 1)) (envX qual scope L1 944 cdv cl))
        (fun fl s' => LeaveK h₀ L m g1 R (match fl with | .ret v => v | _ => .none) s')
        (fun e s' => wpAny (model prog w) ((AK l (ek e0 L) outer).deeper (envX qual scope L1 944 cdv cl)) (leaving (envX qual scope L1 944 cdv cl) e) (fun _ s'' => R (.error e) s'') (fun e' s'' => R (.error e') s'') s')
        { s with heap := h1, toks := tk1 } := by
  have e := ho.symm.trans (by k_is : (Mine.hd06.heap_39 w.params).lookup 944 = some _)
  cases e
  clear ho
  dsimp only [List.drop, List.length]
  k_steps
  unfold Halt
  cases ex with
  | nil =>
    cases hiex
    rw [show (!([] : List (Str × Value)).isEmpty) = false from rfl]
    k_steps
    refine k _ _ es8 n8 kvs8 D8 hi8 (by assumption) (news_sub (by assumption) fun p hp => ?_)
    simp only [List.mem_cons] at hp ⊢
    rcases hp with h | h | h
    · simp [h]
    · simp [h]
    · exact .inr (.inr (.inr (hsub p h)))
  | cons e₀ r₀ =>
    dsimp only [List.isEmpty_cons, Bool.not_false]
    k_steps
    unfold Halt
    refine sub_method (tn := "function") (by k_in) (inst_cnt (by k_asm) (by k_mem) (by k_mem)) (c_ga _) (c_gt _) (c_subt _) (c_subt_fn _) (by decide) (by show (lookIn (Str.ofString "subtract") (dictOf [] 0)).map _ = _; rw [lookIn_dict]; rfl) ?_
    k_steps
    unfold Halt
    refine use_at (l + 1) rfl rfl rfl rfl rfl (by walk_at "k le") (by walk_at "k le") (hrec (List.cons_ne_nil _ _) D8 hi8 hsx (by rw [D8.size, hi8.length, PySem.sizeLine_eq]; omega) (by omega) hxr (.inl ⟨o1, .head _, hex⟩) hsD B1 F1 X1 N1 T1 ?_)
    intro h9 tk9 es9 n9 kvs9 D9 hi9 F9 N9
    dsimp only
    k_steps
    refine k _ _ es9 n9 kvs9 D9 hi9 (by assumption) (news_sub (by assumption) fun p hp => ?_)
    simp only [List.mem_cons] at hp ⊢
    rcases hp with h | h | h
    · simp [h]
    · simp [h]
    · exact .inr (.inr (.inr (hsub p h)))
end
section
local macro_rules | `(tactic| walk_at "exec For") => `(tactic| (k_here; refine halt ?_))
variable {prog : Program} {w : World} {A₀ : Around} {base h₀ : Heap} {outer : List Env} {e0 : Env} {L : Addr} {m mg mb : Str → Option Value} {mean : ExcName → Option Value} {s : Shared} {R : Result → Shared → Prop} {rest : List (Addr × Obj)}
theorem spec_count {l : Nat} (hlv : l ≤ 30) {x dx y : Addr} {es : Array DictEntry} {n : Nat} {kvs : List (Str × Value)} {cs : List (Str × Int)} {vs : List Value} {ks : List Str} (hm : (y, LCg.lst vs) ∈ rest) (hv : Strs vs ks)
    (D : DIs (PySem.strKind prog w) es kvs) (hi : Ints kvs cs) (hsx : (x == sysModules) = false) (hlim : cs.length + vs.length ≤ 4000) (hxr : ∀ p ∈ rest, p.1 ≠ x)
    (B : Below A₀ base outer h₀) (F : Fr h₀ L s.heap m) (X : (Mine.hd06.heap_39 w.params).In h₀) (N : News h₀ L s.heap ((x, cnt es n dx) :: (dx, dictOf [] 0) :: rest)) (T : Top vw ls mean mg mb h₀)
    (k : ∀ h' tk es' n' kvs₁, DIs (PySem.strKind prog w) es' kvs₁ → Ints kvs₁ (gains 1 cs (ones ks)) → Fr h₀ L h' m → News h₀ L h' ((x, cnt es' n' dx) :: (dx, dictOf [] 0) :: rest) → R (.ok (.ret .none)) {s with heap := h', toks := tk}) :
    codeAny (model prog w) (AK l (ek e0 L) outer) (.call (.ref 67) ⟨[.ref x, .ref y], []⟩) R s := by
  have hxy : y ≠ x := hxr _ hm
  k_enter
  rename_i g1 L1 h1 FG1 F1 N1 B1 X1 T1
  replace F1 := fr_fun (m' := fun z => [(Str.ofString "iterable", Value.ref y), (Str.ofString "mapping", .ref x)].lookup z) F1 (fun _ => rfl)
  k_steps
  unfold Halt
  rename_i q1 h2 l2 h3 F3 N3
  refine For_turns F3 ?_
  k_steps
  unfold Halt
  refine iter_listTurns (lo := LCg.lst vs) rfl F3 N3 (by simp [hm]) rfl rfl ?_
  intro I hI
  refine vals_fold (gain 1) (fun i cs' m' news' => ∃ es n kvs ev, DIs (PySem.strKind prog w) es kvs ∧ Ints kvs cs' ∧ cs'.length ≤ cs.length + i ∧ m' = mC x q1 y ev ∧
      news' = (q1, bm "dict.get" x) :: (x, cnt es n dx) :: (dx, dictOf [] 0) :: rest) vs.length ?_ hv 0 cs _ _ (Nat.le_of_eq (Nat.zero_add _)) ?_ ?_
  · rintro i cs' k₁ t m' news' hlt ⟨es₁, n₁, kvs₁, ev, D₁, hi₁, hlen, rfl, rfl⟩ h tk hF
    intro oI hoI hN
    k_steps
    unfold Halt
    have eg : look cs' k₁ + 1 = look cs' k₁ + 1 * (1 : Int) := by omega
    rw [eg]
    rename_i h5 h6 F6 N6 t7 tk7
    refine cnt_set_K ((I, oI) :: (q1, bm "dict.get" x) :: (dx, dictOf [] 0) :: rest) F6 (by k_asm) N6 (by k_mem) (by k_mem) D₁ hi₁ (by rw [PySem.sizeLine_eq]; omega) (fun p hp => ?_) ?_
    · simp only [List.mem_cons] at hp
      have hx2 : ∀ {a : Addr}, x < a → a ≠ x := fun h e => Nat.lt_irrefl _ (e ▸ h)
      rcases hp with rfl | rfl | rfl | hp
      · exact ⟨by k_mem, hx2 (hI (x, cnt es n dx) (by k_mem))⟩
      · exact ⟨by k_mem, hx2 (l2 (x, cnt es n dx) (by k_mem))⟩
      · exact ⟨by k_mem, ne_cls N6 (o := cnt es₁ n₁ dx) (by k_mem) (p := (dx, dictOf [] 0)) (by k_mem) (by intro e; cases e)⟩
      · exact ⟨by simp [hp], hxr p hp⟩
    · intro h7 es7 n7 kvs7 tk7 D7 hi7 F7 N7
      k_steps
      refine ⟨h7, tk7, _, (q1, bm "dict.get" x) :: (x, cnt es7 n7 dx) :: (dx, dictOf [] 0) :: rest, rfl, F7, news_sub N7 (fun p hp => ?_), fun p hp q hq => ?_, subL_of (fun p hp => ?_), es7, n7, kvs7, some (.str k₁ t), D7, hi7, ?_, funext fun z => mC_set z, rfl⟩
      · simp only [List.mem_cons, List.cons_append, List.nil_append] at hp ⊢
        rcases hp with h | h | h | h | h <;> simp [h]
      · obtain rfl := List.mem_singleton.mp hq
        refine Nat.ne_of_lt ?_
        simp only [List.mem_cons] at hp
        rcases hp with rfl | rfl | rfl | hp
        · exact hI (q1, _) (by k_mem)
        · exact hI (x, cnt es n dx) (by k_mem)
        · exact hI (dx, _) (by k_mem)
        · exact hI p (by simp [hp])
      · obtain rfl := List.mem_singleton.mp hp
        simp [hm]
      · have := gain_length 1 cs' (k₁, 1)
        omega
  · exact ⟨es, n, kvs, none, D, hi, Nat.le_refl _, funext fun z => mC_new z, rfl⟩
  · rintro m' news' ⟨es8, n8, kvs8, ev, D8, hi8, hlen, rfl, rfl⟩ h8 tk8 F8 N8
    k_steps
    exact k _ _ es8 n8 kvs8 D8 hi8 (by assumption) (news_sub (by assumption) fun p hp => .tail _ hp)
end
section
local macro_rules | `(tactic| k_ownIn) => `(tactic| first | assumption | exact List.mem_append_left _ (by assumption) | (refine List.mem_append_right _ ?_; k_ownIn) | (refine List.Mem.tail _ ?_; k_ownIn))
local macro_rules | `(tactic| k_mem) => `(tactic| (refine List.mem_append_right _ ?_; k_mem))
local macro_rules | `(tactic| kqd_sub) => `(tactic| (intro p9 h9; k_ownIn))
theorem mV_set_upd {x D : Addr} {y : Value} {gv ev cv : Option Value} {e c : Value} (z : Str) : (if z = Str.ofString "count" then some c else if z = Str.ofString "elem" then some e else mV x D y gv ev cv z) = mV x D y gv (some e) (some c) z := by
  unfold mV
  by_cases h1 : z = Str.ofString "count"
  · rw [if_pos h1, if_pos h1]
  · rw [if_neg h1, if_neg h1]
    by_cases h2 : z = Str.ofString "elem"
    · rw [if_pos h2, if_neg h1, if_pos h2]
    · simp only [if_neg h1, if_neg h2]
theorem mV_one_upd {x D : Addr} {y : Value} {gv ev cv : Option Value} {e : Value} (z : Str) : (if z = Str.ofString "elem" then some e else mV x D y gv ev cv z) = mV x D y gv (some e) cv z := by
  unfold mV
  by_cases h2 : z = Str.ofString "elem"
  · subst h2; rfl
  · simp only [if_neg h2]
theorem mV_get_upd {x D q : Addr} {y : Value} (z : Str) : (if z = Str.ofString "self_get" then some (Value.ref q) else [(Str.ofString "kwds", Value.ref D), (Str.ofString "iterable", y), (Str.ofString "self", .ref x)].lookup z) = mV x D y (some (.ref q)) none none z := by
  unfold mV
  by_cases h1 : z = Str.ofString "count"
  · subst h1; rfl
  · rw [if_neg h1]
    by_cases h2 : z = Str.ofString "elem"
    · subst h2; rfl
    · rw [if_neg h2]
theorem gain_length_upd (cs : List (Str × Int)) (p : Str × Int) : (gain (1) cs p).length ≤ cs.length + 1 := gain_length ..
theorem gain_length_sub (cs : List (Str × Int)) (p : Str × Int) : (gain (-1) cs p).length ≤ cs.length + 1 := gain_length ..
local macro_rules | `(tactic| walk_at "call builtin:isinstance") => `(tactic| (refine halt ?_))
local macro_rules | `(tactic| walk_at "truthy ref") => `(tactic| (k_here; (refine cnt_truthy (by k_asm) (by k_asm) (by k_asm) (by k_mem) (by k_mem) (by assumption) (by assumption) ?_; intro t'; refine halt ?_)))
local macro_rules | `(tactic| walk_at "call builtin:dict.items") => `(tactic| (k_here; refine items_map_K (by k_asm) (by k_asm) (by k_asm) (MapIn.sub (by assumption) (by kqd_sub)) (by assumption) ?_; intro v' h' F' N' l'))
local macro_rules | `(tactic| walk_at "getMethod ref") => `(tactic| (k_here; first
  | (refine super_upd_K (by k_asm) (by k_asm) (by k_asm) (by k_mem) (by k_mem) (by k_mem) ?_; intro q' h' F' N' l')
  | (refine meth_items_K (by k_asm) (by k_asm) (by k_asm) (MapIn.sub (by assumption) (by kqd_sub)) ?_)))
local macro_rules | `(tactic| walk_at "exec For") => `(tactic| (refine halt ?_))
local macro_rules | `(tactic| walk_at "wpAt") => `(tactic| ((with_reducible show _root_.PySem.wpAt _ _ _ (exec (Stmt.Expr (PySem.Expr.Call (PySem.Expr.Attribute _ _ _) _ _ _) _) _) _ _ _); refine halt ?_))
local macro_rules | `(tactic| walk_at "wpAt") => `(tactic| ((with_reducible show _root_.PySem.wpAt _ _ _ (execs [Stmt.If (PySem.Expr.Name _ _) _ [] _] _) _ _ _); refine halt ?_))
local macro_rules | `(tactic| walk_at "execs cons") => `(tactic| ((with_reducible show wpAny _ _ (execs [Stmt.If (PySem.Expr.Name _ _) _ [] _] _) _ _ _); refine halt ?_))
variable {prog : Program} {w : World} {A₀ : Around} {base h₀ : Heap} {outer : List Env} {e0 : Env} {L : Addr} {m mg mb : Str → Option Value} {mean : ExcName → Option Value} {s : Shared} {R : Result → Shared → Prop} {rest : List (Addr × Obj)}
theorem W_upd_map {l : Nat} (hlv : l ≤ 14) {name qual : Str} {params : Arguments} {body : List Stmt} {scope : Scope} {cl : List (Str × Addr)} {dV kV doc pm cdv ct oc : Value} {an od : Option Addr} {osl : Array (Option Value)}
    (ho : (Mine.hd06.heap_39 w.params).lookup 936 = some ⟨oc, od, .func (fnX name qual params body scope cl dV kV doc pm an cdv ct), osl⟩)
    {x dx D1 L1 : Addr} {o1 : Obj} {y : Addr} {kvs' : List (Str × Value)} {es : Array DictEntry} {n tk1 : Nat} {kvs ex : List (Str × Value)} {cs ps cs2 : List (Str × Int)} {g1 h1 : Heap}
    (hfile : ((prog.main.file : Str) == Str.ofString "/claim/cut.py") = true) (htop : (prog.main.scope.names.lookup (Str.ofString "super")).isSome = false) (hm : MapIn prog w y rest kvs') (hl8 : ps.length ≤ 8) (hi' : Ints kvs' ps) (hsy : (y == sysModules) = false)
    (D : DIs (PySem.strKind prog w) es kvs) (hi : Ints kvs cs) (hsx : (x == sysModules) = false) (hsz : es.size ≤ sizeLine) (hlim : cs.length + ps.length + cs2.length ≤ 4000) (hxr : ∀ p ∈ rest, p.1 ≠ x)
    (hex : o1.IsDictOf (PySem.strKind prog w) ex) (hsD : (D1 == sysModules) = false) (hiex : Ints ex cs2) (hlex : ex.length ≤ 4000) (hrec : ex ≠ [] → RecSpec prog w 936 (1) (l + 1) ex cs2)
    (k : ∀ h' tk es' n' kvs₁, DIs (PySem.strKind prog w) es' kvs₁ → Ints kvs₁ (gains (1) (gains (1) cs ps) cs2) → Fr h₀ L h' m → News h₀ L h' ((x, cnt es' n' dx) :: (dx, dictOf [] 0) :: rest) → R (.ok (.ret .none)) {s with heap := h', toks := tk})
    (B : Below A₀ base outer h₀) (F : Fr h₀ L s.heap m) (X : (Mine.hd06.heap_39 w.params).In h₀) (N : News h₀ L s.heap ((x, cnt es n dx) :: (dx, dictOf [] 0) :: rest)) (T : Top vw ls mean mg mb h₀)
    (l1 : ∀ p ∈ (x, cnt es n dx) :: (dx, dictOf [] 0) :: rest, p.1 < D1) (FG1 : Fr h₀ L g1 m) (F1 : Fr g1 L1 h1 (fun z => [(Str.ofString "kwds", Value.ref D1), (Str.ofString "iterable", .ref y), (Str.ofString "self", .ref x)].lookup z))
    (N1 : News g1 L1 h1 ((D1, o1) :: (x, cnt es n dx) :: (dx, dictOf [] 0) :: rest)) (B1 : Below (AK l (ek e0 L) outer) base (ek e0 L :: outer) g1) (X1 : (Mine.hd06.heap_39 w.params).In g1) (T1 : Top vw ls mean mg mb g1) :
    _root_.PySem.wpAt (model prog w) ((AK l (ek e0 L) outer).deeper (envX qual scope L1 936 cdv cl)) (.func body (envX qual scope L1 936 cdv cl)) (execs body (envX qual scope L1 936 cdv cl))
        (fun fl s' => LeaveK h₀ L m g1 R (match fl with | .ret v => v | _ => .none) s')
        (fun e s' => wpAny (model prog w) ((AK l (ek e0 L) outer).deeper (envX qual scope L1 936 cdv cl)) (leaving (envX qual scope L1 936 cdv cl) e) (fun _ s'' => R (.error e) s'') (fun e' s'' => R (.error e') s'') s')
        { s with heap := h1, toks := tk1 } := by
  have e := ho.symm.trans (by k_is : (Mine.hd06.heap_39 w.params).lookup 936 = some _)
  cases e
  have hx2 : ∀ {a : Addr}, x < a → a ≠ x := fun h e => Nat.lt_irrefl _ (e ▸ h)
  have hlk : cs.length + ps.length ≤ 4000 := by omega
  have hxy : y ≠ x := by
    obtain ⟨_, _, _, a, _⟩ := hm.dis
    exact hxr _ a
  k_steps
  unfold Halt
  refine isi_map_K rfl rfl rfl rfl rfl (by walk_at "k le") (by walk_at "k le") (by k_asm) (by k_asm) (by k_asm) (by k_asm) (by k_asm) (MapIn.sub (by assumption) (by kqd_sub)) ?_
  intro h2 tk2 F2 N2
  dsimp only
  k_steps
  unfold Halt
  rename_i t2
  cases hb : (es.size != 0) with
  | true =>
    dsimp only
    k_steps
    rename_i q1 h2 l2 h3 F3 N3
    unfold Halt
    refine For_turns F3 ?_
    k_steps
    unfold Halt
    rename_i v4 h4 F4 N4 l4
    obtain ⟨o, es', n', hom, hod, D'⟩ := hm.dis
    refine iter_cnt (od := o) rfl F4 N4 (N4 _ (by k_mem)).1 ⟨o, es', (N4 (y, o) (by simp [hom])).1, hod, D'⟩ hi' (by simp [hom]) ?_
    intro I hI
    refine items_fold (gain (1)) (fun i cs' m' news' => ∃ es n kvs ev cv, DIs (PySem.strKind prog w) es kvs ∧ Ints kvs cs' ∧ cs'.length ≤ cs.length + i ∧ m' = mV x D1 (.ref y) (some (.ref q1)) ev cv ∧
      news' = (v4, iview y) :: (q1, bm "dict.get" x) :: (D1, o1) :: (x, cnt es n dx) :: (dx, dictOf [] 0) :: rest) ps.length ?_ ps 0 cs _ _ (Nat.le_of_eq (Nat.zero_add _)) ?_ ?_
    · rintro i cs' p m' news' hlt ⟨es₁, n₁, kvs₁, ev, cv, D₁, hi₁, hlen, rfl, rfl⟩ T t u h tk hT F
      intro oI hoI N
      k_steps
      unfold Halt
      have eg : p.2 + look cs' p.1 = look cs' p.1 + 1 * p.2 := by omega
      rw [eg]
      rename_i h5 h6 F6 N6 t7 tk7
      refine cnt_set_K ((I, oI) :: (v4, iview y) :: (q1, bm "dict.get" x) :: (D1, o1) :: (dx, dictOf [] 0) :: rest) F6 (by k_asm) N6 (by k_mem) (by k_mem) D₁ hi₁ (by rw [PySem.sizeLine_eq]; omega) (fun p hp => ?_) ?_
      · simp only [List.mem_cons] at hp
        rcases hp with rfl | rfl | rfl | rfl | rfl | hp
        · exact ⟨by k_mem, hx2 (hI (x, cnt es n dx) (by k_mem))⟩
        · exact ⟨by k_mem, hx2 (l4 (x, cnt es n dx) (by k_mem))⟩
        · exact ⟨by k_mem, hx2 (l2 (x, cnt es n dx) (by k_mem))⟩
        · exact ⟨by k_mem, hx2 (l1 (x, cnt es n dx) (by k_mem))⟩
        · exact ⟨by k_mem, ne_cls N6 (o := cnt es₁ n₁ dx) (by k_mem) (p := (dx, dictOf [] 0)) (by k_mem) (by intro e; cases e)⟩
        · exact ⟨by simp [hp], hxr p hp⟩
      · intro h7 es7 n7 kvs7 tk7 D7 hi7 F7 N7
        k_steps
        refine ⟨h7, tk7, _, (v4, iview y) :: (q1, bm "dict.get" x) :: (D1, o1) :: (x, cnt es7 n7 dx) :: (dx, dictOf [] 0) :: rest, rfl, F7, news_sub N7 (by kqd_sub), fun p hp q hq => ?_, subL_of (fun p hp => ?_), es7, n7, kvs7, some (.str p.1 t), some (.int p.2 u), D7, hi7, ?_, funext fun z => mV_set_upd z, rfl⟩
        · obtain rfl := List.mem_singleton.mp hq
          refine Nat.ne_of_lt ?_
          simp only [List.mem_cons] at hp
          rcases hp with rfl | rfl | rfl | rfl | rfl | hp
          · exact hI (v4, _) (by k_mem)
          · exact hI (q1, _) (by k_mem)
          · exact hI (D1, _) (by k_mem)
          · exact hI (x, cnt es n dx) (by k_mem)
          · exact hI (dx, _) (by k_mem)
          · exact hI p (by simp [hp])
        · obtain rfl := List.mem_singleton.mp hp
          simp [hom]
        · have := gain_length_upd cs' p
          omega
    · exact ⟨es, n, kvs, none, none, D, hi, Nat.le_refl _, funext fun z => mV_get_upd z, rfl⟩
    · rintro m' news' ⟨es8, n8, kvs8, ev, cv, D8, hi8, hlen, rfl, rfl⟩ h8 tk8 F8 N8
      k_steps
      unfold Halt
      refine wpAt_of_wpAny ?_
      refine T_upd (s := s) (n8 := n8) hlv ho (news := (v4, iview y) :: (q1, bm "dict.get" x) :: rest) D8 hi8 hsx (by show (gains _ cs ps).length + _ ≤ _; unfold gains; omega) ?_ (by kqd_sub) hex hsD hiex hlex hrec k B F X T FG1 F8 (news_sub N8 (by kqd_sub)) B1 X1 T1
      · intro p hp
        simp only [List.mem_cons] at hp
        rcases hp with rfl | rfl | rfl | hp
        · exact hx2 (l1 (x, cnt es n dx) (by k_mem))
        · exact hx2 (l4 (x, cnt es n dx) (by k_mem))
        · exact hx2 (l2 (x, cnt es n dx) (by k_mem))
        · exact hxr p hp
  | false =>
    dsimp only
    k_steps
    unfold Halt
    ks_step "exec Expr"
    refine ks_wpAt_Expr_any ?_
    refine ks_wpAt_MethodCall ?_
    k_here
    refine ks_node (by k_asm) (by k_asm) (by k_asm) (by k_asm) (by k_is) (by rfl) (by rfl) (inst_cnt (by k_asm) (by k_mem) (by k_mem)) (by k_is) (by rfl) hfile (by k_is) (by k_is) (by k_is) (by k_is) (by decide) (by rfl) (by rfl) (by rfl) (by rfl) htop (by first | boot_by_name | rfl | kernel_rfl) ?_
    intro so' h' F' N' l1'
    k_steps
    unfold Halt
    rename_i q5 h5 F5 N5 l5
    obtain ⟨o, es', n', hom, hod, D'⟩ := hm.dis
    have hes : es.size = 0 := by
      cases e : es.size with
      | zero => rfl
      | succ k => rw [e] at hb; cases hb
    have hk0 : kvs = [] := List.length_eq_zero_iff.mp (by rw [← D.size]; exact hes)
    subst hk0
    cases hi
    refine upd_map_K ((q5, bm "dict.update" x) :: (so', ks_superObj 1093 x 1093) :: (D1, o1) :: (dx, dictOf [] 0) :: rest) F5 (by k_asm) N5 (by k_mem) (by k_mem) (by k_mem) (hm.sub (by kqd_sub)) D (by rw [hi'.length]; exact hl8) (by rw [hi'.length, PySem.sizeLine_eq]; omega) hxy hsx hsy (fun p hp => ?_) ?_
    · simp only [List.mem_cons] at hp
      rcases hp with rfl | rfl | rfl | rfl | hp
      · exact ⟨by k_mem, hx2 (l5 (x, cnt es n dx) (by k_mem))⟩
      · exact ⟨by k_mem, hx2 (l1' (x, cnt es n dx) (by k_mem))⟩
      · exact ⟨by k_mem, hx2 (l1 (x, cnt es n dx) (by k_mem))⟩
      · exact ⟨by k_mem, ne_cls N5 (o := cnt es n dx) (by k_mem) (p := (dx, dictOf [] 0)) (by k_mem) (by intro e; cases e)⟩
      · exact ⟨by simp [hp], hxr p hp⟩
    · intro h8 es8 n8 tk8 D8 F8 N8
      rw [merged_nil D'.nodup] at D8
      have hgn : gains 1 [] ps = ps := gains_nil (by rw [← hi'.keys]; exact D'.nodup)
      rw [hgn] at k
      have hi8 := hi'
      generalize kvs' = kvs8 at D8 hi8
      dsimp only
      k_steps
      unfold Halt
      refine wpAt_of_wpAny ?_
      refine T_upd (s := s) (n8 := n8) hlv ho (news := (q5, bm "dict.update" x) :: (so', ks_superObj 1093 x 1093) :: rest) D8 hi8 hsx (by omega) ?_ (by kqd_sub) hex hsD hiex hlex hrec k B F X T FG1 (fr_fun F8 fun z => mV_new z) (news_sub N8 (by kqd_sub)) B1 X1 T1
      · intro p hp
        simp only [List.mem_cons] at hp
        rcases hp with rfl | rfl | rfl | hp
        · exact hx2 (l1 (x, cnt es n dx) (by k_mem))
        · exact hx2 (l5 (x, cnt es n dx) (by k_mem))
        · exact hx2 (l1' (x, cnt es n dx) (by k_mem))
        · exact hxr p hp
theorem W_upd_list {l : Nat} (hlv : l ≤ 14) {name qual : Str} {params : Arguments} {body : List Stmt} {scope : Scope} {cl : List (Str × Addr)} {dV kV doc pm cdv ct oc : Value} {an od : Option Addr} {osl : Array (Option Value)}
    (ho : (Mine.hd06.heap_39 w.params).lookup 936 = some ⟨oc, od, .func (fnX name qual params body scope cl dV kV doc pm an cdv ct), osl⟩)
    {x dx D1 L1 : Addr} {o1 : Obj} {y : Addr} {vs : List Value} {ks : List Str} {es : Array DictEntry} {n tk1 : Nat} {kvs ex : List (Str × Value)} {cs ps cs2 : List (Str × Int)} {g1 h1 : Heap}
    (hfile : ((prog.main.file : Str) == Str.ofString "/claim/cut.py") = true) (htop : (prog.main.scope.names.lookup (Str.ofString "super")).isSome = false) (hm : (y, LCg.lst vs) ∈ rest) (hv : Strs vs ks) (hps : ps = ones ks)
    (D : DIs (PySem.strKind prog w) es kvs) (hi : Ints kvs cs) (hsx : (x == sysModules) = false) (hsz : es.size ≤ sizeLine) (hlim : cs.length + ps.length + cs2.length ≤ 4000) (hxr : ∀ p ∈ rest, p.1 ≠ x)
    (hex : o1.IsDictOf (PySem.strKind prog w) ex) (hsD : (D1 == sysModules) = false) (hiex : Ints ex cs2) (hlex : ex.length ≤ 4000) (hrec : ex ≠ [] → RecSpec prog w 936 (1) (l + 1) ex cs2)
    (k : ∀ h' tk es' n' kvs₁, DIs (PySem.strKind prog w) es' kvs₁ → Ints kvs₁ (gains (1) (gains (1) cs ps) cs2) → Fr h₀ L h' m → News h₀ L h' ((x, cnt es' n' dx) :: (dx, dictOf [] 0) :: rest) → R (.ok (.ret .none)) {s with heap := h', toks := tk})
    (B : Below A₀ base outer h₀) (F : Fr h₀ L s.heap m) (X : (Mine.hd06.heap_39 w.params).In h₀) (N : News h₀ L s.heap ((x, cnt es n dx) :: (dx, dictOf [] 0) :: rest)) (T : Top vw ls mean mg mb h₀)
    (l1 : ∀ p ∈ (x, cnt es n dx) :: (dx, dictOf [] 0) :: rest, p.1 < D1) (FG1 : Fr h₀ L g1 m) (F1 : Fr g1 L1 h1 (fun z => [(Str.ofString "kwds", Value.ref D1), (Str.ofString "iterable", .ref y), (Str.ofString "self", .ref x)].lookup z))
    (N1 : News g1 L1 h1 ((D1, o1) :: (x, cnt es n dx) :: (dx, dictOf [] 0) :: rest)) (B1 : Below (AK l (ek e0 L) outer) base (ek e0 L :: outer) g1) (X1 : (Mine.hd06.heap_39 w.params).In g1) (T1 : Top vw ls mean mg mb g1) :
    _root_.PySem.wpAt (model prog w) ((AK l (ek e0 L) outer).deeper (envX qual scope L1 936 cdv cl)) (.func body (envX qual scope L1 936 cdv cl)) (execs body (envX qual scope L1 936 cdv cl))
        (fun fl s' => LeaveK h₀ L m g1 R (match fl with | .ret v => v | _ => .none) s')
        (fun e s' => wpAny (model prog w) ((AK l (ek e0 L) outer).deeper (envX qual scope L1 936 cdv cl)) (leaving (envX qual scope L1 936 cdv cl) e) (fun _ s'' => R (.error e) s'') (fun e' s'' => R (.error e') s'') s')
        { s with heap := h1, toks := tk1 } := by
  have e := ho.symm.trans (by k_is : (Mine.hd06.heap_39 w.params).lookup 936 = some _)
  cases e
  have hx2 : ∀ {a : Addr}, x < a → a ≠ x := fun h e => Nat.lt_irrefl _ (e ▸ h)
  have hlk : cs.length + ps.length ≤ 4000 := by omega
  subst hps
  have hvl := hv.length
  have hol : (ones ks).length = ks.length := by simp [ones]
  k_steps
  unfold Halt
  refine isi_list_K rfl rfl rfl rfl rfl (by walk_at "k le") (by walk_at "k le") (by k_asm) (by k_asm) (by k_asm) (by k_asm) (by k_asm) (List.mem_cons_of_mem _ (List.mem_cons_of_mem _ (List.mem_cons_of_mem _ hm))) rfl ?_
  intro h2 tk2 F2 N2
  dsimp only
  k_steps
  unfold Halt
  refine use_at (l + 1) rfl rfl rfl rfl rfl (by walk_at "k le") (by walk_at "k le") (spec_count (n := n) (dx := dx) (by omega) (rest := (D1, o1) :: rest) (y := y) (by simp [hm]) hv D hi hsx (by omega) ?_ B1 F2 X1 (news_sub N2 (by kqd_sub)) T1 ?_)
  · intro p hp
    simp only [List.mem_cons] at hp
    rcases hp with rfl | hp
    · exact hx2 (l1 (x, cnt es n dx) (by k_mem))
    · exact hxr p hp
  · intro h8 tk8 es8 n8 kvs8 D8 hi8 F8 N8
    dsimp only
    k_steps
    unfold Halt
    refine wpAt_of_wpAny ?_
    refine T_upd (s := s) (n8 := n8) hlv ho (news := rest) D8 hi8 hsx (by have := gains_length 1 cs (ones ks); omega) ?_ (by kqd_sub) hex hsD hiex hlex hrec k B F X T FG1 (fr_fun F8 fun z => mV_new z) (news_sub N8 (by kqd_sub)) B1 X1 T1
    · intro p hp
      simp only [List.mem_cons] at hp
      rcases hp with rfl | hp
      · exact hx2 (l1 (x, cnt es n dx) (by k_mem))
      · exact hxr p hp
theorem W_upd_none {l : Nat} (hlv : l ≤ 14) {name qual : Str} {params : Arguments} {body : List Stmt} {scope : Scope} {cl : List (Str × Addr)} {dV kV doc pm cdv ct oc : Value} {an od : Option Addr} {osl : Array (Option Value)}
    (ho : (Mine.hd06.heap_39 w.params).lookup 936 = some ⟨oc, od, .func (fnX name qual params body scope cl dV kV doc pm an cdv ct), osl⟩)
    {x dx D1 L1 : Addr} {o1 : Obj}  {es : Array DictEntry} {n tk1 : Nat} {kvs ex : List (Str × Value)} {cs ps cs2 : List (Str × Int)} {g1 h1 : Heap}
    (hfile : ((prog.main.file : Str) == Str.ofString "/claim/cut.py") = true) (htop : (prog.main.scope.names.lookup (Str.ofString "super")).isSome = false) (hps : ps = [])
    (D : DIs (PySem.strKind prog w) es kvs) (hi : Ints kvs cs) (hsx : (x == sysModules) = false) (hsz : es.size ≤ sizeLine) (hlim : cs.length + ps.length + cs2.length ≤ 4000) (hxr : ∀ p ∈ rest, p.1 ≠ x)
    (hex : o1.IsDictOf (PySem.strKind prog w) ex) (hsD : (D1 == sysModules) = false) (hiex : Ints ex cs2) (hlex : ex.length ≤ 4000) (hrec : ex ≠ [] → RecSpec prog w 936 (1) (l + 1) ex cs2)
    (k : ∀ h' tk es' n' kvs₁, DIs (PySem.strKind prog w) es' kvs₁ → Ints kvs₁ (gains (1) (gains (1) cs ps) cs2) → Fr h₀ L h' m → News h₀ L h' ((x, cnt es' n' dx) :: (dx, dictOf [] 0) :: rest) → R (.ok (.ret .none)) {s with heap := h', toks := tk})
    (B : Below A₀ base outer h₀) (F : Fr h₀ L s.heap m) (X : (Mine.hd06.heap_39 w.params).In h₀) (N : News h₀ L s.heap ((x, cnt es n dx) :: (dx, dictOf [] 0) :: rest)) (T : Top vw ls mean mg mb h₀)
    (l1 : ∀ p ∈ (x, cnt es n dx) :: (dx, dictOf [] 0) :: rest, p.1 < D1) (FG1 : Fr h₀ L g1 m) (F1 : Fr g1 L1 h1 (fun z => [(Str.ofString "kwds", Value.ref D1), (Str.ofString "iterable", .none), (Str.ofString "self", .ref x)].lookup z))
    (N1 : News g1 L1 h1 ((D1, o1) :: (x, cnt es n dx) :: (dx, dictOf [] 0) :: rest)) (B1 : Below (AK l (ek e0 L) outer) base (ek e0 L :: outer) g1) (X1 : (Mine.hd06.heap_39 w.params).In g1) (T1 : Top vw ls mean mg mb g1) :
    _root_.PySem.wpAt (model prog w) ((AK l (ek e0 L) outer).deeper (envX qual scope L1 936 cdv cl)) (.func body (envX qual scope L1 936 cdv cl)) (execs body (envX qual scope L1 936 cdv cl))
        (fun fl s' => LeaveK h₀ L m g1 R (match fl with | .ret v => v | _ => .none) s')
        (fun e s' => wpAny (model prog w) ((AK l (ek e0 L) outer).deeper (envX qual scope L1 936 cdv cl)) (leaving (envX qual scope L1 936 cdv cl) e) (fun _ s'' => R (.error e) s'') (fun e' s'' => R (.error e') s'') s')
        { s with heap := h1, toks := tk1 } := by
  have e := ho.symm.trans (by k_is : (Mine.hd06.heap_39 w.params).lookup 936 = some _)
  cases e
  have hx2 : ∀ {a : Addr}, x < a → a ≠ x := fun h e => Nat.lt_irrefl _ (e ▸ h)
  have hlk : cs.length + ps.length ≤ 4000 := by omega
  subst hps
  k_steps
  unfold Halt
  refine wpAt_of_wpAny ?_
  refine T_upd (s := s) (n8 := n) hlv ho (news := rest) D hi hsx (by simpa using hlim) ?_ (by kqd_sub) hex hsD hiex hlex hrec k B F X T FG1 (fr_fun F1 fun z => mV_new z) (news_sub N1 (by kqd_sub)) B1 X1 T1
  · intro p hp
    simp only [List.mem_cons] at hp
    rcases hp with rfl | hp
    · exact hx2 (l1 (x, cnt es n dx) (by k_mem))
    · exact hxr p hp
theorem W_sub_map {l : Nat} (hlv : l ≤ 14) {name qual : Str} {params : Arguments} {body : List Stmt} {scope : Scope} {cl : List (Str × Addr)} {dV kV doc pm cdv ct oc : Value} {an od : Option Addr} {osl : Array (Option Value)}
    (ho : (Mine.hd06.heap_39 w.params).lookup 944 = some ⟨oc, od, .func (fnX name qual params body scope cl dV kV doc pm an cdv ct), osl⟩)
    {x dx D1 L1 : Addr} {o1 : Obj} {y : Addr} {kvs' : List (Str × Value)} {es : Array DictEntry} {n tk1 : Nat} {kvs ex : List (Str × Value)} {cs ps cs2 : List (Str × Int)} {g1 h1 : Heap}
    (hm : MapIn prog w y rest kvs') (hl8 : ps.length ≤ 8) (hi' : Ints kvs' ps) (hsy : (y == sysModules) = false)
    (D : DIs (PySem.strKind prog w) es kvs) (hi : Ints kvs cs) (hsx : (x == sysModules) = false) (hsz : es.size ≤ sizeLine) (hlim : cs.length + ps.length + cs2.length ≤ 4000) (hxr : ∀ p ∈ rest, p.1 ≠ x)
    (hex : o1.IsDictOf (PySem.strKind prog w) ex) (hsD : (D1 == sysModules) = false) (hiex : Ints ex cs2) (hlex : ex.length ≤ 4000) (hrec : ex ≠ [] → RecSpec prog w 944 (-1) (l + 1) ex cs2)
    (k : ∀ h' tk es' n' kvs₁, DIs (PySem.strKind prog w) es' kvs₁ → Ints kvs₁ (gains (-1) (gains (-1) cs ps) cs2) → Fr h₀ L h' m → News h₀ L h' ((x, cnt es' n' dx) :: (dx, dictOf [] 0) :: rest) → R (.ok (.ret .none)) {s with heap := h', toks := tk})
    (B : Below A₀ base outer h₀) (F : Fr h₀ L s.heap m) (X : (Mine.hd06.heap_39 w.params).In h₀) (N : News h₀ L s.heap ((x, cnt es n dx) :: (dx, dictOf [] 0) :: rest)) (T : Top vw ls mean mg mb h₀)
    (l1 : ∀ p ∈ (x, cnt es n dx) :: (dx, dictOf [] 0) :: rest, p.1 < D1) (FG1 : Fr h₀ L g1 m) (F1 : Fr g1 L1 h1 (fun z => [(Str.ofString "kwds", Value.ref D1), (Str.ofString "iterable", .ref y), (Str.ofString "self", .ref x)].lookup z))
    (N1 : News g1 L1 h1 ((D1, o1) :: (x, cnt es n dx) :: (dx, dictOf [] 0) :: rest)) (B1 : Below (AK l (ek e0 L) outer) base (ek e0 L :: outer) g1) (X1 : (Mine.hd06.heap_39 w.params).In g1) (T1 : Top vw ls mean mg mb g1) :
    wpAny (model prog w) ((AK l (ek e0 L) outer).deeper (envX qual scope L1 944 cdv cl)) (execs body (envX qual scope L1 944 cdv cl))
        (fun fl s' => LeaveK h₀ L m g1 R (match fl with | .ret v => v | _ => .none) s')
        (fun e s' => wpAny (model prog w) ((AK l (ek e0 L) outer).deeper (envX qual scope L1 944 cdv cl)) (leaving (envX qual scope L1 944 cdv cl) e) (fun _ s'' => R (.error e) s'') (fun e' s'' => R (.error e') s'') s')
        { s with heap := h1, toks := tk1 } := by
  have e := ho.symm.trans (by k_is : (Mine.hd06.heap_39 w.params).lookup 944 = some _)
  cases e
  have hx2 : ∀ {a : Addr}, x < a → a ≠ x := fun h e => Nat.lt_irrefl _ (e ▸ h)
  have hlk : cs.length + ps.length ≤ 4000 := by omega
  have hxy : y ≠ x := by
    obtain ⟨_, _, _, a, _⟩ := hm.dis
    exact hxr _ a
  k_steps
  unfold Halt
  refine isi_map_K rfl rfl rfl rfl rfl (by walk_at "k le") (by walk_at "k le") (by k_asm) (by k_asm) (by k_asm) (by k_asm) (by k_asm) (MapIn.sub (by assumption) (by kqd_sub)) ?_
  intro h3 tk3 F3 N3
  dsimp only
  k_steps
  unfold Halt
  rename_i q1 h2 l2 h2b F2 N2
  refine For_turns F3 ?_
  k_steps
  unfold Halt
  rename_i v4 h4 F4 N4 l4
  obtain ⟨o, es', n', hom, hod, D'⟩ := hm.dis
  refine iter_cnt (od := o) rfl F4 N4 (N4 _ (by k_mem)).1 ⟨o, es', (N4 (y, o) (by simp [hom])).1, hod, D'⟩ hi' (by simp [hom]) ?_
  intro I hI
  refine items_fold (gain (-1)) (fun i cs' m' news' => ∃ es n kvs ev cv, DIs (PySem.strKind prog w) es kvs ∧ Ints kvs cs' ∧ cs'.length ≤ cs.length + i ∧ m' = mV x D1 (.ref y) (some (.ref q1)) ev cv ∧
    news' = (v4, iview y) :: (q1, bm "dict.get" x) :: (D1, o1) :: (x, cnt es n dx) :: (dx, dictOf [] 0) :: rest) ps.length ?_ ps 0 cs _ _ (Nat.le_of_eq (Nat.zero_add _)) ?_ ?_
  · rintro i cs' p m' news' hlt ⟨es₁, n₁, kvs₁, ev, cv, D₁, hi₁, hlen, rfl, rfl⟩ T t u h tk hT F
    intro oI hoI N
    k_steps
    unfold Halt
    have eg : look cs' p.1 - p.2 = look cs' p.1 + (-1) * p.2 := by omega
    rw [eg]
    rename_i h5 h6 F6 N6 t7 tk7
    refine cnt_set_K ((I, oI) :: (v4, iview y) :: (q1, bm "dict.get" x) :: (D1, o1) :: (dx, dictOf [] 0) :: rest) F6 (by k_asm) N6 (by k_mem) (by k_mem) D₁ hi₁ (by rw [PySem.sizeLine_eq]; omega) (fun p hp => ?_) ?_
    · simp only [List.mem_cons] at hp
      rcases hp with rfl | rfl | rfl | rfl | rfl | hp
      · exact ⟨by k_mem, hx2 (hI (x, cnt es n dx) (by k_mem))⟩
      · exact ⟨by k_mem, hx2 (l4 (x, cnt es n dx) (by k_mem))⟩
      · exact ⟨by k_mem, hx2 (l2 (x, cnt es n dx) (by k_mem))⟩
      · exact ⟨by k_mem, hx2 (l1 (x, cnt es n dx) (by k_mem))⟩
      · exact ⟨by k_mem, ne_cls N6 (o := cnt es₁ n₁ dx) (by k_mem) (p := (dx, dictOf [] 0)) (by k_mem) (by intro e; cases e)⟩
      · exact ⟨by simp [hp], hxr p hp⟩
    · intro h7 es7 n7 kvs7 tk7 D7 hi7 F7 N7
      k_steps
      refine ⟨h7, tk7, _, (v4, iview y) :: (q1, bm "dict.get" x) :: (D1, o1) :: (x, cnt es7 n7 dx) :: (dx, dictOf [] 0) :: rest, rfl, F7, news_sub N7 (by kqd_sub), fun p hp q hq => ?_, subL_of (fun p hp => ?_), es7, n7, kvs7, some (.str p.1 t), some (.int p.2 u), D7, hi7, ?_, funext fun z => mV_set_upd z, rfl⟩
      · obtain rfl := List.mem_singleton.mp hq
        refine Nat.ne_of_lt ?_
        simp only [List.mem_cons] at hp
        rcases hp with rfl | rfl | rfl | rfl | rfl | hp
        · exact hI (v4, _) (by k_mem)
        · exact hI (q1, _) (by k_mem)
        · exact hI (D1, _) (by k_mem)
        · exact hI (x, cnt es n dx) (by k_mem)
        · exact hI (dx, _) (by k_mem)
        · exact hI p (by simp [hp])
      · obtain rfl := List.mem_singleton.mp hp
        simp [hom]
      · have := gain_length_sub cs' p
        omega
  · exact ⟨es, n, kvs, none, none, D, hi, Nat.le_refl _, funext fun z => mV_get_upd z, rfl⟩
  · rintro m' news' ⟨es8, n8, kvs8, ev, cv, D8, hi8, hlen, rfl, rfl⟩ h8 tk8 F8 N8
    k_steps
    unfold Halt

    refine T_sub (s := s) (n8 := n8) hlv ho (news := (v4, iview y) :: (q1, bm "dict.get" x) :: rest) D8 hi8 hsx (by show (gains _ cs ps).length + _ ≤ _; unfold gains; omega) ?_ (by kqd_sub) hex hsD hiex hlex hrec k B F X T FG1 F8 (news_sub N8 (by kqd_sub)) B1 X1 T1
    · intro p hp
      simp only [List.mem_cons] at hp
      rcases hp with rfl | rfl | rfl | hp
      · exact hx2 (l1 (x, cnt es n dx) (by k_mem))
      · exact hx2 (l4 (x, cnt es n dx) (by k_mem))
      · exact hx2 (l2 (x, cnt es n dx) (by k_mem))
      · exact hxr p hp
theorem W_sub_list {l : Nat} (hlv : l ≤ 14) {name qual : Str} {params : Arguments} {body : List Stmt} {scope : Scope} {cl : List (Str × Addr)} {dV kV doc pm cdv ct oc : Value} {an od : Option Addr} {osl : Array (Option Value)}
    (ho : (Mine.hd06.heap_39 w.params).lookup 944 = some ⟨oc, od, .func (fnX name qual params body scope cl dV kV doc pm an cdv ct), osl⟩)
    {x dx D1 L1 : Addr} {o1 : Obj} {y : Addr} {vs : List Value} {ks : List Str} {es : Array DictEntry} {n tk1 : Nat} {kvs ex : List (Str × Value)} {cs ps cs2 : List (Str × Int)} {g1 h1 : Heap}
    (hm : (y, LCg.lst vs) ∈ rest) (hv : Strs vs ks) (hps : ps = ones ks)
    (D : DIs (PySem.strKind prog w) es kvs) (hi : Ints kvs cs) (hsx : (x == sysModules) = false) (hsz : es.size ≤ sizeLine) (hlim : cs.length + ps.length + cs2.length ≤ 4000) (hxr : ∀ p ∈ rest, p.1 ≠ x)
    (hex : o1.IsDictOf (PySem.strKind prog w) ex) (hsD : (D1 == sysModules) = false) (hiex : Ints ex cs2) (hlex : ex.length ≤ 4000) (hrec : ex ≠ [] → RecSpec prog w 944 (-1) (l + 1) ex cs2)
    (k : ∀ h' tk es' n' kvs₁, DIs (PySem.strKind prog w) es' kvs₁ → Ints kvs₁ (gains (-1) (gains (-1) cs ps) cs2) → Fr h₀ L h' m → News h₀ L h' ((x, cnt es' n' dx) :: (dx, dictOf [] 0) :: rest) → R (.ok (.ret .none)) {s with heap := h', toks := tk})
    (B : Below A₀ base outer h₀) (F : Fr h₀ L s.heap m) (X : (Mine.hd06.heap_39 w.params).In h₀) (N : News h₀ L s.heap ((x, cnt es n dx) :: (dx, dictOf [] 0) :: rest)) (T : Top vw ls mean mg mb h₀)
    (l1 : ∀ p ∈ (x, cnt es n dx) :: (dx, dictOf [] 0) :: rest, p.1 < D1) (FG1 : Fr h₀ L g1 m) (F1 : Fr g1 L1 h1 (fun z => [(Str.ofString "kwds", Value.ref D1), (Str.ofString "iterable", .ref y), (Str.ofString "self", .ref x)].lookup z))
    (N1 : News g1 L1 h1 ((D1, o1) :: (x, cnt es n dx) :: (dx, dictOf [] 0) :: rest)) (B1 : Below (AK l (ek e0 L) outer) base (ek e0 L :: outer) g1) (X1 : (Mine.hd06.heap_39 w.params).In g1) (T1 : Top vw ls mean mg mb g1) :
    wpAny (model prog w) ((AK l (ek e0 L) outer).deeper (envX qual scope L1 944 cdv cl)) (execs body (envX qual scope L1 944 cdv cl))
        (fun fl s' => LeaveK h₀ L m g1 R (match fl with | .ret v => v | _ => .none) s')
        (fun e s' => wpAny (model prog w) ((AK l (ek e0 L) outer).deeper (envX qual scope L1 944 cdv cl)) (leaving (envX qual scope L1 944 cdv cl) e) (fun _ s'' => R (.error e) s'') (fun e' s'' => R (.error e') s'') s')
        { s with heap := h1, toks := tk1 } := by
  have e := ho.symm.trans (by k_is : (Mine.hd06.heap_39 w.params).lookup 944 = some _)
  cases e
  have hx2 : ∀ {a : Addr}, x < a → a ≠ x := fun h e => Nat.lt_irrefl _ (e ▸ h)
  have hlk : cs.length + ps.length ≤ 4000 := by omega
  subst hps
  have hvl := hv.length
  have hol : (ones ks).length = ks.length := by simp [ones]
  k_steps
  unfold Halt
  refine isi_list_K rfl rfl rfl rfl rfl (by walk_at "k le") (by walk_at "k le") (by k_asm) (by k_asm) (by k_asm) (by k_asm) (by k_asm) (List.mem_cons_of_mem _ (List.mem_cons_of_mem _ (List.mem_cons_of_mem _ (List.mem_cons_of_mem _ hm)))) rfl ?_
  intro h3 tk3 F3 N3
  dsimp only
  k_steps
  unfold Halt
  rename_i q1 h2 l2 h2b F2 N2
  refine For_turns F3 ?_
  k_steps
  unfold Halt
  refine iter_listTurns (lo := LCg.lst vs) rfl F3 N3 (by simp [hm]) rfl rfl ?_
  intro I hI
  refine vals_fold (gain (-1)) (fun i cs' m' news' => ∃ es n kvs ev, DIs (PySem.strKind prog w) es kvs ∧ Ints kvs cs' ∧ cs'.length ≤ cs.length + i ∧ m' = mV x D1 (.ref y) (some (.ref q1)) ev none ∧
      news' = (q1, bm "dict.get" x) :: (D1, o1) :: (x, cnt es n dx) :: (dx, dictOf [] 0) :: rest) vs.length ?_ hv 0 cs _ _ (Nat.le_of_eq (Nat.zero_add _)) ?_ ?_
  · rintro i cs' k₁ t m' news' hlt ⟨es₁, n₁, kvs₁, ev, D₁, hi₁, hlen, rfl, rfl⟩ h tk hF
    intro oI hoI hN
    k_steps
    unfold Halt
    have eg : look cs' k₁ - 1 = look cs' k₁ + (-1) * (1 : Int) := by omega
    rw [eg]
    rename_i h5 h6 F6 N6 t7 tk7
    refine cnt_set_K ((I, oI) :: (q1, bm "dict.get" x) :: (D1, o1) :: (dx, dictOf [] 0) :: rest) F6 (by k_asm) N6 (by k_mem) (by k_mem) D₁ hi₁ (by rw [PySem.sizeLine_eq]; omega) (fun p hp => ?_) ?_
    · simp only [List.mem_cons] at hp
      rcases hp with rfl | rfl | rfl | rfl | hp
      · exact ⟨by k_mem, hx2 (hI (x, cnt es n dx) (by k_mem))⟩
      · exact ⟨by k_mem, hx2 (l2 (x, cnt es n dx) (by k_mem))⟩
      · exact ⟨by k_mem, hx2 (l1 (x, cnt es n dx) (by k_mem))⟩
      · exact ⟨by k_mem, ne_cls N6 (o := cnt es₁ n₁ dx) (by k_mem) (p := (dx, dictOf [] 0)) (by k_mem) (by intro e; cases e)⟩
      · exact ⟨by simp [hp], hxr p hp⟩
    · intro h7 es7 n7 kvs7 tk7 D7 hi7 F7 N7
      k_steps
      refine ⟨h7, tk7, _, (q1, bm "dict.get" x) :: (D1, o1) :: (x, cnt es7 n7 dx) :: (dx, dictOf [] 0) :: rest, rfl, F7, news_sub N7 (by kqd_sub), fun p hp q hq => ?_, subL_of (fun p hp => ?_), es7, n7, kvs7, some (.str k₁ t), D7, hi7, ?_, funext fun z => mV_one_upd z, rfl⟩
      · obtain rfl := List.mem_singleton.mp hq
        refine Nat.ne_of_lt ?_
        simp only [List.mem_cons] at hp
        rcases hp with rfl | rfl | rfl | rfl | hp
        · exact hI (q1, _) (by k_mem)
        · exact hI (D1, _) (by k_mem)
        · exact hI (x, cnt es n dx) (by k_mem)
        · exact hI (dx, _) (by k_mem)
        · exact hI p (by simp [hp])
      · obtain rfl := List.mem_singleton.mp hp
        simp [hm]
      · have := gain_length_sub cs' (k₁, 1)
        omega
  · exact ⟨es, n, kvs, none, D, hi, Nat.le_refl _, funext fun z => mV_get_upd z, rfl⟩
  · rintro m' news' ⟨es8, n8, kvs8, ev, D8, hi8, hlen, rfl, rfl⟩ h8 tk8 F8 N8
    k_steps
    unfold Halt

    refine T_sub (s := s) (n8 := n8) hlv ho (news := (q1, bm "dict.get" x) :: rest) D8 hi8 hsx (by show (gains _ cs (ones ks)).length + _ ≤ _; unfold gains; omega) ?_ (by kqd_sub) hex hsD hiex hlex hrec k B F X T FG1 F8 (news_sub N8 (by kqd_sub)) B1 X1 T1
    · intro p hp
      simp only [List.mem_cons] at hp
      rcases hp with rfl | rfl | hp
      · exact hx2 (l1 (x, cnt es n dx) (by k_mem))
      · exact hx2 (l2 (x, cnt es n dx) (by k_mem))
      · exact hxr p hp
theorem W_sub_none {l : Nat} (hlv : l ≤ 14) {name qual : Str} {params : Arguments} {body : List Stmt} {scope : Scope} {cl : List (Str × Addr)} {dV kV doc pm cdv ct oc : Value} {an od : Option Addr} {osl : Array (Option Value)}
    (ho : (Mine.hd06.heap_39 w.params).lookup 944 = some ⟨oc, od, .func (fnX name qual params body scope cl dV kV doc pm an cdv ct), osl⟩)
    {x dx D1 L1 : Addr} {o1 : Obj}  {es : Array DictEntry} {n tk1 : Nat} {kvs ex : List (Str × Value)} {cs ps cs2 : List (Str × Int)} {g1 h1 : Heap}
    (hps : ps = [])
    (D : DIs (PySem.strKind prog w) es kvs) (hi : Ints kvs cs) (hsx : (x == sysModules) = false) (hsz : es.size ≤ sizeLine) (hlim : cs.length + ps.length + cs2.length ≤ 4000) (hxr : ∀ p ∈ rest, p.1 ≠ x)
    (hex : o1.IsDictOf (PySem.strKind prog w) ex) (hsD : (D1 == sysModules) = false) (hiex : Ints ex cs2) (hlex : ex.length ≤ 4000) (hrec : ex ≠ [] → RecSpec prog w 944 (-1) (l + 1) ex cs2)
    (k : ∀ h' tk es' n' kvs₁, DIs (PySem.strKind prog w) es' kvs₁ → Ints kvs₁ (gains (-1) (gains (-1) cs ps) cs2) → Fr h₀ L h' m → News h₀ L h' ((x, cnt es' n' dx) :: (dx, dictOf [] 0) :: rest) → R (.ok (.ret .none)) {s with heap := h', toks := tk})
    (B : Below A₀ base outer h₀) (F : Fr h₀ L s.heap m) (X : (Mine.hd06.heap_39 w.params).In h₀) (N : News h₀ L s.heap ((x, cnt es n dx) :: (dx, dictOf [] 0) :: rest)) (T : Top vw ls mean mg mb h₀)
    (l1 : ∀ p ∈ (x, cnt es n dx) :: (dx, dictOf [] 0) :: rest, p.1 < D1) (FG1 : Fr h₀ L g1 m) (F1 : Fr g1 L1 h1 (fun z => [(Str.ofString "kwds", Value.ref D1), (Str.ofString "iterable", .none), (Str.ofString "self", .ref x)].lookup z))
    (N1 : News g1 L1 h1 ((D1, o1) :: (x, cnt es n dx) :: (dx, dictOf [] 0) :: rest)) (B1 : Below (AK l (ek e0 L) outer) base (ek e0 L :: outer) g1) (X1 : (Mine.hd06.heap_39 w.params).In g1) (T1 : Top vw ls mean mg mb g1) :
    wpAny (model prog w) ((AK l (ek e0 L) outer).deeper (envX qual scope L1 944 cdv cl)) (execs body (envX qual scope L1 944 cdv cl))
        (fun fl s' => LeaveK h₀ L m g1 R (match fl with | .ret v => v | _ => .none) s')
        (fun e s' => wpAny (model prog w) ((AK l (ek e0 L) outer).deeper (envX qual scope L1 944 cdv cl)) (leaving (envX qual scope L1 944 cdv cl) e) (fun _ s'' => R (.error e) s'') (fun e' s'' => R (.error e') s'') s')
        { s with heap := h1, toks := tk1 } := by
  have e := ho.symm.trans (by k_is : (Mine.hd06.heap_39 w.params).lookup 944 = some _)
  cases e
  have hx2 : ∀ {a : Addr}, x < a → a ≠ x := fun h e => Nat.lt_irrefl _ (e ▸ h)
  have hlk : cs.length + ps.length ≤ 4000 := by omega
  subst hps
  k_steps
  unfold Halt

  refine T_sub (s := s) (n8 := n) hlv ho (news := rest) D hi hsx (by simpa using hlim) ?_ (by kqd_sub) hex hsD hiex hlex hrec k B F X T FG1 (fr_fun F1 fun z => mV_new z) (news_sub N1 (by kqd_sub)) B1 X1 T1
  · intro p hp
    simp only [List.mem_cons] at hp
    rcases hp with rfl | hp
    · exact hx2 (l1 (x, cnt es n dx) (by k_mem))
    · exact hxr p hp
end
end Mine
end
section
open PySem PySem.W PyProof.Rows PyProof.V PySem.Calls PySem.Spec Builtin Builtin.ObjectAttr
set_option Elab.async false
set_option maxRecDepth 100000
set_option maxHeartbeats 3000000
namespace Mine
theorem fill24 : PySem.Challenge.rw_dn0005_06 = PySem.Challenge.rw_dn0005_06 ∧ Mine.hd06.heap_39 = Mine.hd06.heap_39 := by
  k_fill
  exact ⟨rfl, rfl⟩
local macro_rules | `(tactic| k_room) => `(tactic| ((try simp only [depth_under_make, depth_under_kw, depth_in1, depth_deeper, depth_caller]); (try dsimp only [AK]); (have h1000 : recursionLimit = 1000 := rfl); omega))
theorem kw_nodup {k1 k2 : Str} {a b : Value} (h : k1 ≠ k2) : (([(k1, a), (k2, b)] : List (Str × Value)).map (·.1)).Nodup := by simp [h]
/-- what is handed over, and what it counts: nothing, a list of texts, or a mapping -/
inductive Given (prog : Program) (w : World) (l : List (Addr × Obj)) : Value → List (Str × Int) → Prop
  | none : Given prog w l .none []
  | list {y : Addr} {vs : List Value} {ks : List Str} (hm : (y, LCg.lst vs) ∈ l) (hv : Strs vs ks) : Given prog w l (.ref y) (ones ks)
  | map {y : Addr} {kvs : List (Str × Value)} {ps : List (Str × Int)} (hm : MapIn prog w y l kvs) (hl8 : ps.length ≤ 8) (hi : Ints kvs ps) (hsy : (y == sysModules) = false) : Given prog w l (.ref y) ps
section
variable {prog : Program} {w : World} {A₀ : Around} {base h₀ : Heap} {outer : List Env} {e0 : Env} {L : Addr} {m mg mb : Str → Option Value} {mean : ExcName → Option Value} {s : Shared} {R : Result → Shared → Prop} {rest : List (Addr × Obj)}
theorem rec_upd {l : Nat} (hlv : l ≤ 14) {kvs' : List (Str × Value)} {ps : List (Str × Int)} (hfile : ((prog.main.file : Str) == Str.ofString "/claim/cut.py") = true) (htop : (prog.main.scope.names.lookup (Str.ofString "super")).isSome = false) (hl8 : ps.length ≤ 8) (hi' : Ints kvs' ps) : RecSpec prog w 936 (1) l kvs' ps := by
  intro A₀ base h₀ outer e0 L m mg mb mean s R rest x dx y es n kvs cs D hi hsx hsz hlim hxr hm hsy B F X N T k
  refine' more_at (ex := []) ?k1 ?k2 ?k3 ?k4 ?k5 ?kA ?kF ?kK ?k6 ?k7 ?k8 ?kX ?kM ?kN ?kR ?kP ?kT ?kB ?_ ?c2 ?c3 ?c4 ?c5
  case kA => exact rfl
  case kF => exact rfl
  case kK => exact rfl
  case k1 => k_asm
  case k2 => k_asm
  case k3 => k_asm
  case k4 => k_asm
  case k5 => k_asm
  case k6 => k_is
  case k7 => k_is
  case k8 => k_room
  case kX => exact rfl
  case kM => exact rfl
  case kN => exact List.nodup_nil
  case kR => exact rfl
  case kP => exact rfl
  case kT => exact fun _ => rfl
  case kB => exact fun _ => locs rfl
  case c5 => decide
  case c2 => exact rfl
  case c3 => exact rfl
  case c4 => exact rfl
  k_whole
  intro D1 o1 g1 L1 h1 tk1 l1 lo1 hs1 FG1 F1 N1 B1 X1 T1
  exact W_upd_map (s := s) (n := n) hlv (by k_is) hfile htop hm hl8 hi' hsy D hi hsx hsz (cs2 := []) (by simpa using hlim) hxr hs1 lo1 Ints.nil (by simp) (fun h => absurd rfl h) k B F X N T l1 FG1 (fr_fun F1 fun _ => rfl) N1 B1 X1 T1
theorem upd_spec0 {l : Nat} (hlv : l ≤ 13) {x dx : Addr} {v : Value} {es : Array DictEntry} {n : Nat} {kvs : List (Str × Value)} {cs ps : List (Str × Int)}  (hfile : ((prog.main.file : Str) == Str.ofString "/claim/cut.py") = true) (htop : (prog.main.scope.names.lookup (Str.ofString "super")).isSome = false)
    (G : Given prog w rest v ps) (D : DIs (PySem.strKind prog w) es kvs) (hi : Ints kvs cs) (hsx : (x == sysModules) = false) (hlim : cs.length + ps.length + 0 ≤ 4000) (hxr : ∀ p ∈ rest, p.1 ≠ x)
    (B : Below A₀ base outer h₀) (F : Fr h₀ L s.heap m) (X : (Mine.hd06.heap_39 w.params).In h₀) (N : News h₀ L s.heap ((x, cnt es n dx) :: (dx, dictOf [] 0) :: rest)) (T : Top vw ls mean mg mb h₀)
    (k : ∀ h' tk es' n' kvs₁, DIs (PySem.strKind prog w) es' kvs₁ → Ints kvs₁ (gains (1) (gains (1) cs ps) []) → Fr h₀ L h' m → News h₀ L h' ((x, cnt es' n' dx) :: (dx, dictOf [] 0) :: rest) → R (.ok (.ret .none)) {s with heap := h', toks := tk}) :
    codeAny (model prog w) (AK l (ek e0 L) outer) (.call (.ref 936) ⟨[.ref x, v], []⟩) R s := by
  have hsz : es.size ≤ sizeLine := by rw [D.size, hi.length, PySem.sizeLine_eq]; omega
  refine' more_at (ex := []) ?k1 ?k2 ?k3 ?k4 ?k5 ?kA ?kF ?kK ?k6 ?k7 ?k8 ?kX ?kM ?kN ?kR ?kP ?kT ?kB ?_ ?c2 ?c3 ?c4 ?c5
  case kA => exact rfl
  case kF => exact rfl
  case kK => exact rfl
  case k1 => k_asm
  case k2 => k_asm
  case k3 => k_asm
  case k4 => k_asm
  case k5 => k_asm
  case k6 => k_is
  case k7 => k_is
  case k8 => k_room
  case kX => exact rfl
  case kM => exact rfl
  case kN => exact List.nodup_nil
  case kR => exact rfl
  case kP => exact rfl
  case kT => exact fun _ => rfl
  case kB => exact fun _ => locs rfl
  case c5 => decide
  case c2 => exact rfl
  case c3 => exact rfl
  case c4 => exact rfl
  k_whole
  intro D1 o1 g1 L1 h1 tk1 l1 lo1 hs1 FG1 F1 N1 B1 X1 T1
  cases G with
  | none => exact W_upd_none (s := s) (n := n) (by omega) (by k_is) hfile htop rfl D hi hsx hsz (cs2 := []) hlim hxr hs1 lo1 Ints.nil (by simp) (fun h => absurd rfl h) k B F X N T l1 FG1 (fr_fun F1 fun _ => rfl) N1 B1 X1 T1
  | list hm hv => exact W_upd_list (s := s) (n := n) (by omega) (by k_is) hfile htop hm hv rfl D hi hsx hsz (cs2 := []) hlim hxr hs1 lo1 Ints.nil (by simp) (fun h => absurd rfl h) k B F X N T l1 FG1 (fr_fun F1 fun _ => rfl) N1 B1 X1 T1
  | map hm hl8 hi' hsy => exact W_upd_map (s := s) (n := n) (by omega) (by k_is) hfile htop hm hl8 hi' hsy D hi hsx hsz (cs2 := []) hlim hxr hs1 lo1 Ints.nil (by simp) (fun h => absurd rfl h) k B F X N T l1 FG1 (fr_fun F1 fun _ => rfl) N1 B1 X1 T1
theorem upd_spec2 {l : Nat} (hlv : l ≤ 13) {x dx : Addr} {v : Value} {es : Array DictEntry} {n : Nat} {kvs : List (Str × Value)} {cs ps : List (Str × Int)} {k1 k2 : Str} {a b : Int} {t1 t2 : Tok} (hne : k1 ≠ k2) (hfile : ((prog.main.file : Str) == Str.ofString "/claim/cut.py") = true) (htop : (prog.main.scope.names.lookup (Str.ofString "super")).isSome = false)
    (G : Given prog w rest v ps) (D : DIs (PySem.strKind prog w) es kvs) (hi : Ints kvs cs) (hsx : (x == sysModules) = false) (hlim : cs.length + ps.length + 2 ≤ 4000) (hxr : ∀ p ∈ rest, p.1 ≠ x)
    (B : Below A₀ base outer h₀) (F : Fr h₀ L s.heap m) (X : (Mine.hd06.heap_39 w.params).In h₀) (N : News h₀ L s.heap ((x, cnt es n dx) :: (dx, dictOf [] 0) :: rest)) (T : Top vw ls mean mg mb h₀)
    (k : ∀ h' tk es' n' kvs₁, DIs (PySem.strKind prog w) es' kvs₁ → Ints kvs₁ (gains (1) (gains (1) cs ps) [(k1, a), (k2, b)]) → Fr h₀ L h' m → News h₀ L h' ((x, cnt es' n' dx) :: (dx, dictOf [] 0) :: rest) → R (.ok (.ret .none)) {s with heap := h', toks := tk}) :
    codeAny (model prog w) (AK l (ek e0 L) outer) (.call (.ref 936) ⟨[.ref x, v], [(k1, .int a t1), (k2, .int b t2)]⟩) R s := by
  have hsz : es.size ≤ sizeLine := by rw [D.size, hi.length, PySem.sizeLine_eq]; omega
  have hiex : Ints [(k1, .int a t1), (k2, .int b t2)] [(k1, a), (k2, b)] := .cons ⟨rfl, t1, rfl⟩ (.cons ⟨rfl, t2, rfl⟩ .nil)
  refine' more_at (ex := [(k1, .int a t1), (k2, .int b t2)]) ?k1 ?k2 ?k3 ?k4 ?k5 ?kA ?kF ?kK ?k6 ?k7 ?k8 ?kX ?kM ?kN ?kR ?kP ?kT ?kB ?_ ?c2 ?c3 ?c4 ?c5
  case kA => exact rfl
  case kF => exact rfl
  case kK => exact rfl
  case k1 => k_asm
  case k2 => k_asm
  case k3 => k_asm
  case k4 => k_asm
  case k5 => k_asm
  case k6 => k_is
  case k7 => k_is
  case k8 => k_room
  case kX => exact rfl
  case kM => exact rfl
  case kN => exact kw_nodup hne
  case kR => exact rfl
  case kP => exact rfl
  case kT => exact fun _ => rfl
  case kB => exact fun _ => locs rfl
  case c5 => decide
  case c2 => exact rfl
  case c3 => exact rfl
  case c4 => exact rfl
  k_whole
  intro D1 o1 g1 L1 h1 tk1 l1 lo1 hs1 FG1 F1 N1 B1 X1 T1
  cases G with
  | none => exact W_upd_none (s := s) (n := n) (by omega) (by k_is) hfile htop rfl D hi hsx hsz (cs2 := [(k1, a), (k2, b)]) hlim hxr hs1 lo1 hiex (by simp) (fun _ => rec_upd (by omega) hfile htop (by simp) hiex) k B F X N T l1 FG1 (fr_fun F1 fun _ => rfl) N1 B1 X1 T1
  | list hm hv => exact W_upd_list (s := s) (n := n) (by omega) (by k_is) hfile htop hm hv rfl D hi hsx hsz (cs2 := [(k1, a), (k2, b)]) hlim hxr hs1 lo1 hiex (by simp) (fun _ => rec_upd (by omega) hfile htop (by simp) hiex) k B F X N T l1 FG1 (fr_fun F1 fun _ => rfl) N1 B1 X1 T1
  | map hm hl8 hi' hsy => exact W_upd_map (s := s) (n := n) (by omega) (by k_is) hfile htop hm hl8 hi' hsy D hi hsx hsz (cs2 := [(k1, a), (k2, b)]) hlim hxr hs1 lo1 hiex (by simp) (fun _ => rec_upd (by omega) hfile htop (by simp) hiex) k B F X N T l1 FG1 (fr_fun F1 fun _ => rfl) N1 B1 X1 T1
theorem rec_sub {l : Nat} (hlv : l ≤ 14) {kvs' : List (Str × Value)} {ps : List (Str × Int)} (hfile : ((prog.main.file : Str) == Str.ofString "/claim/cut.py") = true) (htop : (prog.main.scope.names.lookup (Str.ofString "super")).isSome = false) (hl8 : ps.length ≤ 8) (hi' : Ints kvs' ps) : RecSpec prog w 944 (-1) l kvs' ps := by
  intro A₀ base h₀ outer e0 L m mg mb mean s R rest x dx y es n kvs cs D hi hsx hsz hlim hxr hm hsy B F X N T k
  refine' more_at (ex := []) ?k1 ?k2 ?k3 ?k4 ?k5 ?kA ?kF ?kK ?k6 ?k7 ?k8 ?kX ?kM ?kN ?kR ?kP ?kT ?kB ?_ ?c2 ?c3 ?c4 ?c5
  case kA => exact rfl
  case kF => exact rfl
  case kK => exact rfl
  case k1 => k_asm
  case k2 => k_asm
  case k3 => k_asm
  case k4 => k_asm
  case k5 => k_asm
  case k6 => k_is
  case k7 => k_is
  case k8 => k_room
  case kX => exact rfl
  case kM => exact rfl
  case kN => exact List.nodup_nil
  case kR => exact rfl
  case kP => exact rfl
  case kT => exact fun _ => rfl
  case kB => exact fun _ => locs rfl
  case c5 => decide
  case c2 => exact rfl
  case c3 => exact rfl
  case c4 => exact rfl
  k_whole
  intro D1 o1 g1 L1 h1 tk1 l1 lo1 hs1 FG1 F1 N1 B1 X1 T1
  exact wpAt_of_wpAny <| W_sub_map (s := s) (n := n) hlv (by k_is) hm hl8 hi' hsy D hi hsx hsz (cs2 := []) (by simpa using hlim) hxr hs1 lo1 Ints.nil (by simp) (fun h => absurd rfl h) k B F X N T l1 FG1 (fr_fun F1 fun _ => rfl) N1 B1 X1 T1
theorem sub_spec0 {l : Nat} (hlv : l ≤ 13) {x dx : Addr} {v : Value} {es : Array DictEntry} {n : Nat} {kvs : List (Str × Value)} {cs ps : List (Str × Int)}  (hfile : ((prog.main.file : Str) == Str.ofString "/claim/cut.py") = true) (htop : (prog.main.scope.names.lookup (Str.ofString "super")).isSome = false)
    (G : Given prog w rest v ps) (D : DIs (PySem.strKind prog w) es kvs) (hi : Ints kvs cs) (hsx : (x == sysModules) = false) (hlim : cs.length + ps.length + 0 ≤ 4000) (hxr : ∀ p ∈ rest, p.1 ≠ x)
    (B : Below A₀ base outer h₀) (F : Fr h₀ L s.heap m) (X : (Mine.hd06.heap_39 w.params).In h₀) (N : News h₀ L s.heap ((x, cnt es n dx) :: (dx, dictOf [] 0) :: rest)) (T : Top vw ls mean mg mb h₀)
    (k : ∀ h' tk es' n' kvs₁, DIs (PySem.strKind prog w) es' kvs₁ → Ints kvs₁ (gains (-1) (gains (-1) cs ps) []) → Fr h₀ L h' m → News h₀ L h' ((x, cnt es' n' dx) :: (dx, dictOf [] 0) :: rest) → R (.ok (.ret .none)) {s with heap := h', toks := tk}) :
    codeAny (model prog w) (AK l (ek e0 L) outer) (.call (.ref 944) ⟨[.ref x, v], []⟩) R s := by
  have hsz : es.size ≤ sizeLine := by rw [D.size, hi.length, PySem.sizeLine_eq]; omega
  refine' more_at (ex := []) ?k1 ?k2 ?k3 ?k4 ?k5 ?kA ?kF ?kK ?k6 ?k7 ?k8 ?kX ?kM ?kN ?kR ?kP ?kT ?kB ?_ ?c2 ?c3 ?c4 ?c5
  case kA => exact rfl
  case kF => exact rfl
  case kK => exact rfl
  case k1 => k_asm
  case k2 => k_asm
  case k3 => k_asm
  case k4 => k_asm
  case k5 => k_asm
  case k6 => k_is
  case k7 => k_is
  case k8 => k_room
  case kX => exact rfl
  case kM => exact rfl
  case kN => exact List.nodup_nil
  case kR => exact rfl
  case kP => exact rfl
  case kT => exact fun _ => rfl
  case kB => exact fun _ => locs rfl
  case c5 => decide
  case c2 => exact rfl
  case c3 => exact rfl
  case c4 => exact rfl
  k_whole
  intro D1 o1 g1 L1 h1 tk1 l1 lo1 hs1 FG1 F1 N1 B1 X1 T1
  cases G with
  | none => exact wpAt_of_wpAny <| W_sub_none (s := s) (n := n) (by omega) (by k_is) rfl D hi hsx hsz (cs2 := []) hlim hxr hs1 lo1 Ints.nil (by simp) (fun h => absurd rfl h) k B F X N T l1 FG1 (fr_fun F1 fun _ => rfl) N1 B1 X1 T1
  | list hm hv => exact wpAt_of_wpAny <| W_sub_list (s := s) (n := n) (by omega) (by k_is) hm hv rfl D hi hsx hsz (cs2 := []) hlim hxr hs1 lo1 Ints.nil (by simp) (fun h => absurd rfl h) k B F X N T l1 FG1 (fr_fun F1 fun _ => rfl) N1 B1 X1 T1
  | map hm hl8 hi' hsy => exact wpAt_of_wpAny <| W_sub_map (s := s) (n := n) (by omega) (by k_is) hm hl8 hi' hsy D hi hsx hsz (cs2 := []) hlim hxr hs1 lo1 Ints.nil (by simp) (fun h => absurd rfl h) k B F X N T l1 FG1 (fr_fun F1 fun _ => rfl) N1 B1 X1 T1
theorem sub_spec2 {l : Nat} (hlv : l ≤ 13) {x dx : Addr} {v : Value} {es : Array DictEntry} {n : Nat} {kvs : List (Str × Value)} {cs ps : List (Str × Int)} {k1 k2 : Str} {a b : Int} {t1 t2 : Tok} (hne : k1 ≠ k2) (hfile : ((prog.main.file : Str) == Str.ofString "/claim/cut.py") = true) (htop : (prog.main.scope.names.lookup (Str.ofString "super")).isSome = false)
    (G : Given prog w rest v ps) (D : DIs (PySem.strKind prog w) es kvs) (hi : Ints kvs cs) (hsx : (x == sysModules) = false) (hlim : cs.length + ps.length + 2 ≤ 4000) (hxr : ∀ p ∈ rest, p.1 ≠ x)
    (B : Below A₀ base outer h₀) (F : Fr h₀ L s.heap m) (X : (Mine.hd06.heap_39 w.params).In h₀) (N : News h₀ L s.heap ((x, cnt es n dx) :: (dx, dictOf [] 0) :: rest)) (T : Top vw ls mean mg mb h₀)
    (k : ∀ h' tk es' n' kvs₁, DIs (PySem.strKind prog w) es' kvs₁ → Ints kvs₁ (gains (-1) (gains (-1) cs ps) [(k1, a), (k2, b)]) → Fr h₀ L h' m → News h₀ L h' ((x, cnt es' n' dx) :: (dx, dictOf [] 0) :: rest) → R (.ok (.ret .none)) {s with heap := h', toks := tk}) :
    codeAny (model prog w) (AK l (ek e0 L) outer) (.call (.ref 944) ⟨[.ref x, v], [(k1, .int a t1), (k2, .int b t2)]⟩) R s := by
  have hsz : es.size ≤ sizeLine := by rw [D.size, hi.length, PySem.sizeLine_eq]; omega
  have hiex : Ints [(k1, .int a t1), (k2, .int b t2)] [(k1, a), (k2, b)] := .cons ⟨rfl, t1, rfl⟩ (.cons ⟨rfl, t2, rfl⟩ .nil)
  refine' more_at (ex := [(k1, .int a t1), (k2, .int b t2)]) ?k1 ?k2 ?k3 ?k4 ?k5 ?kA ?kF ?kK ?k6 ?k7 ?k8 ?kX ?kM ?kN ?kR ?kP ?kT ?kB ?_ ?c2 ?c3 ?c4 ?c5
  case kA => exact rfl
  case kF => exact rfl
  case kK => exact rfl
  case k1 => k_asm
  case k2 => k_asm
  case k3 => k_asm
  case k4 => k_asm
  case k5 => k_asm
  case k6 => k_is
  case k7 => k_is
  case k8 => k_room
  case kX => exact rfl
  case kM => exact rfl
  case kN => exact kw_nodup hne
  case kR => exact rfl
  case kP => exact rfl
  case kT => exact fun _ => rfl
  case kB => exact fun _ => locs rfl
  case c5 => decide
  case c2 => exact rfl
  case c3 => exact rfl
  case c4 => exact rfl
  k_whole
  intro D1 o1 g1 L1 h1 tk1 l1 lo1 hs1 FG1 F1 N1 B1 X1 T1
  cases G with
  | none => exact wpAt_of_wpAny <| W_sub_none (s := s) (n := n) (by omega) (by k_is) rfl D hi hsx hsz (cs2 := [(k1, a), (k2, b)]) hlim hxr hs1 lo1 hiex (by simp) (fun _ => rec_sub (by omega) hfile htop (by simp) hiex) k B F X N T l1 FG1 (fr_fun F1 fun _ => rfl) N1 B1 X1 T1
  | list hm hv => exact wpAt_of_wpAny <| W_sub_list (s := s) (n := n) (by omega) (by k_is) hm hv rfl D hi hsx hsz (cs2 := [(k1, a), (k2, b)]) hlim hxr hs1 lo1 hiex (by simp) (fun _ => rec_sub (by omega) hfile htop (by simp) hiex) k B F X N T l1 FG1 (fr_fun F1 fun _ => rfl) N1 B1 X1 T1
  | map hm hl8 hi' hsy => exact wpAt_of_wpAny <| W_sub_map (s := s) (n := n) (by omega) (by k_is) hm hl8 hi' hsy D hi hsx hsz (cs2 := [(k1, a), (k2, b)]) hlim hxr hs1 lo1 hiex (by simp) (fun _ => rec_sub (by omega) hfile htop (by simp) hiex) k B F X N T l1 FG1 (fr_fun F1 fun _ => rfl) N1 B1 X1 T1
end
end Mine
end
section
open PySem PySem.W PyProof.Rows PyProof.V PySem.Calls PySem.Spec Builtin Builtin.ObjectAttr
set_option Elab.async false
set_option maxRecDepth 100000
set_option maxHeartbeats 3000000
namespace Mine
section
variable {prog : Program} {w : World} {A : Around} {E : Value → Shared → Prop} {s : Shared} {d o : Addr} {od oo : Obj} {es es2 : Array DictEntry} {ep ep2 : Nat} {kvs more : List (Str × Value)} {k : Str} {key v : Value}
theorem findIdx_none {es : Array DictEntry} (D : DIs (PySem.strKind prog w) es kvs) (h : k ∉ kvs.map (·.1)) : (es.findIdx? fun e => (PySem.strKind prog w).is k e.key) = none := by
  have hl : (es.toList.findIdx? fun e => (PySem.strKind prog w).is k e.key) = es.findIdx? fun e => (PySem.strKind prog w).is k e.key := by obtain ⟨l⟩ := es; simp
  rw [← hl, D.pairs.findIdx k, List.findIdx?_eq_none_iff]
  intro x hx
  simp only [decide_eq_false_iff_not]
  exact fun e => h (e ▸ List.mem_map_of_mem hx)
theorem DIs.push {es : Array DictEntry} (D : DIs (PySem.strKind prog w) es kvs) (h : k ∉ kvs.map (·.1)) (hkey : (PySem.strKind prog w).is k key = true) : DIs (PySem.strKind prog w) (es.push ⟨(PySem.strKind prog w).hash k, key, v⟩) (kvs ++ [(k, v)]) := by
  refine ⟨D.keys.push hkey _, ?_, ?_⟩
  · have := D.pairs.append hkey ((PySem.strKind prog w).hash k) v
    obtain ⟨l⟩ := es
    simpa using this
  · rw [List.map_append, List.nodup_append]
    refine ⟨D.nodup, by simp, ?_⟩
    intro a ha b hb e
    simp only [List.map_cons, List.map_nil, List.mem_singleton] at hb
    exact h (hb ▸ e ▸ ha)
/-- the entries of o laid into the new dict d, each key once -/
theorem merge_kw {Q : Unit → Shared → Prop} (hdo : d ≠ o) (hoS : (o == sysModules) = false) (hd : s.heap.get? d = some { cls := .type "dict", data := .dict #[] })
    (hdict : oo.ExactDict) (ho2 : s.heap.get? o = some oo) (hd2 : oo.data = .dict es2 ep2) (D2 : DIs (PySem.strKind prog w) es2 more) (hsz : more.length ≤ sizeLine)
    (h : ∀ h' es' ep', DIs (PySem.strKind prog w) es' more → h'.get? d = some { cls := .type "dict", data := .dict es' ep' } → Heap.SameBut d s.heap h' → Q () { s with heap := h' }) :
    wpAny (model prog w) A (mergeMapping d (.ref o) true) Q E s := by
  obtain ⟨hh, g, dr, t, os⟩ := s
  obtain ⟨oc, odd, oda, osl⟩ := oo
  obtain ⟨h1, h2, h3⟩ := hdict
  dsimp only at h1 h2 h3 hd2 hd ho2
  subst h1 h2 h3 hd2
  have L3 : Looks (model prog w) hh (typeLookup (.type "dict") (Str.ofString "__iter__")) (some (.builtin "dict.__iter__")) := Looks.of_pure F.slot_dict_iter.lookup
  unfold mergeMapping
  repeat ((fail_if_success (with_reducible show wpAny _ _ (forIn _ _ _) _ _ _)); lk)
  rw [if_neg (by rw [hoS]; exact Bool.false_ne_true)]
  repeat ((fail_if_success (with_reducible show wpAny _ _ (forIn _ _ _) _ _ _)); lk)
  rw [← Array.forIn_toList]
  refine wpAny_forIn_list _ (fun rest _ s' => (∀ e ∈ rest, e ∈ es2.toList) ∧ s' = ⟨hh, g, dr, t, os⟩) _ ?_ ?_ _ _ ⟨fun _ h => h, rfl⟩
  · rintro e rest b s' ⟨hin, rfl⟩
    obtain ⟨k, hk, _⟩ := D2.keys e (Array.mem_toList_iff.mp (hin e (.head _)))
    obtain ⟨tk, htk⟩ := Value.isStrOf_shape hk
    rw [htk]
    exact wpAny_pure ⟨fun e' he => hin e' (.tail _ he), rfl⟩
  rintro b s' ⟨_, rfl⟩
  refine wpAny_bind (wpAny_dictEntries ho2 rfl ?_)
  refine wpAny_bind (wpAny_dictEpoch ho2 rfl ?_)
  have hlen : more.length = es2.size := D2.size.symm
  refine wpAny_bind ?_
  refine wpAny_forIn_list _ (fun rest _ s' => ∃ h' es' ep' i, s' = ⟨h', g, dr, t, os⟩ ∧ rest = List.range' i (es2.size - i) ∧ i ≤ es2.size ∧ DIs (PySem.strKind prog w) es' (more.take i) ∧ h'.get? d = some { cls := .type "dict", data := .dict es' ep' } ∧ h'.get? o = some ⟨.type "dict", none, .dict es2 ep2, #[]⟩ ∧ Heap.SameBut d hh h') _ ?_ ?_ _ _
    ⟨hh, #[], 0, 0, rfl, by rw [List.range_eq_range']; rfl, Nat.zero_le _, DIs.nil, hd, ho2, Heap.SameBut.refl _ _⟩
  · rintro x rest b s' ⟨h', es', ep', i, rfl, hr, hi, D', hd', ho', hs'⟩
    have hlt : i < es2.size := by
      rcases Nat.lt_or_ge i es2.size with q | q
      · exact q
      · rw [Nat.sub_eq_zero_of_le q] at hr; simp at hr
    obtain ⟨rfl, hrest⟩ : x = i ∧ rest = List.range' (i + 1) (es2.size - (i + 1)) := by
      have e : es2.size - i = (es2.size - (i + 1)) + 1 := by omega
      rw [e, List.range'_succ] at hr
      injection hr with h1 h2
      exact ⟨h1, h2⟩
    refine wpAny_bind (wpAny_dictEntries ho' rfl ?_)
    rw [Array.getElem?_eq_getElem hlt]
    obtain ⟨⟨k, v⟩, hkv⟩ : ∃ kv, more[x]? = some kv := ⟨more[x]'(by rw [hlen]; exact hlt), List.getElem?_eq_getElem _⟩
    obtain ⟨hkey, hval⟩ := D2.pairs.get? (e := es2[x]) (by simp [hlt]) hkv
    obtain ⟨k', hkey', hhash⟩ := D2.keys es2[x] (Array.getElem_mem hlt)
    obtain rfl : k' = k := (PySem.strKind prog w).inj _ _ _ hkey' hkey
    have hxl : x < more.length := by rw [hlen]; exact hlt
    have hfresh : k' ∉ (more.take x).map (·.1) := by
      intro hmem
      obtain ⟨⟨k2, v2⟩, h2, h3⟩ := List.mem_map.mp hmem
      obtain ⟨j, hj, hj2⟩ := List.mem_iff_getElem.mp h2
      rw [List.length_take] at hj
      have hjx : j < x := by omega
      rw [List.getElem_take] at hj2
      have hnd := D2.nodup
      have e1 : (more.map (·.1))[j]'(by rw [List.length_map]; omega) = k' := by rw [List.getElem_map, hj2]; exact h3
      have e2 : (more.map (·.1))[x]'(by rw [List.length_map]; exact hxl) = k' := by
        rw [List.getElem_map]
        have := List.getElem?_eq_getElem hxl
        rw [hkv] at this
        rw [← Option.some.inj this]
      exact List.pairwise_iff_getElem.mp hnd j x (by rw [List.length_map]; omega) (by rw [List.length_map]; exact hxl) hjx (e1.trans e2.symm)
    dsimp only
    rw [hhash, hval]
    have hsz' : es'.size ≤ sizeLine := by rw [D'.size, List.length_take]; omega
    have hfi := findIdx_none D' hfresh
    refine wpAny_bind (wpAny_holding ?_)
    simp only [if_true]
    refine wpAny_bind (wpAny_dictFind_of hkey hd' rfl D'.keys ?_)
    rw [hfi]
    simp only [Option.isSome_none, Bool.false_eq_true, if_false]
    unfold dictPut
    refine wpAny_bind (wpAny_dictFind_of hkey hd' rfl D'.keys ?_)
    rw [hfi]
    refine wpAny_updateDictKeys hd' rfl ?_ hsz'
    have hs'' := Heap.SameBut.update (a := d) (h := h') (f := Obj.mapDictKeys (·.push ⟨(PySem.strKind prog w).hash k', es2[x].key, v⟩))
    have hd'' : (h'.update d (Obj.mapDictKeys (·.push ⟨(PySem.strKind prog w).hash k', es2[x].key, v⟩))).get? d = some { cls := .type "dict", data := .dict (es'.push ⟨(PySem.strKind prog w).hash k', es2[x].key, v⟩) (ep' + 1) } := Heap.get?_update_self _ hd' rfl
    have ho'' : (h'.update d (Obj.mapDictKeys (·.push ⟨(PySem.strKind prog w).hash k', es2[x].key, v⟩))).get? o = some ⟨.type "dict", none, .dict es2 ep2, #[]⟩ := (hs''.2 o (Ne.symm hdo)).trans ho'
    refine wpAny_bind (wpAny_dictEpoch ho'' rfl ?_)
    rw [if_neg (by simp)]
    refine wpAny_pure ⟨_, _, _, x + 1, rfl, hrest, hlt, ?_, hd'', ho'', hs'.trans hs''⟩
    rw [List.take_add_one, hkv]
    exact D'.push hfresh hkey
  · rintro b s' ⟨h', es', ep', i, rfl, hr, hi, D', hd', ho', hs'⟩
    have hin : i = es2.size := by
      rcases Nat.lt_or_ge i es2.size with q | q
      · have e : es2.size - i = (es2.size - (i + 1)) + 1 := by omega
        rw [e, List.range'_succ] at hr; exact nomatch hr
      · exact Nat.le_antisymm hi q
    rw [hin, ← hlen, List.take_length] at D'
    exact wpAny_pure (h h' es' ep' D' hd' hs')
end
end Mine
end
section
open PySem PySem.W PyProof.Rows PyProof.V PySem.Calls PySem.Spec Builtin Builtin.ObjectAttr
set_option Elab.async false
set_option maxRecDepth 100000
set_option maxHeartbeats 3000000
namespace Mine
section
variable {prog : Program} {w : World} {A : Around} {E : Value → Shared → Prop} {s : Shared} {d o : Addr} {es : Array DictEntry} {ep : Nat} {more : List (Str × Value)} {f : Value}
theorem keywords_in {od : Obj} {Q : List (Str × Value) → Shared → Prop} (hd : s.heap.get? d = some od) (hda : od.data = .dict es ep) (D : DIs (PySem.strKind prog w) es more) (h : Q more s) : wpAny (model prog w) A (keywordsIn f d) Q E s := by
  unfold keywordsIn
  refine wpAny_bind (wpAny_dictEntries hd hda ?_)
  dsimp only
  refine wpAny_bind ?_
  rw [← Array.forIn_toList]
  have hlen : es.toList.length = more.length := D.pairs.length
  refine wpAny_forIn_list _ (fun rest kw s' => ∃ i, rest = es.toList.drop i ∧ kw = more.take i ∧ i ≤ more.length ∧ s' = s) _ ?_ ?_ _ _ ⟨0, rfl, rfl, Nat.zero_le _, rfl⟩
  · rintro e rest kw s' ⟨i, hr, rfl, hi, rfl⟩
    have hlt : i < more.length := by
      rcases Nat.lt_or_ge i more.length with q | q
      · exact q
      · rw [List.drop_eq_nil_of_le (by omega)] at hr; cases hr
    have hlt2 : i < es.toList.length := by omega
    rw [List.drop_eq_getElem_cons hlt2] at hr
    injection hr with hr1 hr2
    obtain ⟨⟨k, v⟩, hkv⟩ : ∃ kv, more[i]? = some kv := ⟨more[i], List.getElem?_eq_getElem hlt⟩
    obtain ⟨hkey, hval⟩ := D.pairs.get? (e := e) (by rw [List.getElem?_eq_getElem hlt2, hr1]) hkv
    obtain ⟨tk, htk⟩ := Value.isStrOf_shape hkey
    rw [htk]
    refine wpAny_pure ⟨i + 1, hr2, ?_, hlt, rfl⟩
    rw [List.take_add_one, hkv, hval]
    rfl
  · rintro kw s' ⟨i, hr, rfl, hi, rfl⟩
    have hin : i = more.length := by
      rcases Nat.lt_or_ge i more.length with q | q
      · have hlt2 : i < es.toList.length := by omega
        rw [List.drop_eq_getElem_cons hlt2] at hr
        cases hr
      · omega
    rw [hin, List.take_length]
    exact wpAny_pure h
theorem merged_one {h₀ : Heap} {L : Addr} {m : Str → Option Value} {news : List (Addr × Obj)} {oo : Obj} {x : Sem Value} {Q : Addr → Shared → Prop} (F : Fr h₀ L s.heap m) (N : News h₀ L s.heap news) (ho : (o, oo) ∈ news) (hc : oo.IsDictOf (PySem.strKind prog w) more) (hoS : (o == sysModules) = false) (hsz : more.length ≤ sizeLine)
    (hx : ∀ (s' : Shared) (Q : Value → Shared → Prop) (E : Value → Shared → Prop), Fr h₀ L s'.heap m → Q (.ref o) s' → wpAny (model prog w) A x Q E s')
    (h : ∀ d h' es' ep', DIs (PySem.strKind prog w) es' more → h'.get? d = some { cls := .type "dict", data := .dict es' ep' } → Fr h₀ L h' m → News h₀ L h' news → Q d { s with heap := h' }) :
    wpAny (model prog w) A (mergedKeywords f [(none, x)]) Q E s := by
  have hlt := Heap.lt_size (N _ ho).1
  unfold mergedKeywords
  refine wpAny_bind (wpAny_alloc ?_)
  refine wpAny_bind (wpAny_holding ?_)
  dsimp only
  refine wpAny_bind ?_
  rw [List.forIn_cons]
  refine wpAny_bind ?_
  dsimp only
  refine wpAny_bind (wpAny_pure ?_)
  have F1 := F.push { cls := .type "dict", data := .dict #[] }
  refine wpAny_bind (hx _ _ _ F1 ?_)
  refine wpAny_bind (wpAny_onRaise (wpAny_holding (wpAny_tryCatch (wpAny_onRaise ?_))))
  have N1 := N.push F { cls := .type "dict", data := .dict #[] }
  refine merge_kw (s := { s with heap := s.heap.push { cls := .type "dict", data := .dict #[] } }) (Nat.ne_of_gt hlt) hoS (Heap.get?_push_size _ rfl) hc.choose_spec.choose_spec.1 (N1 _ (.tail _ ho)).1 (isDict_DIs hc).choose_spec.choose_spec.1 (isDict_DIs hc).choose_spec.choose_spec.2 hsz fun h' es' ep' D' hd' hs' => ?_
  refine wpAny_pure ?_
  dsimp only
  refine wpAny_pure ?_
  refine wpAny_bind (wpAny_pure ?_)
  refine wpAny_pure (wpAny_pure ?_)
  have hn := N1 _ (.head _)
  refine h _ h' es' ep' D' hd' (F1.change hs' hn.2.1 hn.2.2) fun p hp => ?_
  have z := N1 p (.tail _ hp)
  exact ⟨(hs'.2 p.1 (Nat.ne_of_lt (Heap.lt_size (N p hp).1))).trans z.1, z.2⟩
/-- what the ** of a dict of texts leaves to be shown -/
def StarRest (prog : Program) (w : World) (A : Around) (h₀ : Heap) (L : Addr) (m : Str → Option Value) (env : Env) (x : Expr) (f : Value) (first vs : List Value) (Q : Value → Shared → Prop) (E : Value → Shared → Prop) (s₁ : Shared) : Prop :=
  ∃ o oo more news, Fr h₀ L s₁.heap m ∧ News h₀ L s₁.heap news ∧ (∀ h', Fr h₀ L h' m → News h₀ L h' news → ∃ k, (k = Keeper.frame ∨ k = Keeper.machine ∨ k = Keeper.boundFrame) ∧ Looks (model prog w) h' (keeperOf f) k) ∧ (o, oo) ∈ news ∧ oo.IsDictOf (PySem.strKind prog w) more ∧ (o == sysModules) = false ∧ more.length ≤ sizeLine ∧
    (∀ (s' : Shared) (Q : Value → Shared → Prop) (E : Value → Shared → Prop), Fr h₀ L s'.heap m → Q (.ref o) s' → wpAny (model prog w) A (eval x env) Q E s') ∧
    ∀ h' tk, Fr h₀ L h' m → News h₀ L h' news → wpAny (model prog w) A (call f (first ++ vs) more) Q E { s₁ with heap := h', toks := tk }
theorem callWith_star {h₀ : Heap} {L : Addr} {m : Str → Option Value} {env : Env} {e x : Expr} {first : List Value} {pos p2 : Pos} {Q : Value → Shared → Prop} (_F : Fr h₀ L s.heap m)
    (h : wpAny (model prog w) A (spliced (backTo pos (starEach [e] env))) (fun vs s₁ => StarRest prog w A h₀ L m env x f first vs Q E s₁) E s) (he : starEach [e] env = [(false, eval e env)] := by rfl) :
    wpAny (model prog w) A (callWith pos f first (backTo pos (starEach [e] env)) (backToKw pos (keywordEach [⟨none, x, p2⟩] env))) Q E s := by
  rw [he] at h ⊢
  unfold callWith evalArgs
  refine wpAny_bind (wpAny_holding ?_)
  refine wpAny_bind (wpAny_mono h (fun vs s₁ hs => ?_) fun _ _ z => z)
  obtain ⟨o, oo, more, news, F, N, hk, ho, hc, hoS, hsz, hx, k⟩ := hs
  refine wpAny_bind (wpAny_pure ?_)
  refine wpAny_holding ?_
  rw [if_neg (by exact Bool.false_ne_true)]
  refine wpAny_bind ?_
  show wpAny _ _ (mergedKeywords f [(none, do let v ← eval x env; standAt pos; pure v)]) _ _ _
  refine merged_one F N ho hc hoS hsz (fun s' Q E F' q => wpAny_bind (hx s' _ _ F' (wpAny_bind (wpAny_standAt (wpAny_pure q))))) fun d h' es' ep' D' hd' F' N' => ?_
  refine wpAny_bind (wpAny_pure ?_)
  refine wpAny_bind (wpAny_holding (keywords_in (s := { s₁ with heap := h' }) hd' rfl D' ?_))
  refine wpAny_pure ?_
  refine wpAny_bind (wpAny_standAt ?_)
  dsimp only
  obtain ⟨kp, hkp, LK⟩ := hk h' F' N'
  refine wpAny_bind (LK.here ?_)
  have fin : wpAny (model prog w) A (call f (first ++ vs) more) (fun r s' => wpAny (model prog w) A (do holding [r] point; pure r) Q E s') E { s₁ with heap := h' } :=
    wpAny_mono (k h' s₁.toks F' N') (fun r s₂ hr => wpAny_bind (wpAny_holding (wpAny_point (wpAny_pure hr)))) fun _ _ x => x
  have hst : ((backTo pos [(false, eval e env)]).any (·.1) || (backToKw pos (keywordEach [⟨none, x, p2⟩] env)).any (·.1.isNone)) = true := rfl
  rw [hst]
  rcases hkp with rfl | rfl | rfl
  · exact wpAny_bind (Calls.wpAny_keep fin)
  · exact wpAny_bind (wpAny_operating fin)
  · exact wpAny_bind (wpAny_operating fin)
theorem methodCall_star {M : Model} {env : Env} {o x : Expr} {name : Str} {apos pos p2 : Pos} {args : List Expr} {Q : Value → Shared → Prop}
    (h : wpAny M A (eval o env) (fun ov s₁ => wpAny M A (getAttr ov name true) (fun v s₂ => wpAny M A (callWith pos v [] (backTo pos (starEach args env)) (backToKw pos (keywordEach [⟨none, x, p2⟩] env))) Q E s₂) E s₁) E s)
    (hf : methodCallForm (args.length + 1) (backTo pos (starEach args env)) (backToKw pos (keywordEach [⟨none, x, p2⟩] env)) = false := by rfl)
    (hb : attributeBase o name env (eval o env) = eval o env := by rfl)
    (he : eval (.Call (.Attribute o name apos) args [⟨none, x, p2⟩] pos) env = (attributeBase o name env (eval o env) >>= fun ov => standAt apos.atName >>= fun _ => methodCall o name apos pos env ov (args.length + 1) (backTo pos (starEach args env)) (backToKw pos (keywordEach [⟨none, x, p2⟩] env))) := by rfl) :
    wpAny M A (eval (.Call (.Attribute o name apos) args [⟨none, x, p2⟩] pos) env) Q E s := by
  rw [he, hb]
  refine wpAny_bind (wpAny_mono h (fun ov s₁ h₁ => wpAny_bind (wpAny_standAt ?_)) fun _ _ z => z)
  unfold methodCall calleeOf methodCallPos
  rw [hf]
  refine wpAny_bind (wpAny_holding (wpAny_bind (wpAny_mono h₁ (fun v s₂ h₂ => wpAny_pure ?_) fun _ _ z => z)))
  exact wpAny_bind (wpAny_pure h₂)
end
end Mine
end
section
open PySem PySem.W PyProof.Rows PyProof.V PySem.Calls PySem.Spec Builtin Builtin.ObjectAttr
set_option Elab.async false
set_option maxRecDepth 100000
set_option maxHeartbeats 3000000
namespace Mine
theorem fill27 : PySem.Challenge.rw_dn0005_06 = PySem.Challenge.rw_dn0005_06 ∧ Mine.hd06.heap_39 = Mine.hd06.heap_39 := by
  k_fill
  exact ⟨rfl, rfl⟩
section
variable {prog : Program} {w : World} {A : Around} {E : Value → Shared → Prop} {s : Shared} {h₀ : Heap} {L x dx q : Addr} {m : Str → Option Value} {news : List (Addr × Obj)} {es : Array DictEntry} {n : Nat}
theorem init_call {Q : Value → Shared → Prop} (Fr0 : Fr h₀ L s.heap m) (X₀ : (Mine.hd06.heap_39 w.params).In h₀) (N : News h₀ L s.heap news) (hm : (x, cnt es n dx) ∈ news) (hdx : (dx, dictOf [] 0) ∈ news) (hq : (q, mw "dict.__init__" x) ∈ news)
    (h : Q .none s) : wpAny (model prog w) A (call (.ref q) [] []) Q E s := by
  have X := X₀.keeps Fr0.keep
  have I := inst_cnt N hm hdx
  have hx := (N _ hm).1
  have hqo := (N _ hq).1
  have L0 := I.type (M := model prog w)
  have L1 := looks_subIn (M := model prog w) X (c_nomod _)
  have L2 := looks_typeIn (M := model prog w) X (c_meta _)
  have L3 := looks_subIn (M := model prog w) X (c_noord _)
  have L5 : Looks (model prog w) s.heap (isInstance (.ref x) (.type "dict")) true := L0.andThen (looks_subIn X (c_sub _))
  obtain ⟨hh, g, d, t, os⟩ := s
  refine wpAny_call (codeAny_of_tree ?_)
  show wpAny _ _ (callAny (.ref q) _) _ _ _
  dsimp only at hqo hx
  refine nd_load hqo ?_
  repeat lk
  refine ⟨by first | rfl | (with_unfolding_all rfl) | kernel_rfl, codeAny_builtin (entryFor_of_tree (b := Builtin.«dict.__init__») (by kernel_rfl)) ?_⟩
  unfold Builtin.«dict.__init__» Builtin.Dict.selfAndRest Builtin.Dict.updateCommon
  repeat lk
  exact h
def WmAt (q x : Addr) (h : Heap) : Prop := h.get? q = some (mw "dict.__init__" x)
theorem keeps_W {M : Model} (h : Heap) (X : WmAt q x h) : ∃ k, (k = Keeper.frame ∨ k = Keeper.machine ∨ k = Keeper.boundFrame) ∧ Looks M h (keeperOf (.ref q)) k :=
  ⟨.machine, .inr (.inl rfl), (Looks.ld (part := none) X).andThen .now⟩
theorem callWith_W {M : Model} {pos : Pos} {env : Env} {Q : Value → Shared → Prop} (N : News h₀ L s.heap news) (hq : (q, mw "dict.__init__" x) ∈ news) (h : wpAny M A (call (.ref q) []) Q E s) :
    wpAny M A (callWith pos (.ref q) [] (backTo pos (starEach [] env)) []) Q E s :=
  callWith_of (P := WmAt q x) rfl keeps_W (evalArgs_nil3 ⟨(N _ hq).1, h⟩)
theorem cnt_meth_K {b : Bool} {fn : Addr} {name : Str} {Q : Value → Shared → Prop} (F : Fr h₀ L s.heap m) (X₀ : (Mine.hd06.heap_39 w.params).In h₀) (N : News h₀ L s.heap news) (hm : (x, cnt es n dx) ∈ news) (hdx : (dx, dictOf [] 0) ∈ news)
    (h1 : findIn (Mine.hd06.heap_39 w.params) (.ref 1093) name = some (some (.ref fn))) (h2 : specialIn (Mine.hd06.heap_39 w.params) (.ref fn) "__get__" = some (some (.builtin "function.__get__"))) (h3 : takesIn (Mine.hd06.heap_39 w.params) (.ref fn) = some false) (h4 : typeIn (Mine.hd06.heap_39 w.params) (.ref fn) = some (.type "function")) (hc : copiedNames.contains name = false)
    (h : ∀ q h', Fr h₀ L h' m → News h₀ L h' ((q, methodObj (.ref fn) (.ref x)) :: news) → (∀ p ∈ news, p.1 < q) → Q (.ref q) { s with heap := h', toks := s.toks + 1 }) :
    wpAny (model prog w) A (getAttr (.ref x) name b) Q E s := by
  have X := X₀.keeps F.keep
  have I := inst_cnt N hm hdx
  refine sub_get_bind X I (c_ga _) (c_gt _) (c_sub _) (findObj_meth (c_has _) h1 h2 h3 hc (by rw [lookIn_dict]; rfl)) ?_
  refine fn_get (s := { s with toks := s.toks + 1 }) X h4 ?_
  show wpAny _ _ (handedOut (.ref _)) _ _ _
  exact wpAny_pure (h _ _ (F.push _) (N.push F _) fun p hp => Heap.lt_size (N p hp).1)
theorem keeps_meth {K : Frag} {fn : Addr} {news : List (Addr × Obj)} (X₀ : K.In h₀) (hf : fnIn K fn = true) (hq : (q, methodObj (.ref fn) (.ref x)) ∈ news) : ∀ h', Fr h₀ L h' m → News h₀ L h' news → ∃ k, (k = Keeper.frame ∨ k = Keeper.machine ∨ k = Keeper.boundFrame) ∧ Looks (model prog w) h' (keeperOf (.ref q)) k :=
  fun h' F' N' => keeps_M hf h' (methP N' hq (X₀.keeps F'.keep))
end
theorem use_code {prog : Program} {w : World} (l : Nat) {A : Around} {env : Env} {outer : List Env} {L : Addr} {c : Code} {R : Result → Shared → Prop} {s : Shared}
    (hA : A.frames = some (env :: outer)) (hf : env.frame = some L) (hk : env.scope.kind = .function) (hh : A.handled = none) (hg : A.guards = some []) (hd : A.depth ≤ 400 + 10 * l) (hu : A.units ≤ 1000 + 100 * l)
    (h : codeAny (model prog w) (AK l (ek env L) outer) c R s) : codeAny (model prog w) A c R s := codeAny_weak hh hd (by rw [hA, ek_eq hf hk]) hg hu h
theorem c_upd_get (P : Params) : specialIn (Mine.hd06.heap_39 P) (.ref 936) "__get__" = some (some (.builtin "function.__get__")) := by k_is
theorem c_upd_takes (P : Params) : takesIn (Mine.hd06.heap_39 P) (.ref 936) = some false := by k_is
theorem c_upd_isfn (P : Params) : fnIn (Mine.hd06.heap_39 P) 936 = true := by k_is
local macro_rules | `(tactic| k_room) => `(tactic| ((try simp only [depth_under_make, depth_under_kw, depth_in1, depth_deeper, depth_caller]); (try dsimp only [AK]); (have h1000 : recursionLimit = 1000 := rfl); omega))
local macro_rules | `(tactic| walk_at "k le") => `(tactic| (first | exact Nat.le_of_ble_eq_true rfl | (dsimp only [Around.deeper, Around.in1]; omega)))
local macro_rules | `(tactic| walk_at "getMethod ref") => `(tactic| (k_here; first
  | (refine super_init_K (by k_asm) (by k_asm) (by k_asm) (by k_mem) (by k_mem) (by k_mem) ?_; intro q' h' F' N' l')
  | fail))
local macro_rules | `(tactic| walk_at "getAttr ref") => `(tactic| (k_here; (refine cnt_meth_K (by k_asm) (by k_asm) (by k_asm) (by k_mem) (by k_mem) (c_upd _) (c_upd_get _) (c_upd_takes _) (c_upd_fn _) (by decide) ?_; intro q' h' F' N' l')))
local macro_rules | `(tactic| walk_at "eval Call Attribute") => `(tactic| (k_here; refine methodCall_star ?_))
local macro_rules | `(tactic| walk_at "callWith ref nil nil") => `(tactic| (k_here; refine callWith_W (by k_asm) (by k_mem) ?_))
local macro_rules | `(tactic| walk_at "callWith ref") => `(tactic| (k_here; refine callWith_star (by k_asm) ?_))
local macro_rules | `(tactic| walk_at "call ref") => `(tactic| (k_here; refine init_call (by k_asm) (by k_asm) (by k_asm) (by k_mem) (by k_mem) (by k_mem) ?_))
local macro_rules | `(tactic| walk_at "StarRest") => `(tactic| (refine halt ?_))
local macro_rules | `(tactic| walk_at "wpAt") => `(tactic| ((with_reducible show _root_.PySem.wpAt _ _ _ (exec (Stmt.Expr (PySem.Expr.Call (PySem.Expr.Attribute _ _ _) _ _ _) _) _) _ _ _); refine halt ?_))
theorem c_init (P : Params) : findIn (Mine.hd06.heap_39 P) (.ref 1093) (Str.ofString "__init__") = some (some (.ref 887)) := by k_is
section
variable {prog : Program} {w : World} {A₀ : Around} {base h₀ : Heap} {outer : List Env} {e0 : Env} {L : Addr} {m mg mb : Str → Option Value} {mean : ExcName → Option Value} {s : Shared} {R : Result → Shared → Prop} {rest : List (Addr × Obj)}
theorem W_init {l : Nat} (hlv : l ≤ 12) {name qual : Str} {params : Arguments} {body : List Stmt} {scope : Scope} {cl : List (Str × Addr)} {dV kV doc pm cdv ct oc : Value} {an od : Option Addr} {osl : Array (Option Value)}
    (ho : (Mine.hd06.heap_39 w.params).lookup 887 = some ⟨oc, od, .func (fnX name qual params body scope cl dV kV doc pm an cdv ct), osl⟩)
    {x dx D1 L1 : Addr} {o1 : Obj} {v : Value} {tk1 : Nat} {ex : List (Str × Value)} {ps cs2 : List (Str × Int)} {g1 h1 : Heap}
    (hfile : ((prog.main.file : Str) == Str.ofString "/claim/cut.py") = true) (htop : (prog.main.scope.names.lookup (Str.ofString "super")).isSome = false)
    (hsx : (x == sysModules) = false) (hxr : ∀ p ∈ rest, p.1 ≠ x)
    (hex : o1.IsDictOf (PySem.strKind prog w) ex) (hsD : (D1 == sysModules) = false) (hlex : ex.length ≤ 4000)
    (hupd : ∀ {A₀ : Around} {base h₀ : Heap} {outer : List Env} {e0 : Env} {L : Addr} {m mg mb : Str → Option Value} {mean : ExcName → Option Value} {s : Shared} {R : Result → Shared → Prop} {rest' : List (Addr × Obj)} {n : Nat}, (∀ p ∈ rest, p ∈ rest') → (∀ p ∈ rest', p.1 ≠ x) →
      Below A₀ base outer h₀ → Fr h₀ L s.heap m → (Mine.hd06.heap_39 w.params).In h₀ → News h₀ L s.heap ((x, cnt #[] n dx) :: (dx, dictOf [] 0) :: rest') → Top vw ls mean mg mb h₀ →
      (∀ h' tk es' n' kvs₁, DIs (PySem.strKind prog w) es' kvs₁ → Ints kvs₁ (gains 1 (gains 1 [] ps) cs2) → Fr h₀ L h' m → News h₀ L h' ((x, cnt es' n' dx) :: (dx, dictOf [] 0) :: rest') → R (.ok (.ret .none)) {s with heap := h', toks := tk}) →
      codeAny (model prog w) (AK (l + 1) (ek e0 L) outer) (.call (.ref 936) ⟨[.ref x, v], ex⟩) R s)
    (k : ∀ h' tk es' n' kvs₁, DIs (PySem.strKind prog w) es' kvs₁ → Ints kvs₁ (gains 1 (gains 1 [] ps) cs2) → Fr h₀ L h' m → News h₀ L h' ((x, cnt es' n' dx) :: (dx, dictOf [] 0) :: rest) → R (.ok (.ret .none)) {s with heap := h', toks := tk})
    (B : Below A₀ base outer h₀) (F : Fr h₀ L s.heap m) (X : (Mine.hd06.heap_39 w.params).In h₀) (N : News h₀ L s.heap ((x, cnt #[] 0 dx) :: (dx, dictOf [] 0) :: rest)) (T : Top vw ls mean mg mb h₀)
    (l1 : ∀ p ∈ (x, cnt #[] 0 dx) :: (dx, dictOf [] 0) :: rest, p.1 < D1) (FG1 : Fr h₀ L g1 m) (F1 : Fr g1 L1 h1 (fun z => [(Str.ofString "kwds", Value.ref D1), (Str.ofString "iterable", v), (Str.ofString "self", .ref x)].lookup z))
    (N1 : News g1 L1 h1 ((D1, o1) :: (x, cnt #[] 0 dx) :: (dx, dictOf [] 0) :: rest)) (B1 : Below (AK l (ek e0 L) outer) base (ek e0 L :: outer) g1) (X1 : (Mine.hd06.heap_39 w.params).In g1) (T1 : Top vw ls mean mg mb g1) :
    _root_.PySem.wpAt (model prog w) ((AK l (ek e0 L) outer).deeper (envX qual scope L1 887 cdv cl)) (.func body (envX qual scope L1 887 cdv cl)) (execs body (envX qual scope L1 887 cdv cl))
        (fun fl s' => LeaveK h₀ L m g1 R (match fl with | .ret v => v | _ => .none) s')
        (fun e s' => wpAny (model prog w) ((AK l (ek e0 L) outer).deeper (envX qual scope L1 887 cdv cl)) (leaving (envX qual scope L1 887 cdv cl) e) (fun _ s'' => R (.error e) s'') (fun e' s'' => R (.error e') s'') s')
        { s with heap := h1, toks := tk1 } := by
  have e := ho.symm.trans (by k_is : (Mine.hd06.heap_39 w.params).lookup 887 = some _)
  cases e
  have hx2 : ∀ {a : Addr}, x < a → a ≠ x := fun h e => Nat.lt_irrefl _ (e ▸ h)
  k_steps
  unfold Halt
  ks_step "exec Expr"
  refine ks_wpAt_Expr_any ?_
  refine ks_wpAt_MethodCall ?_
  k_here
  refine ks_node (by k_asm) (by k_asm) (by k_asm) (by k_asm) (by k_is) (by rfl) (by rfl) (inst_cnt (by k_asm) (by k_mem) (by k_mem)) (by k_is) (by rfl) hfile (by k_is) (by k_is) (by k_is) (by k_is) (by decide) (by rfl) (by rfl) (by rfl) (by rfl) htop (by first | boot_by_name | rfl | kernel_rfl) ?_
  intro so' h' F' N' l1'
  k_steps
  unfold Halt
  rename_i q2 h2 F2 N2 l2 q3 h3 F3 N3 l3
  refine ⟨D1, o1, ex, _, F3, N3, keeps_meth X1 (c_upd_isfn _) (.head _), by k_mem, hex, hsD, by rw [PySem.sizeLine_eq]; omega, fun s' Q E F' q => wpAny_Name (wpAny_loadName_local rfl rfl F'.ns rfl q) (by decide), fun h4 tk4 F4 N4 => ?_⟩
  refine call_meth N4 (.head _) ?_
  refine use_code (l + 1) rfl rfl rfl rfl rfl (by walk_at "k le") (by walk_at "k le") (hupd (rest' := (q3, methodObj (.ref 936) (.ref x)) :: (q2, mw "dict.__init__" x) :: (so', ks_superObj 1093 x 1093) :: (D1, o1) :: rest) (n := 0) (fun p hp => by simp [hp]) ?_ B1 F4 X1 (news_sub N4 fun p hp => ?_) T1 ?_)
  · intro p hp
    simp only [List.mem_cons] at hp
    rcases hp with rfl | rfl | rfl | rfl | hp
    · exact hx2 (l3 (x, cnt #[] 0 dx) (by k_mem))
    · exact hx2 (l2 (x, cnt #[] 0 dx) (by k_mem))
    · exact hx2 (l1' (x, cnt #[] 0 dx) (by k_mem))
    · exact hx2 (l1 (x, cnt #[] 0 dx) (by k_mem))
    · exact hxr p hp
  · simp only [List.mem_cons] at hp ⊢
    rcases hp with h | h | h | h | h | h | h <;> simp [h]
  · intro h9 tk9 es9 n9 kvs9 D9 hi9 F9 N9
    dsimp only
    k_steps
    refine k _ _ es9 n9 kvs9 D9 hi9 (by assumption) (news_sub (by assumption) fun p hp => ?_)
    simp only [List.mem_cons] at hp ⊢
    rcases hp with h | h | h <;> simp [h]
end
end Mine
end
section
open PySem PySem.W PyProof.Rows PyProof.V PySem.Calls PySem.Spec Builtin Builtin.ObjectAttr
set_option Elab.async false
set_option maxRecDepth 100000
set_option maxHeartbeats 3000000
namespace Mine
theorem fill28 : PySem.Challenge.rw_dn0005_06 = PySem.Challenge.rw_dn0005_06 ∧ Mine.hd06.heap_39 = Mine.hd06.heap_39 := by
  k_fill
  exact ⟨rfl, rfl⟩
theorem kind_dn : builtinKind "dict.__new__" = some .builtinFn := by decide +kernel
theorem split_dn : splitId "dict.__new__" = some ("dict", "__new__") := by decide +kernel
def badMro : Value → Bool
  | .type n => !["dict", "object", "collections.defaultdict", "collections.OrderedDict"].contains n
  | _ => false
def cntMakes (K : Frag) : Bool := match K.lookup 1093 with
  | some ⟨_, _, .cls cd, sl⟩ => (sl.toList[4]?).join == some (.builtin "dict.__new__") && !cd.mro.isEmpty && !cd.hasDel && !cd.mro.any badMro
  | _ => false
theorem c_makes (P : Params) : cntMakes (Mine.hd06.heap_39 P) = true := by kernel_rfl
theorem c_call (P : Params) : specialIn (Mine.hd06.heap_39 P) (.ref 1093) (Str.ofString "__call__") = some (some (.builtin "type.__call__")) := by k_is
theorem c_isty (P : Params) : instIn (Mine.hd06.heap_39 P) (.ref 1093) (.type "type") = some true := by k_is
theorem c_self (P : Params) : subIn (Mine.hd06.heap_39 P) (.ref 1093) (.ref 1093) = some true := by k_is
theorem c_init_fn (P : Params) : typeIn (Mine.hd06.heap_39 P) (.ref 887) = some (.type "function") := by k_is
section
variable {prog : Program} {w : World} {A : Around} {E : Value → Shared → Prop} {s : Shared} {h₀ : Heap} {L : Addr} {m : Str → Option Value} {news : List (Addr × Obj)} {R : Result → Shared → Prop}
theorem cnt_make {rest : List Value} {kw : List (Str × Value)} (F : Fr h₀ L s.heap m) (N : News h₀ L s.heap news) (X₀ : (Mine.hd06.heap_39 w.params).In h₀)
    (h : ∀ x dx h', Fr h₀ L h' m → News h₀ L h' ((x, cnt #[] 0 dx) :: (dx, dictOf [] 0) :: news) → (∀ p ∈ news, p.1 < dx) → dx < x → dx = s.heap.objs.size →
      codeAny (model prog w) (A.under (.builtin "type.__call__" ⟨.ref 1093 :: rest, kw⟩)) (.call (.ref 887) ⟨.ref x :: rest, kw⟩) (InitBack x R) { s with heap := h' }) :
    codeAny (model prog w) A (.call (.ref 1093) ⟨rest, kw⟩) R s := by
  have X := X₀.keeps F.keep
  have L1 := looks_specialIn (M := model prog w) X (c_call _)
  have L2 := looks_instIn (M := model prog w) X (c_isty _)
  obtain ⟨hh, g, d, t, os⟩ := s
  obtain ⟨oc, od, cd, sl, hC, hn, hmro, ha, hd⟩ : ∃ oc od cd sl, hh.get? 1093 = some ⟨oc, od, .cls cd, sl⟩ ∧ (sl.toList[4]?).join = some (.builtin "dict.__new__") ∧ cd.mro.isEmpty = false ∧ cd.hasDel = false ∧ cd.mro.any badMro = false := by
    have := c_makes w.params
    unfold cntMakes at this
    split at this
    · rename_i a b c e hl
      simp only [Bool.and_eq_true, Bool.not_eq_true', beq_iff_eq] at this
      exact ⟨a, b, c, e, X _ _ hl, this.1.1.1, this.1.1.2, this.1.2, this.2⟩
    · cases this
  refine codeAny_of_tree ?_
  show wpAny _ _ (callAny (.ref 1093) _) _ _ _
  refine nd_load hC ?_
  show wpAny _ _ (callAny.viaDunder (.ref 1093) _) _ _ _
  unfold callAny.viaDunder
  repeat lk
  refine ⟨rfl, codeAny_call_builtin_at (Code.quiet_builtin _ (by decide +kernel)) entry_typeCall (check_slot tc_kind tc_split L2 (tc_args _ _ _) ?_)⟩
  unfold Builtin.«type.__call__»
  have hm : Looks (model prog w) hh (mroOf (.ref 1093)) cd.mro := ((Looks.ld (part := none) hC).andThen .now).andThen .now
  repeat (first | simp only [hmro, Bool.false_eq_true, if_false] | ((fail_if_success (with_reducible show wpAny _ _ (Bind.madeBy _) _ _ _)); lk))
  have made : Looks (model prog w) hh (Bind.madeBy (.ref 1093)) (some "dict.__new__") := by
    intro A Q E s k q
    unfold Bind.madeBy
    refine wpAny_bind (hm A _ E s k ?_)
    obtain ⟨c, r, e⟩ : ∃ c r, cd.mro = c :: r := by
      cases q : cd.mro with
      | nil => rw [q] at hmro; cases hmro
      | cons c r => exact ⟨c, r, rfl⟩
    rw [e]
    obtain ⟨h2, g2, d2, t2, os2⟩ := s
    have hC2 : h2.get? 1093 = _ := k _ _ hC
    rw [List.forIn_cons]
    refine wpAny_bind (wpAny_bind (wpAny_bind (wpAny_bind (wpAny_loadPart hC2 (wpAny_pure ?_)))))
    dsimp only
    rw [← Array.getElem?_toList, hn]
    exact wpAny_pure (wpAny_pure (wpAny_pure q))
  refine made.at ?_
  repeat ((fail_if_success (with_reducible show wpAny _ _ (call _ _ _) _ _ _)); lk)
  have L3 := looks_subIn (M := model prog w) X (c_sub _)
  have L4 : Looks (model prog w) hh (isType (.ref 1093)) true := looks_isType X (c_clsIn0 _)
  refine wpAny_call (codeAny_call_builtin (by decide +kernel) (entryFor_of_tree (b := Builtin.«dict.__new__») (by kernel_rfl)) ?_)
  have base : Looks (model prog w) hh (Bind.staticBase (.ref 1093)) (.ref 1093) := by
    intro A Q E s k q
    unfold Bind.staticBase
    refine wpAny_bind (hm A _ E s k ?_)
    obtain ⟨c, r, e⟩ : ∃ c r, cd.mro = c :: r := by
      cases q : cd.mro with
      | nil => rw [q] at hmro; cases hmro
      | cons c r => exact ⟨c, r, rfl⟩
    rw [e, List.forIn_cons]
    exact wpAny_bind (wpAny_bind (wpAny_bind (made A _ E s k (wpAny_pure (wpAny_pure (wpAny_pure q))))))
  unfold checkBuiltinCall
  rw [kind_dn, split_dn]
  dsimp only
  repeat lk
  rw [if_neg (by intro e; have e2 : cd.mro.any badMro = true := e; rw [hd] at e2; cases e2)]
  repeat ((fail_if_success (with_reducible show wpAny _ _ (isInstance _ _ >>= _) _ _ _)); lk)
  refine nd_load (Heap.get?_push_of_some _ (Heap.get?_push_of_some _ hC)) ?_
  have kk : ∀ b o, hh.get? b = some o → ((hh.push { cls := .type "dict", data := .dict #[] }).push (cnt #[] 0 hh.objs.size)).get? b = some o := fun b o e => Heap.get?_push_of_some _ (Heap.get?_push_of_some _ e)
  have NN := (N.push F (dictOf [] 0)).push (F.push _) (cnt #[] 0 hh.objs.size)
  rw [Heap.size_push] at NN
  have FF : Fr h₀ L ((hh.push { cls := .type "dict", data := .dict #[] }).push (cnt #[] 0 hh.objs.size)) m := (F.push _).push _
  have hq := h _ hh.objs.size _ FF NN (fun p hp => Heap.lt_size (N p hp).1) (Nat.lt_succ_self _) rfl
  generalize hh2 : (hh.push { cls := .type "dict", data := .dict #[] }).push (cnt #[] 0 hh.objs.size) = h2 at kk NN FF hq
  rw [Heap.size_push]
  refine nd_pure ?_
  refine wpAny_pure ?_
  rw [ha]
  have hx := (NN _ (.head _)).1
  dsimp only at hx
  have X2 := X₀.keeps FF.keep
  have I2 := inst_cnt NN (.head _) (.tail _ (.head _))
  have T1 := I2.type (M := model prog w)
  have L7 := looks_findIn (M := model prog w) X2 (c_init _)
  have L8 := bind_fn (M := model prog w) X2 (.ref (hh.objs.size + 1)) (c_init_fn _)
  have L9 := looks_subIn (M := model prog w) X2 (c_self _)
  unfold callSpecial? specialOf isInstance
  repeat ((fail_if_success (with_reducible show wpAny _ _ (call (.ref _) _ _) _ _ _)); lk)
  refine wpAny_call (codeAny_mono hq fun r s' z => ?_)
  rcases r with e | (v | _ | _ | _) <;> first | exact z | exact z.elim | skip
  obtain ⟨rfl, z⟩ := z
  repeat lk
  exact z
end
end Mine
end
section
open PySem PySem.W PyProof.Rows PyProof.V PySem.Calls PySem.Spec Builtin Builtin.ObjectAttr
set_option Elab.async false
set_option maxRecDepth 100000
set_option maxHeartbeats 3000000
namespace Mine
theorem fill29 : PySem.Challenge.rw_dn0005_06 = PySem.Challenge.rw_dn0005_06 ∧ Mine.hd06.heap_39 = Mine.hd06.heap_39 := by
  k_fill
  exact ⟨rfl, rfl⟩
local macro_rules | `(tactic| k_room) => `(tactic| ((try simp only [depth_under_make, depth_under_kw, depth_in1, depth_deeper, depth_caller]); (try dsimp only [AK]); (have h1000 : recursionLimit = 1000 := rfl); omega))
theorem Given.sub {prog : Program} {w : World} {l l' : List (Addr × Obj)} {v : Value} {ps : List (Str × Int)} (h : Given prog w l v ps) (hs : ∀ p ∈ l, p ∈ l') : Given prog w l' v ps := by
  cases h with
  | none => exact .none
  | list hm hv => exact .list (hs _ hm) hv
  | map hm hl8 hi hsy => exact .map (hm.sub hs) hl8 hi hsy
section
variable {prog : Program} {w : World} {A₀ : Around} {base h₀ : Heap} {outer : List Env} {e0 : Env} {L : Addr} {m mg mb : Str → Option Value} {mean : ExcName → Option Value} {s : Shared} {R : Result → Shared → Prop} {rest : List (Addr × Obj)}
theorem init0_spec {l : Nat} (hlv : l ≤ 12) {x dx : Addr} {v : Value} {ps : List (Str × Int)}  (hfile : ((prog.main.file : Str) == Str.ofString "/claim/cut.py") = true) (htop : (prog.main.scope.names.lookup (Str.ofString "super")).isSome = false)
    (G : Given prog w rest v ps) (hlim : ps.length ≤ 3000) (hsx : (x == sysModules) = false) (hxr : ∀ p ∈ rest, p.1 ≠ x)
    (B : Below A₀ base outer h₀) (F : Fr h₀ L s.heap m) (X : (Mine.hd06.heap_39 w.params).In h₀) (N : News h₀ L s.heap ((x, cnt #[] 0 dx) :: (dx, dictOf [] 0) :: rest)) (T : Top vw ls mean mg mb h₀)
    (k : ∀ h' tk es' n' kvs₁, DIs (PySem.strKind prog w) es' kvs₁ → Ints kvs₁ (gains 1 (gains 1 [] ps) []) → Fr h₀ L h' m → News h₀ L h' ((x, cnt es' n' dx) :: (dx, dictOf [] 0) :: rest) → R (.ok (.ret .none)) {s with heap := h', toks := tk}) :
    codeAny (model prog w) (AK l (ek e0 L) outer) (.call (.ref 887) ⟨[.ref x, v], []⟩) R s := by
  refine' more_at (ex := []) ?k1 ?k2 ?k3 ?k4 ?k5 ?kA ?kF ?kK ?k6 ?k7 ?k8 ?kX ?kM ?kN ?kR ?kP ?kT ?kB ?_ ?c2 ?c3 ?c4 ?c5
  case kA => exact rfl
  case kF => exact rfl
  case kK => exact rfl
  case k1 => k_asm
  case k2 => k_asm
  case k3 => k_asm
  case k4 => k_asm
  case k5 => k_asm
  case k6 => k_is
  case k7 => k_is
  case k8 => k_room
  case kX => exact rfl
  case kM => exact rfl
  case kN => exact List.nodup_nil
  case kR => exact rfl
  case kP => exact rfl
  case kT => exact fun _ => rfl
  case kB => exact fun _ => locs rfl
  case c5 => decide
  case c2 => exact rfl
  case c3 => exact rfl
  case c4 => exact rfl
  k_whole
  intro D1 o1 g1 L1 h1 tk1 l1 lo1 hs1 FG1 F1 N1 B1 X1 T1
  exact W_init hlv (by k_is) (ps := ps) (cs2 := []) hfile htop hsx hxr hs1 lo1 (by simp) (fun {A₀ base h₀ outer e0 L m mg mb mean s R rest' n} hsub hxr' B F X N T k => upd_spec0 (by omega) hfile htop (G.sub hsub) DIs.nil Ints.nil hsx (by simp; omega) hxr' B F X N T k) k B F X N T l1 FG1 (fr_fun F1 fun _ => rfl) N1 B1 X1 T1
theorem initd_spec {l : Nat} (hlv : l ≤ 12) {x dx : Addr}   (hfile : ((prog.main.file : Str) == Str.ofString "/claim/cut.py") = true) (htop : (prog.main.scope.names.lookup (Str.ofString "super")).isSome = false)
     (hlim : True) (hsx : (x == sysModules) = false) (hxr : ∀ p ∈ rest, p.1 ≠ x)
    (B : Below A₀ base outer h₀) (F : Fr h₀ L s.heap m) (X : (Mine.hd06.heap_39 w.params).In h₀) (N : News h₀ L s.heap ((x, cnt #[] 0 dx) :: (dx, dictOf [] 0) :: rest)) (T : Top vw ls mean mg mb h₀)
    (k : ∀ h' tk es' n' kvs₁, DIs (PySem.strKind prog w) es' kvs₁ → Ints kvs₁ (gains 1 (gains 1 [] []) []) → Fr h₀ L h' m → News h₀ L h' ((x, cnt es' n' dx) :: (dx, dictOf [] 0) :: rest) → R (.ok (.ret .none)) {s with heap := h', toks := tk}) :
    codeAny (model prog w) (AK l (ek e0 L) outer) (.call (.ref 887) ⟨[.ref x], []⟩) R s := by
  refine' more_at (ex := []) ?k1 ?k2 ?k3 ?k4 ?k5 ?kA ?kF ?kK ?k6 ?k7 ?k8 ?kX ?kM ?kN ?kR ?kP ?kT ?kB ?_ ?c2 ?c3 ?c4 ?c5
  case kA => exact rfl
  case kF => exact rfl
  case kK => exact rfl
  case k1 => k_asm
  case k2 => k_asm
  case k3 => k_asm
  case k4 => k_asm
  case k5 => k_asm
  case k6 => k_is
  case k7 => k_is
  case k8 => k_room
  case kX => exact rfl
  case kM => exact rfl
  case kN => exact List.nodup_nil
  case kR => exact rfl
  case kP => exact rfl
  case kT => exact fun _ => rfl
  case kB => exact fun _ => locs rfl
  case c5 => decide
  case c2 => exact rfl
  case c3 => exact rfl
  case c4 => exact rfl
  k_whole
  intro D1 o1 g1 L1 h1 tk1 l1 lo1 hs1 FG1 F1 N1 B1 X1 T1
  exact W_init hlv (by k_is) (ps := []) (cs2 := []) hfile htop hsx hxr hs1 lo1 (by simp) (fun {A₀ base h₀ outer e0 L m mg mb mean s R rest' n} hsub hxr' B F X N T k => upd_spec0 (by omega) hfile htop .none DIs.nil Ints.nil hsx (by simp) hxr' B F X N T k) k B F X N T l1 FG1 (fr_fun F1 fun _ => rfl) N1 B1 X1 T1
theorem init2_spec {l : Nat} (hlv : l ≤ 12) {x dx : Addr} {v : Value} {ps : List (Str × Int)} {k1 k2 : Str} {a b : Int} {t1 t2 : Tok} (hne : k1 ≠ k2) (hfile : ((prog.main.file : Str) == Str.ofString "/claim/cut.py") = true) (htop : (prog.main.scope.names.lookup (Str.ofString "super")).isSome = false)
    (G : Given prog w rest v ps) (hlim : ps.length ≤ 3000) (hsx : (x == sysModules) = false) (hxr : ∀ p ∈ rest, p.1 ≠ x)
    (B : Below A₀ base outer h₀) (F : Fr h₀ L s.heap m) (X : (Mine.hd06.heap_39 w.params).In h₀) (N : News h₀ L s.heap ((x, cnt #[] 0 dx) :: (dx, dictOf [] 0) :: rest)) (T : Top vw ls mean mg mb h₀)
    (k : ∀ h' tk es' n' kvs₁, DIs (PySem.strKind prog w) es' kvs₁ → Ints kvs₁ (gains 1 (gains 1 [] ps) [(k1, a), (k2, b)]) → Fr h₀ L h' m → News h₀ L h' ((x, cnt es' n' dx) :: (dx, dictOf [] 0) :: rest) → R (.ok (.ret .none)) {s with heap := h', toks := tk}) :
    codeAny (model prog w) (AK l (ek e0 L) outer) (.call (.ref 887) ⟨[.ref x, v], [(k1, .int a t1), (k2, .int b t2)]⟩) R s := by
  refine' more_at (ex := [(k1, .int a t1), (k2, .int b t2)]) ?k1 ?k2 ?k3 ?k4 ?k5 ?kA ?kF ?kK ?k6 ?k7 ?k8 ?kX ?kM ?kN ?kR ?kP ?kT ?kB ?_ ?c2 ?c3 ?c4 ?c5
  case kA => exact rfl
  case kF => exact rfl
  case kK => exact rfl
  case k1 => k_asm
  case k2 => k_asm
  case k3 => k_asm
  case k4 => k_asm
  case k5 => k_asm
  case k6 => k_is
  case k7 => k_is
  case k8 => k_room
  case kX => exact rfl
  case kM => exact rfl
  case kN => exact kw_nodup hne
  case kR => exact rfl
  case kP => exact rfl
  case kT => exact fun _ => rfl
  case kB => exact fun _ => locs rfl
  case c5 => decide
  case c2 => exact rfl
  case c3 => exact rfl
  case c4 => exact rfl
  k_whole
  intro D1 o1 g1 L1 h1 tk1 l1 lo1 hs1 FG1 F1 N1 B1 X1 T1
  exact W_init hlv (by k_is) (ps := ps) (cs2 := [(k1, a), (k2, b)]) hfile htop hsx hxr hs1 lo1 (by simp) (fun {A₀ base h₀ outer e0 L m mg mb mean s R rest' n} hsub hxr' B F X N T k => upd_spec2 (by omega) hne hfile htop (G.sub hsub) DIs.nil Ints.nil hsx (by simp; omega) hxr' B F X N T k) k B F X N T l1 FG1 (fr_fun F1 fun _ => rfl) N1 B1 X1 T1
end
end Mine
end
section
open PySem PySem.W PyProof.Rows PyProof.V PySem.Calls PySem.Spec Builtin Builtin.ObjectAttr
set_option Elab.async false
set_option maxRecDepth 100000
set_option maxHeartbeats 3000000
namespace Mine
section
variable {prog : Program} {w : World} {A A₀ : Around} {E : Value → Shared → Prop} {base h₀ : Heap} {outer : List Env} {env : Env} {L : Addr} {m mg mb : Str → Option Value} {mean : ExcName → Option Value} {s : Shared} {rest : List (Addr × Obj)}
theorem under_tc (A : Around) (r : List Value) (kw : List (Str × Value)) : A.under (.builtin "type.__call__" ⟨.ref 1093 :: r, kw⟩) = { A with depth := A.depth + 1, units := A.units + 1 } := by
  unfold Around.under
  have h1 : (Code.builtin "type.__call__" ⟨.ref 1093 :: r, kw⟩).weight = 1 := rfl
  have h2 : (Code.builtin "type.__call__" ⟨.ref 1093 :: r, kw⟩).envs = [] := rfl
  have h3 : (Code.builtin "type.__call__" ⟨.ref 1093 :: r, kw⟩).guards = [] := rfl
  have h4 : (Code.builtin "type.__call__" ⟨.ref 1093 :: r, kw⟩).cUnits = 1 := rfl
  rw [h1, h2, h3, h4]
  rfl
theorem make_init0 {v : Value} {ps : List (Str × Int)}  {Q : Value → Shared → Prop} (hA : A.frames = some (env :: outer)) (hf : env.frame = some L) (hk : env.scope.kind = .function) (hh : A.handled = none) (hg : A.guards = some []) (hd : A.depth + 1 ≤ 520) (hu : A.units + 1 ≤ 2200)
    (hfile : ((prog.main.file : Str) == Str.ofString "/claim/cut.py") = true) (htop : (prog.main.scope.names.lookup (Str.ofString "super")).isSome = false) (G : Given prog w rest v ps) (hlim : ps.length ≤ 3000)
    (B : Below A₀ base outer h₀) (F : Fr h₀ L s.heap m) (X : (Mine.hd06.heap_39 w.params).In h₀) (N : News h₀ L s.heap rest) (T : Top vw ls mean mg mb h₀)
    (k : ∀ x dx h' tk es' n' kvs₁, DIs (PySem.strKind prog w) es' kvs₁ → Ints kvs₁ (gains 1 (gains 1 [] ps) []) → Fr h₀ L h' m → News h₀ L h' ((x, cnt es' n' dx) :: (dx, dictOf [] 0) :: rest) → (∀ p ∈ rest, p.1 < dx) → dx < x → (x == sysModules) = false → Q (.ref x) {s with heap := h', toks := tk}) :
    wpAny (model prog w) A (call (.ref 1093) [v] []) Q E s := by
  refine wpAny_call (cnt_make F N X fun x dx h' F' N' hl hx hdx => ?_)
  rw [under_tc]
  have hlow : sysModules < dx := by rw [hdx]; exact Nat.lt_trans (modules_low T.nolimit) (Nat.lt_of_le_of_lt F.above F.ns.lt)
  have hsx : (x == sysModules) = false := beq_eq_false_iff_ne.mpr (Nat.ne_of_gt (Nat.lt_trans hlow hx))
  refine use_code 12 (A := { A with depth := A.depth + 1, units := A.units + 1 }) hA hf hk hh hg hd hu (init0_spec (Nat.le_refl _) hfile htop G hlim hsx (fun p hp => Nat.ne_of_lt (Nat.lt_trans (hl p hp) hx)) B F' X N' T fun h2 tk es' n' kvs₁ D hi F2 N2 => ⟨rfl, k x dx h2 tk es' n' kvs₁ D hi F2 N2 hl hx hsx⟩)
theorem make_initd   {Q : Value → Shared → Prop} (hA : A.frames = some (env :: outer)) (hf : env.frame = some L) (hk : env.scope.kind = .function) (hh : A.handled = none) (hg : A.guards = some []) (hd : A.depth + 1 ≤ 520) (hu : A.units + 1 ≤ 2200)
    (hfile : ((prog.main.file : Str) == Str.ofString "/claim/cut.py") = true) (htop : (prog.main.scope.names.lookup (Str.ofString "super")).isSome = false) 
    (B : Below A₀ base outer h₀) (F : Fr h₀ L s.heap m) (X : (Mine.hd06.heap_39 w.params).In h₀) (N : News h₀ L s.heap rest) (T : Top vw ls mean mg mb h₀)
    (k : ∀ x dx h' tk es' n' kvs₁, DIs (PySem.strKind prog w) es' kvs₁ → Ints kvs₁ (gains 1 (gains 1 [] []) []) → Fr h₀ L h' m → News h₀ L h' ((x, cnt es' n' dx) :: (dx, dictOf [] 0) :: rest) → (∀ p ∈ rest, p.1 < dx) → dx < x → (x == sysModules) = false → Q (.ref x) {s with heap := h', toks := tk}) :
    wpAny (model prog w) A (call (.ref 1093) [] []) Q E s := by
  refine wpAny_call (cnt_make F N X fun x dx h' F' N' hl hx hdx => ?_)
  rw [under_tc]
  have hlow : sysModules < dx := by rw [hdx]; exact Nat.lt_trans (modules_low T.nolimit) (Nat.lt_of_le_of_lt F.above F.ns.lt)
  have hsx : (x == sysModules) = false := beq_eq_false_iff_ne.mpr (Nat.ne_of_gt (Nat.lt_trans hlow hx))
  refine use_code 12 (A := { A with depth := A.depth + 1, units := A.units + 1 }) hA hf hk hh hg hd hu (initd_spec (Nat.le_refl _) hfile htop trivial hsx (fun p hp => Nat.ne_of_lt (Nat.lt_trans (hl p hp) hx)) B F' X N' T fun h2 tk es' n' kvs₁ D hi F2 N2 => ⟨rfl, k x dx h2 tk es' n' kvs₁ D hi F2 N2 hl hx hsx⟩)
theorem make_init2 {v : Value} {ps : List (Str × Int)} {k1 k2 : Str} {a b : Int} {t1 t2 : Tok} (hne : k1 ≠ k2) {Q : Value → Shared → Prop} (hA : A.frames = some (env :: outer)) (hf : env.frame = some L) (hk : env.scope.kind = .function) (hh : A.handled = none) (hg : A.guards = some []) (hd : A.depth + 1 ≤ 520) (hu : A.units + 1 ≤ 2200)
    (hfile : ((prog.main.file : Str) == Str.ofString "/claim/cut.py") = true) (htop : (prog.main.scope.names.lookup (Str.ofString "super")).isSome = false) (G : Given prog w rest v ps) (hlim : ps.length ≤ 3000)
    (B : Below A₀ base outer h₀) (F : Fr h₀ L s.heap m) (X : (Mine.hd06.heap_39 w.params).In h₀) (N : News h₀ L s.heap rest) (T : Top vw ls mean mg mb h₀)
    (k : ∀ x dx h' tk es' n' kvs₁, DIs (PySem.strKind prog w) es' kvs₁ → Ints kvs₁ (gains 1 (gains 1 [] ps) [(k1, a), (k2, b)]) → Fr h₀ L h' m → News h₀ L h' ((x, cnt es' n' dx) :: (dx, dictOf [] 0) :: rest) → (∀ p ∈ rest, p.1 < dx) → dx < x → (x == sysModules) = false → Q (.ref x) {s with heap := h', toks := tk}) :
    wpAny (model prog w) A (call (.ref 1093) [v] [(k1, .int a t1), (k2, .int b t2)]) Q E s := by
  refine wpAny_call (cnt_make F N X fun x dx h' F' N' hl hx hdx => ?_)
  rw [under_tc]
  have hlow : sysModules < dx := by rw [hdx]; exact Nat.lt_trans (modules_low T.nolimit) (Nat.lt_of_le_of_lt F.above F.ns.lt)
  have hsx : (x == sysModules) = false := beq_eq_false_iff_ne.mpr (Nat.ne_of_gt (Nat.lt_trans hlow hx))
  refine use_code 12 (A := { A with depth := A.depth + 1, units := A.units + 1 }) hA hf hk hh hg hd hu (init2_spec (Nat.le_refl _) hne hfile htop G hlim hsx (fun p hp => Nat.ne_of_lt (Nat.lt_trans (hl p hp) hx)) B F' X N' T fun h2 tk es' n' kvs₁ D hi F2 N2 => ⟨rfl, k x dx h2 tk es' n' kvs₁ D hi F2 N2 hl hx hsx⟩)
end
end Mine
end
section
open PySem PySem.W PyProof.Rows PyProof.V PySem.Calls PySem.Spec Builtin Builtin.ObjectAttr
set_option Elab.async false
set_option maxRecDepth 100000
set_option maxHeartbeats 3000000
namespace Mine
abbrev tup (x y : Value) : Obj := { cls := .type "tuple", data := .seq #[x, y] }
/-- the state of an iterator over items before its turn i, while the tuples that it gave live on -/
def ItSt (h : Heap) (it d S : Addr) (i n ep : Nat) : Prop :=
  (i = 0 ∧ ∃ ok ov, h.get? it = some (itm d 0 n ep .none false ok ov)) ∨ ∃ ok ov, ∃ a : Addr, ∃ f oa, h.get? it = some (itm d i n ep (rawInt a) f ok ov) ∧ h.get? a = some oa ∧ a ≠ it ∧ a ≠ S
/-- fresh tuples that hold the pairs -/
inductive Tups {prog : Program} {w : World} (knd : KeyKind prog w Str) (h : Heap) (lo : Addr) : List Addr → List (Str × Value) → Prop
  | nil : Tups knd h lo [] []
  | snoc {as : List Addr} {kvs : List (Str × Value)} {a : Addr} {k : Str} {key v : Value} (r : Tups knd h lo as kvs) (hk : knd.is k key = true) (ho : h.get? a = some (tup key v)) (hl : lo ≤ a) : Tups knd h lo (as ++ [a]) (kvs ++ [(k, v)])
theorem Tups.keep {prog : Program} {w : World} {knd : KeyKind prog w Str} {h h' : Heap} {lo : Addr} {as : List Addr} {kvs : List (Str × Value)} (T : Tups knd h lo as kvs) (e : ∀ b o, lo ≤ b → h.get? b = some o → h'.get? b = some o) : Tups knd h' lo as kvs := by
  induction T with
  | nil => exact .nil
  | snoc r hk ho hl ih => exact .snoc ih hk (e _ _ hl ho) hl
theorem Tups.low {prog : Program} {w : World} {knd : KeyKind prog w Str} {h : Heap} {lo lo' : Addr} {as : List Addr} {kvs : List (Str × Value)} (T : Tups knd h lo as kvs) (hl : @LE.le Nat _ lo' lo) : Tups knd h lo' as kvs := by
  induction T with
  | nil => exact .nil
  | snoc r hk ho hlo ih => exact .snoc ih hk ho (Nat.le_trans hl hlo)
theorem Tups.length {prog : Program} {w : World} {knd : KeyKind prog w Str} {h : Heap} {lo : Addr} {as : List Addr} {kvs : List (Str × Value)} (T : Tups knd h lo as kvs) : as.length = kvs.length := by
  induction T with
  | nil => rfl
  | snoc r hk ho hl ih => rw [List.length_append, List.length_append, ih]; rfl
section
variable {prog : Program} {w : World} {A : Around} {s : Shared} {R : Result → Shared → Prop} {kvs : List (Str × Value)} {ep : Nat}
theorem lst_loop {S I d lo : Addr} (hh : A.handled = none) (hSI : S < lo) (hIl : I < lo) (hne : S ≠ I) (hSd : d ≠ S) (hId : d ≠ I) (hn : kvs.length ≤ sizeLine) (res : Value) {h₁ : Heap}
    (hR : ∀ h' tk acc c as, (∀ b o, b ≠ S → b ≠ I → h₁.get? b = some o → h'.get? b = some o) → h'.get? S = some { cls := .type "list", dict := none, data := .seq acc c, slots := #[] } → Tups (PySem.strKind prog w) h' lo as kvs →
      acc.toList = as.map Value.ref → R (.ok (.ret res)) { s with heap := h', toks := tk }) :
    ∀ (k i : Nat) (h : Heap) (tk c : Nat) (acc : Array Value) (as : List Addr), kvs.length - i = k → i ≤ kvs.length → ItSt h I d S i kvs.length ep → DatAt (PySem.strKind prog w) h d kvs ep → (∀ b o, b ≠ S → b ≠ I → h₁.get? b = some o → h.get? b = some o) →
      h.get? S = some { cls := .type "list", dict := none, data := .seq acc c, slots := #[] } → acc.toList = as.map Value.ref → Tups (PySem.strKind prog w) h lo as (kvs.take i) → lo ≤ h.objs.size →
      codeAny (model prog w) A (.builtin "list.extend.loop" ⟨[.ref S, .ref I, res], []⟩) R { s with heap := h, toks := tk } := by
  intro k
  induction k with
  | zero =>
    intro i h tk c acc as hk hi hst hD hkeep hS hacc hT hlo
    have hin : i = kvs.length := by omega
    refine codeAny_builtin PySem.F.entry_extend_loop ?_
    rw [Around.under_plainId PySem.F.plain_extend_loop _]
    show wpAny _ A.in1 (pyNext (.ref I) >>= _) _ _ _
    have fin : ∀ h', Heap.ExtBut I h h' → R (.ok (.ret res)) { s with heap := h', toks := tk } := fun h' he => by
      rw [hin, List.take_length] at hT
      exact hR h' tk acc c as (fun b o h1 h2 e => he b o h2 (hkeep b o h1 h2 e)) (he S _ hne hS) (hT.keep fun b o hb e => he b o (Nat.ne_of_gt (Nat.lt_of_lt_of_le hIl hb)) e) hacc
    rcases hst with ⟨rfl, ok, ov, hit⟩ | ⟨ok, ov, a, f, oa, hit, _, _, _⟩
    · exact wpAny_bind (it_end (s := { s with heap := h, toks := tk }) (A := A.in1) hh hit hD (List.getElem?_eq_none (by omega)) fun h' he => wpAny_pure (fin h' he))
    · exact wpAny_bind (it_end (s := { s with heap := h, toks := tk }) (A := A.in1) hh hit hD (List.getElem?_eq_none (by omega)) fun h' he => wpAny_pure (fin h' he))
  | succ k ih =>
    intro i h tk c acc as hk hi hst hD hkeep hS hacc hT hlo
    have hlt : i < kvs.length := by omega
    obtain ⟨⟨kk, x⟩, hx⟩ : ∃ p, kvs[i]? = some p := ⟨kvs[i], List.getElem?_eq_getElem hlt⟩
    have hsz : acc.size = i := by rw [← Array.length_toList, hacc, List.length_map, hT.length, List.length_take]; omega
    refine codeAny_builtin PySem.F.entry_extend_loop ?_
    rw [Around.under_plainId PySem.F.plain_extend_loop _]
    show wpAny _ A.in1 (pyNext (.ref I) >>= _) _ _ _
    have go : ∀ key h', (PySem.strKind prog w).is kk key = true → ItSt h' I d S (i + 1) kvs.length ep → h'.get? h.objs.size = some (tup key x) → h'.objs.size = h.objs.size + 1 → (∀ b o, b ≠ I → h.get? b = some o → h'.get? b = some o) →
        wpAny (model prog w) A.in1 (updateSeq S (·.push (Value.ref h.objs.size)) >>= fun _ => again (.builtin "list.extend.loop" ⟨[.ref S, .ref I, res], []⟩)) (fun fin s' => match fin with | .done f => R (.ok f) s' | .again c' => c'.quiet = true ∧ codeAny (model prog w) A c' R s') (fun e s' => R (.error e) s') { s with heap := h', toks := tk } := by
      intro key h' hkey hst' ht hz hkp
      have hS' := hkp S _ hne hS
      have up : ∀ b o, b ≠ S → h'.get? b = some o → (h'.update S (Obj.mapSeq (·.push (Value.ref h.objs.size)))).get? b = some o := fun b o hb e => (Heap.get?_update_other _ _ (Ne.symm hb)).trans e
      have hzu : (h'.update S (Obj.mapSeq (·.push (Value.ref h.objs.size)))).objs.size = h.objs.size + 1 := by rw [← hz]; exact (Heap.SameBut.update (a := S) (h := h') (f := Obj.mapSeq (·.push (Value.ref h.objs.size)))).1
      refine wpAny_bind (wpAny_updateSeq hS' rfl (wpAny_pure ⟨plainId_quiet PySem.F.plain_extend_loop _, ih (i + 1) _ tk _ (acc.push (Value.ref h.objs.size)) (as ++ [h.objs.size]) (by omega) hlt ?_ ((hD.at fun o e => hkp d o hId e).at fun o e => up d o hSd e)
        (fun b o h1 h2 e => up b o h1 (hkp b o h2 (hkeep b o h1 h2 e))) (Heap.get?_update_self _ hS' rfl) (by rw [Array.toList_push, hacc, List.map_append]; rfl) ?_ (by rw [hzu]; exact Nat.le_trans hlo (Nat.le_succ _))⟩) (by rw [hsz]; omega) (by show (acc.push (Value.ref h.objs.size)).size ≤ sizeLine + 1; rw [Array.size_push, hsz]; omega))
      · rcases hst' with ⟨e0, _⟩ | ⟨ok, ov, a, f, oa, h1, h2, h3, h4⟩
        · omega
        · exact .inr ⟨ok, ov, a, f, oa, up _ _ (Ne.symm hne) h1, up _ _ h4 h2, h3, h4⟩
      · rw [List.take_add_one, hx]
        exact (hT.keep fun b o hb e => up b o (Nat.ne_of_gt (Nat.lt_of_lt_of_le hSI hb)) (hkp b o (Nat.ne_of_gt (Nat.lt_of_lt_of_le hIl hb)) e)).snoc hkey (up _ _ (Nat.ne_of_gt (Nat.lt_of_lt_of_le hSI hlo)) ht) hlo
    have hS0 : S < h.objs.size := Heap.lt_size hS
    rcases hst with ⟨rfl, ok, ov, hit⟩ | ⟨ok, ov, a, f, oa, hit, ha, hai, haS⟩
    · refine wpAny_bind (it_next0 (s := { s with heap := h, toks := tk }) hit hD hx fun key h' hkey hi' ht hz hkp => go key h' hkey (.inr ⟨key, x, _, false, _, hi', ht, Nat.ne_of_gt (Heap.lt_size hit), Nat.ne_of_gt hS0⟩) ht hz hkp)
    · refine wpAny_bind (it_next1 (s := { s with heap := h, toks := tk }) hit ha hai hD hx fun key h' hkey hi' ht hz hkp => go key h' hkey (.inr ⟨ok, ov, a, true, oa, hi', hkp a oa hai ha, hai, haS⟩) ht hz hkp)
end
end Mine
end
section
open PySem PySem.W PyProof.Rows PyProof.V PySem.Calls PySem.Spec Builtin Builtin.ObjectAttr
set_option Elab.async false
set_option maxRecDepth 100000
set_option maxHeartbeats 3000000
namespace Mine
section
variable {prog : Program} {w : World} {A : Around} {E : Value → Shared → Prop} {s : Shared} {R : Result → Shared → Prop} {kvs : List (Str × Value)} {ep : Nat} {r d : Addr}
theorem lst_extend (hh : A.handled = none) (hv : s.heap.get? r = some (iview d)) (hm : DatAt (PySem.strKind prog w) s.heap d kvs ep) (S : Addr) (hSr : S ≠ r) (hSd : d ≠ S) (res : Value) (c₀ : Nat) (hS : s.heap.get? S = some { cls := .type "list", data := .seq #[] c₀ })
    (hR : ∀ h' tk acc c as, (∀ b o, b ≠ S → s.heap.get? b = some o → h'.get? b = some o) → h'.get? S = some { cls := .type "list", dict := none, data := .seq acc c, slots := #[] } → Tups (PySem.strKind prog w) h' (s.heap.objs.size + 1) as kvs →
      acc.toList = as.map Value.ref → R (.ok (.ret res)) { s with heap := h', toks := tk }) (hn : kvs.length ≤ sizeLine) :
    wpAny (model prog w) A.in1 (Builtin.List.listExtendWith (.ref S) (.ref r) res)
      (fun fin s' => match fin with | .done f => R (.ok f) s' | .again c' => c'.quiet = true ∧ codeAny (model prog w) A c' R s') (fun e s' => R (.error e) s') s := by
  have hSI : S < s.heap.objs.size := Heap.lt_size hS
  have hdI : d < s.heap.objs.size := let ⟨_, _, ho, _⟩ := hm; Heap.lt_size ho
  have hIV : s.heap.IsItemsView r d := ⟨_, hv, rfl, rfl⟩
  have key : ∀ (h : Heap) (c₁ tk : Nat), (∀ b o, b ≠ S → (s.heap.push (itm d 0 kvs.length ep .none false .none .none)).get? b = some o → h.get? b = some o) → h.objs.size = s.heap.objs.size + 1 →
      h.get? S = some { cls := .type "list", data := .seq #[] c₁ } → codeAny (model prog w) A (.builtin "list.extend.loop" ⟨[.ref S, .ref s.heap.objs.size, res], []⟩) R { s with heap := h, toks := tk } := by
    intro h c₁ tk hk hz hS₁
    have hI := hk s.heap.objs.size _ (Nat.ne_of_gt hSI) (Heap.get?_push_size _ rfl)
    refine lst_loop (kvs := kvs) (ep := ep) (s := s) (h₁ := s.heap) (lo := s.heap.objs.size + 1) hh (Nat.lt_succ_of_lt hSI) (Nat.lt_succ_self _) (Nat.ne_of_lt hSI) hSd (Nat.ne_of_lt hdI) hn res (fun h' tk' acc c as hk' hS' hT hacc => hR h' tk' acc c as (fun b o hb e => hk' b o hb (Nat.ne_of_lt (Heap.lt_size e)) e) hS' hT hacc)
      kvs.length 0 h tk c₁ #[] [] (Nat.sub_zero _) (Nat.zero_le _) (.inl ⟨rfl, .none, .none, hI⟩) (hm.at fun o e => hk d o hSd (Heap.get?_push_of_some _ e)) (fun b o hb _ e => hk b o hb (Heap.get?_push_of_some _ e)) hS₁ rfl .nil (by rw [hz]; exact Nat.le_refl _)
  unfold Builtin.List.listExtendWith
  refine wpAny_bind (wpAny_typeOf (T := "dict_items") hIV.typeIs ?_)
  have h1 : Builtin.List.listSameRef (.ref S) (.ref r) = false := by simp [Builtin.List.listSameRef, hSr]
  have h2 : (Value.type "dict_items" == Value.type "list") = false := by decide
  have h3 : (Value.type "dict_items" == Value.type "tuple") = false := by decide
  simp only [h1, h2, h3, Bool.or_false, Bool.false_eq_true, if_false]
  refine wpAny_bind (it_iter hv hm ?_)
  have hS₁ := Heap.get?_push_of_some (itm d 0 kvs.length ep .none false .none .none) hS
  have hv₁ := Heap.get?_push_of_some (itm d 0 kvs.length ep .none false .none .none) hv
  refine wpAny_bind (wpAny_holding (kdx_hint ⟨_, hv₁, rfl⟩ ?_))
  refine wpAny_ite_split (fun _ => ?_) (fun _ => wpAny_pure ⟨plainId_quiet PySem.F.plain_extend_loop _, key _ c₀ _ (fun b o _ e => e) (Heap.size_push ..) hS₁⟩)
  refine wpAny_bind (wpAny_rule ?_)
  refine wpAny_bind ?_
  show wpAny _ _ (updateSeq S (·.push .none) >>= fun _ => updateSeq S (·.pop)) _ _ _
  refine wpAny_bind (wpAny_updateSeq hS₁ rfl ?_)
  have hS₂ := Heap.get?_update_self (Obj.mapSeq (·.push Value.none)) hS₁ rfl
  refine wpAny_updateSeq (hz := by seq_fits) hS₂ rfl ?_
  have hS₃ := Heap.get?_update_self (Obj.mapSeq (·.pop)) hS₂ rfl
  refine wpAny_pure ⟨plainId_quiet PySem.F.plain_extend_loop _, key _ _ _ (fun b o hb e => (Heap.get?_update_other _ _ (Ne.symm hb)).trans ((Heap.get?_update_other _ _ (Ne.symm hb)).trans e)) ?_ hS₃⟩
  have q1 := (Heap.SameBut.update (a := S) (h := (s.heap.push (itm d 0 kvs.length ep .none false .none .none)).update S (Obj.mapSeq (·.push Value.none))) (f := Obj.mapSeq (·.pop))).1
  have q2 := (Heap.SameBut.update (a := S) (h := s.heap.push (itm d 0 kvs.length ep .none false .none .none)) (f := Obj.mapSeq (·.push Value.none))).1
  exact q1.trans (q2.trans (Heap.size_push ..))
theorem lst_init (hh : A.handled = none) (hv : s.heap.get? r = some (iview d)) (hm : DatAt (PySem.strKind prog w) s.heap d kvs ep) (S : Addr) (hSr : S ≠ r) (hSd : d ≠ S) (hS : s.heap.get? S = some { cls := .type "list", data := .seq #[] })
    (hR : ∀ h' tk acc c as, (∀ b o, b ≠ S → s.heap.get? b = some o → h'.get? b = some o) → h'.get? S = some { cls := .type "list", dict := none, data := .seq acc c, slots := #[] } → Tups (PySem.strKind prog w) h' (s.heap.objs.size + 1) as kvs →
      acc.toList = as.map Value.ref → R (.ok (.ret .none)) { s with heap := h', toks := tk }) (hn : kvs.length ≤ sizeLine) :
    wpAny (model prog w) A.in1 (Builtin.«list.__init__» ⟨[.ref S, .ref r], []⟩)
      (fun fin s' => match fin with | .done f => R (.ok f) s' | .again c' => c'.quiet = true ∧ codeAny (model prog w) A c' R s') (fun e s' => R (.error e) s') s := by
  show wpAny _ _ (do let old ← Builtin.List.listItems (.ref S); Builtin.List.listUpdate (.ref S) (fun _ => #[]); letGo old.toList.reverse; Builtin.List.listExtendWith (.ref S) (.ref r) .none) _ _ s
  refine wpAny_bind ?_
  unfold Builtin.List.listItems
  refine wpAny_bind (wpAny_seqItems hS rfl (wpAny_pure ?_))
  show wpAny _ _ (updateSeq S (fun _ => #[]) >>= fun _ => letGo (#[] : Array Value).toList.reverse >>= fun _ => Builtin.List.listExtendWith (.ref S) (.ref r) .none) _ _ s
  refine wpAny_bind (wpAny_updateSeq hS rfl ?_)
  have hS₂ := Heap.get?_update_self (Obj.mapSeq (fun _ => (#[] : Array Value))) hS rfl
  have hsz := (Heap.SameBut.update (a := S) (h := s.heap) (f := Obj.mapSeq (fun _ => (#[] : Array Value)))).1
  have oth : ∀ b o, b ≠ S → s.heap.get? b = some o → (s.heap.update S (Obj.mapSeq (fun _ => (#[] : Array Value)))).get? b = some o :=
    fun b o hb e => (Heap.get?_update_other _ _ (Ne.symm hb)).trans e
  refine wpAny_bind (wpAny_letGo ?_)
  refine lst_extend (s := { s with heap := s.heap.update S (Obj.mapSeq (fun _ => (#[] : Array Value))) }) (kvs := kvs) (ep := ep) hh (oth r _ hSr.symm hv) (hm.at fun o e => oth d o hSd e) S hSr hSd .none _ hS₂ (fun h' tk acc c as hk hS' hT hacc => ?_) hn
  exact hR h' tk acc c as (fun b o hb e => hk b o hb (oth b o hb e)) hS' (by dsimp only at hT; rw [hsz] at hT; exact hT) hacc
theorem lst_call {Q : Value → Shared → Prop} (hh : A.handled = none) (hv : s.heap.get? r = some (iview d)) (hm : DatAt (PySem.strKind prog w) s.heap d kvs ep) (hn : kvs.length ≤ sizeLine)
    (hQ : ∀ h' tk acc c as, (∀ b o, s.heap.get? b = some o → h'.get? b = some o) → h'.get? s.heap.objs.size = some { cls := .type "list", dict := none, data := .seq acc c, slots := #[] } → Tups (PySem.strKind prog w) h' s.heap.objs.size as kvs →
      acc.toList = as.map Value.ref → Q (.ref s.heap.objs.size) { s with heap := h', toks := tk }) :
    wpAny (model prog w) A (call (.type "list") [.ref r]) Q E s := by
  refine callType_codes (Q₁ := fun obj s₁ => obj = .ref s.heap.objs.size ∧ s₁ = { s with heap := s.heap.push { cls := .type "list", data := .seq #[] } }) PySem.F.called_list (PySem.F.typeCall_list_1 _) PySem.F.entry_list_init
    (code_list_new _ ⟨rfl, rfl⟩) fun obj s₁ h₁ => ?_
  obtain ⟨rfl, rfl⟩ := h₁
  have hS : (s.heap.push { cls := .type "list", data := .seq #[] }).get? s.heap.objs.size = some { cls := .type "list", data := .seq #[] } := Heap.get?_push_size _ rfl
  have hr : r < s.heap.objs.size := Heap.lt_size hv
  have hd : d < s.heap.objs.size := let ⟨_, _, ho, _⟩ := hm; Heap.lt_size ho
  refine ⟨⟨_, hS, rfl⟩, PySem.F.args_list_init_2 _ _, lst_init (s := { s with heap := s.heap.push { cls := .type "list", data := .seq #[] } }) (kvs := kvs) (ep := ep) (A := A.in1) hh (Heap.get?_push_of_some _ hv) (hm.at fun o e => Heap.get?_push_of_some _ e) _ (Nat.ne_of_gt hr) (Nat.ne_of_lt hd) hS (fun h' tk acc c as hk hS' hT hacc => ?_) hn⟩
  refine ⟨rfl, hQ h' tk acc c as (fun b o e => hk b o (Nat.ne_of_lt (Heap.lt_size e)) (Heap.get?_push_of_some _ e)) hS' ?_ hacc⟩
  dsimp only at hT
  rw [Heap.size_push] at hT
  exact hT.low (Nat.le_trans (Nat.le_succ _) (Nat.le_succ _))
end
section
variable {prog : Program} {w : World} {A : Around} {E : Value → Shared → Prop} {s : Shared} {h₀ : Heap} {L : Addr} {m : Str → Option Value} {news : List (Addr × Obj)} {r y : Addr}
/-- references to tuples of a text and a whole number, the tuples among the objects of l -/
inductive TupsIn (l : List (Addr × Obj)) : List Value → List (Str × Int) → Prop
  | nil : TupsIn l [] []
  | cons {a : Addr} {k : Str} {c : Int} {t u : Tok} {r : List Value} {r' : List (Str × Int)} (h : (a, tup (.str k t) (.int c u)) ∈ l) (hr : TupsIn l r r') : TupsIn l (.ref a :: r) ((k, c) :: r')
theorem TupsIn.sub {l l' : List (Addr × Obj)} {vs : List Value} {cs : List (Str × Int)} (h : TupsIn l vs cs) (hs : ∀ p ∈ l, p ∈ l') : TupsIn l' vs cs := by
  induction h with
  | nil => exact .nil
  | cons h _ ih => exact .cons (hs _ h) ih
theorem TupsIn.append {l : List (Addr × Obj)} {vs vs' : List Value} {cs cs' : List (Str × Int)} (h : TupsIn l vs cs) (h' : TupsIn l vs' cs') : TupsIn l (vs ++ vs') (cs ++ cs') := by
  induction h with
  | nil => exact h'
  | cons h _ ih => exact .cons h ih
theorem TupsIn.length {l : List (Addr × Obj)} {vs : List Value} {cs : List (Str × Int)} (h : TupsIn l vs cs) : vs.length = cs.length := by
  induction h with
  | nil => rfl
  | cons _ _ ih => simp [ih]
theorem Ints.split : ∀ {a : List (Str × Value)} {x : Str × Value} {cs : List (Str × Int)}, Ints (a ++ [x]) cs → ∃ cs' y, cs = cs' ++ [y] ∧ Ints a cs' ∧ x.1 = y.1 ∧ ∃ t, x.2 = .int y.2 t
  | [], _, _, .cons h .nil => ⟨[], _, rfl, .nil, h.1, h.2⟩
  | _ :: _, _, _, .cons h hr => by
    obtain ⟨cs', y, e, h1, h2, h3⟩ := Ints.split hr
    exact ⟨_ :: cs', y, by rw [e]; rfl, .cons h h1, h2, h3⟩
theorem Tups.into {h : Heap} {lo : Addr} {as : List Addr} {kvs : List (Str × Value)} (T : Tups (PySem.strKind prog w) h lo as kvs) : ∀ {cs : List (Str × Int)}, Ints kvs cs → (hf : ∀ a o, lo ≤ a → h.get? a = some o → a ≠ L ∧ h₀.get? a = none) → ∃ l, News h₀ L h l ∧ TupsIn l (as.map .ref) cs ∧ ∀ p ∈ l, lo ≤ p.1 := by
  induction T with
  | nil => intro cs hi hf; cases hi; exact ⟨[], (fun _ hp => nomatch hp), .nil, (fun _ hp => nomatch hp)⟩
  | @snoc as kvs a k key v r hk ho hl ih =>
    intro cs hi hf
    obtain ⟨cs', y, rfl, h1, h2, t, h3⟩ := hi.split
    obtain ⟨l, N, hT, hlo⟩ := ih h1 hf
    obtain ⟨u, rfl⟩ := strKind_only hk
    obtain ⟨y1, y2⟩ := y
    dsimp only at h2 h3
    subst h2 h3
    refine ⟨(a, tup (.str k u) (.int y2 t)) :: l, fun p hp => ?_, ?_, fun p hp => ?_⟩
    · rcases List.mem_cons.mp hp with rfl | hp
      · exact ⟨ho, hf a _ hl ho⟩
      · exact N p hp
    · rw [List.map_append]
      exact (hT.sub fun p hp => .tail _ hp).append (.cons (.head _) .nil)
    · rcases List.mem_cons.mp hp with rfl | hp
      · exact hl
      · exact hlo p hp
theorem list_items_K {kvs : List (Str × Value)} {cs : List (Str × Int)} {Q : Value → Shared → Prop} (hh : A.handled = none) (F : Fr h₀ L s.heap m) (N : News h₀ L s.heap news) (hv : (r, iview y) ∈ news) (hm : MapIn prog w y news kvs) (hi : Ints kvs cs) (hn : kvs.length ≤ sizeLine)
    (h : ∀ S h' tk vs l n, TupsIn l vs cs → Fr h₀ L h' m → News h₀ L h' ((S, listOf vs.toArray n) :: (l ++ news)) → (∀ p ∈ news, p.1 < S) → (∀ p ∈ l, S ≤ p.1) → Q (.ref S) { s with heap := h', toks := tk }) :
    wpAny (model prog w) A (call (.type "list") [.ref r]) Q E s := by
  obtain ⟨od, es, n, hom, hod, D⟩ := hm.dis
  refine lst_call (kvs := kvs) hh (N _ hv).1 ⟨od, es, (N _ hom).1, hod, D⟩ hn fun h' tk acc c as hk hS hT hacc => ?_
  have F' : Fr h₀ L h' m := ⟨F.ns.at' fun o e => hk _ o e, fun b o e => hk b o (F.keep b o e), F.above⟩
  have hnew : ∀ a o, s.heap.objs.size ≤ a → h'.get? a = some o → a ≠ L ∧ h₀.get? a = none := fun a o hl _ => ⟨Nat.ne_of_gt (Nat.lt_of_lt_of_le F.ns.lt hl), Heap.get?_none_of_le (Nat.le_trans (Nat.le_of_lt (Nat.lt_of_le_of_lt F.above F.ns.lt)) hl)⟩
  obtain ⟨l, Nl, hTl, hlo⟩ := hT.into hi hnew
  have hac : acc = (as.map Value.ref).toArray := by rw [← hacc]
  subst hac
  refine h _ h' tk (as.map .ref) l c hTl F' (fun p hp => ?_) (fun p hp => Heap.lt_size (N p hp).1) hlo
  rcases List.mem_cons.mp hp with rfl | hp
  · exact ⟨hS, hnew _ _ (Nat.le_refl _) hS⟩
  · rcases List.mem_append.mp hp with hp | hp
    · exact Nl p hp
    · exact ⟨hk _ _ (N p hp).1, (N p hp).2⟩
end
end Mine
end
section
open PySem PySem.W PyProof.Rows PyProof.V PySem.Calls PySem.Spec Builtin Builtin.ObjectAttr
set_option Elab.async false
set_option maxRecDepth 100000
set_option maxHeartbeats 3000000
namespace Mine
/-- the names in the order of their first naming -/
def first1 (o : List Str) (p : Str × Int) : List Str := if p.1 ∈ o then o else o ++ [p.1]
def firsts (l : List (Str × Int)) : List Str := l.foldl first1 []
/-- what a ledger has for a name -/
def sumOf (k : Str) (l : List (Str × Int)) : Int := ((l.filter fun p => p.1 = k).map (·.2)).sum
def totals (l : List (Str × Int)) : List (Str × Int) := (firsts l).map fun k => (k, sumOf k l)
theorem sumOf_snoc (k : Str) (l : List (Str × Int)) (p : Str × Int) : sumOf k (l ++ [p]) = if p.1 = k then sumOf k l + p.2 else sumOf k l := by
  unfold sumOf
  rw [List.filter_append]
  by_cases h : p.1 = k
  · rw [if_pos h, List.filter_cons_of_pos (by simp [h]), List.filter_nil, List.map_append, List.sum_append]
    simp
  · rw [if_neg h, List.filter_cons_of_neg (by simp [h]), List.filter_nil, List.append_nil]
theorem firsts_snoc (l : List (Str × Int)) (p : Str × Int) : firsts (l ++ [p]) = first1 (firsts l) p := by
  unfold firsts
  rw [List.foldl_append]
  rfl
theorem mem_firsts : ∀ {l : List (Str × Int)} {p : Str × Int}, p ∈ l → p.1 ∈ firsts l := by
  intro l
  unfold firsts
  have gen : ∀ (l : List (Str × Int)) (o : List Str) (p : Str × Int), (p ∈ l ∨ p.1 ∈ o) → p.1 ∈ l.foldl first1 o := by
    intro l
    induction l with
    | nil => intro o p h; exact h.elim (fun h => nomatch h) id
    | cons q r ih =>
      intro o p h
      refine ih _ p ?_
      unfold first1
      rcases h with h | h
      · rcases List.mem_cons.mp h with rfl | h
        · right
          by_cases e : p.1 ∈ o
          · rw [if_pos e]; exact e
          · rw [if_neg e]; simp
        · exact .inl h
      · right
        by_cases e : q.1 ∈ o
        · rw [if_pos e]; exact h
        · rw [if_neg e]; simp [h]
  exact fun {p} h => gen _ _ _ (.inl h)
theorem sumOf_none {k : Str} {l : List (Str × Int)} (h : k ∉ firsts l) : sumOf k l = 0 := by
  unfold sumOf
  rw [List.filter_eq_nil_iff.mpr]
  · rfl
  · intro p hp e
    exact h (by have := mem_firsts hp; rw [of_decide_eq_true e] at this; exact this)
theorem find_map (f : Str → Int) (k : Str) : ∀ o : List Str, ((o.map fun a => (a, f a)).find? fun p => p.1 = k) = if k ∈ o then some (k, f k) else none
  | [] => rfl
  | a :: r => by
    rw [List.map_cons]
    by_cases h : a = k
    · subst h
      rw [List.find?_cons_of_pos (by simp), if_pos (.head _)]
    · rw [List.find?_cons_of_neg (by simpa using h), find_map f k r]
      have : k ∈ a :: r ↔ k ∈ r := by simp [Ne.symm h]
      simp only [this]
theorem gain_totals (l : List (Str × Int)) (p : Str × Int) : gain 1 (totals l) p = totals (l ++ [p]) := by
  unfold gain totals
  rw [firsts_snoc]
  have hl : look ((firsts l).map fun k => (k, sumOf k l)) p.1 = sumOf p.1 l := by
    unfold look
    rw [find_map]
    by_cases h : p.1 ∈ firsts l
    · rw [if_pos h]; rfl
    · rw [if_neg h, sumOf_none h]; rfl
  rw [hl, Int.one_mul]
  unfold put first1
  by_cases h : p.1 ∈ firsts l
  · rw [if_pos h, if_pos (by simpa using h), List.map_map]
    refine List.map_congr_left fun k _ => ?_
    show (if k = p.1 then (k, _) else (k, sumOf k l)) = (k, sumOf k (l ++ [p]))
    rw [sumOf_snoc]
    by_cases e : k = p.1
    · subst e; rw [if_pos rfl, if_pos rfl]
    · rw [if_neg e, if_neg (Ne.symm e)]
  · rw [if_neg h, if_neg (by simpa using h), List.map_append]
    have : (firsts l).map (fun k => (k, sumOf k (l ++ [p]))) = (firsts l).map fun k => (k, sumOf k l) := by
      refine List.map_congr_left fun k hk => ?_
      rw [sumOf_snoc, if_neg (fun e : p.1 = k => h (e ▸ hk))]
    rw [this]
    simp [sumOf_snoc]
theorem gains_totals : ∀ (r l : List (Str × Int)), gains 1 (totals l) r = totals (l ++ r)
  | [], l => by rw [List.append_nil]; rfl
  | p :: r, l => by
    show gains 1 (gain 1 (totals l) p) r = _
    rw [gain_totals, gains_totals r]
    simp
theorem gains_all (l : List (Str × Int)) : gains 1 [] l = totals l := gains_totals l []
theorem gains_sign (sg : Int) : ∀ (ps cs : List (Str × Int)), gains sg cs ps = gains 1 cs (ps.map fun p => (p.1, sg * p.2))
  | [], _ => rfl
  | p :: r, cs => by
    show gains sg (gain sg cs p) r = gains 1 (gain 1 cs (p.1, sg * p.2)) _
    rw [gains_sign sg r]
    congr 1
    unfold gain
    rw [Int.one_mul]
theorem gains_two (sg : Int) (cs ps qs : List (Str × Int)) : gains sg (gains sg cs ps) qs = gains 1 cs ((ps ++ qs).map fun p => (p.1, sg * p.2)) := by
  rw [← gains_sign]
  unfold gains
  rw [List.foldl_append]
theorem gains_step (sg : Int) (l ps qs : List (Str × Int)) : gains sg (gains sg (gains 1 [] l) ps) qs = gains 1 [] (l ++ (ps ++ qs).map fun p => (p.1, sg * p.2)) := by
  rw [gains_two]
  unfold gains
  rw [List.foldl_append]
theorem firsts_length (l : List (Str × Int)) : (firsts l).length ≤ l.length := by
  unfold firsts
  have gen : ∀ (l : List (Str × Int)) (o : List Str), (l.foldl first1 o).length ≤ o.length + l.length := by
    intro l
    induction l with
    | nil => intro o; exact Nat.le_refl _
    | cons q r ih =>
      intro o
      have := ih (first1 o q)
      have h2 : (first1 o q).length ≤ o.length + 1 := by
        unfold first1
        split <;> simp
      show (r.foldl first1 (first1 o q)).length ≤ _
      rw [List.length_cons]
      omega
  have := gen l []
  simpa using this
end Mine
end
section
open PySem PySem.W PyProof.Rows PyProof.V PySem.Calls PySem.Spec
set_option Elab.async false
set_option maxRecDepth 100000
set_option maxHeartbeats 3000000
namespace Mine
/-- what a test on the name leaves of the pairs -/
def selOf (k0 : Str) (cs : List (Str × Int)) : List Int := (cs.filter fun p => p.1 == k0).map (·.2)
section
variable {prog : Program} {w : World} {A : Around} {E : Value → Shared → Prop} {R : Result → Shared → Prop} {s : Shared}
/-- the turns of a comprehension whose target is a pattern, with one test -/
theorem loop_pt {elt ct iter : Expr} {elts : List Expr} {x1} {tp : Pos} {scope : Scope} {pos : Pos} {it acc : Value} {env : Env} (I : Nat → Shared → Prop)
    (turn : ∀ n s, I n s → wpAny (model prog w) A (pyNext it) (fun r s₁ => match r with
      | none => R (.ok .next) s₁
      | some v => wpAny (model prog w) A (letOwnedTupleGo (.Tuple elts x1 tp) it v) (fun _ s₁' => wpAny (model prog w) A (assign (.Tuple elts x1 tp) env v) (fun _ s₂ =>
          wpAny (model prog w) A (isTrue ct env (eval ct env)) (fun ok s₃ =>
            if ok = true then wpAny (model prog w) A (eval elt env) (fun x s₄ =>
              wpAny (model prog w) A (call (.builtin "list.append") [acc, x]) (fun _ s₅ => ∃ m, m < n ∧ I m s₅) (notedBy (model prog w) A env fun e s' => R (.error e) s') s₄) (notedBy (model prog w) A env fun e s' => R (.error e) s') s₃
            else ∃ m, m < n ∧ I m s₃) (notedBy (model prog w) A env fun e s' => R (.error e) s') s₂) (notedBy (model prog w) A env fun e s' => R (.error e) s') s₁') (notedBy (model prog w) A env fun e s' => R (.error e) s') s₁) (notedBy (model prog w) A env fun e s' => R (.error e) s') s)
    (n : Nat) (h : I n s) : codeAny (model prog w) A (.compLoop (.ListComp elt [⟨.Tuple elts x1 tp, iter, [ct], 0⟩] scope pos) 0 it acc env) R s := by
  refine codeAny_loop rfl I (fun n s hI => ?_) n h
  show wpAny _ A ((compTurn (.ListComp elt [⟨.Tuple elts x1 tp, iter, [ct], 0⟩] scope pos) 0 it acc env).onRaise (fun x => do noteFrame x env; theTreesLotGoes x)) _ _ s
  refine wpAny_noted ?_
  rw [compTurn_list]
  refine wpAny_bind (wpAny_standAt (wpAny_bind (wpAny_mono (turn n s hI) (fun r s₁ h₁ => ?_) fun _ _ e => e)))
  cases r with
  | none => exact wpAny_pure h₁
  | some v =>
    refine wpAny_bind (wpAny_mono h₁ (fun _ s₁' h₁' => ?_) fun _ _ e => e)
    refine wpAny_bind (wpAny_mono h₁' (fun _ s₂ h₂ => wpAny_bind (wpAny_mono (wpAny_tests_one h₂) (fun ok s₃ h₃ => ?_) fun _ _ e => e)) fun _ _ e => e)
    cases ok with
    | false => exact wpAny_pure ⟨rfl, h₃⟩
    | true => exact wpAny_bind (wpAny_bind (wpAny_mono h₃ (fun x s₄ h₄ => wpAny_bind (wpAny_mono h₄ (fun _ s₅ h₅ => wpAny_pure (wpAny_pure ⟨rfl, h₅⟩)) fun _ _ e => e)) fun _ _ e => e))
end
/-- the state of the loop of such a comprehension -/
inductive PSt (s : Shared) (I D C lA : Addr) (vs : List Value) (cs : List (Str × Int)) (k0 : Str) : Nat → Shared → Prop
  | mk (h' : Heap) (tk i : Nat) (ys : List Value) (m' : Str → Option Value) (hi : i ≤ vs.length) (hyl : ys.length ≤ i) (hit : h'.IsListIter I lA i) (hls : h'.IsList lA vs.toArray) (hns : h'.Ns C m')
      (hD : h'.get? D = some { cls := .type "list", data := .seq ys.toArray ys.length }) (old : ∀ b o, s.heap.get? b = some o → h'.get? b = some o) (hint : IntsAre ys (selOf k0 (cs.take i))) : PSt s I D C lA vs cs k0 (vs.length + 1 - i) { s with heap := h', toks := tk }
section
variable {prog : Program} {w : World} {A : Around} {E : Value → Shared → Prop} {s : Shared} {env : Env}
/-- [n for name, n in pairs if name == key] -/
theorem comp_sel {x x₂ key : Str} {px px₂ tp pe pc pk cp : Pos} {tk : Nat} {iter : Expr} {scope : Scope} {cl : List (Str × Addr)} {pos : Pos} {Q : Value → Shared → Prop} {lA : Addr} {vs : List Value} {cs : List (Str × Int)} {k0 : Str} {t0 : Tok}
    (hh : A.handled = none) (hclos : closureFor scope env = pure cl) (hcell : ∀ y ∈ scope.names, y.2 ≠ .cell) (hkind : scope.kind = .function)
    (hnames : ∀ y ∈ scope.names, y.2 = .local → scope.names.lookup y.1 = some .local) (hx : scope.names.lookup x = some .local) (hx₂ : scope.names.lookup x₂ = some .local) (hxx : x ≠ x₂)
    (hdx : (x == ("__debug__" : Str)) = false) (hdx₂ : (x₂ == ("__debug__" : Str)) = false)
    (hl : s.heap.IsList lA vs.toArray) (hn : vs.length ≤ sizeLine)
    (ht : ∀ (i : Nat) (v : Value), vs[i]? = some v → ∃ (a : Addr) (k : Str) (c : Int) (t u : Tok), v = .ref a ∧ IsTup s.heap a #[.str k t, .int c u] ∧ cs[i]? = some (k, c))
    (hiter : ∀ (Q : Value → Shared → Prop) (E : Value → Shared → Prop), Q (.ref lA) s → wpAny (model prog w) A (eval iter env) Q E s)
    (hkey : ∀ C (s' : Shared) (Q : Value → Shared → Prop) (E : Value → Shared → Prop), (∀ b o, s.heap.get? b = some o → s'.heap.get? b = some o) → Q (.str k0 t0) s' → wpAny (model prog w) A (eval (.Name key pk) (compEnvC scope cl C env)) Q E s')
    (h : ∀ D h' tk ys, IntsAre ys (selOf k0 (cs.take vs.length)) → ys.length ≤ vs.length → (∀ b o, s.heap.get? b = some o → h'.get? b = some o) → h'.get? D = some { cls := .type "list", data := .seq ys.toArray ys.length } → s.heap.get? D = none → s.heap.objs.size ≤ D → Q (.ref D) { s with heap := h', toks := tk })
    (hs : ∀ x, foldedSetIterable iter env x = pure x := by intro _; rfl) :
    wpAny (model prog w) A (eval (.ListComp (.Name x₂ pe) [⟨.Tuple [.Name x px, .Name x₂ px₂] tk tp, iter, [.Compare (.Name x pc) [.Eq] [.Name key pk] cp], 0⟩] scope pos) env) Q E s := by
  have hpl : ∀ C : Addr, ((compEnvC scope cl C env).scope.kind == .class || ((compEnvC scope cl C env).scope.kind == .module && (compEnvC scope cl C env).locals != (compEnvC scope cl C env).globals)) = false := fun C => by
    show (scope.kind == .class || (scope.kind == .module && _)) = false
    rw [hkind]; rfl
  rw [eval_ListComp]
  refine wpAny_comprehension_free (use := none) rfl hs hclos hkind hnames (hiter _ _ ?_)
  have hlt : lA < s.heap.objs.size := by obtain ⟨_, e, _⟩ := hl; exact Heap.lt_size e
  refine wpAny_pyIter_list hl ?_
  have up : ∀ b o, s.heap.get? b = some o → (s.heap.push { cls := .type "list_iterator", data := .fields #[.ref lA, .int 0 0] }).get? b = some o := fun b o e => Heap.get?_push_of_some _ e
  have hI : (s.heap.push { cls := .type "list_iterator", data := .fields #[.ref lA, .int 0 0] }).get? s.heap.objs.size = some { cls := .type "list_iterator", data := .fields #[.ref lA, .int 0 0] } := Heap.get?_push_size _ rfl
  have hz1 : (s.heap.push { cls := .type "list_iterator", data := .fields #[.ref lA, .int 0 0] }).objs.size = s.heap.objs.size + 1 := Heap.size_push ..
  have hst0 : (s.heap.push { cls := .type "list_iterator", data := .fields #[.ref lA, .int 0 0] }).IsListIter s.heap.objs.size lA 0 := ⟨_, hI, rfl, rfl⟩
  have W := Walks.list (prog := prog) (w := w) hh s.heap.objs.size lA (Nat.ne_of_lt hlt) vs.toArray
  have hl1 := hl.push { cls := .type "list_iterator", data := .fields #[.ref lA, .int 0 0] }
  generalize hI0 : s.heap.objs.size = I at hI hz1 hst0 W
  generalize hh1 : s.heap.push { cls := .type "list_iterator", data := .fields #[.ref lA, .int 0 0] } = h1 at up hI hz1 hst0 hl1
  refine wpAny_newObj_type (wpAny_newFunctionEnv hcell (by intro y hy; simp at hy) (fun h₂ hns₂ hsb₂ => ?_) hkind)
  dsimp only at hns₂ hsb₂ ⊢
  generalize hH2 : h1.push { cls := .type "list", dict := none, data := .seq ([] : List Value).toArray } = H2 at hns₂ hsb₂ ⊢
  have hC : H2.objs.size = I + 2 := by rw [← hH2, Heap.size_push, hz1]
  have hDs : h1.objs.size = I + 1 := hz1
  have hacc2 : H2.get? h1.objs.size = some { cls := .type "list", dict := none, data := .seq ([] : List Value).toArray } := by rw [← hH2]; exact Heap.get?_push_size _ rfl
  have old2 : ∀ b o, h1.get? b = some o → h₂.get? b = some o := fun b o e => hsb₂.extBut b o (by rw [hC]; have := Heap.lt_size e; rw [hz1] at this; exact Nat.ne_of_lt (Nat.lt_succ_of_lt this)) (Heap.get?_push_of_some _ (hH2 ▸ Heap.get?_push_of_some _ e))
  have hD2 : h₂.get? h1.objs.size = some { cls := .type "list", data := .seq ([] : List Value).toArray } := hsb₂.extBut _ _ (by rw [hC, hDs]; exact Nat.ne_of_lt (Nat.lt_succ_self _)) (Heap.get?_push_of_some _ hacc2)
  generalize hD : h1.objs.size = D at hD2 hDs ⊢
  generalize hCe : H2.objs.size = C at hns₂ hsb₂ hC ⊢
  have hstl : h₂.IsListIter I lA 0 ∧ h₂.IsList lA vs.toArray := ⟨hst0.at fun o e => old2 _ o e, hl1.at fun o e => old2 _ o e⟩
  have loop : ∀ s₃ : Shared, s₃ = { s with heap := h₂, toks := s.toks + ([] : List (Str × Value)).length } →
      codeAny (model prog w) A (.compLoop (.ListComp (.Name x₂ pe) [⟨.Tuple [.Name x px, .Name x₂ px₂] tk tp, iter, [.Compare (.Name x pc) [.Eq] [.Name key pk] cp], 0⟩] scope pos) 0 (.ref I) (.ref D) (compEnvC scope cl C env)) (compPost (model prog w) A E none Q (.ref D) C) s₃ := by
    rintro s₃ rfl
    refine loop_pt (PSt s I D C lA vs cs k0) ?_ (vs.length + 1) (PSt.mk h₂ _ 0 [] _ (Nat.zero_le _) (Nat.le_refl _) hstl.1 hstl.2 hns₂ hD2 (fun b o e => old2 b o (up b o e)) .nil)
    rintro k s' ⟨h', tk, i, ys, m', hi, hyl, hst1, hst2, hn', hD', hold, hint⟩
    have hst' : h'.IsListIter I lA i ∧ h'.IsList lA vs.toArray := ⟨hst1, hst2⟩
    by_cases hlt : i < vs.length
    · refine W.item i _ _ _ (by simpa using hlt) hst' fun v h₃ tk₃ hPv hst₃ hk₃ => ?_
      obtain ⟨a, k, c, t, u, rfl, hta, hca⟩ := ht i v (by simpa using hPv)
      have hIlt : ∀ b o, s.heap.get? b = some o → b < I := fun b o e => hI0 ▸ Heap.lt_size e
      have old3 : ∀ b o, s.heap.get? b = some o → h₃.get? b = some o := fun b o e => hk₃ b o (by simpa using Nat.ne_of_lt (hIlt b o e)) (hold b o e)
      have hta3 : IsTup h₃ a #[.str k t, .int c u] := by obtain ⟨o, e, r⟩ := hta; exact ⟨o, old3 _ _ e, r⟩
      refine wpAny_letOwnedTupleGo_listiter hst₃.1 ?_
      refine assign_Tuple_tuple hh hta3 rfl rfl fun h₅ he => ?_
      have he' : ∀ b o, h₃.get? b = some o → h₅.get? b = some o := fun b o e => he b o (Nat.ne_of_lt (Heap.lt_size e)) e
      have hCI : C ≠ I := by rw [hC]; exact Nat.ne_of_gt (Nat.lt_succ_of_lt (Nat.lt_succ_self _))
      have hDI : D ≠ I := by rw [hDs]; exact Nat.ne_of_gt (Nat.lt_succ_self _)
      have hDC : D ≠ C := by rw [hDs, hC]; exact Nat.ne_of_lt (Nat.lt_succ_self _)
      refine assignInOrder_cons (wpAny_assign_Name (wpAny_storeName_local (lookup_relabel_local hx) ((hn'.at' fun o e => hk₃ _ o (by simpa using hCI) e).at' fun o e => he' _ o e) (fun h₆ hn₆ hs₆ => ?_) (hpl C)))
      refine assignInOrder_cons (wpAny_assign_Name (wpAny_storeName_local (lookup_relabel_local hx₂) hn₆ (fun h₇ hn₇ hs₇ => ?_) (hpl C)))
      refine assignInOrder_nil ?_
      have old37 : ∀ b o, b ≠ C → h₃.get? b = some o → h₇.get? b = some o := fun b o hb e => hs₇.extBut b o hb (hs₆.extBut b o hb (he' b o e))
      have old7 : ∀ b o, s.heap.get? b = some o → h₇.get? b = some o := fun b o e => old37 b o (by rw [hC]; exact Nat.ne_of_lt (Nat.lt_succ_of_lt (Nat.lt_succ_of_lt (hIlt b o e)))) (old3 b o e)
      have hst7 : h₇.IsListIter I lA (i + 1) ∧ h₇.IsList lA vs.toArray := ⟨hst₃.1.at fun o e => old37 _ o (Ne.symm hCI) e, hl.at fun o e => old7 _ o e⟩
      have hD7 : h₇.get? D = some { cls := .type "list", data := .seq ys.toArray ys.length } := old37 _ _ hDC (hk₃ _ _ (by simpa using hDI) hD')
      have hsel : selOf k0 (cs.take (i + 1)) = selOf k0 (cs.take i) ++ if (k == k0) = true then [c] else [] := by
        unfold selOf
        rw [List.take_add_one, hca, List.filter_append, List.map_append]
        by_cases e : (k == k0) = true
        · simp [e]
        · simp [e]
      refine wpAny_isTrue_Compare1 ?_
      refine wpAny_Name (wpAny_loadName_local (env := compEnvC scope cl C env) hkind (lookup_relabel_local hx) hn₇ (by rw [if_neg hxx, if_pos rfl]) ?_) hdx
      refine hkey C _ _ _ old7 ?_
      refine eq_str ?_
      refine wpAny_truthy_bool ?_
      by_cases e : (k == k0) = true
      · rw [if_pos e]
        rw [if_pos e] at hsel
        refine wpAny_Name (wpAny_loadName_local (env := compEnvC scope cl C env) hkind (lookup_relabel_local hx₂) hn₇ (by rw [if_pos rfl]) ?_) hdx₂
        refine append_at (hsz := by simp; omega) hD7 fun h₈ hs₈ hD₈ => ?_
        refine ⟨vs.length + 1 - (i + 1), by omega, PSt.mk h₈ _ (i + 1) (ys ++ [.int c u]) _ hlt (by rw [List.length_append]; exact Nat.succ_le_succ hyl) (hst7.1.at fun o e => hs₈.extBut _ o (Ne.symm hDI) e) (hst7.2.at fun o e => hs₈.extBut _ o ?_ e) (hn₇.sameBut hs₈ (Ne.symm hDC)) ?_ (fun b o e => hs₈.extBut b o ?_ (old7 b o e)) ?_⟩
        · rw [hDs]; exact Nat.ne_of_lt (Nat.lt_succ_of_lt (hIlt lA _ hl.choose_spec.1))
        · rw [hD₈]; simp
        · rw [hDs]; exact Nat.ne_of_lt (Nat.lt_succ_of_lt (hIlt b o e))
        · rw [hsel]
          exact IntsAre.append hint (.cons c u .nil)
      · rw [if_neg e]
        rw [if_neg e, List.append_nil] at hsel
        exact ⟨vs.length + 1 - (i + 1), by omega, PSt.mk h₇ _ (i + 1) ys _ hlt (Nat.le_succ_of_le hyl) hst7.1 hst7.2 hn₇ hD7 old7 (by rw [hsel]; exact hint)⟩
    · obtain rfl : i = vs.length := by omega
      refine W.done _ _ _ (by simpa using hst') fun h₃ tk₃ hk₃ => ?_
      have hCI : C ≠ I := by rw [hC]; exact Nat.ne_of_gt (Nat.lt_succ_of_lt (Nat.lt_succ_self _))
      have hDI : D ≠ I := by rw [hDs]; exact Nat.ne_of_gt (Nat.lt_succ_self _)
      have hDC : D ≠ C := by rw [hDs, hC]; exact Nat.ne_of_lt (Nat.lt_succ_self _)
      have hIlt : ∀ b o, s.heap.get? b = some o → b < I := fun b o e => hI0 ▸ Heap.lt_size e
      refine ⟨_, hn'.at' fun o e => hk₃ _ o (by simpa using hCI) e, fun h₄ hs₄ => ?_⟩
      refine h D h₄ tk₃ ys hint hyl (fun b o e => ?_) (hs₄.extBut _ _ hDC (hk₃ _ _ (by simpa using hDI) hD')) ?_ (by rw [hI0, hDs]; exact Nat.le_succ _)
      · have hb := hIlt b o e
        exact hs₄.extBut b o (by rw [hC]; exact Nat.ne_of_lt (Nat.lt_succ_of_lt (Nat.lt_succ_of_lt hb))) (hk₃ b o (by simpa using Nat.ne_of_lt hb) (hold b o e))
      · exact Heap.get?_none_of_le (by rw [hI0, hDs]; exact Nat.le_succ _)
  exact codeAny_compStart_list (loop _ rfl) (W.self 0 _ _ _ hstl (loop _ rfl))
end
end Mine
end
section
open PySem PySem.W PyProof.Rows PyProof.V PySem.Calls PySem.Spec
set_option Elab.async false
set_option maxRecDepth 100000
set_option maxHeartbeats 3000000
namespace Mine
/-- the state of the loop of such a comprehension -/
inductive KSt (J : Nat → List Value → List (Addr × Obj) → Prop) (h₀ : Heap) (L : Addr) (m : Str → Option Value) (s : Shared) (I ax : Addr) (n : Nat) : Nat → Shared → Prop
  | mk (h' : Heap) (tk i : Nat) (ys : List Value) (nws : List (Addr × Obj)) (oI oC oK : Obj) (v0 : Option Value) (m' : Str → Option Value) (hi : i ≤ n) (hy : ys.length = i) (F : Fr h₀ L h' m)
      (N : News h₀ L h' (((I + 3 : Nat), oK) :: (I, oI) :: ((I + 2 : Nat), oC) :: ((I + 1 : Nat), ({ cls := .type "list", data := .seq ys.toArray ys.length } : Obj)) :: nws)) (hdK : oK.data = .cell v0) (hit : h'.IsListIter I ax i)
      (off : ∀ p ∈ nws, p.1 ≠ (I + 3 : Nat) ∧ p.1 ≠ I ∧ p.1 ≠ (I + 2 : Nat) ∧ p.1 ≠ (I + 1 : Nat)) (hJ : J i ys nws) (hns : h'.Ns (I + 2 : Nat) m') : KSt J h₀ L m s I ax n (n + 1 - i) { s with heap := h', toks := tk }
section
variable {prog : Program} {w : World} {A : Around} {E : Value → Shared → Prop} {s : Shared} {env : Env}
/-- a comprehension over a list, whose name lies in a cell -/
theorem comp_key {h₀ : Heap} {L : Addr} {m : Str → Option Value} {elt iter : Expr} {a x b c : Str} {px : Pos} {scope : Scope} {cl : List (Str × Addr)} {pos : Pos} {Q : Value → Shared → Prop} {ax : Addr} {oax : Obj} {vs : List Value} {nax : Nat} {news : List (Addr × Obj)} (J : Nat → List Value → List (Addr × Obj) → Prop)
    (hh : A.handled = none) (F : Fr h₀ L s.heap m) (N : News h₀ L s.heap news) (hclos : closureFor scope env = pure cl) (hkind : scope.kind = .function) (hnm : scope.names = [(a, .local), (x, .cell), (b, .globalImplicit), (c, .free)])
    (hnames : ∀ y ∈ scope.names, y.2 = .local → scope.names.lookup y.1 = some .local) (hxk : ∀ C cl', (compEnvC scope cl' C env).kindOf x = some .cell)
    (hm : (ax, oax) ∈ news) (hoc : oax.cls = .type "list") (hod : oax.data = .seq vs.toArray nax) (hn : vs.length ≤ sizeLine)
    (hiter : ∀ (Q : Value → Shared → Prop) (E : Value → Shared → Prop), Q (.ref ax) s → wpAny (model prog w) A (eval iter env) Q E s)
    (hj0 : J 0 [] news) (hjm : ∀ i ys nws, J i ys nws → (ax, oax) ∈ nws)
    (el : ∀ i v ys nws I oI C oC D Kc oK h tk (E' : Value → Shared → Prop), vs[i]? = some v → J i ys nws → ys.length = i → Fr h₀ L h m → News h₀ L h ((Kc, oK) :: (I, oI) :: (C, oC) :: (D, ({ cls := .type "list", data := .seq ys.toArray ys.length } : Obj)) :: nws) → oK.data = .cell (some v) → (∀ p ∈ nws, p.1 ≠ Kc ∧ p.1 ≠ I ∧ p.1 ≠ C ∧ p.1 ≠ D) →
      wpAny (model prog w) A (eval elt (compEnvC scope ((x, Kc) :: cl) C env)) (fun y s' => ∃ h' tk' nws', s' = { s with heap := h', toks := tk' } ∧ Fr h₀ L h' m ∧ News h₀ L h' ((Kc, oK) :: (I, oI) :: (C, oC) :: (D, ({ cls := .type "list", data := .seq ys.toArray ys.length } : Obj)) :: nws') ∧ (∀ p ∈ nws', p.1 ≠ Kc ∧ p.1 ≠ I ∧ p.1 ≠ C ∧ p.1 ≠ D) ∧ J (i + 1) (ys ++ [y]) nws') E' { s with heap := h, toks := tk })
    (fin : ∀ D h' tk ys nws, J vs.length ys nws → Fr h₀ L h' m → News h₀ L h' ((D, ({ cls := .type "list", data := .seq ys.toArray ys.length } : Obj)) :: nws) → (∀ p ∈ nws, p.1 ≠ D) → Q (.ref D) { s with heap := h', toks := tk })
    (hs : ∀ x, foldedSetIterable iter env x = pure x := by intro _; rfl) :
    wpAny (model prog w) A (eval (.ListComp elt [⟨.Name x px, iter, [], 0⟩] scope pos) env) Q E s := by
  rw [eval_ListComp]
  refine wpAny_comprehension_free (use := none) rfl hs hclos hkind hnames (hiter _ _ ?_)
  have hl : s.heap.IsList ax vs.toArray := ⟨oax, (N _ hm).1, hoc, nax, hod⟩
  have hlt : ax < s.heap.objs.size := Heap.lt_size (N _ hm).1
  refine wpAny_pyIter_list hl ?_
  have F1 := F.push { cls := .type "list_iterator", data := .fields #[.ref ax, .int 0 0] }
  have N1 := N.push F { cls := .type "list_iterator", data := .fields #[.ref ax, .int 0 0] }
  have hlow : ∀ p ∈ news, p.1 < s.heap.objs.size := fun p hp => Heap.lt_size (N p hp).1
  have hz1 : (s.heap.push { cls := .type "list_iterator", data := .fields #[.ref ax, .int 0 0] }).objs.size = s.heap.objs.size + 1 := Heap.size_push ..
  have W := Walks.list (prog := prog) (w := w) hh s.heap.objs.size ax (Nat.ne_of_lt hlt) vs.toArray
  generalize hI0 : s.heap.objs.size = I at hz1 W N1 hlow
  generalize s.heap.push { cls := .type "list_iterator", data := .fields #[.ref ax, .int 0 0] } = h1 at hz1 F1 N1
  refine wpAny_newObj_type ?_
  have F2 := F1.push { cls := .type "list", data := .seq ([] : List Value).toArray }
  have N2 := N1.push F1 { cls := .type "list", data := .seq ([] : List Value).toArray }
  have hz2 : (h1.push { cls := .type "list", data := .seq ([] : List Value).toArray }).objs.size = I + 2 := by rw [Heap.size_push, hz1]
  dsimp only
  rw [hz1] at N2 ⊢
  generalize h1.push { cls := .type "list", data := .seq ([] : List Value).toArray } = h2 at hz2 F2 N2
  simp only [newFunctionEnv, Option.isSome_some, if_true]
  refine wpAny_bind (wpAny_alloc ?_)
  have hns := Heap.Ns.new h2 (.type "dict")
  have F3 := F2.push { cls := .type "dict", data := .dict #[] }
  have N3 := N2.push F2 { cls := .type "dict", data := .dict #[] }
  have hz3 : (h2.push { cls := .type "dict", data := .dict #[] }).objs.size = I + 3 := by rw [Heap.size_push, hz2]
  dsimp only
  rw [hz2] at N3 hns ⊢
  generalize h2.push { cls := .type "dict", data := .dict #[] } = h3 at hz3 F3 N3 hns
  have step : ∀ {Q : List (Str × Addr) → Shared → Prop} {E : Value → Shared → Prop} {s' : Shared}, Q ((x, s'.heap.objs.size) :: cl) { s' with heap := s'.heap.push { cls := .type "cell", data := .cell none } } →
      wpAny (model prog w) A (forIn scope.names cl fun q r => if (q.2 == NameKind.cell) = true then do let c ← alloc { cls := .type "cell", data := .cell none }; pure (ForInStep.yield ((q.1, c) :: r)) else pure (ForInStep.yield r)) Q E s' := by
    intro Q E s' hq
    rw [hnm]
    simp only [List.forIn_cons, List.forIn_nil]
    refine wpAny_bind (wpAny_pure ?_)
    refine wpAny_bind (wpAny_bind (wpAny_alloc (wpAny_pure ?_)))
    refine wpAny_bind (wpAny_pure ?_)
    refine wpAny_bind (wpAny_pure ?_)
    exact wpAny_pure hq
  refine wpAny_bind ?_
  refine wpAny_mono (Q := fun r s'' => r = (x, I + 3) :: cl ∧ s'' = { s with heap := h3.push { cls := .type "cell", data := .cell none } }) (step ?_) ?_ (fun _ _ e => e)
  · exact ⟨by rw [hz3], rfl⟩
  rintro _ _ ⟨rfl, rfl⟩
  have F4 := F3.push { cls := .type "cell", data := .cell none }
  have N4 := N3.push F3 { cls := .type "cell", data := .cell none }
  have hns4 : (h3.push { cls := .type "cell", data := .cell none }).Ns (I + 2) (fun _ => none) := hns.keeps fun b o e => Heap.get?_push_of_some _ e
  rw [hz3] at N4
  generalize h3.push { cls := .type "cell", data := .cell none } = h4 at F4 N4 hns4
  simp only [List.forIn_nil]
  refine wpAny_bind (wpAny_pure ?_)
  refine wpAny_pure ?_
  have hIne : ∀ {j k : Nat}, j ≠ k → @Ne Nat (I + j) (I + k) := fun h e => h (Nat.add_left_cancel e)
  have hI12 : @Ne Nat (I + 1) (I + 2) := hIne (by decide)
  have hI13 : @Ne Nat (I + 1) (I + 3) := hIne (by decide)
  have hI23 : @Ne Nat (I + 2) (I + 3) := hIne (by decide)
  have hI01 : @Ne Nat I (I + 1) := Nat.ne_of_lt (Nat.lt_succ_self _)
  have hI02 : @Ne Nat I (I + 2) := Nat.ne_of_lt (Nat.lt_succ_of_lt (Nat.lt_succ_self _))
  have hI03 : @Ne Nat I (I + 3) := Nat.ne_of_lt (Nat.lt_succ_of_lt (Nat.lt_succ_of_lt (Nat.lt_succ_self _)))
  have loop : ∀ s₃ : Shared, s₃ = { s with heap := h4 } →
      codeAny (model prog w) A (.compLoop (.ListComp elt [⟨.Name x px, iter, [], 0⟩] scope pos) 0 (.ref I) (.ref (I + 1 : Nat)) (compEnvC scope ((x, (I + 3 : Nat)) :: cl) (I + 2 : Nat) env)) (compPost (model prog w) A E none Q (.ref (I + 1 : Nat)) (I + 2 : Nat)) s₃ := by
    rintro s₃ rfl
    refine codeAny_compLoop_tests (KSt J h₀ L m s I ax vs.length) ?_ (vs.length + 1)
      (KSt.mk h4 s.toks 0 [] news { cls := .type "list_iterator", data := .fields #[.ref ax, .int 0 0] } { cls := .type "dict", data := .dict #[] } { cls := .type "cell", data := .cell none } none _ (Nat.zero_le _) rfl F4 (fun p hp => N4 p ?_) rfl ⟨_, (N4 (I, { cls := .type "list_iterator", data := .fields #[.ref ax, .int 0 0] }) (.tail _ (.tail _ (.tail _ (.head _))))).1, rfl, rfl⟩ (fun p hp => ?_) hj0 hns4)
    · rintro k s' ⟨h', tk, i, ys, nws, oI, oC, oK, v0, m', hi, hyl, F', N', hdK, hit, off, hJ, hns'⟩
      have hmax := hjm i ys nws hJ
      have hlist : h'.IsList ax vs.toArray := ⟨oax, (N' (ax, oax) (.tail _ (.tail _ (.tail _ (.tail _ hmax))))).1, hoc, nax, hod⟩
      have zI := N' (I, oI) (.tail _ (.head _))
      have zK := N' ((I + 3 : Nat), oK) (.head _)
      have zC := N' ((I + 2 : Nat), oC) (.tail _ (.tail _ (.head _)))
      have zD := N' ((I + 1 : Nat), { cls := .type "list", data := .seq ys.toArray ys.length }) (by k_mem)
      by_cases hlt : i < vs.length
      · refine W.item i _ _ _ (by simpa using hlt) ⟨hit, hlist⟩ fun v h₅ tk₅ hPv hst₅ hk₅ => ?_
        have hPv' : vs[i]? = some v := by simpa using hPv
        obtain ⟨oI', heI, hoI'⟩ := hst₅.1
        have keep5 : ∀ b o, b ≠ I → h'.get? b = some o → h₅.get? b = some o := fun b o hb e => hk₅ b o (by simpa using hb) e
        have F₅ : Fr h₀ L h₅ m := LCg.fr_but F' hk₅ (Ne.symm zI.2.1) zI.2.2
        have zK5 := keep5 _ _ (Ne.symm hI03) zK.1
        refine wpAny_assign_Name (wpAny_storeName_cell hkind (hxk _ _) (by simp [compEnvC]) ⟨oK, zK5, hdK⟩ (fun h₆ hc₆ hs₆ => ?_))
        obtain ⟨oK', heK, hdK'⟩ := hc₆
        have keep6 : ∀ b o, b ≠ (I + 3 : Nat) → h₅.get? b = some o → h₆.get? b = some o := fun b o hb e => (hs₆.2 b hb).trans e
        refine wpAny_tests_nil ?_
        simp only [if_true]
        have F₆ : Fr h₀ L h₆ m := F₅.change hs₆ zK.2.1 zK.2.2
        have N₆ : News h₀ L h₆ (((I + 3 : Nat), oK') :: (I, oI') :: ((I + 2 : Nat), oC) :: ((I + 1 : Nat), ({ cls := .type "list", data := .seq ys.toArray ys.length } : Obj)) :: nws) := by
          intro p hp
          rcases List.mem_cons.mp hp with rfl | hp
          · exact ⟨heK, zK.2⟩
          rcases List.mem_cons.mp hp with rfl | hp
          · exact ⟨keep6 _ _ hI03 heI, zI.2⟩
          rcases List.mem_cons.mp hp with rfl | hp
          · exact ⟨keep6 _ _ hI23 (keep5 _ _ (Ne.symm hI02) zC.1), zC.2⟩
          rcases List.mem_cons.mp hp with rfl | hp
          · exact ⟨keep6 _ _ hI13 (keep5 _ _ (Ne.symm hI01) zD.1), zD.2⟩
          · have z := N' p (.tail _ (.tail _ (.tail _ (.tail _ hp))))
            exact ⟨keep6 _ _ (off p hp).1 (keep5 _ _ (off p hp).2.1 z.1), z.2⟩
        refine wpAny_mono (el i v ys nws I oI' (I + 2 : Nat) oC (I + 1 : Nat) (I + 3 : Nat) oK' h₆ _ _ hPv' hJ hyl F₆ N₆ hdK' off) (fun y s₇ ⟨h₇, tk₇, nws', e7, F₇, N₇, off₇, hJ₇⟩ => ?_) fun _ _ e => e
        subst e7
        have zI7 := N₇ (I, oI') (by k_mem)
        have zD7 := N₇ ((I + 1 : Nat), { cls := .type "list", data := .seq ys.toArray ys.length }) (by k_mem)
        have zC7 := N₇ ((I + 2 : Nat), oC) (by k_mem)
        refine append_at (hsz := by simp; omega) zD7.1 fun h₈ hs₈ hD₈ => ?_
        refine ⟨vs.length + 1 - (i + 1), by omega, KSt.mk h₈ tk₇ (i + 1) (ys ++ [y]) nws' oI' oC oK' (some v) m' hlt (by rw [List.length_append, hyl]; rfl) (F₇.change hs₈ zD7.2.1 zD7.2.2) (fun p hp => ?_) hdK' ⟨oI', (hs₈.2 _ hI01).trans zI7.1, hoI'⟩ off₇ hJ₇ ?_⟩
        · rcases List.mem_cons.mp hp with rfl | hp
          · have z := N₇ ((I + 3 : Nat), oK') (by k_mem)
            exact ⟨(hs₈.2 _ (Ne.symm hI13)).trans z.1, z.2⟩
          rcases List.mem_cons.mp hp with rfl | hp
          · exact ⟨(hs₈.2 _ hI01).trans zI7.1, zI7.2⟩
          rcases List.mem_cons.mp hp with rfl | hp
          · exact ⟨(hs₈.2 _ (Ne.symm hI12)).trans zC7.1, zC7.2⟩
          rcases List.mem_cons.mp hp with rfl | hp
          · refine ⟨?_, zD7.2⟩
            rw [hD₈]
            simp
          · have z := N₇ p (.tail _ (.tail _ (.tail _ (.tail _ hp))))
            exact ⟨(hs₈.2 _ (off₇ p hp).2.2.2).trans z.1, z.2⟩
        · obtain ⟨o, es, ep, e1, e2⟩ := hns'
          rw [zC.1] at e1
          cases e1
          exact ⟨oC, es, ep, (hs₈.2 _ (Ne.symm hI12)).trans zC7.1, e2⟩
      · obtain rfl : i = vs.length := by omega
        refine W.done _ _ _ (by simpa using ⟨hit, hlist⟩) fun h₅ tk₅ hk₅ => ?_
        have keep5 : ∀ b o, b ≠ I → h'.get? b = some o → h₅.get? b = some o := fun b o hb e => hk₅ b o (by simpa using hb) e
        have F₅ : Fr h₀ L h₅ m := LCg.fr_but F' hk₅ (Ne.symm zI.2.1) zI.2.2
        refine ⟨_, hns'.at' fun o e => keep5 _ o (Ne.symm hI02) e, fun h₆ hs₆ => ?_⟩
        refine fin (I + 1 : Nat) h₆ tk₅ ys nws hJ (F₅.change hs₆ zC.2.1 zC.2.2) (fun p hp => ?_) fun p hp => (off p hp).2.2.2
        rcases List.mem_cons.mp hp with rfl | hp
        · exact ⟨(hs₆.2 _ hI12).trans (keep5 _ _ (Ne.symm hI01) zD.1), zD.2⟩
        · have z := N' p (.tail _ (.tail _ (.tail _ (.tail _ hp))))
          exact ⟨(hs₆.2 _ (off p hp).2.2.1).trans (keep5 _ _ (off p hp).2.1 z.1), z.2⟩
    · simp only [List.mem_cons] at hp ⊢
      rcases hp with h | h | h | h | h <;> simp [h]
    · have := hlow p hp
      exact ⟨Nat.ne_of_lt (Nat.lt_succ_of_lt (Nat.lt_succ_of_lt (Nat.lt_succ_of_lt this))), Nat.ne_of_lt this, Nat.ne_of_lt (Nat.lt_succ_of_lt (Nat.lt_succ_of_lt this)), Nat.ne_of_lt (Nat.lt_succ_of_lt this)⟩
  have hl4 : h4.IsListIter I ax 0 ∧ h4.IsList ax vs.toArray := ⟨⟨_, (N4 (I, { cls := .type "list_iterator", data := .fields #[.ref ax, .int 0 0] }) (by k_mem)).1, rfl, rfl⟩, ⟨oax, (N4 (ax, oax) (.tail _ (.tail _ (.tail _ (.tail _ hm))))).1, hoc, nax, hod⟩⟩
  exact codeAny_compStart_list (loop _ rfl) (W.self 0 _ _ _ hl4 (loop _ rfl))
end
end Mine
end
section
open PySem PySem.W PyProof.Rows PyProof.V PySem.Calls PySem.Spec Builtin Builtin.ObjectAttr
set_option Elab.async false
set_option maxRecDepth 100000
set_option maxHeartbeats 3000000
namespace Mine
section
variable {prog : Program} {w : World} {A : Around} {E : Value → Shared → Prop} {s : Shared} {env : Env} {h₀ : Heap} {target : Expr} {body : List Stmt} {Q : Flow → Shared → Prop} {ws : List (Addr × String)} {keep : List (Addr × Obj)}
/-- a loop over an enumeration of whole numbers, by its invariant -/
theorem enum_fold (J : Nat → (Str → Option Value) → List (Addr × Obj) → Prop) (n : Nat)
    (step : ∀ i x t u m news, i < n → J i m news → ∀ T h tk, IsTup h T #[.int (i : Int) t, .int x u] → Fr h₀ env.locals h m → AllObj ws (fun its => News h₀ env.locals h (its ++ news) →
      wpAny (model prog w) A (assign target env (.ref T)) (fun _ s₂ => wpAny (model prog w) A (execs body env) (UnrPostW h₀ env.locals { s with heap := h, toks := tk } its (fun m' n' => SubL keep n' ∧ J (i + 1) m' n') Q) E s₂) E { s with heap := h, toks := tk })) :
    ∀ {vs : List Value} {ns : List Int}, IntsAre vs ns → ∀ i m news, i + vs.length ≤ n → J i m news → (∀ m' news', J (i + vs.length) m' news' → ∀ h tk, Fr h₀ env.locals h m' → News h₀ env.locals h news' → Q .next { s with heap := h, toks := tk }) →
      ItemsRest prog w A E h₀ env target body Q s ws keep (enumItems i vs) m news
  | [], _, _, i, m, news, _, j, fin => ItemsRest.zero (fin m news j)
  | v :: r, ns, hv, i, m, news, hn, j, fin => by
    obtain ⟨x, u, ns', rfl, hr⟩ : ∃ x u ns', v = .int x u ∧ IntsAre r ns' := by
      cases hv with
      | cons n t hr => exact ⟨_, _, _, rfl, hr⟩
    have e : i + (Value.int x u :: r).length = (i + 1) + r.length := by simp; omega
    refine ItemsRest.pair (f := fun t => .int (i : Int) t) fun T t h tk hT F => ?_
    have := step i x t u m news (by rw [e] at hn; omega) j T h tk hT F
    have key : ∀ m' n', J (i + 1) m' n' → ItemsRest prog w A E h₀ env target body Q s ws keep (enumItems (i + 1) r) m' n' := fun m' n' hj =>
      enum_fold J n step hr (i + 1) m' n' (e ▸ hn) hj (fun m2 n2 h2 => fin m2 n2 (by rw [e]; exact h2))
    refine allObj_mono (fun its hh N => wpAny_mono (hh N) (fun _ s₂ h₂ => wpAny_mono h₂ (fun fl s₃ q => ?_) fun _ _ e => e) fun _ _ e => e) this
    cases fl with
    | ret v => exact q
    | brk => exact q
    | next => obtain ⟨h', tk', m', n', e1, F', N', off, hk, hj⟩ := q; exact ⟨h', tk', m', n', e1, F', N', off, hk, key _ _ hj⟩
    | cont => obtain ⟨h', tk', m', n', e1, F', N', off, hk, hj⟩ := q; exact ⟨h', tk', m', n', e1, F', N', off, hk, key _ _ hj⟩
theorem TupsIn.get {l : List (Addr × Obj)} {vs : List Value} {cs : List (Str × Int)} (h : TupsIn l vs cs) : ∀ {i : Nat} {v : Value}, vs[i]? = some v → ∃ a k c t u, v = .ref a ∧ (a, tup (.str k t) (.int c u)) ∈ l ∧ cs[i]? = some (k, c) := by
  induction h with
  | nil => intro i v e; simp at e
  | @cons a k c t u r r' h hr ih =>
    intro i v e
    cases i with
    | zero =>
      simp only [List.getElem?_cons_zero, Option.some.injEq] at e
      exact ⟨a, k, c, t, u, e.symm, h, rfl⟩
    | succ i =>
      rw [List.getElem?_cons_succ] at e ⊢
      exact ih e
/-- a comprehension over tuples of a text and a whole number, by its invariant -/
theorem pairs_ind {L : Addr} {m : Str → Option Value} {elt : PySem.Expr} {x x₂ : Str} {scope : Scope} {cl : List (Str × Addr)} {S : List (Addr × Obj) → Prop} {Fin : List Value → List (Addr × Obj) → Prop} (J : Nat → List Value → List (Addr × Obj) → Prop) (kp : List (Addr × Obj)) {vs : List Value} {cs : List (Str × Int)} (hT : TupsIn kp vs cs)
    (hj : ∀ i ys news, J i ys news → ∀ p ∈ kp, p ∈ news)
    (el : ∀ i ys news k c t u I oI C oC D m₂ h tk (E' : Value → Shared → Prop), cs[i]? = some (k, c) → J i ys news → LCg.NsObj oC m₂ → m₂ x = some (.str k t) → m₂ x₂ = some (.int c u) → Fr h₀ L h m → News h₀ L h ((I, oI) :: (C, oC) :: (D, LCg.lst ys) :: news) → LCg.Off3 I C D news → ((@Ne Nat I C) ∧ (@Ne Nat I D) ∧ (@Ne Nat C D)) →
      wpAny (model prog w) A (eval elt (compEnvC scope cl C env)) (LCg.CompEnd h₀ L m { s with heap := h, toks := tk } I oI C oC D (LCg.lst ys) S (fun y news' => J (i + 1) (ys ++ [y]) news')) E' { s with heap := h, toks := tk })
    (fin : ∀ ys news, J vs.length ys news → Fin ys news) : ∀ k i ys news, i + k = vs.length → J i ys news → LCp.CompRestP prog w A h₀ L m env elt x x₂ scope cl s S (fun i v => vs.toArray[i]? = some v) Fin k i ys news
  | 0, i, ys, news, e, j => by
    have : i = vs.length := by omega
    subst this
    exact LCp.CompRestP.zero (fin _ _ j)
  | k + 1, i, ys, news, e, j => LCp.CompRestP.succ fun v hP => by
    have hv : vs[i]? = some v := by simpa using hP
    obtain ⟨a, kk, c, t, u, rfl, hm, hc⟩ := hT.get hv
    refine ⟨a, _, .str kk t, .int c u, _, rfl, hj _ _ _ j _ hm, rfl, rfl, fun I oI C oC D m₂ h tk E' hC hx hx2 F N off ne => ?_⟩
    exact wpAny_mono (el i ys news kk c t u I oI C oC D m₂ h tk E' hc j hC hx hx2 F N off ne) (fun y s' ⟨h', tk', news', e1, F', N', off', hS, hj'⟩ => ⟨h', tk', news', e1, F', N', off', hS, pairs_ind J kp hT hj el fin k (i + 1) _ _ (by omega) hj'⟩) fun _ _ e => e
end
end Mine
end
section
open PySem PySem.W PyProof.Rows PyProof.V PySem.Calls PySem.Spec Builtin Builtin.ObjectAttr
set_option Elab.async false
set_option maxRecDepth 100000
set_option maxHeartbeats 3000000
namespace Mine
local macro_rules | `(tactic| k_ownIn) => `(tactic| first | with_reducible assumption | with_reducible (refine List.Mem.tail _ ?_; k_ownIn) | (with_reducible_and_instances refine List.mem_append_right _ ?_; k_ownIn) | (with_reducible_and_instances refine List.mem_append_left _ ?_; with_reducible assumption))
local macro_rules | `(tactic| k_mem) => `(tactic| with_reducible_and_instances (refine List.mem_append_right _ ?_; k_mem))
local macro_rules | `(tactic| kqd_sub) => `(tactic| (intro p9 h9; k_ownIn))
set_option maxHeartbeats 3000000 in
theorem fillL3 : PySem.Challenge.rw_dn0005_06 = PySem.Challenge.rw_dn0005_06 ∧ Mine.hd06.heap_39 = Mine.hd06.heap_39 := by
  k_fill
  exact ⟨rfl, rfl⟩
local macro_rules | `(tactic| walk_at "CompEnd") => `(tactic| (refine halt ?_))
local macro_rules | `(tactic| walk_at "call builtin:list.extend") => `(tactic| (refine halt ?_))
local macro_rules | `(tactic| walk_at "eval ListComp") => `(tactic| (refine halt ?_))
/-- the body of the law's great loop -/
def loopBody : List Stmt → List Stmt
  | _ :: .For _ _ b _ _ :: _ => b
  | _ => []
/-- the law's names, in its turn -/
abbrev mL (x y : Addr) (vp vx vf vr vg vn vw : Option Value) : Str → Option Value := fun z =>
  if z = Str.ofString "news" then vw else if z = Str.ofString "named" then vn else if z = Str.ofString "given" then vg else if z = Str.ofString "rest" then vr else if z = Str.ofString "form" then vf else
  if z = Str.ofString "x" then vx else if z = Str.ofString "place" then vp else if z = Str.ofString "bag" then some (.ref x) else if z = Str.ofString "script" then some (.ref y) else none
/-- the objects of the law's turn: the bag, the ledger, the two cells, the script, and others -/
abbrev nL (L x dx lA y : Addr) (es : Array DictEntry) (n : Nat) (vsL : List Value) (nl : Nat) (o1 o2 : Obj) (oy : Obj) (nw : List (Addr × Obj)) : List (Addr × Obj) :=
  (x, cnt es n dx) :: (dx, dictOf [] 0) :: (lA, listOf vsL.toArray nl) :: (L + 1 + 1, o1) :: (L + 1, o2) :: (y, oy) :: nw
abbrev nP (L x dx lA y : Addr) (es : Array DictEntry) (n : Nat) (vsL : List Value) (nl : Nat) (o1 o2 : Obj) (oy : Obj) : List (Addr × Obj) :=
  [(x, cnt es n dx), (dx, dictOf [] 0), (lA, listOf vsL.toArray nl), (L + 1 + 1, o1), (L + 1, o2), (y, oy)]
theorem mem_move {α : Type} {q : α} : ∀ (A B : List α) (p : α), p ∈ A ++ (q :: B) → p ∈ q :: (A ++ B)
  | [], _, _, h => h
  | a :: A, B, p, h => by
    rcases List.mem_cons.mp h with rfl | h
    · exact .tail _ (.head _)
    · rcases List.mem_cons.mp (mem_move A B p h) with rfl | h
      · exact .head _
      · exact .tail _ (.tail _ h)
section
variable {prog : Program} {w : World} {A₀ : Around} {base g1 : Heap} {outer : List Env} {e0 : Env} {L L1 : Addr} {mg mb : Str → Option Value} {mean : ExcName → Option Value} {s : Shared} {Q : Flow → Shared → Prop} {E : Value → Shared → Prop}
theorem Blk_e {name qual : Str} {params : Arguments} {body : List Stmt} {scope : Scope} {dV kV doc pm cdv ct oc : Value} {an od : Option Addr} {osl : Array (Option Value)}
    (ho : (Mine.hd06.heap_39 w.params).lookup 1121 = some ⟨oc, od, .func (fnOf name qual params body scope dV kV doc pm an cdv ct), osl⟩)
    {x dx lA y wA : Addr} {es : Array DictEntry} {oy : Obj} {n nl nw0 : Nat} {vsL ws : List Value} {o1 o2 : Obj} {nw : List (Addr × Obj)} {vp vx vf vr vg vn : Option Value} {sg : Int} {tsg : Tok} {Ld news : List (Str × Int)}
    (h1 : o1.data = .cell (some (.int sg tsg))) (h2 : o2.data = .cell (some (.ref lA))) (hw : (wA, listOf ws.toArray nw0) ∈ nw) (hTw : TupsIn nw ws news) (hTl : TupsIn nw vsL Ld) (hlen : Ld.length + news.length ≤ 4000)
    (hnw : ∀ p ∈ nw, p.1 ≠ lA) (hsg : sg = 1 ∨ sg = -1) (hoff : x ≠ lA ∧ dx ≠ lA ∧ L1 + 1 + 1 ≠ lA ∧ L1 + 1 ≠ lA ∧ y ≠ lA)
    (B1 : Below callerA base [] g1) (X1 : (Mine.hd06.heap_39 w.params).In g1) (T1 : Top vw ls mean mg mb g1)
    (F1 : Fr g1 L1 s.heap (mL x y vp vx vf vr vg vn (some (.ref wA)))) (N1 : News g1 L1 s.heap (nL L1 x dx lA y es n vsL nl o1 o2 oy nw))
    (k : ∀ h' tk vs' nl' nw', TupsIn nw' vs' (Ld ++ news.map fun p => (p.1, sg * p.2)) → (∀ p ∈ nw, p ∈ nw') → Fr g1 L1 h' (mL x y vp vx vf vr vg vn (some (.ref wA))) → News g1 L1 h' (nL L1 x dx lA y es n vs' nl' o1 o2 oy nw') → Q .next { s with heap := h', toks := tk }) :
    wpAny (model prog w) (callerA.deeper (envOfC qual scope L1 1121 cdv)) (execs ((loopBody body).drop ((loopBody body).length - 1)) (envOfC qual scope L1 1121 cdv)) Q E s := by
  have e := ho.symm.trans (by k_is : (Mine.hd06.heap_39 w.params).lookup 1121 = some _)
  cases e
  clear ho
  dsimp only [loopBody, List.drop, List.length]
  k_steps
  unfold Halt
  refine LCp.ListComp_P (F₀ := by k_asm) (by with_unfolding_all rfl) (by decide) (by rfl) (by decide) (by rfl) (by rfl) (by decide) ?_
  k_steps
  refine LCp.SrcLP.ledger (its := ws.toArray) (k := nw0) rfl F1 N1 (.tail _ (.tail _ (.tail _ (.tail _ (.tail _ (.tail _ hw)))))) (by have := hTw.length; rw [PySem.sizeLine_eq]; simp; omega) fun g => ?_
  refine pairs_ind (fun i ys nws => ∃ tl, nws = nL L1 x dx lA y es n vsL nl o1 o2 oy (tl ++ nw) ∧ TupsIn tl ys ((news.take i).map fun p => (p.1, sg * p.2)) ∧ ∀ p ∈ tl, p.1 ≠ lA) nw hTw ?_ ?_ ?_ _ 0 [] _ (by first | k_mem | simp) ⟨[], rfl, .nil, fun _ h => nomatch h⟩
  · rintro i ys nws ⟨tl, rfl, _⟩ p hp
    exact .tail _ (.tail _ (.tail _ (.tail _ (.tail _ (.tail _ (List.mem_append_right _ hp))))))
  · rintro i ys nws k₁ c t u I oI C oC D m₂ h tk E' hc ⟨tl, rfl, hTt, htl⟩ hC hx hx2 F N off ne
    have hmul : IntMulOk sg c := IntMulOk.of_left (by rcases hsg with rfl | rfl <;> decide)
    k_steps
    unfold Halt
    rename_i D2 h2 F2 N2 l2
    have hi : i < news.length := by
      rcases Nat.lt_or_ge i news.length with q | q
      · exact q
      · rw [List.getElem?_eq_none q] at hc; cases hc
    refine LCg.CompEnd.intro F2 N2 (nL L1 x dx lA y es n vsL nl o1 o2 oy ((D2, tup (.str k₁ t) (.int (sg * c) tk)) :: tl ++ nw)) (fun p hp => mem_move ((I, oI) :: (C, oC) :: (D, LCg.lst ys) :: nP L1 x dx lA y es n vsL nl o1 o2 oy) (tl ++ nw) p hp) ⟨off.1, off.2.1, off.2.2.1, off.2.2.2.1, off.2.2.2.2.1, off.2.2.2.2.2.1, ⟨Nat.ne_of_gt l2.1, Nat.ne_of_gt l2.2.1, Nat.ne_of_gt l2.2.2.1⟩, off.2.2.2.2.2.2⟩ (.inr ⟨listOf ws.toArray nw0, (.tail _ (.tail _ (.tail _ (.tail _ (.tail _ (.tail _ (.tail _ (List.mem_append_right _ hw)))))))), rfl, nw0, rfl⟩) ⟨(D2, tup (.str k₁ t) (.int (sg * c) tk)) :: tl, rfl, ?_, ?_⟩
    · rw [List.take_add_one, hc, List.map_append]
      exact (hTt.sub fun p hp => .tail _ hp).append (.cons (.head _) .nil)
    · intro p hp
      rcases List.mem_cons.mp hp with rfl | hp
      · exact Nat.ne_of_gt l2.2.2.2.2.2.1
      · exact htl p hp
  · rintro ys nws ⟨tl, rfl, hTt, htl⟩
    k_steps
    unfold Halt
    rename_i D3 h3 tk3 F3 N3 o3
    have hlw := hTw.length
    have hll := hTl.length
    have hly : ys.length = news.length := by have := hTt.length; rw [List.length_map, List.length_take] at this; omega
    have zl := N3 (lA, listOf vsL.toArray nl) (by first | k_mem | simp)
    have zD := N3 (D3, LCg.lst ys) (by first | k_mem | simp)
    obtain ⟨n', hn'⟩ : ∃ n', Obj.mapSeq (fun x => x ++ ys.toArray) (listOf vsL.toArray nl) = listOf (vsL.toArray ++ ys.toArray) n' := ⟨_, rfl⟩
    have hsame := Heap.SameBut.update (a := lA) (h := h3) (f := Obj.mapSeq fun x => x ++ ys.toArray)
    refine call_meets PySem.F.slot_list_extend ⟨_, zl.1, rfl⟩ PySem.F.entry_list_extend (PySem.F.args_list_extend_2 _ _) (PySem.AutoSeq1.list_extend_list_list_0 lA vsL.toArray nl D3 ys.toArray ys.length (extend_door (by simp; rw [PySem.sizeLine_eq]; omega)) (by simp; rw [PySem.sizeLine_eq]; omega) (by simp; rw [PySem.sizeLine_eq]; omega)) ⟨zl.1, zD.1, ?_⟩
    dsimp only
    k_steps
    refine k _ _ (vsL ++ ys) n' (tl ++ nw) ?_ (fun p hp => List.mem_append_right _ hp) (F3.change hsame zl.2.1 zl.2.2) (fun p hp => ?_)
    · have : (List.take ws.length news) = news := List.take_of_length_le (by omega)
      rw [this] at hTt
      exact (hTl.sub fun p hp => List.mem_append_right _ hp).append (hTt.sub fun p hp => List.mem_append_left _ hp)
    · have keep : ∀ q, q.1 ≠ lA → q ∈ (D3, LCg.lst ys) :: nL L1 x dx lA y es n vsL nl o1 o2 oy (tl ++ nw) → (h3.update lA (Obj.mapSeq fun x => x ++ ys.toArray)).get? q.1 = some q.2 ∧ q.1 ≠ L1 ∧ g1.get? q.1 = none := fun q hq hm => ⟨(hsame.2 q.1 hq).trans (N3 q hm).1, (N3 q hm).2⟩
      have new : (h3.update lA (Obj.mapSeq fun x => x ++ ys.toArray)).get? lA = some (listOf (vsL ++ ys).toArray n') ∧ lA ≠ L1 ∧ g1.get? lA = none := by
        refine ⟨?_, zl.2⟩
        have := Heap.get?_update_self (Obj.mapSeq fun x => x ++ ys.toArray) zl.1 rfl
        rw [this, hn']
        simp
      revert p
      refine List.forall_mem_cons.mpr ⟨keep (x, _) hoff.1 (by k_mem), List.forall_mem_cons.mpr ⟨keep (dx, _) hoff.2.1 (by k_mem), List.forall_mem_cons.mpr ⟨new, List.forall_mem_cons.mpr ⟨keep (L1 + 1 + 1, o1) hoff.2.2.1 (by k_mem), List.forall_mem_cons.mpr ⟨keep (L1 + 1, o2) hoff.2.2.2.1 (by k_mem), List.forall_mem_cons.mpr ⟨keep (y, oy) hoff.2.2.2.2 (by k_mem), List.forall_mem_append.mpr ⟨fun p hp => keep p (htl p hp) (.tail _ (.tail _ (.tail _ (.tail _ (.tail _ (.tail _ (.tail _ (List.mem_append_left _ hp)))))))), fun p hp => keep p (hnw p hp) (.tail _ (.tail _ (.tail _ (.tail _ (.tail _ (.tail _ (.tail _ (List.mem_append_right _ hp))))))))⟩⟩⟩⟩⟩⟩⟩
end
end Mine
end
section
open PySem PySem.W PyProof.Rows PyProof.V PySem.Calls PySem.Spec Builtin Builtin.ObjectAttr
set_option Elab.async false
set_option maxRecDepth 100000
set_option maxHeartbeats 3000000
namespace Mine
theorem fillL4 : PySem.Challenge.rw_dn0005_06 = PySem.Challenge.rw_dn0005_06 ∧ Mine.hd06.heap_39 = Mine.hd06.heap_39 := by
  k_fill
  exact ⟨rfl, rfl⟩
/-- what a table counts -/
def tabc (n : Int) : List (Str × Int) := [(nm n, n), (nm (n + 1), Int.fdiv (-n) 3)]
theorem tab_ints (n : Int) (t1 t2 : Tok) : Ints (tab n t1 t2) (tabc n) := .cons ⟨rfl, t1, rfl⟩ (.cons ⟨rfl, t2, rfl⟩ .nil)
theorem mL_news {x y : Addr} {vp vx vf vr vg vn vw : Option Value} {a : Value} (z : Str) : (if z = Str.ofString "news" then some a else mL x y vp vx vf vr vg vn vw z) = mL x y vp vx vf vr vg vn (some a) z := by
  unfold mL
  by_cases h : z = Str.ofString "news"
  · rw [if_pos h, if_pos h]
  · simp only [if_neg h]
local macro_rules | `(tactic| walk_at "call ref") => `(tactic| (refine halt ?_))
local macro_rules | `(tactic| walk_at "call builtin:dict.items") => `(tactic| (k_here; refine items_map_K (by k_asm) (by k_asm) (by k_asm) (.inl ⟨_, by k_mem, by assumption⟩) (by assumption) ?_; intro v' h' F' N' l'))
local macro_rules | `(tactic| walk_at "call type:list") => `(tactic| (refine halt ?_))
local macro_rules | `(tactic| walk_at "execs cons") => `(tactic| ((with_reducible show wpAny _ _ (execs [Stmt.Expr _ _] _) _ _ _); refine halt ?_))
section
variable {prog : Program} {w : World} {A₀ : Around} {base g1 : Heap} {outer : List Env} {e0 : Env} {L L1 : Addr} {mg mb : Str → Option Value} {mean : ExcName → Option Value} {s : Shared} {Q : Flow → Shared → Prop} {E : Value → Shared → Prop}
theorem Blk_d {name qual : Str} {params : Arguments} {body : List Stmt} {scope : Scope} {dV kV doc pm cdv ct oc : Value} {an od : Option Addr} {osl : Array (Option Value)}
    (ho : (Mine.hd06.heap_39 w.params).lookup 1121 = some ⟨oc, od, .func (fnOf name qual params body scope dV kV doc pm an cdv ct), osl⟩)
    {x dx lA y wA : Addr} {es : Array DictEntry} {oy : Obj} {n nl nw0 : Nat} {vsL ws : List Value} {o1 o2 : Obj} {nw : List (Addr × Obj)} {vp vx vg vn : Option Value} {sg f r : Int} {tsg tf tr : Tok} {Ld news : List (Str × Int)}
    (h1 : o1.data = .cell (some (.int sg tsg))) (h2 : o2.data = .cell (some (.ref lA))) (hw : (wA, listOf ws.toArray nw0) ∈ nw) (hTw : TupsIn nw ws news) (hTl : TupsIn nw vsL Ld) (hlen : Ld.length + news.length + 2 ≤ 4000)
    (hnw : ∀ p ∈ nw, p.1 ≠ lA) (hsg : sg = 1 ∨ sg = -1) (hoff : x ≠ lA ∧ dx ≠ lA ∧ L1 + 1 + 1 ≠ lA ∧ L1 + 1 ≠ lA ∧ y ≠ lA)
    (B1 : Below callerA base [] g1) (X1 : (Mine.hd06.heap_39 w.params).In g1) (T1 : Top vw ls mean mg mb g1)
    (F1 : Fr g1 L1 s.heap (mL x y vp vx (some (.int f tf)) (some (.int r tr)) vg vn (some (.ref wA)))) (N1 : News g1 L1 s.heap (nL L1 x dx lA y es n vsL nl o1 o2 oy nw))
    (k : ∀ h' tk vs' nl' nw' vw', TupsIn nw' vs' (Ld ++ (news ++ if 4 ≤ f then tabc (r + 1) else []).map fun p => (p.1, sg * p.2)) → (∀ p ∈ nw, p ∈ nw') → Fr g1 L1 h' (mL x y vp vx (some (.int f tf)) (some (.int r tr)) vg vn vw') → News g1 L1 h' (nL L1 x dx lA y es n vs' nl' o1 o2 oy nw') → Q .next { s with heap := h', toks := tk }) :
    wpAny (model prog w) (callerA.deeper (envOfC qual scope L1 1121 cdv)) (execs ((loopBody body).drop ((loopBody body).length - 2)) (envOfC qual scope L1 1121 cdv)) Q E s := by
  have e := ho.symm.trans (by k_is : (Mine.hd06.heap_39 w.params).lookup 1121 = some _)
  cases e
  dsimp only [loopBody, List.drop, List.length]
  k_steps
  · unfold Halt
    refine use_at 19 (by exact rfl) (by exact rfl) (by exact rfl) (by exact rfl) (by exact rfl) (Nat.le_of_ble_eq_true rfl) (Nat.le_of_ble_eq_true rfl) (spec_table B1 F1 X1 N1 T1 ?_)
    intro hp2 D2 oD t1 t2 tk2 hs2 hD F2 N2
    dsimp only
    k_steps
    unfold Halt
    rename_i v3 h3 F3 N3 l3
    refine list_items_K rfl F3 N3 (by k_mem) (.inl ⟨oD, by k_mem, hD⟩) (tab_ints (r + 1) t1 t2) (by rw [(tab_ints (r + 1) t1 t2).length, PySem.sizeLine_eq]; exact Nat.le_of_ble_eq_true rfl) ?_
    intro S4 h4 tk4 vs4 l4 n4 hT4 F4 N4 hlt4 hge4
    k_steps
    have hlw := hTw.length
    have hl4 : vs4.length = 2 := by have := hT4.length; exact this
    refine PySem.P.add_list (N4 (wA, listOf ws.toArray nw0) (.tail _ (List.mem_append_right _ (.tail _ (.tail _ (.tail _ (.tail _ (.tail _ (.tail _ (.tail _ (.tail _ (hw)))))))))))).1 (N4 (S4, listOf vs4.toArray n4) (.head _)).1 ?_ (by simp; rw [PySem.sizeLine_eq]; omega)
    have hW5 : ∀ p ∈ (S4, listOf vs4.toArray n4) :: (l4 ++ (v3, iview D2) :: (D2, oD) :: nL L1 x dx lA y es n vsL nl o1 o2 oy nw), p.1 < h4.objs.size := fun p hp => Heap.lt_size (N4 p hp).1
    have F5 := F4.push { cls := .type "list", data := .seq (ws.toArray ++ vs4.toArray) }
    have N5 := N4.push F4 { cls := .type "list", data := .seq (ws.toArray ++ vs4.toArray) }
    generalize h4.push { cls := .type "list", data := .seq (ws.toArray ++ vs4.toArray) } = h5 at F5 N5
    generalize h4.objs.size = W5 at N5 hW5
    k_steps
    unfold Halt
    rename_i h6 F6 N6
    have eW : ({ cls := .type "list", data := .seq (ws.toArray ++ vs4.toArray) } : Obj) = listOf (ws ++ vs4).toArray 0 := by simp
    rw [eW] at N6
    have hlS : lA < S4 := hlt4 (lA, listOf vsL.toArray nl) (by k_mem)
    have hf4 : 4 ≤ f := by assumption
    rw [if_pos hf4] at k
    refine Blk_e (L1 := L1) (g1 := g1) (es := es) (n := n) (nl := nl) (oy := oy) (vsL := vsL) (dx := dx) (o1 := o1) (o2 := o2) (wA := W5) (ws := ws ++ vs4) (nw0 := 0) (nw := (W5, listOf (ws ++ vs4).toArray 0) :: (l4 ++ nw)) (news := news ++ tabc (r + 1)) ho h1 h2 (.head _) ((hTw.sub fun p hp => .tail _ (List.mem_append_right _ hp)).append (hT4.sub fun p hp => .tail _ (List.mem_append_left _ hp))) (hTl.sub fun p hp => .tail _ (List.mem_append_right _ hp)) (by rw [List.length_append]; show Ld.length + (news.length + 2) ≤ 4000; omega) (fun p hp => ?_) hsg hoff B1 X1 T1 (fr_fun F6 fun z => mL_news z) (news_sub N6 fun p hp => ?_) ?_
    · rcases List.mem_cons.mp hp with rfl | hp
      · exact Nat.ne_of_gt (hW5 (lA, listOf vsL.toArray nl) (.tail _ (List.mem_append_right _ (.tail _ (.tail _ (by k_mem))))))
      · rcases List.mem_append.mp hp with hp | hp
        · exact Nat.ne_of_gt (Nat.lt_of_lt_of_le hlS (hge4 p hp))
        · exact hnw p hp
    · rcases List.mem_cons.mp (mem_move (nP L1 x dx lA y es n vsL nl o1 o2 oy) (l4 ++ nw) p hp) with rfl | h
      · exact .head _
      · refine .tail _ (.tail _ ?_)
        rcases List.mem_append.mp h with h | h
        · exact List.mem_append_right _ (.tail _ (.tail _ (List.mem_append_left nw h)))
        · rcases List.mem_append.mp h with h | h
          · exact List.mem_append_left _ h
          · exact List.mem_append_right _ (.tail _ (.tail _ (List.mem_append_right (nP L1 x dx lA y es n vsL nl o1 o2 oy) h)))
    · intro h7 tk7 vs7 nl7 nw7 hT7 hs7 F7 N7
      exact k h7 tk7 vs7 nl7 nw7 _ hT7 (fun p hp => hs7 p (.tail _ (List.mem_append_right _ hp))) F7 N7
  · unfold Halt
    have hf4 : ¬ 4 ≤ f := by assumption
    rw [if_neg hf4, List.append_nil] at k
    exact Blk_e (L1 := L1) (g1 := g1) (wA := wA) (ws := ws) (nw := nw) (news := news) ho h1 h2 hw hTw hTl (by omega) hnw hsg hoff B1 X1 T1 F1 N1 (fun h7 tk7 vs7 nl7 nw7 hT7 hs7 F7 N7 => k h7 tk7 vs7 nl7 nw7 _ hT7 hs7 F7 N7)
end
end Mine
end
section
open PySem PySem.W PyProof.Rows PyProof.V PySem.Calls PySem.Spec Builtin Builtin.ObjectAttr
set_option Elab.async false
set_option maxRecDepth 100000
set_option maxHeartbeats 3000000
namespace Mine
local macro_rules | `(tactic| k_ownIn) => `(tactic| first | assumption | exact List.mem_append_left _ (by assumption) | (refine List.mem_append_right _ ?_; k_ownIn) | (refine List.Mem.tail _ ?_; k_ownIn))
local macro_rules | `(tactic| k_mem) => `(tactic| (refine List.mem_append_right _ ?_; k_mem))
local macro_rules | `(tactic| kqd_sub) => `(tactic| (intro p9 h9; k_ownIn))
theorem fillL5 : PySem.Challenge.rw_dn0005_06 = PySem.Challenge.rw_dn0005_06 ∧ Mine.hd06.heap_39 = Mine.hd06.heap_39 := by
  k_fill
  exact ⟨rfl, rfl⟩
def namesK (r : Int) : List Str := (List.range (howMany r)).map fun j => nm (Int.fdiv r (4 ^ j))
theorem strs_of : ∀ (i : Nat) (ys : List Value) (g : Nat → Str), ys.length = i → (∀ j, j < i → ∃ t, ys[j]? = some (.str (g j) t)) → Strs ys ((List.range i).map g)
  | 0, ys, g, h, _ => by
    obtain rfl := List.length_eq_zero_iff.mp h
    exact .nil
  | i + 1, ys, g, h, hg => by
    cases ys with
    | nil => cases h
    | cons v r =>
      obtain ⟨t, ht⟩ := hg 0 (Nat.succ_pos _)
      simp only [List.getElem?_cons_zero, Option.some.injEq] at ht
      subst ht
      rw [List.range_succ_eq_map, List.map_cons, List.map_map]
      refine .cons (strs_of i r (g ∘ Nat.succ) (by simpa using h) fun j hj => ?_)
      obtain ⟨t', ht'⟩ := hg (j + 1) (by omega)
      exact ⟨t', by simpa using ht'⟩
theorem Names.strs {n : Int} {i : Nat} {ys : List Value} (h : Names n i ys) : Strs ys ((List.range i).map fun j => nm (Int.fdiv n (4 ^ j))) := strs_of i ys _ h.1 h.2
theorem Strs.get {vs : List Value} {ks : List Str} (h : Strs vs ks) : ∀ {i : Nat} {v : Value}, vs[i]? = some v → ∃ k t, v = .str k t ∧ ks[i]? = some k := by
  induction h with
  | nil => intro i v e; simp at e
  | @cons k t r r' hr ih =>
    intro i v e
    cases i with
    | zero =>
      simp only [List.getElem?_cons_zero, Option.some.injEq] at e
      exact ⟨k, t, e.symm, rfl⟩
    | succ i =>
      rw [List.getElem?_cons_succ] at e ⊢
      exact ih e
def newsOf (f r : Int) : List (Str × Int) := if Int.fmod f 4 = 1 then ones (namesK r) else if Int.fmod f 4 = 0 then [] else tabc r
def pd (p : Str × Int) : PySem.W.Dat := .tuple [.str p.1, .int p.2]
theorem TupsIn.dat {l : List (Addr × Obj)} {vs : List Value} {cs : List (Str × Int)} (h : TupsIn l vs cs) : PySem.W.DatAll l vs (cs.map pd) := by
  induction h with
  | nil => exact .nil
  | @cons a k c t u r r' h hr ih => exact .cons (.tuple (n := 0) h (.cons (.str k t) (.cons (.int c u) .nil))) ih
theorem nm_ok (n : Int) : PyData.strOk (nm n) = true := by
  have a := Int.emod_nonneg n (show (4 : Int) ≠ 0 by decide)
  have b := Int.emod_lt_of_pos n (show (0 : Int) < 4 by decide)
  have c : n % 4 = 0 ∨ n % 4 = 1 ∨ n % 4 = 2 ∨ n % 4 = 3 := by omega
  unfold nm
  rcases c with c | c | c | c <;> rw [c] <;> decide +kernel
theorem pd_ok {p : Str × Int} (h : PyData.strOk p.1 = true) : PySem.W.kqdOk 8 (pd p) = true := by
  unfold pd
  simp [PySem.W.kqdOk, h]
theorem mem_mid {α : Type} {q : α} (M A B : List α) (p : α) (h : p ∈ A ++ (q :: B)) : p ∈ q :: (M ++ (A ++ B)) := by
  rcases List.mem_cons.mp (mem_move A B p h) with rfl | h
  · exact .head _
  · exact .tail _ (List.mem_append_right _ h)
local macro_rules | `(tactic| walk_at "call ref") => `(tactic| (refine halt ?_))
local macro_rules | `(tactic| walk_at "call builtin:dict.items") => `(tactic| (k_here; refine items_map_K (by k_asm) (by k_asm) (by k_asm) (.inl ⟨_, by k_mem, by assumption⟩) (by assumption) ?_; intro v' h' F' N' l'))
local macro_rules | `(tactic| walk_at "call type:list") => `(tactic| (refine halt ?_))
local macro_rules | `(tactic| walk_at "exec Assign cons ListComp") => `(tactic| (refine halt ?_))
local macro_rules | `(tactic| walk_at "compareOp NotEq ref ref") => `(tactic| (refine halt ?_))
local macro_rules | `(tactic| walk_at "CompSrc") => `(tactic| (refine halt ?_))
local macro_rules | `(tactic| walk_at "CompEnd") => `(tactic| (refine halt ?_))
local macro_rules | `(tactic| walk_at "execs cons") => `(tactic| ((with_reducible show wpAny _ _ (execs [_, Stmt.Expr _ _] _) _ _ _); refine halt ?_))
section
variable {prog : Program} {w : World} {A₀ : Around} {base g1 : Heap} {outer : List Env} {e0 : Env} {L L1 : Addr} {mg mb : Str → Option Value} {mean : ExcName → Option Value} {s : Shared} {Q : Flow → Shared → Prop} {E : Value → Shared → Prop}
theorem Blk_c {name qual : Str} {params : Arguments} {body : List Stmt} {scope : Scope} {dV kV doc pm cdv ct oc : Value} {an od : Option Addr} {osl : Array (Option Value)}
    (ho : (Mine.hd06.heap_39 w.params).lookup 1121 = some ⟨oc, od, .func (fnOf name qual params body scope dV kV doc pm an cdv ct), osl⟩)
    {x dx lA y : Addr} {es : Array DictEntry} {oy : Obj} {n nl : Nat} {vsL : List Value} {o1 o2 : Obj} {nw : List (Addr × Obj)} {vp vx vn vW : Option Value} {vG : Value} {sg f r : Int} {tsg tf tr : Tok} {Ld : List (Str × Int)}
    (h1 : o1.data = .cell (some (.int sg tsg))) (h2 : o2.data = .cell (some (.ref lA))) (hTl : TupsIn nw vsL Ld) (hlen : Ld.length + 6 ≤ 4000)
    (hG : Int.fmod f 4 = 0 ∨ Int.fmod f 4 = 1 ∨ ∃ yG kvs, vG = .ref yG ∧ MapIn prog w yG nw kvs ∧ Ints kvs (tabc r) ∧ (yG == sysModules) = false)
    (hnw : ∀ p ∈ nw, p.1 ≠ lA) (hsg : sg = 1 ∨ sg = -1) (hoff : x ≠ lA ∧ dx ≠ lA ∧ L1 + 1 + 1 ≠ lA ∧ L1 + 1 ≠ lA ∧ y ≠ lA)
    (B1 : Below callerA base [] g1) (X1 : (Mine.hd06.heap_39 w.params).In g1) (T1 : Top vw ls mean mg mb g1)
    (F1 : Fr g1 L1 s.heap (mL x y vp vx (some (.int f tf)) (some (.int r tr)) (some vG) vn vW)) (N1 : News g1 L1 s.heap (nL L1 x dx lA y es n vsL nl o1 o2 oy nw))
    (k : ∀ h' tk vs' nl' nw' vW', TupsIn nw' vs' (Ld ++ (newsOf f r ++ if 4 ≤ f then tabc (r + 1) else []).map fun p => (p.1, sg * p.2)) → (∀ p ∈ nw, p ∈ nw') → Fr g1 L1 h' (mL x y vp vx (some (.int f tf)) (some (.int r tr)) (some vG) vn vW') → News g1 L1 h' (nL L1 x dx lA y es n vs' nl' o1 o2 oy nw') → Q .next { s with heap := h', toks := tk }) :
    wpAny (model prog w) (callerA.deeper (envOfC qual scope L1 1121 cdv)) (execs ((loopBody body).drop ((loopBody body).length - 4)) (envOfC qual scope L1 1121 cdv)) Q E s := by
  have e := ho.symm.trans (by k_is : (Mine.hd06.heap_39 w.params).lookup 1121 = some _)
  cases e
  dsimp only [loopBody, List.drop, List.length]
  k_steps
  · unfold Halt
    rename_i l2 hh2 lt2 h2' F2 N2 tk2 hf
    refine LCg.Assign_ListComp_U (F₀ := F2) (by rfl) (by with_unfolding_all rfl) (by rfl) (by decide) (by rfl) (by decide) (by rfl) (by rfl) (by rfl) ?_
    k_steps
    unfold Halt
    refine use_at 19 (by exact rfl) (by exact rfl) (by exact rfl) (by exact rfl) (by exact rfl) (Nat.le_of_ble_eq_true rfl) (Nat.le_of_ble_eq_true rfl) (spec_listed2 B1 F2 X1 N2 T1 ?_)
    intro hp3 D3 ys3 tk3 hN3 F3 N3 offD3
    dsimp only
    have hS3 := hN3.strs
    have hnk : (namesK r).length = howMany r := by unfold namesK; simp
    have hy3 : ys3.length = howMany r := hN3.1
    have hhm : howMany r ≤ 4 := by unfold howMany; have := fmod4_hi (r + 2); omega
    refine LCg.CompSrc.ledger (its := ys3.toArray) (k := ys3.length) rfl F3 N3 (.head _) (by simp; rw [PySem.sizeLine_eq]; omega) fun g => ?_
    refine rest_ind (fun i ys nws => ∃ tl, nws = (D3, LCg.lst ys3) :: (l2, listOf #[] 0) :: nL L1 x dx lA y es n vsL nl o1 o2 oy (tl ++ nw) ∧ TupsIn tl ys (ones ((namesK r).take i)) ∧ ∀ p ∈ tl, p.1 ≠ lA) ?_ ?_ _ 0 [] _ (Nat.zero_add _) ⟨[], rfl, .nil, fun _ h => nomatch h⟩
    · rintro i ys nws v I oI C oC D m₂ h tk E' hi ⟨tl, rfl, hTt, htl⟩ hP hC hx F N off ne
      obtain ⟨k₁, t, rfl, hk⟩ := hS3.get (i := i) (by simpa using hP)
      k_steps
      unfold Halt
      rename_i D4 h4 F4 N4 l4
      refine LCg.CompEnd.intro F4 N4 ((D3, LCg.lst ys3) :: (l2, listOf #[] 0) :: nL L1 x dx lA y es n vsL nl o1 o2 oy ((D4, tup (.str k₁ t) (.int 1 tk)) :: tl ++ nw)) (fun p hp => mem_move ((I, oI) :: (C, oC) :: (D, LCg.lst ys) :: (D3, LCg.lst ys3) :: (l2, listOf #[] 0) :: nP L1 x dx lA y es n vsL nl o1 o2 oy) (tl ++ nw) p hp) ⟨off.1, off.2.1, off.2.2.1, off.2.2.2.1, off.2.2.2.2.1, off.2.2.2.2.2.1, off.2.2.2.2.2.2.1, off.2.2.2.2.2.2.2.1, ⟨Nat.ne_of_gt l4.1, Nat.ne_of_gt l4.2.1, Nat.ne_of_gt l4.2.2.1⟩, off.2.2.2.2.2.2.2.2⟩ (.inr ⟨LCg.lst ys3, .head _, rfl, _, rfl⟩) ⟨(D4, tup (.str k₁ t) (.int 1 tk)) :: tl, rfl, ?_, ?_⟩
      · have : (namesK r).take (i + 1) = (namesK r).take i ++ [k₁] := by
          rw [List.take_add_one]
          have : (namesK r)[i]? = some k₁ := hk
          rw [this]; rfl
        rw [this]
        unfold ones
        rw [List.map_append]
        exact (hTt.sub fun p hp => .tail _ hp).append (.cons (.head _) .nil)
      · intro p hp
        rcases List.mem_cons.mp hp with rfl | hp
        · exact Nat.ne_of_gt l4.2.2.2.2.2.2.2.1
        · exact htl p hp
    · rintro ys nws ⟨tl, rfl, hTt, htl⟩
      k_steps
      unfold Halt
      rename_i D5 h5 tk5 F5 N5 o5
      obtain ⟨n5, hn5⟩ : ∃ n5, LCg.lst ys = listOf ys.toArray n5 := ⟨_, rfl⟩
      rw [hn5] at N5
      have hnew : newsOf f r = ones (namesK r) := by unfold newsOf; rw [if_pos hf]
      rw [hnew] at k
      have hT5 : TupsIn tl ys (ones (namesK r)) := by
        rw [List.take_of_length_le (by rw [hnk, ← hy3]; simp)] at hTt
        exact hTt
      have hl5 : (ones (namesK r)).length ≤ 4 := by unfold ones; rw [List.length_map, hnk]; exact hhm
      refine Blk_d (L1 := L1) (g1 := g1) (es := es) (n := n) (nl := nl) (oy := oy) (vsL := vsL) (dx := dx) (o1 := o1) (o2 := o2) (wA := D5) (ws := ys) (nw0 := n5) (nw := (D5, listOf ys.toArray n5) :: (tl ++ nw)) (news := ones (namesK r)) ho h1 h2 (.head _) (hT5.sub (by kqd_sub)) (hTl.sub (by kqd_sub)) (by omega) (fun p hp => ?_) hsg hoff B1 X1 T1 (fr_fun F5 fun z => by simp only [mL_news]) (news_sub N5 fun p hp => mem_mid [(D3, LCg.lst ys3), (l2, listOf #[] 0)] (nP L1 x dx lA y es n vsL nl o1 o2 oy) (tl ++ nw) p hp) (fun h7 tk7 vs7 nl7 nw7 vw7 hT7 hs7 F7 N7 => k h7 tk7 vs7 nl7 nw7 vw7 hT7 (fun p hp => hs7 p (by k_ownIn)) F7 N7)
      · rcases List.mem_cons.mp hp with rfl | hp
        · exact Ne.symm o5.2.2.2.2.1
        · rcases List.mem_append.mp hp with hp | hp
          · exact htl p hp
          · exact hnw p hp
  · unfold Halt
    rename_i l2 hh2 lt2 h2' F2 N2 tk2 hf1 tk3 hf0
    refine use_at 19 (by exact rfl) (by exact rfl) (by exact rfl) (by exact rfl) (by exact rfl) (Nat.le_of_ble_eq_true rfl) (Nat.le_of_ble_eq_true rfl) (spec_table B1 F2 X1 N2 T1 ?_)
    intro hp3 D3 oD t1 t2 tk3' hs3 hD F3 N3
    dsimp only
    k_steps
    unfold Halt
    rename_i v4 h4 F4 N4 l4
    refine list_items_K rfl F4 N4 (by k_mem) (.inl ⟨oD, by k_mem, hD⟩) (tab_ints r t1 t2) (by rw [(tab_ints r t1 t2).length, PySem.sizeLine_eq]; exact Nat.le_of_ble_eq_true rfl) ?_
    intro S5 h5 tk5 vs5 l5 n5 hT5 F5 N5 hlt5 hge5
    obtain h | h | ⟨yG, kvs, rfl, hM, hI, hys⟩ := hG
    · exact absurd h hf0
    · exact absurd h hf1
    k_steps
    rename_i h6 F6 N6
    refine meth_items_K F6 X1 N6 (hM.sub (by kqd_sub)) ?_
    dsimp only
    k_steps
    refine items_map_K (s := { s with heap := h6, toks := tk }) (L := L1) F6 X1 N6 (hM.sub (by kqd_sub)) hys ?_
    intro v7 h7 F7 N7 lt7
    k_steps
    unfold Halt
    refine list_items_K rfl F7 N7 (by k_mem) (hM.sub (by kqd_sub)) hI (by rw [hI.length, PySem.sizeLine_eq]; exact Nat.le_of_ble_eq_true rfl) ?_
    intro S8 h8 tk8 vs8 l8 n8 hT8 F8 N8 hlt8 hge8
    have ok : ∀ d ∈ (tabc r).map pd, kqdOk 8 d = true := by
      intro d hd
      obtain ⟨p, hp, rfl⟩ := List.mem_map.mp hd
      refine pd_ok ?_
      rcases List.mem_cons.mp hp with rfl | hp
      · exact nm_ok _
      · rcases List.mem_singleton.mp hp with rfl
        exact nm_ok _
    k_steps
    unfold Halt
    refine kqd_ne N8 (a := S8) (b := S5) (oa := listOf vs8.toArray n8) (ob := listOf vs5.toArray n5) (by k_mem) rfl rfl hT8.dat (by kqd_sub) (by k_mem) rfl rfl hT5.dat (by kqd_sub) ok ok (Nat.le_of_ble_eq_true rfl) ?_
    simp only [decide_true]
    k_steps
    unfold Halt
    have hnew : newsOf f r = tabc r := by unfold newsOf; rw [if_neg hf1, if_neg hf0]
    rw [hnew] at k
    have hlS : lA < S5 := hlt5 (lA, listOf vsL.toArray nl) (by k_mem)
    refine Blk_d (L1 := L1) (g1 := g1) (es := es) (n := n) (nl := nl) (oy := oy) (vsL := vsL) (dx := dx) (o1 := o1) (o2 := o2) (wA := S5) (ws := vs5) (nw0 := n5) (nw := (S5, listOf vs5.toArray n5) :: (l5 ++ nw)) (news := tabc r) ho h1 h2 (.head _) (hT5.sub (by kqd_sub)) (hTl.sub (by kqd_sub)) (by show Ld.length + 2 + 2 ≤ 4000; omega) (fun p hp => ?_) hsg hoff B1 X1 T1 (fr_fun F8 fun z => by simp only [mL_news]) (news_sub N8 fun p hp => ?_) (fun h7 tk7 vs7 nl7 nw7 vw7 hT7 hs7 F7 N7 => k h7 tk7 vs7 nl7 nw7 vw7 hT7 (fun p hp => hs7 p (by k_ownIn)) F7 N7)
    · rcases List.mem_cons.mp hp with rfl | hp
      · exact Nat.ne_of_gt hlS
      · rcases List.mem_append.mp hp with hp | hp
        · exact Nat.ne_of_gt (Nat.lt_of_lt_of_le hlS (hge5 p hp))
        · exact hnw p hp
    · simp only [List.mem_cons, List.mem_append] at hp ⊢
      rcases hp with h | h | h | h | h | h | h | h | h <;> simp [h]
  · unfold Halt
    rename_i l2 hh2 lt2 h2' F2 N2 tk2 hf1 tk3 hf
    have hnew : newsOf f r = [] := by unfold newsOf; rw [if_neg hf1, if_pos hf]
    rw [hnew] at k
    exact Blk_d (L1 := L1) (g1 := g1) (es := es) (n := n) (nl := nl) (oy := oy) (vsL := vsL) (dx := dx) (o1 := o1) (o2 := o2) (wA := l2) (ws := []) (nw0 := 0) (nw := (l2, listOf #[] 0) :: nw) (news := []) ho h1 h2 (.head _) .nil (hTl.sub fun p hp => .tail _ hp) (by simp; omega) (fun p hp => by
      rcases List.mem_cons.mp hp with rfl | hp
      · exact Nat.ne_of_gt lt2.2.2.1
      · exact hnw p hp) hsg hoff B1 X1 T1 (fr_fun F2 fun z => mL_news z) (news_sub N2 (by kqd_sub)) (fun h7 tk7 vs7 nl7 nw7 vw7 hT7 hs7 F7 N7 => k h7 tk7 vs7 nl7 nw7 vw7 hT7 (fun p hp => hs7 p (.tail _ hp)) F7 N7)
end
end Mine
end
section
open PySem PySem.W PyProof.Rows PyProof.V PySem.Calls PySem.Spec Builtin Builtin.ObjectAttr
set_option Elab.async false
set_option maxRecDepth 100000
set_option maxHeartbeats 3000000
namespace Mine
local macro_rules | `(tactic| k_ownIn) => `(tactic| first | assumption | exact List.mem_append_left _ (by assumption) | (refine List.mem_append_right _ ?_; k_ownIn) | (refine List.Mem.tail _ ?_; k_ownIn))
local macro_rules | `(tactic| k_mem) => `(tactic| (refine List.mem_append_right _ ?_; k_mem))
local macro_rules | `(tactic| kqd_sub) => `(tactic| (intro p9 h9; k_ownIn))
theorem fillL6 : PySem.Challenge.rw_dn0005_06 = PySem.Challenge.rw_dn0005_06 ∧ Mine.hd06.heap_39 = Mine.hd06.heap_39 := by
  k_fill
  exact ⟨rfl, rfl⟩
/-- keywords: none, or two -/
inductive Named : List (Str × Value) → List (Str × Int) → Prop
  | nil : Named [] []
  | two {k1 k2 : Str} {a b : Int} {t1 t2 : Tok} (hne : k1 ≠ k2) : Named [(k1, .int a t1), (k2, .int b t2)] [(k1, a), (k2, b)]
theorem Named.length {more : List (Str × Value)} {cs : List (Str × Int)} (h : Named more cs) : more.length = cs.length ∧ cs.length ≤ 2 := by cases h <;> exact ⟨rfl, Nat.le_of_ble_eq_true rfl⟩
theorem c_subt_get (P : Params) : specialIn (Mine.hd06.heap_39 P) (.ref 944) "__get__" = some (some (.builtin "function.__get__")) := by k_is
theorem c_subt_takes (P : Params) : takesIn (Mine.hd06.heap_39 P) (.ref 944) = some false := by k_is
theorem c_subt_isfn (P : Params) : fnIn (Mine.hd06.heap_39 P) 944 = true := by k_is
theorem c_cnt_keep (P : Params) : keepIn (Mine.hd06.heap_39 P) (.ref 1093) = true := by k_is
section
variable {prog : Program} {w : World} {A A₀ : Around} {E : Value → Shared → Prop} {base h₀ : Heap} {outer : List Env} {env e0 : Env} {L : Addr} {m mg mb : Str → Option Value} {mean : ExcName → Option Value} {s : Shared} {R : Result → Shared → Prop} {rest : List (Addr × Obj)}
theorem upd_specD {l : Nat} (hlv : l ≤ 13) {x dx : Addr} {v : Value} {es : Array DictEntry} {n : Nat} {kvs more : List (Str × Value)} {cs ps cs2 : List (Str × Int)} (hmo : Named more cs2) (hfile : ((prog.main.file : Str) == Str.ofString "/claim/cut.py") = true) (htop : (prog.main.scope.names.lookup (Str.ofString "super")).isSome = false)
    (G : Given prog w rest v ps) (D : DIs (PySem.strKind prog w) es kvs) (hi : Ints kvs cs) (hsx : (x == sysModules) = false) (hlim : cs.length + ps.length + 2 ≤ 4000) (hxr : ∀ p ∈ rest, p.1 ≠ x)
    (B : Below A₀ base outer h₀) (F : Fr h₀ L s.heap m) (X : (Mine.hd06.heap_39 w.params).In h₀) (N : News h₀ L s.heap ((x, cnt es n dx) :: (dx, dictOf [] 0) :: rest)) (T : Top vw ls mean mg mb h₀)
    (k : ∀ h' tk es' n' kvs₁, DIs (PySem.strKind prog w) es' kvs₁ → Ints kvs₁ (gains 1 (gains 1 cs ps) cs2) → Fr h₀ L h' m → News h₀ L h' ((x, cnt es' n' dx) :: (dx, dictOf [] 0) :: rest) → R (.ok (.ret .none)) {s with heap := h', toks := tk}) :
    codeAny (model prog w) (AK l (ek e0 L) outer) (.call (.ref 936) ⟨[.ref x, v], more⟩) R s := by
  cases hmo with
  | nil => exact upd_spec0 hlv hfile htop G D hi hsx (by omega) hxr B F X N T k
  | two hne => exact upd_spec2 hlv hne hfile htop G D hi hsx hlim hxr B F X N T k
theorem sub_specD {l : Nat} (hlv : l ≤ 13) {x dx : Addr} {v : Value} {es : Array DictEntry} {n : Nat} {kvs more : List (Str × Value)} {cs ps cs2 : List (Str × Int)} (hmo : Named more cs2) (hfile : ((prog.main.file : Str) == Str.ofString "/claim/cut.py") = true) (htop : (prog.main.scope.names.lookup (Str.ofString "super")).isSome = false)
    (G : Given prog w rest v ps) (D : DIs (PySem.strKind prog w) es kvs) (hi : Ints kvs cs) (hsx : (x == sysModules) = false) (hlim : cs.length + ps.length + 2 ≤ 4000) (hxr : ∀ p ∈ rest, p.1 ≠ x)
    (B : Below A₀ base outer h₀) (F : Fr h₀ L s.heap m) (X : (Mine.hd06.heap_39 w.params).In h₀) (N : News h₀ L s.heap ((x, cnt es n dx) :: (dx, dictOf [] 0) :: rest)) (T : Top vw ls mean mg mb h₀)
    (k : ∀ h' tk es' n' kvs₁, DIs (PySem.strKind prog w) es' kvs₁ → Ints kvs₁ (gains (-1) (gains (-1) cs ps) cs2) → Fr h₀ L h' m → News h₀ L h' ((x, cnt es' n' dx) :: (dx, dictOf [] 0) :: rest) → R (.ok (.ret .none)) {s with heap := h', toks := tk}) :
    codeAny (model prog w) (AK l (ek e0 L) outer) (.call (.ref 944) ⟨[.ref x, v], more⟩) R s := by
  cases hmo with
  | nil => exact sub_spec0 hlv hfile htop G D hi hsx (by omega) hxr B F X N T k
  | two hne => exact sub_spec2 hlv hne hfile htop G D hi hsx hlim hxr B F X N T k
theorem make_initD {v : Value} {ps cs2 : List (Str × Int)} {more : List (Str × Value)} (hmo : Named more cs2) {Q : Value → Shared → Prop} (hA : A.frames = some (env :: outer)) (hf : env.frame = some L) (hk : env.scope.kind = .function) (hh : A.handled = none) (hg : A.guards = some []) (hd : A.depth + 1 ≤ 520) (hu : A.units + 1 ≤ 2200)
    (hfile : ((prog.main.file : Str) == Str.ofString "/claim/cut.py") = true) (htop : (prog.main.scope.names.lookup (Str.ofString "super")).isSome = false) (G : Given prog w rest v ps) (hlim : ps.length ≤ 3000)
    (B : Below A₀ base outer h₀) (F : Fr h₀ L s.heap m) (X : (Mine.hd06.heap_39 w.params).In h₀) (N : News h₀ L s.heap rest) (T : Top vw ls mean mg mb h₀)
    (k : ∀ x dx h' tk es' n' kvs₁, DIs (PySem.strKind prog w) es' kvs₁ → Ints kvs₁ (gains 1 (gains 1 [] ps) cs2) → Fr h₀ L h' m → News h₀ L h' ((x, cnt es' n' dx) :: (dx, dictOf [] 0) :: rest) → (∀ p ∈ rest, p.1 < dx) → dx < x → (x == sysModules) = false → Q (.ref x) {s with heap := h', toks := tk}) :
    wpAny (model prog w) A (call (.ref 1093) [v] more) Q E s := by
  cases hmo with
  | nil => exact make_init0 hA hf hk hh hg hd hu hfile htop G hlim B F X N T k
  | two hne => exact make_init2 hne hA hf hk hh hg hd hu hfile htop G hlim B F X N T k
end
theorem newsOf_len (f r : Int) : (newsOf f r).length ≤ 4 := by
  unfold newsOf
  split
  · unfold ones namesK
    rw [List.length_map, List.length_map, List.length_range]
    unfold howMany
    have := fmod4_hi (r + 2)
    omega
  · split
    · exact Nat.zero_le _
    · exact Nat.le_of_ble_eq_true rfl
/-- the sign of a step -/
def sgnOf (pl x : Int) : Int := if pl = 0 then 1 else if Int.fmod x 2 = 0 then 1 else -1
theorem mL_bag {x x' y : Addr} {vp vx vf vr vg vn vW : Option Value} (z : Str) : (if z = Str.ofString "bag" then some (.ref x') else mL x y vp vx vf vr vg vn vW z) = mL x' y vp vx vf vr vg vn vW z := by
  unfold mL
  by_cases h1 : z = Str.ofString "bag"
  · subst h1; rfl
  · simp only [if_neg h1]
local macro_rules | `(tactic| k_all) => `(tactic| assumption)
local macro_rules | `(tactic| walk_at "getAttr ref") => `(tactic| (refine halt ?_))
local macro_rules | `(tactic| walk_at "eval Call Attribute") => `(tactic| (k_here; refine methodCall_star ?_))
local macro_rules | `(tactic| walk_at "callWith ref") => `(tactic| (k_here; refine callWith_star (by k_asm) ?_))
local macro_rules | `(tactic| walk_at "StarRest") => `(tactic| (refine halt ?_))
local macro_rules | `(tactic| walk_at "execs cons") => `(tactic| ((with_reducible show wpAny _ _ (execs [_, _, _, Stmt.Expr _ _] _) _ _ _); refine halt ?_))
section
variable {prog : Program} {w : World} {A₀ : Around} {base g1 : Heap} {outer : List Env} {e0 : Env} {L L1 : Addr} {mg mb : Str → Option Value} {mean : ExcName → Option Value} {s : Shared} {Q : Flow → Shared → Prop} {E : Value → Shared → Prop}
theorem Blk_b {name qual : Str} {params : Arguments} {body : List Stmt} {scope : Scope} {dV kV doc pm cdv ct oc : Value} {an od : Option Addr} {osl : Array (Option Value)}
    (ho : (Mine.hd06.heap_39 w.params).lookup 1121 = some ⟨oc, od, .func (fnOf name qual params body scope dV kV doc pm an cdv ct), osl⟩)
    (hfile : ((prog.main.file : Str) == Str.ofString "/claim/cut.py") = true) (htop : (prog.main.scope.names.lookup (Str.ofString "super")).isSome = false)
    {x dx lA y dn : Addr} {es : Array DictEntry} {oy : Obj} {n nl : Nat} {kvs more : List (Str × Value)} {cs cs2 : List (Str × Int)} {vsL : List Value} {o1 o2 od2 : Obj} {nw : List (Addr × Obj)} {vW : Option Value} {v0 : Option Value} {vG : Value} {pl xx f r : Int} {tp tx tf tr : Tok} {Ld : List (Str × Int)}
    (h1 : o1.data = .cell v0) (h2 : o2.data = .cell (some (.ref lA))) (hTl : TupsIn nw vsL Ld) (hlen : Ld.length + 6 ≤ 3000) (hcl : cs.length ≤ Ld.length)
    (D : DIs (PySem.strKind prog w) es kvs) (hi : Ints kvs cs) (hpl : pl = 0 → cs = []) (hsx : (x == sysModules) = false)
    (G : Given prog w nw vG (newsOf f r)) (hG : Int.fmod f 4 = 0 ∨ Int.fmod f 4 = 1 ∨ ∃ yG kvs, vG = .ref yG ∧ MapIn prog w yG nw kvs ∧ Ints kvs (tabc r) ∧ (yG == sysModules) = false)
    (hmo : Named more cs2) (hcs2 : cs2 = if 4 ≤ f then tabc (r + 1) else []) (hdn : (dn, od2) ∈ nw) (hod : od2.IsDictOf (PySem.strKind prog w) more) (hsn : (dn == sysModules) = false)
    (hnw : ∀ p ∈ nw, p.1 ≠ lA) (hnx : ∀ p ∈ nw, p.1 ≠ x) (hnc : ∀ p ∈ nw, @Ne Nat p.1 (L1 + 1 + 1)) (hoff : x ≠ lA ∧ dx ≠ lA ∧ L1 + 1 + 1 ≠ lA ∧ L1 + 1 ≠ lA ∧ y ≠ lA) (hxc : @Ne Nat x (L1 + 1 + 1)) (hdc : @Ne Nat dx (L1 + 1 + 1)) (hlc : @Ne Nat lA (L1 + 1 + 1)) (hcc : @Ne Nat (L1 + 1) (L1 + 1 + 1)) (hyc : @Ne Nat y (L1 + 1 + 1)) (hxy : y ≠ x) (hxc1 : L1 + 1 ≠ x)
    (B1 : Below callerA base [] g1) (X1 : (Mine.hd06.heap_39 w.params).In g1) (T1 : Top vw ls mean mg mb g1)
    (F1 : Fr g1 L1 s.heap (mL x y (some (.int pl tp)) (some (.int xx tx)) (some (.int f tf)) (some (.int r tr)) (some vG) (some (.ref dn)) vW)) (N1 : News g1 L1 s.heap (nL L1 x dx lA y es n vsL nl o1 o2 oy nw))
    (k : ∀ h' tk x' dx' es' n' kvs' o1' tsg vs' nl' nw' vW', DIs (PySem.strKind prog w) es' kvs' → Ints kvs' (gains (sgnOf pl xx) (gains (sgnOf pl xx) cs (newsOf f r)) (if 4 ≤ f then tabc (r + 1) else [])) → o1'.data = .cell (some (.int (sgnOf pl xx) tsg)) → (x' == sysModules) = false →
      TupsIn nw' vs' (Ld ++ (newsOf f r ++ if 4 ≤ f then tabc (r + 1) else []).map fun p => (p.1, sgnOf pl xx * p.2)) → (∀ p ∈ nw, p ∈ nw') → Fr g1 L1 h' (mL x' y (some (.int pl tp)) (some (.int xx tx)) (some (.int f tf)) (some (.int r tr)) (some vG) (some (.ref dn)) vW') → News g1 L1 h' (nL L1 x' dx' lA y es' n' vs' nl' o1' o2 oy nw') → Q .next { s with heap := h', toks := tk }) :
    wpAny (model prog w) (callerA.deeper (envOfC qual scope L1 1121 cdv)) (execs ((loopBody body).drop ((loopBody body).length - 6)) (envOfC qual scope L1 1121 cdv)) Q E s := by
  have e := ho.symm.trans (by k_is : (Mine.hd06.heap_39 w.params).lookup 1121 = some _)
  cases e
  dsimp only [loopBody, List.drop, List.length]
  k_steps
  · unfold Halt
    rename_i h2' o' F2 N2 d2 hp
    obtain rfl := hpl hp
    have hsg : sgnOf pl xx = 1 := if_pos hp
    rw [hsg] at k
    have hnl : (newsOf f r).length ≤ 4 := newsOf_len f r
    refine ⟨dn, od2, more, _, F2, N2, fun h' F' N' => keeps_K (c_cnt_keep _) h' (X1.keeps F'.keep), by simp [hdn], hod, hsn, by have := hmo.length; rw [PySem.sizeLine_eq]; omega, fun s' Q E F' q => wpAny_Name (wpAny_loadName_local rfl rfl F'.ns rfl q) (by decide), fun h4 tk4 F4 N4 => ?_⟩
    refine make_initD hmo (by exact rfl) (by exact rfl) (by exact rfl) (by exact rfl) (by exact rfl) (Nat.le_of_ble_eq_true rfl) (Nat.le_of_ble_eq_true rfl) hfile htop (G.sub (by kqd_sub)) (by omega) B1 F4 X1 N4 T1 ?_
    intro x5 dx5 h5 tk5 es5 n5 kvs5 D5 hi5 F5 N5 l5 lx5 hs5
    have q1 := l5 (lA, listOf vsL.toArray nl) (by k_mem)
    replace N5 := news_sub (l' := nL L1 x5 dx5 lA y es5 n5 vsL nl o' o2 oy nw) N5 (by kqd_sub)
    clear l5
    dsimp only
    k_steps
    unfold Halt
    rename_i h6 F6 N6
    refine Blk_c (L1 := L1) (g1 := g1) (es := es5) (n := n5) (nl := nl) (oy := oy) (vsL := vsL) (x := x5) (dx := dx5) (o1 := o') (o2 := o2) (nw := nw) (Ld := Ld) (sg := 1) ho d2 h2 hTl (by omega) hG hnw (.inl rfl) ⟨Nat.ne_of_gt (Nat.lt_trans q1 lx5), Nat.ne_of_gt q1, hoff.2.2⟩ B1 X1 T1 (fr_fun F6 fun z => mL_bag z) N6 (fun h7 tk7 vs7 nl7 nw7 vW7 hT7 hs7 F7 N7 => k h7 tk7 x5 dx5 es5 n5 kvs5 o' _ vs7 nl7 nw7 vW7 D5 (hcs2 ▸ hi5) d2 hs5 hT7 hs7 F7 N7)
  · unfold Halt
    rename_i h2' o' F2 N2 d2 hp tk2 hx
    refine cnt_meth_K F2 X1 N2 (by k_mem) (by k_mem) (c_upd _) (c_upd_get _) (c_upd_takes _) (c_upd_fn _) (by decide) ?_
    intro q3 h3 F3 N3 l3
    k_steps
    unfold Halt
    have hsg : sgnOf pl xx = 1 := by unfold sgnOf; rw [if_neg hp, if_pos hx]
    rw [hsg] at k
    have hnl : (newsOf f r).length ≤ 4 := newsOf_len f r
    refine ⟨dn, od2, more, _, F3, N3, keeps_meth X1 (c_upd_isfn _) (.head _), by simp [hdn], hod, hsn, by have := hmo.length; rw [PySem.sizeLine_eq]; omega, fun s' Q E F' q => wpAny_Name (wpAny_loadName_local rfl rfl F'.ns rfl q) (by decide), fun h4 tk4 F4 N4 => ?_⟩
    refine call_meth N4 (.head _) ?_
    refine use_code 13 rfl rfl rfl rfl rfl (Nat.le_of_ble_eq_true rfl) (Nat.le_of_ble_eq_true rfl) (upd_specD (n := n) (dx := dx) (rest := (q3, methodObj (.ref 936) (.ref x)) :: (lA, listOf vsL.toArray nl) :: (L1 + 1 + 1, o') :: (L1 + 1, o2) :: (y, oy) :: nw) (Nat.le_refl _) hmo hfile htop (G.sub (by kqd_sub)) D hi hsx (by omega) ?_ B1 F4 X1 (news_sub N4 (by kqd_sub)) T1 ?_)
    · intro p hp
      simp only [List.mem_cons] at hp
      rcases hp with rfl | rfl | rfl | rfl | rfl | hp
      · exact Nat.ne_of_gt (l3 (x, cnt es n dx) (by k_mem))
      · exact Ne.symm hoff.1
      · exact Ne.symm hxc
      · exact hxc1
      · exact hxy
      · exact hnx p hp
    · intro h5 tk5 es5 n5 kvs5 D5 hi5 F5 N5
      replace N5 := news_sub (l' := nL L1 x dx lA y es5 n5 vsL nl o' o2 oy nw) N5 (by kqd_sub)
      clear l3 N3 N4
      dsimp only
      k_steps
      unfold Halt
      refine Blk_c (L1 := L1) (g1 := g1) (es := es5) (n := n5) (nl := nl) (oy := oy) (vsL := vsL) (x := x) (dx := dx) (o1 := o') (o2 := o2) (nw := nw) (Ld := Ld) (sg := 1) ho d2 h2 hTl (by omega) hG hnw (.inl rfl) hoff B1 X1 T1 F5 N5 (fun h7 tk7 vs7 nl7 nw7 vW7 hT7 hs7 F7 N7 => k h7 tk7 x dx es5 n5 kvs5 o' _ vs7 nl7 nw7 vW7 D5 (hcs2 ▸ hi5) d2 hsx hT7 hs7 F7 N7)
  · unfold Halt
    rename_i h2' o' F2 N2 d2 hp tk2 hx
    refine cnt_meth_K F2 X1 N2 (by k_mem) (by k_mem) (c_subt _) (c_subt_get _) (c_subt_takes _) (c_subt_fn _) (by decide) ?_
    intro q3 h3 F3 N3 l3
    k_steps
    unfold Halt
    have hsg : sgnOf pl xx = -1 := by unfold sgnOf; rw [if_neg hp, if_neg hx]
    rw [hsg] at k
    have hnl : (newsOf f r).length ≤ 4 := newsOf_len f r
    refine ⟨dn, od2, more, _, F3, N3, keeps_meth X1 (c_subt_isfn _) (.head _), by simp [hdn], hod, hsn, by have := hmo.length; rw [PySem.sizeLine_eq]; omega, fun s' Q E F' q => wpAny_Name (wpAny_loadName_local rfl rfl F'.ns rfl q) (by decide), fun h4 tk4 F4 N4 => ?_⟩
    refine call_meth N4 (.head _) ?_
    refine use_code 13 rfl rfl rfl rfl rfl (Nat.le_of_ble_eq_true rfl) (Nat.le_of_ble_eq_true rfl) (sub_specD (n := n) (dx := dx) (rest := (q3, methodObj (.ref 944) (.ref x)) :: (lA, listOf vsL.toArray nl) :: (L1 + 1 + 1, o') :: (L1 + 1, o2) :: (y, oy) :: nw) (Nat.le_refl _) hmo hfile htop (G.sub (by kqd_sub)) D hi hsx (by omega) ?_ B1 F4 X1 (news_sub N4 (by kqd_sub)) T1 ?_)
    · intro p hp
      simp only [List.mem_cons] at hp
      rcases hp with rfl | rfl | rfl | rfl | rfl | hp
      · exact Nat.ne_of_gt (l3 (x, cnt es n dx) (by k_mem))
      · exact Ne.symm hoff.1
      · exact Ne.symm hxc
      · exact hxc1
      · exact hxy
      · exact hnx p hp
    · intro h5 tk5 es5 n5 kvs5 D5 hi5 F5 N5
      replace N5 := news_sub (l' := nL L1 x dx lA y es5 n5 vsL nl o' o2 oy nw) N5 (by kqd_sub)
      clear l3 N3 N4
      dsimp only
      k_steps
      unfold Halt
      rename_i h6 o6 F6 N6 d6
      refine Blk_c (L1 := L1) (g1 := g1) (es := es5) (n := n5) (nl := nl) (oy := oy) (vsL := vsL) (x := x) (dx := dx) (o1 := o6) (o2 := o2) (nw := nw) (Ld := Ld) (sg := -1) ho d6 h2 hTl (by omega) hG hnw (.inr rfl) hoff B1 X1 T1 F6 N6 (fun h7 tk7 vs7 nl7 nw7 vW7 hT7 hs7 F7 N7 => k h7 tk7 x dx es5 n5 kvs5 o6 _ vs7 nl7 nw7 vW7 D5 (hcs2 ▸ hi5) d6 hsx hT7 hs7 F7 N7)
end
end Mine
end
section
open PySem PySem.W PyProof.Rows PyProof.V PySem.Calls PySem.Spec Builtin Builtin.ObjectAttr
set_option Elab.async false
set_option maxRecDepth 100000
set_option maxHeartbeats 3000000
namespace Mine
local macro_rules | `(tactic| k_ownIn) => `(tactic| first | assumption | exact List.mem_append_left _ (by assumption) | (refine List.mem_append_right _ ?_; k_ownIn) | (refine List.Mem.tail _ ?_; k_ownIn))
local macro_rules | `(tactic| k_mem) => `(tactic| (refine List.mem_append_right _ ?_; k_mem))
local macro_rules | `(tactic| kqd_sub) => `(tactic| (intro p9 h9; k_ownIn))
theorem fillL7 : PySem.Challenge.rw_dn0005_06 = PySem.Challenge.rw_dn0005_06 ∧ Mine.hd06.heap_39 = Mine.hd06.heap_39 := by
  k_fill
  exact ⟨rfl, rfl⟩
theorem ne_obj {h₀ h : Heap} {L a b : Addr} {o p : Obj} {news : List (Addr × Obj)} (N : News h₀ L h news) (ha : (a, o) ∈ news) (hb : (b, p) ∈ news) (hd : o ≠ p) : a ≠ b := by
  intro e
  subst e
  have x := (N _ ha).1
  have y := (N _ hb).1
  dsimp only at x y
  rw [x] at y
  exact hd (Option.some.inj y)
theorem ne_data {o p : Obj} (h : o.data ≠ p.data) : o ≠ p := fun e => h (congrArg Obj.data e)
theorem ne_clss {o p : Obj} (h : o.cls ≠ p.cls) : o ≠ p := fun e => h (congrArg Obj.cls e)
theorem dict_cls {prog : Program} {w : World} {o : Obj} {kvs : List (Str × Value)} (h : o.IsDictOf (PySem.strKind prog w) kvs) : o.cls = .type "dict" := h.choose_spec.choose_spec.1.1
theorem dict_cell {prog : Program} {w : World} {o p : Obj} {kvs : List (Str × Value)} {v : Option Value} (h : o.IsDictOf (PySem.strKind prog w) kvs) (hp : p.data = .cell v) : o ≠ p := by
  obtain ⟨es, n, hd, _⟩ := isDict_DIs h
  refine ne_data ?_
  rw [hd, hp]
  intro e
  cases e
theorem mL_named {x y : Addr} {vp vx vf vr vg vn vW : Option Value} {a : Value} (z : Str) : (if z = Str.ofString "named" then some a else mL x y vp vx vf vr vg vn vW z) = mL x y vp vx vf vr vg (some a) vW z := by
  unfold mL
  by_cases h1 : z = Str.ofString "named"
  · subst h1; rfl
  · simp only [if_neg h1]
local macro_rules | `(tactic| walk_at "call ref") => `(tactic| (refine halt ?_))
local macro_rules | `(tactic| walk_at "execs cons") => `(tactic| ((with_reducible show wpAny _ _ (execs [_, _, _, _, _, Stmt.Expr _ _] _) _ _ _); refine halt ?_))
section
variable {prog : Program} {w : World} {A₀ : Around} {base g1 : Heap} {outer : List Env} {e0 : Env} {L L1 : Addr} {mg mb : Str → Option Value} {mean : ExcName → Option Value} {s : Shared} {Q : Flow → Shared → Prop} {E : Value → Shared → Prop}
theorem Blk_n {name qual : Str} {params : Arguments} {body : List Stmt} {scope : Scope} {dV kV doc pm cdv ct oc : Value} {an od : Option Addr} {osl : Array (Option Value)}
    (ho : (Mine.hd06.heap_39 w.params).lookup 1121 = some ⟨oc, od, .func (fnOf name qual params body scope dV kV doc pm an cdv ct), osl⟩)
    (hfile : ((prog.main.file : Str) == Str.ofString "/claim/cut.py") = true) (htop : (prog.main.scope.names.lookup (Str.ofString "super")).isSome = false)
    {x dx lA y : Addr} {es : Array DictEntry} {oy : Obj} {n nl : Nat} {kvs : List (Str × Value)} {cs : List (Str × Int)} {vsL : List Value} {o1 o2 : Obj} {nw : List (Addr × Obj)} {vN vW : Option Value} {v0 : Option Value} {vG : Value} {pl xx f r : Int} {tp tx tf tr : Tok} {Ld : List (Str × Int)}
    (h1 : o1.data = .cell v0) (h2 : o2.data = .cell (some (.ref lA))) (hTl : TupsIn nw vsL Ld) (hlen : Ld.length + 6 ≤ 3000) (hcl : cs.length ≤ Ld.length)
    (D : DIs (PySem.strKind prog w) es kvs) (hi : Ints kvs cs) (hpl : pl = 0 → cs = []) (hsx : (x == sysModules) = false)
    (G : Given prog w nw vG (newsOf f r)) (hG : Int.fmod f 4 = 0 ∨ Int.fmod f 4 = 1 ∨ ∃ yG kvs, vG = .ref yG ∧ MapIn prog w yG nw kvs ∧ Ints kvs (tabc r) ∧ (yG == sysModules) = false)
    (hnw : ∀ p ∈ nw, p.1 ≠ lA) (hnx : ∀ p ∈ nw, p.1 ≠ x) (hnc : ∀ p ∈ nw, @Ne Nat p.1 (L1 + 1 + 1)) (hoff : x ≠ lA ∧ dx ≠ lA ∧ L1 + 1 + 1 ≠ lA ∧ L1 + 1 ≠ lA ∧ y ≠ lA) (hxc : @Ne Nat x (L1 + 1 + 1)) (hdc : @Ne Nat dx (L1 + 1 + 1)) (hlc : @Ne Nat lA (L1 + 1 + 1)) (hcc : @Ne Nat (L1 + 1) (L1 + 1 + 1)) (hyc : @Ne Nat y (L1 + 1 + 1)) (hxy : y ≠ x) (hxc1 : L1 + 1 ≠ x)
    (B1 : Below callerA base [] g1) (X1 : (Mine.hd06.heap_39 w.params).In g1) (T1 : Top vw ls mean mg mb g1)
    (F1 : Fr g1 L1 s.heap (mL x y (some (.int pl tp)) (some (.int xx tx)) (some (.int f tf)) (some (.int r tr)) (some vG) vN vW)) (N1 : News g1 L1 s.heap (nL L1 x dx lA y es n vsL nl o1 o2 oy nw))
    (k : ∀ h' tk x' dx' es' n' kvs' o1' tsg vs' nl' nw' vN' vW', DIs (PySem.strKind prog w) es' kvs' → Ints kvs' (gains (sgnOf pl xx) (gains (sgnOf pl xx) cs (newsOf f r)) (if 4 ≤ f then tabc (r + 1) else [])) → o1'.data = .cell (some (.int (sgnOf pl xx) tsg)) → (x' == sysModules) = false →
      TupsIn nw' vs' (Ld ++ (newsOf f r ++ if 4 ≤ f then tabc (r + 1) else []).map fun p => (p.1, sgnOf pl xx * p.2)) → (∀ p ∈ nw, p ∈ nw') → Fr g1 L1 h' (mL x' y (some (.int pl tp)) (some (.int xx tx)) (some (.int f tf)) (some (.int r tr)) (some vG) vN' vW') → News g1 L1 h' (nL L1 x' dx' lA y es' n' vs' nl' o1' o2 oy nw') → Q .next { s with heap := h', toks := tk }) :
    wpAny (model prog w) (callerA.deeper (envOfC qual scope L1 1121 cdv)) (execs ((loopBody body).drop ((loopBody body).length - 7)) (envOfC qual scope L1 1121 cdv)) Q E s := by
  have e := ho.symm.trans (by k_is : (Mine.hd06.heap_39 w.params).lookup 1121 = some _)
  cases e
  dsimp only [loopBody, List.drop, List.length]
  k_steps
  · unfold Halt
    have hf4 : 4 ≤ f := by assumption
    refine use_at 19 (by exact rfl) (by exact rfl) (by exact rfl) (by exact rfl) (by exact rfl) (Nat.le_of_ble_eq_true rfl) (Nat.le_of_ble_eq_true rfl) (spec_table B1 F1 X1 N1 T1 ?_)
    intro hp2 D2 oD t1 t2 tk2 hs2 hD F2 N2
    dsimp only
    k_steps
    unfold Halt
    rename_i h3 F3 N3
    refine Blk_b (L1 := L1) (g1 := g1) (es := es) (n := n) (nl := nl) (oy := oy) (vsL := vsL) (x := x) (dx := dx) (o1 := o1) (o2 := o2) (Ld := Ld) (nw := (D2, oD) :: nw) (dn := D2) (od2 := oD) (more := tab (r + 1) t1 t2) (cs2 := tabc (r + 1)) ho hfile htop h1 h2 (hTl.sub fun p hp => .tail _ hp) hlen hcl D hi hpl hsx (G.sub fun p hp => .tail _ hp) ?_ (.two (nm_ne (r + 1))) (by rw [if_pos hf4]) (.head _) hD hs2 ?_ ?_ ?_ hoff hxc hdc hlc hcc hyc hxy hxc1 B1 X1 T1 (fr_fun F3 fun z => mL_named z) (news_sub N3 (by kqd_sub)) (fun h7 tk7 x7 dx7 es7 n7 kvs7 o7 tsg7 vs7 nl7 nw7 vW7 D7 hi7 d7 hs7 hT7 hsub7 F7 N7 => k h7 tk7 x7 dx7 es7 n7 kvs7 o7 tsg7 vs7 nl7 nw7 _ vW7 D7 hi7 d7 hs7 hT7 (fun p hp => hsub7 p (.tail _ hp)) F7 N7)
    · rcases hG with h | h | ⟨yG, kv, a, b, c⟩
      · exact .inl h
      · exact .inr (.inl h)
      · exact .inr (.inr ⟨yG, kv, a, b.sub (fun p hp => .tail _ hp), c⟩)
    · intro p hp
      rcases List.mem_cons.mp hp with rfl | hp
      · exact ne_obj N3 (.head _) (b := lA) (p := listOf vsL.toArray nl) (by k_mem) (ne_clss (by rw [dict_cls hD]; show Value.type "dict" ≠ Value.type "list"; decide))
      · exact hnw p hp
    · intro p hp
      rcases List.mem_cons.mp hp with rfl | hp
      · exact ne_obj N3 (.head _) (b := x) (p := cnt es n dx) (by k_mem) (ne_clss (by rw [dict_cls hD]; intro e; cases e))
      · exact hnx p hp
    · intro p hp
      rcases List.mem_cons.mp hp with rfl | hp
      · exact ne_obj N3 (.head _) (b := L1 + 1 + 1) (p := o1) (by k_mem) (dict_cell hD h1)
      · exact hnc p hp
  · unfold Halt
    rename_i hf4 D2 h2' oD hs2 hD hf1 hI hf2 l2 h3 F3 N3
    refine Blk_b (L1 := L1) (g1 := g1) (es := es) (n := n) (nl := nl) (oy := oy) (vsL := vsL) (x := x) (dx := dx) (o1 := o1) (o2 := o2) (Ld := Ld) (nw := (D2, oD) :: nw) (dn := D2) (od2 := oD) (more := []) (cs2 := []) ho hfile htop h1 h2 (hTl.sub fun p hp => .tail _ hp) hlen hcl D hi hpl hsx (G.sub fun p hp => .tail _ hp) ?_ .nil (by rw [if_neg hf4]) (.head _) hD hs2 ?_ ?_ ?_ hoff hxc hdc hlc hcc hyc hxy hxc1 B1 X1 T1 (fr_fun F3 fun z => mL_named z) (news_sub N3 (by kqd_sub)) (fun h7 tk7 x7 dx7 es7 n7 kvs7 o7 tsg7 vs7 nl7 nw7 vW7 D7 hi7 d7 hs7 hT7 hsub7 F7 N7 => k h7 tk7 x7 dx7 es7 n7 kvs7 o7 tsg7 vs7 nl7 nw7 _ vW7 D7 hi7 d7 hs7 hT7 (fun p hp => hsub7 p (.tail _ hp)) F7 N7)
    · rcases hG with h | h | ⟨yG, kv, a, b, c⟩
      · exact .inl h
      · exact .inr (.inl h)
      · exact .inr (.inr ⟨yG, kv, a, b.sub (fun p hp => .tail _ hp), c⟩)
    · intro p hp
      rcases List.mem_cons.mp hp with rfl | hp
      · exact Nat.ne_of_gt l2.2.2.1
      · exact hnw p hp
    · intro p hp
      rcases List.mem_cons.mp hp with rfl | hp
      · exact Nat.ne_of_gt l2.1
      · exact hnx p hp
    · intro p hp
      rcases List.mem_cons.mp hp with rfl | hp
      · exact Nat.ne_of_gt l2.2.2.2.1
      · exact hnc p hp
end
end Mine
end
section
open PySem PySem.W PyProof.Rows PyProof.V PySem.Calls PySem.Spec Builtin Builtin.ObjectAttr
set_option Elab.async false
set_option maxRecDepth 100000
set_option maxHeartbeats 3000000
namespace Mine
theorem fillL8 : PySem.Challenge.rw_dn0005_06 = PySem.Challenge.rw_dn0005_06 ∧ Mine.hd06.heap_39 = Mine.hd06.heap_39 := by
  k_fill
  exact ⟨rfl, rfl⟩
theorem mL_given {x y : Addr} {vp vx vf vr vg vn vW : Option Value} {a : Value} (z : Str) : (if z = Str.ofString "given" then some a else mL x y vp vx vf vr vg vn vW z) = mL x y vp vx vf vr (some a) vn vW z := by
  unfold mL
  by_cases h1 : z = Str.ofString "given"
  · subst h1; rfl
  · simp only [if_neg h1]
theorem mL_fr {x y : Addr} {vp vx vf vr vg vn vW : Option Value} {a b : Value} (z : Str) : (if z = Str.ofString "form" then some a else if z = Str.ofString "rest" then some b else mL x y vp vx vf vr vg vn vW z) = mL x y vp vx (some a) (some b) vg vn vW z := by
  unfold mL
  by_cases h1 : z = Str.ofString "form"
  · subst h1; rfl
  · by_cases h2 : z = Str.ofString "rest"
    · subst h2; rfl
    · simp only [if_neg h1, if_neg h2]
local macro_rules | `(tactic| kqd_sub) => `(tactic| (intro p9 h9; k_ownIn))
local macro_rules | `(tactic| walk_at "call ref") => `(tactic| (refine halt ?_))
local macro_rules | `(tactic| walk_at "subscriptTail") => `(tactic| (refine halt ?_))
local macro_rules | `(tactic| walk_at "execs cons") => `(tactic| ((with_reducible show wpAny _ _ (execs [_, _, _, _, _, _, Stmt.Expr _ _] _) _ _ _); refine halt ?_))
section
variable {prog : Program} {w : World} {A₀ : Around} {base g1 : Heap} {outer : List Env} {e0 : Env} {L L1 : Addr} {mg mb : Str → Option Value} {mean : ExcName → Option Value} {s : Shared} {Q : Flow → Shared → Prop} {E : Value → Shared → Prop}
theorem Blk_a {name qual : Str} {params : Arguments} {body : List Stmt} {scope : Scope} {dV kV doc pm cdv ct oc : Value} {an od : Option Addr} {osl : Array (Option Value)}
    (ho : (Mine.hd06.heap_39 w.params).lookup 1121 = some ⟨oc, od, .func (fnOf name qual params body scope dV kV doc pm an cdv ct), osl⟩)
    (hfile : ((prog.main.file : Str) == Str.ofString "/claim/cut.py") = true) (htop : (prog.main.scope.names.lookup (Str.ofString "super")).isSome = false)
    {x dx lA y : Addr} {es : Array DictEntry} {oy : Obj} {n nl : Nat} {kvs : List (Str × Value)} {cs : List (Str × Int)} {vsL : List Value} {o1 o2 : Obj} {nw : List (Addr × Obj)} {vF vR vG vN vW : Option Value} {v0 : Option Value} {pl xx f r : Int} {tp tx : Tok} {Ld : List (Str × Int)}
    (hf : f = Int.fmod (Int.fdiv xx 2) 8) (hr : r = Int.fdiv xx 16)
    (h1 : o1.data = .cell v0) (h2 : o2.data = .cell (some (.ref lA))) (hTl : TupsIn nw vsL Ld) (hlen : Ld.length + 6 ≤ 3000) (hcl : cs.length ≤ Ld.length)
    (D : DIs (PySem.strKind prog w) es kvs) (hi : Ints kvs cs) (hpl : pl = 0 → cs = []) (hsx : (x == sysModules) = false)
    (hnw : ∀ p ∈ nw, p.1 ≠ lA) (hnx : ∀ p ∈ nw, p.1 ≠ x) (hnc : ∀ p ∈ nw, @Ne Nat p.1 (L1 + 1 + 1)) (hoff : x ≠ lA ∧ dx ≠ lA ∧ L1 + 1 + 1 ≠ lA ∧ L1 + 1 ≠ lA ∧ y ≠ lA) (hxc : @Ne Nat x (L1 + 1 + 1)) (hdc : @Ne Nat dx (L1 + 1 + 1)) (hlc : @Ne Nat lA (L1 + 1 + 1)) (hcc : @Ne Nat (L1 + 1) (L1 + 1 + 1)) (hyc : @Ne Nat y (L1 + 1 + 1)) (hxy : y ≠ x) (hxc1 : L1 + 1 ≠ x)
    (B1 : Below callerA base [] g1) (X1 : (Mine.hd06.heap_39 w.params).In g1) (T1 : Top vw ls mean mg mb g1)
    (F1 : Fr g1 L1 s.heap (mL x y (some (.int pl tp)) (some (.int xx tx)) vF vR vG vN vW)) (N1 : News g1 L1 s.heap (nL L1 x dx lA y es n vsL nl o1 o2 oy nw))
    (k : ∀ h' tk x' dx' es' n' kvs' o1' tsg vs' nl' nw' vF' vR' vG' vN' vW', DIs (PySem.strKind prog w) es' kvs' → Ints kvs' (gains (sgnOf pl xx) (gains (sgnOf pl xx) cs (newsOf f r)) (if 4 ≤ f then tabc (r + 1) else [])) → o1'.data = .cell (some (.int (sgnOf pl xx) tsg)) → (x' == sysModules) = false →
      TupsIn nw' vs' (Ld ++ (newsOf f r ++ if 4 ≤ f then tabc (r + 1) else []).map fun p => (p.1, sgnOf pl xx * p.2)) → (∀ p ∈ nw, p ∈ nw') → Fr g1 L1 h' (mL x' y (some (.int pl tp)) (some (.int xx tx)) vF' vR' vG' vN' vW') → News g1 L1 h' (nL L1 x' dx' lA y es' n' vs' nl' o1' o2 oy nw') → Q .next { s with heap := h', toks := tk }) :
    wpAny (model prog w) (callerA.deeper (envOfC qual scope L1 1121 cdv)) (execs (loopBody body) (envOfC qual scope L1 1121 cdv)) Q E s := by
  have e := ho.symm.trans (by k_is : (Mine.hd06.heap_39 w.params).lookup 1121 = some _)
  cases e
  subst hf hr
  dsimp only [loopBody]
  k_steps
  unfold Halt
  rename_i D0 hh2 l0 hh3 hh4 h5 F5 N5
  replace F5 := fr_fun F5 fun z => mL_fr z
  replace N5 := news_sub (l' := nL L1 x dx lA y es n vsL nl o1 o2 oy nw) N5 fun p hp => .tail _ hp
  clear l0
  refine use_at 19 (by exact rfl) (by exact rfl) (by exact rfl) (by exact rfl) (by exact rfl) (Nat.le_of_ble_eq_true rfl) (Nat.le_of_ble_eq_true rfl) (spec_listed2 B1 F5 X1 N5 T1 ?_)
  intro h6 D6 ys6 tk6 hN6 F6 N6 off6
  dsimp only
  k_steps
  unfold Halt
  refine use_at 19 (by exact rfl) (by exact rfl) (by exact rfl) (by exact rfl) (by exact rfl) (Nat.le_of_ble_eq_true rfl) (Nat.le_of_ble_eq_true rfl) (spec_table B1 F6 X1 N6 T1 ?_)
  intro h7 D7 oD7 t1 t2 tk7 hs7 hD7 F7 N7
  dsimp only
  k_steps
  unfold Halt
  refine use_at 19 (by exact rfl) (by exact rfl) (by exact rfl) (by exact rfl) (by exact rfl) (Nat.le_of_ble_eq_true rfl) (Nat.le_of_ble_eq_true rfl) (spec_table B1 F7 X1 N7 T1 ?_)
  intro h8 D8 oD8 t3 t4 tk8 hs8 hD8 F8 N8
  dsimp only
  k_steps
  unfold Halt
  refine make_init0 (by exact rfl) (by exact rfl) (by exact rfl) (by exact rfl) (by exact rfl) (Nat.le_of_ble_eq_true rfl) (Nat.le_of_ble_eq_true rfl) hfile htop (.map (.inl ⟨oD8, .head _, hD8⟩) (Nat.le_of_ble_eq_true rfl) (tab_ints _ t3 t4) hs8) (Nat.le_of_ble_eq_true rfl) B1 F8 X1 N8 T1 ?_
  intro x9 dx9 h9 tk9 es9 n9 kvs9 D9 hi9 F9 N9 l9 lx9 hs9
  have hg9 : gains 1 (gains 1 [] (tabc (Int.fdiv xx 16))) [] = tabc (Int.fdiv xx 16) := gains_nil (by simp [tabc, nm_ne])
  rw [hg9] at hi9
  dsimp only
  k_steps
  unfold Halt
  rename_i l10 h10 F10 N10 lt10
  have hfm : ∀ q : Int, Int.fmod q 4 = q % 4 := fun q => Int.fmod_eq_emod_of_nonneg q (by decide)
  have low : ∀ p ∈ nL L1 x dx lA y es n vsL nl o1 o2 oy nw, p.1 < dx9 := fun p hp => l9 p (.tail _ (.tail _ (.tail _ hp)))
  have qx := low (x, cnt es n dx) (by k_mem)
  have ql := low (lA, listOf vsL.toArray nl) (by k_mem)
  have qc := low (L1 + 1 + 1, o1) (by k_mem)
  have hnw10 : ∀ p ∈ (x9, cnt es9 n9 dx9) :: (dx9, dictOf [] 0) :: (D8, oD8) :: (D7, oD7) :: (D6, LCg.lst ys6) :: nw, p.1 ≠ lA := by
    intro p hp
    simp only [List.mem_cons] at hp
    rcases hp with rfl | rfl | rfl | rfl | rfl | hp
    · exact Nat.ne_of_gt (Nat.lt_trans ql lx9)
    · exact Nat.ne_of_gt ql
    · exact ne_obj N10 (a := D8) (o := oD8) (by k_mem) (b := lA) (p := listOf vsL.toArray nl) (by k_mem) (ne_clss (by rw [dict_cls hD8]; show Value.type "dict" ≠ Value.type "list"; decide))
    · exact ne_obj N10 (a := D7) (o := oD7) (by k_mem) (b := lA) (p := listOf vsL.toArray nl) (by k_mem) (ne_clss (by rw [dict_cls hD7]; show Value.type "dict" ≠ Value.type "list"; decide))
    · exact Ne.symm (off6 (lA, listOf vsL.toArray nl) (by k_mem))
    · exact hnw p hp
  have hnx10 : ∀ p ∈ (x9, cnt es9 n9 dx9) :: (dx9, dictOf [] 0) :: (D8, oD8) :: (D7, oD7) :: (D6, LCg.lst ys6) :: nw, p.1 ≠ x := by
    intro p hp
    simp only [List.mem_cons] at hp
    rcases hp with rfl | rfl | rfl | rfl | rfl | hp
    · exact Nat.ne_of_gt (Nat.lt_trans qx lx9)
    · exact Nat.ne_of_gt qx
    · exact ne_obj N10 (a := D8) (o := oD8) (by k_mem) (b := x) (p := cnt es n dx) (by k_mem) (ne_clss (by rw [dict_cls hD8]; intro e; cases e))
    · exact ne_obj N10 (a := D7) (o := oD7) (by k_mem) (b := x) (p := cnt es n dx) (by k_mem) (ne_clss (by rw [dict_cls hD7]; intro e; cases e))
    · exact Ne.symm (off6 (x, cnt es n dx) (by k_mem))
    · exact hnx p hp
  have hnc10 : ∀ p ∈ (x9, cnt es9 n9 dx9) :: (dx9, dictOf [] 0) :: (D8, oD8) :: (D7, oD7) :: (D6, LCg.lst ys6) :: nw, @Ne Nat p.1 (L1 + 1 + 1) := by
    intro p hp
    simp only [List.mem_cons] at hp
    rcases hp with rfl | rfl | rfl | rfl | rfl | hp
    · exact Nat.ne_of_gt (Nat.lt_trans qc lx9)
    · exact Nat.ne_of_gt qc
    · exact ne_obj N10 (a := D8) (o := oD8) (by k_mem) (b := L1 + 1 + 1) (p := o1) (by k_mem) (dict_cell hD8 h1)
    · exact ne_obj N10 (a := D7) (o := oD7) (by k_mem) (b := L1 + 1 + 1) (p := o1) (by k_mem) (dict_cell hD7 h1)
    · exact Ne.symm (off6 (L1 + 1 + 1, o1) (by k_mem))
    · exact hnc p hp
  clear l9 low lt10
  refine item4 N10 (.head _) (by with_unfolding_all rfl) (fun q => ?_) (fun q => ?_) (fun q => ?_) (fun q => ?_)
  · have hq : Int.fmod (Int.fmod (Int.fdiv xx 2) 8) 4 = 0 := (hfm _).trans q
    have hnew : newsOf (Int.fmod (Int.fdiv xx 2) 8) (Int.fdiv xx 16) = [] := by unfold newsOf; rw [if_neg (by omega), if_pos hq]
    k_steps
    unfold Halt
    rename_i h11 F11 N11
    refine Blk_n (L1 := L1) (g1 := g1) (es := es) (n := n) (nl := nl) (oy := oy) (vsL := vsL) (x := x) (dx := dx) (o1 := o1) (o2 := o2) (Ld := Ld) (nw := (x9, cnt es9 n9 dx9) :: (dx9, dictOf [] 0) :: (D8, oD8) :: (D7, oD7) :: (D6, LCg.lst ys6) :: nw) ho hfile htop h1 h2 (hTl.sub (by kqd_sub)) hlen hcl D hi hpl hsx ?_ ?_ hnw10 hnx10 hnc10 hoff hxc hdc hlc hcc hyc hxy hxc1 B1 X1 T1 (fr_fun F11 fun z => mL_given z) (news_sub N11 (by kqd_sub)) (fun h7 tk7 x7 dx7 es7 n7 kvs7 o7 tsg7 vs7 nl7 nw7 vN7 vW7 D7 hi7 d7 hs7 hT7 hsub7 F7 N7 => k h7 tk7 x7 dx7 es7 n7 kvs7 o7 tsg7 vs7 nl7 nw7 _ _ _ vN7 vW7 D7 hi7 d7 hs7 hT7 (fun p hp => hsub7 p (by k_ownIn)) F7 N7)
    · rw [hnew]
      exact .none
    · exact .inl hq
  · have hq : Int.fmod (Int.fmod (Int.fdiv xx 2) 8) 4 = 1 := (hfm _).trans q
    have hnew : newsOf (Int.fmod (Int.fdiv xx 2) 8) (Int.fdiv xx 16) = ones (namesK (Int.fdiv xx 16)) := by unfold newsOf; rw [if_pos hq]
    k_steps
    unfold Halt
    rename_i h11 F11 N11
    refine Blk_n (L1 := L1) (g1 := g1) (es := es) (n := n) (nl := nl) (oy := oy) (vsL := vsL) (x := x) (dx := dx) (o1 := o1) (o2 := o2) (Ld := Ld) (nw := (x9, cnt es9 n9 dx9) :: (dx9, dictOf [] 0) :: (D8, oD8) :: (D7, oD7) :: (D6, LCg.lst ys6) :: nw) ho hfile htop h1 h2 (hTl.sub (by kqd_sub)) hlen hcl D hi hpl hsx ?_ ?_ hnw10 hnx10 hnc10 hoff hxc hdc hlc hcc hyc hxy hxc1 B1 X1 T1 (fr_fun F11 fun z => mL_given z) (news_sub N11 (by kqd_sub)) (fun h7 tk7 x7 dx7 es7 n7 kvs7 o7 tsg7 vs7 nl7 nw7 vN7 vW7 D7 hi7 d7 hs7 hT7 hsub7 F7 N7 => k h7 tk7 x7 dx7 es7 n7 kvs7 o7 tsg7 vs7 nl7 nw7 _ _ _ vN7 vW7 D7 hi7 d7 hs7 hT7 (fun p hp => hsub7 p (by k_ownIn)) F7 N7)
    · rw [hnew]
      exact .list (y := D6) (by k_mem) hN6.strs
    · exact .inr (.inl hq)
  · have hq : Int.fmod (Int.fmod (Int.fdiv xx 2) 8) 4 = 2 := (hfm _).trans q
    have hnew : newsOf (Int.fmod (Int.fdiv xx 2) 8) (Int.fdiv xx 16) = tabc (Int.fdiv xx 16) := by unfold newsOf; rw [if_neg (by omega), if_neg (by omega)]
    k_steps
    unfold Halt
    rename_i h11 F11 N11
    refine Blk_n (L1 := L1) (g1 := g1) (es := es) (n := n) (nl := nl) (oy := oy) (vsL := vsL) (x := x) (dx := dx) (o1 := o1) (o2 := o2) (Ld := Ld) (nw := (x9, cnt es9 n9 dx9) :: (dx9, dictOf [] 0) :: (D8, oD8) :: (D7, oD7) :: (D6, LCg.lst ys6) :: nw) ho hfile htop h1 h2 (hTl.sub (by kqd_sub)) hlen hcl D hi hpl hsx ?_ ?_ hnw10 hnx10 hnc10 hoff hxc hdc hlc hcc hyc hxy hxc1 B1 X1 T1 (fr_fun F11 fun z => mL_given z) (news_sub N11 (by kqd_sub)) (fun h7 tk7 x7 dx7 es7 n7 kvs7 o7 tsg7 vs7 nl7 nw7 vN7 vW7 D7 hi7 d7 hs7 hT7 hsub7 F7 N7 => k h7 tk7 x7 dx7 es7 n7 kvs7 o7 tsg7 vs7 nl7 nw7 _ _ _ vN7 vW7 D7 hi7 d7 hs7 hT7 (fun p hp => hsub7 p (by k_ownIn)) F7 N7)
    · rw [hnew]
      exact .map (.inl ⟨oD7, by simp, hD7⟩) (Nat.le_of_ble_eq_true rfl) (tab_ints _ t1 t2) hs7
    · exact .inr (.inr ⟨D7, _, rfl, .inl ⟨oD7, by simp, hD7⟩, tab_ints _ t1 t2, hs7⟩)
  · have hq : Int.fmod (Int.fmod (Int.fdiv xx 2) 8) 4 = 3 := (hfm _).trans q
    have hnew : newsOf (Int.fmod (Int.fdiv xx 2) 8) (Int.fdiv xx 16) = tabc (Int.fdiv xx 16) := by unfold newsOf; rw [if_neg (by omega), if_neg (by omega)]
    k_steps
    unfold Halt
    rename_i h11 F11 N11
    refine Blk_n (L1 := L1) (g1 := g1) (es := es) (n := n) (nl := nl) (oy := oy) (vsL := vsL) (x := x) (dx := dx) (o1 := o1) (o2 := o2) (Ld := Ld) (nw := (x9, cnt es9 n9 dx9) :: (dx9, dictOf [] 0) :: (D8, oD8) :: (D7, oD7) :: (D6, LCg.lst ys6) :: nw) ho hfile htop h1 h2 (hTl.sub (by kqd_sub)) hlen hcl D hi hpl hsx ?_ ?_ hnw10 hnx10 hnc10 hoff hxc hdc hlc hcc hyc hxy hxc1 B1 X1 T1 (fr_fun F11 fun z => mL_given z) (news_sub N11 (by kqd_sub)) (fun h7 tk7 x7 dx7 es7 n7 kvs7 o7 tsg7 vs7 nl7 nw7 vN7 vW7 D7 hi7 d7 hs7 hT7 hsub7 F7 N7 => k h7 tk7 x7 dx7 es7 n7 kvs7 o7 tsg7 vs7 nl7 nw7 _ _ _ vN7 vW7 D7 hi7 d7 hs7 hT7 (fun p hp => hsub7 p (by k_ownIn)) F7 N7)
    · rw [hnew]
      exact .map (.inr ⟨es9, n9, dx9, by simp, by simp, D9⟩) (Nat.le_of_ble_eq_true rfl) hi9 hs9
    · exact .inr (.inr ⟨x9, _, rfl, .inr ⟨es9, n9, dx9, by simp, by simp, D9⟩, hi9, hs9⟩)
end
end Mine
end
section
open PySem PySem.W PyProof.Rows PyProof.V PySem.Calls PySem.Spec Builtin Builtin.ObjectAttr
set_option Elab.async false
set_option maxRecDepth 100000
set_option maxHeartbeats 3000000
namespace Mine
local macro_rules | `(tactic| k_ownIn) => `(tactic| with_reducible (first | assumption | (refine List.Mem.tail _ ?_; k_ownIn) | (refine List.mem_append_right _ ?_; k_ownIn) | (refine List.mem_append_left _ ?_; assumption)))
local macro_rules | `(tactic| k_mem) => `(tactic| with_reducible (refine List.mem_append_right _ ?_; k_mem))
local macro_rules | `(tactic| kqd_sub) => `(tactic| (intro p9 h9; k_ownIn))
section
variable {prog : Program} {w : World} {A : Around} {E : Value → Shared → Prop} {s : Shared} {env : Env} {h₀ : Heap} {target : Expr} {body : List Stmt} {Q : Flow → Shared → Prop} {ws : List (Addr × String)} {keep kp : List (Addr × Obj)}
/-- a loop over tuples of a text and a whole number, by its invariant -/
theorem tups_fold {St : Type} (P : Str × Int → Prop) (f : St → Str × Int → St) (J : Nat → St → (Str → Option Value) → List (Addr × Obj) → Prop) (n : Nat)
    (step : ∀ i cs a k t c u m news, i < n → (a, tup (.str k t) (.int c u)) ∈ kp → P (k, c) → J i cs m news → ∀ h tk, Fr h₀ env.locals h m → AllObj ws (fun its => News h₀ env.locals h (its ++ news) →
      wpAny (model prog w) A (assign target env (.ref a)) (fun _ s₂ => wpAny (model prog w) A (execs body env) (UnrPostW h₀ env.locals { s with heap := h, toks := tk } its (fun m' n' => SubL keep n' ∧ J (i + 1) (f cs (k, c)) m' n') Q) E s₂) E { s with heap := h, toks := tk })) :
    ∀ {vs : List Value} {ps : List (Str × Int)}, TupsIn kp vs ps → (∀ p ∈ ps, P p) → ∀ i cs m news, i + vs.length ≤ n → J i cs m news → (∀ m' news', J (i + vs.length) (ps.foldl f cs) m' news' → ∀ h tk, Fr h₀ env.locals h m' → News h₀ env.locals h news' → Q .next { s with heap := h, toks := tk }) →
      ItemsRest prog w A E h₀ env target body Q s ws keep (vs.map .val) m news
  | _, _, .nil, _, i, cs, m, news, _, j, fin => ItemsRest.zero (fin m news j)
  | _, _, .cons (a := a) (k := k) (c := c) (t := t) (u := u) (r := r) hm hr, hP, i, cs, m, news, hn, j, fin => ItemsRest.val fun h tk F => by
    have e : i + (Value.ref a :: r).length = (i + 1) + r.length := by simp; omega
    have := step i cs a k t c u m news (by rw [e] at hn; omega) hm (hP _ (.head _)) j h tk F
    have key : ∀ m' n', J (i + 1) (f cs (k, c)) m' n' → ItemsRest prog w A E h₀ env target body Q s ws keep (r.map .val) m' n' := fun m' n' hj =>
      tups_fold P f J n step hr (fun p hp => hP p (.tail _ hp)) (i + 1) (f cs (k, c)) m' n' (e ▸ hn) hj (fun m2 n2 h2 => fin m2 n2 (by rw [e]; exact h2))
    refine allObj_mono (fun its hh N => wpAny_mono (hh N) (fun _ s₂ h₂ => wpAny_mono h₂ (fun fl s₃ q => ?_) fun _ _ e => e) fun _ _ e => e) this
    cases fl with
    | ret v => exact q
    | brk => exact q
    | next => obtain ⟨h', tk', m', n', e1, F', N', off, hk, hj⟩ := q; exact ⟨h', tk', m', n', e1, F', N', off, hk, key _ _ hj⟩
    | cont => obtain ⟨h', tk', m', n', e1, F', N', off, hk, hj⟩ := q; exact ⟨h', tk', m', n', e1, F', N', off, hk, key _ _ hj⟩
theorem sum_lst {l : Addr} {vs : List Value} {ns : List Int} {Q : Value → Shared → Prop} (hh : A.handled = none) (hl : s.heap.IsList l vs.toArray) (hi : IntsAre vs ns)
    (h : ∀ h' tk t', (∀ b o, s.heap.get? b = some o → h'.get? b = some o) → Q (.int ns.sum t') { s with heap := h', toks := tk }) :
    wpAny (model prog w) A (call (.builtin "sum") [.ref l]) Q E s := by
  obtain ⟨xs, hx⟩ := hi.allInts.items
  have hn : numsOf vs.toArray.toList = ns := by rw [show vs.toArray.toList = vs from rfl, hi.numsOf]
  rw [hx] at hl hn
  rw [nums_intItems] at hn
  refine PySem.sum_intListG hh hl fun h' tk t' hk => ?_
  have := h h' tk t' hk
  rw [preSum_eq, List.take_of_length_le (by first | k_mem | simp), hn]
  exact this
end
theorem sel_sum (k : Str) (l : List (Str × Int)) : (selOf k l).sum = sumOf k l := by
  unfold selOf sumOf
  congr 2
theorem Strs.dat {vs : List Value} {ks : List Str} (h : Strs vs ks) : PySem.W.DatAll [] vs (ks.map .str) := by
  induction h with
  | nil => exact .nil
  | @cons k t r r' hr ih => exact .cons (.str k t) ih
theorem Strs.snoc {vs : List Value} {ks : List Str} {k : Str} {t : Tok} (h : Strs vs ks) : Strs (vs ++ [.str k t]) (ks ++ [k]) := by
  induction h with
  | nil => exact .cons .nil
  | cons _ ih => exact .cons ih
theorem allLt_mem {d : Addr} : ∀ {l : List (Addr × Obj)}, AllLt d l → ∀ p ∈ l, p.1 < d
  | [], _, _, h => nomatch h
  | _ :: _, x, p, h => by
    rcases List.mem_cons.mp h with rfl | h
    · exact x.1
    · exact allLt_mem x.2 p h
theorem fillE0 : PySem.Challenge.rw_dn0005_06 = PySem.Challenge.rw_dn0005_06 ∧ Mine.hd06.heap_39 = Mine.hd06.heap_39 := by
  k_fill
  exact ⟨rfl, rfl⟩
/-- what stands behind the law's great loop -/
def restBody : List Stmt → List Stmt
  | _ :: _ :: r => r
  | _ => []
abbrev mO (lO : Addr) (kv cv : Option Value) (x y : Addr) (vp vx vf vr vg vn vw : Option Value) : Str → Option Value := fun z =>
  if z = Str.ofString "count" then cv else if z = Str.ofString "key" then kv else if z = Str.ofString "order" then some (.ref lO) else mL x y vp vx vf vr vg vn vw z
theorem mO_new {lO x y : Addr} {vp vx vf vr vg vn vw : Option Value} (z : Str) : (if z = Str.ofString "order" then some (.ref lO) else mL x y vp vx vf vr vg vn vw z) = mO lO none none x y vp vx vf vr vg vn vw z := by
  unfold mO
  by_cases h1 : z = Str.ofString "count"
  · subst h1; rfl
  · by_cases h2 : z = Str.ofString "key"
    · subst h2; rfl
    · simp only [if_neg h1, if_neg h2]
theorem mO_set {lO x y : Addr} {kv cv vp vx vf vr vg vn vw : Option Value} {a b : Value} (z : Str) : (if z = Str.ofString "count" then some b else if z = Str.ofString "key" then some a else mO lO kv cv x y vp vx vf vr vg vn vw z) = mO lO (some a) (some b) x y vp vx vf vr vg vn vw z := by
  unfold mO
  by_cases h1 : z = Str.ofString "count"
  · subst h1; rfl
  · by_cases h2 : z = Str.ofString "key"
    · subst h2; rfl
    · simp only [if_neg h1, if_neg h2]
local macro_rules | `(tactic| walk_at "call builtin:sum") => `(tactic| (refine halt ?_))
local macro_rules | `(tactic| walk_at "Exists") => `(tactic| (refine halt ?_))
local macro_rules | `(tactic| walk_at "getMethod ref") => `(tactic| (refine halt ?_))
local macro_rules | `(tactic| walk_at "call builtin:dict.items") => `(tactic| (refine halt ?_))
local macro_rules | `(tactic| walk_at "eval ListComp") => `(tactic| (refine halt ?_))
local macro_rules | `(tactic| walk_at "compareOp Eq ref ref") => `(tactic| (refine halt ?_))
local macro_rules | `(tactic| walk_at "call type:list") => `(tactic| (refine halt ?_))
section
variable {prog : Program} {w : World} {A₀ : Around} {base g1 : Heap} {outer : List Env} {e0 : Env} {L L1 : Addr} {mg mb : Str → Option Value} {mean : ExcName → Option Value} {s : Shared} {Q : Flow → Shared → Prop} {E : Value → Shared → Prop}
theorem Law_fin {name qual : Str} {params : Arguments} {body : List Stmt} {scope : Scope} {dV kV doc pm cdv ct oc : Value} {an od : Option Addr} {osl : Array (Option Value)}
    (ho : (Mine.hd06.heap_39 w.params).lookup 1121 = some ⟨oc, od, .func (fnOf name qual params body scope dV kV doc pm an cdv ct), osl⟩)
    {x dx lA y lO : Addr} {es : Array DictEntry} {oy : Obj} {n nl nO : Nat} {kvs : List (Str × Value)} {vsL vsO : List Value} {o1 o2 : Obj} {nw : List (Addr × Obj)} {kv cv vP vX vF vR vG vN vW : Option Value} {Ld : List (Str × Int)}
    (h2 : o2.data = .cell (some (.ref lA))) (hTl : TupsIn nw vsL Ld) (hlen : Ld.length ≤ 1000) (hstr : ∀ p ∈ Ld, PyData.strOk p.1 = true)
    (D : DIs (PySem.strKind prog w) es kvs) (hi : Ints kvs (gains 1 [] Ld)) (hsx : (x == sysModules) = false)
    (hS : Strs vsO (firsts Ld)) (hok : ∀ k ∈ firsts Ld, PyData.strOk k = true)
    (B1 : Below callerA base [] g1) (X1 : (Mine.hd06.heap_39 w.params).In g1) (T1 : Top vw ls mean mg mb g1)
    (F1 : Fr g1 L1 s.heap (mO lO kv cv x y vP vX vF vR vG vN vW)) (N1 : News g1 L1 s.heap ((lO, listOf vsO.toArray nO) :: nL L1 x dx lA y es n vsL nl o1 o2 oy nw))
    (k : ∀ h' tk m', Fr g1 L1 h' m' → h'.get? y = some oy → Q (.ret (.bool true)) { s with heap := h', toks := tk }) :
    wpAny (model prog w) (callerA.deeper (envOfC qual scope L1 1121 cdv)) (execs ((restBody body).drop 2) (envOfC qual scope L1 1121 cdv)) Q E s := by
  have e := ho.symm.trans (by k_is : (Mine.hd06.heap_39 w.params).lookup 1121 = some _)
  cases e
  dsimp only [restBody, List.drop]
  k_steps
  unfold Halt
  have hM : ∀ {l : List (Addr × Obj)}, (∀ p ∈ nL L1 x dx lA y es n vsL nl o1 o2 oy nw, p ∈ l) → MapIn prog w x l kvs := fun h => .inr ⟨es, n, dx, h _ (by first | k_mem | simp), h _ (by first | k_mem | simp), D⟩
  have hgl : kvs.length ≤ 1000 := by
    rw [hi.length]
    have := gains_length 1 [] Ld
    simp at this
    omega
  refine meth_items_K F1 X1 N1 (hM fun p hp => .tail _ hp) ?_
  dsimp only
  k_steps
  refine items_map_K (L := L1) F1 X1 N1 (hM fun p hp => .tail _ hp) hsx ?_
  intro v3 h3 F3 N3 lt3
  k_steps
  unfold Halt
  refine list_items_K rfl F3 N3 (by k_mem) (hM fun p hp => .tail _ (.tail _ hp)) hi (by rw [PySem.sizeLine_eq]; omega) ?_
  intro S4 h4 tk4 vs4 l4 n4 hT4 F4 N4 hlt4 hge4
  k_steps
  unfold Halt
  have mS : (S4, listOf vs4.toArray n4) ∈ (S4, listOf vs4.toArray n4) :: (l4 ++ (v3, iview x) :: (lO, listOf vsO.toArray nO) :: nL L1 x dx lA y es n vsL nl o1 o2 oy nw) := .head _
  have mO : (lO, listOf vsO.toArray nO) ∈ (S4, listOf vs4.toArray n4) :: (l4 ++ (v3, iview x) :: (lO, listOf vsO.toArray nO) :: nL L1 x dx lA y es n vsL nl o1 o2 oy nw) := by simp
  have mY : (y, oy) ∈ (S4, listOf vs4.toArray n4) :: (l4 ++ (v3, iview x) :: (lO, listOf vsO.toArray nO) :: nL L1 x dx lA y es n vsL nl o1 o2 oy nw) := by simp
  have mC : (L1 + 1, o2) ∈ (S4, listOf vs4.toArray n4) :: (l4 ++ (v3, iview x) :: (lO, listOf vsO.toArray nO) :: nL L1 x dx lA y es n vsL nl o1 o2 oy nw) := by simp
  have mA : (lA, listOf vsL.toArray nl) ∈ (S4, listOf vs4.toArray n4) :: (l4 ++ (v3, iview x) :: (lO, listOf vsO.toArray nO) :: nL L1 x dx lA y es n vsL nl o1 o2 oy nw) := by simp
  have mN : ∀ p ∈ nw, p ∈ (S4, listOf vs4.toArray n4) :: (l4 ++ (v3, iview x) :: (lO, listOf vsO.toArray nO) :: nL L1 x dx lA y es n vsL nl o1 o2 oy nw) := fun p hp => by simp [hp]
  have m4 : ∀ p ∈ l4, p ∈ (S4, listOf vs4.toArray n4) :: (l4 ++ (v3, iview x) :: (lO, listOf vsO.toArray nO) :: nL L1 x dx lA y es n vsL nl o1 o2 oy nw) := fun p hp => by simp [hp]
  generalize (S4, listOf vs4.toArray n4) :: (l4 ++ (v3, iview x) :: (lO, listOf vsO.toArray nO) :: nL L1 x dx lA y es n vsL nl o1 o2 oy nw) = NB at N4 mS mO mC mA mN m4 mY
  clear N3 lt3 hlt4 hge4 N1
  have hsl : vsO.length ≤ 1000 := by rw [hS.length]; exact Nat.le_trans (firsts_length Ld) hlen
  refine comp_key (J := fun i ys nws => (∀ p ∈ NB, p ∈ nws) ∧ TupsIn nws ys ((totals Ld).take i)) rfl F4 N4 (by with_unfolding_all rfl) rfl rfl (by decide) (fun C cl' => rfl) mO rfl rfl (by rw [PySem.sizeLine_eq]; omega) ?_ ⟨fun _ h => h, .nil⟩ (fun i ys nws hj => hj.1 _ mO) ?_ ?_
  · intro Q E hq
    exact wpAny_Name (wpAny_loadName_local rfl rfl F4.ns rfl hq) (by decide)
  · rintro i v ys nws I oI C oC D5 Kc oK h5 tk5 E' hv ⟨hsub, hTt⟩ hyl F5 N5 hdK off
    obtain ⟨kk, t, rfl, hkk⟩ := hS.get hv
    k_steps
    unfold Halt
    have hA5 := N5 (lA, listOf vsL.toArray nl) (by simp [hsub _ mA])
    have hC5 := N5 (L1 + 1, o2) (by simp [hsub _ mC])
    have hK5 := N5 (Kc, oK) (by first | k_mem | simp)
    have hll := hTl.length
    refine comp_sel (lA := lA) (vs := vsL) (cs := Ld) (k0 := kk) (t0 := t) rfl (by with_unfolding_all rfl) (by decide) rfl (by decide) rfl rfl (by decide) (by decide) (by decide) ⟨_, hA5.1, rfl, _, rfl⟩ (by rw [PySem.sizeLine_eq]; omega) ?_ ?_ ?_ ?_
    · intro j v hv
      obtain ⟨a, k, c, t, u, rfl, hm, hc⟩ := hTl.get hv
      exact ⟨a, k, c, t, u, rfl, ⟨_, (N5 (a, tup (.str k t) (.int c u)) (by simp [hsub _ (mN _ hm)])).1, rfl, 0, rfl⟩, hc⟩
    · intro Q E hq
      exact wpAny_Name (wpAny_loadName_cell rfl rfl rfl ⟨o2, hC5.1, h2⟩ hq) (by decide)
    · intro C' s' Q E keep hq
      exact wpAny_Name (wpAny_loadName_cell rfl rfl rfl ⟨oK, keep _ _ hK5.1, hdK⟩ hq) (by decide)
    intro D6 h6 tk6 zs hzs hzl keep6 hD6 hnone hge
    rw [List.take_of_length_le (by omega)] at hzs
    have F6 := F5.keeps keep6
    have N6 : News g1 L1 h6 ((D6, ({ cls := .type "list", data := .seq zs.toArray zs.length } : Obj)) :: (Kc, oK) :: (I, oI) :: (C, oC) :: (D5, ({ cls := .type "list", data := .seq ys.toArray ys.length } : Obj)) :: nws) := by
      intro p hp
      rcases List.mem_cons.mp hp with rfl | hp
      · exact ⟨hD6, Nat.ne_of_gt (Nat.lt_of_lt_of_le F5.ns.lt hge), Heap.get?_none_of_le (Nat.le_trans F5.above (Nat.le_of_lt (Nat.lt_of_lt_of_le F5.ns.lt hge)))⟩
      · exact ⟨keep6 _ _ (N5 p hp).1, (N5 p hp).2⟩
    clear hA5 hC5 hK5 keep6 hnone hge hD6
    dsimp only
    k_steps
    unfold Halt
    refine sum_lst rfl ⟨_, (N6 (D6, ({ cls := .type "list", data := .seq zs.toArray zs.length } : Obj)) (.head _)).1, rfl, _, rfl⟩ hzs ?_
    intro h7 tk7 t7 keep7
    have F7 := F6.keeps keep7
    have N7 := News.grown N6 keep7
    clear keep7 F6 N6
    rw [sel_sum]
    dsimp only
    k_steps
    unfold Halt
    rename_i T8 h8 F8 N8 l8
    have htot : (totals Ld).take (i + 1) = (totals Ld).take i ++ [(kk, sumOf kk Ld)] := by
      rw [List.take_add_one]
      have : (totals Ld)[i]? = some (kk, sumOf kk Ld) := by unfold totals; rw [List.getElem?_map, hkk]; rfl
      rw [this]; rfl
    refine ⟨h8, _, (T8, tup (.str kk t) (.int (sumOf kk Ld) t7)) :: nws, rfl, F8, news_sub N8 (by kqd_sub), fun p hp => ?_, fun p hp => .tail _ (hsub p hp), ?_⟩
    · rcases List.mem_cons.mp hp with rfl | hp
      · exact ⟨Nat.ne_of_gt l8.2.1, Nat.ne_of_gt l8.2.2.1, Nat.ne_of_gt l8.2.2.2.1, Nat.ne_of_gt l8.2.2.2.2.1⟩
      · exact off p hp
    · rw [htot]
      exact (hTt.sub fun p hp => .tail _ hp).append (.cons (.head _) .nil)
  · rintro D5 h5 tk5 ys nws ⟨hsub, hTt⟩ F5 N5 off
    have hlt : (totals Ld).length = vsO.length := by unfold totals; rw [List.length_map, hS.length]
    rw [List.take_of_length_le (Nat.le_of_eq hlt)] at hTt
    rw [gains_all] at hT4
    have ok : ∀ d ∈ (totals Ld).map pd, kqdOk 8 d = true := by
      intro d hd
      obtain ⟨p, hp, rfl⟩ := List.mem_map.mp hd
      unfold totals at hp
      obtain ⟨q, hq, rfl⟩ := List.mem_map.mp hp
      exact pd_ok (hok q hq)
    dsimp only
    k_steps
    unfold Halt
    refine kqd_eq N5 (a := S4) (b := D5) (oa := listOf vs4.toArray n4) (ob := { cls := .type "list", data := .seq ys.toArray ys.length }) (by simp [hsub _ mS]) rfl rfl hT4.dat (fun p hp => by simp [hsub _ (m4 p hp)]) (.head _) rfl rfl hTt.dat (fun p hp => .tail _ hp) ok ok (Nat.le_of_ble_eq_true rfl) ?_
    simp only [decide_true]
    k_steps
    exact k _ _ _ F5 (N5 (y, oy) (by simp [hsub _ mY])).1
end
end Mine
end
section
open PySem PySem.W PyProof.Rows PyProof.V PySem.Calls PySem.Spec Builtin Builtin.ObjectAttr
set_option Elab.async false
set_option maxRecDepth 100000
set_option maxHeartbeats 3000000
namespace Mine
local macro_rules | `(tactic| k_ownIn) => `(tactic| with_reducible (first | assumption | (refine List.Mem.tail _ ?_; k_ownIn) | (refine List.mem_append_right _ ?_; k_ownIn) | (refine List.mem_append_left _ ?_; assumption)))
local macro_rules | `(tactic| k_mem) => `(tactic| with_reducible (refine List.mem_append_right _ ?_; k_mem))
local macro_rules | `(tactic| kqd_sub) => `(tactic| (intro p9 h9; k_ownIn))
theorem mem_swap {α : Type} {a b p : α} {r : List α} (h : p ∈ a :: b :: r) : p ∈ b :: a :: r := by
  rcases List.mem_cons.mp h with rfl | h
  · exact .tail _ (.head _)
  · rcases List.mem_cons.mp h with rfl | h
    · exact .head _
    · exact .tail _ (.tail _ h)
theorem fillE1 : PySem.Challenge.rw_dn0005_06 = PySem.Challenge.rw_dn0005_06 ∧ Mine.hd06.heap_39 = Mine.hd06.heap_39 := by
  k_fill
  exact ⟨rfl, rfl⟩
local macro_rules | `(tactic| walk_at "exec For Tuple Name cons nil") => `(tactic| (refine halt ?_))
local macro_rules | `(tactic| walk_at "exec For Tuple Name") => `(tactic| (refine halt ?_))
local macro_rules | `(tactic| walk_at "exec For") => `(tactic| (refine halt ?_))
local macro_rules | `(tactic| walk_at "compareOp NotIn str ref") => `(tactic| (refine halt ?_))
local macro_rules | `(tactic| walk_at "compareOp NotIn") => `(tactic| (refine halt ?_))
local macro_rules | `(tactic| walk_at "call builtin:list.append") => `(tactic| (refine halt ?_))
local macro_rules | `(tactic| walk_at "eval ListComp") => `(tactic| (refine halt ?_))
local macro_rules | `(tactic| walk_at "pyIter ref") => `(tactic| (refine halt ?_))
local macro_rules | `(tactic| walk_at "compareOp Eq ref ref") => `(tactic| (refine halt ?_))
local macro_rules | `(tactic| walk_at "call type:list") => `(tactic| (refine halt ?_))
section
variable {prog : Program} {w : World} {A₀ : Around} {base g1 : Heap} {outer : List Env} {e0 : Env} {L L1 : Addr} {mg mb : Str → Option Value} {mean : ExcName → Option Value} {s : Shared} {Q : Flow → Shared → Prop} {E : Value → Shared → Prop}
theorem Law_end {name qual : Str} {params : Arguments} {body : List Stmt} {scope : Scope} {dV kV doc pm cdv ct oc : Value} {an od : Option Addr} {osl : Array (Option Value)}
    (ho : (Mine.hd06.heap_39 w.params).lookup 1121 = some ⟨oc, od, .func (fnOf name qual params body scope dV kV doc pm an cdv ct), osl⟩)
    {x dx lA y : Addr} {es : Array DictEntry} {oy : Obj} {n nl : Nat} {kvs : List (Str × Value)} {vsL : List Value} {o1 o2 : Obj} {nw : List (Addr × Obj)} {vP vX vF vR vG vN vW : Option Value} {Ld : List (Str × Int)}
    (h2 : o2.data = .cell (some (.ref lA))) (hTl : TupsIn nw vsL Ld) (hlen : Ld.length ≤ 1000) (hstr : ∀ p ∈ Ld, PyData.strOk p.1 = true) (htup : ∀ p ∈ nw, ∃ a b, p.2 = tup a b)
    (D : DIs (PySem.strKind prog w) es kvs) (hi : Ints kvs (gains 1 [] Ld)) (hsx : (x == sysModules) = false)
    (B1 : Below callerA base [] g1) (X1 : (Mine.hd06.heap_39 w.params).In g1) (T1 : Top vw ls mean mg mb g1)
    (F1 : Fr g1 L1 s.heap (mL x y vP vX vF vR vG vN vW)) (N1 : News g1 L1 s.heap (nL L1 x dx lA y es n vsL nl o1 o2 oy nw))
    (hE : PassesOwn (model prog w) (callerA.deeper (envOfC qual scope L1 1121 cdv)) (envOfC qual scope L1 1121 cdv) E)
    (k : ∀ h' tk m', Fr g1 L1 h' m' → h'.get? y = some oy → Q (.ret (.bool true)) { s with heap := h', toks := tk }) :
    wpAny (model prog w) (callerA.deeper (envOfC qual scope L1 1121 cdv)) (execs (restBody body) (envOfC qual scope L1 1121 cdv)) Q E s := by
  have e := ho.symm.trans (by k_is : (Mine.hd06.heap_39 w.params).lookup 1121 = some _)
  cases e
  dsimp only [restBody]
  k_steps
  unfold Halt
  rename_i lO hh1 l1 h3 F3 N3
  replace F3 := fr_fun F3 fun z => mO_new z
  have hO : ∀ p ∈ nL L1 x dx lA y es n vsL nl o1 o2 oy nw, @Ne Nat p.1 lO := by
    intro p hp
    simp only [List.mem_cons] at hp
    rcases hp with rfl | rfl | rfl | rfl | rfl | rfl | hp
    · exact Nat.ne_of_lt l1.1
    · exact Nat.ne_of_lt l1.2.1
    · exact Nat.ne_of_lt l1.2.2.1
    · exact Nat.ne_of_lt l1.2.2.2.1
    · exact Nat.ne_of_lt l1.2.2.2.2.1
    · exact Nat.ne_of_lt l1.2.2.2.2.2.1
    · exact Nat.ne_of_lt (allLt_mem l1.2.2.2.2.2.2 p hp)
  clear l1
  have hll := hTl.length
  refine For_turns F3 ?_ (hE := hE)
  k_steps
  unfold Halt
  refine iter_listTurns (lo := listOf vsL.toArray nl) rfl F3 N3 (by first | k_mem | simp) rfl rfl ?_
  intro I hI
  refine tups_fold (kp := nw) (fun p => PyData.strOk p.1 = true) first1 (fun i o m' news' => ∃ vsO nO kv cv, Strs vsO o ∧ o.length ≤ i ∧ (∀ k ∈ o, PyData.strOk k = true) ∧ m' = mO lO kv cv x y vP vX vF vR vG vN vW ∧ news' = (lO, listOf vsO.toArray nO) :: nL L1 x dx lA y es n vsL nl o1 o2 oy nw) vsL.length ?_ hTl hstr 0 [] _ _ (Nat.le_of_eq (Nat.zero_add _)) ?_ ?_
  · rintro i o a kk t c u m' news' hlt hm hkk ⟨vsO, nO, kv, cv, hS, hlo, hok, rfl, rfl⟩ h4 tk4 F4
    intro oI hoI N4
    have hT : IsTup h4 a #[.str kk t, .int c u] := ⟨_, (N4 (a, tup (.str kk t) (.int c u)) (.tail _ (.tail _ (.tail _ (.tail _ (.tail _ (.tail _ (.tail _ (.tail _ hm))))))))).1, rfl, 0, rfl⟩
    k_steps
    unfold Halt
    rename_i hq1 hq2 hq3 F5 N5
    replace F5 := fr_fun F5 fun z => mO_set z
    have okO : ∀ d ∈ o.map PySem.W.Dat.str, kqdOk 8 d = true := by
      intro d hd
      obtain ⟨q, hq, rfl⟩ := List.mem_map.mp hd
      simp [kqdOk, hok q hq]
    refine kqd_notIn (n₁ := []) (n₂ := []) N5 (a := lO) (oa := listOf vsO.toArray nO) (by first | k_mem | simp) rfl rfl hS.dat (fun _ h => nomatch h) (.str kk t) (fun _ h => nomatch h) okO (by simp only [kqdOk]; exact hkk) (Nat.le_of_ble_eq_true rfl) ?_
    have hmem : (PySem.W.Dat.str kk ∈ o.map .str) ↔ kk ∈ o := by simp
    have offI : ∀ p ∈ (lO, listOf vsO.toArray nO) :: nL L1 x dx lA y es n vsL nl o1 o2 oy nw, p.1 ≠ I := by
      intro p hp
      rcases List.mem_cons.mp hp with rfl | hp
      · exact Nat.ne_of_lt (hI (lO, listOf #[] 0) (.head _))
      · exact Nat.ne_of_lt (hI p (.tail _ hp))
    by_cases hin : kk ∈ o
    · simp only [hmem, hin, decide_true, Bool.not_true]
      k_steps
      refine ⟨_, _, _, (lO, listOf vsO.toArray nO) :: nL L1 x dx lA y es n vsL nl o1 o2 oy nw, rfl, F5, N5, fun p hp q hq => ?_, subL_of (fun p hp => ?_), vsO, nO, _, _, by unfold first1; rw [if_pos hin]; exact hS, ?_, ?_, rfl, rfl⟩
      · obtain rfl := List.mem_singleton.mp hq
        exact offI p hp
      · obtain rfl := List.mem_singleton.mp hp
        simp
      · unfold first1; rw [if_pos hin]; omega
      · unfold first1; rw [if_pos hin]; exact hok
    · simp only [hmem, hin, decide_false, Bool.not_false]
      k_steps
      unfold Halt
      have N6 := news_sub (l' := (lO, listOf vsO.toArray nO) :: (I, oI) :: nL L1 x dx lA y es n vsL nl o1 o2 oy nw) N5 fun p hp => mem_swap hp
      have hsO : vsO.length ≤ i := by rw [hS.length]; exact hlo
      refine append_head (n := nO) F5 N6 (fun p hp => ?_) (hsz := by simp; rw [PySem.sizeLine_eq]; omega) fun h6 F6 N7 => ?_
      · rcases List.mem_cons.mp hp with rfl | hp
        · exact Ne.symm (offI (lO, listOf vsO.toArray nO) (.head _))
        · exact hO p hp
      rw [List.push_toArray] at N7
      dsimp only
      k_steps
      refine ⟨_, _, _, (lO, listOf (vsO ++ [Value.str kk t]).toArray (nO + 1)) :: nL L1 x dx lA y es n vsL nl o1 o2 oy nw, rfl, F6, news_sub N7 fun p hp => mem_swap hp, fun p hp q hq => ?_, subL_of (fun p hp => ?_), vsO ++ [Value.str kk t], nO + 1, _, _, by unfold first1; rw [if_neg hin]; exact hS.snoc, ?_, ?_, rfl, rfl⟩
      · obtain rfl := List.mem_singleton.mp hq
        rcases List.mem_cons.mp hp with rfl | hp
        · exact offI (lO, listOf vsO.toArray nO) (.head _)
        · exact offI p (.tail _ hp)
      · obtain rfl := List.mem_singleton.mp hp
        simp
      · unfold first1; rw [if_neg hin, List.length_append]; simp; omega
      · unfold first1; rw [if_neg hin]
        intro q hq
        rcases List.mem_append.mp hq with hq | hq
        · exact hok q hq
        · rcases List.mem_singleton.mp hq with rfl
          exact hkk
  · exact ⟨[], 0, none, none, .nil, Nat.zero_le _, (fun _ h => nomatch h), rfl, rfl⟩
  · rintro m' news' ⟨vsO, nO, kv, cv, hS, hlo, hok, rfl, rfl⟩ h4 tk4 F4 N4
    exact Law_fin ho h2 hTl hlen hstr D hi hsx hS hok B1 X1 T1 F4 N4 k
end
end Mine
end
section
open PySem PySem.W PyProof.Rows PyProof.V PySem.Calls PySem.Spec Builtin Builtin.ObjectAttr
set_option Elab.async false
set_option maxRecDepth 100000
set_option maxHeartbeats 3000000
namespace Mine
local macro_rules | `(tactic| k_ownIn) => `(tactic| first | assumption | exact List.mem_append_left _ (by assumption) | (refine List.mem_append_right _ ?_; k_ownIn) | (refine List.Mem.tail _ ?_; k_ownIn))
local macro_rules | `(tactic| k_mem) => `(tactic| (refine List.mem_append_right _ ?_; k_mem))
local macro_rules | `(tactic| kqd_sub) => `(tactic| (intro p9 h9; k_ownIn))
theorem fillL9 : PySem.Challenge.rw_dn0005_06 = PySem.Challenge.rw_dn0005_06 ∧ Mine.hd06.heap_39 = Mine.hd06.heap_39 := by
  k_fill
  exact ⟨rfl, rfl⟩
theorem mL_start {x y : Addr} (z : Str) : (if z = Str.ofString "bag" then some (.ref x) else if z = Str.ofString "script" then some (Value.ref y) else none) = mL x y none none none none none none none z := by
  unfold mL
  by_cases h1 : z = Str.ofString "bag"
  · subst h1; rfl
  · by_cases h2 : z = Str.ofString "script"
    · subst h2; rfl
    · simp [h1, h2]
theorem mem_move2 {α : Type} {q r : α} (A B : List α) (p : α) (h : p ∈ A ++ (q :: r :: B)) : p ∈ q :: r :: (A ++ B) := by
  rcases List.mem_cons.mp (mem_move A (r :: B) p h) with rfl | h
  · exact .head _
  · exact .tail _ (mem_move A B p h)
/-- the law's state ahead of its turn i -/
inductive LawSt (prog : Program) (w : World) (L1 lA y : Addr) (oy : Obj) (o2 : Obj) : Nat → (Str → Option Value) → List (Addr × Obj) → Prop
  | mk (i : Nat) (x dx : Addr) (es : Array DictEntry) (n : Nat) (kvs : List (Str × Value)) (vsL : List Value) (nl : Nat) (o1 : Obj) (nwT : List (Addr × Obj)) (vp vx vf vr vg vn vW v0 : Option Value) (Ld : List (Str × Int))
      (D : DIs (PySem.strKind prog w) es kvs) (hi : Ints kvs (gains 1 [] Ld)) (hlen : Ld.length ≤ 6 * i) (hstr : ∀ p ∈ Ld, PyData.strOk p.1 = true) (h1 : o1.data = .cell v0) (hTl : TupsIn nwT vsL Ld) (htup : ∀ p ∈ nwT, ∃ a b, p.2 = tup a b) (hsx : (x == sysModules) = false) :
      LawSt prog w L1 lA y oy o2 i (mL x y vp vx vf vr vg vn vW) (nL L1 x dx lA y es n vsL nl o1 o2 oy nwT)
theorem TupsIn.only {l : List (Addr × Obj)} {vs : List Value} {cs : List (Str × Int)} (h : TupsIn l vs cs) : ∃ l', (∀ p ∈ l', p ∈ l ∧ ∃ a b, p.2 = tup a b) ∧ TupsIn l' vs cs := by
  induction h with
  | nil => exact ⟨[], (fun _ h => nomatch h), .nil⟩
  | @cons a k c t u r r' h hr ih =>
    obtain ⟨l', h1, h2⟩ := ih
    refine ⟨(a, tup (.str k t) (.int c u)) :: l', fun p hp => ?_, .cons (.head _) (h2.sub fun p hp => .tail _ hp)⟩
    rcases List.mem_cons.mp hp with rfl | hp
    · exact ⟨h, _, _, rfl⟩
    · exact h1 p hp
local macro_rules | `(tactic| walk_at "execs cons") => `(tactic| ((with_reducible show wpAny _ _ (execs [_, _, _, _, _, _, _, _, Stmt.Expr _ _] _) _ _ _); refine halt ?_))
theorem cls_dl : Value.type "dict" ≠ Value.type "list" := by decide
theorem cls_tl : Value.type "tuple" ≠ Value.type "list" := by decide
theorem cls_de : Value.type "dict" ≠ Value.type "enumerate" := by decide
theorem cls_di : Value.type "dict" ≠ Value.type "list_iterator" := by decide
theorem cls_te : Value.type "tuple" ≠ Value.type "enumerate" := by decide
theorem cls_ti : Value.type "tuple" ≠ Value.type "list_iterator" := by decide
theorem mL_px {x y : Addr} {vp vx vf vr vg vn vW : Option Value} {a b : Value} (z : Str) : (if z = Str.ofString "x" then some a else if z = Str.ofString "place" then some b else mL x y vp vx vf vr vg vn vW z) = mL x y (some b) (some a) vf vr vg vn vW z := by
  unfold mL
  by_cases h1 : z = Str.ofString "x"
  · subst h1; rfl
  · by_cases h2 : z = Str.ofString "place"
    · subst h2; rfl
    · simp only [if_neg h1, if_neg h2]
theorem tabc_ok (r : Int) : ∀ p ∈ tabc r, PyData.strOk p.1 = true := by
  intro p hp
  rcases List.mem_cons.mp hp with rfl | hp
  · exact nm_ok _
  · rcases List.mem_singleton.mp hp with rfl
    exact nm_ok _
theorem news_ok {f r : Int} : ∀ p ∈ newsOf f r ++ (if 4 ≤ f then tabc (r + 1) else []), PyData.strOk p.1 = true := by
  intro p hp
  rcases List.mem_append.mp hp with hp | hp
  · unfold newsOf at hp
    split at hp
    · unfold ones namesK at hp
      obtain ⟨k, hk, rfl⟩ := List.mem_map.mp hp
      obtain ⟨j, _, rfl⟩ := List.mem_map.mp hk
      exact nm_ok _
    · split at hp
      · cases hp
      · exact tabc_ok _ p hp
  · split at hp
    · exact tabc_ok _ p hp
    · cases hp
local macro_rules | `(tactic| walk_at "call type:enumerate") => `(tactic| (refine halt ?_))
local macro_rules | `(tactic| walk_at "call ref") => `(tactic| (refine halt ?_))
local macro_rules | `(tactic| walk_at "exec For Tuple Call cons nil") => `(tactic| (refine halt ?_))
local macro_rules | `(tactic| walk_at "exec For Tuple Call") => `(tactic| (refine halt ?_))
section
variable {prog : Program} {w : World} {A₀ : Around} {base g1 : Heap} {outer : List Env} {e0 : Env} {L L1 : Addr} {mg mb : Str → Option Value} {mean : ExcName → Option Value} {s : Shared} {Q : Flow → Shared → Prop} {E : Value → Shared → Prop}
theorem law_body {name qual : Str} {params : Arguments} {body : List Stmt} {scope : Scope} {dV kV doc pm cdv ct oc : Value} {an od : Option Addr} {osl : Array (Option Value)}
    (ho : (Mine.hd06.heap_39 w.params).lookup 1121 = some ⟨oc, od, .func (fnOf name qual params body scope dV kV doc pm an cdv ct), osl⟩)
    (hfile : ((prog.main.file : Str) == Str.ofString "/claim/cut.py") = true) (htop : (prog.main.scope.names.lookup (Str.ofString "super")).isSome = false)
    {y : Addr} {oy o1 o2 : Obj} {vs : List Value} {ns : List Int} {n : Nat} (hv : IntsAre vs ns) (hl : vs.length ≤ 63) (hoc : oy.cls = .type "list") (hod : oy.data = .seq vs.toArray n) (l1 : y < L1)
    (d1' : o1.data = .cell none) (d2' : o2.data = .cell none)
    (B1 : Below callerA base [] g1) (X1 : (Mine.hd06.heap_39 w.params).In g1) (T1 : Top vw ls mean mg mb g1)
    (F1 : Fr g1 L1 s.heap (fun z => if z = Str.ofString "script" then some (Value.ref y) else none)) (N1 : News g1 L1 s.heap [(L1 + 1 + 1, o1), (L1 + 1, o2), (y, oy)])
    (hE : PassesOwn (model prog w) (callerA.deeper (envOfC qual scope L1 1121 cdv)) (envOfC qual scope L1 1121 cdv) E)
    (k : ∀ h' tk m', Fr g1 L1 h' m' → h'.get? y = some oy → Q (.ret (.bool true)) { s with heap := h', toks := tk }) :
    wpAny (model prog w) (callerA.deeper (envOfC qual scope L1 1121 cdv)) (execs body (envOfC qual scope L1 1121 cdv)) Q E s := by
  have e := ho.symm.trans (by k_is : (Mine.hd06.heap_39 w.params).lookup 1121 = some _)
  cases e
  replace l1 : @LT.lt Nat _ y L1 := l1
  k_steps
  unfold Halt
  refine make_initd (by exact rfl) (by exact rfl) (by exact rfl) (by exact rfl) (by exact rfl) (Nat.le_of_ble_eq_true rfl) (Nat.le_of_ble_eq_true rfl) hfile htop B1 F1 X1 N1 T1 ?_
  intro x0 dx0 hh5 tk0 es0 nn0 kvs0 D0 hi0 F' N' lt0 lx0 hs0
  (try k_lt lt0)
  (try k_lt2 lx0)
  k_steps
  unfold Halt
  rename_i lA hh4 ll0 Dt hh3 lt1 hh2 hh1 h2 o2' F2 N2 d2
  replace F2 := fr_fun F2 fun z => mL_start z
  replace N2 := news_sub (l' := nL L1 x0 dx0 lA y es0 nn0 [] 0 o1 o2' oy []) N2 fun p hp => by
    simp only [List.mem_cons] at hp ⊢
    rcases hp with h | h | h | h | h | h | h
    all_goals first | exact absurd h List.not_mem_nil | simp [h]
  have hAc : lA ≠ L1 + 1 + 1 := Nat.ne_of_gt ll0.2.2.1
  have hAd : lA ≠ L1 + 1 := Nat.ne_of_gt ll0.2.2.2.1
  have hAy : lA ≠ y := Nat.ne_of_gt ll0.2.2.2.2
  have hyc1 : y < L1 + 1 := Nat.lt_succ_of_lt l1
  have hyc2 : y < L1 + 1 + 1 := Nat.lt_succ_of_lt hyc1
  clear lt1 lt0 lx0 ll0 l1
  refine For_turns F2 ?_ (hE := hE)
  k_steps
  unfold Halt
  have hy2 : (y, oy) ∈ nL L1 x0 dx0 lA y es0 nn0 [] 0 o1 o2' oy [] := by simp
  refine ktu_enum (lo := oy) (vs := vs) rfl F2 N2 hy2 hoc hod rfl ?_
  intro I hI
  have hIy := hI _ hy2
  have hIl : lA < I := hI (lA, listOf ([] : List Value).toArray 0) (by k_mem)
  have hI1 : L1 + 1 + 1 < I := hI (L1 + 1 + 1, o1) (by k_mem)
  have hI2 : L1 + 1 < I := hI (L1 + 1, o2') (by k_mem)
  refine enum_fold (LawSt prog w L1 lA y oy o2') vs.length ?_ hv 0 _ _ (Nat.le_of_eq (Nat.zero_add _)) ?_ ?_
  · rintro i xx ti u m' news' hlt ⟨x, dx, es, n1, kvs, vsL, nl, o1', nwT, vp, vx, vf, vr, vg, vn, vW, v0, Ld, D, hi, hlen, hstr, h1, hTl, htup, hsx⟩ T3 h3 tk3 hT3 F3
    intro oE hoE oI hoI N3
    have mem : ∀ p ∈ (nL L1 x dx lA y es n1 vsL nl o1' o2' oy ((I + 1, oE) :: (I, oI) :: nwT)), p ∈ [((I + 1 : Nat), oE), (I, oI)] ++ nL L1 x dx lA y es n1 vsL nl o1' o2' oy nwT := by
      exact fun p hp => mem_move2 (nP L1 x dx lA y es n1 vsL nl o1' o2' oy) nwT p hp
    replace N3 := news_sub N3 mem
    clear mem
    have hcs : ∀ (a b : Addr) (o p : Obj), (a, o) ∈ nL L1 x dx lA y es n1 vsL nl o1' o2' oy ((I + 1, oE) :: (I, oI) :: nwT) → (b, p) ∈ nL L1 x dx lA y es n1 vsL nl o1' o2' oy ((I + 1, oE) :: (I, oI) :: nwT) → o ≠ p → a ≠ b := fun a b o p ha hb hd => ne_obj N3 ha hb hd
    k_steps
    unfold Halt
    rename_i hq1 Fq Nq hq2 h4 F4 N4
    replace F4 := fr_fun F4 fun z => mL_px z
    have hgl : (gains 1 [] Ld).length ≤ Ld.length := by simpa using gains_length 1 [] Ld
    have hl63 : i < 63 := by omega
    have hcell : ∀ (o : Obj), (∀ v, o.data ≠ .cell v) → o ≠ o1' := fun o h => ne_data (by rw [h1]; exact h _)
    refine Blk_a (L1 := L1) (g1 := g1) (es := es) (n := n1) (nl := nl) (oy := oy) (vsL := vsL) (x := x) (dx := dx) (o1 := o1') (o2 := o2') (Ld := Ld) (nw := (I + 1, oE) :: (I, oI) :: nwT) (pl := (i : Int)) (xx := xx) ho hfile htop rfl rfl h1 d2 (hTl.sub (by kqd_sub)) (by omega) hgl D hi ?_ hsx ?_ ?_ ?_
      ⟨hcs x lA (cnt es n1 dx) (listOf vsL.toArray nl) (by k_mem) (by k_mem) (ne_clss (by intro e; cases e)), hcs dx lA (dictOf [] 0) (listOf vsL.toArray nl) (by k_mem) (by k_mem) (ne_clss cls_dl), Ne.symm hAc, Ne.symm hAd, Ne.symm hAy⟩
      (hcs x (L1 + 1 + 1) (cnt es n1 dx) o1' (by k_mem) (by k_mem) (hcell _ (by intro v e; cases e))) (hcs dx (L1 + 1 + 1) (dictOf [] 0) o1' (by k_mem) (by k_mem) (hcell _ (by intro v e; cases e))) hAc (Nat.ne_of_lt (Nat.lt_succ_self _)) (Nat.ne_of_lt hyc2)
      (hcs y x oy (cnt es n1 dx) (by k_mem) (by k_mem) (ne_clss (by rw [hoc]; intro e; cases e))) (hcs (L1 + 1) x o2' (cnt es n1 dx) (by k_mem) (by k_mem) (ne_data (by rw [d2]; intro e; cases e))) B1 X1 T1 F4 N4 ?_
    · intro h0
      have : i = 0 := by omega
      subst this
      have : Ld = [] := List.length_eq_zero_iff.mp (by omega)
      rw [this]; rfl
    · intro p hp
      simp only [List.mem_cons] at hp
      rcases hp with rfl | rfl | hp
      · exact Nat.ne_of_gt (Nat.lt_succ_of_lt hIl)
      · exact Nat.ne_of_gt hIl
      · obtain ⟨a, b, e⟩ := htup p hp
        exact hcs p.1 lA p.2 (listOf vsL.toArray nl) (.tail _ (.tail _ (.tail _ (.tail _ (.tail _ (.tail _ (.tail _ (.tail _ hp)))))))) (by k_mem) (ne_clss (by rw [e]; exact cls_tl))
    · intro p hp
      simp only [List.mem_cons] at hp
      rcases hp with rfl | rfl | hp
      · exact hcs (I + 1) x oE (cnt es n1 dx) (by k_mem) (by k_mem) (ne_clss (by rw [hoE]; intro e; cases e))
      · exact hcs I x oI (cnt es n1 dx) (by k_mem) (by k_mem) (ne_clss (by rw [hoI]; intro e; cases e))
      · obtain ⟨a, b, e⟩ := htup p hp
        exact hcs p.1 x p.2 (cnt es n1 dx) (.tail _ (.tail _ (.tail _ (.tail _ (.tail _ (.tail _ (.tail _ (.tail _ hp)))))))) (by k_mem) (ne_clss (by rw [e]; intro e; cases e))
    · intro p hp
      simp only [List.mem_cons] at hp
      rcases hp with rfl | rfl | hp
      · exact Nat.ne_of_gt (Nat.lt_succ_of_lt hI1)
      · exact Nat.ne_of_gt hI1
      · obtain ⟨a, b, e⟩ := htup p hp
        exact hcs p.1 (L1 + 1 + 1) p.2 o1' (.tail _ (.tail _ (.tail _ (.tail _ (.tail _ (.tail _ (.tail _ (.tail _ hp)))))))) (by k_mem) (hcell _ (by rw [e]; intro v e; cases e))
    · intro h7 tk7 x7 dx7 es7 n7 kvs7 o7 tsg7 vs7 nl7 nw7 vF7 vR7 vG7 vN7 vW7 D7 hi7 d7 hs7 hT7 hsub7 F7 N7
      obtain ⟨l', hl', hTl'⟩ := hT7.only
      rw [gains_step] at hi7
      have mE : ((I + 1 : Nat), oE) ∈ nw7 := hsub7 _ (by k_mem)
      have mI : (I, oI) ∈ nw7 := hsub7 _ (by k_mem)
      have offAll : ∀ q ∈ [((I + 1 : Nat), oE), (I, oI)], ∀ p ∈ nL L1 x7 dx7 lA y es7 n7 vs7 nl7 o7 o2' oy l', p.1 ≠ q.1 := by
        intro q hq
        have hq' : q.1 = I + 1 ∨ q.1 = I := by
          rcases List.mem_cons.mp hq with rfl | hq
          · exact .inl rfl
          · rcases List.mem_singleton.mp hq with rfl
            exact .inr rfl
        have hlow : ∀ a : Addr, a < I → a ≠ q.1 := fun a h => by rcases hq' with e | e <;> rw [e] <;> first | exact Nat.ne_of_lt h | exact Nat.ne_of_lt (Nat.lt_succ_of_lt h)
        have hobj : ∀ (a : Addr) (o : Obj), (a, o) ∈ nL L1 x7 dx7 lA y es7 n7 vs7 nl7 o7 o2' oy nw7 → o.cls ≠ .type "enumerate" → o.cls ≠ .type "list_iterator" → a ≠ q.1 := fun a o hm c1 c2 => by
          rcases hq' with e | e <;> rw [e]
          · exact ne_obj N7 hm (b := I + 1) (p := oE) (.tail _ (.tail _ (.tail _ (.tail _ (.tail _ (.tail _ (mE))))))) (ne_clss (by rw [hoE]; exact c1))
          · exact ne_obj N7 hm (b := I) (p := oI) (.tail _ (.tail _ (.tail _ (.tail _ (.tail _ (.tail _ (mI))))))) (ne_clss (by rw [hoI]; exact c2))
        exact List.forall_mem_cons.mpr ⟨hobj x7 (cnt es7 n7 dx7) (by k_mem) (by intro e; cases e) (by intro e; cases e), List.forall_mem_cons.mpr ⟨hobj dx7 (dictOf [] 0) (by k_mem) cls_de cls_di, List.forall_mem_cons.mpr ⟨hlow _ hIl, List.forall_mem_cons.mpr ⟨hlow _ hI1, List.forall_mem_cons.mpr ⟨hlow _ hI2, List.forall_mem_cons.mpr ⟨hlow _ hIy, fun p hp => by
          obtain ⟨hm, a, b, e⟩ := hl' p hp
          exact hobj p.1 p.2 (.tail _ (.tail _ (.tail _ (.tail _ (.tail _ (.tail _ (hm))))))) (by rw [e]; exact cls_te) (by rw [e]; exact cls_ti)⟩⟩⟩⟩⟩⟩
      have hnl := newsOf_len (Int.fmod (Int.fdiv xx 2) 8) (Int.fdiv xx 16)
      refine ⟨h7, tk7, _, nL L1 x7 dx7 lA y es7 n7 vs7 nl7 o7 o2' oy l', rfl, F7, ?_, fun p hp q hq => offAll q hq p hp, subL_of fun p hp => ?_, LawSt.mk _ x7 dx7 es7 n7 kvs7 vs7 nl7 o7 l' _ _ _ _ _ _ _ _ _ D7 hi7 ?_ ?_ d7 hTl' (fun p hp => (hl' p hp).2) hs7⟩
      · have NE := N7 (I + 1, oE) (.tail _ (.tail _ (.tail _ (.tail _ (.tail _ (.tail _ (mE)))))))
        have NI := N7 (I, oI) (.tail _ (.tail _ (.tail _ (.tail _ (.tail _ (.tail _ (mI)))))))
        exact List.forall_mem_cons.mpr ⟨NE, List.forall_mem_cons.mpr ⟨NI, List.forall_mem_cons.mpr ⟨N7 (x7, cnt es7 n7 dx7) (by k_mem), List.forall_mem_cons.mpr ⟨N7 (dx7, dictOf [] 0) (by k_mem), List.forall_mem_cons.mpr ⟨N7 (lA, listOf vs7.toArray nl7) (by k_mem), List.forall_mem_cons.mpr ⟨N7 (L1 + 1 + 1, o7) (by k_mem), List.forall_mem_cons.mpr ⟨N7 (L1 + 1, o2') (by k_mem), List.forall_mem_cons.mpr ⟨N7 (y, oy) (by k_mem), fun p hp => N7 p (.tail _ (.tail _ (.tail _ (.tail _ (.tail _ (.tail _ ((hl' p hp).1)))))))⟩⟩⟩⟩⟩⟩⟩⟩
      · obtain rfl := List.mem_singleton.mp hp
        simp
      · rw [List.length_append, List.length_map, List.length_append]
        have : (if 4 ≤ Int.fmod (Int.fdiv xx 2) 8 then tabc (Int.fdiv xx 16 + 1) else []).length ≤ 2 := by split <;> exact Nat.le_of_ble_eq_true rfl
        omega
      · intro p hp
        rcases List.mem_append.mp hp with hp | hp
        · exact hstr p hp
        · obtain ⟨q, hq, rfl⟩ := List.mem_map.mp hp
          exact news_ok q hq
  · exact LawSt.mk _ x0 dx0 es0 nn0 kvs0 [] 0 o1 [] _ _ _ _ _ _ _ none [] D0 hi0 (Nat.zero_le _) (fun _ h => nomatch h) d1' .nil (fun _ h => nomatch h) hs0
  · rintro m' news' ⟨x, dx, es, n1, kvs, vsL, nl, o1', nwT, vp, vx, vf, vr, vg, vn, vW, v0, Ld, D, hi, hlen, hstr, h1, hTl, htup, hsx⟩ h3 tk3 F3 N3
    dsimp only
    refine Law_end ho d2 hTl (by omega) hstr htup D hi hsx B1 X1 T1 F3 N3 hE ?_
    exact k
end
end Mine
end
section
open PySem PySem.W PyProof.Rows PyProof.V PySem.Calls PySem.Spec
set_option Elab.async false
set_option maxRecDepth 100000
set_option maxHeartbeats 3000000
namespace Mine
def noList (K : Frag) : Bool := K.all fun p => match p.2.cls with
  | .type s => s != "list"
  | _ => true
theorem c_nolist (P : Params) : noList (Mine.hd06.heap_39 P) = true := by kernel_rfl
section
variable {h h' : Heap} {y L : Addr} {its : Array Value} {m mg mb : Str → Option Value} {K : Frag} {p : Program} {loose : List Str} {mean : ExcName → Option Value}
theorem hide_get {b : Addr} {o : Obj} (hy : h.IsList y its) (e : h.get? b = some o) (hn : o.cls ≠ .type "list") : (hideAll h [y]).get? b = some o :=
  hideAll_get _ e fun q => by
    obtain ⟨oy, e1, e2, _⟩ := hy
    rw [List.mem_singleton.mp q, e1] at e
    cases e
    exact hn e2
theorem hide_getD {b : Addr} {o : Obj} (hy : h.IsList y its) (e : h.get? b = some o) (hn : ∀ a n, o.data ≠ .seq a n) : (hideAll h [y]).get? b = some o :=
  hideAll_get _ e fun q => by
    obtain ⟨oy, e1, _, n, e2⟩ := hy
    rw [List.mem_singleton.mp q, e1] at e
    cases e
    exact hn _ _ e2
theorem hide_ns {a : Addr} {mm : Str → Option Value} (hy : h.IsList y its) (x : h.Ns a mm) : (hideAll h [y]).Ns a mm :=
  let ⟨o, es, ep, e, hd, r⟩ := x; ⟨o, es, ep, hide_getD hy e (fun _ _ q => by rw [q] at hd; cases hd), hd, r⟩
theorem hide_K (hy : h.IsList y its) (X : K.In h) (hK : noList K = true) : K.In (hideAll h [y]) := fun a o e => by
  refine hide_get hy (X a o e) fun q => ?_
  have h2 := List.all_eq_true.mp hK (a, o) (mem_of_lookupK e)
  dsimp only at h2
  rw [q] at h2
  exact absurd h2 (by decide)
theorem hide_top (hy : h.IsList y its) (T : Top p loose mean mg mb h) :
    Top topProg (loose ++ (recsOf p).map (·.name) ++ (litsOf p).map (·.1) ++ (clssOf p loose).map (·.name)) mean mg mb (hideAll h [y]) where
  g := hide_ns hy T.g
  b := hide_ns hy T.b
  nolimit := let ⟨mc, a, r⟩ := T.nolimit; ⟨mc, hide_ns hy a, r⟩
  nodigits := let ⟨mc, a, r⟩ := T.nodigits; ⟨mc, hide_ns hy a, r⟩
  fn := fun d hd => absurd (show d ∈ ([] : List DefRec) from hd) List.not_mem_nil
  own := fun o ho => absurd (show o ∈ ([] : List OwnSpec) from ho) List.not_mem_nil
  const := fun x d e => by cases (show (none : Option PyData) = some d from e)
  free := fun x h1 h2 _ _ _ => T.free x h1 (fun q => h2 (List.mem_append_left _ (List.mem_append_left _ (List.mem_append_left _ q))))
    (fun q => h2 (List.mem_append_left _ (List.mem_append_left _ (List.mem_append_right _ q)))) (fun q => h2 (List.mem_append_left _ (List.mem_append_right _ q))) fun q => h2 (List.mem_append_right _ q)
  builtins := T.builtins
  tab := fun d hd => absurd (show d ∈ ([] : List DefRec) from hd) List.not_mem_nil
  bmain := let ⟨bm, ob, a1, a2, a3, a4, r⟩ := T.bmain; ⟨bm, ob, a1, a2, hide_get hy a3 (fun q => by rw [q] at a4; exact absurd a4 (by decide)), a4, r⟩
  seer := fun e => absurd (show false = true from e) Bool.false_ne_true
theorem hide_fr (F : Fr h L h' m) : Fr (hideAll h [y]) L h' m := ⟨F.ns, fun b o e => F.keep b o (of_hideAll _ e), Nat.le_trans (Nat.le_of_eq (hideAll_size _ _)) F.above⟩
theorem fr_back {o : Obj} (hy : h.get? y = some o) (hy' : h'.get? y = some o) (F : Fr (hideAll h [y]) L h' m) : Fr h L h' m := by
  refine ⟨F.ns, fun b x e => ?_, Nat.le_trans (Nat.le_of_eq (hideAll_size _ _).symm) F.above⟩
  by_cases q : b = y
  · rw [q] at e ⊢
    rw [hy] at e
    rw [hy', e]
  · exact F.keep b x (hideAll_get _ e fun z => q (List.mem_singleton.mp z))
end
end Mine
end
section
open PySem PySem.W PyProof.Rows PyProof.V PySem.Calls PySem.Spec
set_option Elab.async false
set_option maxRecDepth 100000
set_option maxHeartbeats 8000000
namespace Mine
theorem join06 : PySem.Challenge.rw_dn0005_06.Holds := Mine.hd06 (by
  k_fill
  intro w s₀ s₁ mg mb G Y fa o pm cd doc dV kV ho hd hcd hD hmg hg args vals as hpre hlay hrd hwl hlo
  have KX := kIn_of Y
  refine Ground.open G ?_
  intro T B D TE TW
  try (refine guard_noD D (by decide +kernel) ?_; clear D)
  have hfa := hmg.symm.trans (mg_of KX (Top.g T) (n := Str.ofString "law") (v := .ref 1121) (by k_is))
  obtain rfl : fa = 1121 := by
    injection hfa with e
    injection e
  have hl1121 := (by k_is : (Mine.hd06.heap_39 w.params).lookup 1121 = some _)
  have hob := KX 1121 _ hl1121
  have hoo := Option.some.inj (ho.symm.trans hob)
  obtain rfl : cd = .ref 1120 := by
    have := congrArg (fun d : Data => match d with | .func fd => fd.code | _ => Value.none) (hd.symm.trans (congrArg Obj.data hoo))
    exact this
  clear hob hoo hfa
  wrow_args hpre hlay hrd hwl hlo
  all_goals (
    rename_i ns hs hlay0 hL1 hr1 hl2 wa wb y vs wc hL ra w1 r0 hI hr hc1 hc2
    refine enter_call ?_
    w_top on
    w_call any ho hd hcd hD T F
    rename_i h1 tk1 o1 o2 d1 d2 N0 X0
    have hl63 : vs.length ≤ 63 := by rw [hI.length]; omega
    obtain ⟨oy, hy1, hoc, ny, hod⟩ := id hL
    have hyL : y < s₁.heap.objs.size := Heap.lt_size hy1
    have N' : News (hideAll s₁.heap [y]) s₁.heap.objs.size h1 [(s₁.heap.objs.size + 1 + 1, o1), (s₁.heap.objs.size + 1, o2), (y, oy)] := by
      intro p hp
      have low : s₁.heap.get? p.1 = none → (hideAll s₁.heap [y]).get? p.1 = none := fun e => by
        cases q : (hideAll s₁.heap [y]).get? p.1 with
        | none => rfl
        | some x => rw [of_hideAll _ q] at e; cases e
      simp only [List.mem_cons, List.not_mem_nil, or_false] at hp
      rcases hp with rfl | rfl | rfl
      · have z := N0 _ (.head _)
        exact ⟨z.1, z.2.1, low z.2.2⟩
      · have z := N0 _ (.tail _ (.head _))
        exact ⟨z.1, z.2.1, low z.2.2⟩
      · exact ⟨F.keep _ _ hy1, Nat.ne_of_lt hyL, hideAll_none _ (.head _)⟩
    refine law_body hl1121 (by kernel_rfl) (by kernel_rfl) hI hl63 hoc hod hyL d1 d2 (below_caller _) (hide_K hL KX (c_nolist _)) (hide_top hL T) (fr_fun (hide_fr F) fun z => rfl) N' (by passes_own) ?_
    intro h9 tk9 m9 F9 hy9
    have F10 := fr_back hy1 hy9 F9
    clear F9 N' N0 F
    dsimp only
    refine ⟨.inl ⟨.bool true, _, _, rfl, raisesW_false (by wrow_none_raised), (by w_reads), (postW_of (by wrow_shape) (by wtm_val) (by str_meet; first | done | w_fin)), (by exact unshared_nil)⟩, .of_keep F10.keep, rfl, (by row_bare)⟩))
end Mine
end
theorem PySem.Challenge.cw_dn0005_06_holds : PySem.Challenge.rw_dn0005_06.Holds := by
  exact Mine.join06
