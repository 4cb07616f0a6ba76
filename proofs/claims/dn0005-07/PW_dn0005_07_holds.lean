import PyProof.Rows.All
import Wide.All
import OpenK.AllK
import Wide.FinOn
import Lean
import PySem.Challenge.RW_dn0005_07
set_option compiler.extract_closed false
section
open PySem PySem.W PyProof.Rows
set_option Elab.async false
set_option maxRecDepth 100000
set_option maxHeartbeats 8000000
namespace Mine
def q0 : Str := Str.ofString "a"
theorem q0e : q0 = q0 := rfl
end Mine
name_quick tw12839219015266407081 for Mine.q0 by Mine.q0e
name_quick tw5368157572037311570 for Mine.q0 by Mine.q0e
name_quick tw3662953559003608284 for Mine.q0 by Mine.q0e
name_quick tw11061236899363940788 for Mine.q0 by Mine.q0e
name_quick tw16613325510399822916 for Mine.q0 by Mine.q0e
name_quick tw3331698826080301123 for Mine.q0 by Mine.q0e
name_quick tw4918605745172129671 for Mine.q0 by Mine.q0e
name_quick tw2237719048559848870 for Mine.q0 by Mine.q0e
name_quick tw1074105560521853234 for Mine.q0 by Mine.q0e
name_quick tw1411144341601079967 for Mine.q0 by Mine.q0e
name_quick tw4102595196433972866 for Mine.q0 by Mine.q0e
name_quick tw7941394971716470321 for Mine.q0 by Mine.q0e
name_quick tw6647495820445053832 for Mine.q0 by Mine.q0e
name_quick tw493171598205547107 for Mine.q0 by Mine.q0e
name_quick tw14040465229277446271 for Mine.q0 by Mine.q0e
name_quick tw3486411208880342156 for Mine.q0 by Mine.q0e
name_quick tw4892360697917776774 for Mine.q0 by Mine.q0e
name_quick tw3666833383224533281 for Mine.q0 by Mine.q0e
name_quick tw8736332587867435432 for Mine.q0 by Mine.q0e
name_quick tw7990721564173183942 for Mine.q0 by Mine.q0e
name_quick tw7636323811081019229 for Mine.q0 by Mine.q0e
name_quick tw532881182894650933 for Mine.q0 by Mine.q0e
name_quick tw3192576078922968385 for Mine.q0 by Mine.q0e
name_quick tw14097572812007748604 for Mine.q0 by Mine.q0e
name_quick tw4511889648317287158 for Mine.q0 by Mine.q0e
name_quick tw2842791426908052522 for Mine.q0 by Mine.q0e
name_quick tw2412030196485807664 for Mine.q0 by Mine.q0e
name_quick tw11428608465223610323 for Mine.q0 by Mine.q0e
name_quick tw7498869387106367045 for Mine.q0 by Mine.q0e
name_quick tw9668038089133029103 for Mine.q0 by Mine.q0e
name_quick tw853810700324556465 for Mine.q0 by Mine.q0e
name_quick tw13590210916621485015 for Mine.q0 by Mine.q0e
name_quick tw10257868154781695131 for Mine.q0 by Mine.q0e
name_quick tw60569298249464876 for Mine.q0 by Mine.q0e
name_quick tw11948847378651621987 for Mine.q0 by Mine.q0e
name_quick tw597885189054430474 for Mine.q0 by Mine.q0e
name_quick tw8239151647906424891 for Mine.q0 by Mine.q0e
name_quick tw605750063386718093 for Mine.q0 by Mine.q0e
name_quick tw10796834271437436287 for Mine.q0 by Mine.q0e
name_quick tw9102394656249222957 for Mine.q0 by Mine.q0e
name_quick tw1827260417429643421 for Mine.q0 by Mine.q0e
name_quick tw17331624445311975476 for Mine.q0 by Mine.q0e
name_quick tw8071041405833284153 for Mine.q0 by Mine.q0e
name_quick tw12726954001129966037 for Mine.q0 by Mine.q0e
name_quick tw3195885648384235398 for Mine.q0 by Mine.q0e
name_quick tw7669468864017409530 for Mine.q0 by Mine.q0e
name_quick tw4759755711468094989 for Mine.q0 by Mine.q0e
name_quick tw14090152605151813582 for Mine.q0 by Mine.q0e
name_quick tw9611702791630955938 for Mine.q0 by Mine.q0e
name_quick tw11040905102678178048 for Mine.q0 by Mine.q0e
name_quick tw10604416739462533936 for Mine.q0 by Mine.q0e
name_quick tw1131910997146504012 for Mine.q0 by Mine.q0e
name_quick tw8276783812852104126 for Mine.q0 by Mine.q0e
name_quick tw18291644841449277924 for Mine.q0 by Mine.q0e
name_quick tw6566377998791052978 for Mine.q0 by Mine.q0e
name_quick tw16565037882842978260 for Mine.q0 by Mine.q0e
name_quick tw16128816369937276484 for Mine.q0 by Mine.q0e
name_quick tw9042349120176898356 for Mine.q0 by Mine.q0e
name_quick tw13798231737429150785 for Mine.q0 by Mine.q0e
name_quick tw4651176347814733460 for Mine.q0 by Mine.q0e
name_quick tw8429074132229682780 for Mine.q0 by Mine.q0e
name_quick tw3484748740230982791 for Mine.q0 by Mine.q0e
name_quick tw16425919318740709479 for Mine.q0 by Mine.q0e
name_quick tw11521364152099065856 for Mine.q0 by Mine.q0e
name_quick tw3147564924950854830 for Mine.q0 by Mine.q0e
name_quick tw938890471204265201 for Mine.q0 by Mine.q0e
name_quick tw15929607795183346351 for Mine.q0 by Mine.q0e
name_quick tw13686159097015432790 for Mine.q0 by Mine.q0e
name_quick tw6330891114360748095 for Mine.q0 by Mine.q0e
name_quick tw7874966608448193291 for Mine.q0 by Mine.q0e
name_quick tw8099229717171320515 for Mine.q0 by Mine.q0e
name_quick tw4834689823243606878 for Mine.q0 by Mine.q0e
name_quick tw18082112445839221199 for Mine.q0 by Mine.q0e
name_quick tw11438540777890081358 for Mine.q0 by Mine.q0e
name_quick tw14043888844488983247 for Mine.q0 by Mine.q0e
name_quick tw18144366664065492178 for Mine.q0 by Mine.q0e
name_quick tw9999173346850267426 for Mine.q0 by Mine.q0e
name_quick tw6634374707077865753 for Mine.q0 by Mine.q0e
name_quick tw11558229042431513605 for Mine.q0 by Mine.q0e
name_quick tw9234980401304188390 for Mine.q0 by Mine.q0e
name_quick tw11152867147084922862 for Mine.q0 by Mine.q0e
name_quick tw7459679570146179290 for Mine.q0 by Mine.q0e
name_quick tw7925916328892271731 for Mine.q0 by Mine.q0e
name_quick tw4104593508367953551 for Mine.q0 by Mine.q0e
name_quick tw5469742612019622732 for Mine.q0 by Mine.q0e
name_quick tw15989979543317298596 for Mine.q0 by Mine.q0e
name_quick tw9856073520541182221 for Mine.q0 by Mine.q0e
name_quick tw15318737500776782452 for Mine.q0 by Mine.q0e
name_quick tw1332299449042175378 for Mine.q0 by Mine.q0e
name_quick tw12094952875865553668 for Mine.q0 by Mine.q0e
name_quick tw6148204320525351678 for Mine.q0 by Mine.q0e
name_quick tw740527597201735756 for Mine.q0 by Mine.q0e
name_quick tw14229218916786639980 for Mine.q0 by Mine.q0e
name_quick tw18142691129737897801 for Mine.q0 by Mine.q0e
name_quick tw15256006972257280250 for Mine.q0 by Mine.q0e
name_quick tw6244806633341031945 for Mine.q0 by Mine.q0e
name_quick tw7191670777389585325 for Mine.q0 by Mine.q0e
name_quick tw3067769124000729648 for Mine.q0 by Mine.q0e
name_quick tw2364306538067672149 for Mine.q0 by Mine.q0e
name_quick tw6725048906637654360 for Mine.q0 by Mine.q0e
name_quick tw5416408091139220141 for Mine.q0 by Mine.q0e
name_quick tw9800380573313597213 for Mine.q0 by Mine.q0e
name_quick tw9974261806184646696 for Mine.q0 by Mine.q0e
name_quick tw6173407680565673076 for Mine.q0 by Mine.q0e
name_quick tw9750499962948473824 for Mine.q0 by Mine.q0e
name_quick tw4348384120097639742 for Mine.q0 by Mine.q0e
name_quick tw15814194206873147609 for Mine.q0 by Mine.q0e
name_quick tw4045390437643406115 for Mine.q0 by Mine.q0e
name_quick tw13153695754659314448 for Mine.q0 by Mine.q0e
name_quick tw15214780522231837531 for Mine.q0 by Mine.q0e
name_quick tw8914561954341950849 for Mine.q0 by Mine.q0e
name_quick tw4427698743319665935 for Mine.q0 by Mine.q0e
name_quick tw8329648312105855439 for Mine.q0 by Mine.q0e
name_quick tw10604322358779086808 for Mine.q0 by Mine.q0e
name_quick tw11261027356846829954 for Mine.q0 by Mine.q0e
name_quick tw6631608743370682401 for Mine.q0 by Mine.q0e
name_quick tw7128446535089342103 for Mine.q0 by Mine.q0e
name_quick tw6628288533514174295 for Mine.q0 by Mine.q0e
name_quick tw5944469104202583606 for Mine.q0 by Mine.q0e
name_quick tw11738576666052543735 for Mine.q0 by Mine.q0e
name_quick tw16257752641981176434 for Mine.q0 by Mine.q0e
name_quick tw5876495575474922268 for Mine.q0 by Mine.q0e
name_quick tw588219157087091811 for Mine.q0 by Mine.q0e
name_quick tw10495858132344226885 for Mine.q0 by Mine.q0e
name_quick tw11434908400544349052 for Mine.q0 by Mine.q0e
name_quick tw18290198186735507812 for Mine.q0 by Mine.q0e
name_quick tw17825412031646193245 for Mine.q0 by Mine.q0e
name_quick tw2529218188997374437 for Mine.q0 by Mine.q0e
name_quick tw16631122553186265700 for Mine.q0 by Mine.q0e
name_quick tw14178375882664808736 for Mine.q0 by Mine.q0e
name_quick tw1629619700067714496 for Mine.q0 by Mine.q0e
name_quick tw13184744855631353858 for Mine.q0 by Mine.q0e
name_quick tw16506040839350836141 for Mine.q0 by Mine.q0e
name_quick tw15859099065484949459 for Mine.q0 by Mine.q0e
name_quick tw7027184183188285651 for Mine.q0 by Mine.q0e
name_quick tw416403133716397983 for Mine.q0 by Mine.q0e
name_quick tw14709462089145250180 for Mine.q0 by Mine.q0e
name_quick tw5569150354194093551 for Mine.q0 by Mine.q0e
name_quick tw11277797955082185031 for Mine.q0 by Mine.q0e
name_quick tw9289795592612307918 for Mine.q0 by Mine.q0e
name_quick tw2219463357257260088 for Mine.q0 by Mine.q0e
name_quick tw13310953833353445660 for Mine.q0 by Mine.q0e
name_quick tw9285947197575023546 for Mine.q0 by Mine.q0e
name_quick tw14393950699845406196 for Mine.q0 by Mine.q0e
name_quick tw7112676221480054141 for Mine.q0 by Mine.q0e
name_quick tw15285197699212736941 for Mine.q0 by Mine.q0e
name_quick tw10263896278305589463 for Mine.q0 by Mine.q0e
name_quick tw5793594988990804726 for Mine.q0 by Mine.q0e
name_quick tw5051732710700105579 for Mine.q0 by Mine.q0e
name_quick tw4182062041994164332 for Mine.q0 by Mine.q0e
name_quick tw1308059779315114399 for Mine.q0 by Mine.q0e
name_quick tw14486864873411980472 for Mine.q0 by Mine.q0e
name_quick tw8539744986887019703 for Mine.q0 by Mine.q0e
name_quick tw16301074266091938881 for Mine.q0 by Mine.q0e
name_quick tw2542339179209390362 for Mine.q0 by Mine.q0e
name_quick tw6547123927124424791 for Mine.q0 by Mine.q0e
name_quick tw7265133797381073126 for Mine.q0 by Mine.q0e
name_quick tw5822795395682810710 for Mine.q0 by Mine.q0e
name_quick tw1179605926524627650 for Mine.q0 by Mine.q0e
name_quick tw11543794760737342803 for Mine.q0 by Mine.q0e
name_quick tw1451768543788341982 for Mine.q0 by Mine.q0e
name_quick tw7955681061937350102 for Mine.q0 by Mine.q0e
name_quick tw16236177754020546448 for Mine.q0 by Mine.q0e
name_quick tw7958582886220789096 for Mine.q0 by Mine.q0e
name_quick tw6908503171726923950 for Mine.q0 by Mine.q0e
name_quick tw4251231744091728757 for Mine.q0 by Mine.q0e
name_quick tw1179713084780133831 for Mine.q0 by Mine.q0e
name_quick tw9903649809915126190 for Mine.q0 by Mine.q0e
name_quick tw11371769314731041803 for Mine.q0 by Mine.q0e
name_quick tw7710184014607760823 for Mine.q0 by Mine.q0e
name_quick tw7839908341342705679 for Mine.q0 by Mine.q0e
name_quick tw2011030631327059927 for Mine.q0 by Mine.q0e
name_quick tw12994024158865674758 for Mine.q0 by Mine.q0e
name_quick tw8156558829412762272 for Mine.q0 by Mine.q0e
name_quick tw14852116946782932694 for Mine.q0 by Mine.q0e
name_quick tw15927754756234036839 for Mine.q0 by Mine.q0e
name_quick tw17309198801324077494 for Mine.q0 by Mine.q0e
name_quick tw5324886687733426847 for Mine.q0 by Mine.q0e
name_quick tw15477836115397836141 for Mine.q0 by Mine.q0e
name_quick tw9032820583931444720 for Mine.q0 by Mine.q0e
name_quick tw10561813001659539312 for Mine.q0 by Mine.q0e
name_quick tw10570891917227241024 for Mine.q0 by Mine.q0e
name_quick tw6905383366758362305 for Mine.q0 by Mine.q0e
name_quick tw3455989192543021163 for Mine.q0 by Mine.q0e
name_quick tw15772100903719717714 for Mine.q0 by Mine.q0e
name_quick tw17749558710052370620 for Mine.q0 by Mine.q0e
name_quick tw15516316500169470785 for Mine.q0 by Mine.q0e
name_quick tw1268144545886957268 for Mine.q0 by Mine.q0e
name_quick tw6774508033391430944 for Mine.q0 by Mine.q0e
name_quick tw8044864981585461184 for Mine.q0 by Mine.q0e
name_quick tw3691260480554639148 for Mine.q0 by Mine.q0e
name_quick tw12266259853907646568 for Mine.q0 by Mine.q0e
name_quick tw7547522206936435421 for Mine.q0 by Mine.q0e
name_quick tw11900338011014738301 for Mine.q0 by Mine.q0e
name_quick tw9292386721576963810 for Mine.q0 by Mine.q0e
name_quick tw8999655056955539721 for Mine.q0 by Mine.q0e
name_quick tw15468545918031477667 for Mine.q0 by Mine.q0e
name_quick tw1592617776039509984 for Mine.q0 by Mine.q0e
name_quick tw5534414518335701016 for Mine.q0 by Mine.q0e
name_quick tw2057907735105845138 for Mine.q0 by Mine.q0e
name_quick tw11210325207865159359 for Mine.q0 by Mine.q0e
name_quick tw2731725649751206521 for Mine.q0 by Mine.q0e
name_quick tw13218251086341809796 for Mine.q0 by Mine.q0e
name_quick tw14703909656233079298 for Mine.q0 by Mine.q0e
name_quick tw9448803277408460294 for Mine.q0 by Mine.q0e
name_quick tw5061499513859064548 for Mine.q0 by Mine.q0e
name_quick tw11661493474815178935 for Mine.q0 by Mine.q0e
name_quick tw7730037422614734087 for Mine.q0 by Mine.q0e
name_quick tw528772624251687690 for Mine.q0 by Mine.q0e
name_quick tw15553988988139616275 for Mine.q0 by Mine.q0e
name_quick tw6954948779592446873 for Mine.q0 by Mine.q0e
name_quick tw16453282464602713735 for Mine.q0 by Mine.q0e
name_quick tw11582690941273065055 for Mine.q0 by Mine.q0e
name_quick tw8301831938146671565 for Mine.q0 by Mine.q0e
name_quick tw2622979439362058085 for Mine.q0 by Mine.q0e
name_quick tw137239605251761107 for Mine.q0 by Mine.q0e
name_quick tw16772921496517491727 for Mine.q0 by Mine.q0e
name_quick tw16231442953830851096 for Mine.q0 by Mine.q0e
name_quick tw15911860676471541357 for Mine.q0 by Mine.q0e
name_quick tw17320355030607236996 for Mine.q0 by Mine.q0e
name_quick tw6137394061977617496 for Mine.q0 by Mine.q0e
name_quick tw15624394946630857828 for Mine.q0 by Mine.q0e
name_quick tw17673701932541498322 for Mine.q0 by Mine.q0e
name_quick tw11773796069026935232 for Mine.q0 by Mine.q0e
name_quick tw13372744723045412740 for Mine.q0 by Mine.q0e
name_quick tw17540694421153372118 for Mine.q0 by Mine.q0e
name_quick tw12719972923770018205 for Mine.q0 by Mine.q0e
name_quick tw13561710996872435290 for Mine.q0 by Mine.q0e
name_quick tw4363992755712420386 for Mine.q0 by Mine.q0e
name_quick tw7611265164120221419 for Mine.q0 by Mine.q0e
name_quick tw12146594090416684253 for Mine.q0 by Mine.q0e
name_quick tw7431750646324702396 for Mine.q0 by Mine.q0e
name_quick tw18017235498012419116 for Mine.q0 by Mine.q0e
name_quick tw5778899162191517945 for Mine.q0 by Mine.q0e
name_quick tw3224449720051519708 for Mine.q0 by Mine.q0e
name_quick tw4207181716387630649 for Mine.q0 by Mine.q0e
name_quick tw1893443708972683969 for Mine.q0 by Mine.q0e
name_quick tw5759244963557442932 for Mine.q0 by Mine.q0e
name_quick tw7218259498009930638 for Mine.q0 by Mine.q0e
name_quick tw2911155859309982050 for Mine.q0 by Mine.q0e
name_quick tw15146448056261100677 for Mine.q0 by Mine.q0e
name_quick tw16798561772474814313 for Mine.q0 by Mine.q0e
name_quick tw14378831666699649387 for Mine.q0 by Mine.q0e
name_quick tw15491347567439224713 for Mine.q0 by Mine.q0e
name_quick tw1886208447383956724 for Mine.q0 by Mine.q0e
name_quick tw8848494690672784638 for Mine.q0 by Mine.q0e
name_quick tw4451488266600878308 for Mine.q0 by Mine.q0e
name_quick tw5543986619231026194 for Mine.q0 by Mine.q0e
name_quick tw12970342471077213488 for Mine.q0 by Mine.q0e
name_quick tw14144783237056315269 for Mine.q0 by Mine.q0e
name_quick tw15060957855627467055 for Mine.q0 by Mine.q0e
name_quick tw17767160416635169125 for Mine.q0 by Mine.q0e
name_quick tw13876269370445264493 for Mine.q0 by Mine.q0e
name_quick tw4774059421773994803 for Mine.q0 by Mine.q0e
name_quick tw5059097846847552054 for Mine.q0 by Mine.q0e
name_quick tw1077746535819890404 for Mine.q0 by Mine.q0e
name_quick tw15031849353693906490 for Mine.q0 by Mine.q0e
name_quick tw7820436287437634852 for Mine.q0 by Mine.q0e
name_quick tw6936050222823914432 for Mine.q0 by Mine.q0e
name_quick tw14945476388297421652 for Mine.q0 by Mine.q0e
name_quick tw3412179305326422036 for Mine.q0 by Mine.q0e
name_quick tw1182701830042573658 for Mine.q0 by Mine.q0e
name_quick tw12435841297008620333 for Mine.q0 by Mine.q0e
name_quick tw13520738827812885939 for Mine.q0 by Mine.q0e
name_quick tw9396148434046258686 for Mine.q0 by Mine.q0e
name_quick tw6433321226001374643 for Mine.q0 by Mine.q0e
name_quick tw5743279339316438070 for Mine.q0 by Mine.q0e
name_quick tw16944585133123330052 for Mine.q0 by Mine.q0e
name_quick tw1615447301778457364 for Mine.q0 by Mine.q0e
name_quick tw7353462489333150417 for Mine.q0 by Mine.q0e
name_quick tw15775223349332661114 for Mine.q0 by Mine.q0e
name_quick tw3961466975053734795 for Mine.q0 by Mine.q0e
name_quick tw12603791392549583312 for Mine.q0 by Mine.q0e
name_quick tw10838794590820059380 for Mine.q0 by Mine.q0e
name_quick tw15817980264045993782 for Mine.q0 by Mine.q0e
name_quick tw6159581115072047379 for Mine.q0 by Mine.q0e
name_quick tw18250667363545630439 for Mine.q0 by Mine.q0e
name_quick tw7908438937550300680 for Mine.q0 by Mine.q0e
name_quick tw10649025891887522593 for Mine.q0 by Mine.q0e
name_quick tw9658884834362034265 for Mine.q0 by Mine.q0e
name_quick tw15942141803041764733 for Mine.q0 by Mine.q0e
name_quick tw10952977741634694104 for Mine.q0 by Mine.q0e
name_quick tw11400662371977106589 for Mine.q0 by Mine.q0e
name_quick tw13085827267415844722 for Mine.q0 by Mine.q0e
name_quick tw1886922022019992740 for Mine.q0 by Mine.q0e
name_quick tw11179581141163408205 for Mine.q0 by Mine.q0e
name_quick tw14833963656036705793 for Mine.q0 by Mine.q0e
name_quick tw2922600574262484079 for Mine.q0 by Mine.q0e
name_quick tw4998551340426132604 for Mine.q0 by Mine.q0e
name_quick tw2602854082354631835 for Mine.q0 by Mine.q0e
name_quick tw12875006127288165432 for Mine.q0 by Mine.q0e
name_quick tw10078809549588184083 for Mine.q0 by Mine.q0e
name_quick tw6321164764412388867 for Mine.q0 by Mine.q0e
name_quick tw10674244890259113225 for Mine.q0 by Mine.q0e
name_quick tw15516269284909528593 for Mine.q0 by Mine.q0e
name_quick tw805153812175932919 for Mine.q0 by Mine.q0e
name_quick tw132935472840812199 for Mine.q0 by Mine.q0e
name_quick tw1431629078139849301 for Mine.q0 by Mine.q0e
name_quick tw7765783001764687069 for Mine.q0 by Mine.q0e
name_quick tw6104948357072152835 for Mine.q0 by Mine.q0e
name_quick tw11647677367588203361 for Mine.q0 by Mine.q0e
name_quick tw1450942128057829867 for Mine.q0 by Mine.q0e
name_quick tw9520495277413826082 for Mine.q0 by Mine.q0e
name_quick tw1055770523385820082 for Mine.q0 by Mine.q0e
name_quick tw12245957618469510169 for Mine.q0 by Mine.q0e
name_quick tw6503112985248201481 for Mine.q0 by Mine.q0e
name_quick tw1627983978971458261 for Mine.q0 by Mine.q0e
name_quick tw11006832081636860103 for Mine.q0 by Mine.q0e
name_quick tw9285040049315841259 for Mine.q0 by Mine.q0e
name_quick tw14627330471318485870 for Mine.q0 by Mine.q0e
name_quick tw16204513444761465150 for Mine.q0 by Mine.q0e
name_quick tw8296490491140343071 for Mine.q0 by Mine.q0e
name_quick tw7648802434856700226 for Mine.q0 by Mine.q0e
name_quick tw16279263390368936185 for Mine.q0 by Mine.q0e
name_quick tw3615933795606648151 for Mine.q0 by Mine.q0e
name_quick tw1612841007924393628 for Mine.q0 by Mine.q0e
name_quick tw1304414300111667280 for Mine.q0 by Mine.q0e
name_quick tw17716611119370381141 for Mine.q0 by Mine.q0e
name_quick tw11561950788460606704 for Mine.q0 by Mine.q0e
name_quick tw9915185177241189765 for Mine.q0 by Mine.q0e
name_quick tw12700238618571489032 for Mine.q0 by Mine.q0e
name_quick tw1997785298467561969 for Mine.q0 by Mine.q0e
name_quick tw2446952586705656061 for Mine.q0 by Mine.q0e
name_quick tw8445667466592039178 for Mine.q0 by Mine.q0e
name_quick tw3437172875505537873 for Mine.q0 by Mine.q0e
name_quick tw18126816767741358551 for Mine.q0 by Mine.q0e
name_quick tw7906955780985893216 for Mine.q0 by Mine.q0e
name_quick tw7311803242182948140 for Mine.q0 by Mine.q0e
name_quick tw17803615514479261987 for Mine.q0 by Mine.q0e
name_quick tw8189588804875987040 for Mine.q0 by Mine.q0e
name_quick tw11829372794633333430 for Mine.q0 by Mine.q0e
name_quick tw1436568786003864215 for Mine.q0 by Mine.q0e
name_quick tw16993272507253198689 for Mine.q0 by Mine.q0e
name_quick tw2506677572030250490 for Mine.q0 by Mine.q0e
name_quick tw8798728253383160169 for Mine.q0 by Mine.q0e
name_quick tw16794366141497945941 for Mine.q0 by Mine.q0e
name_quick tw1540227969121045917 for Mine.q0 by Mine.q0e
name_quick tw1562167832350209770 for Mine.q0 by Mine.q0e
name_quick tw17631703318759594437 for Mine.q0 by Mine.q0e
name_quick tw6427673121831887885 for Mine.q0 by Mine.q0e
name_quick tw7618451652836285161 for Mine.q0 by Mine.q0e
name_quick tw18306756661995682663 for Mine.q0 by Mine.q0e
name_quick tw17067694988271758785 for Mine.q0 by Mine.q0e
name_quick tw6791436873122776105 for Mine.q0 by Mine.q0e
name_quick tw5156084100234806350 for Mine.q0 by Mine.q0e
name_quick tw13628088921192503231 for Mine.q0 by Mine.q0e
name_quick tw6468101461546314296 for Mine.q0 by Mine.q0e
name_quick tw5415640256459313609 for Mine.q0 by Mine.q0e
name_quick tw7592352979993618626 for Mine.q0 by Mine.q0e
name_quick tw1526826001673324452 for Mine.q0 by Mine.q0e
name_quick tw9699128759683464431 for Mine.q0 by Mine.q0e
name_quick tw7526297902704155777 for Mine.q0 by Mine.q0e
name_quick tw1735275782795788163 for Mine.q0 by Mine.q0e
name_quick tw9406485933414124537 for Mine.q0 by Mine.q0e
name_quick tw14732446871748756928 for Mine.q0 by Mine.q0e
name_quick tw11206144290635179580 for Mine.q0 by Mine.q0e
name_quick tw18147020756378299192 for Mine.q0 by Mine.q0e
name_quick tw9134894159190865643 for Mine.q0 by Mine.q0e
name_quick tw9495356043440606867 for Mine.q0 by Mine.q0e
name_quick tw2278855237823992720 for Mine.q0 by Mine.q0e
name_quick tw3513272962699124050 for Mine.q0 by Mine.q0e
name_quick tw17527040108133891702 for Mine.q0 by Mine.q0e
name_quick tw10517736027997526091 for Mine.q0 by Mine.q0e
name_quick tw7905971757404951594 for Mine.q0 by Mine.q0e
name_quick tw15654753775658942658 for Mine.q0 by Mine.q0e
name_quick tw4802041168658077420 for Mine.q0 by Mine.q0e
name_quick tw1234437774292865403 for Mine.q0 by Mine.q0e
name_quick tw15718725338715633518 for Mine.q0 by Mine.q0e
name_quick tw3551810551422701141 for Mine.q0 by Mine.q0e
name_quick tw393762165112526059 for Mine.q0 by Mine.q0e
name_quick tw5094447944859849733 for Mine.q0 by Mine.q0e
name_quick tw15632219662268922016 for Mine.q0 by Mine.q0e
name_quick tw3094779346878679161 for Mine.q0 by Mine.q0e
name_quick tw17644210535619010078 for Mine.q0 by Mine.q0e
name_quick tw7550557901579450077 for Mine.q0 by Mine.q0e
name_quick tw6802515374652799375 for Mine.q0 by Mine.q0e
name_quick tw11560200361851894588 for Mine.q0 by Mine.q0e
name_quick tw18195435303399720543 for Mine.q0 by Mine.q0e
name_quick tw5107257449908802882 for Mine.q0 by Mine.q0e
name_quick tw6763930735883516928 for Mine.q0 by Mine.q0e
name_quick tw14622277901410506074 for Mine.q0 by Mine.q0e
name_quick tw10708525794791418100 for Mine.q0 by Mine.q0e
name_quick tw9891861278388954313 for Mine.q0 by Mine.q0e
name_quick tw12975388813076528736 for Mine.q0 by Mine.q0e
name_quick tw14795224129508891252 for Mine.q0 by Mine.q0e
name_quick tw16842389142265945573 for Mine.q0 by Mine.q0e
name_quick tw42657066820482083 for Mine.q0 by Mine.q0e
name_quick tw2675133304669550310 for Mine.q0 by Mine.q0e
name_quick tw187349363347338182 for Mine.q0 by Mine.q0e
name_quick tw9646376585181845243 for Mine.q0 by Mine.q0e
name_quick tw16778996493982031715 for Mine.q0 by Mine.q0e
name_quick tw16372645165986624375 for Mine.q0 by Mine.q0e
name_quick tw1505838834558975232 for Mine.q0 by Mine.q0e
name_quick tw7641699408948991888 for Mine.q0 by Mine.q0e
name_quick tw210420221120406565 for Mine.q0 by Mine.q0e
name_quick tw14966455394465902017 for Mine.q0 by Mine.q0e
name_quick tw8568514545214229436 for Mine.q0 by Mine.q0e
name_quick tw14684822157466949746 for Mine.q0 by Mine.q0e
name_quick tw424647644405482599 for Mine.q0 by Mine.q0e
name_quick tw5951505281462722037 for Mine.q0 by Mine.q0e
name_quick tw16575300430627097278 for Mine.q0 by Mine.q0e
name_quick tw1448748776680901269 for Mine.q0 by Mine.q0e
name_quick tw6235934695954320243 for Mine.q0 by Mine.q0e
name_quick tw2885650365884899311 for Mine.q0 by Mine.q0e
name_quick tw15035742990474948026 for Mine.q0 by Mine.q0e
name_quick tw2787236569591321426 for Mine.q0 by Mine.q0e
name_quick tw6142132534467002359 for Mine.q0 by Mine.q0e
name_quick tw16486441495306896240 for Mine.q0 by Mine.q0e
name_quick tw1223728572156235731 for Mine.q0 by Mine.q0e
name_quick tw4821752522145663469 for Mine.q0 by Mine.q0e
name_quick tw17412580773430460481 for Mine.q0 by Mine.q0e
name_quick tw11220803738268391450 for Mine.q0 by Mine.q0e
name_quick tw13526842837696727657 for Mine.q0 by Mine.q0e
name_quick tw7970642146288766030 for Mine.q0 by Mine.q0e
name_quick tw9888143604096806598 for Mine.q0 by Mine.q0e
name_quick tw1684608057536732471 for Mine.q0 by Mine.q0e
name_quick tw16542389263513188023 for Mine.q0 by Mine.q0e
name_quick tw1704678641949568823 for Mine.q0 by Mine.q0e
name_quick tw13944506523369716834 for Mine.q0 by Mine.q0e
name_quick tw9282541300576512054 for Mine.q0 by Mine.q0e
name_quick tw8143395746518998368 for Mine.q0 by Mine.q0e
name_quick tw7795399605939355359 for Mine.q0 by Mine.q0e
name_quick tw11994319018924684077 for Mine.q0 by Mine.q0e
name_quick tw1009701614661382321 for Mine.q0 by Mine.q0e
name_quick tw10494936051405941975 for Mine.q0 by Mine.q0e
name_quick tw2133451882726373956 for Mine.q0 by Mine.q0e
name_quick tw9009818129387745315 for Mine.q0 by Mine.q0e
name_quick tw12618460153290207742 for Mine.q0 by Mine.q0e
name_quick tw16493794483947889368 for Mine.q0 by Mine.q0e
name_quick tw13914578789010576871 for Mine.q0 by Mine.q0e
name_quick tw969717319241949269 for Mine.q0 by Mine.q0e
name_quick tw400907364400039102 for Mine.q0 by Mine.q0e
name_quick tw1194004382460452499 for Mine.q0 by Mine.q0e
name_quick tw18223934035069324671 for Mine.q0 by Mine.q0e
name_quick tw3211640591400515511 for Mine.q0 by Mine.q0e
name_quick tw4553662879410994477 for Mine.q0 by Mine.q0e
name_quick tw10847874086176663311 for Mine.q0 by Mine.q0e
name_quick tw4048887934198484077 for Mine.q0 by Mine.q0e
name_quick tw8193392066793775997 for Mine.q0 by Mine.q0e
name_quick tw3505488348207940341 for Mine.q0 by Mine.q0e
name_quick tw11127383928415955386 for Mine.q0 by Mine.q0e
name_quick tw281615358724616418 for Mine.q0 by Mine.q0e
name_quick tw3085984533683238665 for Mine.q0 by Mine.q0e
name_quick tw6479506855342342200 for Mine.q0 by Mine.q0e
name_quick tw10434419711544036137 for Mine.q0 by Mine.q0e
name_quick tw7923475198507213539 for Mine.q0 by Mine.q0e
name_quick tw6835888795151642419 for Mine.q0 by Mine.q0e
name_quick tw2409771192903048373 for Mine.q0 by Mine.q0e
name_quick tw7565399160626174300 for Mine.q0 by Mine.q0e
name_quick tw15558566542210957196 for Mine.q0 by Mine.q0e
name_quick tw12680950052442141359 for Mine.q0 by Mine.q0e
name_quick tw11771332810106970140 for Mine.q0 by Mine.q0e
name_quick tw13701784936540736240 for Mine.q0 by Mine.q0e
name_quick tw5323535284406764005 for Mine.q0 by Mine.q0e
name_quick tw5266056923835919427 for Mine.q0 by Mine.q0e
name_quick tw3552913806874408274 for Mine.q0 by Mine.q0e
name_quick tw15965404762999598579 for Mine.q0 by Mine.q0e
name_quick tw2182843195692022924 for Mine.q0 by Mine.q0e
name_quick tw13555377668056700629 for Mine.q0 by Mine.q0e
name_quick tw8070605387439405545 for Mine.q0 by Mine.q0e
name_quick tw5457940088541568540 for Mine.q0 by Mine.q0e
name_quick tw10959773100454361631 for Mine.q0 by Mine.q0e
name_quick tw12043236434798719785 for Mine.q0 by Mine.q0e
name_quick tw11394137420356573141 for Mine.q0 by Mine.q0e
name_quick tw13815965863987461911 for Mine.q0 by Mine.q0e
name_quick tw6263194124613462635 for Mine.q0 by Mine.q0e
name_quick tw3061887879385763950 for Mine.q0 by Mine.q0e
name_quick tw1109481925397910964 for Mine.q0 by Mine.q0e
name_quick tw18409950372534667594 for Mine.q0 by Mine.q0e
name_quick tw12323182403684997330 for Mine.q0 by Mine.q0e
name_quick tw9298149210171043155 for Mine.q0 by Mine.q0e
name_quick tw2746518073881128960 for Mine.q0 by Mine.q0e
name_quick tw6282365589646070835 for Mine.q0 by Mine.q0e
name_quick tw14285912988907100941 for Mine.q0 by Mine.q0e
name_quick tw16928903425182640433 for Mine.q0 by Mine.q0e
name_quick tw9303973080780142309 for Mine.q0 by Mine.q0e
name_quick tw13920253888111282474 for Mine.q0 by Mine.q0e
name_quick tw8902778842789882638 for Mine.q0 by Mine.q0e
name_quick tw14002220126022253133 for Mine.q0 by Mine.q0e
name_quick tw6647562928324003331 for Mine.q0 by Mine.q0e
name_quick tw12350579573920239901 for Mine.q0 by Mine.q0e
name_quick tw3238784393676424743 for Mine.q0 by Mine.q0e
name_quick tw18219399547230772456 for Mine.q0 by Mine.q0e
name_quick tw15245793269469077595 for Mine.q0 by Mine.q0e
name_quick tw3891250426037567821 for Mine.q0 by Mine.q0e
name_quick tw18040836279075535890 for Mine.q0 by Mine.q0e
name_quick tw6845062242975297231 for Mine.q0 by Mine.q0e
name_quick tw12298269807992568058 for Mine.q0 by Mine.q0e
name_quick tw570158723054558638 for Mine.q0 by Mine.q0e
name_quick tw2118607676988095904 for Mine.q0 by Mine.q0e
name_quick tw14282711604657769843 for Mine.q0 by Mine.q0e
name_quick tw4668341633260332982 for Mine.q0 by Mine.q0e
name_quick tw357267581743520008 for Mine.q0 by Mine.q0e
name_quick tw9865399577322550164 for Mine.q0 by Mine.q0e
name_quick tw3766825472337286803 for Mine.q0 by Mine.q0e
name_quick tw14756510236021088411 for Mine.q0 by Mine.q0e
name_quick tw16984309484822619877 for Mine.q0 by Mine.q0e
name_quick tw12644441984304920158 for Mine.q0 by Mine.q0e
name_quick tw6289392093661612355 for Mine.q0 by Mine.q0e
name_quick tw6425251249803784532 for Mine.q0 by Mine.q0e
name_quick tw4824291022000099194 for Mine.q0 by Mine.q0e
name_quick tw7510790618964649461 for Mine.q0 by Mine.q0e
name_quick tw6082294867837433154 for Mine.q0 by Mine.q0e
name_quick tw2137929152746821895 for Mine.q0 by Mine.q0e
name_quick tw2617230857964419356 for Mine.q0 by Mine.q0e
name_quick tw7494591483387927413 for Mine.q0 by Mine.q0e
name_quick tw16919870267744406867 for Mine.q0 by Mine.q0e
name_quick tw9079225145543394725 for Mine.q0 by Mine.q0e
name_quick tw288007997862015527 for Mine.q0 by Mine.q0e
name_quick tw2502284912480265304 for Mine.q0 by Mine.q0e
name_quick tw5426157471579085411 for Mine.q0 by Mine.q0e
name_quick tw10059434269347281314 for Mine.q0 by Mine.q0e
name_quick tw7758475370993051892 for Mine.q0 by Mine.q0e
name_quick tw2718503900823129664 for Mine.q0 by Mine.q0e
name_quick tw17656236263985534310 for Mine.q0 by Mine.q0e
name_quick tw1686487248141480593 for Mine.q0 by Mine.q0e
name_quick tw11337142878441151632 for Mine.q0 by Mine.q0e
name_quick tw14659867470508542621 for Mine.q0 by Mine.q0e
name_quick tw15371907051925022857 for Mine.q0 by Mine.q0e
name_quick tw14345967208503804611 for Mine.q0 by Mine.q0e
name_quick tw7371293236585012272 for Mine.q0 by Mine.q0e
name_quick tw12390533755416633842 for Mine.q0 by Mine.q0e
name_quick tw10120733393758392884 for Mine.q0 by Mine.q0e
name_quick tw2597025026087484374 for Mine.q0 by Mine.q0e
name_quick tw1113194596204157903 for Mine.q0 by Mine.q0e
name_quick tw1624628389369767046 for Mine.q0 by Mine.q0e
name_quick tw17583316697937663254 for Mine.q0 by Mine.q0e
name_quick tw13046693985768562825 for Mine.q0 by Mine.q0e
name_quick tw7043435544464823499 for Mine.q0 by Mine.q0e
name_quick tw2261778612940600448 for Mine.q0 by Mine.q0e
name_quick tw8469451423327794654 for Mine.q0 by Mine.q0e
name_quick tw9644633110138586243 for Mine.q0 by Mine.q0e
name_quick tw5547204180613263187 for Mine.q0 by Mine.q0e
name_quick tw14427999125015663970 for Mine.q0 by Mine.q0e
name_quick tw14724633272415700555 for Mine.q0 by Mine.q0e
name_quick tw1976457154147669734 for Mine.q0 by Mine.q0e
name_quick tw12062589163913951296 for Mine.q0 by Mine.q0e
name_quick tw8669447648282512858 for Mine.q0 by Mine.q0e
name_quick tw4884606542904956958 for Mine.q0 by Mine.q0e
name_quick tw18191416554204955914 for Mine.q0 by Mine.q0e
name_quick tw2369892758485455613 for Mine.q0 by Mine.q0e
name_quick tw16575999870862011940 for Mine.q0 by Mine.q0e
name_quick tw17364873195289259699 for Mine.q0 by Mine.q0e
name_quick tw4446738077321122320 for Mine.q0 by Mine.q0e
name_quick tw4772338326043054696 for Mine.q0 by Mine.q0e
name_quick tw9996039252504451848 for Mine.q0 by Mine.q0e
name_quick tw13907276999121927140 for Mine.q0 by Mine.q0e
name_quick tw17995626086100801872 for Mine.q0 by Mine.q0e
name_quick tw437069832505343995 for Mine.q0 by Mine.q0e
name_quick tw10512284549675155762 for Mine.q0 by Mine.q0e
name_quick tw9139704858392394051 for Mine.q0 by Mine.q0e
name_quick tw5089920074588531594 for Mine.q0 by Mine.q0e
name_quick tw11067220456759905730 for Mine.q0 by Mine.q0e
name_quick tw15594894248289223312 for Mine.q0 by Mine.q0e
name_quick tw4612515555609436641 for Mine.q0 by Mine.q0e
name_quick tw3453978002471286550 for Mine.q0 by Mine.q0e
name_quick tw13992874381008195600 for Mine.q0 by Mine.q0e
name_quick tw7190541782026906961 for Mine.q0 by Mine.q0e
name_quick tw5576745895654064974 for Mine.q0 by Mine.q0e
name_quick tw7451860603029401556 for Mine.q0 by Mine.q0e
name_quick tw18323497511809532765 for Mine.q0 by Mine.q0e
name_quick tw10897728981908786156 for Mine.q0 by Mine.q0e
name_quick tw11881273174682257868 for Mine.q0 by Mine.q0e
name_quick tw7565108758146941076 for Mine.q0 by Mine.q0e
name_quick tw13234061357992989724 for Mine.q0 by Mine.q0e
name_quick tw41886646675866462 for Mine.q0 by Mine.q0e
name_quick tw10588105471875281616 for Mine.q0 by Mine.q0e
name_quick tw3816262783997277497 for Mine.q0 by Mine.q0e
name_quick tw3045463968474706783 for Mine.q0 by Mine.q0e
name_quick tw8865756320242280414 for Mine.q0 by Mine.q0e
name_quick tw1755234300842659370 for Mine.q0 by Mine.q0e
name_quick tw8600907324405260762 for Mine.q0 by Mine.q0e
name_quick tw1929232637625609445 for Mine.q0 by Mine.q0e
name_quick tw3739348977861812709 for Mine.q0 by Mine.q0e
name_quick tw1023271433093914630 for Mine.q0 by Mine.q0e
name_quick tw4732711021230096021 for Mine.q0 by Mine.q0e
name_quick tw3947767709522622844 for Mine.q0 by Mine.q0e
name_quick tw14617493771297910638 for Mine.q0 by Mine.q0e
name_quick tw5888116039446590191 for Mine.q0 by Mine.q0e
name_quick tw11222596069692672428 for Mine.q0 by Mine.q0e
name_quick tw4634047976727570176 for Mine.q0 by Mine.q0e
name_quick tw16582746340418262533 for Mine.q0 by Mine.q0e
name_quick tw13327288075180312373 for Mine.q0 by Mine.q0e
name_quick tw4299796195487042992 for Mine.q0 by Mine.q0e
name_quick tw8420551358006018078 for Mine.q0 by Mine.q0e
name_quick tw15950826877197619696 for Mine.q0 by Mine.q0e
name_quick tw17438142469822930704 for Mine.q0 by Mine.q0e
name_quick tw12515024542320574783 for Mine.q0 by Mine.q0e
name_quick tw10990764389451543976 for Mine.q0 by Mine.q0e
name_quick tw14876091936147837477 for Mine.q0 by Mine.q0e
name_quick tw8323823049944134870 for Mine.q0 by Mine.q0e
name_quick tw5366867180046975034 for Mine.q0 by Mine.q0e
name_quick tw14216429837229074659 for Mine.q0 by Mine.q0e
name_quick tw4273938670117822027 for Mine.q0 by Mine.q0e
name_quick tw10124632009912687141 for Mine.q0 by Mine.q0e
name_quick tw11261650311600218915 for Mine.q0 by Mine.q0e
name_quick tw4451246995796432709 for Mine.q0 by Mine.q0e
name_quick tw17295532887401505500 for Mine.q0 by Mine.q0e
name_quick tw15452528848955573986 for Mine.q0 by Mine.q0e
name_quick tw7393348299734200730 for Mine.q0 by Mine.q0e
name_quick tw8983220787917900820 for Mine.q0 by Mine.q0e
name_quick tw4098274870875766876 for Mine.q0 by Mine.q0e
name_quick tw2486718329582523726 for Mine.q0 by Mine.q0e
name_quick tw2342578987998911650 for Mine.q0 by Mine.q0e
name_quick tw10738001862320894251 for Mine.q0 by Mine.q0e
name_quick tw7901821006041843131 for Mine.q0 by Mine.q0e
name_quick tw3194246926345489421 for Mine.q0 by Mine.q0e
name_quick tw4122624818600327871 for Mine.q0 by Mine.q0e
name_quick tw10422561787261462638 for Mine.q0 by Mine.q0e
name_quick tw6393062331798419811 for Mine.q0 by Mine.q0e
name_quick tw16886872909128775944 for Mine.q0 by Mine.q0e
name_quick tw9144644430112336497 for Mine.q0 by Mine.q0e
name_quick tw10709979471612734196 for Mine.q0 by Mine.q0e
name_quick tw16098507183895387678 for Mine.q0 by Mine.q0e
name_quick tw5957084621210162732 for Mine.q0 by Mine.q0e
name_quick tw852943577526429622 for Mine.q0 by Mine.q0e
name_quick tw5435360099401651634 for Mine.q0 by Mine.q0e
name_quick tw2037661907896202593 for Mine.q0 by Mine.q0e
name_quick tw2084992980403786397 for Mine.q0 by Mine.q0e
name_quick tw1374985536658776423 for Mine.q0 by Mine.q0e
name_quick tw13931964733005472741 for Mine.q0 by Mine.q0e
name_quick tw13902483121051939493 for Mine.q0 by Mine.q0e
name_quick tw5632129403677325902 for Mine.q0 by Mine.q0e
name_quick tw4046496299182810941 for Mine.q0 by Mine.q0e
name_quick tw2142342786440468035 for Mine.q0 by Mine.q0e
name_quick tw10234577772552283380 for Mine.q0 by Mine.q0e
name_quick tw13491466809613561729 for Mine.q0 by Mine.q0e
name_quick tw14456558447490067623 for Mine.q0 by Mine.q0e
name_quick tw4675978912424817723 for Mine.q0 by Mine.q0e
name_quick tw7761538122825571750 for Mine.q0 by Mine.q0e
name_quick tw14994453642020879231 for Mine.q0 by Mine.q0e
name_quick tw8464336647232301956 for Mine.q0 by Mine.q0e
name_quick tw8895185631116458772 for Mine.q0 by Mine.q0e
name_quick tw11904303371587141975 for Mine.q0 by Mine.q0e
name_quick tw8108944863428503357 for Mine.q0 by Mine.q0e
name_quick tw13892677374158179039 for Mine.q0 by Mine.q0e
name_quick tw338216928501778042 for Mine.q0 by Mine.q0e
name_quick tw18037472972925029975 for Mine.q0 by Mine.q0e
name_quick tw1798733782400237480 for Mine.q0 by Mine.q0e
name_quick tw12101520784027659988 for Mine.q0 by Mine.q0e
name_quick tw7390325401296918266 for Mine.q0 by Mine.q0e
name_quick tw2408309134945462480 for Mine.q0 by Mine.q0e
name_quick tw3873647172617207188 for Mine.q0 by Mine.q0e
name_quick tw7404734270511004570 for Mine.q0 by Mine.q0e
name_quick tw11808054397612959515 for Mine.q0 by Mine.q0e
name_quick tw18099597066064020683 for Mine.q0 by Mine.q0e
name_quick tw7881182784007143944 for Mine.q0 by Mine.q0e
name_quick tw7696196627320783232 for Mine.q0 by Mine.q0e
name_quick tw7115360300222477155 for Mine.q0 by Mine.q0e
name_quick tw16270021034584802160 for Mine.q0 by Mine.q0e
name_quick tw814228826958930504 for Mine.q0 by Mine.q0e
name_quick tw12359280334889115625 for Mine.q0 by Mine.q0e
name_quick tw15298636066729851110 for Mine.q0 by Mine.q0e
name_quick tw16828812903943547904 for Mine.q0 by Mine.q0e
name_quick tw3700641551740220914 for Mine.q0 by Mine.q0e
name_quick tw352888638323238521 for Mine.q0 by Mine.q0e
name_quick tw4884480462177761655 for Mine.q0 by Mine.q0e
name_quick tw13240357154900693127 for Mine.q0 by Mine.q0e
name_quick tw8916530891749613617 for Mine.q0 by Mine.q0e
name_quick tw18125076602899021745 for Mine.q0 by Mine.q0e
name_quick tw7851435949600139882 for Mine.q0 by Mine.q0e
name_quick tw4684301238567702581 for Mine.q0 by Mine.q0e
name_quick tw12276016192454929844 for Mine.q0 by Mine.q0e
name_quick tw12920535691415245061 for Mine.q0 by Mine.q0e
name_quick tw10676315381859940858 for Mine.q0 by Mine.q0e
name_quick tw16633701274864780617 for Mine.q0 by Mine.q0e
name_quick tw14150027494917237922 for Mine.q0 by Mine.q0e
name_quick tw10521814415692147525 for Mine.q0 by Mine.q0e
name_quick tw2900644543752981392 for Mine.q0 by Mine.q0e
name_quick tw8978861633818726050 for Mine.q0 by Mine.q0e
name_quick tw17478447543702248228 for Mine.q0 by Mine.q0e
name_quick tw10968032818851225183 for Mine.q0 by Mine.q0e
name_quick tw9480202314343073847 for Mine.q0 by Mine.q0e
name_quick tw8392783467811944188 for Mine.q0 by Mine.q0e
name_quick tw4056138690204388194 for Mine.q0 by Mine.q0e
name_quick tw8804511571480446746 for Mine.q0 by Mine.q0e
name_quick tw4417732051825235081 for Mine.q0 by Mine.q0e
name_quick tw14320581172242351285 for Mine.q0 by Mine.q0e
name_quick tw18157414768145753904 for Mine.q0 by Mine.q0e
name_quick tw16652726302213050176 for Mine.q0 by Mine.q0e
name_quick tw13326026962552280209 for Mine.q0 by Mine.q0e
name_quick tw6184565870426640793 for Mine.q0 by Mine.q0e
name_quick tw6978026533436826633 for Mine.q0 by Mine.q0e
name_quick tw17228965518212334043 for Mine.q0 by Mine.q0e
name_quick tw15964407358600613279 for Mine.q0 by Mine.q0e
name_quick tw1073025278018091104 for Mine.q0 by Mine.q0e
name_quick tw4375684190771046858 for Mine.q0 by Mine.q0e
name_quick tw11624995480168083184 for Mine.q0 by Mine.q0e
name_quick tw16709758969852147396 for Mine.q0 by Mine.q0e
name_quick tw4064172906924098049 for Mine.q0 by Mine.q0e
name_quick tw18078363668447448817 for Mine.q0 by Mine.q0e
name_quick tw14233578587411416162 for Mine.q0 by Mine.q0e
name_quick tw18337510885148645246 for Mine.q0 by Mine.q0e
name_quick tw5621628064364632101 for Mine.q0 by Mine.q0e
name_quick tw11608544896968906473 for Mine.q0 by Mine.q0e
name_quick tw3796078464571223842 for Mine.q0 by Mine.q0e
name_quick tw9661910172597972624 for Mine.q0 by Mine.q0e
name_quick tw17770383752763365107 for Mine.q0 by Mine.q0e
name_quick tw2284605944868013803 for Mine.q0 by Mine.q0e
name_quick tw18186743982126012844 for Mine.q0 by Mine.q0e
name_quick tw5870495037419527767 for Mine.q0 by Mine.q0e
name_quick tw18351699183217648885 for Mine.q0 by Mine.q0e
name_quick tw7059560714623513622 for Mine.q0 by Mine.q0e
name_quick tw14102111363516224595 for Mine.q0 by Mine.q0e
name_quick tw8911249103417650467 for Mine.q0 by Mine.q0e
name_quick tw9726491557479992149 for Mine.q0 by Mine.q0e
name_quick tw16072930691170289863 for Mine.q0 by Mine.q0e
name_quick tw7529924138651412349 for Mine.q0 by Mine.q0e
name_quick tw15159627012693033377 for Mine.q0 by Mine.q0e
name_quick tw1768090960416575039 for Mine.q0 by Mine.q0e
name_quick tw1312397275783071736 for Mine.q0 by Mine.q0e
name_quick tw640171104773667110 for Mine.q0 by Mine.q0e
name_quick tw7095682329010207712 for Mine.q0 by Mine.q0e
name_quick tw8378612256993197065 for Mine.q0 by Mine.q0e
name_quick tw3963504293786652739 for Mine.q0 by Mine.q0e
name_quick tw1949491206640472420 for Mine.q0 by Mine.q0e
name_quick tw757563093588383157 for Mine.q0 by Mine.q0e
name_quick tw969338813628093046 for Mine.q0 by Mine.q0e
name_quick tw16085793643260023290 for Mine.q0 by Mine.q0e
name_quick tw11270226674587473899 for Mine.q0 by Mine.q0e
name_quick tw17324384784071348104 for Mine.q0 by Mine.q0e
name_quick tw1747849556866038517 for Mine.q0 by Mine.q0e
name_quick tw3414292198482691220 for Mine.q0 by Mine.q0e
name_quick tw18267615013262472001 for Mine.q0 by Mine.q0e
name_quick tw6136879672317900810 for Mine.q0 by Mine.q0e
name_quick tw10711446445486429799 for Mine.q0 by Mine.q0e
name_quick tw540565061590077569 for Mine.q0 by Mine.q0e
name_quick tw16300582942078200612 for Mine.q0 by Mine.q0e
name_quick tw539407912602756619 for Mine.q0 by Mine.q0e
name_quick tw441669386083918112 for Mine.q0 by Mine.q0e
name_quick tw334502518794376155 for Mine.q0 by Mine.q0e
name_quick tw18220670977869717077 for Mine.q0 by Mine.q0e
name_quick tw11240858032701911216 for Mine.q0 by Mine.q0e
name_quick tw4547937315149455573 for Mine.q0 by Mine.q0e
name_quick tw12100011056689008417 for Mine.q0 by Mine.q0e
name_quick tw2269415784118250229 for Mine.q0 by Mine.q0e
name_quick tw17851742661844438761 for Mine.q0 by Mine.q0e
name_quick tw8011051814143790826 for Mine.q0 by Mine.q0e
name_quick tw10878872375164654033 for Mine.q0 by Mine.q0e
name_quick tw1720341778255141521 for Mine.q0 by Mine.q0e
name_quick tw18080733900578447511 for Mine.q0 by Mine.q0e
name_quick tw10926519217454372819 for Mine.q0 by Mine.q0e
name_quick tw7053750263974257430 for Mine.q0 by Mine.q0e
name_quick tw13812343179933507517 for Mine.q0 by Mine.q0e
name_quick tw2442635104508205262 for Mine.q0 by Mine.q0e
name_quick tw970910400574682871 for Mine.q0 by Mine.q0e
name_quick tw1107883217291756028 for Mine.q0 by Mine.q0e
name_quick tw7104711841816374998 for Mine.q0 by Mine.q0e
name_quick tw3932703891126859384 for Mine.q0 by Mine.q0e
name_quick tw18424048868109462506 for Mine.q0 by Mine.q0e
name_quick tw17310472053782893774 for Mine.q0 by Mine.q0e
name_quick tw13175030877818235334 for Mine.q0 by Mine.q0e
name_quick tw12248659523105459487 for Mine.q0 by Mine.q0e
name_quick tw5019789453142201774 for Mine.q0 by Mine.q0e
name_quick tw453234255793381758 for Mine.q0 by Mine.q0e
name_quick tw17334772990153681419 for Mine.q0 by Mine.q0e
name_quick tw1565631902503166016 for Mine.q0 by Mine.q0e
name_quick tw8315640473112493972 for Mine.q0 by Mine.q0e
name_quick tw11625841236546227591 for Mine.q0 by Mine.q0e
name_quick tw13715941926119508840 for Mine.q0 by Mine.q0e
name_quick tw10776086364787299080 for Mine.q0 by Mine.q0e
name_quick tw14437423429156554223 for Mine.q0 by Mine.q0e
name_quick tw14339600922121695556 for Mine.q0 by Mine.q0e
name_quick tw3537352878810056686 for Mine.q0 by Mine.q0e
name_quick tw13283647977317043669 for Mine.q0 by Mine.q0e
name_quick tw972027997229697133 for Mine.q0 by Mine.q0e
name_quick tw8715053612311120497 for Mine.q0 by Mine.q0e
name_quick tw9149858852479762531 for Mine.q0 by Mine.q0e
name_quick tw3210163651382058442 for Mine.q0 by Mine.q0e
name_quick tw7280071611175163702 for Mine.q0 by Mine.q0e
name_quick tw3345013323998154353 for Mine.q0 by Mine.q0e
name_quick tw15610367298684007088 for Mine.q0 by Mine.q0e
name_quick tw11114797133995596286 for Mine.q0 by Mine.q0e
name_quick tw11263232099640648332 for Mine.q0 by Mine.q0e
name_quick tw7955399634977589541 for Mine.q0 by Mine.q0e
name_quick tw7238606428844639768 for Mine.q0 by Mine.q0e
name_quick tw6026494003450611239 for Mine.q0 by Mine.q0e
name_quick tw5751987840286202384 for Mine.q0 by Mine.q0e
name_quick tw10594798879406159456 for Mine.q0 by Mine.q0e
name_quick tw8310711674685824727 for Mine.q0 by Mine.q0e
name_quick tw14874151199713480378 for Mine.q0 by Mine.q0e
name_quick tw4508464477582789387 for Mine.q0 by Mine.q0e
name_quick tw13938548404993553696 for Mine.q0 by Mine.q0e
name_quick tw917640649706811226 for Mine.q0 by Mine.q0e
name_quick tw9552728145390556135 for Mine.q0 by Mine.q0e
name_quick tw766233758416101277 for Mine.q0 by Mine.q0e
name_quick tw1078229732662724172 for Mine.q0 by Mine.q0e
name_quick tw11009555647603228588 for Mine.q0 by Mine.q0e
name_quick tw9547006133315323387 for Mine.q0 by Mine.q0e
name_quick tw9369572545897453347 for Mine.q0 by Mine.q0e
name_quick tw7830428448810753911 for Mine.q0 by Mine.q0e
name_quick tw6020835478716780550 for Mine.q0 by Mine.q0e
name_quick tw17522101507608487140 for Mine.q0 by Mine.q0e
name_quick tw10055230495806579686 for Mine.q0 by Mine.q0e
name_quick tw2922399377491659784 for Mine.q0 by Mine.q0e
name_quick tw5995102205402897983 for Mine.q0 by Mine.q0e
name_quick tw5522794971650265224 for Mine.q0 by Mine.q0e
name_quick tw12760168451197891697 for Mine.q0 by Mine.q0e
name_quick tw4617488506453187477 for Mine.q0 by Mine.q0e
name_quick tw15025489580638049218 for Mine.q0 by Mine.q0e
name_quick tw2455098604189358432 for Mine.q0 by Mine.q0e
name_quick tw5290527753111238575 for Mine.q0 by Mine.q0e
name_quick tw11390432008675169655 for Mine.q0 by Mine.q0e
name_quick tw15971479931430604039 for Mine.q0 by Mine.q0e
name_quick tw15981034496299032649 for Mine.q0 by Mine.q0e
name_quick tw8816765975860664509 for Mine.q0 by Mine.q0e
name_quick tw11202616864830204333 for Mine.q0 by Mine.q0e
name_quick tw225754577171419596 for Mine.q0 by Mine.q0e
name_quick tw7743087509738659136 for Mine.q0 by Mine.q0e
name_quick tw14121165368539454347 for Mine.q0 by Mine.q0e
name_quick tw6656275503918712004 for Mine.q0 by Mine.q0e
name_quick tw3810100624569633812 for Mine.q0 by Mine.q0e
name_quick tw5393317540047286071 for Mine.q0 by Mine.q0e
name_quick tw11386931927767564583 for Mine.q0 by Mine.q0e
name_quick tw251187522205338784 for Mine.q0 by Mine.q0e
name_quick tw2439320082928163900 for Mine.q0 by Mine.q0e
name_quick tw9708923167689608637 for Mine.q0 by Mine.q0e
name_quick tw16451100845481597877 for Mine.q0 by Mine.q0e
name_quick tw5637398251956562268 for Mine.q0 by Mine.q0e
name_quick tw1348204248963755861 for Mine.q0 by Mine.q0e
name_quick tw7140785253864462008 for Mine.q0 by Mine.q0e
name_quick tw16618699759069837736 for Mine.q0 by Mine.q0e
name_quick tw7939200074125945366 for Mine.q0 by Mine.q0e
name_quick tw5192266589014932927 for Mine.q0 by Mine.q0e
name_quick tw11111022380507210716 for Mine.q0 by Mine.q0e
name_quick tw1891466398016717631 for Mine.q0 by Mine.q0e
name_quick tw11106860231789404106 for Mine.q0 by Mine.q0e
name_quick tw2871421023543950796 for Mine.q0 by Mine.q0e
name_quick tw18204056767377206965 for Mine.q0 by Mine.q0e
name_quick tw15941484779844945344 for Mine.q0 by Mine.q0e
name_quick tw5997088535636597117 for Mine.q0 by Mine.q0e
name_quick tw15348091146019652226 for Mine.q0 by Mine.q0e
name_quick tw4831555990472189419 for Mine.q0 by Mine.q0e
name_quick tw451344332233213426 for Mine.q0 by Mine.q0e
name_quick tw9179176270009279561 for Mine.q0 by Mine.q0e
name_quick tw9889795213379218042 for Mine.q0 by Mine.q0e
name_quick tw16201580866273668416 for Mine.q0 by Mine.q0e
name_quick tw15973107668940017932 for Mine.q0 by Mine.q0e
name_quick tw864648238845330924 for Mine.q0 by Mine.q0e
name_quick tw15127040971034432087 for Mine.q0 by Mine.q0e
name_quick tw15805191943034804750 for Mine.q0 by Mine.q0e
name_quick tw18399964303782974557 for Mine.q0 by Mine.q0e
name_quick tw12498982543666260696 for Mine.q0 by Mine.q0e
name_quick tw996640591012722889 for Mine.q0 by Mine.q0e
name_quick tw12626157401143697425 for Mine.q0 by Mine.q0e
name_quick tw11000851849756859405 for Mine.q0 by Mine.q0e
name_quick tw3784595710981423653 for Mine.q0 by Mine.q0e
name_quick tw3771110377951770378 for Mine.q0 by Mine.q0e
name_quick tw14705855990772554709 for Mine.q0 by Mine.q0e
name_quick tw14141709318229322495 for Mine.q0 by Mine.q0e
name_quick tw21106449382135476 for Mine.q0 by Mine.q0e
name_quick tw2583301329876371263 for Mine.q0 by Mine.q0e
name_quick tw13628280713545226482 for Mine.q0 by Mine.q0e
name_quick tw10396826129831638073 for Mine.q0 by Mine.q0e
name_quick tw1939908661650985791 for Mine.q0 by Mine.q0e
name_quick tw3337598048858018675 for Mine.q0 by Mine.q0e
name_quick tw11866953558316665313 for Mine.q0 by Mine.q0e
name_quick tw2316878401223686944 for Mine.q0 by Mine.q0e
name_quick tw6557535145903867713 for Mine.q0 by Mine.q0e
name_quick tw7406725975414187751 for Mine.q0 by Mine.q0e
name_quick tw2812971389649458461 for Mine.q0 by Mine.q0e
name_quick tw8218617754748590720 for Mine.q0 by Mine.q0e
name_quick tw15773815505047224486 for Mine.q0 by Mine.q0e
name_quick tw319652357951794921 for Mine.q0 by Mine.q0e
name_quick tw13745413982064970132 for Mine.q0 by Mine.q0e
name_quick tw5621606624710112943 for Mine.q0 by Mine.q0e
name_quick tw9198742795787078723 for Mine.q0 by Mine.q0e
name_quick tw3162212775153794863 for Mine.q0 by Mine.q0e
name_quick tw2016067045192795307 for Mine.q0 by Mine.q0e
name_quick tw2072076946836477730 for Mine.q0 by Mine.q0e
name_quick tw8058334852827922053 for Mine.q0 by Mine.q0e
name_quick tw11156689324310222535 for Mine.q0 by Mine.q0e
name_quick tw15415722497446275388 for Mine.q0 by Mine.q0e
name_quick tw8039775833180881182 for Mine.q0 by Mine.q0e
name_quick tw7888102606409155597 for Mine.q0 by Mine.q0e
name_quick tw11974008455761437059 for Mine.q0 by Mine.q0e
name_quick tw6465472313136441619 for Mine.q0 by Mine.q0e
name_quick tw4532958204933919351 for Mine.q0 by Mine.q0e
name_quick tw11261672474475797201 for Mine.q0 by Mine.q0e
name_quick tw12277858138369123752 for Mine.q0 by Mine.q0e
name_quick tw8190906158077380248 for Mine.q0 by Mine.q0e
name_quick tw12414301476427029104 for Mine.q0 by Mine.q0e
name_quick tw4619423105035623980 for Mine.q0 by Mine.q0e
name_quick tw133307398982742032 for Mine.q0 by Mine.q0e
name_quick tw290157104665120318 for Mine.q0 by Mine.q0e
name_quick tw17401304331564617696 for Mine.q0 by Mine.q0e
name_quick tw13481680246937424289 for Mine.q0 by Mine.q0e
name_quick tw6328559894774728060 for Mine.q0 by Mine.q0e
name_quick tw9405513971031390075 for Mine.q0 by Mine.q0e
name_quick tw3043927102355732023 for Mine.q0 by Mine.q0e
name_quick tw524179957817437306 for Mine.q0 by Mine.q0e
name_quick tw5097677474420783746 for Mine.q0 by Mine.q0e
name_quick tw15128058856650456406 for Mine.q0 by Mine.q0e
name_quick tw10231864898876076329 for Mine.q0 by Mine.q0e
name_quick tw5404083003092647141 for Mine.q0 by Mine.q0e
name_quick tw12472418983557497571 for Mine.q0 by Mine.q0e
name_quick tw1462981654770427257 for Mine.q0 by Mine.q0e
name_quick tw1804784031631362713 for Mine.q0 by Mine.q0e
name_quick tw5626406247871198961 for Mine.q0 by Mine.q0e
name_quick tw5077769416037043807 for Mine.q0 by Mine.q0e
name_quick tw9792286565212088413 for Mine.q0 by Mine.q0e
name_quick tw15461323204634074892 for Mine.q0 by Mine.q0e
name_quick tw2888843627662393903 for Mine.q0 by Mine.q0e
name_quick tw5624262888203867820 for Mine.q0 by Mine.q0e
name_quick tw11257350921959866189 for Mine.q0 by Mine.q0e
name_quick tw12264647567718506113 for Mine.q0 by Mine.q0e
name_quick tw14514162185733347675 for Mine.q0 by Mine.q0e
name_quick tw18322638568998216890 for Mine.q0 by Mine.q0e
name_quick tw1269537454875047076 for Mine.q0 by Mine.q0e
name_quick tw10892843973687946337 for Mine.q0 by Mine.q0e
name_quick tw4105682423888564454 for Mine.q0 by Mine.q0e
name_quick tw1179075109379890921 for Mine.q0 by Mine.q0e
name_quick tw6812029228455749791 for Mine.q0 by Mine.q0e
name_quick tw201784924697738228 for Mine.q0 by Mine.q0e
name_quick tw9318025452055343549 for Mine.q0 by Mine.q0e
name_quick tw5973269742690336898 for Mine.q0 by Mine.q0e
name_quick tw16216196662082500838 for Mine.q0 by Mine.q0e
name_quick tw12773379656054603397 for Mine.q0 by Mine.q0e
name_quick tw148564911252696107 for Mine.q0 by Mine.q0e
name_quick tw17382786519029589819 for Mine.q0 by Mine.q0e
name_quick tw9448846339970893192 for Mine.q0 by Mine.q0e
name_quick tw4923140293714164781 for Mine.q0 by Mine.q0e
name_quick tw16647458044431949422 for Mine.q0 by Mine.q0e
name_quick tw16078544330654723070 for Mine.q0 by Mine.q0e
name_quick tw4444201421739498156 for Mine.q0 by Mine.q0e
name_quick tw2029912481374417244 for Mine.q0 by Mine.q0e
name_quick tw15189504776350398270 for Mine.q0 by Mine.q0e
name_quick tw13537275799051352004 for Mine.q0 by Mine.q0e
name_quick tw1040592522900647826 for Mine.q0 by Mine.q0e
name_quick tw15319565199868567755 for Mine.q0 by Mine.q0e
name_quick tw17698372376682450766 for Mine.q0 by Mine.q0e
name_quick tw14937070259132710998 for Mine.q0 by Mine.q0e
name_quick tw14676467382334344051 for Mine.q0 by Mine.q0e
name_quick tw3684519809810467817 for Mine.q0 by Mine.q0e
name_quick tw11718527398104888598 for Mine.q0 by Mine.q0e
name_quick tw17745989787577029174 for Mine.q0 by Mine.q0e
name_quick tw5027735665179397297 for Mine.q0 by Mine.q0e
name_quick tw13607578385520968969 for Mine.q0 by Mine.q0e
name_quick tw7516008786192272444 for Mine.q0 by Mine.q0e
name_quick tw8901697490238027571 for Mine.q0 by Mine.q0e
name_quick tw8712028035134857899 for Mine.q0 by Mine.q0e
name_quick tw9061971720262985271 for Mine.q0 by Mine.q0e
name_quick tw11794359313531519983 for Mine.q0 by Mine.q0e
name_quick tw9197803115455560702 for Mine.q0 by Mine.q0e
name_quick tw7190382920250814945 for Mine.q0 by Mine.q0e
name_quick tw9744483681396497953 for Mine.q0 by Mine.q0e
name_quick tw17419510549028424863 for Mine.q0 by Mine.q0e
name_quick tw5838984674725437605 for Mine.q0 by Mine.q0e
name_quick tw14363017130261581931 for Mine.q0 by Mine.q0e
name_quick tw8175293358696609551 for Mine.q0 by Mine.q0e
name_quick tw4447293352986800174 for Mine.q0 by Mine.q0e
name_quick tw9131034904405103042 for Mine.q0 by Mine.q0e
name_quick tw4825847924601210366 for Mine.q0 by Mine.q0e
name_quick tw848920339274966446 for Mine.q0 by Mine.q0e
name_quick tw17432588635424752171 for Mine.q0 by Mine.q0e
name_quick tw813646317761965624 for Mine.q0 by Mine.q0e
name_quick tw12914440395780708053 for Mine.q0 by Mine.q0e
name_quick tw16093961616601556437 for Mine.q0 by Mine.q0e
name_quick tw1262285870775677427 for Mine.q0 by Mine.q0e
name_quick tw5544125058018419978 for Mine.q0 by Mine.q0e
name_quick tw3020743143947215836 for Mine.q0 by Mine.q0e
name_quick tw7313933875016813560 for Mine.q0 by Mine.q0e
name_quick tw10906107977265969530 for Mine.q0 by Mine.q0e
name_quick tw3798562521615542133 for Mine.q0 by Mine.q0e
name_quick tw134908553987976496 for Mine.q0 by Mine.q0e
name_quick tw14253029642915902047 for Mine.q0 by Mine.q0e
name_quick tw17939783707670378024 for Mine.q0 by Mine.q0e
name_quick tw6290826014036794076 for Mine.q0 by Mine.q0e
name_quick tw16675187220325582366 for Mine.q0 by Mine.q0e
name_quick tw11882001125032838026 for Mine.q0 by Mine.q0e
name_quick tw10426348836527195497 for Mine.q0 by Mine.q0e
name_quick tw3192641703514094518 for Mine.q0 by Mine.q0e
name_quick tw7448869784479575315 for Mine.q0 by Mine.q0e
name_quick tw7908131651573179032 for Mine.q0 by Mine.q0e
name_quick tw17109317836772008253 for Mine.q0 by Mine.q0e
name_quick tw10276217817784502320 for Mine.q0 by Mine.q0e
name_quick tw785286350164699550 for Mine.q0 by Mine.q0e
name_quick tw8809038253003254049 for Mine.q0 by Mine.q0e
name_quick tw14021717849911066380 for Mine.q0 by Mine.q0e
name_quick tw7807154667178819925 for Mine.q0 by Mine.q0e
name_quick tw3432371377891147361 for Mine.q0 by Mine.q0e
name_quick tw13913635341879913344 for Mine.q0 by Mine.q0e
name_quick tw8953422889264616713 for Mine.q0 by Mine.q0e
name_quick tw11425890506916684456 for Mine.q0 by Mine.q0e
name_quick tw16353776522263570604 for Mine.q0 by Mine.q0e
name_quick tw2826127895275697616 for Mine.q0 by Mine.q0e
name_quick tw9043643973211304812 for Mine.q0 by Mine.q0e
name_quick tw2125720562663764455 for Mine.q0 by Mine.q0e
name_quick tw11212999229257883295 for Mine.q0 by Mine.q0e
name_quick tw13099905847861723224 for Mine.q0 by Mine.q0e
name_quick tw16418788056316794922 for Mine.q0 by Mine.q0e
name_quick tw6616248359390844754 for Mine.q0 by Mine.q0e
name_quick tw11398978764443429329 for Mine.q0 by Mine.q0e
name_quick tw12083197428619560636 for Mine.q0 by Mine.q0e
name_quick tw3231508224561036537 for Mine.q0 by Mine.q0e
name_quick tw14595889813243648588 for Mine.q0 by Mine.q0e
name_quick tw16547266763082398247 for Mine.q0 by Mine.q0e
name_quick tw2101655353822788271 for Mine.q0 by Mine.q0e
name_quick tw16653481467577771104 for Mine.q0 by Mine.q0e
name_quick tw11193197157398931155 for Mine.q0 by Mine.q0e
name_quick tw9427453884360150837 for Mine.q0 by Mine.q0e
name_quick tw6888356732984487025 for Mine.q0 by Mine.q0e
name_quick tw11334881980167903241 for Mine.q0 by Mine.q0e
name_quick tw3828602607410378066 for Mine.q0 by Mine.q0e
name_quick tw5612049842669591633 for Mine.q0 by Mine.q0e
name_quick tw11270437019766943878 for Mine.q0 by Mine.q0e
name_quick tw10766559081246085841 for Mine.q0 by Mine.q0e
name_quick tw1804978426731991191 for Mine.q0 by Mine.q0e
name_quick tw10089443835440699115 for Mine.q0 by Mine.q0e
name_quick tw6918704305761499021 for Mine.q0 by Mine.q0e
name_quick tw11051923600095955241 for Mine.q0 by Mine.q0e
name_quick tw14389570990276823396 for Mine.q0 by Mine.q0e
name_quick tw17826592977633635212 for Mine.q0 by Mine.q0e
name_quick tw15797232043295564797 for Mine.q0 by Mine.q0e
name_quick tw8493361466974224825 for Mine.q0 by Mine.q0e
name_quick tw15069442460234085260 for Mine.q0 by Mine.q0e
name_quick tw5585691138278098572 for Mine.q0 by Mine.q0e
name_quick tw1296047073166966382 for Mine.q0 by Mine.q0e
name_quick tw16297695497394670132 for Mine.q0 by Mine.q0e
name_quick tw14072458337378573090 for Mine.q0 by Mine.q0e
name_quick tw3004302342414168236 for Mine.q0 by Mine.q0e
name_quick tw2562327502579761821 for Mine.q0 by Mine.q0e
name_quick tw17010339313037881695 for Mine.q0 by Mine.q0e
name_quick tw6557609407152151187 for Mine.q0 by Mine.q0e
name_quick tw6298974822038129656 for Mine.q0 by Mine.q0e
name_quick tw759777441636189883 for Mine.q0 by Mine.q0e
name_quick tw15816176191107484237 for Mine.q0 by Mine.q0e
name_quick tw15071181688407255253 for Mine.q0 by Mine.q0e
name_quick tw9245401248196006035 for Mine.q0 by Mine.q0e
name_quick tw186267614815897661 for Mine.q0 by Mine.q0e
name_quick tw15976129480653375084 for Mine.q0 by Mine.q0e
name_quick tw1110844233406390153 for Mine.q0 by Mine.q0e
name_quick tw12610401980782823739 for Mine.q0 by Mine.q0e
name_quick tw3625860013792150700 for Mine.q0 by Mine.q0e
name_quick tw6354695655097979963 for Mine.q0 by Mine.q0e
name_quick tw18154970292839788053 for Mine.q0 by Mine.q0e
name_quick tw9823386137680398763 for Mine.q0 by Mine.q0e
name_quick tw11114008912527989514 for Mine.q0 by Mine.q0e
name_quick tw16991718469415511777 for Mine.q0 by Mine.q0e
name_quick tw6224945140282290301 for Mine.q0 by Mine.q0e
name_quick tw8689808021819991299 for Mine.q0 by Mine.q0e
name_quick tw11668118570492662204 for Mine.q0 by Mine.q0e
name_quick tw17460342534788242106 for Mine.q0 by Mine.q0e
name_quick tw706736698058648905 for Mine.q0 by Mine.q0e
name_quick tw6636759883762097445 for Mine.q0 by Mine.q0e
name_quick tw9532456906277725207 for Mine.q0 by Mine.q0e
name_quick tw14054547281239964326 for Mine.q0 by Mine.q0e
name_quick tw4409219813661282722 for Mine.q0 by Mine.q0e
name_quick tw9626832496510776484 for Mine.q0 by Mine.q0e
name_quick tw6197252518781462928 for Mine.q0 by Mine.q0e
name_quick tw10754129291774132444 for Mine.q0 by Mine.q0e
name_quick tw7108745344411980655 for Mine.q0 by Mine.q0e
name_quick tw5900670110369887884 for Mine.q0 by Mine.q0e
name_quick tw5022400294613247695 for Mine.q0 by Mine.q0e
name_quick tw861141955361194742 for Mine.q0 by Mine.q0e
name_quick tw3530463297076478509 for Mine.q0 by Mine.q0e
name_quick tw8134388582197253047 for Mine.q0 by Mine.q0e
name_quick tw4122760208133611678 for Mine.q0 by Mine.q0e
name_quick tw9236055241438818147 for Mine.q0 by Mine.q0e
name_quick tw8029863586258500176 for Mine.q0 by Mine.q0e
name_quick tw16009228104410498857 for Mine.q0 by Mine.q0e
name_quick tw3421018320241913993 for Mine.q0 by Mine.q0e
name_quick tw8023375689950726864 for Mine.q0 by Mine.q0e
name_quick tw2015537369657241988 for Mine.q0 by Mine.q0e
name_quick tw4414236720147136280 for Mine.q0 by Mine.q0e
name_quick tw1069222923675820641 for Mine.q0 by Mine.q0e
name_quick tw12109499339417228713 for Mine.q0 by Mine.q0e
name_quick tw8185051288177025403 for Mine.q0 by Mine.q0e
name_quick tw343066446791485696 for Mine.q0 by Mine.q0e
name_quick tw8282158894037977829 for Mine.q0 by Mine.q0e
name_quick tw8498838816278069878 for Mine.q0 by Mine.q0e
name_quick tw11451498069619782401 for Mine.q0 by Mine.q0e
name_quick tw15411700241171681147 for Mine.q0 by Mine.q0e
name_quick tw6258728892338988910 for Mine.q0 by Mine.q0e
name_quick tw1065944466837094285 for Mine.q0 by Mine.q0e
name_quick tw4529788245920237970 for Mine.q0 by Mine.q0e
name_quick tw13755170504564445412 for Mine.q0 by Mine.q0e
name_quick tw14469990529847074735 for Mine.q0 by Mine.q0e
name_quick tw9146177403395021179 for Mine.q0 by Mine.q0e
name_quick tw8697305778000490596 for Mine.q0 by Mine.q0e
name_quick tw6186206225838891729 for Mine.q0 by Mine.q0e
name_quick tw5121360191277396360 for Mine.q0 by Mine.q0e
name_quick tw13280578970209098578 for Mine.q0 by Mine.q0e
name_quick tw1722686124713550460 for Mine.q0 by Mine.q0e
name_quick tw14495428564899473556 for Mine.q0 by Mine.q0e
name_quick tw14791064271321887419 for Mine.q0 by Mine.q0e
name_quick tw15552692357917210421 for Mine.q0 by Mine.q0e
name_quick tw9778611927554826955 for Mine.q0 by Mine.q0e
name_quick tw16210700785500215922 for Mine.q0 by Mine.q0e
name_quick tw5404446458786394684 for Mine.q0 by Mine.q0e
name_quick tw17265627084298598153 for Mine.q0 by Mine.q0e
name_quick tw17801831149934900927 for Mine.q0 by Mine.q0e
name_quick tw4360072822181282995 for Mine.q0 by Mine.q0e
name_quick tw5365862522832537949 for Mine.q0 by Mine.q0e
name_quick tw10376288197746162876 for Mine.q0 by Mine.q0e
name_quick tw16151505866626718563 for Mine.q0 by Mine.q0e
name_quick tw9033842066627135736 for Mine.q0 by Mine.q0e
name_quick tw16894644501113301061 for Mine.q0 by Mine.q0e
name_quick tw13567434387028759757 for Mine.q0 by Mine.q0e
name_quick tw13878925014762427556 for Mine.q0 by Mine.q0e
name_quick tw5001847375315355227 for Mine.q0 by Mine.q0e
name_quick tw16980851876526875447 for Mine.q0 by Mine.q0e
name_quick tw425490691226786979 for Mine.q0 by Mine.q0e
name_quick tw4603387220044824145 for Mine.q0 by Mine.q0e
name_quick tw3501294869201350253 for Mine.q0 by Mine.q0e
name_quick tw1501884568231672305 for Mine.q0 by Mine.q0e
name_quick tw17773466939946859645 for Mine.q0 by Mine.q0e
name_quick tw2287152976232964803 for Mine.q0 by Mine.q0e
name_quick tw981850188411345045 for Mine.q0 by Mine.q0e
name_quick tw16275359661902915068 for Mine.q0 by Mine.q0e
name_quick tw7158213068045799790 for Mine.q0 by Mine.q0e
name_quick tw8371709323684979174 for Mine.q0 by Mine.q0e
name_quick tw1084153497419145989 for Mine.q0 by Mine.q0e
name_quick tw2966749310275310634 for Mine.q0 by Mine.q0e
name_quick tw10532498869585739621 for Mine.q0 by Mine.q0e
name_quick tw4447683745587382592 for Mine.q0 by Mine.q0e
name_quick tw5927707762228808494 for Mine.q0 by Mine.q0e
name_quick tw12236626872944157539 for Mine.q0 by Mine.q0e
name_quick tw9465292521024995601 for Mine.q0 by Mine.q0e
name_quick tw1191824937174555009 for Mine.q0 by Mine.q0e
name_quick tw14321316220977204871 for Mine.q0 by Mine.q0e
name_quick tw14154109402531885392 for Mine.q0 by Mine.q0e
name_quick tw6209068757835525362 for Mine.q0 by Mine.q0e
name_quick tw9007484641034441806 for Mine.q0 by Mine.q0e
name_quick tw6195407825927161947 for Mine.q0 by Mine.q0e
name_quick tw7601533451475241687 for Mine.q0 by Mine.q0e
name_quick tw10448658742643352403 for Mine.q0 by Mine.q0e
name_quick tw14293178087737774794 for Mine.q0 by Mine.q0e
name_quick tw4199011278701647387 for Mine.q0 by Mine.q0e
name_quick tw16164749237653002613 for Mine.q0 by Mine.q0e
name_quick tw4294239304318852561 for Mine.q0 by Mine.q0e
name_quick tw9915341878996109316 for Mine.q0 by Mine.q0e
name_quick tw7024524021187791709 for Mine.q0 by Mine.q0e
name_quick tw9670936455395736112 for Mine.q0 by Mine.q0e
name_quick tw3492731173801819729 for Mine.q0 by Mine.q0e
name_quick tw6638368138851171733 for Mine.q0 by Mine.q0e
name_quick tw4050974091743290570 for Mine.q0 by Mine.q0e
name_quick tw2131289495643436580 for Mine.q0 by Mine.q0e
name_quick tw15031882610771870036 for Mine.q0 by Mine.q0e
name_quick tw7871991632553579062 for Mine.q0 by Mine.q0e
name_quick tw8500251195983025126 for Mine.q0 by Mine.q0e
name_quick tw7646998247063389337 for Mine.q0 by Mine.q0e
name_quick tw14488979078738166458 for Mine.q0 by Mine.q0e
name_quick tw12996168071966683125 for Mine.q0 by Mine.q0e
name_quick tw16974602275368963154 for Mine.q0 by Mine.q0e
name_quick tw13917750330342331074 for Mine.q0 by Mine.q0e
name_quick tw13787588971679177812 for Mine.q0 by Mine.q0e
name_quick tw13599665298936904001 for Mine.q0 by Mine.q0e
name_quick tw17678330692121818 for Mine.q0 by Mine.q0e
name_quick tw1097694071868623182 for Mine.q0 by Mine.q0e
name_quick tw17354865512517169493 for Mine.q0 by Mine.q0e
name_quick tw10430994792844904138 for Mine.q0 by Mine.q0e
name_quick tw11043151683105263646 for Mine.q0 by Mine.q0e
name_quick tw15148984573996162842 for Mine.q0 by Mine.q0e
name_quick tw7105909288115609598 for Mine.q0 by Mine.q0e
name_quick tw425484519405722983 for Mine.q0 by Mine.q0e
name_quick tw18004731724060523791 for Mine.q0 by Mine.q0e
name_quick tw4834151354062089095 for Mine.q0 by Mine.q0e
name_quick tw16229759268417910179 for Mine.q0 by Mine.q0e
name_quick tw16905770473125932689 for Mine.q0 by Mine.q0e
name_quick tw12934519810650171940 for Mine.q0 by Mine.q0e
name_quick tw9126816716231796454 for Mine.q0 by Mine.q0e
name_quick tw11517279361340265628 for Mine.q0 by Mine.q0e
name_quick tw11419610484377964905 for Mine.q0 by Mine.q0e
name_quick tw4815926705301125802 for Mine.q0 by Mine.q0e
name_quick tw2114544055638904458 for Mine.q0 by Mine.q0e
name_quick tw8982322605482783309 for Mine.q0 by Mine.q0e
name_quick tw5813232803021757879 for Mine.q0 by Mine.q0e
name_quick tw1295417954370607311 for Mine.q0 by Mine.q0e
name_quick tw17582527586758292190 for Mine.q0 by Mine.q0e
name_quick tw9023014486526033779 for Mine.q0 by Mine.q0e
name_quick tw9319321340346530314 for Mine.q0 by Mine.q0e
name_quick tw17263203891711851263 for Mine.q0 by Mine.q0e
name_quick tw6592824125270955260 for Mine.q0 by Mine.q0e
name_quick tw15278677977687539990 for Mine.q0 by Mine.q0e
name_quick tw2040764992221570906 for Mine.q0 by Mine.q0e
name_quick tw10312910646602944652 for Mine.q0 by Mine.q0e
name_quick tw2611293756404514300 for Mine.q0 by Mine.q0e
name_quick tw4702218969321292179 for Mine.q0 by Mine.q0e
name_quick tw5062506757208596435 for Mine.q0 by Mine.q0e
name_quick tw703987069863521613 for Mine.q0 by Mine.q0e
name_quick tw8820097455487466964 for Mine.q0 by Mine.q0e
name_quick tw1298325179099134458 for Mine.q0 by Mine.q0e
name_quick tw18113855342898540767 for Mine.q0 by Mine.q0e
name_quick tw13317116101658911619 for Mine.q0 by Mine.q0e
name_quick tw5055413700490100028 for Mine.q0 by Mine.q0e
name_quick tw7594601910216465028 for Mine.q0 by Mine.q0e
name_quick tw12447912766166280815 for Mine.q0 by Mine.q0e
name_quick tw14022392735414677867 for Mine.q0 by Mine.q0e
name_quick tw1131265676120233028 for Mine.q0 by Mine.q0e
name_quick tw10830225595786917646 for Mine.q0 by Mine.q0e
name_quick tw1784342206575008263 for Mine.q0 by Mine.q0e
name_quick tw15099991870419717557 for Mine.q0 by Mine.q0e
name_quick tw7840092113398863566 for Mine.q0 by Mine.q0e
name_quick tw4955798157547950533 for Mine.q0 by Mine.q0e
name_quick tw5108657391826644585 for Mine.q0 by Mine.q0e
name_quick tw13895701157718180452 for Mine.q0 by Mine.q0e
name_quick tw17254352959692861427 for Mine.q0 by Mine.q0e
name_quick tw13634322733759721113 for Mine.q0 by Mine.q0e
name_quick tw6571413259829938963 for Mine.q0 by Mine.q0e
name_quick tw2632136481695163859 for Mine.q0 by Mine.q0e
name_quick tw14587000515115986915 for Mine.q0 by Mine.q0e
name_quick tw3645927754634506945 for Mine.q0 by Mine.q0e
name_quick tw11390082391320808497 for Mine.q0 by Mine.q0e
name_quick tw10851725533425991570 for Mine.q0 by Mine.q0e
name_quick tw11806030934851175296 for Mine.q0 by Mine.q0e
name_quick tw16414344980763156402 for Mine.q0 by Mine.q0e
name_quick tw14238644615369020068 for Mine.q0 by Mine.q0e
name_quick tw16765771808475607001 for Mine.q0 by Mine.q0e
name_quick tw7956288229202451475 for Mine.q0 by Mine.q0e
name_quick tw2622034656270188397 for Mine.q0 by Mine.q0e
name_quick tw9562542389365838334 for Mine.q0 by Mine.q0e
name_quick tw12780980250567086654 for Mine.q0 by Mine.q0e
name_quick tw9458722205837953889 for Mine.q0 by Mine.q0e
name_quick tw13932682679328233012 for Mine.q0 by Mine.q0e
name_quick tw506757080192080002 for Mine.q0 by Mine.q0e
name_quick tw1763374265478066965 for Mine.q0 by Mine.q0e
name_quick tw12130966754397745419 for Mine.q0 by Mine.q0e
name_quick tw10304397605155603023 for Mine.q0 by Mine.q0e
name_quick tw3639872605897121619 for Mine.q0 by Mine.q0e
name_quick tw7258432716128320357 for Mine.q0 by Mine.q0e
name_quick tw6532779127254821724 for Mine.q0 by Mine.q0e
name_quick tw1452352525772866624 for Mine.q0 by Mine.q0e
name_quick tw7983132012838292800 for Mine.q0 by Mine.q0e
name_quick tw9566932894920170123 for Mine.q0 by Mine.q0e
name_quick tw16402192570759123700 for Mine.q0 by Mine.q0e
name_quick tw7423829631875892861 for Mine.q0 by Mine.q0e
name_quick tw11351464598377889561 for Mine.q0 by Mine.q0e
name_quick tw18020585444019210653 for Mine.q0 by Mine.q0e
name_quick tw810390792611832181 for Mine.q0 by Mine.q0e
name_quick tw734623885329100137 for Mine.q0 by Mine.q0e
name_quick tw12020233312237381685 for Mine.q0 by Mine.q0e
name_quick tw335285604331434806 for Mine.q0 by Mine.q0e
name_quick tw6245053470122628895 for Mine.q0 by Mine.q0e
name_quick tw5150258355112717922 for Mine.q0 by Mine.q0e
name_quick tw8034152635065143946 for Mine.q0 by Mine.q0e
name_quick tw13369703223643290061 for Mine.q0 by Mine.q0e
name_quick tw12082044897452210587 for Mine.q0 by Mine.q0e
name_quick tw5203585362952131025 for Mine.q0 by Mine.q0e
name_quick tw16664633548193325771 for Mine.q0 by Mine.q0e
name_quick tw13908569669479618188 for Mine.q0 by Mine.q0e
name_quick tw289007135674052696 for Mine.q0 by Mine.q0e
name_quick tw17646887415590484645 for Mine.q0 by Mine.q0e
name_quick tw14795575874688416845 for Mine.q0 by Mine.q0e
name_quick tw12726549596323770276 for Mine.q0 by Mine.q0e
name_quick tw3024122471105853993 for Mine.q0 by Mine.q0e
name_quick tw15161625555433049510 for Mine.q0 by Mine.q0e
name_quick tw3419530835093073568 for Mine.q0 by Mine.q0e
name_quick tw121341561837918925 for Mine.q0 by Mine.q0e
name_quick tw6177669586043205798 for Mine.q0 by Mine.q0e
name_quick tw12932814143458120778 for Mine.q0 by Mine.q0e
name_quick tw8909300994000896113 for Mine.q0 by Mine.q0e
name_quick tw12772353792697839627 for Mine.q0 by Mine.q0e
name_quick tw14852182540436733658 for Mine.q0 by Mine.q0e
name_quick tw15076234620135197050 for Mine.q0 by Mine.q0e
name_quick tw10577720422531813251 for Mine.q0 by Mine.q0e
name_quick tw15875456283099092818 for Mine.q0 by Mine.q0e
name_quick tw14913017383006815342 for Mine.q0 by Mine.q0e
name_quick tw16647265580347370734 for Mine.q0 by Mine.q0e
name_quick tw3968351246771930951 for Mine.q0 by Mine.q0e
name_quick tw10484323471603697747 for Mine.q0 by Mine.q0e
name_quick tw3869804562944900746 for Mine.q0 by Mine.q0e
name_quick tw11384995618938681309 for Mine.q0 by Mine.q0e
name_quick tw14951077512775117465 for Mine.q0 by Mine.q0e
name_quick tw10547234647945397197 for Mine.q0 by Mine.q0e
name_quick tw8536316883790880358 for Mine.q0 by Mine.q0e
name_quick tw675787170217489183 for Mine.q0 by Mine.q0e
name_quick tw4007789320549650352 for Mine.q0 by Mine.q0e
name_quick tw2706464295685981545 for Mine.q0 by Mine.q0e
name_quick tw5487608223523840764 for Mine.q0 by Mine.q0e
name_quick tw12508650672431913283 for Mine.q0 by Mine.q0e
name_quick tw3624716266095008558 for Mine.q0 by Mine.q0e
name_quick tw6533213152394207496 for Mine.q0 by Mine.q0e
name_quick tw9478534325276015964 for Mine.q0 by Mine.q0e
name_quick tw13595842888175101771 for Mine.q0 by Mine.q0e
name_quick tw3676076295137507555 for Mine.q0 by Mine.q0e
name_quick tw5162761275997734470 for Mine.q0 by Mine.q0e
name_quick tw8239604415602117220 for Mine.q0 by Mine.q0e
name_quick tw17977212178485168590 for Mine.q0 by Mine.q0e
name_quick tw13145098053303969569 for Mine.q0 by Mine.q0e
name_quick tw5300482893862961031 for Mine.q0 by Mine.q0e
name_quick tw11482669358670408816 for Mine.q0 by Mine.q0e
name_quick tw15400157833763039323 for Mine.q0 by Mine.q0e
name_quick tw16640063847449436430 for Mine.q0 by Mine.q0e
name_quick tw3557897147237992346 for Mine.q0 by Mine.q0e
name_quick tw299816145945939016 for Mine.q0 by Mine.q0e
name_quick tw3212253577689893045 for Mine.q0 by Mine.q0e
name_quick tw11407693746185960724 for Mine.q0 by Mine.q0e
name_quick tw14547396631435150271 for Mine.q0 by Mine.q0e
name_quick tw3621692033018252527 for Mine.q0 by Mine.q0e
name_quick tw1843862882279518635 for Mine.q0 by Mine.q0e
name_quick tw12440928052773955278 for Mine.q0 by Mine.q0e
name_quick tw7229150074749018034 for Mine.q0 by Mine.q0e
name_quick tw7524634387293381181 for Mine.q0 by Mine.q0e
name_quick tw4833518335422428071 for Mine.q0 by Mine.q0e
name_quick tw16716141530379604083 for Mine.q0 by Mine.q0e
name_quick tw13202998570798247073 for Mine.q0 by Mine.q0e
name_quick tw756713423479830483 for Mine.q0 by Mine.q0e
name_quick tw18306891221393328791 for Mine.q0 by Mine.q0e
name_quick tw5902698382111845442 for Mine.q0 by Mine.q0e
name_quick tw939013580675196654 for Mine.q0 by Mine.q0e
name_quick tw14836791558678861712 for Mine.q0 by Mine.q0e
name_quick tw13752160556853051696 for Mine.q0 by Mine.q0e
name_quick tw2612856719087102321 for Mine.q0 by Mine.q0e
name_quick tw10821338007151990387 for Mine.q0 by Mine.q0e
name_quick tw17695843083839275650 for Mine.q0 by Mine.q0e
name_quick tw6315182268745582783 for Mine.q0 by Mine.q0e
name_quick tw10966056941296110942 for Mine.q0 by Mine.q0e
name_quick tw4765374513080497241 for Mine.q0 by Mine.q0e
name_quick tw6941378454254500574 for Mine.q0 by Mine.q0e
name_quick tw14235814421339450174 for Mine.q0 by Mine.q0e
name_quick tw5200722857215033415 for Mine.q0 by Mine.q0e
name_quick tw4727993211952967997 for Mine.q0 by Mine.q0e
name_quick tw15224014878087430907 for Mine.q0 by Mine.q0e
name_quick tw9559949473021824713 for Mine.q0 by Mine.q0e
name_quick tw10467629412429015176 for Mine.q0 by Mine.q0e
name_quick tw205249888374928288 for Mine.q0 by Mine.q0e
name_quick tw17335816373309039667 for Mine.q0 by Mine.q0e
name_quick tw16470611212394323507 for Mine.q0 by Mine.q0e
name_quick tw12192950274967160994 for Mine.q0 by Mine.q0e
name_quick tw18195005807799366642 for Mine.q0 by Mine.q0e
name_quick tw8485129556664562052 for Mine.q0 by Mine.q0e
name_quick tw618794022676157464 for Mine.q0 by Mine.q0e
name_quick tw4961260087222477738 for Mine.q0 by Mine.q0e
name_quick tw888936814993443433 for Mine.q0 by Mine.q0e
name_quick tw4845764041982906235 for Mine.q0 by Mine.q0e
name_quick tw1877077423790408819 for Mine.q0 by Mine.q0e
name_quick tw68128832300587642 for Mine.q0 by Mine.q0e
name_quick tw9890294330384188211 for Mine.q0 by Mine.q0e
name_quick tw6033586001786106032 for Mine.q0 by Mine.q0e
name_quick tw3969073371158769014 for Mine.q0 by Mine.q0e
name_quick tw15868611950166496936 for Mine.q0 by Mine.q0e
name_quick tw9830681186958311511 for Mine.q0 by Mine.q0e
name_quick tw4606494233399043525 for Mine.q0 by Mine.q0e
name_quick tw16732886345677798302 for Mine.q0 by Mine.q0e
name_quick tw2842193852430356906 for Mine.q0 by Mine.q0e
name_quick tw7861093027794295263 for Mine.q0 by Mine.q0e
name_quick tw11788839697998116698 for Mine.q0 by Mine.q0e
name_quick tw4153217047499959724 for Mine.q0 by Mine.q0e
name_quick tw10445253003083847940 for Mine.q0 by Mine.q0e
name_quick tw1323114131170382948 for Mine.q0 by Mine.q0e
name_quick tw2935444329585424260 for Mine.q0 by Mine.q0e
name_quick tw15639707364837658850 for Mine.q0 by Mine.q0e
name_quick tw6952598786873514765 for Mine.q0 by Mine.q0e
name_quick tw2500168941935403154 for Mine.q0 by Mine.q0e
name_quick tw11166806545925434380 for Mine.q0 by Mine.q0e
name_quick tw4233152083996600852 for Mine.q0 by Mine.q0e
name_quick tw5794686726804269726 for Mine.q0 by Mine.q0e
name_quick tw7864837369755289951 for Mine.q0 by Mine.q0e
name_quick tw10661382617964687435 for Mine.q0 by Mine.q0e
name_quick tw10061109683159292648 for Mine.q0 by Mine.q0e
name_quick tw16376407217287578312 for Mine.q0 by Mine.q0e
name_quick tw12087569241094872534 for Mine.q0 by Mine.q0e
name_quick tw5244698289972308522 for Mine.q0 by Mine.q0e
name_quick tw1585529181510543006 for Mine.q0 by Mine.q0e
name_quick tw3932333671562671433 for Mine.q0 by Mine.q0e
name_quick tw4607346338979328549 for Mine.q0 by Mine.q0e
name_quick tw12076411612465775510 for Mine.q0 by Mine.q0e
name_quick tw18242593014249415975 for Mine.q0 by Mine.q0e
name_quick tw5611911247497209334 for Mine.q0 by Mine.q0e
name_quick tw13397069153157865453 for Mine.q0 by Mine.q0e
name_quick tw10406547912485296051 for Mine.q0 by Mine.q0e
name_quick tw12246809674078374623 for Mine.q0 by Mine.q0e
name_quick tw18124431547328120765 for Mine.q0 by Mine.q0e
name_quick tw4830428289945235826 for Mine.q0 by Mine.q0e
name_quick tw2796946118065249416 for Mine.q0 by Mine.q0e
name_quick tw1280342442422213946 for Mine.q0 by Mine.q0e
name_quick tw3710141845450744736 for Mine.q0 by Mine.q0e
name_quick tw49018071998385011 for Mine.q0 by Mine.q0e
name_quick tw15630805595569533275 for Mine.q0 by Mine.q0e
name_quick tw3492229288918517258 for Mine.q0 by Mine.q0e
name_quick tw16260198308078376348 for Mine.q0 by Mine.q0e
name_quick tw2415836722088672940 for Mine.q0 by Mine.q0e
name_quick tw18259130989528420596 for Mine.q0 by Mine.q0e
name_quick tw12742452416734856750 for Mine.q0 by Mine.q0e
name_quick tw11992863612476938625 for Mine.q0 by Mine.q0e
name_quick tw6469654923505813915 for Mine.q0 by Mine.q0e
name_quick tw2655181031685773206 for Mine.q0 by Mine.q0e
name_quick tw12938789807960440552 for Mine.q0 by Mine.q0e
name_quick tw18139431380122265810 for Mine.q0 by Mine.q0e
name_quick tw217821232254048473 for Mine.q0 by Mine.q0e
name_quick tw4171322484587786716 for Mine.q0 by Mine.q0e
name_quick tw11110460422816626080 for Mine.q0 by Mine.q0e
name_quick tw4856098954655584673 for Mine.q0 by Mine.q0e
name_quick tw5133347265844013545 for Mine.q0 by Mine.q0e
name_quick tw7569985006640286496 for Mine.q0 by Mine.q0e
name_quick tw17980017827244454549 for Mine.q0 by Mine.q0e
name_quick tw7211309873356981050 for Mine.q0 by Mine.q0e
name_quick tw16822412068796855451 for Mine.q0 by Mine.q0e
name_quick tw16923120328771926632 for Mine.q0 by Mine.q0e
name_quick tw7572720463748167821 for Mine.q0 by Mine.q0e
name_quick tw773200698831849230 for Mine.q0 by Mine.q0e
name_quick tw8539396818749839609 for Mine.q0 by Mine.q0e
name_quick tw1497595342691693615 for Mine.q0 by Mine.q0e
name_quick tw15245289751724946531 for Mine.q0 by Mine.q0e
name_quick tw2833648970105149613 for Mine.q0 by Mine.q0e
name_quick tw17343663575566200283 for Mine.q0 by Mine.q0e
name_quick tw85546000852835773 for Mine.q0 by Mine.q0e
name_quick tw5384360063955372155 for Mine.q0 by Mine.q0e
name_quick tw10639930670873555696 for Mine.q0 by Mine.q0e
name_quick tw3027594989538785618 for Mine.q0 by Mine.q0e
name_quick tw11633698370639377720 for Mine.q0 by Mine.q0e
name_quick tw1071867228613847863 for Mine.q0 by Mine.q0e
name_quick tw929178030586979632 for Mine.q0 by Mine.q0e
name_quick tw11586938148017192703 for Mine.q0 by Mine.q0e
name_quick tw5150143690420693227 for Mine.q0 by Mine.q0e
name_quick tw9888018175696750520 for Mine.q0 by Mine.q0e
name_quick tw2390658166771409209 for Mine.q0 by Mine.q0e
name_quick tw14687942095316059648 for Mine.q0 by Mine.q0e
name_quick tw13859326944438063077 for Mine.q0 by Mine.q0e
name_quick tw3770006826354270627 for Mine.q0 by Mine.q0e
name_quick tw15239219996994417385 for Mine.q0 by Mine.q0e
name_quick tw10991192403808749153 for Mine.q0 by Mine.q0e
name_quick tw853249072414117625 for Mine.q0 by Mine.q0e
name_quick tw9881485474839137069 for Mine.q0 by Mine.q0e
name_quick tw16154853264388018099 for Mine.q0 by Mine.q0e
name_quick tw9803557449693002581 for Mine.q0 by Mine.q0e
name_quick tw6744790990492076757 for Mine.q0 by Mine.q0e
name_quick tw2747783035697799529 for Mine.q0 by Mine.q0e
name_quick tw3834076066687763731 for Mine.q0 by Mine.q0e
name_quick tw9190487603535580480 for Mine.q0 by Mine.q0e
name_quick tw2099019094499052024 for Mine.q0 by Mine.q0e
name_quick tw4065109200255100153 for Mine.q0 by Mine.q0e
name_quick tw11387084077291457027 for Mine.q0 by Mine.q0e
name_quick tw10792251114116060074 for Mine.q0 by Mine.q0e
name_quick tw8096309366719232874 for Mine.q0 by Mine.q0e
name_quick tw17775653663304307017 for Mine.q0 by Mine.q0e
name_quick tw5709085847789288843 for Mine.q0 by Mine.q0e
name_quick tw4768868459707669500 for Mine.q0 by Mine.q0e
name_quick tw7675895529871647368 for Mine.q0 by Mine.q0e
name_quick tw2102745778273842148 for Mine.q0 by Mine.q0e
name_quick tw10643946463953599035 for Mine.q0 by Mine.q0e
name_quick tw8104826731159655854 for Mine.q0 by Mine.q0e
name_quick tw16348527196153225474 for Mine.q0 by Mine.q0e
name_quick tw17481949929774072872 for Mine.q0 by Mine.q0e
name_quick tw2474813631220392307 for Mine.q0 by Mine.q0e
name_quick tw4085486183757454951 for Mine.q0 by Mine.q0e
name_quick tw2899284983889158985 for Mine.q0 by Mine.q0e
name_quick tw15041515030901308152 for Mine.q0 by Mine.q0e
name_quick tw6074304774526785906 for Mine.q0 by Mine.q0e
name_quick tw2642708151728776645 for Mine.q0 by Mine.q0e
name_quick tw16573517578908266828 for Mine.q0 by Mine.q0e
name_quick tw3029191958456461863 for Mine.q0 by Mine.q0e
name_quick tw6174803816989269535 for Mine.q0 by Mine.q0e
name_quick tw11870776447983130124 for Mine.q0 by Mine.q0e
name_quick tw11112642358722144502 for Mine.q0 by Mine.q0e
name_quick tw18011820608239834317 for Mine.q0 by Mine.q0e
name_quick tw8954961339333305751 for Mine.q0 by Mine.q0e
name_quick tw7612966993237367996 for Mine.q0 by Mine.q0e
name_quick tw1342830696386312623 for Mine.q0 by Mine.q0e
name_quick tw2786508275925239861 for Mine.q0 by Mine.q0e
name_quick tw16308901890717487701 for Mine.q0 by Mine.q0e
name_quick tw6502315176903841429 for Mine.q0 by Mine.q0e
name_quick tw5814920539165434971 for Mine.q0 by Mine.q0e
namespace Mine
open_top hd07 for PySem.Challenge.rw_dn0005_07
end Mine
namespace Mine
theorem off07 : True := by
  w_top off
  trivial
end Mine
end
section
open PySem PySem.W PyProof.Rows PySem.Calls PySem.Spec
set_option Elab.async false
set_option maxRecDepth 100000
set_option maxHeartbeats 3000000
namespace Mine
noncomputable def vv : Program := Mine.hd07.view_39
noncomputable def lv : List Str := looseW Mine.hd07.view_39
      [Str.ofString "Iterable", Str.ofString "Sized", Str.ofString "Container", Str.ofString "Collection",
        Str.ofString "Set", Str.ofString "Mapping", Str.ofString "MappingView", Str.ofString "KeysView",
        Str.ofString "ItemsView", Str.ofString "ValuesView", Str.ofString "nlargest", Str.ofString "chain",
        Str.ofString "repeat", Str.ofString "starmap", Str.ofString "itemgetter", Str.ofString "Counter"]
/-- the names that a top may bind -/
noncomputable def ls : List Str := lv ++ (recsOf Mine.hd07.view_39).map (·.name) ++ (litsOf Mine.hd07.view_39).map (·.1) ++ (clssOf Mine.hd07.view_39 lv).map (·.name)
noncomputable def vw : Program := topProg
noncomputable abbrev KK (w : World) : Frag := Mine.hd07.heap_39 w.params
theorem fill : PySem.Challenge.rw_dn0005_07 = PySem.Challenge.rw_dn0005_07 ∧ Mine.hd07.heap_39 = Mine.hd07.heap_39 := by
  k_fill
  exact ⟨rfl, rfl⟩
abbrev ek (e0 : Env) (L : Addr) : Env := { e0 with frame := some L, scope := { e0.scope with kind := .function } }
abbrev AK (l : Nat) (e : Env) (outer : List Env) : Around := { handled := none, depth := 400 + 10 * l, frames := some (e :: outer), guards := some [], units := 1000 + 100 * l }
/-- a mark: the walk stops here, the text goes on by hand -/
def Halt (p : Prop) : Prop := p
theorem halt {p : Prop} (h : Halt p) : p := h
theorem ek_eq {e : Env} {L : Addr} (hf : e.frame = some L) (hk : e.scope.kind = .function) : ek e L = e := by
  cases e with
  | mk scope locals globals cells qual func code frame builtins =>
    cases scope
    simp only at hf hk
    subst hf hk
    rfl
theorem codeAny_weak {M : Model} {A A' : Around} {c : Code} {R : Result → Shared → Prop} {s : Shared} (h1 : A.handled = A'.handled) (h2 : A.depth ≤ A'.depth) (h3 : A.frames = A'.frames) (h4 : A.guards = A'.guards) (h5 : A.units ≤ A'.units)
    (h : codeAny M A' c R s) : codeAny M A c R s := fun Γ p hc hΓ => h Γ p hc ⟨hΓ.1.trans h1, Nat.le_trans hΓ.2.1 h2, fun l hl => hΓ.2.2.1 l (h3.trans hl), fun g hg => hΓ.2.2.2.1 g (h4.trans hg), Nat.le_trans hΓ.2.2.2.2 h5⟩
/-- a spec at the level l serves a call from any place below it -/
theorem use_at {prog : Program} {w : World} (l : Nat) {A : Around} {env : Env} {outer : List Env} {L : Addr} {f : Value} {pos : List Value} {kw : List (Str × Value)} {Q : Value → Shared → Prop} {E : Value → Shared → Prop} {s : Shared}
    (hA : A.frames = some (env :: outer)) (hf : env.frame = some L) (hk : env.scope.kind = .function) (hh : A.handled = none) (hg : A.guards = some []) (hd : A.depth ≤ 400 + 10 * l) (hu : A.units ≤ 1000 + 100 * l)
    (h : codeAny (model prog w) (AK l (ek env L) outer) (.call f ⟨pos, kw⟩) (fun r s' => match r with | .ok (.ret v) => Q v s' | .ok _ => False | .error e => E e s') s) : wpAny (model prog w) A (call f pos kw) Q E s :=
  wpAny_call (codeAny_weak hh hd (by rw [hA, ek_eq hf hk]) hg hu h)
theorem news_sub {h₀ h : Heap} {L : Addr} {l l' : List (Addr × Obj)} (N : News h₀ L h l) (hs : ∀ p ∈ l', p ∈ l) : News h₀ L h l' := fun p hp => N p (hs p hp)
theorem rest_ind {prog : Program} {w : World} {A : Around} {h₀ : Heap} {L : Addr} {m : Str → Option Value} {env : Env} {elt : PySem.Expr} {x : Str} {scope : Scope} {cl : List (Str × Addr)} {s : Shared} {S : List (Addr × Obj) → Prop} {P : Nat → Value → Prop}
    {Fin : List Value → List (Addr × Obj) → Prop} (J : Nat → List Value → List (Addr × Obj) → Prop) {n : Nat}
    (el : ∀ i ys news v I oI C oC D m₂ h tk (E' : Value → Shared → Prop), i < n → J i ys news → P i v → LCg.NsObj oC m₂ → m₂ x = some v → Fr h₀ L h m → News h₀ L h ((I, oI) :: (C, oC) :: (D, LCg.lst ys) :: news) → LCg.Off3 I C D news → ((@Ne Nat I C) ∧ (@Ne Nat I D) ∧ (@Ne Nat C D)) →
      wpAny (model prog w) A (eval elt (compEnvC scope cl C env)) (LCg.CompEnd h₀ L m { s with heap := h, toks := tk } I oI C oC D (LCg.lst ys) S (fun y news' => J (i + 1) (ys ++ [y]) news')) E' { s with heap := h, toks := tk })
    (fin : ∀ ys news, J n ys news → Fin ys news) : ∀ k i ys news, i + k = n → J i ys news → LCg.CompRest prog w A h₀ L m env elt x scope cl s S P Fin k i ys news
  | 0, i, ys, news, e, j => by
    have : i = n := by omega
    subst this
    exact LCg.CompRest.zero (fin _ _ j)
  | k + 1, i, ys, news, e, j => LCg.CompRest.succ fun v I oI C oC D m₂ h tk E' hP hC hx F N off ne =>
      wpAny_mono (el i ys news v I oI C oC D m₂ h tk E' (by omega) j hP hC hx F N off ne) (fun y s' ⟨h', tk', news', e1, F', N', off', hS, hj⟩ => ⟨h', tk', news', e1, F', N', off', hS, rest_ind J el fin k (i + 1) _ _ (by omega) hj⟩) fun _ _ e => e
end Mine
end
section
open PySem PySem.W PyProof.Rows PySem.Calls PySem.Spec
set_option Elab.async false
set_option maxRecDepth 100000
set_option maxHeartbeats 3000000
namespace Mine
section
variable {prog : Program} {w : World} {A : Around} {E : Value → Shared → Prop} {s : Shared} {K : Frag}
theorem isi_hook {v t mc : Value} {C f : Addr} {b : Bool} {Q : Value → Shared → Prop} (X : K.In s.heap) (ht : ∀ M, Looks M s.heap (typeOf v) t) (hx : v ≠ .builtin "__main__.__loader__#opaque") (hne : (t == Value.ref C) = false)
    (hm : typeIn K (.ref C) = some mc) (hm1 : (mc == Value.type "type") = false) (hm2 : (mc == Value.type "types.UnionType") = false) (htup : instIn K (.ref C) (.type "tuple") = some false)
    (hs : specialIn K (.ref C) "__instancecheck__" = some (some (.ref f))) (hf : typeIn K (.ref f) = some (.type "function")) (hu : A.units + 1 < cLine)
    (h : wpAny (model prog w) A.in1 (call (.ref f) [.ref C, v] []) (fun r s' => r = .bool b ∧ Q (.bool b) s') E s) :
    wpAny (model prog w) A (call (.builtin "isinstance") [v, .ref C]) Q E s := by
  refine call_isinstance_of ?_ hx
  obtain ⟨hh, g, d, tt, os⟩ := s
  unfold Builtin.«isinstance.nested»
  refine wpAny_bind ((ht _).at ?_)
  rw [if_neg (by rw [hne]; exact Bool.false_ne_true)]
  refine wpAny_bind ((looks_typeIn X hm).at ?_)
  rw [if_neg (by rw [hm1]; exact Bool.false_ne_true)]
  unfold Builtin.Builtins.unionMembers
  refine wpAny_bind (wpAny_bind ((looks_typeIn X hm).at ?_))
  rw [if_neg (by rw [hm2]; exact Bool.false_ne_true)]
  refine wpAny_pure ?_
  refine wpAny_bind ((looks_instIn X htup).at ?_)
  rw [if_neg Bool.false_ne_true]
  refine wpAny_bind (wpAny_cRoom hu ?_)
  unfold callSpecial?
  refine wpAny_bind (wpAny_bind ((looks_specialIn X hs).at ?_))
  dsimp only
  refine wpAny_holding (wpAny_bind ((bind_fn X (.ref C) hf).at ?_))
  dsimp only
  refine wpAny_bind (wpAny_mono h (fun r s' hr => ?_) fun _ _ e => e)
  obtain ⟨rfl, hq⟩ := hr
  refine wpAny_pure ?_
  dsimp only
  refine wpAny_bind (wpAny_rule ?_)
  refine wpAny_bind (wpAny_holding (wpAny_truthy_bool ?_))
  exact wpAny_bind (wpAny_letGo (wpAny_pure hq))
end
end Mine
end
section
open PySem PySem.W PyProof.Rows PySem.Calls PySem.Spec
set_option Elab.async false
set_option maxRecDepth 100000
set_option maxHeartbeats 3000000
namespace Mine
section
variable {prog : Program} {w : World} {A : Around} {E : Value → Shared → Prop} {h : Heap} {g : Array GenState} {d : Drawn} {t : Nat} {os : OsState} {a : Addr} {o : Obj}
theorem class_at_dict {b : Bool} {Q : Value → Shared → Prop} (hx : h.get? a = some o) (hc : o.cls = .type "dict") (hq : ∀ t', Q (.type "dict") ⟨h, g, d, t', os⟩) : wpAny (model prog w) A (getAttr (.ref a) (Str.ofString "__class__") b) Q E ⟨h, g, d, t, os⟩ := by
  have hT : ∀ t, (⟨h, g, d, t, os⟩ : Shared).TypeIs (.ref a) "dict" := fun t => ⟨_, hx, hc⟩
  have hT' := hT (t + 1)
  have f2 := F.slot_dict_getattribute.lookup
  have f3 := F.slot_dict_getattribute.bind (.ref a)
  have q' := hq (t + 1)
  unfold getAttr
  repeat (any_goals (first | assumption | wp_step))
  rw [if_neg (by cases b <;> decide)]
  unfold boundAndCalled
  repeat (any_goals (first | assumption | wp_step))
  refine class_call_dict hx hc ?_
  repeat (any_goals (first | assumption | wp_step))
end
end Mine
end
section
open PySem PySem.W PyProof.Rows PySem.Calls PySem.Spec
set_option Elab.async false
set_option maxRecDepth 100000
set_option maxHeartbeats 3000000
namespace Mine
section
variable {prog : Program} {w : World} {A : Around} {E : Value → Shared → Prop} {s : Shared} {K : Frag}
end
end Mine
end
section
open PySem PySem.W PyProof.Rows PySem.Calls PySem.Spec Builtin Builtin.ObjectAttr
set_option Elab.async false
set_option maxRecDepth 100000
set_option maxHeartbeats 3000000
namespace Mine
theorem kind_dict_ga : builtinKind "dict.__getattribute__" = some .slot := by decide +kernel
theorem split_dict_ga : splitId "dict.__getattribute__" = some ("dict", "__getattribute__") := by decide +kernel
section
variable {prog : Program} {w : World} {A : Around} {E : Value → Shared → Prop} {s : Shared} {K : Frag}
/-- an attribute of an instance of a class below dict that has no hook of its own: what the look-up finds, bound -/
theorem sub_get_bind {x C : Addr} {ox od : Obj} {name : Str} {b : Bool} {gg a : Value} {Q : Value → Shared → Prop} (X : K.In s.heap) (I : InstAt s.heap x ox C (some od)) (h1 : findIn K (.ref C) "__getattribute__" = some (some (.builtin "dict.__getattribute__")))
    (h2 : findIn K (.ref C) "__getattr__" = some none) (h3 : subIn K (.ref C) (.type "dict") = some true) (h4 : findObj K C (some od) name = some (.bind gg a))
    (h : codeAny (model prog w) A.in1 (.call gg ⟨[a, .ref x, .ref C], []⟩) (fun r s' => match r with | .ok (.ret v) => wpAny (model prog w) A (handedOut v) Q E s' | .ok _ => False | .error e => wpAny (model prog w) A (getattributeRaised (.ref x) (.str name s.toks) (.ref C) e none true b) Q E s') { s with toks := s.toks + 1 }) :
    wpAny (model prog w) A (getAttr (.ref x) name b) Q E s := by
  obtain ⟨hh, g, d, t, os⟩ := s
  have L0 := I.type (M := model prog w)
  have L1 := looks_findIn (M := model prog w) X h1
  have L2 := looks_findIn (M := model prog w) X h2
  have L3 : Looks (model prog w) hh (isInstance (.ref x) (.type "dict")) true := L0.andThen (looks_subIn X h3)
  have L4 := looks_find (M := model prog w) X I h4
  have f3 := F.slot_dict_getattribute.bind (.ref x)
  unfold getAttr
  repeat lk
  refine wpAny_tryCatch (wpAny_bind (wpAny_holding ?_))
  unfold callGetattribute
  rw [if_neg (by cases b <;> decide)]
  unfold boundAndCalled
  refine wpAny_bind (wpAny_of_eq f3 ?_)
  dsimp only
  refine wpAny_call (codeAny_call_builtin F.slot_dict_getattribute.plain F.entry_dict_ga ?_)
  unfold checkBuiltinCall
  rw [kind_dict_ga, split_dict_ga]
  dsimp only
  repeat lk
  refine PySem.W.X.x_call (codeAny_mono h fun r s' hr => ?_) (by intro e; cases e)
  rcases r with e | f
  · exact wpAny_throw (wpAny_pure hr)
  · cases f with
    | ret v => exact wpAny_pure (wpAny_pure (wpAny_pure (wpAny_pure hr)))
    | _ => exact hr.elim
end
end Mine
end
section
open PySem PySem.W PyProof.Rows PySem.Calls PySem.Spec Builtin Builtin.ObjectAttr
set_option Elab.async false
set_option maxRecDepth 100000
set_option maxHeartbeats 3000000
namespace Mine
theorem canon_dict_ga : (Manifest.canonical "dict.__getattribute__" != "object.__getattribute__") = false := by decide +kernel
theorem slot_md : Slot "method_descriptor" "__get__" "method_descriptor.__get__" :=
  .of (owner := "method_descriptor") (n := "__get__") (by rw [typeLookup_type, builtinLookup_eq_fast]; kernel_rfl) (by decide +kernel) (by decide +kernel) (by decide +kernel)
    (by first | exact .inl (by decide +kernel) | exact .inr (by decide +kernel)) (by rw [isSubtype_type]; kernel_rfl)
theorem entry_md : entryFor table "method_descriptor.__get__" = some Builtin.«method_descriptor.__get__» := entryFor_of_tree (by kernel_rfl)
theorem args_md (a b c : Value) : argsOk "method_descriptor.__get__" ⟨[a, b, c], []⟩ := by unfold argsOk; kernel_rfl
section
variable {prog : Program} {w : World} {A : Around} {E : Value → Shared → Prop} {s : Shared} {K : Frag}
theorem sub_method {x C : Addr} {ox od : Obj} {name : Str} {pl : Sem Bool} {f : Value} {tn : String} {Q : Value × List Value → Shared → Prop} (X : K.In s.heap) (I : InstAt s.heap x ox C (some od)) (h1 : findIn K (.ref C) "__getattribute__" = some (some (.builtin "dict.__getattribute__")))
    (hk : findIn K (.ref C) "__getattr__" = some none) (hf : findIn K (.ref C) name = some (some f)) (ht : typeIn K f = some (.type tn)) (htn : (Value.type tn != .type "function" && Value.type tn != .type "method_descriptor" && Value.type tn != .type "wrapper_descriptor") = false) (hs : shadowIn (some od) name = some false) (h : Q (f, [.ref x]) s) :
    wpAny (model prog w) A (getMethod (.ref x) name pl) Q E s := by
  unfold getMethod specialOf
  refine wpAny_bind (wpAny_bind (I.type.here ((looks_findIn X h1).here ?_)))
  dsimp only
  rw [canon_dict_ga, if_neg (by decide)]
  refine wpAny_bind (wpAny_bind (I.type.here ((looks_findIn X hk).here ?_)))
  refine wpAny_bind (wpAny_bind (I.type.here ((looks_findIn X hf).here (wpAny_bind ((looks_typeIn X ht).here ?_)))))
  rw [if_neg (by rw [htn]; decide)]
  refine wpAny_bind (wpAny_loadPart I.at_ ?_)
  have hd := I.dict
  cases e : ox.dict with
  | none => exact wpAny_bind (wpAny_rule (wpAny_pure h))
  | some dx =>
    rw [e] at hd
    obtain ⟨r, a, b⟩ := Option.map_eq_some_iff.mp hs
    refine wpAny_bind (wpAny_bind (wpAny_loadPart hd ?_))
    rw [nsLook_of a]
    refine wpAny_pure ?_
    rw [if_neg (by rw [b]; exact Bool.false_ne_true)]
    exact wpAny_bind (wpAny_rule (wpAny_pure h))
theorem own_get : ".".intercalate ("dict.get".cutAt '.').dropLast = "dict" := by decide +kernel
theorem own_upd : ".".intercalate ("dict.update".cutAt '.').dropLast = "dict" := by decide +kernel
theorem md_get {id : String} {x C : Addr} {ox : Obj} {od : Option Obj} {R : Result → Shared → Prop} (hid : id = "dict.get" ∨ id = "dict.update") (hT : typeOf (.builtin id) = pure (.type "method_descriptor")) (ht : Manifest.toldItsClass.contains id = false)
    (I : InstAt s.heap x ox C od) (hi : Looks (model prog w) s.heap (isSubtype (.ref C) (.type "dict")) true)
    (h : R (.ok (.ret (.ref s.heap.objs.size))) { s with heap := s.heap.push { cls := .type "builtin_function_or_method", data := .fields #[.builtin id, .ref x] } }) :
    codeAny (model prog w) A (.call (.builtin "method_descriptor.__get__") ⟨[.builtin id, .ref x, .ref C], []⟩) R s := by
  obtain ⟨hh, g, d, t, os⟩ := s
  have hx := I.at_
  obtain ⟨c, dd, da, sl⟩ := ox
  have hc : c = .ref C := I.cls
  subst hc
  refine codeAny_call_builtin slot_md.plain entry_md (slot_md.check _ _ _ _ _ _ _ _ hT (args_md _ _ _) ?_)
  unfold Builtin.«method_descriptor.__get__»
  repeat lk
  rw [if_neg (by rw [ht]; exact Bool.false_ne_true)]
  rcases hid with rfl | rfl
  · have hi' := hi
    rw [← own_get] at hi'
    repeat lk
    exact h
  · have hi' := hi
    rw [← own_upd] at hi'
    repeat lk
    exact h
end
end Mine
end
section
open PySem PySem.W PyProof.Rows PySem.Calls PySem.Spec
set_option compiler.extract_closed false
set_option Elab.async false
set_option maxRecDepth 100000
set_option maxHeartbeats 3000000
namespace Mine
theorem fill4 : PySem.Challenge.rw_dn0005_07 = PySem.Challenge.rw_dn0005_07 ∧ Mine.hd07.heap_39 = Mine.hd07.heap_39 := by
  k_fill
  exact ⟨rfl, rfl⟩
section
variable {prog : Program} {w : World} {A : Around} {E : Value → Shared → Prop} {s : Shared} {h₀ : Heap} {L x : Addr} {news : List (Addr × Obj)} {o : Obj} {b : Bool} {Q : Value → Shared → Prop}
theorem class_dict_K (N : News h₀ L s.heap news) (hm : (x, o) ∈ news) (hc : o.cls = .type "dict") (h : ∀ t, Q (.type "dict") { s with toks := t }) : wpAny (model prog w) A (getAttr (.ref x) (Str.ofString "__class__") b) Q E s := by
  obtain ⟨hh, g, d, t, os⟩ := s
  exact class_at_dict (N _ hm).1 hc h
theorem type_K {T : String} (N : News h₀ L s.heap news) (hm : (x, o) ∈ news) (hc : o.cls = .type T) (hb : (Value.type T == Value.type "builtin_function_or_method") = false) (h : Q (.type T) s) : wpAny (model prog w) A (call (.type "type") [.ref x]) Q E s :=
  call_type_of (x := .ref x) ⟨o, (N _ hm).1, hc⟩ hb h
end
section
variable {prog : Program} {w : World} {A : Around} {E : Value → Shared → Prop} {s : Shared}
theorem issub_any {a : Value} {U : String} {b : Bool} {Q : Value → Shared → Prop} (hT : ∀ M, Looks M s.heap (isType a) true) (hS : ∀ M, Looks M s.heap (isSubtype a (.type U)) b) (hU : typeOf (.type U) = pure (.type "type")) (hU2 : isType (.type U) = pure true)
    (h : Q (.bool b) s) : wpAny (model prog w) A (call (.builtin "issubclass") [a, .type U]) Q E s := by
  refine call_issubclass (S := fun _ R s => ((∀ M, Looks M s.heap (isType a) true) ∧ ∀ M, Looks M s.heap (isSubtype a (.type U)) b) ∧ R (.ok (.ret (.bool b))) s) (fun _ _ _ _ _ hs => issubclass_outer ?_) ⟨⟨hT, hS⟩, h⟩
  rename_i s'
  obtain ⟨⟨h1, h2⟩, h3⟩ := hs
  obtain ⟨hh, g, d, t, os⟩ := s'
  unfold Builtin.«issubclass.nested»
  refine wpAny_bind (wpAny_of_eq hU ?_)
  rw [if_pos (by decide)]
  k_delta "plainIsSubclass"
  refine wpAny_bind (wpAny_bind ((h1 _).at ?_))
  refine wpAny_bind (wpAny_of_eq hU2 ?_)
  simp only [Bool.and_self, if_true]
  refine (h2 _).at ?_
  exact wpAny_pure h3
theorem sub_dict_dict : isSubtype (.type "dict") (.type "dict") = pure true := by rw [isSubtype_type]; kernel_rfl
theorem mt_dict : typeOf (.type "dict") = pure (.type "type") := by kernel_rfl
end
local macro_rules | `(tactic| walk_at "call builtin:issubclass") => `(tactic| (k_here; (refine issub_any (fun _ => Looks.of_pure rfl) (fun _ => Looks.of_pure sub_dict_dict) mt_dict rfl ?_)))


local macro_rules | `(tactic| walk_at "call type:type") => `(tactic| (k_here; refine type_K ‹_› (by k_mem) ‹_› (by decide) ?_))
local macro_rules | `(tactic| walk_at "getAttr ref") => `(tactic| (k_here; ((refine class_dict_K ‹_› (by k_mem) ‹_› ?_; intro t'))))
section
variable {prog : Program} {w : World} {A₀ : Around} {base h₀ : Heap} {outer : List Env} {e0 : Env} {L : Addr} {m mg mb : Str → Option Value} {mean : ExcName → Option Value} {s : Shared} {R : Result → Shared → Prop} {rest : List (Addr × Obj)}
theorem spec_ic_dict {x : Addr} {o : Obj} (hc : o.cls = .type "dict")
   (B : Below A₀ base outer h₀) (F : Fr h₀ L s.heap m) (X : (Mine.hd07.heap_39 w.params).In h₀) (N : News h₀ L s.heap ((x, o) :: rest)) (T : Top vw ls mean mg mb h₀)
   (k : ∀ h' tk, Fr h₀ L h' m → News h₀ L h' ((x, o) :: rest) → R (.ok (.ret (.bool true))) {s with heap := h', toks := tk})
   : codeAny (model prog w) (AK 15 (ek e0 L) outer) (.call (.ref 100) ⟨[.ref 471, .ref x], []⟩) R s := by
  k_enter
  k_steps
  exact k _ _ (by assumption) (by assumption)
end
end Mine
end
section
open PySem PySem.W PyProof.Rows PySem.Calls PySem.Spec Builtin Builtin.ObjectAttr
set_option Elab.async false
set_option maxRecDepth 100000
set_option maxHeartbeats 3000000
namespace Mine
theorem fill5 : PySem.Challenge.rw_dn0005_07 = PySem.Challenge.rw_dn0005_07 ∧ Mine.hd07.heap_39 = Mine.hd07.heap_39 := by
  k_fill
  exact ⟨rfl, rfl⟩
/-- a Counter as the call makes it -/
abbrev cnt (es : Array DictEntry) (n : Nat) (dx : Addr) : Obj := { cls := .ref 1093, dict := some dx, data := .dict es n, slots := #[] }
theorem inst_cnt {h₀ h : Heap} {L x dx : Addr} {news : List (Addr × Obj)} {od : Obj} {es : Array DictEntry} {n : Nat} (N : News h₀ L h news) (h1 : (x, cnt es n dx) ∈ news) (h2 : (dx, od) ∈ news) : InstAt h x (cnt es n dx) 1093 (some od) :=
  ⟨(N _ h1).1, rfl, rfl, (N _ h2).1⟩
section
variable (P : Params)
theorem c_ga : findIn (Mine.hd07.heap_39 P) (.ref 1093) (Str.ofString "__getattribute__") = some (some (.builtin "dict.__getattribute__")) := by k_is
theorem c_gt : findIn (Mine.hd07.heap_39 P) (.ref 1093) (Str.ofString "__getattr__") = some none := by k_is
theorem c_sub : subIn (Mine.hd07.heap_39 P) (.ref 1093) (.type "dict") = some true := by k_is
theorem c_has : hasDictIn (Mine.hd07.heap_39 P) 1093 = true := by k_is
theorem c_clsIn0 : isClsIn (Mine.hd07.heap_39 P) 1093 = true := by k_is
theorem c_clsIn : (clsIn (Mine.hd07.heap_39 P) 1093).isSome = true := c_clsIn0 P
end
theorem findObj_meth {K : Frag} {C : Addr} {od : Obj} {name : Str} {a g : Value} (hh : hasDictIn K C = true) (ha : findIn K (.ref C) name = some (some a)) (hg : specialIn K a "__get__" = some (some g)) (ht : takesIn K a = some false) (hc : copiedNames.contains name = false) (hl : lookIn name od = some none) :
    findObj K C (some od) name = some (.bind g a) := by
  obtain ⟨cd, hc', hd⟩ := any_some hh
  unfold findObj
  have ho : W.ownOf cd (some od) name = some none := by unfold W.ownOf; rw [if_pos hd]; exact hl
  rw [hc', Option.bind_some, ha, Option.bind_some]
  simp only [hg, ht, Option.bind_some, ho, hc, Bool.false_and, Bool.false_eq_true, if_false]
section
variable {prog : Program} {w : World} {A : Around} {E : Value → Shared → Prop} {s : Shared} {h₀ : Heap} {L x dx : Addr} {m : Str → Option Value} {news : List (Addr × Obj)} {es : Array DictEntry} {n : Nat} {b : Bool} {Q : Value → Shared → Prop}
end
end Mine
end
section
open PySem PySem.W PyProof.Rows PySem.Calls PySem.Spec
set_option compiler.extract_closed false
set_option Elab.async false
set_option maxRecDepth 100000
set_option maxHeartbeats 3000000
namespace Mine
theorem fill6 : PySem.Challenge.rw_dn0005_07 = PySem.Challenge.rw_dn0005_07 ∧ Mine.hd07.heap_39 = Mine.hd07.heap_39 := by
  k_fill
  exact ⟨rfl, rfl⟩


theorem looks_isType {K : Frag} {M : Model} {h : Heap} (X : K.In h) {C : Addr} (e : isClsIn K C = true) : Looks M h (isType (.ref C)) true := by
  obtain ⟨cd, hc⟩ := Option.isSome_iff_exists.mp (show (clsIn K C).isSome = true from e)
  unfold clsIn at hc
  split at hc
  · rename_i ho
    cases hc
    exact (Looks.ld (part := some headPart) (X _ _ ho)).andThen .now
  · cases hc

section
variable {prog : Program} {w : World} {A₀ : Around} {base h₀ : Heap} {outer : List Env} {e0 : Env} {L : Addr} {m mg mb : Str → Option Value} {mean : ExcName → Option Value} {s : Shared} {R : Result → Shared → Prop} {rest : List (Addr × Obj)}
end
end Mine
end
section
open PySem PySem.W PyProof.Rows PySem.Calls PySem.Spec Builtin Builtin.ObjectAttr
set_option Elab.async false
set_option maxRecDepth 100000
set_option maxHeartbeats 3000000
namespace Mine
theorem fill7 : PySem.Challenge.rw_dn0005_07 = PySem.Challenge.rw_dn0005_07 ∧ Mine.hd07.heap_39 = Mine.hd07.heap_39 := by
  k_fill
  exact ⟨rfl, rfl⟩
section
variable (P : Params)
theorem m_type : typeIn (Mine.hd07.heap_39 P) (.ref 471) = some (.ref 117) := by k_is
theorem m_tup : instIn (Mine.hd07.heap_39 P) (.ref 471) (.type "tuple") = some false := by k_is
theorem m_ic : specialIn (Mine.hd07.heap_39 P) (.ref 471) (Str.ofString "__instancecheck__") = some (some (.ref 100)) := by k_is
theorem m_fn : typeIn (Mine.hd07.heap_39 P) (.ref 100) = some (.type "function") := by k_is
end
section
variable {prog : Program} {w : World} {A A₀ : Around} {E : Value → Shared → Prop} {base h₀ : Heap} {outer : List Env} {env : Env} {L x dx : Addr} {m mg mb : Str → Option Value} {mean : ExcName → Option Value} {s : Shared} {news : List (Addr × Obj)} {o : Obj} {es : Array DictEntry} {n : Nat} {Q : Value → Shared → Prop}
theorem isi_dict_K (hA : A.frames = some (env :: outer)) (hf : env.frame = some L) (hk : env.scope.kind = .function) (hh : A.handled = none) (hg : A.guards = some []) (hd : A.depth ≤ 550) (hu : A.units + 1 ≤ 2500)
   (B : Below A₀ base outer h₀) (F : Fr h₀ L s.heap m) (X : (Mine.hd07.heap_39 w.params).In h₀) (N : News h₀ L s.heap news) (T : Top vw ls mean mg mb h₀) (hm : (x, o) ∈ news) (hc : o.cls = .type "dict")
   (h : ∀ h' tk, Fr h₀ L h' m → News h₀ L h' news → Q (.bool true) { s with heap := h', toks := tk }) :
   wpAny (model prog w) A (call (.builtin "isinstance") [.ref x, .ref 471]) Q E s := by
  have Xs := X.keeps F.keep
  refine isi_hook (t := .type "dict") (mc := .ref 117) (b := true) Xs (fun M => ?_) (by intro e; cases e) (by decide) (m_type _) (by decide) (by decide) (m_tup _) (m_ic _) (m_fn _) (by have : cLine = 9900 := rfl; omega) ?_
  · have := (Looks.ld (M := M) (part := none) (N _ hm).1).andThen (f := fun o => (pure o.cls : Sem Value)) (b := .type "dict") (by rw [hc]; exact .now)
    exact this
  · refine use_at 15 (A := A.in1) hA hf hk hh hg hd hu (spec_ic_dict hc B F X (fun p hp => by rcases List.mem_cons.mp hp with rfl | hp; exact N _ hm; exact N p hp) T fun h' tk F' N' => ⟨rfl, h h' tk F' fun p hp => N' p (.tail _ hp)⟩)
end
end Mine
end
section
open PySem PySem.W PyProof.Rows PySem.Calls PySem.Spec Builtin Builtin.ObjectAttr
set_option Elab.async false
set_option maxRecDepth 100000
set_option maxHeartbeats 3000000
namespace Mine
theorem fill8 : PySem.Challenge.rw_dn0005_07 = PySem.Challenge.rw_dn0005_07 ∧ Mine.hd07.heap_39 = Mine.hd07.heap_39 := by
  k_fill
  exact ⟨rfl, rfl⟩
section
variable {prog : Program} {w : World} {A : Around} {E : Value → Shared → Prop} {s : Shared} {K : Frag}
/-- a built-in method's look at its arguments, for an instance of a class below its own -/
theorem check_sub {M : Model} {id owner n : String} {self : Value} {rest : List Value} {kw : List (Str × Value)} {Q : Unit → Shared → Prop} (hsplit : splitId id = some (owner, n))
    (hkind : (Manifest.find? owner).bind (·.attrs.lookup n) = some .slot ∨ (Manifest.find? owner).bind (·.attrs.lookup n) = some .method)
    (hi : Looks M s.heap (isInstance self (.type owner)) true) (ha : argsOk id ⟨self :: rest, kw⟩) (hQ : Q () s) : wpAny M A (checkBuiltinCall id ⟨self :: rest, kw⟩) Q E s := by
  have hk : builtinKind id = (Manifest.find? owner).bind (·.attrs.lookup n) := by simp only [builtinKind, hsplit]
  obtain ⟨hh, g, d, t, os⟩ := s
  rcases hkind with h | h <;>
  · simp only [checkBuiltinCall, hk, h, hsplit]
    refine wpAny_bind (hi.at ?_)
    simp only [Bool.not_true, Bool.false_eq_true, if_false]
    cases hsig : Manifest.signature? id with
    | none => exact wpAny_pure hQ
    | some sig =>
      simp only [argsOk, hsig] at ha
      have h2 : Bind.checkArgs id sig ⟨self :: rest, kw⟩ = pure () := ha
      show wpAny M A (Bind.checkArgs id sig ⟨self :: rest, kw⟩) Q E _
      rw [h2]; exact wpAny_pure hQ
theorem call_sub {id owner n : String} {b : Builtin} {self : Value} {rest : List Value} {kw : List (Str × Value)} {Q : Value → Shared → Prop} (hp : plainId id = true) (hb : entryFor table id = some b) (hsplit : splitId id = some (owner, n))
    (hkind : (Manifest.find? owner).bind (·.attrs.lookup n) = some .slot ∨ (Manifest.find? owner).bind (·.attrs.lookup n) = some .method)
    (hi : Looks (model prog w) s.heap (isInstance self (.type owner)) true) (ha : argsOk id ⟨self :: rest, kw⟩)
    (hc : wpAny (model prog w) A.in1 (b ⟨self :: rest, kw⟩) (fun fin s' => ∃ v, fin = .done (.ret v) ∧ Q v s') E s) : wpAny (model prog w) A (call (.builtin id) (self :: rest) kw) Q E s := by
  refine wpAny_call (codeAny_call_builtin hp hb (check_sub hsplit hkind hi ha (wpAny_mono hc (fun fin s' h' => ?_) fun _ _ h' => h')))
  obtain ⟨v, rfl, hv⟩ := h'; exact hv
end
/-- the entries of a dict, told as a list of its pairs in their order -/
structure DIs {prog : Program} {w : World} {K : Type} [DecidableEq K] (knd : KeyKind prog w K) (es : Array DictEntry) (kvs : List (K × Value)) : Prop where
  keys : PySem.KeysOf knd es
  pairs : Pairs knd es.toList kvs
  nodup : (kvs.map (·.1)).Nodup
section
variable {prog : Program} {w : World} {K : Type} [DecidableEq K] {knd : KeyKind prog w K} {A : Around} {E : Value → Shared → Prop} {s : Shared} {d : Addr} {o : Obj} {es : Array DictEntry} {ep : Nat} {kvs : List (K × Value)} {k : K} {key v : Value}
theorem DIs.nil : DIs knd #[] [] := ⟨by intro e he; simp at he, Pairs.nil, List.nodup_nil⟩
theorem DIs.size (D : DIs knd es kvs) : es.size = kvs.length := by have e1 := D.pairs.length; have e2 : es.toList.length = es.size := by simp
                                                                   omega
theorem dset {Q : Unit → Shared → Prop} (ho : s.heap.get? d = some o) (hd : o.data = .dict es ep) (D : DIs knd es kvs) (hkey : knd.is k key = true) (hsz : kvs.length ≤ sizeLine)
    (h : ∀ h' es' ep', DIs knd es' (stored kvs k v) → h'.get? d = some { o with data := .dict es' ep' } → Heap.SameBut d s.heap h' → Q () { s with heap := h', toks := s.toks + 1 }) :
    wpAny (model prog w) A (dictSet d key v) Q E s := by
  obtain ⟨oc, od, oda, osl⟩ := o
  dsimp only at hd
  subst hd
  have hes : es.size ≤ sizeLine := by rw [D.size]; exact hsz
  unfold dictSet
  refine wpAny_holding ?_
  refine wpAny_bind (knd.pyHash hkey ?_)
  unfold dictSetHashed
  refine wpAny_holding ?_
  refine wpAny_bind (wpAny_dictFind_of (s := { s with toks := s.toks + 1 }) hkey ho rfl D.keys ?_)
  have hl : (es.toList.findIdx? fun e => knd.is k e.key) = es.findIdx? fun e => knd.is k e.key := by obtain ⟨l⟩ := es; simp
  have hidx : (es.findIdx? fun e => knd.is k e.key) = kvs.findIdx? fun kv => decide (kv.1 = k) := by rw [← hl, D.pairs.findIdx k]
  cases hi : es.findIdx? fun e => knd.is k e.key with
  | some i =>
    refine wpAny_bind (wpAny_rule (wpAny_bind (wpAny_updateDict (s := { s with toks := s.toks + 1 }) ho rfl (wpAny_point (h _ (es.modify i fun e => { e with val := v }) ep ?_ (Heap.get?_update_self _ ho rfl) (Heap.SameBut.update ..))))))
    refine ⟨D.keys.modify _ _, ?_, ?_⟩
    · rw [stored, if_pos (any_of_findIdx_some (hidx ▸ hi))]
      have := D.pairs.modify D.nodup (hl.trans hi) v
      obtain ⟨l⟩ := es
      simpa using this
    · rw [stored, if_pos (any_of_findIdx_some (hidx ▸ hi)), keys_map_store]; exact D.nodup
  | none =>
    refine wpAny_bind (wpAny_rule (wpAny_updateDictKeys (s := { s with toks := s.toks + 1 }) ho rfl (h _ (es.push ⟨knd.hash k, key, v⟩) (ep + 1) ?_ (Heap.get?_update_self _ ho rfl) (Heap.SameBut.update ..)) hes))
    have hno : (kvs.any fun kv => decide (kv.1 = k)) = false := by
      have h1 : (kvs.findIdx? fun kv => decide (kv.1 = k)) = none := hidx ▸ hi
      rw [List.findIdx?_eq_none_iff] at h1
      rw [List.any_eq_false]
      intro x hx
      simp [h1 x hx]
    refine ⟨D.keys.push hkey _, ?_, ?_⟩
    · rw [stored, if_neg (by rw [hno]; exact Bool.false_ne_true)]
      have := D.pairs.append hkey (knd.hash k) v
      obtain ⟨l⟩ := es
      simpa using this
    · rw [stored, if_neg (by rw [hno]; exact Bool.false_ne_true), List.map_append, List.nodup_append]
      refine ⟨D.nodup, by simp, ?_⟩
      intro a ha b hb e
      subst e
      obtain ⟨x, hx, rfl⟩ := List.mem_map.mp ha
      simp only [List.map_cons, List.map_nil, List.mem_singleton] at hb
      have := List.any_eq_false.mp hno x hx
      exact this (decide_eq_true hb)
end
end Mine
end
section
open PySem PySem.W PyProof.Rows PySem.Calls PySem.Spec Builtin Builtin.ObjectAttr
set_option Elab.async false
set_option maxRecDepth 100000
set_option maxHeartbeats 3000000
namespace Mine
theorem fill9 : PySem.Challenge.rw_dn0005_07 = PySem.Challenge.rw_dn0005_07 ∧ Mine.hd07.heap_39 = Mine.hd07.heap_39 := by
  k_fill
  exact ⟨rfl, rfl⟩
section
variable (P : Params)
theorem c_nomod : subIn (Mine.hd07.heap_39 P) (.ref 1093) (.type "module") = some false := by k_is
theorem c_noord : subIn (Mine.hd07.heap_39 P) (.ref 1093) (.type "collections.OrderedDict") = some false := by k_is
theorem c_noseq : noSeq (Mine.hd07.heap_39 P) 1093 = true := by k_is
theorem c_setitem : findIn (Mine.hd07.heap_39 P) (.ref 1093) (Str.ofString "__setitem__") = some (some (.builtin "dict.__setitem__")) := by k_is
theorem c_meta : typeIn (Mine.hd07.heap_39 P) (.ref 1093) = some (.type "type") := by k_is
end
abbrev bm (id : String) (x : Addr) : Obj := { cls := .type "builtin_function_or_method", data := .fields #[.builtin id, .ref x] }
section
variable {prog : Program} {w : World} {A : Around} {E : Value → Shared → Prop} {s : Shared} {h₀ : Heap} {L x dx q : Addr} {m : Str → Option Value} {news : List (Addr × Obj)} {es : Array DictEntry} {n : Nat} {Q : Value → Shared → Prop}
  {K : Type} [DecidableEq K] {knd : KeyKind prog w K} {kvs : List (K × Value)} {k : K} {key dflt : Value}
end
end Mine
end
section
open PySem PySem.W PyProof.Rows PySem.Calls PySem.Spec Builtin Builtin.ObjectAttr
set_option Elab.async false
set_option maxRecDepth 100000
set_option maxHeartbeats 3000000
namespace Mine
theorem fill8b : PySem.Challenge.rw_dn0005_07 = PySem.Challenge.rw_dn0005_07 ∧ Mine.hd07.heap_39 = Mine.hd07.heap_39 := by
  k_fill
  exact ⟨rfl, rfl⟩
section
variable (P : Params)
theorem c_bool0 : findIn (Mine.hd07.heap_39 P) (.ref 1093) (Str.ofString "__bool__") = some none := by k_is
theorem c_len : findIn (Mine.hd07.heap_39 P) (.ref 1093) (Str.ofString "__len__") = some (some (.builtin "dict.__len__")) := by k_is
end
section
variable {prog : Program} {w : World} {A : Around} {E : Value → Shared → Prop} {s : Shared} {h₀ : Heap} {L x dx q : Addr} {m : Str → Option Value} {news : List (Addr × Obj)} {es : Array DictEntry} {n : Nat} 
  {K : Type} [DecidableEq K] {knd : KeyKind prog w K} {kvs : List (K × Value)} {k : K} {key v : Value}
theorem cnt_setItem {Q : Unit → Shared → Prop} (Fr0 : Fr h₀ L s.heap m) (X₀ : (Mine.hd07.heap_39 w.params).In h₀) (N : News h₀ L s.heap news) (hm : (x, cnt es n dx) ∈ news) (hdx : (dx, dictOf [] 0) ∈ news)
    (D : DIs knd es kvs) (hkey : knd.is k key = true) (hsz : kvs.length ≤ sizeLine)
    (h : ∀ h' es' ep', DIs knd es' (stored kvs k v) → h'.get? x = some (cnt es' ep' dx) → Heap.SameBut x s.heap h' → Q () { s with heap := h', toks := s.toks + 1 }) : wpAny (model prog w) A (setItem (.ref x) key v) Q E s := by
  have X := X₀.keeps Fr0.keep
  have I := inst_cnt N hm hdx
  have hx := (N _ hm).1
  have L0 := I.type (M := model prog w)
  have L1 := looks_findIn (M := model prog w) X (c_setitem _)
  have L3 := looks_subIn (M := model prog w) X (c_noord _)
  obtain ⟨hh, g, d, t, os⟩ := s
  unfold setItem sequenceKey
  refine wpAny_holding (wpAny_bind (wpAny_bind (I.type.here ?_)))
  refine wpAny_bind ((anyM_none X (c_noseq _)).here ?_)
  rw [if_pos (show (!false) = true from rfl)]
  refine wpAny_pure (wpAny_bind ?_)
  unfold callSpecial?
  refine wpAny_bind ?_
  repeat ((fail_if_success (with_reducible show wpAny _ _ (call _ _ _) _ _ _)); lk)
  have L5 : Looks (model prog w) hh (isInstance (.ref x) (.type "dict")) true := L0.andThen (looks_subIn X (c_sub _))
  refine call_sub (owner := "dict") (n := "__setitem__") slot_dict_setitem.plain entry_dict_setitem (by decide +kernel) (.inl (by decide +kernel)) L5 (args_dict_setitem _ _ _) ?_
  unfold Builtin.«dict.__setitem__»
  repeat ((fail_if_success (with_reducible show wpAny _ _ (dictSet _ _ _) _ _ _)); lk)
  refine dset (ep := n) hx rfl D hkey hsz ?_
  intro h' es' ep' D' hx' hs'
  repeat lk
  refine ⟨_, rfl, ?_⟩
  repeat lk
  exact h h' es' ep' D' hx' hs'
theorem cnt_truthy {Q : Bool → Shared → Prop} (Fr0 : Fr h₀ L s.heap m) (X₀ : (Mine.hd07.heap_39 w.params).In h₀) (N : News h₀ L s.heap news) (hm : (x, cnt es n dx) ∈ news) (hdx : (dx, dictOf [] 0) ∈ news)
    (hs : (x == sysModules) = false) (hsz : es.size ≤ sizeLine) (h : ∀ t, Q (es.size != 0) { s with toks := t }) : wpAny (model prog w) A (truthy (.ref x)) Q E s := by
  have X := X₀.keeps Fr0.keep
  have I := inst_cnt N hm hdx
  have hx := (N _ hm).1
  have L0 := I.type (M := model prog w)
  have L1 := looks_findIn (M := model prog w) X (c_len _)
  have L2 := looks_findIn (M := model prog w) X (c_bool0 _)
  have L3 := looks_subIn (M := model prog w) X (c_noord _)
  have L4 := looks_subIn (M := model prog w) X (c_sub _)
  obtain ⟨hh, g, d, t, os⟩ := s
  unfold truthy
  repeat lk
  refine PySem.W.X.x_call (codeAny_builtin entry_len ?_) (by intro e; cases e)
  unfold Builtin.«len»
  repeat ((fail_if_success (with_reducible show wpAny _ _ (call _ _ _) _ _ _)); lk)
  have L5 : Looks (model prog w) hh (isInstance (.ref x) (.type "dict")) true := L0.andThen L4
  refine call_sub (owner := "dict") (n := "__len__") F.slot_dict_len.plain F.entry_dict_len (by decide +kernel) (.inl (by decide +kernel)) L5 (F.args_dict_len_1 _) ?_
  unfold Builtin.«dict.__len__»
  repeat ((fail_if_success (with_reducible show wpAny _ _ (call _ _ _) _ _ _)); lk)
  rw [if_neg (by rw [hs]; exact Bool.false_ne_true)]
  repeat lk
  refine ⟨_, rfl, ?_⟩
  refine wpAny_pure ?_
  dsimp only
  repeat lk
  have hlt : ¬ ((es.size : Int) + ((0 : Nat) : Int) ≥ 2 ^ 63) := by
    have := PySem.sizeLine_eq
    omega
  rw [if_neg hlt]
  repeat lk
  have e : (((es.size : Int) + ((0 : Nat) : Int)) != 0) = (es.size != 0) := by
    cases es.size with
    | zero => rfl
    | succ k => 
      rw [Bool.eq_iff_iff]; simp; omega
  rw [e]
  exact h _
end
end Mine
end
section
open PySem PySem.W PyProof.Rows PySem.Calls PySem.Spec Builtin Builtin.ObjectAttr
set_option compiler.extract_closed false
set_option Elab.async false
set_option maxRecDepth 100000
set_option maxHeartbeats 3000000
namespace Mine
theorem fill11 : PySem.Challenge.rw_dn0005_07 = PySem.Challenge.rw_dn0005_07 ∧ Mine.hd07.heap_39 = Mine.hd07.heap_39 := by
  k_fill
  exact ⟨rfl, rfl⟩
section
variable (P : Params)
theorem c_items : findIn (Mine.hd07.heap_39 P) (.ref 1093) (Str.ofString "items") = some (some (.builtin "dict.items")) := by k_is
end
theorem look_alive {M : Model} {A : Around} {E : Value → Shared → Prop} {s : Shared} {a : Addr} {o : Obj} {Q : Option Obj → Shared → Prop} (ho : s.heap.get? a = some o) (h : Q (some o) s) : wpAny M A (Sem.loadIfAlive a Sem.pure) Q E s := by
  have h2 : Q (s.heap.get? a) s := ho ▸ h
  exact fun _ _ _ => h2
/-- an object that holds a dict's entries, whatever its class -/
def DatAt {prog : Program} {w : World} {K : Type} [DecidableEq K] (knd : KeyKind prog w K) (h : Heap) (d : Addr) (kvs : List (K × Value)) (ep : Nat) : Prop :=
  ∃ o es, h.get? d = some o ∧ o.data = .dict es ep ∧ DIs knd es kvs
/-- an iterator over the items -/
abbrev itm (d : Addr) (i n ep : Nat) (a : Value) (f : Bool) (ok ov : Value) : Obj := { cls := .type "dict_itemiterator", dict := none, data := .fields #[a, .bool f, .ref d, .int i 0, .int n 0, .int ep 0, ok, ov], slots := #[] }
section
variable {prog : Program} {w : World} {A : Around} {E : Value → Shared → Prop} {s : Shared} {h₀ : Heap} {L x dx q vw it d : Addr} {m : Str → Option Value} {news : List (Addr × Obj)} {es : Array DictEntry} {n : Nat} 
  {K : Type} [DecidableEq K] {knd : KeyKind prog w K} {kvs : List (K × Value)} {k : K} {key v : Value} {ep i : Nat} {ok ov : Value}
theorem cnt_items {Q : Value → Shared → Prop} (Fr0 : Fr h₀ L s.heap m) (X₀ : (Mine.hd07.heap_39 w.params).In h₀) (N : News h₀ L s.heap news) (hm : (x, cnt es n dx) ∈ news) (hdx : (dx, dictOf [] 0) ∈ news)
    (hs : (x == sysModules) = false) (h : Q (.ref s.heap.objs.size) { s with heap := s.heap.push { cls := .type "dict_items", data := .fields #[.ref x] } }) : wpAny (model prog w) A (call (.builtin "dict.items") [.ref x]) Q E s := by
  have X := X₀.keeps Fr0.keep
  have I := inst_cnt N hm hdx
  have hx := (N _ hm).1
  have L0 := I.type (M := model prog w)
  have L3 := looks_subIn (M := model prog w) X (c_noord _)
  have L5 : Looks (model prog w) s.heap (isInstance (.ref x) (.type "dict")) true := L0.andThen (looks_subIn X (c_sub _))
  obtain ⟨hh, g, d, t, os⟩ := s
  refine call_sub (owner := "dict") (n := "items") F.slot_dict_items.plain F.entry_dict_items (by decide +kernel) (.inr (by decide +kernel)) L5 (F.args_dict_items_1 _) ?_
  unfold Builtin.«dict.items» Builtin.Dict.noArgs
  repeat lk
  rw [if_neg (by rw [hs]; exact Bool.false_ne_true)]
  repeat lk
  exact ⟨_, rfl, h⟩
theorem it_iter {Q : Value → Shared → Prop} (hv : s.heap.get? vw = some { cls := .type "dict_items", data := .fields #[.ref d] }) (hd : DatAt knd s.heap d kvs ep) (h : Q (.ref s.heap.objs.size) { s with heap := s.heap.push (itm d 0 kvs.length ep .none false .none .none) }) :
   wpAny (model prog w) A (pyIter (.ref vw)) Q E s := by
  obtain ⟨o, es, ho, hdat, D⟩ := hd
  obtain ⟨hh, g, dr, t, os⟩ := s
  obtain ⟨oc, od, oda, osl⟩ := o
  dsimp only at hdat ho hv
  subst hdat
  have hT : Shared.TypeIs ⟨hh, g, dr, t, os⟩ (.ref vw) "dict_items" := ⟨_, hv, rfl⟩
  refine wpAny_pyIter_slot hT F.slot_dict_items_iter (wpAny_call_entry F.slot_dict_items_iter hT F.entry_dict_items_iter ?_ (F.args_dict_items_iter_1 _))
  unfold Builtin.«dict_items.__iter__»
  repeat lk
  refine ⟨_, rfl, "dict_itemiterator", _, ⟨_, Heap.get?_push_size _ rfl, rfl⟩, F.slot_dict_itemiterator_next.lookup, ?_⟩
  rw [D.size]
  exact h
theorem it_next0 {Q : Option Value → Shared → Prop} (hi : s.heap.get? it = some (itm d i kvs.length ep .none false ok ov)) (hd : DatAt knd s.heap d kvs ep) (hx : kvs[i]? = some (k, v))
   (h : ∀ key h', knd.is k key = true → h'.get? it = some (itm d (i + 1) kvs.length ep (rawInt s.heap.objs.size) false key v) → h'.get? s.heap.objs.size = some { cls := .type "tuple", data := .seq #[key, v] } → h'.objs.size = s.heap.objs.size + 1 → 
      (∀ b o, b ≠ it → s.heap.get? b = some o → h'.get? b = some o) → Q (some (.ref s.heap.objs.size)) { s with heap := h' }) :
   wpAny (model prog w) A (pyNext (.ref it)) Q E s := by
  obtain ⟨o, es, ho, hdat, D⟩ := hd
  obtain ⟨hh, g, dr, t, os⟩ := s
  obtain ⟨oc, od, oda, osl⟩ := o
  dsimp only at hdat ho hi
  have hi0 := hi
  subst hdat
  have hT : Shared.TypeIs ⟨hh, g, dr, t, os⟩ (.ref it) "dict_itemiterator" := ⟨_, hi, rfl⟩
  have hsz := D.size
  have hlt : i < kvs.length := by
    rcases Nat.lt_or_ge i kvs.length with h | h
    · exact h
    · simp [List.getElem?_eq_none h] at hx
  unfold pyNext
  refine wpAny_bind (wpAny_attempt (wpAny_callSpecial?_slot (name := Str.ofString "__next__") hT PySem.F.slot_dict_itemiterator_next
    (wpAny_call_entry PySem.F.slot_dict_itemiterator_next hT PySem.F.entry_dict_itemiterator_next ?_ (PySem.F.args_dict_itemiterator_next_1 _))))
  unfold Builtin.«dict_itemiterator.__next__»
  repeat lk
  rw [if_neg (by rw [hsz]; simp)]
  repeat lk
  rw [if_neg (by simp)]
  repeat lk
  have hlt' : i < es.size := by rw [hsz]; exact hlt
  obtain ⟨hkey, hval⟩ := D.pairs.get? (e := es[i]) (by simp [hlt']) hx
  simp only [show ¬ ((i : Int) < 0) from by omega, if_false, Int.toNat_natCast, Array.getElem?_eq_getElem hlt']
  repeat ((fail_if_success (with_reducible show wpAny _ _ (setField _ _ _) _ _ _)); lk)
  (with_unfolding_all show wpAny _ _ (setField (.ref it) 3 (rawInt ((i : Int) + 1))) _ _ _)
  refine wpAny_setField_rec hi (by simp) fun h₁ he₁ hs₁ => ?_
  replace hs₁ : Heap.SameBut it hh h₁ := hs₁
  have he₁ : h₁.get? it = some (itm d (i + 1) kvs.length ep .none false ok ov) := by
    rw [he₁]
    rfl
  have hil : it < hh.objs.size := Heap.lt_size hi
  clear hi
  have hz₁ : h₁.objs.size = hh.objs.size := hs₁.1
  dsimp only
  repeat lk
  have he₂ : (h₁.push { cls := .type "tuple", data := .seq #[es[i].key, es[i].val] }).get? it = some (itm d (i + 1) kvs.length ep .none false ok ov) := Heap.get?_push_of_some _ he₁
  generalize hh₂ : h₁.push { cls := .type "tuple", data := .seq #[es[i].key, es[i].val] } = h₂ at he₂ ⊢
  have ht₂ : h₂.get? hh.objs.size = some { cls := .type "tuple", data := .seq #[es[i].key, es[i].val] } := by rw [← hh₂, ← hz₁]; exact Heap.get?_push_size _ rfl
  have hz₂ : h₂.objs.size = hh.objs.size + 1 := by rw [← hh₂, Heap.size_push, hz₁]
  have hk₂ : ∀ b o, b ≠ it → hh.get? b = some o → h₂.get? b = some o := fun b o hb e => by rw [← hh₂]; exact Heap.get?_push_of_some _ (hs₁.extBut b o hb e)
  rw [hz₁]
  clear hh₂ he₁ hs₁ hz₁
  repeat ((fail_if_success (with_reducible show wpAny _ _ (setField _ _ _) _ _ _)); lk)
  refine wpAny_setField_rec he₂ (by simp) fun h₃ he₃ hs₃ => ?_
  dsimp only
  refine wpAny_bind (wpAny_setField_rec he₃ (by simp) fun h₄ he₄ hs₄ => ?_)
  refine wpAny_bind (wpAny_setField_rec he₄ (by simp) fun h₅ he₅ hs₅ => ?_)
  refine wpAny_bind (wpAny_setField_rec he₅ (by simp) fun h₆ he₆ hs₆ => ?_)
  have step : ∀ {a b : Heap}, Heap.SameBut it a b → ∀ c o, c ≠ it → a.get? c = some o → b.get? c = some o := fun q c o hc e => q.extBut c o hc e
  have hk₆ : ∀ c o, c ≠ it → h₂.get? c = some o → h₆.get? c = some o := fun c o hc e => step hs₆ c o hc (step hs₅ c o hc (step hs₄ c o hc (step hs₃ c o hc e)))
  have hz₆ : h₆.objs.size = hh.objs.size + 1 := by rw [← hz₂]; exact hs₆.1.trans (hs₅.1.trans (hs₄.1.trans hs₃.1))
  refine wpAny_bind (wpAny_letGo (wpAny_pure (wpAny_pure ⟨_, rfl, wpAny_pure ?_⟩)))
  refine h es[i].key h₆ hkey ?_ ?_ hz₆ fun b o hb e => hk₆ b o hb (hk₂ b o hb e)
  · rw [he₆, ← hval]
    rfl
  · rw [← hval]
    exact hk₆ _ _ (Nat.ne_of_gt hil) ht₂
theorem it_next1 {a : Addr} {oa : Obj} {f : Bool} {Q : Option Value → Shared → Prop} (hi : s.heap.get? it = some (itm d i kvs.length ep (rawInt a) f ok ov)) (hal : s.heap.get? a = some oa) (hai : a ≠ it) (hd : DatAt knd s.heap d kvs ep) (hx : kvs[i]? = some (k, v))
   (h : ∀ key h', knd.is k key = true → h'.get? it = some (itm d (i + 1) kvs.length ep (rawInt a) true ok ov) → h'.get? s.heap.objs.size = some { cls := .type "tuple", data := .seq #[key, v] } → h'.objs.size = s.heap.objs.size + 1 → 
      (∀ b o, b ≠ it → s.heap.get? b = some o → h'.get? b = some o) → Q (some (.ref s.heap.objs.size)) { s with heap := h' }) :
   wpAny (model prog w) A (pyNext (.ref it)) Q E s := by
  obtain ⟨o, es, ho, hdat, D⟩ := hd
  obtain ⟨hh, g, dr, t, os⟩ := s
  obtain ⟨oc, od, oda, osl⟩ := o
  dsimp only at hdat ho hi hal
  subst hdat
  have hT : Shared.TypeIs ⟨hh, g, dr, t, os⟩ (.ref it) "dict_itemiterator" := ⟨_, hi, rfl⟩
  have hsz := D.size
  have hlt : i < kvs.length := by
    rcases Nat.lt_or_ge i kvs.length with h | h
    · exact h
    · simp [List.getElem?_eq_none h] at hx
  unfold pyNext
  refine wpAny_bind (wpAny_attempt (wpAny_callSpecial?_slot (name := Str.ofString "__next__") hT PySem.F.slot_dict_itemiterator_next
    (wpAny_call_entry PySem.F.slot_dict_itemiterator_next hT PySem.F.entry_dict_itemiterator_next ?_ (PySem.F.args_dict_itemiterator_next_1 _))))
  unfold Builtin.«dict_itemiterator.__next__»
  repeat lk
  rw [if_neg (by rw [hsz]; simp)]
  repeat lk
  rw [if_neg (by simp)]
  repeat lk
  have hlt' : i < es.size := by rw [hsz]; exact hlt
  obtain ⟨hkey, hval⟩ := D.pairs.get? (e := es[i]) (by simp [hlt']) hx
  simp only [show ¬ ((i : Int) < 0) from by omega, if_false, Int.toNat_natCast, Array.getElem?_eq_getElem hlt']
  repeat ((fail_if_success (with_reducible show wpAny _ _ (setField _ _ _) _ _ _)); lk)
  (with_unfolding_all show wpAny _ _ (setField (.ref it) 3 (rawInt ((i : Int) + 1))) _ _ _)
  refine wpAny_setField_rec hi (by simp) fun h₁ he₁ hs₁ => ?_
  replace hs₁ : Heap.SameBut it hh h₁ := hs₁
  have he₁ : h₁.get? it = some (itm d (i + 1) kvs.length ep (rawInt a) f ok ov) := by
    rw [he₁]
    rfl
  have hil : it < hh.objs.size := Heap.lt_size hi
  clear hi
  have hz₁ : h₁.objs.size = hh.objs.size := hs₁.1
  dsimp only
  repeat lk
  have he₂ : (h₁.push { cls := .type "tuple", data := .seq #[es[i].key, es[i].val] }).get? it = some (itm d (i + 1) kvs.length ep (rawInt a) f ok ov) := Heap.get?_push_of_some _ he₁
  generalize hh₂ : h₁.push { cls := .type "tuple", data := .seq #[es[i].key, es[i].val] } = h₂ at he₂ ⊢
  have ht₂ : h₂.get? hh.objs.size = some { cls := .type "tuple", data := .seq #[es[i].key, es[i].val] } := by rw [← hh₂, ← hz₁]; exact Heap.get?_push_size _ rfl
  have hz₂ : h₂.objs.size = hh.objs.size + 1 := by rw [← hh₂, Heap.size_push, hz₁]
  have hk₂ : ∀ b o, b ≠ it → hh.get? b = some o → h₂.get? b = some o := fun b o hb e => by rw [← hh₂]; exact Heap.get?_push_of_some _ (hs₁.extBut b o hb e)
  have hal₂ := hk₂ a oa hai hal
  rw [hz₁]
  clear hh₂ he₁ hs₁ hz₁
  repeat ((fail_if_success (with_reducible show wpAny _ _ (setField _ _ _) _ _ _)); lk)
  have fin : ∀ h₃ : Heap, h₃.get? it = some (itm d (i + 1) kvs.length ep (rawInt a) true ok ov) → Heap.SameBut it h₂ h₃ → Q (some (.ref hh.objs.size)) ⟨h₃, g, dr, t, os⟩ := fun h₃ he₃ hs₃ =>
    h es[i].key h₃ hkey he₃ (by rw [← hval]; exact hs₃.extBut _ _ (Nat.ne_of_gt hil) ht₂) (by show h₃.objs.size = hh.objs.size + 1; rw [hs₃.1, hz₂]) fun b o hb e => hs₃.extBut b o hb (hk₂ b o hb e)
  rw [Int.toNat_natCast]
  refine look_alive (s := ⟨h₂, g, dr, t, os⟩) hal₂ ?_
  cases f with
  | true =>
    simp only [Option.isNone_some, Bool.false_eq_true, if_false]
    repeat lk
    exact ⟨_, rfl, wpAny_pure (fin h₂ he₂ (Heap.SameBut.refl _ _))⟩
  | false =>
    simp only [Option.isNone_some, Bool.false_eq_true, if_false]
    repeat ((fail_if_success (with_reducible show wpAny _ _ (setField _ _ _) _ _ _)); lk)
    refine wpAny_setField_rec he₂ (by simp) fun h₃ he₃ hs₃ => ?_
    repeat lk
    refine ⟨_, rfl, wpAny_pure (fin h₃ ?_ hs₃)⟩
    rw [he₃]; rfl
theorem it_end {a : Value} {f : Bool} {Q : Option Value → Shared → Prop} (hh : A.handled = none) (hi : s.heap.get? it = some (itm d i kvs.length ep a f ok ov)) (hd : DatAt knd s.heap d kvs ep) (hx : kvs[i]? = none)
   (h : ∀ h', Heap.ExtBut it s.heap h' → Q none { s with heap := h' }) : wpAny (model prog w) A (pyNext (.ref it)) Q E s := by
  obtain ⟨o, es, ho, hdat, D⟩ := hd
  obtain ⟨hp, g, dr, t, os⟩ := s
  obtain ⟨oc, od, oda, osl⟩ := o
  dsimp only at hdat ho hi
  subst hdat
  have hT : Shared.TypeIs ⟨hp, g, dr, t, os⟩ (.ref it) "dict_itemiterator" := ⟨_, hi, rfl⟩
  have hsz := D.size
  have hge : es.size ≤ i := by rw [hsz]; simpa using hx
  unfold pyNext
  refine wpAny_bind (wpAny_attempt (wpAny_callSpecial?_slot (name := Str.ofString "__next__") hT PySem.F.slot_dict_itemiterator_next
    (wpAny_call_entry PySem.F.slot_dict_itemiterator_next hT PySem.F.entry_dict_itemiterator_next ?_ (PySem.F.args_dict_itemiterator_next_1 _))))
  unfold Builtin.«dict_itemiterator.__next__»
  repeat lk
  rw [if_neg (by rw [hsz]; simp)]
  repeat lk
  rw [if_neg (by simp)]
  repeat lk
  simp only [show ¬ ((i : Int) < 0) from by omega, if_false, Int.toNat_natCast, Array.getElem?_eq_none hge]
  repeat ((fail_if_success (with_reducible show wpAny _ _ (setField _ _ _) _ _ _)); lk)
  (with_unfolding_all show wpAny _ _ (setField (.ref it) 2 .none) _ _ _)
  refine wpAny_setField_rec hi (by simp) fun h₁ he₁ hs₁ => ?_
  repeat lk
  refine wpAny_handled ?_
  rw [show A.in1.handled = none from hh]
  repeat lk
  refine wpAny_throw ?_
  refine wpAny_bind (wpAny_isInstance (T := "StopIteration") (b := true) ⟨_, Heap.get?_push_size _ rfl, rfl⟩ isSubtype_stop ?_)
  exact wpAny_pure (h _ ((hs₁.extBut.push _).push _))
end
end Mine
end
section
open PySem PySem.W PyProof.Rows PyProof.V PySem.Calls PySem.Spec Builtin Builtin.ObjectAttr
set_option Elab.async false
set_option maxRecDepth 100000
set_option maxHeartbeats 3000000
namespace Mine
section
variable {prog : Program} {w : World} {A : Around} {E : Value → Shared → Prop} {s : Shared} {h₀ : Heap} {L x dx q vw it d : Addr} {m : Str → Option Value} {news : List (Addr × Obj)} {es : Array DictEntry} {n : Nat} 
  {K : Type} [DecidableEq K] {knd : KeyKind prog w K} {kvs : List (K × Value)} {k : K} {key v : Value} {ep i : Nat} {ok ov : Value} {env : Env} {body : List Stmt} {Q : Flow → Shared → Prop}
theorem DatAt.at {h h' : Heap} (D : DatAt knd h d kvs ep) (e : ∀ o, h.get? d = some o → h'.get? d = some o) : DatAt knd h' d kvs ep := let ⟨o, es, ho, r⟩ := D; ⟨o, es, e o ho, r⟩
theorem cnt_turns {elts : List Expr} {kk : Nat} {pos : Pos} (hh : A.handled = none) (I d : Addr) (hne : d ≠ I) (kvs : List (K × Value)) (ep : Nat) :
    KTurns prog w A (.Tuple elts kk pos) I [I, d] [I] kvs.length
      (fun i v h => ∃ T key k x, v = .ref T ∧ kvs[i]? = some (k, x) ∧ knd.is k key = true ∧ h.IsTuple T #[key, x])
      (fun i v h => ∃ T key k x ok ov, v = .ref T ∧ kvs[i]? = some (k, x) ∧ knd.is k key = true ∧ h.IsTuple T #[key, x] ∧ h.get? I = some (itm d (i + 1) kvs.length ep (rawInt T) false ok ov) ∧ DatAt knd h d kvs ep ∧ T ≠ I)
      (fun i h => (∃ ok ov, h.get? I = some (itm d i kvs.length ep .none false ok ov)) ∧ DatAt knd h d kvs ep) where
  sub := fun b hb => by simp at hb; simp [hb]
  frame := fun i h h' st hk => ⟨let ⟨ok, ov, he⟩ := st.1; ⟨ok, ov, hk I (by simp) _ he⟩, st.2.at (hk d (by simp))⟩
  item := fun i s Q E hi st hQ => by
    obtain ⟨⟨ok, ov, he⟩, hm⟩ := st
    obtain ⟨⟨k, x⟩, hx⟩ : ∃ p, kvs[i]? = some p := ⟨kvs[i], by simp [hi]⟩
    refine it_next0 he hm hx fun key h' hkey ho hT hsz hk => ?_
    exact hQ (.ref s.heap.objs.size) h' s.toks ⟨s.heap.objs.size, key, k, x, key, x, rfl, hx, hkey, ⟨_, hT, rfl, _, rfl⟩, ho, hm.at (fun o e => hk d o hne e), Nat.ne_of_gt (Heap.lt_size he)⟩ fun b o hb e => hk b o (fun h => hb (by simp [h])) e
  go := fun i v s Q E hm hQ => by
    obtain ⟨T, key, k, x, ok, ov, rfl, hx, hkey, hT, ho, hd, hTI⟩ := hm
    refine wpAny_letOwnedTupleGo_items ho fun h' he hs => ?_
    exact hQ h' ⟨T, key, k, x, rfl, hx, hkey, hT.at fun o e => hs.extBut T o hTI e⟩ ⟨⟨ok, ov, he⟩, hd.at fun o e => hs.extBut d o hne e⟩ fun b o hb e => hs.extBut b o (fun h => hb (by simp [h])) e
  done := fun s Q E st hQ => by
    obtain ⟨⟨ok, ov, he⟩, hm⟩ := st
    exact it_end hh he hm (by simp) fun h' hx => hQ h' s.toks fun b o hb e => hx b o (fun h => hb (by simp [h])) e
end
end Mine
end
section
open PySem PySem.W PyProof.Rows PyProof.V PySem.Calls PySem.Spec Builtin Builtin.ObjectAttr
set_option Elab.async false
set_option maxRecDepth 100000
set_option maxHeartbeats 3000000
namespace Mine
theorem fill12 : PySem.Challenge.rw_dn0005_07 = PySem.Challenge.rw_dn0005_07 ∧ Mine.hd07.heap_39 = Mine.hd07.heap_39 := by
  k_fill
  exact ⟨rfl, rfl⟩
theorem ne_cls {h₀ h : Heap} {L x : Addr} {o : Obj} {news : List (Addr × Obj)} {p : Addr × Obj} (N : News h₀ L h news) (hm : (x, o) ∈ news) (hp : p ∈ news) (hc : p.2.cls ≠ o.cls) : p.1 ≠ x := by
  intro e
  have a := (N _ hm).1
  have b := (N _ hp).1
  rw [e] at b
  dsimp only at a
  rw [a] at b
  exact hc (congrArg Obj.cls (Option.some.inj b)).symm
section
variable {prog : Program} {w : World} {A : Around} {E : Value → Shared → Prop} {s : Shared} {h₀ : Heap} {L x dx q : Addr} {m : Str → Option Value} {news l : List (Addr × Obj)} {es : Array DictEntry} {n : Nat} {kvs : List (Str × Value)} {cs : List (Str × Int)} {k : Str} {u t0 : Tok} {c : Int}
abbrev iview (d : Addr) : Obj := { cls := .type "dict_items", data := .fields #[.ref d] }
theorem cnt_items_K {Q : Value → Shared → Prop} (F : Fr h₀ L s.heap m) (X₀ : (Mine.hd07.heap_39 w.params).In h₀) (N : News h₀ L s.heap news) (hm : (x, cnt es n dx) ∈ news) (hdx : (dx, dictOf [] 0) ∈ news) (hs : (x == sysModules) = false)
    (h : ∀ v h', Fr h₀ L h' m → News h₀ L h' ((v, iview x) :: news) → (∀ p ∈ news, p.1 < v) → Q (.ref v) { s with heap := h' }) : wpAny (model prog w) A (call (.builtin "dict.items") [.ref x]) Q E s :=
  cnt_items F X₀ N hm hdx hs (h _ _ (F.push _) (N.push F _) fun p hp => Heap.lt_size (N p hp).1)
def BmAt (q : Addr) (id : String) (x : Addr) (h : Heap) : Prop := h.get? q = some (bm id x)
theorem bm_of {id : String} {h : Heap} (N : News h₀ L h news) (hq : (q, bm id x) ∈ news) : BmAt q id x h := (N _ hq).1
theorem keeps_B {M : Model} {id : String} (h : Heap) (X : BmAt q id x h) : ∃ k, (k = Keeper.frame ∨ k = Keeper.machine ∨ k = Keeper.boundFrame) ∧ Looks M h (keeperOf (.ref q)) k :=
  ⟨.machine, .inr (.inl rfl), (Looks.ld (part := none) X).andThen .now⟩
theorem callWith_B {M : Model} {id : String} {first : List Value} {pos : Pos} {env : Env} {e : Expr} {rest : List Expr} {Q : Value → Shared → Prop} (_N : News h₀ L s.heap news) (_q : (q, bm id x) ∈ news)
    (h : wpAny M A (spliced (backTo pos (starEach (e :: rest) env))) (fun vs s₁ => BmAt q id x s₁.heap ∧ wpAny M A (call (.ref q) (first ++ vs)) Q E s₁) E s)
    (he : starEach (e :: rest) env = (false, eval e env) :: starEach rest env := by rfl) (hplain : (backTo pos (starEach rest env)).any (·.1) = false := by rfl) :
    wpAny M A (callWith pos (.ref q) first (backTo pos (starEach (e :: rest) env)) []) Q E s := by
  rw [he] at h ⊢
  exact callWith_of (by show ((false || (backTo pos (starEach rest env)).any (·.1)) || false) = false; rw [hplain]; rfl) keeps_B (evalArgs_plain h)
theorem isDict_DIs {o : Obj} (hc : o.IsDictOf (strKind prog w) kvs) : ∃ es n, o.data = .dict es n ∧ DIs (strKind prog w) es kvs := by
  obtain ⟨es, n, _, a, b, c, d⟩ := hc
  exact ⟨es, n, a, b, c, d⟩
theorem fr_fun {h : Heap} {m m' : Str → Option Value} (F : Fr h₀ L h m) (e : ∀ y, m y = m' y) : Fr h₀ L h m' := by
  have : m = m' := funext e
  exact this ▸ F
end
section
variable {prog : Program} {w : World} {A : Around} {E : Value → Shared → Prop} {s : Shared} {env : Env} {h₀ : Heap} {target : Expr} {body : List Stmt} {Q : Flow → Shared → Prop} {ws : List (Addr × String)} {keep : List (Addr × Obj)}
theorem allObj_mono : ∀ {ws : List (Addr × String)} {k k' : List (Addr × Obj) → Prop}, (∀ its, k its → k' its) → AllObj ws k → AllObj ws k'
  | [], _, _, h, a => h [] a
  | w :: _, _, _, h, a => fun o ho => allObj_mono (fun its => h ((w.1, o) :: its)) (a o ho)
end
theorem subL_of : ∀ {l all : List (Addr × Obj)}, (∀ p ∈ l, p ∈ all) → SubL l all
  | [], _, _ => trivial
  | p :: _, _, h => ⟨h p (.head _), subL_of fun q hq => h q (.tail _ hq)⟩
end Mine
end
section
open PySem PySem.W PyProof.Rows PyProof.V PySem.Calls PySem.Spec Builtin Builtin.ObjectAttr
set_option Elab.async false
set_option maxRecDepth 100000
set_option maxHeartbeats 3000000
namespace Mine
theorem fill13 : PySem.Challenge.rw_dn0005_07 = PySem.Challenge.rw_dn0005_07 ∧ Mine.hd07.heap_39 = Mine.hd07.heap_39 := by
  k_fill
  exact ⟨rfl, rfl⟩
section
variable {prog : Program} {w : World} {A A₀ : Around} {s : Shared} {K : Frag} {L : Addr} {h₀ base : Heap} {m mg mb : Str → Option Value} {news : List (Addr × Obj)} {p : Program} {loose : List Str} {mean : ExcName → Option Value}
/-- a function's frame, with the activation known: for super() -/
theorem frame_at {E : Value → Shared → Prop} {R : Result → Shared → Prop} {env : Env} {outer : List Env} {qual : Str} {scope : Scope} {cl : List (Str × Addr)} {binds : List (Str × Value)} {body : List Stmt} {f : Addr} {cdv : Value}
    (B : Below A₀ base outer h₀) (F : Fr h₀ L s.heap m) (N : News h₀ L s.heap news) (hlim : h₀.NoLimit) (hA : A.frames = some (env :: outer)) (hf : env.frame = some L) (hke : env.scope.kind = .function)
    (hloc : ∀ y ∈ binds, scope.names.lookup y.1 = some .local)
    (h : ∀ g L' h₁, Fr h₀ L g m → Fr g L' h₁ (fun y => binds.reverse.lookup y) → News g L' h₁ news → Below A base (env :: outer) g → h₀.StaysIn g →
      _root_.PySem.wpAt (model prog w) (A.deeper (envX qual scope L' f cdv cl)) (.func body (envX qual scope L' f cdv cl)) (execs body (envX qual scope L' f cdv cl))
        (fun fl s' => LeaveK h₀ L m g R (match fl with | .ret v => v | _ => .none) s')
        (fun e s' => wpAny (model prog w) (A.deeper (envX qual scope L' f cdv cl)) (leaving (envX qual scope L' f cdv cl) e) (fun _ s'' => R (.error e) s'') (fun e' s'' => R (.error e') s'') s')
        { s with heap := h₁, toks := s.toks + binds.length })
    (hcell : ∀ x ∈ scope.names, x.2 ≠ .cell) (hk : scope.kind = .function) :
    wpAny (model prog w) A.in1 (newFunctionEnv scope mainGlobals cl binds (qual ++ ".<locals>.") (some f) cdv none builtinsNs) (fun env' s₂ => s₂.heap.NoLimit ∧ codeAny (model prog w) A (.func body env') R s₂) E s := by
  obtain ⟨FG, BG, st, lv⟩ := groundX (R := R) B F N hA hf hke
  refine wpAny_newFunctionEnv hcell hloc (fun h₁ hns hsb => ⟨(hlim.keeps F.keep).fresh _ hsb, ks_codeAny_funcAt ?_⟩) hk
  have kp : ∀ b o, s.heap.get? b = some o → h₁.get? b = some o := fun b o e => hsb.extBut b o (Nat.ne_of_lt (Heap.lt_size e)) (Heap.get?_push_of_some _ e)
  refine ks_wpAt_mono (h _ s.heap.objs.size h₁ FG ⟨hns, fun b o e => kp b o (of_hideAll _ e), Nat.le_of_eq (hideAll_size _ _)⟩
    (fun p hp => ⟨kp _ _ (N p hp).1, Nat.ne_of_lt (Heap.lt_size (N p hp).1), hideAll_none _ (List.mem_map_of_mem hp)⟩) BG st) (fun fl s' hl => lv _ _ hl) fun _ _ y => y
theorem more_at {env : Env} {outer : List Env} {R : Result → Shared → Prop} {name qual : Str} {params : Arguments} {body : List Stmt} {scope : Scope} {cl : List (Str × Addr)} {dV kV doc pm cdv ct oc : Value} {an od : Option Addr} {osl : Array (Option Value)} {f : Addr} {args : Args} {nm : Str} {ex front : List (Str × Value)} {g₁ : Addr → Sem (List (Str × Value))}
    (B : Below A₀ base outer h₀) (F : Fr h₀ L s.heap m) (X₀ : K.In h₀) (N : News h₀ L s.heap news) (T : Top p loose mean mg mb h₀) (hA : A.frames = some (env :: outer)) (hf : env.frame = some L) (hke : env.scope.kind = .function)
    (ho : K.lookup f = some ⟨oc, od, .func (fnX name qual params body scope cl dV kV doc pm an cdv ct), osl⟩) (hcd : codeIn K cdv qual = true) (hroom : A.depth < recursionLimit)
    (hx : args.kw.filter (fun x => !ownKw params x.1) = ex) (hnm : params.kwarg.map (·.arg) = some nm) (hn : (ex.map (·.1)).Nodup)
    (hfr : peek K ⟨prog, w.params⟩ (bindArgs (fnCut (fnX name qual params body scope cl dV kV doc pm an cdv ct)) (argsCut params args)) = some front)
    (hp : peekA K ⟨prog, w.params⟩ (bindArgs (fnX name qual params body scope cl dV kV doc pm an cdv ct) args) = some (dictOf [] 0, g₁))
    (hk₁ : ∀ D, g₁ D = (forIn ex PUnit.unit (fun x _ => (nsSet D x.1 x.2 >>= fun _ => pure (ForInStep.yield PUnit.unit))) >>= fun _ => pure (front ++ [(nm, Value.ref D)])))
    (hloc : ∀ D, ∀ y ∈ front ++ [(nm, Value.ref D)], scope.names.lookup y.1 = some .local)
    (h : ∀ D o g L' h₁ tk, (∀ p ∈ news, p.1 < D) → (D == sysModules) = false → o.IsDictOf (PySem.strKind prog w) ex → Fr h₀ L g m → Fr g L' h₁ (fun y => (front ++ [(nm, Value.ref D)]).reverse.lookup y) → News g L' h₁ ((D, o) :: news) → Below A base (env :: outer) g → K.In g → Top p loose mean mg mb g →
      _root_.PySem.wpAt (model prog w) (A.deeper (envX qual scope L' f cdv cl)) (.func body (envX qual scope L' f cdv cl)) (execs body (envX qual scope L' f cdv cl))
        (fun fl s' => LeaveK h₀ L m g R (match fl with | .ret v => v | _ => .none) s')
        (fun e s' => wpAny (model prog w) (A.deeper (envX qual scope L' f cdv cl)) (leaving (envX qual scope L' f cdv cl) e) (fun _ s'' => R (.error e) s'') (fun e' s'' => R (.error e') s'') s')
        { s with heap := h₁, toks := tk })
    (hco : scope.isCoroutine = false) (hgen : scope.isGenerator = false) (hk : scope.kind = .function)
    (hcell : ∀ x ∈ scope.names, x.2 ≠ .cell) : codeAny (model prog w) A (.call (.ref f) args) R s := by
  have _ := hx
  have _ := hnm
  have _ := hfr
  refine codeAny_call_function (fd := fnX name qual params body scope cl dV kV doc pm an cdv ct) (body := body) hroom ((X₀.keeps F.keep) _ _ ho) rfl hco hgen rfl (codeRec_of (X₀.keeps F.keep) hcd) ?_
  refine wp_of_peekA (o := dictOf [] 0) F N (X₀.keeps F.keep) rfl _ g₁ hp fun h' F' N' l => ?_
  rw [hk₁]
  refine wpAny_bind (kp_fill ex { s with heap := h' } [] 0 F' N' (fun p hp => Nat.ne_of_lt (l p hp)) (fun _ he => nomatch he) (fun _ he => nomatch he) hn fun h'' F'' N'' => wpAny_pure ?_)
  exact frame_at (cl := cl) (s := { s with heap := h'', toks := s.toks + ex.length }) B F'' N'' T.nolimit hA hf hke (hloc _)
    (fun g L' h₁ FG FL NG BG st => h _ _ g L' h₁ _ l (F.notModules (modules_low T.nolimit)) (kp_isDict s.toks (0 + ex.length) hn) FG FL NG BG (X₀.keeps st) (T.keeps st)) hcell hk
end
end Mine
end
section
open PySem PySem.W PyProof.Rows PyProof.V PySem.Calls PySem.Spec Builtin Builtin.ObjectAttr
set_option Elab.async false
set_option maxRecDepth 100000
set_option maxHeartbeats 3000000
namespace Mine
theorem fill15 : PySem.Challenge.rw_dn0005_07 = PySem.Challenge.rw_dn0005_07 ∧ Mine.hd07.heap_39 = Mine.hd07.heap_39 := by
  k_fill
  exact ⟨rfl, rfl⟩
section
variable {prog : Program} {w : World} {M : Model} {A : Around} {E : Value → Shared → Prop} {h : Heap} {g : Array GenState} {d : Drawn} {t : Nat} {os : OsState} {so D x C : Addr} {l₀ l : List Value} {K : Frag} {name : Str} {o : Obj} {id G tn : String}
theorem super_ga {tk : Tok} {Q : Fin → Shared → Prop}
    (hso : h.get? so = some (ks_superObj D x C)) (hno : Looks (model prog w) h (opaqueClassAbove (.ref C)) none)
    (hC : Looks (model prog w) h (mroOf (.ref C)) l₀) (hl : (l₀.dropWhile (· != .ref D)).drop 1 = l) (X : K.In h)
    (hf : alongIn K name l = some (some (.builtin id))) (ht : typeOf (.builtin id) = pure (.type tn)) (hg : typeLookup (.type tn) "__get__" = pure (some (.builtin G))) (hxC : x ≠ C) (hn : (name == ("__class__" : Str)) = false)
    (hget : ∀ A, wpAny (model prog w) A (call (.builtin G) [.builtin id, .ref x, .ref C] []) (fun v s' => v = .ref h.objs.size ∧ s' = ⟨h.push o, g, d, t, os⟩) (fun _ _ => False) ⟨h, g, d, t, os⟩)
    (hq : Q (.done (.ret (.ref h.objs.size))) ⟨h.push o, g, d, t, os⟩) :
    wpAny (model prog w) A (Builtin.«super.__getattribute__» ⟨[.ref so, .str name tk], []⟩) Q E ⟨h, g, d, t, os⟩ := by
  have hne : (Value.ref x == Value.ref C) = false := by simp [hxC]
  unfold Builtin.«super.__getattribute__»
  repeat ((fail_if_success (with_reducible show wpAny _ _ (notOfAnOpaqueClass _ _ _) _ _ _)); lk)
  rw [if_neg (by rw [hn]; exact Bool.false_ne_true)]
  refine wpAny_bind (ks_wpAny_notOpaque (C := C) hno ?_)
  rw [if_neg (by exact Bool.false_ne_true)]
  refine wpAny_bind (Looks.at hC ?_)
  (show wpAny _ _ (forIn (List.drop 1 (List.dropWhile (fun x_1 => x_1 != Value.ref D) l₀)) _ _ >>= _) _ _ _)
  rw [hl]
  refine wpAny_bind (ks_forIn_along X (fun _ _ => rfl) rfl ?_ hf)
  dsimp only
  refine wpAny_bind (wpAny_of_eq ht (wpAny_bind (wpAny_of_eq hg ?_)))
  dsimp only
  rw [if_neg (by show ¬ ((Value.ref x == Value.ref C) = true); rw [hne]; exact Bool.false_ne_true)]
  refine wpAny_bind (wpAny_holding (wpAny_mono (hget _) (fun v s' hv => ?_) fun _ _ z => z.elim))
  obtain ⟨rfl, rfl⟩ := hv
  repeat lk
  exact hq
theorem super_method {pl : Sem Bool} {Q : Value × List Value → Shared → Prop}
    (hso : h.get? so = some (ks_superObj D x C)) (hno : Looks (model prog w) h (opaqueClassAbove (.ref C)) none)
    (hC : Looks (model prog w) h (mroOf (.ref C)) l₀) (hl : (l₀.dropWhile (· != .ref D)).drop 1 = l) (X : K.In h)
    (hf : alongIn K name l = some (some (.builtin id))) (ht : typeOf (.builtin id) = pure (.type tn)) (hg : typeLookup (.type tn) "__get__" = pure (some (.builtin G))) (hxC : x ≠ C) (hn : (name == ("__class__" : Str)) = false)
    (hget : ∀ A, wpAny (model prog w) A (call (.builtin G) [.builtin id, .ref x, .ref C] []) (fun v s' => v = .ref h.objs.size ∧ s' = ⟨h.push o, g, d, t + 1, os⟩) (fun _ _ => False) ⟨h, g, d, t + 1, os⟩)
    (hq : Q (.ref h.objs.size, []) ⟨h.push o, g, d, t + 1, os⟩) : wpAny (model prog w) A (getMethod (.ref so) name pl) Q E ⟨h, g, d, t, os⟩ := by
  have hlk := F.ks_slot_super_ga.lookup
  have hT : ∀ t', (⟨h, g, d, t', os⟩ : Shared).TypeIs (.ref so) "super" := fun _ => ⟨_, hso, rfl⟩
  unfold getMethod
  refine wpAny_bind (wpAny_specialOf (hT _) hlk ?_)
  dsimp only
  rw [if_pos F.ks_canon_super_ga]
  unfold getAttr getAttrBy
  refine wpAny_bind (wpAny_bind (wpAny_mkText (wpAny_holding (wpAny_bind (wpAny_typeOf (hT _) (wpAny_bind (wpAny_of_eq hlk ?_)))))))
  (show wpAny _ _ (getAttrByItsOwn (.ref so) (.str name t) (.type "super") (.builtin "super.__getattribute__") true false) _ _ _)
  unfold getAttrByItsOwn hookBefore callGetattribute boundAndCalled
  refine wpAny_bind (wpAny_of_eq (show (if onTheHeap (.type "super") then typeLookup (.type "super") "__getattr__" else pure none) = pure none from rfl) ?_)
  refine wpAny_bind (wpAny_attempt (wpAny_holding ?_))
  (show wpAny _ _ (bindSpecial (.builtin "super.__getattribute__") (.ref so) >>= _) _ _ _)
  refine wpAny_bind (wpAny_of_eq (F.ks_slot_super_ga.bind _) ?_)
  refine wpAny_mono (Q := fun v s' => v = .ref h.objs.size ∧ s' = ⟨h.push o, g, d, t + 1, os⟩) (E := fun _ _ => False)
    (wpAny_call_entry F.ks_slot_super_ga (hT _) F.ks_entry_super_ga (super_ga hso hno hC hl X hf ht hg hxC hn hget ⟨_, rfl, rfl, rfl⟩) (F.ks_gaArgs_super _ _)) (fun v s' hv => ?_) fun _ _ z => z.elim
  obtain ⟨rfl, rfl⟩ := hv
  exact wpAny_pure (wpAny_pure hq)
end
end Mine
end
section
open PySem PySem.W PyProof.Rows PyProof.V PySem.Calls PySem.Spec Builtin Builtin.ObjectAttr
set_option Elab.async false
set_option maxRecDepth 100000
set_option maxHeartbeats 3000000
namespace Mine
theorem fill16 : PySem.Challenge.rw_dn0005_07 = PySem.Challenge.rw_dn0005_07 ∧ Mine.hd07.heap_39 = Mine.hd07.heap_39 := by
  k_fill
  exact ⟨rfl, rfl⟩
theorem slot_wd : Slot "wrapper_descriptor" "__get__" "wrapper_descriptor.__get__" :=
  .of (owner := "wrapper_descriptor") (n := "__get__") (by rw [typeLookup_type, builtinLookup_eq_fast]; kernel_rfl) (by decide +kernel) (by decide +kernel) (by decide +kernel)
    (by first | exact .inl (by decide +kernel) | exact .inr (by decide +kernel)) (by rw [isSubtype_type]; kernel_rfl)
theorem entry_wd : entryFor table "wrapper_descriptor.__get__" = some Builtin.«wrapper_descriptor.__get__» := entryFor_of_tree (by kernel_rfl)
theorem args_wd (a b c : Value) : argsOk "wrapper_descriptor.__get__" ⟨[a, b, c], []⟩ := by unfold argsOk; kernel_rfl
theorem upd_told : Manifest.toldItsClass.contains "dict.update" = false := by decide +kernel
theorem upd_type : typeOf (.builtin "dict.update") = pure (.type "method_descriptor") := by show builtinType _ = _; rw [builtinType_eq_fast]; kernel_rfl
theorem init_type : typeOf (.builtin "dict.__init__") = pure (.type "wrapper_descriptor") := by show builtinType _ = _; rw [builtinType_eq_fast]; kernel_rfl
theorem own_init : ".".intercalate ("dict.__init__".cutAt '.').dropLast = "dict" := by decide +kernel
theorem c_sup_upd (P : Params) : ks_superIn (Mine.hd07.heap_39 P) 1093 1093 (Str.ofString "update") = some (some (.builtin "dict.update")) := by ks_is
theorem c_sup_init (P : Params) : ks_superIn (Mine.hd07.heap_39 P) 1093 1093 (Str.ofString "__init__") = some (some (.builtin "dict.__init__")) := by ks_is
theorem c_third (P : Params) : nsIn (Mine.hd07.heap_39 P) cStatics "thirdparty.any" = some none := by k_is
section
variable {prog : Program} {w : World} {A : Around} {E : Value → Shared → Prop} {s : Shared} {K : Frag} {h₀ : Heap} {L x dx so : Addr} {m : Str → Option Value} {news : List (Addr × Obj)} {es : Array DictEntry} {n : Nat}
abbrev mw (id : String) (x : Addr) : Obj := { cls := .type "method-wrapper", data := .fields #[.builtin id, .ref x] }
theorem wd_get {x C : Addr} {ox : Obj} {od : Option Obj} {R : Result → Shared → Prop} 
    (I : InstAt s.heap x ox C od) (hi : Looks (model prog w) s.heap (isSubtype (.ref C) (.type "dict")) true)
    (h : R (.ok (.ret (.ref s.heap.objs.size))) { s with heap := s.heap.push (mw "dict.__init__" x) }) :
    codeAny (model prog w) A (.call (.builtin "wrapper_descriptor.__get__") ⟨[.builtin "dict.__init__", .ref x, .ref C], []⟩) R s := by
  obtain ⟨hh, g, d, t, os⟩ := s
  have hx := I.at_
  obtain ⟨c, dd, da, sl⟩ := ox
  have hc : c = .ref C := I.cls
  subst hc
  refine codeAny_call_builtin slot_wd.plain entry_wd (slot_wd.check _ _ _ _ _ _ _ _ init_type (args_wd _ _ _) ?_)
  unfold Builtin.«wrapper_descriptor.__get__»
  have hi' := hi
  rw [← own_init] at hi'
  repeat lk
  exact h
theorem super_K {id G tn : String} {name : Str} {o : Obj} {pl : Sem Bool} {Q : Value × List Value → Shared → Prop} (F : Fr h₀ L s.heap m) (X₀ : (Mine.hd07.heap_39 w.params).In h₀) (N : News h₀ L s.heap news) (hso : (so, ks_superObj 1093 x 1093) ∈ news) (hm : (x, cnt es n dx) ∈ news) (hdx : (dx, dictOf [] 0) ∈ news)
    (hm2 : ks_superIn (Mine.hd07.heap_39 w.params) 1093 1093 name = some (some (.builtin id))) (ht : typeOf (.builtin id) = pure (.type tn)) (hg : typeLookup (.type tn) "__get__" = pure (some (.builtin G))) (hn : (name == ("__class__" : Str)) = false)
    (hget : ∀ (A : Around) (s : Shared) (R : Result → Shared → Prop), InstAt s.heap x (cnt es n dx) 1093 (some (dictOf [] 0)) → Looks (model prog w) s.heap (isSubtype (.ref 1093) (.type "dict")) true → R (.ok (.ret (.ref s.heap.objs.size))) { s with heap := s.heap.push o } →
      codeAny (model prog w) A (.call (.builtin G) ⟨[.builtin id, .ref x, .ref 1093], []⟩) R s)
    (h : ∀ q h', Fr h₀ L h' m → News h₀ L h' ((q, o) :: news) → (∀ p ∈ news, p.1 < q) → Q (.ref q, []) { s with heap := h', toks := s.toks + 1 }) (hof : o.isFreed = false) : wpAny (model prog w) A (getMethod (.ref so) name pl) Q E s := by
  have X : (Mine.hd07.heap_39 w.params).In s.heap := X₀.keeps F.keep
  have I := inst_cnt N hm hdx
  obtain ⟨hh, g, d, t, os⟩ := s
  cases hc : clsIn (Mine.hd07.heap_39 w.params) 1093 with
  | none => unfold ks_superIn at hm2; rw [hc] at hm2; cases hm2
  | some cd =>
    unfold ks_superIn at hm2
    rw [hc] at hm2
    refine super_method (o := o) (N _ hso).1 (looks_opaque X (c_third _)) (l₀ := cd.mro) (fun A Q E s k q => wpAny_bind ((looks_clsIn X hc) A _ E s k (wpAny_pure q))) rfl X hm2 ht hg (ks_ne X I hc) hn (fun A => ?_) ?_
    · exact wpAny_call (hget A ⟨hh, g, d, t + 1, os⟩ _ I (looks_subIn X (c_sub _)) ⟨rfl, rfl⟩)
    · exact h _ _ (F.push _) (News.push (hfree := hof) F N _) fun p hp => Heap.lt_size (N p hp).1
theorem get_md : typeLookup (.type "method_descriptor") "__get__" = pure (some (.builtin "method_descriptor.__get__")) := slot_md.lookup
theorem get_wd : typeLookup (.type "wrapper_descriptor") "__get__" = pure (some (.builtin "wrapper_descriptor.__get__")) := slot_wd.lookup
theorem super_upd_K {pl : Sem Bool} {Q : Value × List Value → Shared → Prop} (F : Fr h₀ L s.heap m) (X₀ : (Mine.hd07.heap_39 w.params).In h₀) (N : News h₀ L s.heap news) (hso : (so, ks_superObj 1093 x 1093) ∈ news) (hm : (x, cnt es n dx) ∈ news) (hdx : (dx, dictOf [] 0) ∈ news)
    (h : ∀ q h', Fr h₀ L h' m → News h₀ L h' ((q, bm "dict.update" x) :: news) → (∀ p ∈ news, p.1 < q) → Q (.ref q, []) { s with heap := h', toks := s.toks + 1 }) : wpAny (model prog w) A (getMethod (.ref so) (Str.ofString "update") pl) Q E s :=
  super_K F X₀ N hso hm hdx (c_sup_upd _) upd_type get_md (by decide) (fun A s R I hi h => md_get (.inr rfl) upd_type upd_told I hi h) h rfl
theorem super_init_K {pl : Sem Bool} {Q : Value × List Value → Shared → Prop} (F : Fr h₀ L s.heap m) (X₀ : (Mine.hd07.heap_39 w.params).In h₀) (N : News h₀ L s.heap news) (hso : (so, ks_superObj 1093 x 1093) ∈ news) (hm : (x, cnt es n dx) ∈ news) (hdx : (dx, dictOf [] 0) ∈ news)
    (h : ∀ q h', Fr h₀ L h' m → News h₀ L h' ((q, mw "dict.__init__" x) :: news) → (∀ p ∈ news, p.1 < q) → Q (.ref q, []) { s with heap := h', toks := s.toks + 1 }) : wpAny (model prog w) A (getMethod (.ref so) (Str.ofString "__init__") pl) Q E s :=
  super_K F X₀ N hso hm hdx (c_sup_init _) init_type get_wd (by decide) (fun A s R I hi h => wd_get I hi h) h rfl
end
end Mine
end
section
open PySem PySem.W PyProof.Rows PyProof.V PySem.Calls PySem.Spec Builtin Builtin.ObjectAttr
set_option Elab.async false
set_option maxRecDepth 100000
set_option maxHeartbeats 3000000
namespace Mine
theorem fill17 : PySem.Challenge.rw_dn0005_07 = PySem.Challenge.rw_dn0005_07 ∧ Mine.hd07.heap_39 = Mine.hd07.heap_39 := by
  k_fill
  exact ⟨rfl, rfl⟩
section
variable {prog : Program} {w : World} {K : Type} [DecidableEq K] {knd : KeyKind prog w K} {A : Around} {E : Value → Shared → Prop} {s : Shared} {d o : Addr} {od oo : Obj} {es es2 : Array DictEntry} {ep ep2 : Nat} {kvs more : List (K × Value)} {k : K} {key v : Value}
theorem dsetH {Q : Unit → Shared → Prop} (ho : s.heap.get? d = some od) (hd : od.data = .dict es ep) (D : DIs knd es kvs) (hkey : knd.is k key = true) (hsz : kvs.length ≤ sizeLine)
    (h : ∀ h' es' ep', DIs knd es' (stored kvs k v) → h'.get? d = some { od with data := .dict es' ep' } → Heap.SameBut d s.heap h' → Q () { s with heap := h' }) :
    wpAny (model prog w) A (dictSetHashed d key (knd.hash k) v) Q E s := by
  obtain ⟨oc, odd, oda, osl⟩ := od
  dsimp only at hd
  subst hd
  have hes : es.size ≤ sizeLine := by rw [D.size]; exact hsz
  unfold dictSetHashed
  refine wpAny_holding ?_
  refine wpAny_bind (wpAny_dictFind_of hkey ho rfl D.keys ?_)
  have hl : (es.toList.findIdx? fun e => knd.is k e.key) = es.findIdx? fun e => knd.is k e.key := by obtain ⟨l⟩ := es; simp
  have hidx : (es.findIdx? fun e => knd.is k e.key) = kvs.findIdx? fun kv => decide (kv.1 = k) := by rw [← hl, D.pairs.findIdx k]
  cases hi : es.findIdx? fun e => knd.is k e.key with
  | some i =>
    refine wpAny_bind (wpAny_rule (wpAny_bind (wpAny_updateDict ho rfl (wpAny_point (h _ (es.modify i fun e => { e with val := v }) ep ?_ (Heap.get?_update_self _ ho rfl) (Heap.SameBut.update ..))))))
    refine ⟨D.keys.modify _ _, ?_, ?_⟩
    · rw [stored, if_pos (any_of_findIdx_some (hidx ▸ hi))]
      have := D.pairs.modify D.nodup (hl.trans hi) v
      obtain ⟨l⟩ := es
      simpa using this
    · rw [stored, if_pos (any_of_findIdx_some (hidx ▸ hi)), keys_map_store]; exact D.nodup
  | none =>
    refine wpAny_bind (wpAny_rule (wpAny_updateDictKeys ho rfl (h _ (es.push ⟨knd.hash k, key, v⟩) (ep + 1) ?_ (Heap.get?_update_self _ ho rfl) (Heap.SameBut.update ..)) hes))
    have hno : (kvs.any fun kv => decide (kv.1 = k)) = false := by
      have h1 : (kvs.findIdx? fun kv => decide (kv.1 = k)) = none := hidx ▸ hi
      rw [List.findIdx?_eq_none_iff] at h1
      rw [List.any_eq_false]
      intro x hx
      simp [h1 x hx]
    refine ⟨D.keys.push hkey _, ?_, ?_⟩
    · rw [stored, if_neg (by rw [hno]; exact Bool.false_ne_true)]
      have := D.pairs.append hkey (knd.hash k) v
      obtain ⟨l⟩ := es
      simpa using this
    · rw [stored, if_neg (by rw [hno]; exact Bool.false_ne_true), List.map_append, List.nodup_append]
      refine ⟨D.nodup, by simp, ?_⟩
      intro a ha b hb e
      subst e
      obtain ⟨x, hx, rfl⟩ := List.mem_map.mp ha
      simp only [List.map_cons, List.map_nil, List.mem_singleton] at hb
      have := List.any_eq_false.mp hno x hx
      exact this (decide_eq_true hb)
/-- the entries of the object o laid into the object d, where there are few and their keys are texts -/
theorem merge_in {nm : String} {Q : Unit → Shared → Prop} (hdo : d ≠ o) (hoS : (o == sysModules) = false) (ho : s.heap.get? d = some od) (hd : od.data = .dict es ep) (D : DIs knd es kvs)
    (ho2 : s.heap.get? o = some oo) (hd2 : oo.data = .dict es2 ep2) (D2 : DIs knd es2 more) (hfew : (decide (es2.size ≤ 8) && es2.all fun e => (keyPart e.key).isSome) = true) (hsz : kvs.length + more.length ≤ sizeLine)
    (h : ∀ h' es' ep', DIs knd es' (merged kvs more) → h'.get? d = some { od with data := .dict es' ep' } → Heap.SameBut d s.heap h' → Q () { s with heap := h' }) :
    wpAny (model prog w) A (Builtin.Dict.mergeDict nm d o) Q E s := by
  unfold Builtin.Dict.mergeDict
  rw [if_neg (by simpa using hdo)]
  unfold Builtin.Dict.showsAll
  rw [if_neg (by rw [hoS]; exact Bool.false_ne_true)]
  refine wpAny_bind (wpAny_pure ?_)
  refine wpAny_bind (wpAny_dictEntries ho2 hd2 ?_)
  have hlen : more.length = es2.size := D2.size.symm
  dsimp only
  rw [hfew]
  simp only [Bool.not_true, Bool.false_eq_true, if_false]
  refine wpAny_bind (wpAny_dictEpoch ho2 hd2 ?_)
  refine wpAny_bind (wpAny_dictEntries ho2 hd2 ?_)
  rw [Std.Legacy.Range.forIn_eq_forIn_range']
  simp only [Std.Legacy.Range.size, Nat.sub_zero, Nat.add_sub_cancel, Nat.div_one]
  refine wpAny_bind ?_
  refine wpAny_forIn_list _ (fun rest _ s' => ∃ h' es' ep' i, s' = { s with heap := h' } ∧ rest = List.range' i (es2.size - i) ∧ i ≤ es2.size ∧ DIs knd es' (merged kvs (more.take i)) ∧ h'.get? d = some { od with data := .dict es' ep' } ∧ h'.get? o = some oo ∧ Heap.SameBut d s.heap h') _ ?_ ?_ _ _
    ⟨s.heap, es, ep, 0, rfl, by simp, Nat.zero_le _, by simpa [merged] using D, by rw [ho]; congr 1; obtain ⟨a, b, c, e⟩ := od; dsimp only at hd; subst hd; rfl, ho2, Heap.SameBut.refl _ _⟩
  · rintro x rest b s' ⟨h', es', ep', i, rfl, hr, hi, D', hd', ho', hs'⟩
    have hlt : i < es2.size := by
      rcases Nat.lt_or_ge i es2.size with q | q
      · exact q
      · rw [Nat.sub_eq_zero_of_le q] at hr; simp at hr
    obtain ⟨rfl, hrest⟩ : x = i ∧ rest = List.range' (i + 1) (es2.size - (i + 1)) := by
      have e : es2.size - i = (es2.size - (i + 1)) + 1 := by omega
      rw [e, List.range'_succ] at hr
      injection hr with h1 h2
      exact ⟨h1, h2⟩
    refine wpAny_bind (wpAny_dictEntries (s := { s with heap := h' }) ho' hd2 ?_)
    rw [Array.getElem?_eq_getElem hlt]
    obtain ⟨⟨k, v⟩, hkv⟩ : ∃ kv, more[x]? = some kv := ⟨more[x]'(by rw [hlen]; exact hlt), List.getElem?_eq_getElem _⟩
    obtain ⟨hkey, hval⟩ := D2.pairs.get? (e := es2[x]) (by simp [hlt]) hkv
    obtain ⟨k', hkey', hhash⟩ := D2.keys es2[x] (Array.getElem_mem hlt)
    obtain rfl : k' = k := knd.inj _ _ _ hkey' hkey
    dsimp only
    rw [hhash, hval]
    have hmx : (merged kvs (more.take x)).length ≤ sizeLine := by
      have e1 := merged_length_le kvs (more.take x)
      have e2 : (more.take x).length ≤ more.length := by rw [List.length_take]; omega
      omega
    refine wpAny_bind (wpAny_holding (dsetH (s := { s with heap := h' }) hd' rfl D' hkey hmx fun h'' es'' ep'' D'' hd'' hs'' => ?_))
    have hoo'' : h''.get? o = some oo := (hs''.2 o (Ne.symm hdo)).trans ho'
    refine wpAny_bind (wpAny_dictEpoch (s := { s with heap := h'' }) hoo'' hd2 ?_)
    rw [if_neg (by simp)]
    exact wpAny_pure ⟨h'', es'', ep'', x + 1, rfl, hrest, hlt, by rw [merged_take_succ kvs more x (k', v) hkv]; exact D'', hd'', hoo'', hs'.trans hs''⟩
  · rintro b s' ⟨h', es', ep', i, rfl, hr, hi, D', hd', ho', hs'⟩
    have hin : i = es2.size := by
      rcases Nat.lt_or_ge i es2.size with q | q
      · have e : es2.size - i = (es2.size - (i + 1)) + 1 := by omega
        rw [e, List.range'_succ] at hr; exact nomatch hr
      · exact Nat.le_antisymm hi q
    rw [hin, ← hlen, List.take_length] at D'
    exact wpAny_pure (h h' es' ep' D' hd' hs')
end
section
variable {prog : Program} {w : World} {A : Around} {E : Value → Shared → Prop} {s : Shared} {h₀ : Heap} {L x y dx dy q : Addr} {m : Str → Option Value} {news l : List (Addr × Obj)} {es es2 : Array DictEntry} {n n2 : Nat} {kvs more : List (Str × Value)}
theorem full_ne2 (a : String) : (a ++ toString "." ++ toString (Bind.lastOf "dict.update") != "*") = true := by
  rw [bne_iff_ne]
  show (a ++ "." ++ Bind.lastOf "dict.update") ≠ "*"
  intro h
  have h2 := congrArg String.length h
  rw [String.length_append, String.length_append] at h2
  have e1 : (Bind.lastOf "dict.update").length = 6 := by decide +kernel
  have e2 : ("." : String).length = 1 := by decide +kernel
  have e3 : ("*" : String).length = 1 := by decide +kernel
  omega
end
end Mine
end
section
open PySem PySem.W PyProof.Rows PyProof.V PySem.Calls PySem.Spec Builtin Builtin.ObjectAttr
set_option Elab.async false
set_option maxRecDepth 100000
set_option maxHeartbeats 3000000
namespace Mine
theorem fill18 : PySem.Challenge.rw_dn0005_07 = PySem.Challenge.rw_dn0005_07 ∧ Mine.hd07.heap_39 = Mine.hd07.heap_39 := by
  k_fill
  exact ⟨rfl, rfl⟩
section
variable {prog : Program} {w : World} {A A₀ : Around} {E : Value → Shared → Prop} {base h₀ : Heap} {outer : List Env} {env : Env} {L x dx y q : Addr} {m mg mb : Str → Option Value} {mean : ExcName → Option Value} {s : Shared} {news : List (Addr × Obj)} {o : Obj} {es : Array DictEntry} {n : Nat} {kvs kvs' ex : List (Str × Value)}
theorem dict_truthy_K {Q : Bool → Shared → Prop} (N : News h₀ L s.heap news) (hm : (y, o) ∈ news) (hc : o.IsDictOf (PySem.strKind prog w) ex) (hs : (y == sysModules) = false) (hl : ex.length ≤ 4000) (h : ∀ t, Q (!ex.isEmpty) { s with toks := t }) : wpAny (model prog w) A (truthy (.ref y)) Q E s :=
  wpAny_truthy_dict (knd := PySem.strKind prog w) hs ((Heap.dictOf_iff).mpr ⟨o, (N _ hm).1, hc⟩) (by omega) (h _)
end
end Mine
end
section
open PySem PySem.W PyProof.Rows PyProof.V PySem.Calls PySem.Spec Builtin Builtin.ObjectAttr
set_option Elab.async false
set_option maxRecDepth 100000
set_option maxHeartbeats 3000000
namespace Mine
section
variable {prog : Program} {w : World} {A : Around} {E : Value → Shared → Prop} {s : Shared} {d o : Addr} {od oo : Obj} {es es2 : Array DictEntry} {ep ep2 : Nat} {more : List (Str × Value)}
theorem DIs.none {es : Array DictEntry} (D : DIs (PySem.strKind prog w) es more) (h : more.length ≤ 0) : es = #[] ∧ more = [] := by
  have h1 := D.size
  have h2 : es.size = 0 := by omega
  exact ⟨Array.eq_empty_of_size_eq_zero h2, List.eq_nil_of_length_eq_zero (by omega)⟩
/-- an empty dict merged into a new one -/
theorem merge_kw {Q : Unit → Shared → Prop} (hoS : (o == sysModules) = false) (hd : s.heap.get? d = some { cls := .type "dict", data := .dict #[] })
    (hdict : oo.ExactDict) (ho2 : s.heap.get? o = some oo) (hd2 : oo.data = .dict es2 ep2) (D2 : DIs (PySem.strKind prog w) es2 more) (hsz : more.length ≤ 0)
    (h : Q () s) : wpAny (model prog w) A (mergeMapping d (.ref o) true) Q E s := by
  obtain ⟨hh, g, dr, t, os⟩ := s
  obtain ⟨oc, odd, oda, osl⟩ := oo
  obtain ⟨h1, h2, h3⟩ := hdict
  obtain ⟨e1, _⟩ := D2.none hsz
  dsimp only at h1 h2 h3 hd2 hd ho2
  subst h1 h2 h3 hd2 e1
  have L3 : Looks (model prog w) hh (typeLookup (.type "dict") (Str.ofString "__iter__")) (some (.builtin "dict.__iter__")) := Looks.of_pure F.slot_dict_iter.lookup
  unfold mergeMapping
  repeat ((fail_if_success (with_reducible show wpAny _ _ (forIn _ _ _) _ _ _)); lk)
  rw [if_neg (by rw [hoS]; exact Bool.false_ne_true)]
  repeat ((fail_if_success (with_reducible show wpAny _ _ (forIn _ _ _) _ _ _)); lk)
  rw [← Array.forIn_toList]
  refine wpAny_pure ?_
  refine wpAny_bind (wpAny_dictEntries ho2 rfl ?_)
  refine wpAny_bind (wpAny_dictEpoch ho2 rfl ?_)
  exact wpAny_bind (wpAny_pure (wpAny_pure h))
theorem keywords_in {f : Value} {Q : List (Str × Value) → Shared → Prop} (hd : s.heap.get? d = some od) (hda : od.data = .dict es ep) (D : DIs (PySem.strKind prog w) es more) (hsz : more.length ≤ 0) (h : Q more s) : wpAny (model prog w) A (keywordsIn f d) Q E s := by
  obtain ⟨rfl, rfl⟩ := D.none hsz
  unfold keywordsIn
  refine wpAny_bind (wpAny_dictEntries hd hda ?_)
  dsimp only
  refine wpAny_bind ?_
  rw [← Array.forIn_toList]
  exact wpAny_pure (wpAny_pure h)
end
section
variable {prog : Program} {w : World} {A : Around} {E : Value → Shared → Prop} {s : Shared} {d o : Addr} {es : Array DictEntry} {ep : Nat} {more : List (Str × Value)} {f : Value}
theorem merged_one {h₀ : Heap} {L : Addr} {m : Str → Option Value} {news : List (Addr × Obj)} {oo : Obj} {x : Sem Value} {Q : Addr → Shared → Prop} (F : Fr h₀ L s.heap m) (N : News h₀ L s.heap news) (ho : (o, oo) ∈ news) (hc : oo.IsDictOf (PySem.strKind prog w) more) (hoS : (o == sysModules) = false) (hsz : more.length ≤ 0)
    (hx : ∀ (s' : Shared) (Q : Value → Shared → Prop) (E : Value → Shared → Prop), Fr h₀ L s'.heap m → Q (.ref o) s' → wpAny (model prog w) A x Q E s')
    (h : ∀ d h' es' ep', DIs (PySem.strKind prog w) es' more → h'.get? d = some { cls := .type "dict", data := .dict es' ep' } → Fr h₀ L h' m → News h₀ L h' news → Q d { s with heap := h' }) :
    wpAny (model prog w) A (mergedKeywords f [(none, x)]) Q E s := by
  have hlt := Heap.lt_size (N _ ho).1
  unfold mergedKeywords
  refine wpAny_bind (wpAny_alloc ?_)
  refine wpAny_bind (wpAny_holding ?_)
  dsimp only
  refine wpAny_bind ?_
  rw [List.forIn_cons]
  refine wpAny_bind ?_
  dsimp only
  refine wpAny_bind (wpAny_pure ?_)
  have F1 := F.push { cls := .type "dict", data := .dict #[] }
  refine wpAny_bind (hx _ _ _ F1 ?_)
  refine wpAny_bind (wpAny_onRaise (wpAny_holding (wpAny_tryCatch (wpAny_onRaise ?_))))
  have N1 := N.push F { cls := .type "dict", data := .dict #[] }
  have D0 := (isDict_DIs hc).choose_spec.choose_spec.2
  obtain ⟨e1, rfl⟩ := D0.none hsz
  refine merge_kw (s := { s with heap := s.heap.push { cls := .type "dict", data := .dict #[] } }) hoS (Heap.get?_push_size _ rfl) hc.choose_spec.choose_spec.1 (N1 _ (.tail _ ho)).1 (isDict_DIs hc).choose_spec.choose_spec.1 D0 (Nat.le_refl _) ?_
  refine wpAny_pure ?_
  dsimp only
  refine wpAny_pure ?_
  refine wpAny_bind (wpAny_pure ?_)
  refine wpAny_pure (wpAny_pure ?_)
  exact h _ _ #[] 0 (e1 ▸ D0) (Heap.get?_push_size _ rfl) F1 fun p hp => N1 p (.tail _ hp)
/-- what the ** of a dict of texts leaves to be shown -/
def StarRest (prog : Program) (w : World) (A : Around) (h₀ : Heap) (L : Addr) (m : Str → Option Value) (env : Env) (x : Expr) (f : Value) (first vs : List Value) (Q : Value → Shared → Prop) (E : Value → Shared → Prop) (s₁ : Shared) : Prop :=
  ∃ o oo more news, Fr h₀ L s₁.heap m ∧ News h₀ L s₁.heap news ∧ (∀ h', Fr h₀ L h' m → News h₀ L h' news → ∃ k, (k = Keeper.frame ∨ k = Keeper.machine ∨ k = Keeper.boundFrame) ∧ Looks (model prog w) h' (keeperOf f) k) ∧ (o, oo) ∈ news ∧ oo.IsDictOf (PySem.strKind prog w) more ∧ (o == sysModules) = false ∧ more.length ≤ 0 ∧
    (∀ (s' : Shared) (Q : Value → Shared → Prop) (E : Value → Shared → Prop), Fr h₀ L s'.heap m → Q (.ref o) s' → wpAny (model prog w) A (eval x env) Q E s') ∧
    ∀ h' tk, Fr h₀ L h' m → News h₀ L h' news → wpAny (model prog w) A (call f (first ++ vs) more) Q E { s₁ with heap := h', toks := tk }
theorem callWith_star {h₀ : Heap} {L : Addr} {m : Str → Option Value} {env : Env} {e x : Expr} {first : List Value} {pos p2 : Pos} {Q : Value → Shared → Prop} (_F : Fr h₀ L s.heap m)
    (h : wpAny (model prog w) A (spliced (backTo pos (starEach [e] env))) (fun vs s₁ => StarRest prog w A h₀ L m env x f first vs Q E s₁) E s) (he : starEach [e] env = [(false, eval e env)] := by rfl) :
    wpAny (model prog w) A (callWith pos f first (backTo pos (starEach [e] env)) (backToKw pos (keywordEach [⟨none, x, p2⟩] env))) Q E s := by
  rw [he] at h ⊢
  unfold callWith evalArgs
  refine wpAny_bind (wpAny_holding ?_)
  refine wpAny_bind (wpAny_mono h (fun vs s₁ hs => ?_) fun _ _ z => z)
  obtain ⟨o, oo, more, news, F, N, hk, ho, hc, hoS, hsz, hx, k⟩ := hs
  refine wpAny_bind (wpAny_pure ?_)
  refine wpAny_holding ?_
  rw [if_neg (by exact Bool.false_ne_true)]
  refine wpAny_bind ?_
  show wpAny _ _ (mergedKeywords f [(none, do let v ← eval x env; standAt pos; pure v)]) _ _ _
  refine merged_one F N ho hc hoS hsz (fun s' Q E F' q => wpAny_bind (hx s' _ _ F' (wpAny_bind (wpAny_standAt (wpAny_pure q))))) fun d h' es' ep' D' hd' F' N' => ?_
  refine wpAny_bind (wpAny_pure ?_)
  refine wpAny_bind (wpAny_holding (keywords_in (s := { s₁ with heap := h' }) hd' rfl D' hsz ?_))
  refine wpAny_pure ?_
  refine wpAny_bind (wpAny_standAt ?_)
  dsimp only
  obtain ⟨kp, hkp, LK⟩ := hk h' F' N'
  refine wpAny_bind (LK.here ?_)
  have fin : wpAny (model prog w) A (call f (first ++ vs) more) (fun r s' => wpAny (model prog w) A (do holding [r] point; pure r) Q E s') E { s₁ with heap := h' } :=
    wpAny_mono (k h' s₁.toks F' N') (fun r s₂ hr => wpAny_bind (wpAny_holding (wpAny_point (wpAny_pure hr)))) fun _ _ x => x
  have hst : ((backTo pos [(false, eval e env)]).any (·.1) || (backToKw pos (keywordEach [⟨none, x, p2⟩] env)).any (·.1.isNone)) = true := rfl
  rw [hst]
  rcases hkp with rfl | rfl | rfl
  · exact wpAny_bind (Calls.wpAny_keep fin)
  · exact wpAny_bind (wpAny_operating fin)
  · exact wpAny_bind (wpAny_operating fin)
theorem methodCall_star {M : Model} {env : Env} {o x : Expr} {name : Str} {apos pos p2 : Pos} {args : List Expr} {Q : Value → Shared → Prop}
    (h : wpAny M A (eval o env) (fun ov s₁ => wpAny M A (getAttr ov name true) (fun v s₂ => wpAny M A (callWith pos v [] (backTo pos (starEach args env)) (backToKw pos (keywordEach [⟨none, x, p2⟩] env))) Q E s₂) E s₁) E s)
    (hf : methodCallForm (args.length + 1) (backTo pos (starEach args env)) (backToKw pos (keywordEach [⟨none, x, p2⟩] env)) = false := by rfl)
    (hb : attributeBase o name env (eval o env) = eval o env := by rfl)
    (he : eval (.Call (.Attribute o name apos) args [⟨none, x, p2⟩] pos) env = (attributeBase o name env (eval o env) >>= fun ov => standAt apos.atName >>= fun _ => methodCall o name apos pos env ov (args.length + 1) (backTo pos (starEach args env)) (backToKw pos (keywordEach [⟨none, x, p2⟩] env))) := by rfl) :
    wpAny M A (eval (.Call (.Attribute o name apos) args [⟨none, x, p2⟩] pos) env) Q E s := by
  rw [he, hb]
  refine wpAny_bind (wpAny_mono h (fun ov s₁ h₁ => wpAny_bind (wpAny_standAt ?_)) fun _ _ z => z)
  unfold methodCall calleeOf methodCallPos
  rw [hf]
  refine wpAny_bind (wpAny_holding (wpAny_bind (wpAny_mono h₁ (fun v s₂ h₂ => wpAny_pure ?_) fun _ _ z => z)))
  exact wpAny_bind (wpAny_pure h₂)
end
end Mine
end
section
open PySem PySem.W PyProof.Rows PyProof.V PySem.Calls PySem.Spec
set_option Elab.async false
set_option maxRecDepth 100000
set_option maxHeartbeats 3000000
namespace Mine
/-- an instance with two slots -/
abbrev two (C dx : Addr) (a b : Value) : Obj := { cls := .ref C, dict := some dx, data := .plain, slots := #[some a, some b] }
section
variable {prog : Program} {w : World} {A : Around} {E : Value → Shared → Prop} {s : Shared} {K : Frag} {x C L f : Addr} {h₀ : Heap} {m : Str → Option Value} {ox : Obj} {od : Option Obj}
theorem next_own {Q : Value → Shared → Prop} (F : Fr h₀ L s.heap m) (X₀ : K.In h₀) (I : InstAt s.heap x ox C od) (hs : findIn K (.ref C) (Str.ofString "__next__") = some (some (.ref f))) (hf : isFn K (.ref f) = true)
    (h : wpAny (model prog w) A.in1 (call (.ref f) [.ref x]) Q E s) : wpAny (model prog w) A (call (.builtin "next") [.ref x]) Q E s := by
  refine call_function_entry (by decide +kernel) (by decide +kernel) kdk_entry_next (kdk_args_next _) ?_
  unfold Builtin.«next»
  refine wpAny_bind (m := someArgs "next" 1 2 _) (wpAny_of_eq (a := [Value.ref x]) (by first | rfl | kernel_rfl!) ?_)
  dsimp only
  refine wpAny_bind (wpAny_bind (I.type.here ((looks_findIn (X₀.keeps F.keep) hs).here ?_)))
  refine wpAny_ite_split (fun hab => Bool.noConfusion (hab : false = true)) (fun _ => ?_)
  refine wpAny_bind (special_fn (name := Str.ofString "__next__") (args := []) (X₀.keeps F.keep) I hs (beq_iff_eq.mp hf) (wpAny_mono h (fun v s' hq => ?_) fun _ _ z => z))
  exact wpAny_pure ⟨_, rfl, hq⟩
end
end Mine
end
section
open PySem PySem.W PyProof.Rows PyProof.V PySem.Calls PySem.Spec Builtin Builtin.ObjectAttr
set_option compiler.extract_closed false
set_option Elab.async false
set_option maxRecDepth 100000
set_option maxHeartbeats 3000000
namespace Mine
section
variable {prog : Program} {w : World} {A : Around} {E : Value → Shared → Prop} {s : Shared} {h₀ : Heap} {L x dx q vw it d : Addr} {m : Str → Option Value} {news : List (Addr × Obj)} {es : Array DictEntry} {n : Nat} 
  {K : Type} [DecidableEq K] {knd : KeyKind prog w K} {kvs : List (K × Value)} {k : K} {key v : Value} {ep i : Nat} {ok ov : Value}
theorem sp_next0 {Q : Option Value → Shared → Prop} (hi : s.heap.get? it = some (itm d i kvs.length ep .none false ok ov)) (hd : DatAt knd s.heap d kvs ep) (hx : kvs[i]? = some (k, v))
   (h : ∀ key h', knd.is k key = true → h'.get? it = some (itm d (i + 1) kvs.length ep (rawInt s.heap.objs.size) false key v) → h'.get? s.heap.objs.size = some { cls := .type "tuple", data := .seq #[key, v] } → h'.objs.size = s.heap.objs.size + 1 → 
      (∀ b o, b ≠ it → s.heap.get? b = some o → h'.get? b = some o) → Q (some (.ref s.heap.objs.size)) { s with heap := h' }) :
   wpAny (model prog w) A (callSpecial? (.ref it) (Str.ofString "__next__")) Q E s := by
  obtain ⟨o, es, ho, hdat, D⟩ := hd
  obtain ⟨hh, g, dr, t, os⟩ := s
  obtain ⟨oc, od, oda, osl⟩ := o
  dsimp only at hdat ho hi
  have hi0 := hi
  subst hdat
  have hT : Shared.TypeIs ⟨hh, g, dr, t, os⟩ (.ref it) "dict_itemiterator" := ⟨_, hi, rfl⟩
  have hsz := D.size
  have hlt : i < kvs.length := by
    rcases Nat.lt_or_ge i kvs.length with h | h
    · exact h
    · simp [List.getElem?_eq_none h] at hx
  refine wpAny_callSpecial?_slot (name := Str.ofString "__next__") hT PySem.F.slot_dict_itemiterator_next
    (wpAny_call_entry PySem.F.slot_dict_itemiterator_next hT PySem.F.entry_dict_itemiterator_next ?_ (PySem.F.args_dict_itemiterator_next_1 _))
  unfold Builtin.«dict_itemiterator.__next__»
  repeat lk
  rw [if_neg (by rw [hsz]; simp)]
  repeat lk
  rw [if_neg (by simp)]
  repeat lk
  have hlt' : i < es.size := by rw [hsz]; exact hlt
  obtain ⟨hkey, hval⟩ := D.pairs.get? (e := es[i]) (by simp [hlt']) hx
  simp only [show ¬ ((i : Int) < 0) from by omega, if_false, Int.toNat_natCast, Array.getElem?_eq_getElem hlt']
  repeat ((fail_if_success (with_reducible show wpAny _ _ (setField _ _ _) _ _ _)); lk)
  (with_unfolding_all show wpAny _ _ (setField (.ref it) 3 (rawInt ((i : Int) + 1))) _ _ _)
  refine wpAny_setField_rec hi (by simp) fun h₁ he₁ hs₁ => ?_
  replace hs₁ : Heap.SameBut it hh h₁ := hs₁
  have he₁ : h₁.get? it = some (itm d (i + 1) kvs.length ep .none false ok ov) := by
    rw [he₁]
    rfl
  have hil : it < hh.objs.size := Heap.lt_size hi
  clear hi
  have hz₁ : h₁.objs.size = hh.objs.size := hs₁.1
  dsimp only
  repeat lk
  have he₂ : (h₁.push { cls := .type "tuple", data := .seq #[es[i].key, es[i].val] }).get? it = some (itm d (i + 1) kvs.length ep .none false ok ov) := Heap.get?_push_of_some _ he₁
  generalize hh₂ : h₁.push { cls := .type "tuple", data := .seq #[es[i].key, es[i].val] } = h₂ at he₂ ⊢
  have ht₂ : h₂.get? hh.objs.size = some { cls := .type "tuple", data := .seq #[es[i].key, es[i].val] } := by rw [← hh₂, ← hz₁]; exact Heap.get?_push_size _ rfl
  have hz₂ : h₂.objs.size = hh.objs.size + 1 := by rw [← hh₂, Heap.size_push, hz₁]
  have hk₂ : ∀ b o, b ≠ it → hh.get? b = some o → h₂.get? b = some o := fun b o hb e => by rw [← hh₂]; exact Heap.get?_push_of_some _ (hs₁.extBut b o hb e)
  rw [hz₁]
  clear hh₂ he₁ hs₁ hz₁
  repeat ((fail_if_success (with_reducible show wpAny _ _ (setField _ _ _) _ _ _)); lk)
  refine wpAny_setField_rec he₂ (by simp) fun h₃ he₃ hs₃ => ?_
  dsimp only
  refine wpAny_bind (wpAny_setField_rec he₃ (by simp) fun h₄ he₄ hs₄ => ?_)
  refine wpAny_bind (wpAny_setField_rec he₄ (by simp) fun h₅ he₅ hs₅ => ?_)
  refine wpAny_bind (wpAny_setField_rec he₅ (by simp) fun h₆ he₆ hs₆ => ?_)
  have step : ∀ {a b : Heap}, Heap.SameBut it a b → ∀ c o, c ≠ it → a.get? c = some o → b.get? c = some o := fun q c o hc e => q.extBut c o hc e
  have hk₆ : ∀ c o, c ≠ it → h₂.get? c = some o → h₆.get? c = some o := fun c o hc e => step hs₆ c o hc (step hs₅ c o hc (step hs₄ c o hc (step hs₃ c o hc e)))
  have hz₆ : h₆.objs.size = hh.objs.size + 1 := by rw [← hz₂]; exact hs₆.1.trans (hs₅.1.trans (hs₄.1.trans hs₃.1))
  refine wpAny_bind (wpAny_letGo (wpAny_pure (wpAny_pure ⟨_, rfl, ?_⟩)))
  refine h es[i].key h₆ hkey ?_ ?_ hz₆ fun b o hb e => hk₆ b o hb (hk₂ b o hb e)
  · rw [he₆, ← hval]
    rfl
  · rw [← hval]
    exact hk₆ _ _ (Nat.ne_of_gt hil) ht₂
theorem sp_next1 {a : Addr} {oa : Obj} {f : Bool} {Q : Option Value → Shared → Prop} (hi : s.heap.get? it = some (itm d i kvs.length ep (rawInt a) f ok ov)) (hal : s.heap.get? a = some oa) (hai : a ≠ it) (hd : DatAt knd s.heap d kvs ep) (hx : kvs[i]? = some (k, v))
   (h : ∀ key h', knd.is k key = true → h'.get? it = some (itm d (i + 1) kvs.length ep (rawInt a) true ok ov) → h'.get? s.heap.objs.size = some { cls := .type "tuple", data := .seq #[key, v] } → h'.objs.size = s.heap.objs.size + 1 → 
      (∀ b o, b ≠ it → s.heap.get? b = some o → h'.get? b = some o) → Q (some (.ref s.heap.objs.size)) { s with heap := h' }) :
   wpAny (model prog w) A (callSpecial? (.ref it) (Str.ofString "__next__")) Q E s := by
  obtain ⟨o, es, ho, hdat, D⟩ := hd
  obtain ⟨hh, g, dr, t, os⟩ := s
  obtain ⟨oc, od, oda, osl⟩ := o
  dsimp only at hdat ho hi hal
  subst hdat
  have hT : Shared.TypeIs ⟨hh, g, dr, t, os⟩ (.ref it) "dict_itemiterator" := ⟨_, hi, rfl⟩
  have hsz := D.size
  have hlt : i < kvs.length := by
    rcases Nat.lt_or_ge i kvs.length with h | h
    · exact h
    · simp [List.getElem?_eq_none h] at hx
  refine wpAny_callSpecial?_slot (name := Str.ofString "__next__") hT PySem.F.slot_dict_itemiterator_next
    (wpAny_call_entry PySem.F.slot_dict_itemiterator_next hT PySem.F.entry_dict_itemiterator_next ?_ (PySem.F.args_dict_itemiterator_next_1 _))
  unfold Builtin.«dict_itemiterator.__next__»
  repeat lk
  rw [if_neg (by rw [hsz]; simp)]
  repeat lk
  rw [if_neg (by simp)]
  repeat lk
  have hlt' : i < es.size := by rw [hsz]; exact hlt
  obtain ⟨hkey, hval⟩ := D.pairs.get? (e := es[i]) (by simp [hlt']) hx
  simp only [show ¬ ((i : Int) < 0) from by omega, if_false, Int.toNat_natCast, Array.getElem?_eq_getElem hlt']
  repeat ((fail_if_success (with_reducible show wpAny _ _ (setField _ _ _) _ _ _)); lk)
  (with_unfolding_all show wpAny _ _ (setField (.ref it) 3 (rawInt ((i : Int) + 1))) _ _ _)
  refine wpAny_setField_rec hi (by simp) fun h₁ he₁ hs₁ => ?_
  replace hs₁ : Heap.SameBut it hh h₁ := hs₁
  have he₁ : h₁.get? it = some (itm d (i + 1) kvs.length ep (rawInt a) f ok ov) := by
    rw [he₁]
    rfl
  have hil : it < hh.objs.size := Heap.lt_size hi
  clear hi
  have hz₁ : h₁.objs.size = hh.objs.size := hs₁.1
  dsimp only
  repeat lk
  have he₂ : (h₁.push { cls := .type "tuple", data := .seq #[es[i].key, es[i].val] }).get? it = some (itm d (i + 1) kvs.length ep (rawInt a) f ok ov) := Heap.get?_push_of_some _ he₁
  generalize hh₂ : h₁.push { cls := .type "tuple", data := .seq #[es[i].key, es[i].val] } = h₂ at he₂ ⊢
  have ht₂ : h₂.get? hh.objs.size = some { cls := .type "tuple", data := .seq #[es[i].key, es[i].val] } := by rw [← hh₂, ← hz₁]; exact Heap.get?_push_size _ rfl
  have hz₂ : h₂.objs.size = hh.objs.size + 1 := by rw [← hh₂, Heap.size_push, hz₁]
  have hk₂ : ∀ b o, b ≠ it → hh.get? b = some o → h₂.get? b = some o := fun b o hb e => by rw [← hh₂]; exact Heap.get?_push_of_some _ (hs₁.extBut b o hb e)
  have hal₂ := hk₂ a oa hai hal
  rw [hz₁]
  clear hh₂ he₁ hs₁ hz₁
  repeat ((fail_if_success (with_reducible show wpAny _ _ (setField _ _ _) _ _ _)); lk)
  have fin : ∀ h₃ : Heap, h₃.get? it = some (itm d (i + 1) kvs.length ep (rawInt a) true ok ov) → Heap.SameBut it h₂ h₃ → Q (some (.ref hh.objs.size)) ⟨h₃, g, dr, t, os⟩ := fun h₃ he₃ hs₃ =>
    h es[i].key h₃ hkey he₃ (by rw [← hval]; exact hs₃.extBut _ _ (Nat.ne_of_gt hil) ht₂) (by show h₃.objs.size = hh.objs.size + 1; rw [hs₃.1, hz₂]) fun b o hb e => hs₃.extBut b o hb (hk₂ b o hb e)
  rw [Int.toNat_natCast]
  refine look_alive (s := ⟨h₂, g, dr, t, os⟩) hal₂ ?_
  cases f with
  | true =>
    simp only [Option.isNone_some, Bool.false_eq_true, if_false]
    repeat lk
    exact ⟨_, rfl, fin h₂ he₂ (Heap.SameBut.refl _ _)⟩
  | false =>
    simp only [Option.isNone_some, Bool.false_eq_true, if_false]
    repeat ((fail_if_success (with_reducible show wpAny _ _ (setField _ _ _) _ _ _)); lk)
    refine wpAny_setField_rec he₂ (by simp) fun h₃ he₃ hs₃ => ?_
    repeat lk
    refine ⟨_, rfl, fin h₃ ?_ hs₃⟩
    rw [he₃]; rfl
theorem sp_end {a : Value} {f : Bool} {Q : Option Value → Shared → Prop} (hh : A.handled = none) (hi : s.heap.get? it = some (itm d i kvs.length ep a f ok ov)) (hd : DatAt knd s.heap d kvs ep) (hx : kvs[i]? = none)
   (h : ∀ h₁ h' e io', h₁.get? it = some io' → Heap.SameBut it s.heap h₁ → Heap.MadeExc h₁ h' e "StopIteration" [] → E (.ref e) { s with heap := h' }) : wpAny (model prog w) A (callSpecial? (.ref it) (Str.ofString "__next__")) Q E s := by
  obtain ⟨o, es, ho, hdat, D⟩ := hd
  obtain ⟨hp, g, dr, t, os⟩ := s
  obtain ⟨oc, od, oda, osl⟩ := o
  dsimp only at hdat ho hi
  subst hdat
  have hT : Shared.TypeIs ⟨hp, g, dr, t, os⟩ (.ref it) "dict_itemiterator" := ⟨_, hi, rfl⟩
  have hsz := D.size
  have hge : es.size ≤ i := by rw [hsz]; simpa using hx
  refine wpAny_callSpecial?_slot (name := Str.ofString "__next__") hT PySem.F.slot_dict_itemiterator_next
    (wpAny_call_entry PySem.F.slot_dict_itemiterator_next hT PySem.F.entry_dict_itemiterator_next ?_ (PySem.F.args_dict_itemiterator_next_1 _))
  unfold Builtin.«dict_itemiterator.__next__»
  repeat lk
  rw [if_neg (by rw [hsz]; simp)]
  repeat lk
  rw [if_neg (by simp)]
  repeat lk
  simp only [show ¬ ((i : Int) < 0) from by omega, if_false, Int.toNat_natCast, Array.getElem?_eq_none hge]
  repeat ((fail_if_success (with_reducible show wpAny _ _ (setField _ _ _) _ _ _)); lk)
  (with_unfolding_all show wpAny _ _ (setField (.ref it) 2 .none) _ _ _)
  refine wpAny_setField_rec hi (by simp) fun h₁ he₁ hs₁ => ?_
  repeat lk
  refine wpAny_handled ?_
  rw [show A.in1.handled = none from hh]
  repeat lk
  refine wpAny_throw ?_
  refine h h₁ _ _ _ he₁ hs₁ ⟨fun b o hb => Heap.get?_push_of_some _ (Heap.get?_push_of_some _ hb), Heap.get?_none_of_le (by rw [Heap.size_push]; exact Nat.le_succ _), h₁.objs.size, ?_, Heap.get?_none_of_le (Nat.le_refl _), ?_⟩
  · refine (Heap.get?_push_size _ (by rfl)).trans ?_
    with_unfolding_all rfl
  · exact Heap.get?_push_of_some _ (Heap.get?_push_size _ rfl)

/-- a tuple's object -/
abbrev TupO (o : Obj) : Prop := o.cls = .type "tuple" ∧ ∀ es n, o.data ≠ .dict es n
/-- the state of an iterator over items, told by its object and those beside it -/
def ItS (l : List (Addr × Obj)) (d : Addr) (i n ep : Nat) (io : Obj) : Prop :=
  (∃ ok ov, io = itm d i n ep .none false ok ov) ∨ ∃ (a : Addr) (oa : Obj) (f : Bool) (ok ov : Value), io = itm d i n ep (rawInt a) f ok ov ∧ (a, oa) ∈ l ∧ TupO oa
theorem ItS.sub {l l' : List (Addr × Obj)} {d : Addr} {i n ep : Nat} {io : Obj} (h : ItS l d i n ep io) (hs : ∀ p ∈ l, p ∈ l') : ItS l' d i n ep io := by
  rcases h with h | ⟨a, oa, f, ok, ov, e, hm, ht⟩
  · exact .inl h
  · exact .inr ⟨a, oa, f, ok, ov, e, hs _ hm, ht⟩
abbrev pairObj (x y : Value) : Obj := { cls := .type "tuple", data := .seq #[x, y] }
theorem next_special {Q : Value → Shared → Prop} {o : Obj} (hi : s.heap.get? it = some o) (hc : o.cls = .type "dict_itemiterator")
    (h : wpAny (model prog w) A.in1 (callSpecial? (.ref it) (Str.ofString "__next__")) (fun r s' => ∃ v, r = some v ∧ Q v s') E s) : wpAny (model prog w) A (call (.builtin "next") [.ref it]) Q E s := by
  have hT : s.TypeIs (.ref it) "dict_itemiterator" := ⟨_, hi, hc⟩
  refine call_function_entry (by decide +kernel) (by decide +kernel) kdk_entry_next (kdk_args_next _) ?_
  unfold Builtin.«next»
  refine wpAny_bind (m := someArgs "next" 1 2 _) (wpAny_of_eq (a := [Value.ref it]) (by first | rfl | kernel_rfl!) ?_)
  dsimp only
  refine wpAny_bind (wpAny_specialOf (name := Str.ofString "__next__") hT PySem.F.slot_dict_itemiterator_next.lookup ?_)
  refine wpAny_ite_split (fun hab => absurd hab (by decide)) (fun _ => ?_)
  refine wpAny_bind (wpAny_mono h (fun r s' hr => ?_) fun _ _ z => z)
  obtain ⟨v, rfl, hv⟩ := hr
  exact wpAny_pure ⟨_, rfl, hv⟩
theorem next_items_K {Q : Value → Shared → Prop} {io : Obj} {l rl : List (Addr × Obj)} (F : Fr h₀ L s.heap m) (N : News h₀ L s.heap ((it, io) :: l)) (hl : ∀ p ∈ l, p.1 ≠ it) (S : ItS rl d i kvs.length ep io) (hrl : ∀ p ∈ rl, p ∈ l) (hd : DatAt knd s.heap d kvs ep) (hx : kvs[i]? = some (k, v))
    (h : ∀ T key io' h', knd.is k key = true → Fr h₀ L h' m → News h₀ L h' ((T, pairObj key v) :: (it, io') :: l) → AllLt T ((it, io) :: l) → ItS ((T, pairObj key v) :: rl) d (i + 1) kvs.length ep io' → Q (.ref T) { s with heap := h' }) :
    wpAny (model prog w) A (call (.builtin "next") [.ref it]) Q E s := by
  have hit := N _ (.head _)
  have lt : ∀ p ∈ (it, io) :: l, p.1 < s.heap.objs.size := fun p hp => Heap.lt_size (N p hp).1
  have base : ∀ (h' : Heap) (key : Value) (io' : Obj), h'.get? it = some io' → h'.get? s.heap.objs.size = some (pairObj key v) → h'.objs.size = s.heap.objs.size + 1 → (∀ b o, b ≠ it → s.heap.get? b = some o → h'.get? b = some o) →
      Fr h₀ L h' m ∧ News h₀ L h' ((s.heap.objs.size, pairObj key v) :: (it, io') :: l) := fun h' key io' e1 e2 e3 e4 => by
    obtain ⟨oL, a1, a2, hoL, a3⟩ := F.ns
    have hLs : s.heap.objs.size ≠ L := Nat.ne_of_gt (Heap.lt_size hoL)
    have hn : h₀.get? s.heap.objs.size = none := by
      cases q : h₀.get? s.heap.objs.size with
      | none => rfl
      | some o => exact absurd (Heap.lt_size (F.keep _ _ q)) (Nat.lt_irrefl _)
    refine ⟨⟨⟨oL, a1, a2, e4 L _ hit.2.1.symm hoL, a3⟩, fun b o e => e4 b o (fun q => ?_) (F.keep b o e), F.above⟩, fun p hp => ?_⟩
    · rw [q, hit.2.2] at e
      cases e
    · rcases List.mem_cons.mp hp with rfl | hp
      · exact ⟨e2, hLs, hn⟩
      · rcases List.mem_cons.mp hp with rfl | hp
        · exact ⟨e1, hit.2⟩
        · have z := N _ (.tail _ hp)
          exact ⟨e4 _ _ (hl p hp) z.1, z.2⟩
  rcases S with ⟨ok, ov, rfl⟩ | ⟨a, oa, f, ok, ov, rfl, hal, hat⟩
  · refine next_special hit.1 rfl (sp_next0 hit.1 hd hx fun key h' hk e1 e2 e3 e4 => ⟨_, rfl, ?_⟩)
    obtain ⟨F', N'⟩ := base h' key _ e1 e2 e3 e4
    exact h _ key _ h' hk F' N' (allLt_of lt) (.inr ⟨s.heap.objs.size, _, _, _, _, rfl, .head _, rfl, fun _ _ e => by cases e⟩)
  · refine next_special hit.1 rfl (sp_next1 hit.1 (N _ (.tail _ (hrl _ hal))).1 (hl _ (hrl _ hal)) hd hx fun key h' hk e1 e2 e3 e4 => ⟨_, rfl, ?_⟩)
    obtain ⟨F', N'⟩ := base h' key _ e1 e2 e3 e4
    exact h _ key _ h' hk F' N' (allLt_of lt) (.inr ⟨_, _, _, _, _, rfl, .tail _ hal, hat⟩)
end
end Mine
end
section
open PySem PySem.W PyProof.Rows PyProof.V PySem.Calls PySem.Spec
set_option compiler.extract_closed false
set_option Elab.async false
set_option maxRecDepth 100000
set_option maxHeartbeats 3000000
namespace Mine
theorem fillD4 : PySem.Challenge.rw_dn0005_07 = PySem.Challenge.rw_dn0005_07 ∧ Mine.hd07.heap_39 = Mine.hd07.heap_39 := by
  k_fill
  exact ⟨rfl, rfl⟩
theorem exc_stop : isSubtype (.type "StopIteration") (.type "BaseException") = pure true := by rw [isSubtype_type]; kernel_rfl
theorem tup_stop : isSubtype (.type ((Manifest.find? "StopIteration").elim "type" fun y => y.metatype)) (.type "tuple") = pure false := by rw [isSubtype_type]; kernel_rfl

local macro_rules | `(tactic| walk_at "call builtin:next") => `(tactic| (k_here; (refine next_own ‹_› ‹_› (by k_inst) (by k_is) (by k_is) ?_)))
local macro_rules | `(tactic| k_all) => `(tactic| assumption)
/-- a base that a call may leave turned: its outer frames' slots alone -/
structure Turned (A₀ : Around) (base : Heap) (outer : List Env) (w : World) (mg mb : Str → Option Value) (mean : ExcName → Option Value) (h₀ h₁ : Heap) : Prop where
  turn : KtsTurn (outer.filterMap (·.frame)) h₀ h₁
  below : Below A₀ base outer h₁
  frag : (Mine.hd07.heap_39 w.params).In h₁
  top : Top vw ls mean mg mb h₁
  dicts : KtsDicts (outer.filterMap (·.frame)) h₁
section
variable {prog : Program} {w : World} {A₀ : Around} {base h₀ : Heap} {outer : List Env} {cn : Str} {cs : Scope} {ca : Addr} {ccd : Value} {L : Addr} {m mg mb : Str → Option Value} {mean : ExcName → Option Value} {s : Shared} {R : Result → Shared → Prop} {rest : List (Addr × Obj)}
theorem pull_rep1 {x dx : Addr} {k : Int} {uk : Tok} {c : Int} {u : Tok} (hc : 0 < c) (hb : c < 1000) (hdx : @LT.lt Nat _ dx x) (hxr : ∀ p ∈ rest, p.1 ≠ x)
   (hck : cs.kind = .function) (B : Below A₀ base outer h₀) (F : Fr h₀ L s.heap m) (X : (Mine.hd07.heap_39 w.params).In h₀) (N : News h₀ L s.heap ((x, two 786 dx (.int c u) (.int k uk)) :: (dx, emptyDict) :: rest)) (T : Top vw ls mean mg mb h₀)
   (XB : (Mine.hd07.heap_39 w.params).In base) (TB : Top vw ls mean mg mb base) (D : KtsDicts (outer.filterMap (·.frame)) h₀)
   (kk : ∀ h₁ q h' tk u', Turned A₀ base outer w mg mb mean h₀ h₁ → Fr h₁ L h' m → News h₁ L h' ((q, pairObj (.bool true) (.int k uk)) :: (x, two 786 dx (.int (c - 1) u') (.int k uk)) :: (dx, emptyDict) :: rest) → @LT.lt Nat _ x q ∧ @LT.lt Nat _ dx q ∧ AllLt q rest → R (.ok (.ret (.ref q))) {s with heap := h', toks := tk})
   : codeAny (model prog w) (AK 15 (envOf cn cs L ca ccd) outer) (.call (.ref 677) ⟨[.ref x], []⟩) R s := by
  obtain ⟨ck, cnm, cg, cco, cmo⟩ := cs
  simp only at hck
  subst hck
  kts_go
  k_steps
  · exfalso; omega
  · exact kk _ _ _ _ _ ⟨KtsTurn.refl, B, X, T, D⟩ (by assumption) (by assumption) (by assumption)
theorem pull_rep0 {x dx : Addr} {k : Int} {uk : Tok} {u : Tok} (hdx : @LT.lt Nat _ dx x) (hxr : ∀ p ∈ rest, p.1 ≠ x)
   (hck : cs.kind = .function) (B : Below A₀ base outer h₀) (F : Fr h₀ L s.heap m) (X : (Mine.hd07.heap_39 w.params).In h₀) (N : News h₀ L s.heap ((x, two 786 dx (.int 0 u) (.int k uk)) :: (dx, emptyDict) :: rest)) (T : Top vw ls mean mg mb h₀)
   (XB : (Mine.hd07.heap_39 w.params).In base) (TB : Top vw ls mean mg mb base) (D : KtsDicts (outer.filterMap (·.frame)) h₀)
   (kk : ∀ h₁ q h' tk, Turned A₀ base outer w mg mb mean h₀ h₁ → Fr h₁ L h' m → News h₁ L h' ((q, pairObj (.bool false) .none) :: (x, two 786 dx (.int 0 u) (.int k uk)) :: (dx, emptyDict) :: rest) → @LT.lt Nat _ x q ∧ @LT.lt Nat _ dx q ∧ AllLt q rest → R (.ok (.ret (.ref q))) {s with heap := h', toks := tk})
   : codeAny (model prog w) (AK 15 (envOf cn cs L ca ccd) outer) (.call (.ref 677) ⟨[.ref x], []⟩) R s := by
  obtain ⟨ck, cnm, cg, cco, cmo⟩ := cs
  simp only at hck
  subst hck
  kts_go
  k_steps
  exact kk _ _ _ _ ⟨by assumption, by assumption, by assumption, by assumption, by assumption⟩ (by assumption) (by assumption) (by assumption)
end
end Mine
end
section
open PySem PySem.W PyProof.Rows PyProof.V PySem.Calls PySem.Spec
set_option compiler.extract_closed false
set_option Elab.async false
set_option maxRecDepth 100000
set_option maxHeartbeats 3000000
namespace Mine
theorem fillD5 : PySem.Challenge.rw_dn0005_07 = PySem.Challenge.rw_dn0005_07 ∧ Mine.hd07.heap_39 = Mine.hd07.heap_39 := by
  k_fill
  exact ⟨rfl, rfl⟩
section
variable {prog : Program} {w : World} {A : Around} {E : Value → Shared → Prop} {s : Shared} {h₀ : Heap} {L it d : Addr} {m : Str → Option Value} {news rl rst : List (Addr × Obj)} {es : Array DictEntry} {g : Obj → List (Addr × Obj)} 
  {kvs : List (Int × Value)} {k : Int} {v : Value} {ep i : Nat}
theorem next_items_U {Q : Value → Shared → Prop} {io od : Obj} (F : Fr h₀ L s.heap m) (N : News h₀ L s.heap news) (U : UpdF it io news g) (S : ItS rl d i kvs.length ep io) (hr : ∀ p ∈ rl, p ∈ rst) (hs : ∀ p ∈ rst, p ∈ news) (hrn : ∀ p ∈ rst, p.1 ≠ it) (hm : (d, od) ∈ rl) (hod : od.data = .dict es ep) (D : DIs (PySem.intKind prog w) es kvs) (hx : kvs[i]? = some (k, v))
    (h : ∀ T t io' h', Fr h₀ L h' m → News h₀ L h' ((T, pairObj (.int k t) v) :: g io') → AllLt T news → ItS ((T, pairObj (.int k t) v) :: rl) d (i + 1) kvs.length ep io' → Q (.ref T) { s with heap := h' }) :
    wpAny (model prog w) A (call (.builtin "next") [.ref it]) Q E s := by
  obtain ⟨pre, post, hl, hg, a, b⟩ := U.split
  have hsub : ∀ p ∈ (it, io) :: (pre ++ post), p ∈ news := fun p hp => by
    rw [hl]
    rcases List.mem_cons.mp hp with rfl | hp
    · simp
    · rcases List.mem_append.mp hp with q | q <;> simp [q]
  have hne : ∀ p ∈ pre ++ post, p.1 ≠ it := fun p hp => (List.mem_append.mp hp).elim (a p) (b p)
  have hrl' : ∀ p ∈ rl, p ∈ pre ++ post := fun p hp => by
    have h1 := hs p (hr p hp)
    rw [hl] at h1
    rcases List.mem_append.mp h1 with q | q
    · exact List.mem_append_left _ q
    · rcases List.mem_cons.mp q with q | q
      · exact absurd (congrArg Prod.fst q) (hrn p (hr p hp))
      · exact List.mem_append_right _ q
  refine next_items_K (knd := PySem.intKind prog w) (l := pre ++ post) F (news_sub N hsub) hne S hrl' ⟨od, es, (N _ (hs _ (hr _ hm))).1, hod, D⟩ hx fun T key io' h' hk F' N' hT S2 => ?_
  obtain ⟨t, rfl⟩ := PySem.Value.isInt_shape hk
  refine h T t io' h' F' (news_sub N' fun p hp => ?_) ?_ ?_
  · rw [hg] at hp
    rcases List.mem_cons.mp hp with rfl | hp
    · exact .head _
    · rcases List.mem_append.mp hp with q | q
      · simp [q]
      · rcases List.mem_cons.mp q with rfl | q <;> simp [*]
  · have all : ∀ {l : List (Addr × Obj)}, AllLt T l → ∀ p ∈ l, p.1 < T := fun {l} => by
      induction l with
      | nil => intro _ p hp; cases hp
      | cons q r ih =>
        intro h p hp
        rcases List.mem_cons.mp hp with rfl | hp
        · exact h.1
        · exact ih h.2 p hp
    refine allLt_of fun p hp => all hT p ?_
    rw [hl] at hp
    rcases List.mem_append.mp hp with q | q
    · simp [q]
    · rcases List.mem_cons.mp q with rfl | q <;> simp [*]
  · exact S2
end
theorem next_items_end {A : Around} {E : Value → Shared → Prop} {Q : Value → Shared → Prop} {prog : Program} {w : World} {s : Shared} {h₀ : Heap} {L it d : Addr} {m : Str → Option Value} {news rl rst : List (Addr × Obj)} {es : Array DictEntry} {g : Obj → List (Addr × Obj)} 
  {kvs : List (Int × Value)} {ep i : Nat} {io od : Obj} (F : Fr h₀ L s.heap m) (N : News h₀ L s.heap news) (U : UpdF it io news g) (S : ItS rl d i kvs.length ep io) (hr : ∀ p ∈ rl, p ∈ rst) (hs : ∀ p ∈ rst, p ∈ news) (hm : (d, od) ∈ rl) (hod : od.data = .dict es ep) (D : DIs (PySem.intKind prog w) es kvs) (hx : kvs[i]? = none)
    (hh : A.handled = none) (h : ∀ h₁ io' h' e, Fr h₀ L h₁ m → News h₀ L h₁ (g io') → Heap.MadeExc h₁ h' e "StopIteration" [] → E (.ref e) { s with heap := h' }) :
    wpAny (model prog w) A (call (.builtin "next") [.ref it]) Q E s := by
  obtain ⟨pre, post, hl, hg, a, b⟩ := U.split
  have hmem : (it, io) ∈ news := by rw [hl]; simp
  have hit := N _ hmem
  obtain ⟨x, f, ok, ov, rfl⟩ : ∃ x f ok ov, io = itm d i kvs.length ep x f ok ov := by
    rcases S with ⟨ok, ov, rfl⟩ | ⟨a', oa, f, ok, ov, rfl, hal, hat⟩
    · exact ⟨_, _, _, _, rfl⟩
    · exact ⟨_, _, _, _, rfl⟩
  refine next_special hit.1 rfl (sp_end (knd := PySem.intKind prog w) hh hit.1 ⟨od, es, (N _ (hs _ (hr _ hm))).1, hod, D⟩ hx fun h₁ h' e io' ho' hs he => ?_)
  refine h h₁ io' h' e (F.change hs hit.2.1 hit.2.2) (hg io' ▸ (show News h₀ L s.heap (pre ++ (it, _) :: post) from hl ▸ N).setIn a b hs ho') he
theorem all_ne {l : List (Addr × Obj)} {d x : Nat} (h : AllLt d l) (hd : d ≤ x) : ∀ p ∈ l, p.1 ≠ x := by
  induction l with
  | nil => intro p hp; cases hp
  | cons q r ih =>
    intro p hp
    rcases List.mem_cons.mp hp with rfl | hp
    · exact fun e => absurd (Nat.lt_of_lt_of_le (e ▸ h.1) hd) (Nat.lt_irrefl _)
    · exact ih h.2 p hp
theorem methodCall_starred {M : Model} {A : Around} {E : Value → Shared → Prop} {s : Shared} {env : Env} {o x : Expr} {name : Str} {apos pos p : Pos} {Q : Value → Shared → Prop}
    (h : wpAny M A (eval o env) (fun ov s₁ => wpAny M A (getAttr ov name true) (fun v s₂ => wpAny M A (callWith pos v [] (backTo pos (starEach [.Starred x p] env)) []) Q E s₂) E s₁) E s)
    (hf : methodCallForm 2 (backTo pos (starEach [.Starred x p] env)) (backToKw pos (keywordEach [] env)) = false := by rfl)
    (hb : attributeBase o name env (eval o env) = eval o env := by rfl)
    (he : eval (.Call (.Attribute o name apos) [.Starred x p] [] pos) env = (attributeBase o name env (eval o env) >>= fun ov => standAt apos.atName >>= fun _ => methodCall o name apos pos env ov 2 (backTo pos (starEach [.Starred x p] env)) (backToKw pos (keywordEach [] env))) := by rfl) :
    wpAny M A (eval (.Call (.Attribute o name apos) [.Starred x p] [] pos) env) Q E s := by
  rw [he, hb]
  refine wpAny_bind (wpAny_mono h (fun ov s₁ h₁ => wpAny_bind (wpAny_standAt ?_)) fun _ _ z => z)
  unfold methodCall calleeOf methodCallPos
  rw [hf]
  refine wpAny_bind (wpAny_holding (wpAny_bind (wpAny_mono h₁ (fun v s₂ h₂ => wpAny_pure ?_) fun _ _ z => z)))
  exact wpAny_bind (wpAny_pure h₂)
local macro_rules | `(tactic| walk_at "compareOp Is") => `(tactic| (k_here; refine wpAny_is_other (by rfl) (by intro x; cases x) ?_))
local macro_rules | `(tactic| walk_at "eval Call Attribute") => `(tactic| (k_here; refine methodCall_starred ?_))
local macro_rules | `(tactic| walk_at "call builtin:next") => `(tactic| (k_here; first
  | (refine next_own ‹_› ‹_› (by k_inst) (by k_is) (by k_is) ?_)
  | (refine next_items_U ‹_› ‹_› (by k_updF) ‹_› ‹_› (by intro p hp; simp [hp]) ‹_› ‹_› ‹_› ‹_› ‹_› ?_; intro T' t' io' h' F' N' l1 S'; (try dsimp only at N'))
  | (refine next_items_end ‹_› ‹_› (by k_updF) ‹_› ‹_› (by intro p hp; simp [hp]) ‹_› ‹_› ‹_› ‹_› rfl ?_; intro h₁ io' h' e' F' N' hx'; (try dsimp only at N'))))
local macro_rules | `(tactic| k_all) => `(tactic| first | assumption | ((repeat (rename And _ _ => hx; cases hx)); exact all_ne (by assumption) (by omega)))
section
variable {prog : Program} {w : World} {A₀ : Around} {base h₀ : Heap} {outer : List Env} {cn : Str} {cs : Scope} {ca : Addr} {ccd : Value} {L : Addr} {m mg mb : Str → Option Value} {mean : ExcName → Option Value} {s : Shared} {R : Result → Shared → Prop} {rest : List (Addr × Obj)}
theorem pull_star1 {sm ds I y : Addr} {io oy : Obj} {es : Array DictEntry} {ep i : Nat} {kvs : List (Int × Value)} {k : Int} {c : Int} {u : Tok} (hc : -1000 < c) (hb : c < 1000) (hds : @LT.lt Nat _ ds sm) (hsI : @LT.lt Nat _ sm I) (hxr : ∀ p ∈ rest, p.1 ≠ I)
   {rl : List (Addr × Obj)} (hr : ∀ q ∈ rl, q ∈ rest) (hy : (y, oy) ∈ rl) (hyd : oy.data = .dict es ep) (hD : DIs (PySem.intKind prog w) es kvs) (hx : kvs[i]? = some (k, .int c u)) (S : ItS rl y i kvs.length ep io)
   (hck : cs.kind = .function) (B : Below A₀ base outer h₀) (F : Fr h₀ L s.heap m) (X : (Mine.hd07.heap_39 w.params).In h₀) (N : News h₀ L s.heap ((sm, two 823 ds (.ref 786) (.ref I)) :: (ds, emptyDict) :: (I, io) :: rest)) (T : Top vw ls mean mg mb h₀)
   (XB : (Mine.hd07.heap_39 w.params).In base) (TB : Top vw ls mean mg mb base) (D : KtsDicts (outer.filterMap (·.frame)) h₀)
   (kk : ∀ h₁ q r dr T c2 t u' io' h' tk, ((0 ≤ c → c2 = c) ∧ (c < 0 → c2 = 0)) → Turned A₀ base outer w mg mb mean h₀ h₁ → Fr h₁ L h' m → 
      News h₁ L h' ((q, pairObj (.bool true) (.ref r)) :: (r, two 786 dr (.int c2 u') (.int k t)) :: (dr, emptyDict) :: (T, pairObj (.int k t) (.int c u)) :: (sm, two 823 ds (.ref 786) (.ref I)) :: (ds, emptyDict) :: (I, io') :: rest) → 
      ItS ((T, pairObj (.int k t) (.int c u)) :: rl) y (i + 1) kvs.length ep io' → @LT.lt Nat _ r q ∧ @LT.lt Nat _ dr r ∧ @LT.lt Nat _ T dr → AllLt T ((sm, two 823 ds (.ref 786) (.ref I)) :: (ds, emptyDict) :: (I, io) :: rest) → R (.ok (.ret (.ref q))) {s with heap := h', toks := tk})
   : codeAny (model prog w) (AK 15 (envOf cn cs L ca ccd) outer) (.call (.ref 677) ⟨[.ref sm], []⟩) R s := by
  obtain ⟨ck, cnm, cg, cco, cmo⟩ := cs
  simp only at hck
  subst hck
  kts_go
  k_steps
  all_goals (
    refine' kk _ _ _ _ _ _ _ _ _ _ _ ?c ⟨KtsTurn.refl, B, X, T, D⟩ ?f ?n ?s ?o ?a
    case f => assumption
    case n => assumption
    case s => assumption
    case a => assumption
    case o => exact ⟨by omega, by omega, by omega⟩
    case c => exact ⟨by omega, by omega⟩)
theorem pull_star0 {sm ds I y : Addr} {io oy : Obj} {es : Array DictEntry} {ep i : Nat} {kvs : List (Int × Value)} (hds : @LT.lt Nat _ ds sm) (hsI : @LT.lt Nat _ sm I) (hxr : ∀ p ∈ rest, p.1 ≠ I)
   {rl : List (Addr × Obj)} (hr : ∀ q ∈ rl, q ∈ rest) (hy : (y, oy) ∈ rl) (hyd : oy.data = .dict es ep) (hD : DIs (PySem.intKind prog w) es kvs) (hx : kvs[i]? = none) (S : ItS rl y i kvs.length ep io)
   (hck : cs.kind = .function) (B : Below A₀ base outer h₀) (F : Fr h₀ L s.heap m) (X : (Mine.hd07.heap_39 w.params).In h₀) (N : News h₀ L s.heap ((sm, two 823 ds (.ref 786) (.ref I)) :: (ds, emptyDict) :: (I, io) :: rest)) (T : Top vw ls mean mg mb h₀)
   (XB : (Mine.hd07.heap_39 w.params).In base) (TB : Top vw ls mean mg mb base) (D : KtsDicts (outer.filterMap (·.frame)) h₀)
   (kk : ∀ h₁ q io' h' tk, Turned A₀ base outer w mg mb mean h₀ h₁ → Fr h₁ L h' m → 
      News h₁ L h' ((q, pairObj (.bool false) .none) :: (sm, two 823 ds (.ref 786) (.ref I)) :: (ds, emptyDict) :: (I, io') :: rest) → @LT.lt Nat _ sm q ∧ @LT.lt Nat _ ds q ∧ @LT.lt Nat _ I q ∧ AllLt q rest → R (.ok (.ret (.ref q))) {s with heap := h', toks := tk})
   : codeAny (model prog w) (AK 15 (envOf cn cs L ca ccd) outer) (.call (.ref 677) ⟨[.ref sm], []⟩) R s := by
  obtain ⟨ck, cnm, cg, cco, cmo⟩ := cs
  simp only at hck
  subst hck
  kts_go
  k_steps
  exact kk _ _ _ _ _ ⟨by assumption, by assumption, by assumption, by assumption, by assumption⟩ (by assumption) (by assumption) (by assumption)
end
end Mine
end
section
open PySem PySem.W PyProof.Rows PyProof.V PySem.Calls PySem.Spec
set_option Elab.async false
set_option maxRecDepth 100000
set_option maxHeartbeats 3000000
namespace Mine
/-- a StopIteration e on its way, at rest in no frame; what stood in h stands but for the frames' slots -/
def FlyAt (l : List Env) (e : Addr) (h h' : Heap) : Prop := ∃ B t, Heap.FlyingW B l e (.type "StopIteration") (.ref t) h' ∧ ∀ b o, h.get? b = some o → b ∉ l.filterMap (·.frame) → B.get? b = some o
/-- the same, held in the frame at L -/
def HoldAt (l : List Env) (L e : Addr) (h h' : Heap) : Prop := ∃ B t, Heap.HeldW B l e (.type "StopIteration") (.ref t) L h' ∧ ∀ b o, h.get? b = some o → b ∉ l.filterMap (·.frame) → B.get? b = some o
section
variable {prog : Program} {w : World} {A₀ : Around} {E : Value → Shared → Prop} {s' : Shared} {base g h : Heap} {outer : List Env} {L a e : Addr} {m : Str → Option Value} {name : Str} {scope : Scope} {cd : Value}
  {b₀ : Stmt} {suite : List Stmt} {pos np : Pos} {rest : List ExceptHandler} {Q : Flow → Shared → Prop} {Q1 : Unit → Shared → Prop} {news : List (Addr × Obj)} {KF : Frag}
  {p : Program} {loose : List Str} {mean : ExcName → Option Value} {mg mb : Str → Option Value}
theorem fly_at {l : List Env} {e : Addr} {h h₁ : Heap} (x : FlyAt l e h h₁) {b : Addr} {o : Obj} (hb : h.get? b = some o) (hn : b ∉ l.filterMap (·.frame)) : h₁.get? b = some o := by
  obtain ⟨B, t, hf, hB⟩ := x
  exact hf.1 _ _ (hB _ _ hb hn)
/-- the frame that raised it takes note of it first -/
theorem first_note (K : Below A₀ base outer g) (hx : Heap.MadeExc h s'.heap e "StopIteration" []) (F : Fr g L h m) (hk : scope.kind = .function)
    (k : ∀ h', HoldAt (envOf name scope L a cd :: outer) L e h h' → h.UpToSlots h' → Q1 () { s' with heap := h' }) :
    wpAny (model prog w) (A₀.deeper (envOf name scope L a cd)) (noteFrame (.ref e) (envOf name scope L a cd)) Q1 E s' := by
  have K' := K.push (name := name) (a := a) (cd := cd) F hk
  have hin : ∀ env ∈ (envOf name scope L a cd :: outer), ∀ b, env.frame = some b → b ∈ (envOf name scope L a cd :: outer).filterMap (·.frame) := fun env he b hb => List.mem_filterMap.mpr ⟨env, he, hb⟩
  obtain ⟨t, he, htn, ht⟩ := hx.there
  have sub : (hideAll h ((envOf name scope L a cd :: outer).filterMap (·.frame))).StaysIn s'.heap := fun b o q => hx.keeps b o (of_hideAll _ q)
  have fresh : ∀ b, h.get? b = none → (hideAll h ((envOf name scope L a cd :: outer).filterMap (·.frame))).get? b = none := fun b hb => by
    cases q : (hideAll h ((envOf name scope L a cd :: outer).filterMap (·.frame))).get? b with
    | none => rfl
    | some o => have := of_hideAll _ q; rw [hb] at this; cases this
  have FF := (funFrames_hide K'.frames hin).of_keeps fun b o hb _ => ⟨o, hx.keeps b o hb, rfl⟩
  unfold noteFrame
  simp only [show (envOf name scope L a cd).frame = some L from rfl]
  refine wpAny_bind (wpAny_field (x := .none) he rfl rfl ?_)
  rw [if_neg (show ¬ ((Value.none != Value.none) = true) from by decide)]
  refine wpAny_entryW (a0 := .ref t) K'.stack FF rfl he sub (fresh e hx.new) rfl (by simp) rfl fun h' hN => ?_
  obtain ⟨k1, k2, k3, k4⟩ := hN
  exact k h' ⟨_, t, ⟨k1, fresh e hx.new, k2, k3⟩, fun b o hb hn => hideAll_get _ hb hn⟩ ((Heap.UpToSlots.of_keeps hx.keeps).trans k4)
/-- the suite of «except StopIteration» in the frame that raised it -/
theorem here_caught (K : Below A₀ base outer g) (hx : Heap.MadeExc h s'.heap e "StopIteration" []) (F : Fr g L h m) (N : News g L h news) (XB : KF.In base) (TB : Top p loose mean mg mb base)
    (D : KtsDicts (outer.filterMap (·.frame)) g) (ex : nsIn KF mainGlobals (Str.ofString "StopIteration") = some none)
    (k : ∀ h₁ g₁, KtsTurn (outer.filterMap (·.frame)) g g₁ → Fr g₁ L h₁ m → News g₁ L h₁ news → Below A₀ base outer g₁ → KF.In g₁ → Top p loose mean mg mb g₁ → KtsDicts (outer.filterMap (·.frame)) g₁ → FlyAt (envOf name scope L a cd :: outer) e h h₁ → h.UpToSlots h₁ →
      wpAny (model prog w) ((A₀.deeper (envOf name scope L a cd)).mark (some (.ref e))) (execs (b₀ :: suite) (envOf name scope L a cd)) Q E { s' with heap := h₁ })
    (hk : scope.kind = .function := by rfl) (hkind : (envOf name scope L a cd).kindOf (Str.ofString "StopIteration") = some .globalImplicit := by rfl)
    (hE : PassesOwnAt (model prog w) ((A₀.deeper (envOf name scope L a cd)).mark (some (.ref e))) (A₀.deeper (envOf name scope L a cd)) (envOf name scope L a cd) E := by passes_own) :
    wpAny (model prog w) (A₀.deeper (envOf name scope L a cd)) (noteFrame (.ref e) (envOf name scope L a cd))
      (fun _ s₂ => wpAny (model prog w) (A₀.deeper (envOf name scope L a cd)) (setFlight (.ref e) none) (fun _ s₃ =>
        wpAny (model prog w) (A₀.deeper (envOf name scope L a cd)) (handleBy (.ref e) (envOf name scope L a cd) (.ExceptHandler (some (.Name (Str.ofString "StopIteration") np)) none (b₀ :: suite) pos :: rest)) Q E s₃) E s₂) E s' := by
  have onfr : ∀ b, b ∈ (envOf name scope L a cd :: outer).filterMap (·.frame) → b = L ∨ b ∈ outer.filterMap (·.frame) := fun b hb => kts_mem hb
  refine first_note K hx F hk fun h₄ H₄ u₄ => ?_
  obtain ⟨B, t, held, keep⟩ := H₄
  refine wpAny_landsW held fun h₅ fl₅ u₅ => ?_
  have U₅ := u₄.trans u₅
  obtain ⟨g₅, T₅, F₅, K₅⟩ := kts_ground K F keep fl₅.1 U₅
  obtain ⟨ob, hob, hobc⟩ := fl₅.there
  refine wpAny_handleBy_builtin (X := "StopIteration") (T := "StopIteration") (b := true) exc_stop tup_stop (by rw [isSubtype_type]; kernel_rfl)
    (name_B F₅ (XB.keeps K₅.stays) (topRead_of (TB.keeps K₅.stays)) ex PyProof.Rows.Boot.StopIteration (by decide) ⟨rfl, ⟨ob, hob, hobc⟩, ?_⟩ hk hkind (by decide))
  refine lands_againW fl₅ fun h₆ fl₆ u₆ => ?_
  have U₆ := U₅.trans u₆
  obtain ⟨g₆, T₆, F₆, K₆⟩ := kts_ground K F keep fl₆.1 U₆
  refine wpAny_passesOwnAt hE (k h₆ g₆ T₆ F₆ (fun q hq => ?_) K₆ (XB.keeps K₆.stays) (TB.keeps K₆.stays) (D.turn T₆) ⟨B, t, fl₆, keep⟩ U₆)
  have z := N q hq
  refine ⟨fl₆.1 _ _ (keep _ _ z.1 fun hm => ?_), z.2.1, T₆.none_ _ z.2.2⟩
  rcases onfr _ hm with e1 | e1
  · exact z.2.1 e1
  · obtain ⟨_, o, ho, _⟩ := K.frames.mem e1
    rw [z.2.2] at ho
    cases ho
/-- a bare raise in such a suite -/
theorem bare_raise {env : Env} {l : List Env} {A : Around} {s : Shared} (hA : A.handled = some (.ref e)) (hf : env.frame = some L) (X : FlyAt l e h s.heap) (k : ∀ h', HoldAt l L e h h' → s.heap.UpToSlots h' → E (.ref e) { s with heap := h' }) :
    wpAny (model prog w) A (exec (.Raise none none pos) env) Q E s := by
  obtain ⟨B, t, fl, keep⟩ := X
  have he : exec (.Raise none none pos) env = (do standAt pos; raiseStmt env none none) := rfl
  obtain ⟨oe, ws, hoe, hoec, hoed, h0⟩ := fl.first
  obtain ⟨_, _, _, oe', ws', T, oT, ts, h1, h2, h3, h4, _⟩ := id fl
  rw [he]
  refine wpAny_bind (wpAny_standAt ?_)
  unfold raiseStmt
  refine wpAny_bind (wpAny_handled ?_)
  rw [hA]
  dsimp only
  refine wpAny_bind (wpAny_rule (wpAny_bind (wpAny_field h1 h3 h4 ?_)))
  rw [if_neg (show ¬ ((Value.ref T == Value.none) = true) from by simp)]
  refine wpAny_bind ?_
  rw [hf]
  exact setFlight_onW fl fun h' hh hs => wpAny_throw (k h' ⟨B, t, hh, keep⟩ hs)
/-- it leaves the frame -/
theorem hold_leave {s : Shared} {l : List Env} (X : HoldAt l L e h s.heap) (k : ∀ h', FlyAt l e h h' → s.heap.UpToSlots h' → Q1 () { s with heap := h' }) :
    wpAny (model prog w) (A₀.deeper (envOf name scope L a cd)) (leaving (envOf name scope L a cd) (.ref e)) Q1 E s := by
  obtain ⟨B, t, hh, keep⟩ := X
  unfold leaving
  refine wpAny_bind (wpAny_noteFrame_againW rfl hh.2.2.2 ?_)
  exact wpAny_landsW hh fun h' fl u => k h' ⟨B, t, fl, keep⟩ u
end
end Mine
end
section
open PySem PySem.W PyProof.Rows PyProof.V PySem.Calls PySem.Spec
set_option compiler.extract_closed false
set_option Elab.async false
set_option maxRecDepth 100000
set_option maxHeartbeats 3000000
namespace Mine
theorem fillD6 : PySem.Challenge.rw_dn0005_07 = PySem.Challenge.rw_dn0005_07 ∧ Mine.hd07.heap_39 = Mine.hd07.heap_39 := by
  k_fill
  exact ⟨rfl, rfl⟩
/-- the while of a body, its test and its suite -/
def whTest : List Stmt → Expr
  | _ :: .While t _ _ _ :: _ => t
  | _ => .Constant .none 0 default
def whBody : List Stmt → List Stmt
  | _ :: .While _ b _ _ :: _ => b
  | _ => []
abbrev mCh (c p : Addr) (xi xm xa xb xt : Option Value) : Str → Option Value := fun z => if z = Str.ofString "item" then xi else if z = Str.ofString "more" then xm else if z = Str.ofString "active" then xa else if z = Str.ofString "iterable" then xb else if z = Str.ofString "top" then xt else
  if z = Str.ofString "path" then some (.ref p) else [(Str.ofString "self", Value.ref c)].lookup z
local macro_rules | `(tactic| walk_at "noteFrame ref") => `(tactic| (k_here; (with_reducible rename Heap.MadeExc _ _ _ _ _ => hxX); (refine here_caught ‹_› hxX ‹_› ‹_› ‹_› ‹_› ‹_› (by k_is) ?_); intro h' g' T' F' N' K' X' P' D' Y' U'))
local macro_rules | `(tactic| walk_at "exec Raise none none") => `(tactic| (refine halt ?_))
abbrev chA (ev : Env) (outer : List Env) : Around := AK 12 ev outer
abbrev leaveE (prog : Program) (w : World) (A : Around) (env : Env) (R : Result → Shared → Prop) : Value → Shared → Prop := fun e s' => wpAny (model prog w) (A.deeper env) (leaving env e) (fun _ s'' => R (.error e) s'') (fun e' s'' => R (.error e') s'') s'
section
variable {prog : Program} {w : World} {A₀ : Around} {base h₀ g : Heap} {outer : List Env} {ev : Env} {L L1 : Addr} {m mg mb : Str → Option Value} {mean : ExcName → Option Value} {s : Shared} {rest : List (Addr × Obj)} {Q : Flow → Shared → Prop} {R : Result → Shared → Prop}
theorem chain_stop {name qual : Str} {params : Arguments} {body : List Stmt} {scope : Scope} {dV kV doc pm cdv ct oc : Value} {an od : Option Addr} {osl : Array (Option Value)}
   (ho : (Mine.hd07.heap_39 w.params).lookup 730 = some ⟨oc, od, .func (fnOf name qual params body scope dV kV doc pm an cdv ct), osl⟩)
   {c dc p : Addr} {xi xm xa xb xt : Option Value} {av : Value}
   (B : Below (chA ev outer) base (ev :: outer) g) (F : Fr g L1 s.heap (mCh c p xi xm xa xb xt)) (X : (Mine.hd07.heap_39 w.params).In g) (N : News g L1 s.heap ((p, W.listOf #[.ref c] 0) :: (c, two 734 dc av .none) :: (dc, emptyDict) :: rest)) (T : Top vw ls mean mg mb g)
   (XB : (Mine.hd07.heap_39 w.params).In base) (TB : Top vw ls mean mg mb base) (D : KtsDicts ((ev :: outer).filterMap (·.frame)) g)
   (kend : ∀ e h' tk g₁ hh m', Turned (chA ev outer) base (ev :: outer) w mg mb mean g g₁ → Fr g₁ L1 hh m' → News g₁ L1 hh ((c, two 734 dc av .none) :: (dc, emptyDict) :: rest) → FlyAt (envOf qual scope L1 730 cdv :: ev :: outer) e hh h' → hh.UpToSlots h' → R (.error (.ref e)) { s with heap := h', toks := tk })
   : WhlRest prog w ((chA ev outer).deeper (envOf qual scope L1 730 cdv)) (leaveE prog w (chA ev outer) (envOf qual scope L1 730 cdv) R) (envOf qual scope L1 730 cdv) (whTest body) (whBody body) [] Q 1 s := by
  cases ho
  dsimp only [whTest, whBody]
  refine whl_turn (by passes_own) ?_
  k_steps
  unfold Halt
  rename Heap.UpToSlots _ _ => U
  refine bare_raise rfl rfl (by assumption) fun h7 H7 u7 => ?_
  refine hold_leave H7 fun h8 Y8 u8 => ?_
  refine kend _ h8 _ g _ _ ⟨KtsTurn.refl, B, X, T, D⟩ (by assumption) (news_sub (by assumption) fun p hp => .tail _ hp) Y8 ((U.trans u7).trans u8)
end
end Mine
end
section
open PySem PySem.W PyProof.Rows PyProof.V PySem.Calls PySem.Spec
set_option compiler.extract_closed false
set_option Elab.async false
set_option maxRecDepth 100000
set_option maxHeartbeats 3000000
namespace Mine
theorem fillD8 : PySem.Challenge.rw_dn0005_07 = PySem.Challenge.rw_dn0005_07 ∧ Mine.hd07.heap_39 = Mine.hd07.heap_39 := by
  k_fill
  exact ⟨rfl, rfl⟩
theorem use_S {prog : Program} {w : World} (l : Nat) {A : Around} {env : Env} {outer : List Env} {f : Value} {pos : List Value} {Q : Value → Shared → Prop} {E : Value → Shared → Prop} {s : Shared}
    (hA : A.frames = some (env :: outer)) (hh : A.handled = none) (hg : A.guards = some []) (hd : A.depth ≤ 400 + 10 * l) (hu : A.units ≤ 1000 + 100 * l)
    (h : codeAny (model prog w) (AK l env outer) (.call f ⟨pos, []⟩) (fun r s' => match r with | .ok (.ret v) => Q v s' | .ok _ => False | .error e => E e s') s) : wpAny (model prog w) A (call f pos []) Q E s :=
  wpAny_call (codeAny_weak hh hd hA hg hu h)
theorem iter_own {prog : Program} {w : World} {A : Around} {E : Value → Shared → Prop} {s : Shared} {K : Frag} {x C L f : Addr} {h₀ : Heap} {m : Str → Option Value} {ox : Obj} {od : Option Obj} {Q : Value → Shared → Prop} (F : Fr h₀ L s.heap m) (X₀ : K.In h₀) (I : InstAt s.heap x ox C od) (hs : findIn K (.ref C) (Str.ofString "__iter__") = some (some (.ref f))) (hf : isFn K (.ref f) = true)
    (h : wpAny (model prog w) A.in1 (call (.ref f) [.ref x]) (OwitIt (model prog w) A.in1 Q E) E s) : wpAny (model prog w) A (call (.builtin "iter") [.ref x]) Q E s := by
  refine call_function_entry (by decide +kernel) (by decide +kernel) kdk_entry_iter (kdk_args_iter _) ?_
  unfold Builtin.«iter»
  refine wpAny_bind (m := someArgs "iter" 1 2 _) (wpAny_of_eq (a := [Value.ref x]) (by first | rfl | kernel_rfl!) ?_)
  show wpAny _ _ (pyIter (.ref x) >>= _) _ _ _
  refine wpAny_bind (owit_iter F X₀ I hs hf (wpAny_mono h (fun v s' hv => ?_) fun _ _ z => z))
  unfold OwitIt at hv ⊢
  refine wpAny_mono hv (fun r s₂ hr => ?_) fun _ _ z => z
  cases r with
  | none => exact hr
  | some g => exact wpAny_pure ⟨_, rfl, hr⟩
/-- entries whose values are whole numbers, whatever their tokens -/
inductive IntsI : List (Int × Value) → List (Int × Int) → Prop
  | nil : IntsI [] []
  | cons {k c : Int} {t : Tok} {r : List (Int × Value)} {r' : List (Int × Int)} (hr : IntsI r r') : IntsI ((k, .int c t) :: r) ((k, c) :: r')
theorem IntsI.length {kvs : List (Int × Value)} {cs : List (Int × Int)} (h : IntsI kvs cs) : kvs.length = cs.length := by
  induction h with
  | nil => rfl
  | cons _ ih => simp [ih]
theorem IntsI.at {kvs : List (Int × Value)} {cs : List (Int × Int)} (h : IntsI kvs cs) : ∀ {i : Nat} {x : Int × Value}, kvs[i]? = some x → ∃ k c t, x = (k, .int c t) ∧ cs[i]? = some (k, c) := by
  induction h with
  | nil => intro i x e; simp at e
  | @cons k c t r r' _ ih =>
    intro i x e
    cases i with
    | zero =>
      simp only [List.getElem?_cons_zero, Option.some.injEq] at e
      exact ⟨k, c, t, e.symm, rfl⟩
    | succ i =>
      rw [List.getElem?_cons_succ] at e ⊢
      exact ih e
/-- each key as often as its count says -/
def expand : List (Int × Int) → List Int
  | [] => []
  | (k, c) :: r => List.replicate c.toNat k ++ expand r
/-- what a chain is still to give -/
def outp (cs : List (Int × Int)) (act : Option (Int × Int)) (i : Nat) : List Int := (match act with | none => [] | some (k, c) => List.replicate c.toNat k) ++ expand (cs.drop i)
theorem outp_end {cs : List (Int × Int)} {i : Nat} (h : cs[i]? = none) : outp cs none i = [] := by
  unfold outp
  rw [List.drop_eq_nil_of_le (by simpa using h)]
  rfl
theorem outp_next {cs : List (Int × Int)} {i : Nat} {k c c2 : Int} (h : cs[i]? = some (k, c)) (h2 : (0 ≤ c → c2 = c) ∧ (c < 0 → c2 = 0)) : outp cs none i = outp cs (some (k, c2)) (i + 1) := by
  unfold outp
  obtain ⟨hl, he⟩ := List.getElem?_eq_some_iff.mp h
  rw [List.drop_eq_getElem_cons hl, he]
  show [] ++ (List.replicate c.toNat k ++ _) = _
  have : c.toNat = c2.toNat := by omega
  rw [this]
  rfl
theorem outp_out {cs : List (Int × Int)} {i : Nat} {k c : Int} (h : 0 < c) : outp cs (some (k, c)) i = k :: outp cs (some (k, c - 1)) i := by
  unfold outp
  have : c.toNat = (c - 1).toNat + 1 := by omega
  dsimp only
  rw [this, List.replicate_succ]
  rfl
theorem outp_zero {cs : List (Int × Int)} {i : Nat} {k : Int} : outp cs (some (k, 0)) i = outp cs none i := rfl
theorem mCh_turn {c p : Addr} {xi xm xa xb xt A B C D B2 E : Option Value} (z : Str) : (if z = Str.ofString "item" then A else if z = Str.ofString "more" then B else if z = Str.ofString "active" then C else if z = Str.ofString "iterable" then D else if z = Str.ofString "more" then B2 else if z = Str.ofString "top" then E else mCh c p xi xm xa xb xt z) = mCh c p A B C D E z := by
  unfold mCh
  by_cases h1 : z = Str.ofString "item"
  · simp only [if_pos h1]
  by_cases h2 : z = Str.ofString "more"
  · simp only [if_neg h1, if_pos h2]
  by_cases h3 : z = Str.ofString "active"
  · simp only [if_neg h1, if_neg h2, if_pos h3]
  by_cases h4 : z = Str.ofString "iterable"
  · simp only [if_neg h1, if_neg h2, if_neg h3, if_pos h4]
  by_cases h5 : z = Str.ofString "top"
  · simp only [if_neg h1, if_neg h2, if_neg h3, if_neg h4, if_pos h5]
  simp only [if_neg h1, if_neg h2, if_neg h3, if_neg h4, if_neg h5]
theorem mCh_new {c p : Addr} (z : Str) : (if z = Str.ofString "path" then some (Value.ref p) else [(Str.ofString "self", Value.ref c)].lookup z) = mCh c p none none none none none z := by
  unfold mCh
  by_cases h1 : z = Str.ofString "item"
  · subst h1; rfl
  rw [if_neg h1]
  by_cases h2 : z = Str.ofString "more"
  · subst h2; rfl
  rw [if_neg h2]
  by_cases h3 : z = Str.ofString "active"
  · subst h3; rfl
  rw [if_neg h3]
  by_cases h4 : z = Str.ofString "iterable"
  · subst h4; rfl
  rw [if_neg h4]
  by_cases h5 : z = Str.ofString "top"
  · subst h5; rfl
  rw [if_neg h5]
/-- a chain over a starmap of repeat over the items of y -/
structure ChIn (prog : Program) (w : World) (c dc sm ds I y : Addr) (es : Array DictEntry) (kvs : List (Int × Value)) (cs : List (Int × Int)) (ep i : Nat) (io oy : Obj) (rest : List (Addr × Obj)) : Prop where
  o1 : @LT.lt Nat _ ds sm
  o2 : @LT.lt Nat _ sm I
  o3 : @LT.lt Nat _ I dc
  o4 : @LT.lt Nat _ dc c
  nc : ∀ q ∈ rest, q.1 ≠ c
  nI : ∀ q ∈ rest, q.1 ≠ I
  nd : ∀ q ∈ rest, q.1 ≠ dc ∧ q.1 ≠ ds ∧ q.1 ≠ sm
  hy : (y, oy) ∈ rest
  hyd : oy.data = .dict es ep
  hD : DIs (PySem.intKind prog w) es kvs
  hi : IntsI kvs cs
  hb : ∀ q ∈ cs, -1000 < q.2 ∧ q.2 < 1000
  it : ItS rest y i kvs.length ep io
local macro_rules | `(tactic| walk_at "noteFrame ref") => `(tactic| (k_here; (with_reducible rename Heap.MadeExc _ _ _ _ _ => hxX); (refine here_caught ‹_› hxX ‹_› ‹_› ‹_› ‹_› ‹_› (by k_is) ?_); intro h' g' T' F' N' K' X' P' D' Y' U'))
local macro_rules | `(tactic| walk_at "exec Raise none none") => `(tactic| (refine halt ?_))
local macro_rules | `(tactic| walk_at "WhlRest") => `(tactic| (refine halt ?_))
local macro_rules | `(tactic| walk_at "call builtin:iter") => `(tactic| (k_here; (refine iter_own ‹_› ‹_› (by k_inst) (by k_is) (by k_is) ?_)))
local macro_rules | `(tactic| walk_at "call ref") => `(tactic| (k_here; (with_reducible show wpAny _ _ (call (Value.ref 677) _) _ _ _); refine halt ?_))
local macro_rules | `(tactic| walk_at "exec Try") => `(tactic| (k_here; refine wpAny_Try_except ?_; k_fold))
local macro_rules | `(tactic| k_all) => `(tactic| (assumption))
section
variable {prog : Program} {w : World} {A₀ : Around} {base h₀ g : Heap} {outer : List Env} {ev : Env} {L L1 : Addr} {m mg mb : Str → Option Value} {mean : ExcName → Option Value} {s : Shared} {rest : List (Addr × Obj)} {Q : Flow → Shared → Prop} {R : Result → Shared → Prop}
theorem chain_A {name qual : Str} {params : Arguments} {body : List Stmt} {scope : Scope} {dV kV doc pm cdv ct oc : Value} {an od : Option Addr} {osl : Array (Option Value)}
   (ho : (Mine.hd07.heap_39 w.params).lookup 730 = some ⟨oc, od, .func (fnOf name qual params body scope dV kV doc pm an cdv ct), osl⟩)
   {c dc p sm ds I y : Addr} {oy : Obj} {es : Array DictEntry} {kvs : List (Int × Value)} {ps : List (Int × Int)} {ep : Nat}
   (XB : (Mine.hd07.heap_39 w.params).In base) (TB : Top vw ls mean mg mb base) (hp : @LT.lt Nat _ c p) :
   ∀ (n i : Nat) {g : Heap} {s : Shared} {rest : List (Addr × Obj)} {io : Obj} {xi xm xa xb xt : Option Value} {R : Result → Shared → Prop} {Q : Flow → Shared → Prop}, i + n = kvs.length →
   ChIn prog w c dc sm ds I y es kvs ps ep i io oy rest → 
   Below (chA ev outer) base (ev :: outer) g → Fr g L1 s.heap (mCh c p xi xm xa xb xt) → (Mine.hd07.heap_39 w.params).In g → 
   News g L1 s.heap ((p, W.listOf #[.ref c] 0) :: (c, two 734 dc .none (.ref sm)) :: (dc, emptyDict) :: (sm, two 823 ds (.ref 786) (.ref I)) :: (ds, emptyDict) :: (I, io) :: rest) → Top vw ls mean mg mb g →
   KtsDicts ((ev :: outer).filterMap (·.frame)) g →
   (∀ e h' tk g₁ hh m' io', Turned (chA ev outer) base (ev :: outer) w mg mb mean g g₁ → Fr g₁ L1 hh m' → News g₁ L1 hh ((c, two 734 dc .none .none) :: (dc, emptyDict) :: (sm, two 823 ds (.ref 786) (.ref I)) :: (ds, emptyDict) :: (I, io') :: rest) → FlyAt (envOf qual scope L1 730 cdv :: ev :: outer) e hh h' → hh.UpToSlots h' → outp ps none i = [] → R (.error (.ref e)) { s with heap := h', toks := tk }) →
   (∀ h' tk g₁ m' k t r dr c2 u2 i2 io2 rest2, Turned (chA ev outer) base (ev :: outer) w mg mb mean g g₁ → Fr g₁ L1 h' m' → 
      News g₁ L1 h' ((c, two 734 dc (.ref r) (.ref sm)) :: (dc, emptyDict) :: (sm, two 823 ds (.ref 786) (.ref I)) :: (ds, emptyDict) :: (I, io2) :: (r, two 786 dr (.int c2 u2) (.int k t)) :: (dr, emptyDict) :: rest2) → 
      ChIn prog w c dc sm ds I y es kvs ps ep i2 io2 oy rest2 → i2 ≤ kvs.length → (@LT.lt Nat _ c dr ∧ @LT.lt Nat _ dr r ∧ ∀ q ∈ rest2, q.1 ≠ r ∧ q.1 ≠ dr) → 0 ≤ c2 ∧ c2 < 1000 → outp ps none i = k :: outp ps (some (k, c2)) i2 → (∀ q ∈ rest, q ∈ rest2) → Q (.ret (.int k t)) { s with heap := h', toks := tk }) →
   WhlRest prog w ((chA ev outer).deeper (envOf qual scope L1 730 cdv)) (leaveE prog w (chA ev outer) (envOf qual scope L1 730 cdv) R) (envOf qual scope L1 730 cdv) (whTest body) (whBody body) [] Q 1 s := by
  intro n
  induction n with
  | zero =>
    intro i g s rest io xi xm xa xb xt R Q hin H B F X N T D kend kret
    cases ho
    dsimp only [whTest, whBody]
    refine whl_turn (by passes_own) ?_
    k_steps
    unfold Halt
    rename Fr _ _ _ _ => F1
    rename News _ _ _ _ => N1
    have Hx : kvs[i]? = none := by simp; omega
    refine use_S 15 rfl rfl rfl (by exact Nat.le_of_ble_eq_true rfl) (by exact Nat.le_of_ble_eq_true rfl) (pull_star0 (rest := (p, W.listOf #[.ref c] 0) :: (c, two 734 dc .none (.ref sm)) :: (dc, emptyDict) :: rest) H.o1 H.o2 ?hxr (rl := rest) (fun q hq => .tail _ (.tail _ (.tail _ hq))) H.hy H.hyd H.hD Hx H.it (by exact rfl) B F1 X (news_sub N1 ?sub) T XB TB D fun g2 q io2 h2 tk2 Tn F2 N2 l2 => ?_)
    case hxr =>
      have o1 := H.o1; have o2 := H.o2; have o3 := H.o3; have o4 := H.o4
      exact List.forall_mem_cons.mpr ⟨Nat.ne_of_gt (by dsimp only; omega), List.forall_mem_cons.mpr ⟨Nat.ne_of_gt (by dsimp only; omega), List.forall_mem_cons.mpr ⟨Nat.ne_of_gt (by dsimp only; omega), H.nI⟩⟩⟩
    case sub =>
      kqd_sub
    obtain ⟨T0', B2, X2, T2, D2⟩ := Tn
    clear F1 N1 X T B D
    dsimp only
    simp only [AllLt] at l2
    have o1 := H.o1; have o2 := H.o2; have o3 := H.o3; have o4 := H.o4; have nc := H.nc
    k_steps
    unfold Halt
    rename Heap.UpToSlots _ _ => U
    refine bare_raise rfl rfl (by assumption) fun h7 H7 u7 => ?_
    refine hold_leave H7 fun h8 Y8 u8 => ?_
    refine kend _ h8 _ g2 _ _ io2 ⟨T0', B2, X2, T2, D2⟩ (by assumption) (news_sub (by assumption) fun q hq => ?_) Y8 ((U.trans u7).trans u8) (outp_end ?_)
    · revert q; kqd_sub
    · rw [List.getElem?_eq_none_iff, ← H.hi.length]
      omega
  | succ n ih =>
    intro i g s rest io xi xm xa xb xt R Q hin H B F X N T D kend kret
    have ho' := ho
    cases ho
    dsimp only [whTest, whBody]
    refine whl_turn (by passes_own) ?_
    k_steps
    unfold Halt
    rename Fr _ _ _ _ => F1
    rename News _ _ _ _ => N1
    obtain ⟨x, Hx⟩ : ∃ x, kvs[i]? = some x := ⟨kvs[i]'(by omega), List.getElem?_eq_getElem (by omega)⟩
    obtain ⟨k, n0, t0, rfl, Hp⟩ := H.hi.at Hx
    obtain ⟨b1, b2⟩ := H.hb _ (List.mem_of_getElem? Hp)
    refine use_S 15 rfl rfl rfl (by exact Nat.le_of_ble_eq_true rfl) (by exact Nat.le_of_ble_eq_true rfl) (pull_star1 (rest := (p, W.listOf #[.ref c] 0) :: (c, two 734 dc .none (.ref sm)) :: (dc, emptyDict) :: rest) b1 b2 H.o1 H.o2 ?hxr (rl := rest) (fun q hq => .tail _ (.tail _ (.tail _ hq))) H.hy H.hyd H.hD Hx H.it (by exact rfl) B F1 X (news_sub N1 ?sub) T XB TB D fun g2 q r dr T' c2 t u' io2 h2 tk2 hc2 Tn F2 N2 S2 o5 l2 => ?_)
    case hxr =>
      have o1 := H.o1; have o2 := H.o2; have o3 := H.o3; have o4 := H.o4
      exact List.forall_mem_cons.mpr ⟨Nat.ne_of_gt (by dsimp only; omega), List.forall_mem_cons.mpr ⟨Nat.ne_of_gt (by dsimp only; omega), List.forall_mem_cons.mpr ⟨Nat.ne_of_gt (by dsimp only; omega), H.nI⟩⟩⟩
    case sub =>
      kqd_sub
    obtain ⟨T0', B2, X2, T2, D2⟩ := Tn
    clear F1 N1 X T B D
    dsimp only
    simp only [AllLt] at l2
    have o1 := H.o1; have o2 := H.o2; have o3 := H.o3; have o4 := H.o4; have nc := H.nc
    dsimp only at hc2 b1 b2
    k_steps
    unfold Halt
    rename Fr _ _ _ _ => F3
    rename News _ _ _ _ => N3
    have hrr : ∀ q ∈ (T', pairObj (.int k t) (.int n0 t0)) :: (sm, two 823 ds (.ref 786) (.ref I)) :: (ds, emptyDict) :: (I, io2) :: (p, W.listOf #[.ref c] 0) :: (c, two 734 dc (.ref r) (.ref sm)) :: (dc, emptyDict) :: rest, q.1 ≠ r := by
      have lr : AllLt T' rest := l2.2.2.2.2.2.2
      exact List.forall_mem_cons.mpr ⟨Nat.ne_of_lt (by dsimp only; omega), List.forall_mem_cons.mpr ⟨Nat.ne_of_lt (by dsimp only; omega), List.forall_mem_cons.mpr ⟨Nat.ne_of_lt (by dsimp only; omega), List.forall_mem_cons.mpr ⟨Nat.ne_of_lt (by dsimp only; omega), List.forall_mem_cons.mpr ⟨Nat.ne_of_lt (by dsimp only; omega), List.forall_mem_cons.mpr ⟨Nat.ne_of_lt (by dsimp only; omega), List.forall_mem_cons.mpr ⟨Nat.ne_of_lt (by dsimp only; omega), fun q hq => all_ne lr (by omega) q hq⟩⟩⟩⟩⟩⟩⟩
    have N4 := news_sub (l' := (r, two 786 dr (.int c2 u') (.int k t)) :: (dr, emptyDict) :: (T', pairObj (.int k t) (.int n0 t0)) :: (sm, two 823 ds (.ref 786) (.ref I)) :: (ds, emptyDict) :: (I, io2) :: (p, W.listOf #[.ref c] 0) :: (c, two 734 dc (.ref r) (.ref sm)) :: (dc, emptyDict) :: rest) N3 fun q hq => .tail _ hq
    clear N3
    rcases Int.lt_or_le 0 c2 with hpos | hnp
    · refine use_S 15 rfl rfl rfl (by exact Nat.le_of_ble_eq_true rfl) (by exact Nat.le_of_ble_eq_true rfl) (pull_rep1 hpos (by omega) o5.2.1 hrr (by exact rfl) B2 F3 X2 N4 T2 XB TB D2 fun g3 q3 h3 tk3 u3 Tn3 F5 N5 l3 => ?_)
      obtain ⟨T0'', B3, X3, T3, D3⟩ := Tn3
      clear F3 N4 X2 T2 B2 D2
      dsimp only
      k_steps
      rename Fr _ _ _ _ => F6
      rename News _ _ _ _ => N6
      refine kret _ _ g3 _ k t r dr (c2 - 1) u3 (i + 1) io2 ((T', pairObj (.int k t) (.int n0 t0)) :: rest) ⟨T0'.trans T0'', B3, X3, T3, D3⟩ F6 (news_sub N6 ?sb) ⟨o1, o2, o3, o4, ?ncc, ?nII, ?nDD, .tail _ H.hy, H.hyd, H.hD, H.hi, H.hb, S2⟩ (by omega) ⟨by omega, by omega, ?nr⟩ ⟨by omega, by omega⟩ ?op fun q hq => .tail _ hq
      case sb =>
        kqd_sub
      case ncc =>
        exact List.forall_mem_cons.mpr ⟨Nat.ne_of_gt (by dsimp only; omega), nc⟩
      case nII =>
        exact List.forall_mem_cons.mpr ⟨Nat.ne_of_gt (by dsimp only; omega), H.nI⟩
      case nDD =>
        exact List.forall_mem_cons.mpr ⟨⟨Nat.ne_of_gt (by dsimp only; omega), Nat.ne_of_gt (by dsimp only; omega), Nat.ne_of_gt (by dsimp only; omega)⟩, H.nd⟩
      case nr =>
        exact List.forall_mem_cons.mpr ⟨⟨hrr _ (.head _), Nat.ne_of_lt (by dsimp only; omega)⟩, fun q hq => ⟨hrr q (.tail _ (.tail _ (.tail _ (.tail _ (.tail _ (.tail _ (.tail _ hq))))))), all_ne (l2.2.2.2.2.2.2 : AllLt T' rest) (by omega) q hq⟩⟩
      case op => rw [outp_next Hp hc2, outp_out hpos]
    · obtain rfl : c2 = 0 := by omega
      refine use_S 15 rfl rfl rfl (by exact Nat.le_of_ble_eq_true rfl) (by exact Nat.le_of_ble_eq_true rfl) (pull_rep0 o5.2.1 hrr (by exact rfl) B2 F3 X2 N4 T2 XB TB D2 fun g3 q3 h3 tk3 Tn3 F5 N5 l3 => ?_)
      obtain ⟨T0'', B3, X3, T3, D3⟩ := Tn3
      clear F3 N4 X2 T2 B2 D2
      dsimp only
      k_steps
      unfold Halt
      rename Fr _ _ _ _ => F6
      rename News _ _ _ _ => N6
      have F7 := fr_fun F6 (fun z => mCh_turn z)
      refine ih (rest := (r, two 786 dr (.int 0 u') (.int k t)) :: (dr, emptyDict) :: (T', pairObj (.int k t) (.int n0 t0)) :: rest) (i + 1) (by omega) ⟨o1, o2, o3, o4, ?ncc, ?nII, ?nDD, .tail _ (.tail _ (.tail _ H.hy)), H.hyd, H.hD, H.hi, H.hb, S2.sub fun q hq => .tail _ (.tail _ hq)⟩ B3 F7 X3 (news_sub N6 ?sb) T3 D3 ?ke ?kr
      case ncc =>
        exact List.forall_mem_cons.mpr ⟨Nat.ne_of_gt (by dsimp only; omega), List.forall_mem_cons.mpr ⟨Nat.ne_of_gt (by dsimp only; omega), List.forall_mem_cons.mpr ⟨Nat.ne_of_gt (by dsimp only; omega), nc⟩⟩⟩
      case nDD =>
        exact List.forall_mem_cons.mpr ⟨⟨Nat.ne_of_gt (by dsimp only; omega), Nat.ne_of_gt (by dsimp only; omega), Nat.ne_of_gt (by dsimp only; omega)⟩, List.forall_mem_cons.mpr ⟨⟨Nat.ne_of_gt (by dsimp only; omega), Nat.ne_of_gt (by dsimp only; omega), Nat.ne_of_gt (by dsimp only; omega)⟩, List.forall_mem_cons.mpr ⟨⟨Nat.ne_of_gt (by dsimp only; omega), Nat.ne_of_gt (by dsimp only; omega), Nat.ne_of_gt (by dsimp only; omega)⟩, H.nd⟩⟩⟩
      case nII =>
        exact List.forall_mem_cons.mpr ⟨Nat.ne_of_gt (by dsimp only; omega), List.forall_mem_cons.mpr ⟨Nat.ne_of_gt (by dsimp only; omega), List.forall_mem_cons.mpr ⟨Nat.ne_of_gt (by dsimp only; omega), H.nI⟩⟩⟩
      case sb =>
        kqd_sub
      case ke =>
        intro e h' tk g₁ hh m' io' Tn F N Y U ho
        refine kend e h' tk g₁ hh m' io' ⟨(T0'.trans T0'').trans Tn.turn, Tn.below, Tn.frag, Tn.top, Tn.dicts⟩ F (news_sub N fun q hq => ?_) Y U (by rw [outp_next Hp hc2, outp_zero]; exact ho)
        revert q; kqd_sub
      case kr =>
        intro h' tk g₁ m' k' t' r' dr' c2' u2 i2 io3 rest2 Tn F N Hc hi2 o b ho hs
        exact kret h' tk g₁ m' k' t' r' dr' c2' u2 i2 io3 rest2 ⟨(T0'.trans T0'').trans Tn.turn, Tn.below, Tn.frag, Tn.top, Tn.dicts⟩ F N Hc hi2 o b (by rw [outp_next Hp hc2, outp_zero]; exact ho) fun q hq => hs q (.tail _ (.tail _ (.tail _ hq)))
end
end Mine
end
section
open PySem PySem.W PyProof.Rows PyProof.V PySem.Calls PySem.Spec
set_option compiler.extract_closed false
set_option Elab.async false
set_option maxRecDepth 100000
set_option maxHeartbeats 3000000
namespace Mine
theorem fillD9 : PySem.Challenge.rw_dn0005_07 = PySem.Challenge.rw_dn0005_07 ∧ Mine.hd07.heap_39 = Mine.hd07.heap_39 := by
  k_fill
  exact ⟨rfl, rfl⟩
theorem mCh_turn2 {c p : Addr} {xi xm xa xb xt A B C E : Option Value} (z : Str) : (if z = Str.ofString "item" then A else if z = Str.ofString "more" then B else if z = Str.ofString "active" then C else if z = Str.ofString "top" then E else mCh c p xi xm xa xb xt z) = mCh c p A B C xb E z := by
  unfold mCh
  by_cases h1 : z = Str.ofString "item"
  · simp only [if_pos h1]
  by_cases h2 : z = Str.ofString "more"
  · simp only [if_neg h1, if_pos h2]
  by_cases h3 : z = Str.ofString "active"
  · simp only [if_neg h1, if_neg h2, if_pos h3]
  by_cases h5 : z = Str.ofString "top"
  · subst h5
    rfl
  simp only [if_neg h1, if_neg h2, if_neg h3, if_neg h5]


local macro_rules | `(tactic| walk_at "WhlRest") => `(tactic| (refine halt ?_))

local macro_rules | `(tactic| walk_at "call ref") => `(tactic| (k_here; refine halt ?_))
local macro_rules | `(tactic| k_all) => `(tactic| (assumption))
section
variable {prog : Program} {w : World} {A₀ : Around} {base h₀ g : Heap} {outer : List Env} {ev : Env} {L L1 : Addr} {m mg mb : Str → Option Value} {mean : ExcName → Option Value} {s : Shared} {rest : List (Addr × Obj)} {Q : Flow → Shared → Prop} {R : Result → Shared → Prop}
theorem chain_B {name qual : Str} {params : Arguments} {body : List Stmt} {scope : Scope} {dV kV doc pm cdv ct oc : Value} {an od : Option Addr} {osl : Array (Option Value)}
   (ho : (Mine.hd07.heap_39 w.params).lookup 730 = some ⟨oc, od, .func (fnOf name qual params body scope dV kV doc pm an cdv ct), osl⟩)
   {c dc p sm ds I y r0 dr0 : Addr} {oy : Obj} {es : Array DictEntry} {kvs : List (Int × Value)} {ps : List (Int × Int)} {ep i : Nat} {io : Obj} {xi xm xa xb xt : Option Value} {k0 n0 : Int} {t0 u0 : Tok}
   (XB : (Mine.hd07.heap_39 w.params).In base) (TB : Top vw ls mean mg mb base) (hp : @LT.lt Nat _ c p) (hin : i ≤ kvs.length)
   (H : ChIn prog w c dc sm ds I y es kvs ps ep i io oy rest) (hr : @LT.lt Nat _ c dr0 ∧ @LT.lt Nat _ dr0 r0 ∧ ∀ q ∈ rest, q.1 ≠ r0 ∧ q.1 ≠ dr0) (hpr : p ≠ r0) (hn : 0 ≤ n0 ∧ n0 < 1000)
   (B : Below (chA ev outer) base (ev :: outer) g) (F : Fr g L1 s.heap (mCh c p xi xm xa xb xt)) (X : (Mine.hd07.heap_39 w.params).In g) 
   (N : News g L1 s.heap ((p, W.listOf #[.ref c] 0) :: (c, two 734 dc (.ref r0) (.ref sm)) :: (dc, emptyDict) :: (sm, two 823 ds (.ref 786) (.ref I)) :: (ds, emptyDict) :: (I, io) :: (r0, two 786 dr0 (.int n0 u0) (.int k0 t0)) :: (dr0, emptyDict) :: rest)) (T : Top vw ls mean mg mb g)
   (D : KtsDicts ((ev :: outer).filterMap (·.frame)) g)
   (kend : ∀ e h' tk g₁ hh m' io', Turned (chA ev outer) base (ev :: outer) w mg mb mean g g₁ → Fr g₁ L1 hh m' → News g₁ L1 hh ((c, two 734 dc .none .none) :: (dc, emptyDict) :: (sm, two 823 ds (.ref 786) (.ref I)) :: (ds, emptyDict) :: (I, io') :: rest) → FlyAt (envOf qual scope L1 730 cdv :: ev :: outer) e hh h' → hh.UpToSlots h' → outp ps (some (k0, n0)) i = [] → R (.error (.ref e)) { s with heap := h', toks := tk })
   (kret : ∀ h' tk g₁ m' k t r dr c2 u2 i2 io2 rest2, Turned (chA ev outer) base (ev :: outer) w mg mb mean g g₁ → Fr g₁ L1 h' m' → 
      News g₁ L1 h' ((c, two 734 dc (.ref r) (.ref sm)) :: (dc, emptyDict) :: (sm, two 823 ds (.ref 786) (.ref I)) :: (ds, emptyDict) :: (I, io2) :: (r, two 786 dr (.int c2 u2) (.int k t)) :: (dr, emptyDict) :: rest2) → 
      ChIn prog w c dc sm ds I y es kvs ps ep i2 io2 oy rest2 → i2 ≤ kvs.length → (@LT.lt Nat _ c dr ∧ @LT.lt Nat _ dr r ∧ ∀ q ∈ rest2, q.1 ≠ r ∧ q.1 ≠ dr) → 0 ≤ c2 ∧ c2 < 1000 → outp ps (some (k0, n0)) i = k :: outp ps (some (k, c2)) i2 → (∀ q ∈ rest, q ∈ rest2) → Q (.ret (.int k t)) { s with heap := h', toks := tk }) :
   WhlRest prog w ((chA ev outer).deeper (envOf qual scope L1 730 cdv)) (leaveE prog w (chA ev outer) (envOf qual scope L1 730 cdv) R) (envOf qual scope L1 730 cdv) (whTest body) (whBody body) [] Q 1 s := by
  have ho' := ho
  cases ho
  dsimp only [whTest, whBody]
  refine whl_turn (by passes_own) ?_
  have o1 := H.o1; have o2 := H.o2; have o3 := H.o3; have o4 := H.o4; have nc := H.nc
  obtain ⟨r1, r2, r3⟩ := hr
  k_steps
  unfold Halt
  rename Fr _ _ _ _ => F3
  rename News _ _ _ _ => N3
  have hrr : ∀ q ∈ (sm, two 823 ds (.ref 786) (.ref I)) :: (ds, emptyDict) :: (I, io) :: (p, W.listOf #[.ref c] 0) :: (c, two 734 dc (.ref r0) (.ref sm)) :: (dc, emptyDict) :: rest, q.1 ≠ r0 := by
    exact List.forall_mem_cons.mpr ⟨Nat.ne_of_lt (by dsimp only; omega), List.forall_mem_cons.mpr ⟨Nat.ne_of_lt (by dsimp only; omega), List.forall_mem_cons.mpr ⟨Nat.ne_of_lt (by dsimp only; omega), List.forall_mem_cons.mpr ⟨hpr, List.forall_mem_cons.mpr ⟨Nat.ne_of_lt (by dsimp only; omega), List.forall_mem_cons.mpr ⟨Nat.ne_of_lt (by dsimp only; omega), fun q hq => (r3 q hq).1⟩⟩⟩⟩⟩⟩
  have N4 := news_sub (l' := (r0, two 786 dr0 (.int n0 u0) (.int k0 t0)) :: (dr0, emptyDict) :: (sm, two 823 ds (.ref 786) (.ref I)) :: (ds, emptyDict) :: (I, io) :: (p, W.listOf #[.ref c] 0) :: (c, two 734 dc (.ref r0) (.ref sm)) :: (dc, emptyDict) :: rest) N3 fun q hq => by
    revert q; kqd_sub
  clear N3
  rcases Int.lt_or_le 0 n0 with hpos | hnp
  · refine use_S 15 rfl rfl rfl (by exact Nat.le_of_ble_eq_true rfl) (by exact Nat.le_of_ble_eq_true rfl) (pull_rep1 hpos (by omega) r2 hrr (by exact rfl) B F3 X N4 T XB TB D fun g3 q3 h3 tk3 u3 Tn3 F5 N5 l3 => ?_)
    obtain ⟨T0'', B3, X3, T3, D3⟩ := Tn3
    clear F3 N4 X T B D
    dsimp only
    k_steps
    rename Fr _ _ _ _ => F6
    rename News _ _ _ _ => N6
    refine kret _ _ g3 _ k0 t0 r0 dr0 (n0 - 1) u3 i io rest ⟨T0'', B3, X3, T3, D3⟩ F6 (news_sub N6 ?sb) H hin ⟨r1, r2, r3⟩ ⟨by omega, by omega⟩ ?op fun q hq => hq
    case sb =>
      kqd_sub
    case op => exact outp_out hpos
  · obtain rfl : n0 = 0 := by omega
    refine use_S 15 rfl rfl rfl (by exact Nat.le_of_ble_eq_true rfl) (by exact Nat.le_of_ble_eq_true rfl) (pull_rep0 r2 hrr (by exact rfl) B F3 X N4 T XB TB D fun g3 q3 h3 tk3 Tn3 F5 N5 l3 => ?_)
    obtain ⟨T0'', B3, X3, T3, D3⟩ := Tn3
    simp only [AllLt] at l3
    clear F3 N4 X T B D
    dsimp only
    k_steps
    unfold Halt
    rename Fr _ _ _ _ => F6
    rename News _ _ _ _ => N6
    have F7 := fr_fun F6 (fun z => mCh_turn2 z)
    refine chain_A (rest := (r0, two 786 dr0 (.int 0 u0) (.int k0 t0)) :: (dr0, emptyDict) :: rest) ho' XB TB hp (kvs.length - i) i (by omega) ⟨o1, o2, o3, o4, ?ncc, ?nII, ?nDD, .tail _ (.tail _ H.hy), H.hyd, H.hD, H.hi, H.hb, H.it.sub fun q hq => .tail _ (.tail _ hq)⟩ B3 F7 X3 (news_sub N6 ?sb) T3 D3 ?ke ?kr
    case ncc =>
      exact List.forall_mem_cons.mpr ⟨Nat.ne_of_gt (by dsimp only; omega), List.forall_mem_cons.mpr ⟨Nat.ne_of_gt (by dsimp only; omega), nc⟩⟩
    case nDD =>
      exact List.forall_mem_cons.mpr ⟨⟨Nat.ne_of_gt (by dsimp only; omega), Nat.ne_of_gt (by dsimp only; omega), Nat.ne_of_gt (by dsimp only; omega)⟩, List.forall_mem_cons.mpr ⟨⟨Nat.ne_of_gt (by dsimp only; omega), Nat.ne_of_gt (by dsimp only; omega), Nat.ne_of_gt (by dsimp only; omega)⟩, H.nd⟩⟩
    case nII =>
      exact List.forall_mem_cons.mpr ⟨Nat.ne_of_gt (by dsimp only; omega), List.forall_mem_cons.mpr ⟨Nat.ne_of_gt (by dsimp only; omega), H.nI⟩⟩
    case sb =>
      kqd_sub
    case ke =>
      intro e h' tk g₁ hh m' io' Tn F N Y U ho
      refine kend e h' tk g₁ hh m' io' ⟨T0''.trans Tn.turn, Tn.below, Tn.frag, Tn.top, Tn.dicts⟩ F (news_sub N fun q hq => ?_) Y U (by rw [outp_zero]; exact ho)
      revert q; kqd_sub
    case kr =>
      intro h' tk g₁ m' k' t' r' dr' c2' u2 i2 io3 rest2 Tn F N Hc hi2 o b ho hs
      exact kret h' tk g₁ m' k' t' r' dr' c2' u2 i2 io3 rest2 ⟨T0''.trans Tn.turn, Tn.below, Tn.frag, Tn.top, Tn.dicts⟩ F N Hc hi2 o b (by rw [outp_zero]; exact ho) fun q hq => hs q (.tail _ (.tail _ hq))
end
end Mine
end
section
open PySem PySem.W PyProof.Rows PyProof.V PySem.Calls PySem.Spec
set_option compiler.extract_closed false
set_option Elab.async false
set_option maxRecDepth 100000
set_option maxHeartbeats 3000000
namespace Mine
local macro_rules | `(tactic| walk_at "none0") => `(tactic| skip)
theorem fillD10 : PySem.Challenge.rw_dn0005_07 = PySem.Challenge.rw_dn0005_07 ∧ Mine.hd07.heap_39 = Mine.hd07.heap_39 := by
  k_fill
  exact ⟨rfl, rfl⟩
/-- a frame of the law that an exception reaches from one call below -/
theorem out_frame {h₀ g0 g₁ hh h' : Heap} {L L1 a e : Addr} {m m' : Str → Option Value} {q : Str} {sc : Scope} {cd : Value} {ev : Env} {nl : List (Addr × Obj)} (hef : ev.frame = some L) (FG : Fr h₀ L g0 m) (T : KtsTurn ([ev].filterMap (·.frame)) g0 g₁) (F : Fr g₁ L1 hh m') (N : News g₁ L1 hh nl)
    (Y : FlyAt [envOf q sc L1 a cd, ev] e hh h') (U : hh.UpToSlots h') : Fr h₀ L h' m ∧ News h₀ L h' nl ∧ ∃ ob, h'.get? e = some ob ∧ ob.cls = .type "StopIteration" := by
  have eL : [ev].filterMap (·.frame) = [L] := by simp [hef]
  rw [eL] at T
  have h1 : h₀.get? L = none := kts_self FG
  have h2 : g₁.get? L1 = none := kts_self F
  have fr : ∀ b, b ≠ L1 → b ≠ L → b ∉ [envOf q sc L1 a cd, ev].filterMap (·.frame) := fun b n1 n2 hm => by
    have e3 : [envOf q sc L1 a cd, ev].filterMap (·.frame) = L1 :: [ev].filterMap (·.frame) := rfl
    rw [e3, eL] at hm
    simp only [List.mem_cons, List.not_mem_nil, or_false] at hm
    rcases hm with e | e
    · exact n1 e
    · exact n2 e
  obtain ⟨oL, es, ep, hL, hLd, r1, r2⟩ := FG.ns
  obtain ⟨sl, hs⟩ := T.frame L oL hL (.head _)
  obtain ⟨sl', hs'⟩ := U L _ (F.keep _ _ hs) (fun vs q => by rw [hLd] at q; cases q)
  refine ⟨⟨⟨_, es, ep, hs', hLd, r1, r2⟩, fun b o hb => ?_, FG.above⟩, fun p hp => ?_, ?_⟩
  · have nL : b ≠ L := fun q => by rw [q, h1] at hb; cases hb
    have b1 := T.other b o (FG.keep b o hb) (fun q => nL (by simpa using q))
    exact fly_at Y (F.keep b o b1) (fr b (fun q => by rw [q, h2] at b1; cases b1) nL)
  · have z := N p hp
    have nL : p.1 ≠ L := fun q => by rw [q, hs] at z; exact nomatch z.2.2
    refine ⟨fly_at Y z.1 (fr p.1 z.2.1 nL), nL, ?_⟩
    cases q : h₀.get? p.1 with
    | none => rfl
    | some o =>
      obtain ⟨sl2, h3⟩ := T.up (FG.keep _ _ q)
      rw [z.2.2] at h3
      cases h3
  · obtain ⟨B, t, hf, _⟩ := Y
    exact hf.there
/-- the entry into a def from any frame of a function -/
theorem code_ev {prog : Program} {w : World} {A₀ A : Around} {s : Shared} {base h₀ : Heap} {L : Addr} {m : Str → Option Value} {ev : Env} {news : List (Addr × Obj)} {K : Frag} {p : Program} {loose : List Str} {mean : ExcName → Option Value} {mg mb : Str → Option Value}
    {R : Result → Shared → Prop} {name qual : Str} {params : Arguments} {body : List Stmt} {scope : Scope} {dV kV doc pm cdv ct oc : Value} {an od : Option Addr} {osl : Array (Option Value)} {f : Addr} {args : Args} {binds : List (Str × Value)}
    (B : Below A₀ base [] h₀) (F : Fr h₀ L s.heap m) (X₀ : K.In h₀) (N : News h₀ L s.heap news) (T : Top p loose mean mg mb h₀) (hA : A.frames = some [ev]) (hef : ev.frame = some L) (hek : ev.scope.kind = .function)
    (ho : K.lookup f = some ⟨oc, od, .func (fnOf name qual params body scope dV kV doc pm an cdv ct), osl⟩) (hcd : codeIn K cdv qual = true) (hroom : A.depth < recursionLimit)
    (hbind : BindsTo s (fnOf name qual params body scope dV kV doc pm an cdv ct) args binds) (hloc : ∀ y ∈ binds, scope.names.lookup y.1 = some .local)
    (h : ∀ g L' h₁, Fr h₀ L g m → Fr g L' h₁ (fun y => binds.reverse.lookup y) → News g L' h₁ news → Below A base [ev] g → K.In g → Top p loose mean mg mb g → KtsDicts ([ev].filterMap (·.frame)) g →
      wpAny (model prog w) (A.deeper (envOf qual scope L' f cdv)) (execs body (envOf qual scope L' f cdv))
        (fun fl s' => LeaveS0 ([ev].filterMap (·.frame)) h₀ L m g R (match fl with | .ret v => v | _ => .none) s')
        (fun e s' => wpAny (model prog w) (A.deeper (envOf qual scope L' f cdv)) (leaving (envOf qual scope L' f cdv) e) (fun _ s'' => R (.error e) s'') (fun e' s'' => R (.error e') s'') s')
        { s with heap := h₁, toks := s.toks + binds.length })
    (hco : scope.isCoroutine = false) (hgen : scope.isGenerator = false) (hk : scope.kind = .function)
    (hcell : ∀ x ∈ scope.names, x.2 ≠ .cell) : codeAny (model prog w) A (.call (.ref f) args) R s := by
  have X := X₀.keeps F.keep
  have eL : [ev].filterMap (·.frame) = [L] := by simp [hef]
  have nm : ∀ b o, h₀.get? b = some o → b ∉ news.map (·.1) := fun b o e q => by
    obtain ⟨p, hp, rfl⟩ := List.mem_map.mp q
    rw [(N p hp).2.2] at e; cases e
  have st : h₀.StaysIn (hideAll s.heap (news.map (·.1))) := fun b o e => hideAll_get _ (F.keep b o e) (nm b o e)
  have nL₀ : h₀.get? L = none := kts_self F
  obtain ⟨oL, es, ep, hL, hLd, hLk, hLf⟩ := F.ns
  have nL : L ∉ news.map (·.1) := fun q => by
    obtain ⟨p, hp, e⟩ := List.mem_map.mp q
    exact (N p hp).2.1 e
  have hLg := hideAll_get (news.map (·.1)) hL nL
  have hbL : base.get? L = none := by
    cases e : base.get? L with
    | none => rfl
    | some o => rw [B.stays _ _ e] at nL₀; cases nL₀
  have B₂ : Below A base [ev] (hideAll s.heap (news.map (·.1))) := ⟨hA, fun b o e => st b o (B.stays b o e), ⟨(by rw [hek]; intro e; cases e), ⟨L, oL, hef, hbL, hLg, fun vs e => by rw [hLd] at e; cases e⟩, trivial⟩⟩
  refine codeAny_call_def (fd := fnOf name qual params body scope dV kV doc pm an cdv ct) (body := body) (binds := binds) hroom (X _ _ ho) rfl (T.nolimit.keeps F.keep) (codeRec_of X hcd) rfl hbind hcell hloc (fun h₁ hns hk₁ => ?_) hco hgen hk
  refine wpAny_mono (h _ s.heap.objs.size h₁ ⟨⟨oL, es, ep, hLg, hLd, hLk, hLf⟩, st, F.above⟩ ⟨hns, fun b o e => hk₁ b o (of_hideAll _ e), Nat.le_of_eq (hideAll_size _ _)⟩
    (fun p hp => ⟨hk₁ _ _ (N p hp).1, Nat.ne_of_lt (Heap.lt_size (N p hp).1), hideAll_none _ (List.mem_map_of_mem hp)⟩) B₂ (X₀.keeps st) (T.keeps st) (fun b hb => by
      rw [eL] at hb
      obtain rfl := List.mem_singleton.mp hb
      exact ⟨oL, es, ep, hLg, hLd⟩)) (fun fl s' hl => ?_) fun _ _ y => y
  obtain ⟨g', L', m', news', T', F', N', k⟩ := hl
  rw [eL] at T'
  obtain ⟨sl, hs⟩ := T'.up hLg
  refine k ⟨⟨_, es, ep, F'.keep _ _ hs, hLd, hLk, hLf⟩, fun b o e => F'.keep b o (T'.other b o (st b o e) (fun q => by
    rw [List.mem_singleton.mp q, nL₀] at e
    cases e)), F.above⟩ fun p hp => ⟨(N' p hp).1, fun q => ?_, ?_⟩
  · have := (N' p hp).2.2; rw [q, hs] at this; cases this
  · cases q : h₀.get? p.1 with
    | none => rfl
    | some o =>
      obtain ⟨sl', hs'⟩ := T'.up (st _ _ q)
      have := (N' p hp).2.2
      rw [hs'] at this
      cases this
local macro_rules | `(tactic| walk_at "ev go") => `(tactic| (refine code_ev ‹_› ‹_› ‹_› ‹_› ‹_› rfl ‹_› ‹_› (by k_is) (by k_is) (by k_room) (by (exact BindsTo.of_eq rfl)) (locs rfl) ?_ rfl rfl rfl (by decide); intro g' L' h' FG' F' N' B' X' T' D'; (try k_fold)))
theorem ItS.last {l : List (Addr × Obj)} {d : Addr} {i n ep : Nat} {io : Obj} (h : ItS l d i n ep io) : ∃ tl, (∀ q ∈ tl, q ∈ l ∧ TupO q.2) ∧ ItS tl d i n ep io := by
  rcases h with h | ⟨a, oa, f, ok, ov, e, hm, ht⟩
  · exact ⟨[], (fun _ h => nomatch h), .inl h⟩
  · exact ⟨[(a, oa)], (fun q hq => by rw [List.mem_singleton.mp hq]; exact ⟨hm, ht⟩), .inr ⟨a, oa, f, ok, ov, e, .head _, ht⟩⟩
theorem ChIn.less {prog : Program} {w : World} {c dc sm ds I y : Addr} {es : Array DictEntry} {kvs : List (Int × Value)} {cs : List (Int × Int)} {ep i : Nat} {io oy : Obj} {rest fix : List (Addr × Obj)} (H : ChIn prog w c dc sm ds I y es kvs cs ep i io oy rest) (hf : ∀ q ∈ fix, q ∈ rest) (hy : (y, oy) ∈ fix) :
    ∃ tl, (∀ q ∈ tl, q ∈ rest ∧ TupO q.2) ∧ ChIn prog w c dc sm ds I y es kvs cs ep i io oy (tl ++ fix) := by
  obtain ⟨tl, h1, h2⟩ := H.it.last
  have sub : ∀ q ∈ tl ++ fix, q ∈ rest := fun q hq => (List.mem_append.mp hq).elim (fun h => (h1 q h).1) (hf q)
  exact ⟨tl, h1, H.o1, H.o2, H.o3, H.o4, fun q hq => H.nc q (sub q hq), fun q hq => H.nI q (sub q hq), fun q hq => H.nd q (sub q hq), List.mem_append_right _ hy, H.hyd, H.hD, H.hi, H.hb, h2.sub fun q hq => List.mem_append_left _ hq⟩
/-- the objects of a chain, what it is still to give, and the objects beside it that stay -/
inductive ChSt (prog : Program) (w : World) (c y : Addr) (es : Array DictEntry) (kvs : List (Int × Value)) (cs : List (Int × Int)) (ep : Nat) (oy : Obj) (fix : List (Addr × Obj)) : List Int → List (Addr × Obj) → Prop
  | idle {dc sm ds I : Addr} {i : Nat} {io : Obj} {tl : List (Addr × Obj)} (H : ChIn prog w c dc sm ds I y es kvs cs ep i io oy (tl ++ fix)) (hi : i ≤ kvs.length) (ht : ∀ q ∈ tl, TupO q.2) : 
      ChSt prog w c y es kvs cs ep oy fix (outp cs none i) ((c, two 734 dc .none (.ref sm)) :: (dc, emptyDict) :: (sm, two 823 ds (.ref 786) (.ref I)) :: (ds, emptyDict) :: (I, io) :: tl)
  | busy {dc sm ds I r dr : Addr} {i : Nat} {io : Obj} {tl : List (Addr × Obj)} {k n : Int} {t u : Tok} (H : ChIn prog w c dc sm ds I y es kvs cs ep i io oy (tl ++ fix)) (hi : i ≤ kvs.length) (hr : @LT.lt Nat _ c dr ∧ @LT.lt Nat _ dr r ∧ ∀ q ∈ tl ++ fix, q.1 ≠ r ∧ q.1 ≠ dr) (ht : ∀ q ∈ tl, TupO q.2) (hn : 0 ≤ n ∧ n < 1000) :
      ChSt prog w c y es kvs cs ep oy fix (outp cs (some (k, n)) i) ((c, two 734 dc (.ref r) (.ref sm)) :: (dc, emptyDict) :: (sm, two 823 ds (.ref 786) (.ref I)) :: (ds, emptyDict) :: (I, io) :: (r, two 786 dr (.int n u) (.int k t)) :: (dr, emptyDict) :: tl)
  | over {dc : Addr} (ho : @LT.lt Nat _ dc c) (hc : ∀ q ∈ fix, q.1 ≠ c ∧ q.1 ≠ dc) : ChSt prog w c y es kvs cs ep oy fix [] [(c, two 734 dc .none .none), (dc, emptyDict)]
local macro_rules | `(tactic| walk_at "exec While") => `(tactic| (k_here; refine halt ?_))
theorem news_tl {h₀ h : Heap} {L : Addr} {a b c d e f g : Addr × Obj} {r t : List (Addr × Obj)} (N : News h₀ L h (a :: b :: c :: d :: e :: f :: g :: r)) (hs : ∀ q ∈ t, q ∈ r) : News h₀ L h (a :: b :: c :: d :: e :: f :: g :: t) := news_sub N fun q hq => by
  simp only [List.mem_cons] at hq ⊢
  rcases hq with h | h | h | h | h | h | h | h
  all_goals first | (simp only [h, true_or, or_true]; done) | (have := hs q h; simp only [this, or_true])
section
variable {prog : Program} {w : World} {A₀ : Around} {base h₀ : Heap} {ev : Env} {L : Addr} {m mg mb : Str → Option Value} {mean : ExcName → Option Value} {s : Shared} {R : Result → Shared → Prop} {core fix : List (Addr × Obj)}
theorem chain_next {c y : Addr} {es : Array DictEntry} {kvs : List (Int × Value)} {ps : List (Int × Int)} {ep : Nat} {oy : Obj} {out : List Int} (S : ChSt prog w c y es kvs ps ep oy fix out core) (hy : (y, oy) ∈ fix)
   (hef : ev.frame = some L) (hek : ev.scope.kind = .function) (B : Below A₀ base [] h₀) (F : Fr h₀ L s.heap m) (X : (Mine.hd07.heap_39 w.params).In h₀) (N : News h₀ L s.heap (core ++ fix)) (T : Top vw ls mean mg mb h₀)
   (XB : (Mine.hd07.heap_39 w.params).In base) (TB : Top vw ls mean mg mb base)
   (kret : ∀ k r t h' tk core', out = k :: r → ChSt prog w c y es kvs ps ep oy fix r core' → Fr h₀ L h' m → News h₀ L h' (core' ++ fix) → R (.ok (.ret (.int k t))) { s with heap := h', toks := tk })
   (kend : ∀ e h' tk core', out = [] → ChSt prog w c y es kvs ps ep oy fix [] core' → Fr h₀ L h' m → News h₀ L h' (core' ++ fix) → (∃ ob, h'.get? e = some ob ∧ ob.cls = .type "StopIteration") → R (.error (.ref e)) { s with heap := h', toks := tk })
   : codeAny (model prog w) (AK 12 ev []) (.call (.ref 730) ⟨[.ref c], []⟩) R s := by
  have ho := (by k_is : (Mine.hd07.heap_39 w.params).lookup 730 = some ⟨_, _, .func (fnOf _ _ _ _ _ _ _ _ _ _ _ _), _⟩)
  cases S with
  | @idle dc sm ds I i io tl H hi htl =>
    walk_at "ev go"
    k_steps
    unfold Halt
    rename Fr h₀ L _ m => FG
    rename Fr _ _ _ _ => F1
    rename News _ _ _ _ => N1
    rename Below _ _ _ _ => B1
    rename Frag.In _ _ => X1
    rename Top _ _ _ _ _ _ => T1
    rename KtsDicts _ _ => D1
    rename (∀ p, p ∈ (c, _) :: _ → _) => l1
    have hp : @LT.lt Nat _ c _ := l1 _ (.head _)
    have F2 := fr_fun F1 (fun z => mCh_new z)
    refine whl_start 1 (chain_A (rest := tl ++ fix) ho XB TB hp (kvs.length - i) i (by omega) H B1 F2 X1 (news_sub N1 ?sb) T1 D1 ?ke ?kr)
    case sb =>
      (try simp only [List.cons_append, List.nil_append]); kqd_sub
    case ke =>
      intro e h' tk g₁ hh m' io' Tn F N Y U hout
      obtain ⟨F9, N9, hcls⟩ := out_frame hef FG Tn.turn F N Y U
      exact kend e h' tk _ hout (.over H.o4 fun q hq => ⟨H.nc q (List.mem_append_right _ hq), (H.nd q (List.mem_append_right _ hq)).1⟩) F9 (news_sub N9 (by (try simp only [List.cons_append, List.nil_append]); kqd_sub)) hcls
    case kr =>
      intro h' tk g₁ m' k t r dr c2 u2 i2 io2 rest2 Tn F N Hc hi2 o b hout hs
      dsimp only
      refine leaveS0_ F N Tn.turn fun F9 N9 => ?_
      have hsub : ∀ q ∈ fix, q ∈ rest2 := fun q hq => hs q (by simp [hq])
      obtain ⟨tl2, h1, h2⟩ := Hc.less hsub hy
      refine kret k _ t h' tk _ hout (.busy (dr := dr) (r := r) (t := t) (u := u2) (n := c2) (tl := tl2) h2 hi2 ⟨o.1, o.2.1, fun q hq => o.2.2 q ((List.mem_append.mp hq).elim (fun h => (h1 q h).1) (hsub q))⟩ (fun q hq => (h1 q hq).2) b) F9 (news_sub (news_tl N9 fun q hq => (List.mem_append.mp hq).elim (fun h => (h1 q h).1) (hsub q)) (by (try simp only [List.cons_append, List.nil_append]); kqd_sub))
  | @busy dc sm ds I r dr i io tl k n t u H hi hr htl hn =>
    walk_at "ev go"
    k_steps
    unfold Halt
    rename Fr h₀ L _ m => FG
    rename Fr _ _ _ _ => F1
    rename News _ _ _ _ => N1
    rename Below _ _ _ _ => B1
    rename Frag.In _ _ => X1
    rename Top _ _ _ _ _ _ => T1
    rename KtsDicts _ _ => D1
    rename (∀ p, p ∈ (c, _) :: _ → _) => l1
    have hp : @LT.lt Nat _ c _ := l1 _ (.head _)
    have F2 := fr_fun F1 (fun z => mCh_new z)
    have e4 : @LT.lt Nat _ r _ := l1 _ (.tail _ (.tail _ (.tail _ (.tail _ (.tail _ (.head _))))))
    refine whl_start 1 (chain_B (u0 := u) (t0 := t) (k0 := k) (rest := tl ++ fix) ho XB TB hp hi H hr (Nat.ne_of_gt e4) hn B1 F2 X1 (news_sub N1 ?sb2) T1 D1 ?ke2 ?kr2)
    case sb2 =>
      (try simp only [List.cons_append, List.nil_append]); kqd_sub
    case ke2 =>
      intro e h' tk g₁ hh m' io' Tn F N Y U hout
      obtain ⟨F9, N9, hcls⟩ := out_frame hef FG Tn.turn F N Y U
      exact kend e h' tk _ hout (.over H.o4 fun q hq => ⟨H.nc q (List.mem_append_right _ hq), (H.nd q (List.mem_append_right _ hq)).1⟩) F9 (news_sub N9 (by (try simp only [List.cons_append, List.nil_append]); kqd_sub)) hcls
    case kr2 =>
      intro h' tk g₁ m' k t r dr c2 u2 i2 io2 rest2 Tn F N Hc hi2 o b hout hs
      dsimp only
      refine leaveS0_ F N Tn.turn fun F9 N9 => ?_
      have hsub : ∀ q ∈ fix, q ∈ rest2 := fun q hq => hs q (by simp [hq])
      obtain ⟨tl2, h1, h2⟩ := Hc.less hsub hy
      refine kret k _ t h' tk _ hout (.busy (dr := dr) (r := r) (t := t) (u := u2) (n := c2) (tl := tl2) h2 hi2 ⟨o.1, o.2.1, fun q hq => o.2.2 q ((List.mem_append.mp hq).elim (fun h => (h1 q h).1) (hsub q))⟩ (fun q hq => (h1 q hq).2) b) F9 (news_sub (news_tl N9 fun q hq => (List.mem_append.mp hq).elim (fun h => (h1 q h).1) (hsub q)) (by (try simp only [List.cons_append, List.nil_append]); kqd_sub))
  | @over dc o1 hc =>
    walk_at "ev go"
    k_steps
    unfold Halt
    rename Fr h₀ L _ m => FG
    rename Fr _ _ _ _ => F1
    rename News _ _ _ _ => N1
    rename Below _ _ _ _ => B1
    rename Frag.In _ _ => X1
    rename Top _ _ _ _ _ _ => T1
    rename KtsDicts _ _ => D1
    rename (∀ p, p ∈ (c, _) :: _ → _) => l1
    have hp : @LT.lt Nat _ c _ := l1 _ (.head _)
    have F2 := fr_fun F1 (fun z => mCh_new z)
    refine whl_start 1 (chain_stop (av := .none) (c := c) (dc := dc) (rest := fix) ho B1 F2 X1 (news_sub N1 ?sb3) T1 XB TB D1 ?ke3)
    case sb3 =>
      intro q hq
      simp only [List.mem_cons, List.mem_append, List.cons_append, List.nil_append] at hq ⊢
      exact hq
    case ke3 =>
      intro e h' tk g₁ hh m' Tn F N Y U
      obtain ⟨F9, N9, hcls⟩ := out_frame hef FG Tn.turn F N Y U
      exact kend e h' tk _ rfl (.over o1 hc) F9 (news_sub N9 fun q hq => hq) hcls
end
end Mine
end
section
open PySem PySem.W PyProof.Rows PyProof.V PySem.Calls PySem.Spec
set_option compiler.extract_closed false
set_option Elab.async false
set_option maxRecDepth 100000
set_option maxHeartbeats 3000000
namespace Mine
local macro_rules | `(tactic| walk_at "none0") => `(tactic| skip)
theorem fillD11 : PySem.Challenge.rw_dn0005_07 = PySem.Challenge.rw_dn0005_07 ∧ Mine.hd07.heap_39 = Mine.hd07.heap_39 := by
  k_fill
  exact ⟨rfl, rfl⟩
section
variable {prog : Program} {w : World} {A : Around} {E : Value → Shared → Prop} {s : Shared} {h₀ : Heap} {L x dx v d : Addr} {m : Str → Option Value} {news : List (Addr × Obj)} {es : Array DictEntry} {n : Nat}
theorem cnt_items_meth {pl : Sem Bool} {Q : Value × List Value → Shared → Prop} (F : Fr h₀ L s.heap m) (X₀ : (Mine.hd07.heap_39 w.params).In h₀) (N : News h₀ L s.heap news) (hm : (x, cnt es n dx) ∈ news) (hdx : (dx, dictOf [] 0) ∈ news)
   (h : Q (.builtin "dict.items", [.ref x]) s) : wpAny (model prog w) A (getMethod (.ref x) (Str.ofString "items") pl) Q E s :=
  sub_method (tn := "method_descriptor") (X₀.keeps F.keep) (inst_cnt N hm hdx) (c_ga _) (c_gt _) (c_items _) (by k_is) (by decide) (by show (lookIn (Str.ofString "items") (dictOf [] 0)).map _ = _; rw [lookIn_dict]; rfl) h
theorem iter_view {K : Type} [DecidableEq K] {knd : KeyKind prog w K} {kvs : List (K × Value)} {ep : Nat} {od : Obj} {Q : Value → Shared → Prop} (F : Fr h₀ L s.heap m) (N : News h₀ L s.heap news) (hv : (v, iview d) ∈ news) (hm : (d, od) ∈ news) (hod : od.data = .dict es ep) (D : DIs knd es kvs)
   (h : ∀ I h', Fr h₀ L h' m → News h₀ L h' ((I, itm d 0 kvs.length ep .none false .none .none) :: news) → (∀ p ∈ news, p.1 < I) → Q (.ref I) { s with heap := h' }) : wpAny (model prog w) A (call (.builtin "iter") [.ref v]) Q E s := by
  refine call_function_entry (by decide +kernel) (by decide +kernel) kdk_entry_iter (kdk_args_iter _) ?_
  unfold Builtin.«iter»
  refine wpAny_bind (m := someArgs "iter" 1 2 _) (wpAny_of_eq (a := [Value.ref v]) (by first | rfl | kernel_rfl!) ?_)
  show wpAny _ _ (pyIter (.ref v) >>= _) _ _ _
  refine wpAny_bind (it_iter (N _ hv).1 ⟨od, es, (N _ hm).1, hod, D⟩ ?_)
  exact wpAny_pure ⟨_, rfl, h _ _ (F.push _) (News.push F N _ rfl) fun q hq => Heap.lt_size (N q hq).1⟩
theorem iter_tup {its : Array Value} {Q : Value → Shared → Prop} (F : Fr h₀ L s.heap m) (N : News h₀ L s.heap news) (hv : (v, ({ cls := .type "tuple", data := .seq its } : Obj)) ∈ news)
   (h : ∀ I h', Fr h₀ L h' m → News h₀ L h' ((I, { cls := .type "tuple_iterator", data := .fields #[.ref v, .int 0 0] }) :: news) → (∀ p ∈ news, p.1 < I) → Q (.ref I) { s with heap := h' }) : wpAny (model prog w) A (call (.builtin "iter") [.ref v]) Q E s := by
  refine call_function_entry (by decide +kernel) (by decide +kernel) kdk_entry_iter (kdk_args_iter _) ?_
  unfold Builtin.«iter»
  refine wpAny_bind (m := someArgs "iter" 1 2 _) (wpAny_of_eq (a := [Value.ref v]) (by first | rfl | kernel_rfl!) ?_)
  show wpAny _ _ (pyIter (.ref v) >>= _) _ _ _
  refine wpAny_bind (wpAny_pyIter_tuple (items := its) ⟨_, (N _ hv).1, rfl, _, rfl⟩ ?_)
  exact wpAny_pure ⟨_, rfl, h _ _ (F.push _) (News.push F N _ rfl) fun q hq => Heap.lt_size (N q hq).1⟩
end
/-- the core of a chain just made -/
abbrev core0 (c dc sm ds I x : Addr) (k n : Nat) : List (Addr × Obj) := (c, two 734 dc .none (.ref sm)) :: (dc, emptyDict) :: (sm, two 823 ds (.ref 786) (.ref I)) :: (ds, emptyDict) :: (I, itm x 0 k n .none false .none .none) :: []
theorem el_fin {prog : Program} {w : World} {h₀ h' : Heap} {L x dx c dc sm ds I v q i2 t2 : Addr} {o2 p2 ov oq : Obj} {es : Array DictEntry} {n : Nat} {kvs : List (Int × Value)} {ps : List (Int × Int)} {rest : List (Addr × Obj)} (hD : DIs (PySem.intKind prog w) es kvs) (hi : IntsI kvs ps) (hb : ∀ q ∈ ps, -1000 < q.2 ∧ q.2 < 1000)
    (N : News h₀ L h' ((i2, o2) :: (t2, p2) :: (c, two 734 dc .none (.ref sm)) :: (dc, dictOf [] 0) :: (I, itm x 0 kvs.length n .none false .none .none) :: (sm, two 823 ds (.ref 786) (.ref I)) :: (ds, dictOf [] 0) :: (v, ov) :: (q, oq) :: (x, cnt es n dx) :: (dx, dictOf [] 0) :: rest))
    (o1 : @LT.lt Nat _ ds sm) (o2' : @LT.lt Nat _ sm I) (o3 : @LT.lt Nat _ I dc) (o4 : @LT.lt Nat _ dc c) (nc : ∀ q ∈ (x, cnt es n dx) :: (dx, dictOf [] 0) :: rest, q.1 ≠ c) (nI : ∀ q ∈ (x, cnt es n dx) :: (dx, dictOf [] 0) :: rest, q.1 ≠ I) (n1 : ∀ q ∈ (x, cnt es n dx) :: (dx, dictOf [] 0) :: rest, q.1 ≠ dc) (n2 : ∀ q ∈ (x, cnt es n dx) :: (dx, dictOf [] 0) :: rest, q.1 ≠ ds) (n3 : ∀ q ∈ (x, cnt es n dx) :: (dx, dictOf [] 0) :: rest, q.1 ≠ sm) :
    ChSt prog w c x es kvs ps n (cnt es n dx) ((x, cnt es n dx) :: (dx, dictOf [] 0) :: rest) (expand ps) (core0 c dc sm ds I x kvs.length n) ∧ News h₀ L h' (core0 c dc sm ds I x kvs.length n ++ ((x, cnt es n dx) :: (dx, dictOf [] 0) :: rest)) := by
  refine ⟨ChSt.idle (tl := []) (i := 0) ⟨o1, o2', o3, o4, nc, nI, fun q hq => ⟨n1 q hq, n2 q hq, n3 q hq⟩, .head _, rfl, hD, hi, hb, .inl ⟨_, _, rfl⟩⟩ (Nat.zero_le _) (fun _ h => nomatch h), news_sub N (by (try simp only [List.cons_append, List.nil_append]); kqd_sub)⟩
theorem ne3 {x dx a b : Nat} {o1 o2 : Obj} {rest : List (Addr × Obj)} (h : x < a ∧ dx < a ∧ AllLt a rest) (hab : a ≤ b) : ∀ q ∈ ((x, o1) :: (dx, o2) :: rest : List (Addr × Obj)), q.1 ≠ b :=
  List.forall_mem_cons.mpr ⟨Nat.ne_of_lt (Nat.lt_of_lt_of_le h.1 hab), List.forall_mem_cons.mpr ⟨Nat.ne_of_lt (Nat.lt_of_lt_of_le h.2.1 hab), all_ne h.2.2 hab⟩⟩
local macro_rules | `(tactic| k_all) => `(tactic| (((repeat (rename And _ _ => hx; cases hx)); (exact all_ne (by assumption) (by omega)))))
local macro_rules | `(tactic| walk_at "getMethod ref") => `(tactic| (k_here; refine cnt_items_meth ‹_› ‹_› ‹_› (by k_mem) (by k_mem) ?_))
local macro_rules | `(tactic| walk_at "call builtin:dict.items") => `(tactic| (k_here; (refine cnt_items_K ‹_› ‹_› ‹_› (by k_mem) (by k_mem) ‹_› ?_; intro v' h' F' N' l1)))
local macro_rules | `(tactic| walk_at "call builtin:iter") => `(tactic| (k_here; first
  | (refine iter_own ‹_› ‹_› (by k_inst) (by k_is) (by k_is) ?_)
  | (refine iter_view (knd := PySem.intKind _ _) ‹_› ‹_› (by k_mem) (by k_mem) rfl ‹_› ?_; intro I' h' F' N' l1; (try k_lt l1))
  | (refine iter_tup ‹_› ‹_› (by k_mem) ?_; intro I' h' F' N' l1; (try k_lt l1))))
section
variable {prog : Program} {w : World} {A₀ : Around} {base h₀ : Heap} {outer : List Env} {e0 : Env} {L : Addr} {m mg mb : Str → Option Value} {mean : ExcName → Option Value} {s : Shared} {R : Result → Shared → Prop} {rest : List (Addr × Obj)}
theorem elements_spec {x dx : Addr} {es : Array DictEntry} {n : Nat}
   {kvs : List (Int × Value)} (hD : DIs (PySem.intKind prog w) es kvs) (hsx : (x == sysModules) = false) (B : Below A₀ base outer h₀) (F : Fr h₀ L s.heap m) (X : (Mine.hd07.heap_39 w.params).In h₀) (N : News h₀ L s.heap ((x, cnt es n dx) :: (dx, dictOf [] 0) :: rest)) (T : Top vw ls mean mg mb h₀)
   {ps : List (Int × Int)} (hi : IntsI kvs ps) (hb : ∀ q ∈ ps, -1000 < q.2 ∧ q.2 < 1000)
   (kk : ∀ c core h' tk, ChSt prog w c x es kvs ps n (cnt es n dx) ((x, cnt es n dx) :: (dx, dictOf [] 0) :: rest) (expand ps) core → Fr h₀ L h' m → News h₀ L h' (core ++ ((x, cnt es n dx) :: (dx, dictOf [] 0) :: rest)) → R (.ok (.ret (.ref c))) { s with heap := h', toks := tk })
   : codeAny (model prog w) (AK 15 (ek e0 L) outer) (.call (.ref 916) ⟨[.ref x], []⟩) R s := by
  k_enter
  k_steps
  rename @LT.lt Nat _ x _ ∧ _ ∧ AllLt _ rest => l6
  have fin := el_fin hD hi hb (by assumption : News h₀ L _ _) (by omega) (by omega) (by omega) (by omega) (ne3 l6 (by omega)) (ne3 l6 (by omega)) (ne3 l6 (by omega)) (ne3 l6 (by omega)) (ne3 l6 (by omega))
  exact kk _ _ _ _ fin.1 (by assumption) fin.2
end
end Mine
end
section
open PySem PySem.W PyProof.Rows PyProof.V PySem.Calls PySem.Spec Builtin Builtin.ObjectAttr
set_option Elab.async false
set_option maxRecDepth 100000
set_option maxHeartbeats 3000000
namespace Mine
theorem fillD12 : PySem.Challenge.rw_dn0005_07 = PySem.Challenge.rw_dn0005_07 ∧ Mine.hd07.heap_39 = Mine.hd07.heap_39 := by
  k_fill
  exact ⟨rfl, rfl⟩
theorem c_upd (P : Params) : findIn (Mine.hd07.heap_39 P) (.ref 1093) (Str.ofString "update") = some (some (.ref 936)) := by k_is
theorem c_upd_fn (P : Params) : typeIn (Mine.hd07.heap_39 P) (.ref 936) = some (.type "function") := by k_is
section
variable {prog : Program} {w : World} {A : Around} {E : Value → Shared → Prop} {s : Shared} {d o : Addr} {od oo : Obj} {es2 : Array DictEntry} {ep ep2 : Nat} {more : List (Int × Value)}
theorem int_part {es2 : Array DictEntry} (D : DIs (PySem.intKind prog w) es2 more) : ∀ e ∈ es2, ∃ k t, e.key = .int k t := by
  intro e he
  obtain ⟨k, hk, _⟩ := D.keys e he
  obtain ⟨t, ht⟩ := PySem.Value.isInt_shape hk
  exact ⟨k, t, ht⟩
/-- the entries of o laid into the empty object d -/
theorem merge_nil {nm : String} {Q : Unit → Shared → Prop} (hdo : d ≠ o) (hoS : (o == sysModules) = false) (ho : s.heap.get? d = some od) (hd : od.data = .dict #[] ep) (ho2 : s.heap.get? o = some oo) (hd2 : oo.data = .dict es2 ep2) (D2 : DIs (PySem.intKind prog w) es2 more) (hsz : more.length ≤ sizeLine)
    (h : ∀ h' es' ep', DIs (PySem.intKind prog w) es' more → h'.get? d = some { od with data := .dict es' ep' } → Heap.SameBut d s.heap h' → Q () { s with heap := h' }) :
    wpAny (model prog w) A (Builtin.Dict.mergeDict nm d o) Q E s := by
  cases hfew : (decide (es2.size ≤ 8) && es2.all fun e => (keyPart e.key).isSome) with
  | true =>
    refine merge_in (kvs := []) hdo hoS ho hd DIs.nil ho2 hd2 D2 hfew (by simpa using hsz) fun h' es' ep' D' hd' hs' => h h' es' ep' ?_ hd' hs'
    rw [merged_nil_of_nodup more D2.nodup] at D'
    exact D'
  | false =>
    unfold Builtin.Dict.mergeDict
    rw [if_neg (by simpa using hdo)]
    unfold Builtin.Dict.showsAll
    rw [if_neg (by rw [hoS]; exact Bool.false_ne_true)]
    refine wpAny_bind (wpAny_pure ?_)
    refine wpAny_bind (wpAny_dictEntries ho2 hd2 ?_)
    dsimp only
    rw [hfew]
    simp only [Bool.not_false, if_true]
    refine wpAny_bind (wpAny_dictEntries ho hd ?_)
    rw [if_pos (by rfl)]
    unfold Builtin.Dict.entriesForEmpty
    refine wpAny_bind (wpAny_bind (wpAny_dictEntries ho2 hd2 (wpAny_bind ?_)))
    rw [← Array.forIn_toList]
    refine wpAny_forIn_list _ (fun rest _ s' => (∀ e ∈ rest, e ∈ es2.toList) ∧ s' = s) _ ?_ ?_ _ _ ⟨fun _ h => h, rfl⟩
    · rintro e rest b s' ⟨hin, rfl⟩
      obtain ⟨k, t, ht⟩ := int_part D2 e (Array.mem_toList_iff.mp (hin e (.head _)))
      rw [ht]
      refine wpAny_bind (wpAny_pure ?_)
      exact wpAny_pure ⟨fun e' he => hin e' (.tail _ he), rfl⟩
    rintro b s' ⟨_, rfl⟩
    refine wpAny_pure ?_
    have hne : es2.isEmpty = false := by
      cases q : es2.isEmpty with
      | false => rfl
      | true =>
        rw [Array.isEmpty_iff] at q
        subst q
        simp at hfew
    rw [hne]
    simp only [Bool.not_false, if_true]
    obtain ⟨oc, odd, oda, osl⟩ := od
    dsimp only at hd
    subst hd
    exact wpAny_bind (wpAny_updateDictKeysTo ho rfl (wpAny_pure (h _ es2 (ep + 1) D2 (Heap.get?_update_self _ ho rfl) (Heap.SameBut.update ..))) (by rw [D2.size]; exact Nat.le_succ_of_le hsz))
end
section
variable {prog : Program} {w : World} {A : Around} {E : Value → Shared → Prop} {s : Shared} {h₀ : Heap} {L x y dx dy q : Addr} {m : Str → Option Value} {news l : List (Addr × Obj)} {n : Nat}
/-- the bound update of a Counter, with a dict -/
theorem updI_dict {o : Obj} {es2 : Array DictEntry} {n2 : Nat} {more : List (Int × Value)} {Q : Value → Shared → Prop} (Fr0 : Fr h₀ L s.heap m) (X₀ : (Mine.hd07.heap_39 w.params).In h₀) (N : News h₀ L s.heap news) (hm : (x, cnt #[] n dx) ∈ news) (hdx : (dx, dictOf [] 0) ∈ news) (hq : (q, bm "dict.update" x) ∈ news) (hy : (y, o) ∈ news) (hcl : o.cls = .type "dict") (hod : o.data = .dict es2 n2) (D2 : DIs (PySem.intKind prog w) es2 more)
    (hsz : more.length ≤ sizeLine) (hxy : x ≠ y) (hsx : (x == sysModules) = false) (hsy : (y == sysModules) = false)
    (h : ∀ h' es' n' t', DIs (PySem.intKind prog w) es' more → h'.get? x = some (cnt es' n' dx) → Heap.SameBut x s.heap h' → Q .none { s with heap := h', toks := t' }) : wpAny (model prog w) A (call (.ref q) [.ref y] []) Q E s := by
  have X := X₀.keeps Fr0.keep
  have I := inst_cnt N hm hdx
  have hx := (N _ hm).1
  have hqo := (N _ hq).1
  have hyo := (N _ hy).1
  have L1 := looks_subIn (M := model prog w) X (c_nomod _)
  have L2 := looks_typeIn (M := model prog w) X (c_meta _)
  have L3 := looks_subIn (M := model prog w) X (c_noord _)
  obtain ⟨hh, g, d, t, os⟩ := s
  refine wpAny_call (codeAny_of_tree ?_)
  show wpAny _ _ (callAny (.ref q) _) _ _ _
  dsimp only at hqo hx hyo
  refine nd_load hqo ?_
  repeat lk
  obtain ⟨c1, d1, s1, cd, hC⟩ : ∃ c1 d1 s1 cd, hh.get? 1093 = some ⟨c1, d1, .cls cd, s1⟩ := by
    obtain ⟨cd, hc⟩ := Option.isSome_iff_exists.mp (c_clsIn w.params)
    unfold clsIn at hc
    split at hc
    · rename_i ho
      exact ⟨_, _, _, _, X _ _ ho⟩
    · cases hc
  have hfull := full_ne2 (toString cd.qualname.toString)
  refine nd_load hC ?_
  repeat lk
  rw [if_pos hfull]
  repeat lk
  refine ⟨by first | rfl | (with_unfolding_all rfl) | kernel_rfl, codeAny_builtin F.entry_dict_update ?_⟩
  unfold Builtin.«dict.update» Builtin.Dict.selfAndRest Builtin.Dict.updateCommon
  have LY : ∀ M, Looks M hh (typeOf (.ref y)) (.type "dict") := fun M => (Looks.ld (part := none) hyo).andThen (f := fun o => (pure o.cls : Sem Value)) (by rw [hcl]; exact .now)
  have LY1 := LY (model prog w)
  repeat ((fail_if_success (with_reducible show wpAny _ _ (Builtin.Dict.mergeDict _ _ _) _ _ _)); lk)
  refine merge_nil (s := ⟨hh, g, d, t, os⟩) hxy hsy hx rfl hyo hod D2 hsz fun h' es' n' D' hx' hs' => ?_
  repeat lk
  exact h h' es' n' t D' hx' hs'
theorem updI_dict_K {o : Obj} {es2 : Array DictEntry} {n2 : Nat} {more : List (Int × Value)} {Q : Value → Shared → Prop} (l : List (Addr × Obj)) (F : Fr h₀ L s.heap m) (X₀ : (Mine.hd07.heap_39 w.params).In h₀) (N : News h₀ L s.heap news) (hm : (x, cnt #[] n dx) ∈ news) (hdx : (dx, dictOf [] 0) ∈ news) (hq : (q, bm "dict.update" x) ∈ news) (hy : (y, o) ∈ news) (hcl : o.cls = .type "dict") (hod : o.data = .dict es2 n2) (D2 : DIs (PySem.intKind prog w) es2 more)
    (hsz : more.length ≤ sizeLine) (hxy : y ≠ x) (hsx : (x == sysModules) = false) (hsy : (y == sysModules) = false) (hl : ∀ p ∈ l, p ∈ news ∧ p.1 ≠ x)
    (h : ∀ h' es' n' tk, DIs (PySem.intKind prog w) es' more → Fr h₀ L h' m → News h₀ L h' ((x, cnt es' n' dx) :: l) → Q .none { s with heap := h', toks := tk }) : wpAny (model prog w) A (call (.ref q) [.ref y] []) Q E s := by
  have hmx := N _ hm
  refine updI_dict F X₀ N hm hdx hq hy hcl hod D2 hsz (Ne.symm hxy) hsx hsy fun h' es' n' t' D' hx' hs' => h h' es' n' t' D' (F.change hs' hmx.2.1 hmx.2.2) fun p hp => ?_
  rcases List.mem_cons.mp hp with rfl | hp
  · exact ⟨hx', hmx.2⟩
  · have z := hl p hp
    exact ⟨(hs'.2 p.1 z.2).trans (N p z.1).1, (N p z.1).2⟩
end
end Mine
end
section
open PySem PySem.W PyProof.Rows PyProof.V PySem.Calls PySem.Spec Builtin Builtin.ObjectAttr
set_option compiler.extract_closed false
set_option Elab.async false
set_option maxRecDepth 100000
set_option maxHeartbeats 3000000
namespace Mine
theorem fillD13 : PySem.Challenge.rw_dn0005_07 = PySem.Challenge.rw_dn0005_07 ∧ Mine.hd07.heap_39 = Mine.hd07.heap_39 := by
  k_fill
  exact ⟨rfl, rfl⟩
local macro_rules | `(tactic| k_room) => `(tactic| ((try dsimp only [AK]); (have h1000 : recursionLimit = 1000 := rfl); omega))
local macro_rules | `(tactic| walk_at "k le") => `(tactic| (((dsimp only [Around.deeper, Around.in1]; omega))))
local macro_rules | `(tactic| walk_at "call builtin:isinstance") => `(tactic| (k_here; (refine isi_dict_K rfl rfl rfl rfl rfl (by walk_at "k le") (by walk_at "k le") ‹_› ‹_› ‹_› ‹_› ‹_› (by ((repeat (first | assumption | refine List.Mem.tail _ ?_)))) ‹_› ?_; intro h' tk' F' N')))
local macro_rules | `(tactic| walk_at "truthy ref") => `(tactic| (k_here; first
  | (refine cnt_truthy ‹_› ‹_› ‹_› (by k_mem) (by k_mem) ‹_› (by first | assumption | simp) ?_; intro t'; refine halt ?_)
  | (refine dict_truthy_K ‹_› (by k_mem) ‹_› ‹_› (by first | assumption | simp) ?_; intro t'; dsimp only [List.isEmpty])))
local macro_rules | `(tactic| walk_at "getMethod ref") => `(tactic| (k_here; (refine super_upd_K ‹_› ‹_› ‹_› (by k_mem) (by k_mem) (by k_mem) ?_; intro q' h' F' N' l')))
local macro_rules | `(tactic| walk_at "callWith ref") => `(tactic| (k_here; refine callWith_B ‹_› (by k_mem) ?_))
local macro_rules | `(tactic| walk_at "BmAt") => `(tactic| (exact bm_of ‹_› (by k_mem)))
local macro_rules | `(tactic| walk_at "call ref") => `(tactic| (k_here; refine halt ?_))
local macro_rules | `(tactic| walk_at "wpAt") => `(tactic| ((with_reducible show _root_.PySem.wpAt _ _ _ (exec (Stmt.Expr (PySem.Expr.Call (PySem.Expr.Attribute _ _ _) _ _ _) _) _) _ _ _); refine halt ?_))
section
variable {prog : Program} {w : World} {A₀ : Around} {base h₀ : Heap} {outer : List Env} {e0 : Env} {L : Addr} {m mg mb : Str → Option Value} {mean : ExcName → Option Value} {s : Shared} {R : Result → Shared → Prop} {rest : List (Addr × Obj)}
theorem updI_map {l : Nat} (hlv : l ≤ 13) {x dx y : Addr} {oy : Obj} {es2 : Array DictEntry} {n n2 : Nat} {more : List (Int × Value)} (hfile : ((prog.main.file : Str) == Str.ofString "/claim/cut.py") = true) (htop : (prog.main.scope.names.lookup (Str.ofString "super")).isSome = false)
    (hy : (y, oy) ∈ rest) (hcl : oy.cls = .type "dict") (hod : oy.data = .dict es2 n2) (D2 : DIs (PySem.intKind prog w) es2 more) (hsz : more.length ≤ sizeLine) (hsx : (x == sysModules) = false) (hsy : (y == sysModules) = false) (hxr : ∀ p ∈ rest, p.1 ≠ x)
    (B : Below A₀ base outer h₀) (F : Fr h₀ L s.heap m) (X : (Mine.hd07.heap_39 w.params).In h₀) (N : News h₀ L s.heap ((x, cnt #[] n dx) :: (dx, dictOf [] 0) :: rest)) (T : Top vw ls mean mg mb h₀)
    (k : ∀ h' tk es' n', DIs (PySem.intKind prog w) es' more → Fr h₀ L h' m → News h₀ L h' ((x, cnt es' n' dx) :: (dx, dictOf [] 0) :: rest) → R (.ok (.ret .none)) {s with heap := h', toks := tk}) :
    codeAny (model prog w) (AK l (ek e0 L) outer) (.call (.ref 936) ⟨[.ref x, .ref y], []⟩) R s := by
  refine' more_at (ex := []) ?k1 ?k2 ?k3 ?k4 ?k5 ?kA ?kF ?kK ?k6 ?k7 ?k8 ?kX ?kM ?kN ?kR ?kP ?kT ?kB ?_ ?c2 ?c3 ?c4 ?c5
  case kA => exact rfl
  case kF => exact rfl
  case kK => exact rfl
  case k1 => k_asm
  case k2 => k_asm
  case k3 => k_asm
  case k4 => k_asm
  case k5 => k_asm
  case k6 => k_is
  case k7 => k_is
  case k8 => k_room
  case kX => exact rfl
  case kM => exact rfl
  case kN => exact List.nodup_nil
  case kR => exact rfl
  case kP => exact rfl
  case kT => exact fun _ => rfl
  case kB => exact fun _ => locs rfl
  case c5 => decide
  case c2 => exact rfl
  case c3 => exact rfl
  case c4 => exact rfl
  k_whole
  intro D1 o1 g1 L1 h1 tk1 l1 lo1 hs1 FG1 F1 N1 B1 X1 T1
  have hx2 : ∀ {a : Addr}, x < a → a ≠ x := fun h e => Nat.lt_irrefl _ (e ▸ h)
  have hxy : y ≠ x := hxr _ hy
  k_steps
  unfold Halt
  rw [if_neg (show ¬ (((#[] : Array DictEntry).size != 0) = true) by decide)]
  k_steps
  unfold Halt
  ks_step "exec Expr"
  refine ks_wpAt_Expr_any ?_
  refine ks_wpAt_MethodCall ?_
  k_here
  refine ks_node (by k_asm) (by k_asm) (by k_asm) (by k_asm) (by k_is) (by rfl) (by rfl) (inst_cnt (by k_asm) (by k_mem) (by k_mem)) (by k_is) (by rfl) hfile (by k_is) (by k_is) (by k_is) (by k_is) (by decide) (by rfl) (by rfl) (by rfl) (by rfl) htop (by first | boot_by_name | rfl | kernel_rfl) ?_
  intro so' h' F' N' l1'
  k_steps
  unfold Halt
  rename_i q5 h5 F5 N5 l5
  refine updI_dict_K (y := y) ((q5, bm "dict.update" x) :: (so', ks_superObj 1093 x 1093) :: (D1, o1) :: (dx, dictOf [] 0) :: rest) F5 (by k_asm) N5 (by k_mem) (by k_mem) (by k_mem) (by simp [hy]) hcl hod D2 hsz hxy hsx hsy (fun p hp => ?_) ?_
  · simp only [List.mem_cons] at hp
    rcases hp with rfl | rfl | rfl | rfl | hp
    · exact ⟨by k_mem, hx2 (l5 (x, cnt #[] n dx) (by k_mem))⟩
    · exact ⟨by k_mem, hx2 (l1' (x, cnt #[] n dx) (by k_mem))⟩
    · exact ⟨by k_mem, hx2 (l1 (x, cnt #[] n dx) (by k_mem))⟩
    · exact ⟨by k_mem, ne_cls N5 (o := cnt #[] n dx) (by k_mem) (p := (dx, dictOf [] 0)) (by k_mem) (by intro e; cases e)⟩
    · exact ⟨by simp [hp], hxr p hp⟩
  · intro h7 es7 n7 tk7 D7 F7 N7
    k_steps
    refine k _ _ es7 n7 D7 (by assumption) (news_sub (by assumption) fun p hp => ?_)
    revert p; kqd_sub
theorem updI_none {l : Nat} (hlv : l ≤ 13) {x dx : Addr} {n : Nat} (hsx : (x == sysModules) = false)
    (B : Below A₀ base outer h₀) (F : Fr h₀ L s.heap m) (X : (Mine.hd07.heap_39 w.params).In h₀) (N : News h₀ L s.heap ((x, cnt #[] n dx) :: (dx, dictOf [] 0) :: rest)) (T : Top vw ls mean mg mb h₀)
    (k : ∀ h' tk, Fr h₀ L h' m → News h₀ L h' ((x, cnt #[] n dx) :: (dx, dictOf [] 0) :: rest) → R (.ok (.ret .none)) {s with heap := h', toks := tk}) :
    codeAny (model prog w) (AK l (ek e0 L) outer) (.call (.ref 936) ⟨[.ref x, .none], []⟩) R s := by
  refine' more_at (ex := []) ?k1 ?k2 ?k3 ?k4 ?k5 ?kA ?kF ?kK ?k6 ?k7 ?k8 ?kX ?kM ?kN ?kR ?kP ?kT ?kB ?_ ?c2 ?c3 ?c4 ?c5
  case kA => exact rfl
  case kF => exact rfl
  case kK => exact rfl
  case k1 => k_asm
  case k2 => k_asm
  case k3 => k_asm
  case k4 => k_asm
  case k5 => k_asm
  case k6 => k_is
  case k7 => k_is
  case k8 => k_room
  case kX => exact rfl
  case kM => exact rfl
  case kN => exact List.nodup_nil
  case kR => exact rfl
  case kP => exact rfl
  case kT => exact fun _ => rfl
  case kB => exact fun _ => locs rfl
  case c5 => decide
  case c2 => exact rfl
  case c3 => exact rfl
  case c4 => exact rfl
  k_whole
  intro D1 o1 g1 L1 h1 tk1 l1 lo1 hs1 FG1 F1 N1 B1 X1 T1
  k_steps
  refine k _ _ (by assumption) (news_sub (by assumption) fun p hp => ?_)
  revert p; kqd_sub
end
end Mine
end
section
open PySem PySem.W PyProof.Rows PyProof.V PySem.Calls PySem.Spec Builtin Builtin.ObjectAttr
set_option compiler.extract_closed false
set_option Elab.async false
set_option maxRecDepth 100000
set_option maxHeartbeats 3000000
namespace Mine
theorem fillD14 : PySem.Challenge.rw_dn0005_07 = PySem.Challenge.rw_dn0005_07 ∧ Mine.hd07.heap_39 = Mine.hd07.heap_39 := by
  k_fill
  exact ⟨rfl, rfl⟩
section
variable {prog : Program} {w : World} {A : Around} {E : Value → Shared → Prop} {s : Shared} {h₀ : Heap} {L x dx q : Addr} {m : Str → Option Value} {news : List (Addr × Obj)} {es : Array DictEntry} {n : Nat}
theorem init_call {Q : Value → Shared → Prop} (Fr0 : Fr h₀ L s.heap m) (X₀ : (Mine.hd07.heap_39 w.params).In h₀) (N : News h₀ L s.heap news) (hm : (x, cnt es n dx) ∈ news) (hdx : (dx, dictOf [] 0) ∈ news) (hq : (q, mw "dict.__init__" x) ∈ news)
    (h : Q .none s) : wpAny (model prog w) A (call (.ref q) [] []) Q E s := by
  have X := X₀.keeps Fr0.keep
  have I := inst_cnt N hm hdx
  have hx := (N _ hm).1
  have hqo := (N _ hq).1
  have L0 := I.type (M := model prog w)
  have L1 := looks_subIn (M := model prog w) X (c_nomod _)
  have L2 := looks_typeIn (M := model prog w) X (c_meta _)
  have L3 := looks_subIn (M := model prog w) X (c_noord _)
  have L5 : Looks (model prog w) s.heap (isInstance (.ref x) (.type "dict")) true := L0.andThen (looks_subIn X (c_sub _))
  obtain ⟨hh, g, d, t, os⟩ := s
  refine wpAny_call (codeAny_of_tree ?_)
  show wpAny _ _ (callAny (.ref q) _) _ _ _
  dsimp only at hqo hx
  refine nd_load hqo ?_
  repeat lk
  refine ⟨by first | rfl | (with_unfolding_all rfl) | kernel_rfl, codeAny_builtin (entryFor_of_tree (b := Builtin.«dict.__init__») (by kernel_rfl)) ?_⟩
  unfold Builtin.«dict.__init__» Builtin.Dict.selfAndRest Builtin.Dict.updateCommon
  repeat lk
  exact h
def WmAt (q x : Addr) (h : Heap) : Prop := h.get? q = some (mw "dict.__init__" x)
theorem keeps_W {M : Model} (h : Heap) (X : WmAt q x h) : ∃ k, (k = Keeper.frame ∨ k = Keeper.machine ∨ k = Keeper.boundFrame) ∧ Looks M h (keeperOf (.ref q)) k :=
  ⟨.machine, .inr (.inl rfl), (Looks.ld (part := none) X).andThen .now⟩
theorem callWith_W {M : Model} {pos : Pos} {env : Env} {Q : Value → Shared → Prop} (N : News h₀ L s.heap news) (hq : (q, mw "dict.__init__" x) ∈ news) (h : wpAny M A (call (.ref q) []) Q E s) :
    wpAny M A (callWith pos (.ref q) [] (backTo pos (starEach [] env)) []) Q E s :=
  callWith_of (P := WmAt q x) rfl keeps_W (evalArgs_nil3 ⟨(N _ hq).1, h⟩)
theorem cnt_meth_K {b : Bool} {fn : Addr} {name : Str} {Q : Value → Shared → Prop} (F : Fr h₀ L s.heap m) (X₀ : (Mine.hd07.heap_39 w.params).In h₀) (N : News h₀ L s.heap news) (hm : (x, cnt es n dx) ∈ news) (hdx : (dx, dictOf [] 0) ∈ news)
    (h1 : findIn (Mine.hd07.heap_39 w.params) (.ref 1093) name = some (some (.ref fn))) (h2 : specialIn (Mine.hd07.heap_39 w.params) (.ref fn) "__get__" = some (some (.builtin "function.__get__"))) (h3 : takesIn (Mine.hd07.heap_39 w.params) (.ref fn) = some false) (h4 : typeIn (Mine.hd07.heap_39 w.params) (.ref fn) = some (.type "function")) (hc : copiedNames.contains name = false)
    (h : ∀ q h', Fr h₀ L h' m → News h₀ L h' ((q, methodObj (.ref fn) (.ref x)) :: news) → (∀ p ∈ news, p.1 < q) → Q (.ref q) { s with heap := h', toks := s.toks + 1 }) :
    wpAny (model prog w) A (getAttr (.ref x) name b) Q E s := by
  have X := X₀.keeps F.keep
  have I := inst_cnt N hm hdx
  refine sub_get_bind X I (c_ga _) (c_gt _) (c_sub _) (findObj_meth (c_has _) h1 h2 h3 hc (by rw [lookIn_dict]; rfl)) ?_
  refine fn_get (s := { s with toks := s.toks + 1 }) X h4 ?_
  show wpAny _ _ (handedOut (.ref _)) _ _ _
  exact wpAny_pure (h _ _ (F.push _) (N.push F _) fun p hp => Heap.lt_size (N p hp).1)
theorem keeps_meth {K : Frag} {fn : Addr} {news : List (Addr × Obj)} (X₀ : K.In h₀) (hf : fnIn K fn = true) (hq : (q, methodObj (.ref fn) (.ref x)) ∈ news) : ∀ h', Fr h₀ L h' m → News h₀ L h' news → ∃ k, (k = Keeper.frame ∨ k = Keeper.machine ∨ k = Keeper.boundFrame) ∧ Looks (model prog w) h' (keeperOf (.ref q)) k :=
  fun h' F' N' => keeps_M hf h' (methP N' hq (X₀.keeps F'.keep))
end
theorem use_code {prog : Program} {w : World} (l : Nat) {A : Around} {env : Env} {outer : List Env} {L : Addr} {c : Code} {R : Result → Shared → Prop} {s : Shared}
    (hA : A.frames = some (env :: outer)) (hf : env.frame = some L) (hk : env.scope.kind = .function) (hh : A.handled = none) (hg : A.guards = some []) (hd : A.depth ≤ 400 + 10 * l) (hu : A.units ≤ 1000 + 100 * l)
    (h : codeAny (model prog w) (AK l (ek env L) outer) c R s) : codeAny (model prog w) A c R s := codeAny_weak hh hd (by rw [hA, ek_eq hf hk]) hg hu h
theorem c_upd_get (P : Params) : specialIn (Mine.hd07.heap_39 P) (.ref 936) "__get__" = some (some (.builtin "function.__get__")) := by k_is
theorem c_upd_takes (P : Params) : takesIn (Mine.hd07.heap_39 P) (.ref 936) = some false := by k_is
theorem c_upd_isfn (P : Params) : fnIn (Mine.hd07.heap_39 P) 936 = true := by k_is

local macro_rules | `(tactic| walk_at "k le") => `(tactic| (((dsimp only [Around.deeper, Around.in1]; omega))))
local macro_rules | `(tactic| walk_at "getMethod ref") => `(tactic| (k_here; ((refine super_init_K ‹_› ‹_› ‹_› (by k_mem) (by k_mem) (by k_mem) ?_; intro q' h' F' N' l'))))
local macro_rules | `(tactic| walk_at "getAttr ref") => `(tactic| (k_here; (refine cnt_meth_K ‹_› ‹_› ‹_› (by k_mem) (by k_mem) (c_upd _) (c_upd_get _) (c_upd_takes _) (c_upd_fn _) (by decide) ?_; intro q' h' F' N' l')))
local macro_rules | `(tactic| walk_at "eval Call Attribute") => `(tactic| (k_here; refine methodCall_star ?_))
local macro_rules | `(tactic| walk_at "callWith ref nil nil") => `(tactic| (k_here; refine callWith_W ‹_› (by k_mem) ?_))
local macro_rules | `(tactic| walk_at "callWith ref") => `(tactic| (k_here; refine callWith_star ‹_› ?_))
local macro_rules | `(tactic| walk_at "call ref") => `(tactic| (k_here; refine init_call ‹_› ‹_› ‹_› (by k_mem) (by k_mem) (by k_mem) ?_))
local macro_rules | `(tactic| walk_at "StarRest") => `(tactic| (refine halt ?_))
local macro_rules | `(tactic| walk_at "wpAt") => `(tactic| ((with_reducible show _root_.PySem.wpAt _ _ _ (exec (Stmt.Expr (PySem.Expr.Call (PySem.Expr.Attribute _ _ _) _ _ _) _) _) _ _ _); refine halt ?_))
theorem c_init (P : Params) : findIn (Mine.hd07.heap_39 P) (.ref 1093) (Str.ofString "__init__") = some (some (.ref 887)) := by k_is
section
variable {prog : Program} {w : World} {A₀ : Around} {base h₀ : Heap} {outer : List Env} {e0 : Env} {L : Addr} {m mg mb : Str → Option Value} {mean : ExcName → Option Value} {s : Shared} {R : Result → Shared → Prop} {rest : List (Addr × Obj)}
theorem W_initI {l : Nat} (hlv : l ≤ 12) {name qual : Str} {params : Arguments} {body : List Stmt} {scope : Scope} {cl : List (Str × Addr)} {dV kV doc pm cdv ct oc : Value} {an od : Option Addr} {osl : Array (Option Value)}
    (ho : (Mine.hd07.heap_39 w.params).lookup 887 = some ⟨oc, od, .func (fnX name qual params body scope cl dV kV doc pm an cdv ct), osl⟩)
    {x dx D1 L1 : Addr} {o1 : Obj} {v : Value} {tk1 : Nat} (Po : Array DictEntry → Prop) {g1 h1 : Heap}
    (hfile : ((prog.main.file : Str) == Str.ofString "/claim/cut.py") = true) (htop : (prog.main.scope.names.lookup (Str.ofString "super")).isSome = false)
    (hsx : (x == sysModules) = false) (hxr : ∀ p ∈ rest, p.1 ≠ x)
    (hex : o1.IsDictOf (PySem.strKind prog w) []) (hsD : (D1 == sysModules) = false)
    (hupd : ∀ {A₀ : Around} {base h₀ : Heap} {outer : List Env} {e0 : Env} {L : Addr} {m mg mb : Str → Option Value} {mean : ExcName → Option Value} {s : Shared} {R : Result → Shared → Prop} {rest' : List (Addr × Obj)} {n : Nat}, (∀ p ∈ rest, p ∈ rest') → (∀ p ∈ rest', p.1 ≠ x) →
      Below A₀ base outer h₀ → Fr h₀ L s.heap m → (Mine.hd07.heap_39 w.params).In h₀ → News h₀ L s.heap ((x, cnt #[] n dx) :: (dx, dictOf [] 0) :: rest') → Top vw ls mean mg mb h₀ →
      (∀ h' tk es' n', Po es' → Fr h₀ L h' m → News h₀ L h' ((x, cnt es' n' dx) :: (dx, dictOf [] 0) :: rest') → R (.ok (.ret .none)) {s with heap := h', toks := tk}) →
      codeAny (model prog w) (AK (l + 1) (ek e0 L) outer) (.call (.ref 936) ⟨[.ref x, v], []⟩) R s)
    (k : ∀ h' tk es' n', Po es' → Fr h₀ L h' m → News h₀ L h' ((x, cnt es' n' dx) :: (dx, dictOf [] 0) :: rest) → R (.ok (.ret .none)) {s with heap := h', toks := tk})
    (B : Below A₀ base outer h₀) (F : Fr h₀ L s.heap m) (X : (Mine.hd07.heap_39 w.params).In h₀) (N : News h₀ L s.heap ((x, cnt #[] 0 dx) :: (dx, dictOf [] 0) :: rest)) (T : Top vw ls mean mg mb h₀)
    (l1 : ∀ p ∈ (x, cnt #[] 0 dx) :: (dx, dictOf [] 0) :: rest, p.1 < D1) (FG1 : Fr h₀ L g1 m) (F1 : Fr g1 L1 h1 (fun z => [(Str.ofString "kwds", Value.ref D1), (Str.ofString "iterable", v), (Str.ofString "self", .ref x)].lookup z))
    (N1 : News g1 L1 h1 ((D1, o1) :: (x, cnt #[] 0 dx) :: (dx, dictOf [] 0) :: rest)) (B1 : Below (AK l (ek e0 L) outer) base (ek e0 L :: outer) g1) (X1 : (Mine.hd07.heap_39 w.params).In g1) (T1 : Top vw ls mean mg mb g1) :
    _root_.PySem.wpAt (model prog w) ((AK l (ek e0 L) outer).deeper (envX qual scope L1 887 cdv cl)) (.func body (envX qual scope L1 887 cdv cl)) (execs body (envX qual scope L1 887 cdv cl))
        (fun fl s' => LeaveK h₀ L m g1 R (match fl with | .ret v => v | _ => .none) s')
        (fun e s' => wpAny (model prog w) ((AK l (ek e0 L) outer).deeper (envX qual scope L1 887 cdv cl)) (leaving (envX qual scope L1 887 cdv cl) e) (fun _ s'' => R (.error e) s'') (fun e' s'' => R (.error e') s'') s')
        { s with heap := h1, toks := tk1 } := by
  have e := ho.symm.trans (by k_is : (Mine.hd07.heap_39 w.params).lookup 887 = some _)
  cases e
  have hx2 : ∀ {a : Addr}, x < a → a ≠ x := fun h e => Nat.lt_irrefl _ (e ▸ h)
  k_steps
  unfold Halt
  ks_step "exec Expr"
  refine ks_wpAt_Expr_any ?_
  refine ks_wpAt_MethodCall ?_
  k_here
  refine ks_node (by k_asm) (by k_asm) (by k_asm) (by k_asm) (by k_is) (by rfl) (by rfl) (inst_cnt (by k_asm) (by k_mem) (by k_mem)) (by k_is) (by rfl) hfile (by k_is) (by k_is) (by k_is) (by k_is) (by decide) (by rfl) (by rfl) (by rfl) (by rfl) htop (by first | boot_by_name | rfl | kernel_rfl) ?_
  intro so' h' F' N' l1'
  k_steps
  unfold Halt
  rename_i q2 h2 F2 N2 l2 q3 h3 F3 N3 l3
  refine ⟨D1, o1, [], _, F3, N3, keeps_meth X1 (c_upd_isfn _) (.head _), by k_mem, hex, hsD, by simp, fun s' Q E F' q => wpAny_Name (wpAny_loadName_local rfl rfl F'.ns rfl q) (by decide), fun h4 tk4 F4 N4 => ?_⟩
  refine call_meth N4 (.head _) ?_
  refine use_code (l + 1) rfl rfl rfl rfl rfl (by walk_at "k le") (by walk_at "k le") (hupd (rest' := (q3, methodObj (.ref 936) (.ref x)) :: (q2, mw "dict.__init__" x) :: (so', ks_superObj 1093 x 1093) :: (D1, o1) :: rest) (n := 0) (fun p hp => by simp [hp]) ?_ B1 F4 X1 (news_sub N4 fun p hp => ?_) T1 ?_)
  · intro p hp
    simp only [List.mem_cons] at hp
    rcases hp with rfl | rfl | rfl | rfl | hp
    · exact hx2 (l3 (x, cnt #[] 0 dx) (by k_mem))
    · exact hx2 (l2 (x, cnt #[] 0 dx) (by k_mem))
    · exact hx2 (l1' (x, cnt #[] 0 dx) (by k_mem))
    · exact hx2 (l1 (x, cnt #[] 0 dx) (by k_mem))
    · exact hxr p hp
  · revert p; kqd_sub
  · intro h9 tk9 es9 n9 D9 F9 N9
    dsimp only
    k_steps
    refine k _ _ es9 n9 D9 (by assumption) (news_sub (by assumption) fun p hp => ?_)
    revert p; kqd_sub
end
end Mine
end
section
open PySem PySem.W PyProof.Rows PyProof.V PySem.Calls PySem.Spec Builtin Builtin.ObjectAttr
set_option compiler.extract_closed false
set_option Elab.async false
set_option maxRecDepth 100000
set_option maxHeartbeats 3000000
namespace Mine
theorem fillD15 : PySem.Challenge.rw_dn0005_07 = PySem.Challenge.rw_dn0005_07 ∧ Mine.hd07.heap_39 = Mine.hd07.heap_39 := by
  k_fill
  exact ⟨rfl, rfl⟩
theorem kind_dn : builtinKind "dict.__new__" = some .builtinFn := by decide +kernel
theorem split_dn : splitId "dict.__new__" = some ("dict", "__new__") := by decide +kernel
def badMro : Value → Bool
  | .type n => !["dict", "object", "collections.defaultdict", "collections.OrderedDict"].contains n
  | _ => false
def cntMakes (K : Frag) : Bool := match K.lookup 1093 with
  | some ⟨_, _, .cls cd, sl⟩ => (sl.toList[4]?).join == some (.builtin "dict.__new__") && !cd.mro.isEmpty && !cd.hasDel && !cd.mro.any badMro
  | _ => false
theorem c_makes (P : Params) : cntMakes (Mine.hd07.heap_39 P) = true := by kernel_rfl
theorem c_call (P : Params) : specialIn (Mine.hd07.heap_39 P) (.ref 1093) (Str.ofString "__call__") = some (some (.builtin "type.__call__")) := by k_is
theorem c_isty (P : Params) : instIn (Mine.hd07.heap_39 P) (.ref 1093) (.type "type") = some true := by k_is
theorem c_self (P : Params) : subIn (Mine.hd07.heap_39 P) (.ref 1093) (.ref 1093) = some true := by k_is
theorem c_init_fn (P : Params) : typeIn (Mine.hd07.heap_39 P) (.ref 887) = some (.type "function") := by k_is
section
variable {prog : Program} {w : World} {A : Around} {E : Value → Shared → Prop} {s : Shared} {h₀ : Heap} {L : Addr} {m : Str → Option Value} {news : List (Addr × Obj)} {R : Result → Shared → Prop}
theorem cnt_make {rest : List Value} {kw : List (Str × Value)} (F : Fr h₀ L s.heap m) (N : News h₀ L s.heap news) (X₀ : (Mine.hd07.heap_39 w.params).In h₀)
    (h : ∀ x dx h', Fr h₀ L h' m → News h₀ L h' ((x, cnt #[] 0 dx) :: (dx, dictOf [] 0) :: news) → (∀ p ∈ news, p.1 < dx) → dx < x → dx = s.heap.objs.size →
      codeAny (model prog w) (A.under (.builtin "type.__call__" ⟨.ref 1093 :: rest, kw⟩)) (.call (.ref 887) ⟨.ref x :: rest, kw⟩) (InitBack x R) { s with heap := h' }) :
    codeAny (model prog w) A (.call (.ref 1093) ⟨rest, kw⟩) R s := by
  have X := X₀.keeps F.keep
  have L1 := looks_specialIn (M := model prog w) X (c_call _)
  have L2 := looks_instIn (M := model prog w) X (c_isty _)
  obtain ⟨hh, g, d, t, os⟩ := s
  obtain ⟨oc, od, cd, sl, hC, hn, hmro, ha, hd⟩ : ∃ oc od cd sl, hh.get? 1093 = some ⟨oc, od, .cls cd, sl⟩ ∧ (sl.toList[4]?).join = some (.builtin "dict.__new__") ∧ cd.mro.isEmpty = false ∧ cd.hasDel = false ∧ cd.mro.any badMro = false := by
    have := c_makes w.params
    unfold cntMakes at this
    split at this
    · rename_i a b c e hl
      simp only [Bool.and_eq_true, Bool.not_eq_true', beq_iff_eq] at this
      exact ⟨a, b, c, e, X _ _ hl, this.1.1.1, this.1.1.2, this.1.2, this.2⟩
    · cases this
  refine codeAny_of_tree ?_
  show wpAny _ _ (callAny (.ref 1093) _) _ _ _
  refine nd_load hC ?_
  show wpAny _ _ (callAny.viaDunder (.ref 1093) _) _ _ _
  unfold callAny.viaDunder
  repeat lk
  refine ⟨rfl, codeAny_call_builtin_at (Code.quiet_builtin _ (by decide +kernel)) entry_typeCall (check_slot tc_kind tc_split L2 (tc_args _ _ _) ?_)⟩
  unfold Builtin.«type.__call__»
  have hm : Looks (model prog w) hh (mroOf (.ref 1093)) cd.mro := ((Looks.ld (part := none) hC).andThen .now).andThen .now
  repeat (first | simp only [hmro, Bool.false_eq_true, if_false] | ((fail_if_success (with_reducible show wpAny _ _ (Bind.madeBy _) _ _ _)); lk))
  have made : Looks (model prog w) hh (Bind.madeBy (.ref 1093)) (some "dict.__new__") := by
    intro A Q E s k q
    unfold Bind.madeBy
    refine wpAny_bind (hm A _ E s k ?_)
    obtain ⟨c, r, e⟩ : ∃ c r, cd.mro = c :: r := by
      cases q : cd.mro with
      | nil => rw [q] at hmro; cases hmro
      | cons c r => exact ⟨c, r, rfl⟩
    rw [e]
    obtain ⟨h2, g2, d2, t2, os2⟩ := s
    have hC2 : h2.get? 1093 = _ := k _ _ hC
    rw [List.forIn_cons]
    refine wpAny_bind (wpAny_bind (wpAny_bind (wpAny_bind (wpAny_loadPart hC2 (wpAny_pure ?_)))))
    dsimp only
    rw [← Array.getElem?_toList, hn]
    exact wpAny_pure (wpAny_pure (wpAny_pure q))
  refine made.at ?_
  repeat ((fail_if_success (with_reducible show wpAny _ _ (call _ _ _) _ _ _)); lk)
  have L3 := looks_subIn (M := model prog w) X (c_sub _)
  have L4 : Looks (model prog w) hh (isType (.ref 1093)) true := looks_isType X (c_clsIn0 _)
  refine wpAny_call (codeAny_call_builtin (by decide +kernel) (entryFor_of_tree (b := Builtin.«dict.__new__») (by kernel_rfl)) ?_)
  have base : Looks (model prog w) hh (Bind.staticBase (.ref 1093)) (.ref 1093) := by
    intro A Q E s k q
    unfold Bind.staticBase
    refine wpAny_bind (hm A _ E s k ?_)
    obtain ⟨c, r, e⟩ : ∃ c r, cd.mro = c :: r := by
      cases q : cd.mro with
      | nil => rw [q] at hmro; cases hmro
      | cons c r => exact ⟨c, r, rfl⟩
    rw [e, List.forIn_cons]
    exact wpAny_bind (wpAny_bind (wpAny_bind (made A _ E s k (wpAny_pure (wpAny_pure (wpAny_pure q))))))
  unfold checkBuiltinCall
  rw [kind_dn, split_dn]
  dsimp only
  repeat lk
  rw [if_neg (by intro e; have e2 : cd.mro.any badMro = true := e; rw [hd] at e2; cases e2)]
  repeat ((fail_if_success (with_reducible show wpAny _ _ (isInstance _ _ >>= _) _ _ _)); lk)
  refine nd_load (Heap.get?_push_of_some _ (Heap.get?_push_of_some _ hC)) ?_
  have kk : ∀ b o, hh.get? b = some o → ((hh.push { cls := .type "dict", data := .dict #[] }).push (cnt #[] 0 hh.objs.size)).get? b = some o := fun b o e => Heap.get?_push_of_some _ (Heap.get?_push_of_some _ e)
  have NN := (N.push F (dictOf [] 0)).push (F.push _) (cnt #[] 0 hh.objs.size)
  rw [Heap.size_push] at NN
  have FF : Fr h₀ L ((hh.push { cls := .type "dict", data := .dict #[] }).push (cnt #[] 0 hh.objs.size)) m := (F.push _).push _
  have hq := h _ hh.objs.size _ FF NN (fun p hp => Heap.lt_size (N p hp).1) (Nat.lt_succ_self _) rfl
  generalize hh2 : (hh.push { cls := .type "dict", data := .dict #[] }).push (cnt #[] 0 hh.objs.size) = h2 at kk NN FF hq
  rw [Heap.size_push]
  refine nd_pure ?_
  refine wpAny_pure ?_
  rw [ha]
  have hx := (NN _ (.head _)).1
  dsimp only at hx
  have X2 := X₀.keeps FF.keep
  have I2 := inst_cnt NN (.head _) (.tail _ (.head _))
  have T1 := I2.type (M := model prog w)
  have L7 := looks_findIn (M := model prog w) X2 (c_init _)
  have L8 := bind_fn (M := model prog w) X2 (.ref (hh.objs.size + 1)) (c_init_fn _)
  have L9 := looks_subIn (M := model prog w) X2 (c_self _)
  unfold callSpecial? specialOf isInstance
  repeat ((fail_if_success (with_reducible show wpAny _ _ (call (.ref _) _ _) _ _ _)); lk)
  refine wpAny_call (codeAny_mono hq fun r s' z => ?_)
  rcases r with e | (v | _ | _ | _) <;> first | exact z | exact z.elim | skip
  obtain ⟨rfl, z⟩ := z
  repeat lk
  exact z
end
end Mine
end
section
open PySem PySem.W PyProof.Rows PyProof.V PySem.Calls PySem.Spec Builtin Builtin.ObjectAttr
set_option compiler.extract_closed false
set_option Elab.async false
set_option maxRecDepth 100000
set_option maxHeartbeats 3000000
namespace Mine
theorem fillD16 : PySem.Challenge.rw_dn0005_07 = PySem.Challenge.rw_dn0005_07 ∧ Mine.hd07.heap_39 = Mine.hd07.heap_39 := by
  k_fill
  exact ⟨rfl, rfl⟩
local macro_rules | `(tactic| k_room) => `(tactic| ((try dsimp only [AK]); (have h1000 : recursionLimit = 1000 := rfl); omega))
theorem under_tc (A : Around) (r : List Value) (kw : List (Str × Value)) : A.under (.builtin "type.__call__" ⟨.ref 1093 :: r, kw⟩) = { A with depth := A.depth + 1, units := A.units + 1 } := by
  unfold Around.under
  have h1 : (Code.builtin "type.__call__" ⟨.ref 1093 :: r, kw⟩).weight = 1 := rfl
  have h2 : (Code.builtin "type.__call__" ⟨.ref 1093 :: r, kw⟩).envs = [] := rfl
  have h3 : (Code.builtin "type.__call__" ⟨.ref 1093 :: r, kw⟩).guards = [] := rfl
  have h4 : (Code.builtin "type.__call__" ⟨.ref 1093 :: r, kw⟩).cUnits = 1 := rfl
  rw [h1, h2, h3, h4]
  rfl
section
variable {prog : Program} {w : World} {A A₀ : Around} {E : Value → Shared → Prop} {base h₀ : Heap} {outer : List Env} {e0 env : Env} {L : Addr} {m mg mb : Str → Option Value} {mean : ExcName → Option Value} {s : Shared} {R : Result → Shared → Prop} {rest : List (Addr × Obj)}
theorem init_map {l : Nat} (hlv : l ≤ 12) {x dx y : Addr} {oy : Obj} {es2 : Array DictEntry} {n2 : Nat} {more : List (Int × Value)} (hfile : ((prog.main.file : Str) == Str.ofString "/claim/cut.py") = true) (htop : (prog.main.scope.names.lookup (Str.ofString "super")).isSome = false)
    (hy : (y, oy) ∈ rest) (hcl : oy.cls = .type "dict") (hod : oy.data = .dict es2 n2) (D2 : DIs (PySem.intKind prog w) es2 more) (hsz : more.length ≤ sizeLine) (hsx : (x == sysModules) = false) (hsy : (y == sysModules) = false) (hxr : ∀ p ∈ rest, p.1 ≠ x)
    (B : Below A₀ base outer h₀) (F : Fr h₀ L s.heap m) (X : (Mine.hd07.heap_39 w.params).In h₀) (N : News h₀ L s.heap ((x, cnt #[] 0 dx) :: (dx, dictOf [] 0) :: rest)) (T : Top vw ls mean mg mb h₀)
    (k : ∀ h' tk es' n', DIs (PySem.intKind prog w) es' more → Fr h₀ L h' m → News h₀ L h' ((x, cnt es' n' dx) :: (dx, dictOf [] 0) :: rest) → R (.ok (.ret .none)) {s with heap := h', toks := tk}) :
    codeAny (model prog w) (AK l (ek e0 L) outer) (.call (.ref 887) ⟨[.ref x, .ref y], []⟩) R s := by
  refine' more_at (ex := []) ?k1 ?k2 ?k3 ?k4 ?k5 ?kA ?kF ?kK ?k6 ?k7 ?k8 ?kX ?kM ?kN ?kR ?kP ?kT ?kB ?_ ?c2 ?c3 ?c4 ?c5
  case kA => exact rfl
  case kF => exact rfl
  case kK => exact rfl
  case k1 => k_asm
  case k2 => k_asm
  case k3 => k_asm
  case k4 => k_asm
  case k5 => k_asm
  case k6 => k_is
  case k7 => k_is
  case k8 => k_room
  case kX => exact rfl
  case kM => exact rfl
  case kN => exact List.nodup_nil
  case kR => exact rfl
  case kP => exact rfl
  case kT => exact fun _ => rfl
  case kB => exact fun _ => locs rfl
  case c5 => decide
  case c2 => exact rfl
  case c3 => exact rfl
  case c4 => exact rfl
  k_whole
  intro D1 o1 g1 L1 h1 tk1 l1 lo1 hs1 FG1 F1 N1 B1 X1 T1
  exact W_initI hlv (by k_is) (fun es' => DIs (PySem.intKind prog w) es' more) hfile htop hsx hxr hs1 lo1 (fun {A₀ base h₀ outer e0 L m mg mb mean s R rest' n} hsub hxr' B F X N T k => updI_map (by omega) hfile htop (hsub _ hy) hcl hod D2 hsz hsx hsy hxr' B F X N T k) k B F X N T l1 FG1 (fr_fun F1 fun _ => rfl) N1 B1 X1 T1
theorem init_none {l : Nat} (hlv : l ≤ 12) {x dx : Addr} (hfile : ((prog.main.file : Str) == Str.ofString "/claim/cut.py") = true) (htop : (prog.main.scope.names.lookup (Str.ofString "super")).isSome = false)
    (hsx : (x == sysModules) = false) (hxr : ∀ p ∈ rest, p.1 ≠ x)
    (B : Below A₀ base outer h₀) (F : Fr h₀ L s.heap m) (X : (Mine.hd07.heap_39 w.params).In h₀) (N : News h₀ L s.heap ((x, cnt #[] 0 dx) :: (dx, dictOf [] 0) :: rest)) (T : Top vw ls mean mg mb h₀)
    (k : ∀ h' tk es' n', es' = #[] → Fr h₀ L h' m → News h₀ L h' ((x, cnt es' n' dx) :: (dx, dictOf [] 0) :: rest) → R (.ok (.ret .none)) {s with heap := h', toks := tk}) :
    codeAny (model prog w) (AK l (ek e0 L) outer) (.call (.ref 887) ⟨[.ref x], []⟩) R s := by
  refine' more_at (ex := []) ?k1 ?k2 ?k3 ?k4 ?k5 ?kA ?kF ?kK ?k6 ?k7 ?k8 ?kX ?kM ?kN ?kR ?kP ?kT ?kB ?_ ?c2 ?c3 ?c4 ?c5
  case kA => exact rfl
  case kF => exact rfl
  case kK => exact rfl
  case k1 => k_asm
  case k2 => k_asm
  case k3 => k_asm
  case k4 => k_asm
  case k5 => k_asm
  case k6 => k_is
  case k7 => k_is
  case k8 => k_room
  case kX => exact rfl
  case kM => exact rfl
  case kN => exact List.nodup_nil
  case kR => exact rfl
  case kP => exact rfl
  case kT => exact fun _ => rfl
  case kB => exact fun _ => locs rfl
  case c5 => decide
  case c2 => exact rfl
  case c3 => exact rfl
  case c4 => exact rfl
  k_whole
  intro D1 o1 g1 L1 h1 tk1 l1 lo1 hs1 FG1 F1 N1 B1 X1 T1
  exact W_initI hlv (by k_is) (fun es' => es' = #[]) hfile htop hsx hxr hs1 lo1 (fun {A₀ base h₀ outer e0 L m mg mb mean s R rest' n} hsub hxr' B F X N T k => updI_none (by omega) hsx B F X N T fun h' tk F' N' => k h' tk _ _ rfl F' N') k B F X N T l1 FG1 (fr_fun F1 fun _ => rfl) N1 B1 X1 T1
theorem make_map {y : Addr} {oy : Obj} {es2 : Array DictEntry} {n2 : Nat} {more : List (Int × Value)} {Q : Value → Shared → Prop} (hA : A.frames = some (env :: outer)) (hf : env.frame = some L) (hk : env.scope.kind = .function) (hh : A.handled = none) (hg : A.guards = some []) (hd : A.depth + 1 ≤ 520) (hu : A.units + 1 ≤ 2200)
    (hfile : ((prog.main.file : Str) == Str.ofString "/claim/cut.py") = true) (htop : (prog.main.scope.names.lookup (Str.ofString "super")).isSome = false)
    (hy : (y, oy) ∈ rest) (hcl : oy.cls = .type "dict") (hod : oy.data = .dict es2 n2) (D2 : DIs (PySem.intKind prog w) es2 more) (hsz : more.length ≤ sizeLine) (hsy : (y == sysModules) = false)
    (B : Below A₀ base outer h₀) (F : Fr h₀ L s.heap m) (X : (Mine.hd07.heap_39 w.params).In h₀) (N : News h₀ L s.heap rest) (T : Top vw ls mean mg mb h₀)
    (k : ∀ x dx h' tk es' n', DIs (PySem.intKind prog w) es' more → Fr h₀ L h' m → News h₀ L h' ((x, cnt es' n' dx) :: (dx, dictOf [] 0) :: rest) → (∀ p ∈ rest, p.1 < dx) → dx < x → (x == sysModules) = false → Q (.ref x) {s with heap := h', toks := tk}) :
    wpAny (model prog w) A (call (.ref 1093) [.ref y] []) Q E s := by
  refine wpAny_call (cnt_make F N X fun x dx h' F' N' hl hx hdx => ?_)
  rw [under_tc]
  have hlow : sysModules < dx := by rw [hdx]; exact Nat.lt_trans (modules_low T.nolimit) (Nat.lt_of_le_of_lt F.above F.ns.lt)
  have hsx : (x == sysModules) = false := beq_eq_false_iff_ne.mpr (Nat.ne_of_gt (Nat.lt_trans hlow hx))
  refine use_code 12 (A := { A with depth := A.depth + 1, units := A.units + 1 }) hA hf hk hh hg hd hu (init_map (Nat.le_refl _) hfile htop hy hcl hod D2 hsz hsx hsy (fun p hp => Nat.ne_of_lt (Nat.lt_trans (hl p hp) hx)) B F' X N' T fun h2 tk es' n' D F2 N2 => ⟨rfl, k x dx h2 tk es' n' D F2 N2 hl hx hsx⟩)
theorem make_none {Q : Value → Shared → Prop} (hA : A.frames = some (env :: outer)) (hf : env.frame = some L) (hk : env.scope.kind = .function) (hh : A.handled = none) (hg : A.guards = some []) (hd : A.depth + 1 ≤ 520) (hu : A.units + 1 ≤ 2200)
    (hfile : ((prog.main.file : Str) == Str.ofString "/claim/cut.py") = true) (htop : (prog.main.scope.names.lookup (Str.ofString "super")).isSome = false)
    (B : Below A₀ base outer h₀) (F : Fr h₀ L s.heap m) (X : (Mine.hd07.heap_39 w.params).In h₀) (N : News h₀ L s.heap rest) (T : Top vw ls mean mg mb h₀)
    (k : ∀ x dx h' tk n', Fr h₀ L h' m → News h₀ L h' ((x, cnt #[] n' dx) :: (dx, dictOf [] 0) :: rest) → (∀ p ∈ rest, p.1 < dx) → dx < x → (x == sysModules) = false → Q (.ref x) {s with heap := h', toks := tk}) :
    wpAny (model prog w) A (call (.ref 1093) [] []) Q E s := by
  refine wpAny_call (cnt_make F N X fun x dx h' F' N' hl hx hdx => ?_)
  rw [under_tc]
  have hlow : sysModules < dx := by rw [hdx]; exact Nat.lt_trans (modules_low T.nolimit) (Nat.lt_of_le_of_lt F.above F.ns.lt)
  have hsx : (x == sysModules) = false := beq_eq_false_iff_ne.mpr (Nat.ne_of_gt (Nat.lt_trans hlow hx))
  refine use_code 12 (A := { A with depth := A.depth + 1, units := A.units + 1 }) hA hf hk hh hg hd hu (init_none (Nat.le_refl _) hfile htop hsx (fun p hp => Nat.ne_of_lt (Nat.lt_trans (hl p hp) hx)) B F' X N' T fun h2 tk es' n' e F2 N2 => ⟨rfl, ?_⟩)
  subst e
  exact k x dx h2 tk n' F2 N2 hl hx hsx
end
end Mine
end
section
open PySem PySem.W PyProof.Rows PyProof.V PySem.Calls PySem.Spec Builtin Builtin.ObjectAttr
set_option Elab.async false
set_option maxRecDepth 100000
set_option maxHeartbeats 3000000
namespace Mine
theorem fillD17 : PySem.Challenge.rw_dn0005_07 = PySem.Challenge.rw_dn0005_07 ∧ Mine.hd07.heap_39 = Mine.hd07.heap_39 := by
  k_fill
  exact ⟨rfl, rfl⟩
section
variable {prog : Program} {w : World} {A : Around} {E : Value → Shared → Prop} {s : Shared} {h₀ : Heap} {L x dx q vw it d : Addr} {m : Str → Option Value} {news : List (Addr × Obj)} {es : Array DictEntry} {n : Nat} 
  {ep i : Nat} {env : Env} {body : List Stmt} {Q : Flow → Shared → Prop}
/-- a loop over the items of an object that holds names and whole numbers -/
theorem iter_cntI {elts : List Expr} {kk : Nat} {pos : Pos} {od : Obj} {kvs : List (Int × Value)} {cs : List (Int × Int)} {m₀ : Str → Option Value}
    (hh : A.handled = none) (F : Fr h₀ env.locals s.heap m₀) (N : News h₀ env.locals s.heap news) (hv : s.heap.get? vw = some { cls := .type "dict_items", data := .fields #[.ref d] }) (hd : DatAt (intKind prog w) s.heap d kvs ep) (hi : IntsI kvs cs) (hm : (d, od) ∈ news)
    (rest₀ : ∀ I : Addr, (∀ p ∈ news, p.1 < I) → ItemsRest prog w A E h₀ env (.Tuple elts kk pos) body Q s [(I, "dict_itemiterator")] [(d, od)] (cs.map fun p => Itm.pairF (fun t => .int p.1 t) (.int p.2)) m₀ news) :
    wpAny (model prog w) A (pyIter (.ref vw)) (fun it s₂ => TurnsAt prog w A h₀ env (.Tuple elts kk pos) body Q E it s₂) E s := by
  have hax := N _ hm
  have hne : d ≠ s.heap.objs.size := Nat.ne_of_lt (Heap.lt_size hax.1)
  refine it_iter hv hd ?_
  refine ktu_core (tk0 := s.toks) (keep := [(d, od)]) (cnt_turns (knd := intKind prog w) hh s.heap.objs.size d hne kvs ep) (by rw [List.length_map]; exact hi.length) ?_ ?_ ?_ ?_ ?_ ?_ ?_ ?_ (F.push _) (fun p hp => ⟨Heap.get?_push_of_some _ (N p hp).1, (N p hp).2⟩) (And.intro hm trivial) (rest₀ _ fun p hp => Heap.lt_size (N p hp).1)
  · rintro i v h ⟨T', key, k, x, rfl, hx, hk, hT⟩
    obtain ⟨k', c, t, e1, hc⟩ := hi.at hx
    obtain ⟨rfl, rfl⟩ := Prod.mk.inj e1
    obtain ⟨t', rfl⟩ := PySem.Value.isInt_shape hk
    exact ⟨.pairF (fun t => .int k t) (.int c), by rw [List.getElem?_map, hc]; rfl, T', t', _, rfl, Flat.int c t, hT⟩
  · rintro i h ⟨⟨ok, ov, he⟩, _⟩
    exact ⟨[(s.heap.objs.size, itm d i kvs.length ep .none false ok ov)], ⟨⟨rfl, rfl⟩, trivial⟩, fun p hp => by rw [List.mem_singleton.mp hp]; exact he⟩
  · intro b hb
    have hb' : b = s.heap.objs.size := by simpa using hb
    rw [hb']
    exact ⟨List.mem_cons_self .., next_is_new F⟩
  · intro b hb
    simpa using hb
  · intro b hb
    have hb' : b = s.heap.objs.size ∨ b = d := by simpa using hb
    rcases hb' with e | e
    · exact .inl (by simp [e])
    · exact .inr ⟨od, by simp [e]⟩
  · intro hI
    have hb' : env.locals = s.heap.objs.size ∨ env.locals = d := by simpa using hI
    rcases hb' with e | e
    · exact absurd F.ns.lt (e ▸ Nat.lt_irrefl _)
    · exact hax.2.1 e.symm
  · intro p hp hI
    exact absurd (Heap.lt_size (N p hp).1) ((List.mem_singleton.mp hI) ▸ Nat.lt_irrefl _)
  · exact ⟨⟨.none, .none, Heap.get?_push_size _ rfl⟩, hd.at fun o e => Heap.get?_push_of_some _ e⟩
end
section
variable {prog : Program} {w : World} {A : Around} {E : Value → Shared → Prop} {s : Shared} {env : Env} {h₀ : Heap} {target : Expr} {body : List Stmt} {Q : Flow → Shared → Prop} {ws : List (Addr × String)} {keep : List (Addr × Obj)}
/-- a loop over pairs of whole numbers, by its invariant -/
theorem items_foldI (full : List (Int × Int)) (J : Nat → (Str → Option Value) → List (Addr × Obj) → Prop)
    (step : ∀ i p m news, full[i]? = some p → J i m news → ∀ T t u h tk, IsTup h T #[.int p.1 t, .int p.2 u] → Fr h₀ env.locals h m → AllObj ws (fun its => News h₀ env.locals h (its ++ news) →
      wpAny (model prog w) A (assign target env (.ref T)) (fun _ s₂ => wpAny (model prog w) A (execs body env) (UnrPostW h₀ env.locals { s with heap := h, toks := tk } its (fun m' n' => SubL keep n' ∧ J (i + 1) m' n') Q) E s₂) E { s with heap := h, toks := tk })) :
    ∀ (ps : List (Int × Int)) i m news, full.drop i = ps → i + ps.length = full.length → J i m news → (∀ m' news', J full.length m' news' → ∀ h tk, Fr h₀ env.locals h m' → News h₀ env.locals h news' → Q .next { s with heap := h, toks := tk }) →
      ItemsRest prog w A E h₀ env target body Q s ws keep (ps.map fun p => Itm.pairF (fun t => .int p.1 t) (.int p.2)) m news
  | [], i, m, news, hd, hl, j, fin => ItemsRest.zero (fin m news (by have : i = full.length := by simpa using hl
                                                                     rw [← this]; exact j))
  | p :: r, i, m, news, hd, hl, j, fin => ItemsRest.pairF (f := fun t => .int p.1 t) (d := .int p.2) fun T t x h tk hx hT F => by
    obtain ⟨u, rfl⟩ := hx.int_inv
    have hi : i < full.length := by rw [← hl, List.length_cons]; omega
    have hc : full[i] :: full.drop (i + 1) = p :: r := by rw [← List.drop_eq_getElem_cons hi, hd]
    injection hc with h1 h2
    have := step i p m news (by rw [List.getElem?_eq_getElem hi, h1]) j T t u h tk hT F
    have key : ∀ m' n', J (i + 1) m' n' → ItemsRest prog w A E h₀ env target body Q s ws keep (r.map fun p => Itm.pairF (fun t => .int p.1 t) (.int p.2)) m' n' := fun m' n' hj =>
      items_foldI full J step r (i + 1) m' n' h2 (by rw [← hl, List.length_cons]; omega) hj fin
    refine allObj_mono (fun its hh N => wpAny_mono (hh N) (fun _ s₂ h₂ => wpAny_mono h₂ (fun fl s₃ q => ?_) fun _ _ e => e) fun _ _ e => e) this
    cases fl with
    | ret v => exact q
    | brk => exact q
    | next => obtain ⟨h', tk', m', n', e1, F', N', off, hk, hj⟩ := q; exact ⟨h', tk', m', n', e1, F', N', off, hk, key _ _ hj⟩
    | cont => obtain ⟨h', tk', m', n', e1, F', N', off, hk, hj⟩ := q; exact ⟨h', tk', m', n', e1, F', N', off, hk, key _ _ hj⟩
end
section
variable {prog : Program} {w : World} {A : Around} {E : Value → Shared → Prop} {s : Shared} {h₀ : Heap} {L x dx : Addr} {m : Str → Option Value} {news : List (Addr × Obj)} {es : Array DictEntry} {n : Nat} {kvs : List (Int × Value)} {k : Int} {t : Tok} {v : Value}
theorem cnt_set_I {Q : Unit → Shared → Prop} (l : List (Addr × Obj)) (F : Fr h₀ L s.heap m) (X₀ : (Mine.hd07.heap_39 w.params).In h₀) (N : News h₀ L s.heap news) (hm : (x, cnt es n dx) ∈ news) (hdx : (dx, dictOf [] 0) ∈ news)
    (D : DIs (PySem.intKind prog w) es kvs) (hsz : kvs.length ≤ sizeLine) (hl : ∀ p ∈ l, p ∈ news ∧ p.1 ≠ x)
    (h : ∀ h' es' n' tk, DIs (PySem.intKind prog w) es' (stored kvs k v) → Fr h₀ L h' m → News h₀ L h' ((x, cnt es' n' dx) :: l) → Q () { s with heap := h', toks := tk }) : wpAny (model prog w) A (setItem (.ref x) (.int k t) v) Q E s := by
  have hmx := N _ hm
  refine cnt_setItem (knd := PySem.intKind prog w) (k := k) F X₀ N hm hdx D (intKind_is _ _ _ _) hsz fun h' es' n' D' hx' hs' => h h' es' n' _ D' (F.change hs' hmx.2.1 hmx.2.2) fun p hp => ?_
  rcases List.mem_cons.mp hp with rfl | hp
  · exact ⟨hx', hmx.2⟩
  · have z := hl p hp
    exact ⟨(hs'.2 p.1 z.2).trans (N p z.1).1, (N p z.1).2⟩
end
end Mine
end
section
open PySem PySem.W PyProof.Rows PyProof.V PySem.Calls PySem.Spec Builtin Builtin.ObjectAttr
set_option compiler.extract_closed false
set_option Elab.async false
set_option maxRecDepth 100000
set_option maxHeartbeats 3000000
namespace Mine
theorem fillD18 : PySem.Challenge.rw_dn0005_07 = PySem.Challenge.rw_dn0005_07 ∧ Mine.hd07.heap_39 = Mine.hd07.heap_39 := by
  k_fill
  exact ⟨rfl, rfl⟩
def negs (ps : List (Int × Int)) : List (Int × Int) := (ps.filter fun p => decide (p.2 < 0)).map fun p => (p.1, 0 - p.2)
theorem negs_snoc (ps : List (Int × Int)) (p : Int × Int) : negs (ps ++ [p]) = if p.2 < 0 then negs ps ++ [(p.1, 0 - p.2)] else negs ps := by
  unfold negs
  rw [List.filter_append, List.map_append]
  by_cases h : p.2 < 0
  · rw [if_pos h, List.filter_cons_of_pos (by simp [h])]
    rfl
  · rw [if_neg h, List.filter_cons_of_neg (by simp [h])]
    simp
theorem negs_keys {ps : List (Int × Int)} {q : Int × Int} (h : q ∈ negs ps) : q.1 ∈ ps.map (·.1) := by
  obtain ⟨p, hp, rfl⟩ := List.mem_map.mp h
  show p.1 ∈ _
  exact List.mem_map_of_mem (List.mem_filter.mp hp).1
theorem negs_length (ps : List (Int × Int)) : (negs ps).length ≤ ps.length := by
  unfold negs
  rw [List.length_map]
  exact List.length_filter_le ..
theorem IntsI.keys {kvs : List (Int × Value)} {cs : List (Int × Int)} (h : IntsI kvs cs) : kvs.map (·.1) = cs.map (·.1) := by
  induction h with
  | nil => rfl
  | cons _ ih => simp [ih]
theorem IntsI.snoc {kvs : List (Int × Value)} {cs : List (Int × Int)} {k c : Int} {t : Tok} (h : IntsI kvs cs) : IntsI (kvs ++ [(k, .int c t)]) (cs ++ [(k, c)]) := by
  induction h with
  | nil => exact .cons .nil
  | cons _ ih => exact .cons ih
theorem IntsI.fresh {kvs : List (Int × Value)} {cs : List (Int × Int)} {k c : Int} {t : Tok} (h : IntsI kvs cs) (hk : k ∉ cs.map (·.1)) : IntsI (stored kvs k (.int c t)) (cs ++ [(k, c)]) := by
  unfold stored
  rw [if_neg]
  · exact h.snoc
  · intro e
    rw [List.any_eq_true] at e
    obtain ⟨p, hp, hpk⟩ := e
    exact hk (h.keys ▸ (of_decide_eq_true hpk) ▸ List.mem_map_of_mem hp)
abbrev mN (x r : Addr) (ev cv : Option Value) : Str → Option Value := fun z => if z = Str.ofString "count" then cv else if z = Str.ofString "elem" then ev else if z = Str.ofString "result" then some (.ref r) else [(Str.ofString "self", Value.ref x)].lookup z
theorem mN_set {x r : Addr} {ev cv : Option Value} {e c : Value} (z : Str) : (if z = Str.ofString "count" then some c else if z = Str.ofString "elem" then some e else mN x r ev cv z) = mN x r (some e) (some c) z := by
  unfold mN
  by_cases h1 : z = Str.ofString "count"
  · rw [if_pos h1, if_pos h1]
  · rw [if_neg h1, if_neg h1]
    by_cases h2 : z = Str.ofString "elem"
    · rw [if_pos h2, if_neg h1, if_pos h2]
    · simp only [if_neg h1, if_neg h2]
theorem mN_new {x r : Addr} (z : Str) : (if z = Str.ofString "result" then some (Value.ref r) else [(Str.ofString "self", Value.ref x)].lookup z) = mN x r none none z := by
  unfold mN
  by_cases h1 : z = Str.ofString "count"
  · subst h1; rfl
  · rw [if_neg h1]
    by_cases h2 : z = Str.ofString "elem"
    · subst h2; rfl
    · rw [if_neg h2]

local macro_rules | `(tactic| walk_at "k le") => `(tactic| ((exact Nat.le_of_ble_eq_true rfl)))
local macro_rules | `(tactic| walk_at "getMethod ref") => `(tactic| (k_here; refine cnt_items_meth ‹_› ‹_› ‹_› (by k_mem) (by k_mem) ?_))
local macro_rules | `(tactic| walk_at "call builtin:dict.items") => `(tactic| (k_here; (refine cnt_items_K ‹_› ‹_› ‹_› (by k_mem) (by k_mem) ‹_› ?_; intro v' h' F' N' l1)))
local macro_rules | `(tactic| walk_at "call ref") => `(tactic| (k_here; refine halt ?_))
local macro_rules | `(tactic| walk_at "setItem ref int") => `(tactic| (k_here; refine halt ?_))
local macro_rules | `(tactic| walk_at "pyIter ref") => `(tactic| (k_here; refine halt ?_))
local macro_rules | `(tactic| walk_at "exec For") => `(tactic| (refine halt ?_))
section
variable {prog : Program} {w : World} {A₀ : Around} {base h₀ : Heap} {outer : List Env} {e0 : Env} {L : Addr} {m mg mb : Str → Option Value} {mean : ExcName → Option Value} {s : Shared} {R : Result → Shared → Prop} {rest : List (Addr × Obj)}
theorem neg_spec {x dx : Addr} {es : Array DictEntry} {n : Nat} {kvs : List (Int × Value)} {ps : List (Int × Int)} (hfile : ((prog.main.file : Str) == Str.ofString "/claim/cut.py") = true) (htop : (prog.main.scope.names.lookup (Str.ofString "super")).isSome = false)
   (hD : DIs (PySem.intKind prog w) es kvs) (hi : IntsI kvs ps) (hl : ps.length ≤ 100) (hsx : (x == sysModules) = false)
   (B : Below A₀ base outer h₀) (F : Fr h₀ L s.heap m) (X : (Mine.hd07.heap_39 w.params).In h₀) (N : News h₀ L s.heap ((x, cnt es n dx) :: (dx, dictOf [] 0) :: rest)) (T : Top vw ls mean mg mb h₀)
   (kk : ∀ r dr es' n' kvs' h' tk, DIs (PySem.intKind prog w) es' kvs' → IntsI kvs' (negs ps) → Fr h₀ L h' m → News h₀ L h' ((r, cnt es' n' dr) :: (dr, dictOf [] 0) :: (x, cnt es n dx) :: (dx, dictOf [] 0) :: rest) → (∀ p ∈ (x, cnt es n dx) :: (dx, dictOf [] 0) :: rest, p.1 < dr) → dr < r → (r == sysModules) = false → R (.ok (.ret (.ref r))) { s with heap := h', toks := tk })
   : codeAny (model prog w) (AK 10 (ek e0 L) outer) (.call (.ref 1057) ⟨[.ref x], []⟩) R s := by
  k_enter
  k_steps
  unfold Halt
  rename Fr _ _ _ _ => F1
  rename News _ _ _ _ => N1
  rename Below _ _ _ _ => B1
  rename Frag.In _ _ => X1
  rename Top _ _ _ _ _ _ => T1
  refine make_none rfl rfl rfl rfl rfl (by walk_at "k le") (by walk_at "k le") hfile htop B1 F1 X1 N1 T1 fun r dr h2 tk2 n2 F2 N2 l2 hdr hsr => ?_
  k_steps
  unfold Halt
  refine For_turns (by k_asm) ?_
  k_steps
  unfold Halt
  rename_i v3 h3 F3 N3 l3
  refine iter_cntI (od := cnt es n dx) rfl F3 N3 (N3 _ (by k_mem)).1 ⟨cnt es n dx, es, (N3 (x, cnt es n dx) (by k_mem)).1, rfl, hD⟩ hi (by k_mem) ?_
  intro I hI
  refine items_foldI ps (fun i m' news' => ∃ es1 n1 kvs1 ev cv, DIs (PySem.intKind prog w) es1 kvs1 ∧ IntsI kvs1 (negs (ps.take i)) ∧ m' = mN x r ev cv ∧
      news' = (v3, iview x) :: (r, cnt es1 n1 dr) :: (dr, dictOf [] 0) :: (x, cnt es n dx) :: (dx, dictOf [] 0) :: rest) ?_ ps 0 _ _ rfl (Nat.zero_add _) ?_ ?_
  · rintro i p m' news' hp ⟨es1, n1, kvs1, ev, cv, D1, hi1, rfl, rfl⟩ T t u h tk hT F
    intro oI hoI N
    have htk : ps.take (i + 1) = ps.take i ++ [p] := by rw [List.take_succ, hp]; rfl
    have hdis : ∀ {l : List (Addr × Obj)}, (∀ p ∈ l, p.1 < I) → ∀ q ∈ l, I ≠ q.1 := fun h q hq e => Nat.lt_irrefl _ (e ▸ h q hq)
    have hI' := hI
    have kn : ∀ q ∈ ((v3, iview x) :: (r, cnt es1 n1 dr) :: (dr, dictOf [] 0) :: (x, cnt es n dx) :: (dx, dictOf [] 0) :: rest), q.1 < I := by
      exact List.forall_mem_cons.mpr ⟨hI (v3, _) (by k_mem), List.forall_mem_cons.mpr ⟨hI (r, cnt #[] n2 dr) (by k_mem), List.forall_mem_cons.mpr ⟨hI (dr, _) (by k_mem), List.forall_mem_cons.mpr ⟨hI (x, cnt es n dx) (by k_mem), List.forall_mem_cons.mpr ⟨hI (dx, _) (by k_mem), fun q hq => hI q (by simp [hq])⟩⟩⟩⟩⟩
    have hdr2 : @LT.lt Nat _ dr r := hdr
    have hv3 : @LT.lt Nat _ r v3 := l3 (r, cnt #[] n2 dr) (by k_mem)
    have hrI : @LT.lt Nat _ r I := hI (r, cnt #[] n2 dr) (by k_mem)
    have hx2 : ∀ q ∈ (x, cnt es n dx) :: (dx, dictOf [] 0) :: rest, q.1 ≠ r := fun q hq e => by
      have : @LT.lt Nat _ q.1 dr := l2 q hq
      have e' : @Eq Nat q.1 r := e
      omega
    k_steps
    · unfold Halt
      rename News _ _ _ _ => N4
      rename Fr _ _ _ _ => F4
      rename p.snd < 0 => hlt
      refine cnt_set_I ((I, oI) :: (v3, iview x) :: (dr, dictOf [] 0) :: (x, cnt es n dx) :: (dx, dictOf [] 0) :: rest) F4 (by k_asm) N4 (by k_mem) (by k_mem) D1 (by rw [hi1.length, PySem.sizeLine_eq]; have := negs_length (ps.take i); have := (List.take_sublist i ps).length_le; omega) (fun q hq => ?_) ?_
      · refine ⟨?_, ?_⟩
        · simp only [List.mem_cons] at hq
          rcases hq with rfl | rfl | rfl | rfl | rfl | hq
          all_goals first | k_mem | simp [hq]
        · rcases List.mem_cons.mp hq with rfl | hq
          · exact fun e => by
              have e' : @Eq Nat I r := e
              omega
          · rcases List.mem_cons.mp hq with rfl | hq
            · exact fun e => by
                have e' : @Eq Nat v3 r := e
                omega
            · rcases List.mem_cons.mp hq with rfl | hq
              · exact fun e => by
                  have e' : @Eq Nat dr r := e
                  omega
              · exact hx2 q hq
      · intro h7 es7 n7 tk7 D7 F7 N7
        k_steps
        refine ⟨h7, tk7, _, (v3, iview x) :: (r, cnt es7 n7 dr) :: (dr, dictOf [] 0) :: (x, cnt es n dx) :: (dx, dictOf [] 0) :: rest, rfl, F7, news_sub N7 (by kqd_sub), fun p hp q hq => ?_, subL_of (fun p hp => ?_), es7, n7, _, some (.int p.1 t), some (.int p.2 u), D7, ?_, funext fun z => mN_set z, rfl⟩
        · obtain rfl := List.mem_singleton.mp hq
          refine Nat.ne_of_lt ?_
          rcases List.mem_cons.mp hp with rfl | hp
          · exact hI (v3, _) (by k_mem)
          · rcases List.mem_cons.mp hp with rfl | hp
            · exact hrI
            · exact kn _ (List.mem_cons_of_mem _ (List.mem_cons_of_mem _ hp))
        · obtain rfl := List.mem_singleton.mp hp
          k_mem
        · rw [htk, negs_snoc, if_pos hlt]
          refine hi1.fresh fun hmem => ?_
          obtain ⟨q, hq, hqe⟩ := List.mem_map.mp hmem
          have h1 : p.1 ∈ (ps.take i).map (·.1) := hqe ▸ negs_keys hq
          have hnd : (ps.map (·.1)).Nodup := hi.keys ▸ hD.nodup
          have h2 : ((ps.take i ++ [p]).map (·.1)).Nodup := by
            rw [← htk]
            exact hnd.sublist ((List.take_sublist _ _).map _)
          rw [List.map_append, List.nodup_append] at h2
          exact h2.2.2 _ h1 _ (by simp) rfl
    · rename News _ _ _ _ => N4
      rename Fr _ _ _ _ => F4
      rename ¬ p.snd < 0 => hlt
      refine ⟨_, _, _, (v3, iview x) :: (r, cnt es1 n1 dr) :: (dr, dictOf [] 0) :: (x, cnt es n dx) :: (dx, dictOf [] 0) :: rest, rfl, F4, news_sub N4 (by kqd_sub), fun q hq q' hq' => ?_, subL_of (fun q hq => ?_), es1, n1, _, some (.int p.1 t), some (.int p.2 u), D1, ?_, funext fun z => mN_set z, rfl⟩
      · obtain rfl := List.mem_singleton.mp hq'
        exact Nat.ne_of_lt (kn _ hq)
      · obtain rfl := List.mem_singleton.mp hq
        k_mem
      · rw [htk, negs_snoc, if_neg hlt]
        exact hi1
  · exact ⟨#[], n2, [], none, none, .nil, .nil, funext fun z => mN_new z, rfl⟩
  · rintro m' news' ⟨es8, n8, kvs8, ev, cv, D8, hi8, rfl, rfl⟩ h8 tk8 F8 N8
    k_steps
    rw [List.take_length] at hi8
    refine kk r dr es8 n8 kvs8 _ _ D8 hi8 (by k_asm) (news_sub (by assumption) (by kqd_sub)) l2 hdr hsr
end
end Mine
end
section
open PySem PySem.W PyProof.Rows PyProof.V PySem.Calls PySem.Spec Builtin Builtin.ObjectAttr
set_option compiler.extract_closed false
set_option Elab.async false
set_option maxRecDepth 100000
set_option maxHeartbeats 3000000
namespace Mine
theorem fillD19 : PySem.Challenge.rw_dn0005_07 = PySem.Challenge.rw_dn0005_07 ∧ Mine.hd07.heap_39 = Mine.hd07.heap_39 := by
  k_fill
  exact ⟨rfl, rfl⟩
section
variable {P : Params}
theorem c_values : findIn (Mine.hd07.heap_39 P) (.ref 1093) (Str.ofString "values") = some (some (.builtin "dict.values")) := by k_is
end
section
variable {prog : Program} {w : World} {A : Around} {E : Value → Shared → Prop} {s : Shared} {h₀ : Heap} {L x dx q vw it d : Addr} {m : Str → Option Value} {news : List (Addr × Obj)} {es : Array DictEntry} {n : Nat} 
  {K : Type} [DecidableEq K] {knd : KeyKind prog w K} {kvs : List (K × Value)} {k : K} {key v : Value} {ep i : Nat}
abbrev vview (d : Addr) : Obj := { cls := .type "dict_values", data := .fields #[.ref d] }
abbrev vit (d : Addr) (i n ep : Nat) : Obj := { cls := .type "dict_valueiterator", dict := none, data := .fields #[.ref d, .int i 0, .int n 0, .int ep 0], slots := #[] }
theorem cnt_values {Q : Value → Shared → Prop} (Fr0 : Fr h₀ L s.heap m) (X₀ : (Mine.hd07.heap_39 w.params).In h₀) (N : News h₀ L s.heap news) (hm : (x, cnt es n dx) ∈ news) (hdx : (dx, dictOf [] 0) ∈ news)
    (hs : (x == sysModules) = false) (h : Q (.ref s.heap.objs.size) { s with heap := s.heap.push (vview x) }) : wpAny (model prog w) A (call (.builtin "dict.values") [.ref x]) Q E s := by
  have X := X₀.keeps Fr0.keep
  have I := inst_cnt N hm hdx
  have hx := (N _ hm).1
  have L0 := I.type (M := model prog w)
  have L3 := looks_subIn (M := model prog w) X (c_noord _)
  have L5 : Looks (model prog w) s.heap (isInstance (.ref x) (.type "dict")) true := L0.andThen (looks_subIn X (c_sub _))
  obtain ⟨hh, g, d, t, os⟩ := s
  refine call_sub (owner := "dict") (n := "values") F.slot_dict_values.plain F.entry_dict_values (by decide +kernel) (.inr (by decide +kernel)) L5 (F.args_dict_values_1 _) ?_
  unfold Builtin.«dict.values»
  refine wpAny_bind ?_
  unfold Builtin.Dict.noArgs
  repeat lk
  rw [if_neg (by rw [hs]; exact Bool.false_ne_true)]
  repeat lk
  exact ⟨_, rfl, h⟩
theorem cnt_values_K {Q : Value → Shared → Prop} (F : Fr h₀ L s.heap m) (X₀ : (Mine.hd07.heap_39 w.params).In h₀) (N : News h₀ L s.heap news) (hm : (x, cnt es n dx) ∈ news) (hdx : (dx, dictOf [] 0) ∈ news) (hs : (x == sysModules) = false)
    (h : ∀ v h', Fr h₀ L h' m → News h₀ L h' ((v, vview x) :: news) → (∀ p ∈ news, p.1 < v) → Q (.ref v) { s with heap := h' }) : wpAny (model prog w) A (call (.builtin "dict.values") [.ref x]) Q E s :=
  cnt_values F X₀ N hm hdx hs (h _ _ (F.push _) (News.push F N _ rfl) fun q hq => Heap.lt_size (N q hq).1)
theorem cnt_values_meth {pl : Sem Bool} {Q : Value × List Value → Shared → Prop} (F : Fr h₀ L s.heap m) (X₀ : (Mine.hd07.heap_39 w.params).In h₀) (N : News h₀ L s.heap news) (hm : (x, cnt es n dx) ∈ news) (hdx : (dx, dictOf [] 0) ∈ news)
   (h : Q (.builtin "dict.values", [.ref x]) s) : wpAny (model prog w) A (getMethod (.ref x) (Str.ofString "values") pl) Q E s :=
  sub_method (tn := "method_descriptor") (X₀.keeps F.keep) (inst_cnt N hm hdx) (c_ga _) (c_gt _) c_values (by k_is) (by decide) (by show (lookIn (Str.ofString "values") (dictOf [] 0)).map _ = _; rw [lookIn_dict]; rfl) h
theorem vt_iter {Q : Value → Shared → Prop} (hv : s.heap.get? vw = some (vview d)) (hd : DatAt knd s.heap d kvs ep) (h : Q (.ref s.heap.objs.size) { s with heap := s.heap.push (vit d 0 kvs.length ep) }) :
   wpAny (model prog w) A (pyIter (.ref vw)) Q E s := by
  obtain ⟨o, es, ho, hdat, D⟩ := hd
  obtain ⟨hh, g, dr, t, os⟩ := s
  obtain ⟨oc, od, oda, osl⟩ := o
  dsimp only at hdat ho hv
  subst hdat
  have hT : Shared.TypeIs ⟨hh, g, dr, t, os⟩ (.ref vw) "dict_values" := ⟨_, hv, rfl⟩
  refine wpAny_pyIter_slot hT F.slot_dict_values_iter (wpAny_call_entry F.slot_dict_values_iter hT F.entry_dict_values_iter ?_ (F.args_dict_values_iter_1 _))
  unfold Builtin.«dict_values.__iter__»
  repeat lk
  refine ⟨_, rfl, "dict_valueiterator", _, ⟨_, Heap.get?_push_size _ rfl, rfl⟩, F.slot_dict_valueiterator_next.lookup, ?_⟩
  rw [D.size]
  exact h
theorem vt_next {Q : Option Value → Shared → Prop} (hi : s.heap.get? it = some (vit d i kvs.length ep)) (hd : DatAt knd s.heap d kvs ep) (hx : kvs[i]? = some (k, v))
   (h : ∀ h', h'.get? it = some (vit d (i + 1) kvs.length ep) → Heap.SameBut it s.heap h' → Q (some v) { s with heap := h' }) : wpAny (model prog w) A (pyNext (.ref it)) Q E s := by
  obtain ⟨o, es, ho, hdat, D⟩ := hd
  obtain ⟨hh, g, dr, t, os⟩ := s
  obtain ⟨oc, od, oda, osl⟩ := o
  dsimp only at hdat ho hi
  subst hdat
  have hT : Shared.TypeIs ⟨hh, g, dr, t, os⟩ (.ref it) "dict_valueiterator" := ⟨_, hi, rfl⟩
  have hsz := D.size
  have hlt : i < kvs.length := by
    rcases Nat.lt_or_ge i kvs.length with h | h
    · exact h
    · simp [List.getElem?_eq_none h] at hx
  have hlt' : i < es.size := by rw [hsz]; exact hlt
  have hval : es[i].val = v := (D.pairs.get? (e := es[i]) (by simp [hlt']) hx).2
  unfold pyNext
  refine wpAny_bind (wpAny_attempt (wpAny_callSpecial?_slot (name := Str.ofString "__next__") hT F.slot_dict_valueiterator_next
    (wpAny_call_entry F.slot_dict_valueiterator_next hT F.entry_dict_valueiterator_next ?_ (F.args_dict_valueiterator_next_1 _))))
  refine wpAny_bind (wpAny_pure ?_)
  refine wpAny_bind ?_
  repeat lk
  rw [if_neg (by rw [hsz]; simp)]
  repeat lk
  rw [if_neg (by simp)]
  repeat lk
  simp only [show ¬ ((i : Int) < 0) from by omega, if_false, Int.toNat_natCast, Array.getElem?_eq_getElem hlt']
  repeat ((fail_if_success (with_reducible show wpAny _ _ (setField _ _ _) _ _ _)); lk)
  (with_unfolding_all show wpAny _ _ (setField (.ref it) 1 (rawInt ((i : Int) + 1))) _ _ _)
  refine wpAny_setField_rec hi (by simp) fun h₁ he₁ hs₁ => ?_
  replace hs₁ : Heap.SameBut it hh h₁ := hs₁
  have he₁ : h₁.get? it = some (vit d (i + 1) kvs.length ep) := by
    rw [he₁]
    rfl
  dsimp only
  repeat lk
  rw [hval]
  exact ⟨_, rfl, wpAny_pure (h h₁ he₁ hs₁)⟩
theorem vt_end {Q : Option Value → Shared → Prop} (hh : A.handled = none) (hi : s.heap.get? it = some (vit d i kvs.length ep)) (hd : DatAt knd s.heap d kvs ep) (hx : kvs[i]? = none)
   (h : ∀ h', Heap.ExtBut it s.heap h' → Q none { s with heap := h' }) : wpAny (model prog w) A (pyNext (.ref it)) Q E s := by
  obtain ⟨o, es, ho, hdat, D⟩ := hd
  obtain ⟨hp, g, dr, t, os⟩ := s
  obtain ⟨oc, od, oda, osl⟩ := o
  dsimp only at hdat ho hi
  subst hdat
  have hT : Shared.TypeIs ⟨hp, g, dr, t, os⟩ (.ref it) "dict_valueiterator" := ⟨_, hi, rfl⟩
  have hsz := D.size
  have hge : es.size ≤ i := by rw [hsz]; simpa using hx
  unfold pyNext
  refine wpAny_bind (wpAny_attempt (wpAny_callSpecial?_slot (name := Str.ofString "__next__") hT F.slot_dict_valueiterator_next
    (wpAny_call_entry F.slot_dict_valueiterator_next hT F.entry_dict_valueiterator_next ?_ (F.args_dict_valueiterator_next_1 _))))
  refine wpAny_bind (wpAny_pure ?_)
  refine wpAny_bind ?_
  repeat lk
  rw [if_neg (by rw [hsz]; simp)]
  repeat lk
  rw [if_neg (by simp)]
  repeat lk
  simp only [show ¬ ((i : Int) < 0) from by omega, if_false, Int.toNat_natCast, Array.getElem?_eq_none hge]
  repeat ((fail_if_success (with_reducible show wpAny _ _ (setField _ _ _) _ _ _)); lk)
  (with_unfolding_all show wpAny _ _ (setField (.ref it) 0 .none) _ _ _)
  refine wpAny_setField_rec hi (by simp) fun h₁ he₁ hs₁ => ?_
  repeat lk
  refine wpAny_handled ?_
  rw [show A.in1.handled = none from hh]
  repeat lk
  refine wpAny_throw ?_
  refine wpAny_bind (wpAny_isInstance (T := "StopIteration") (b := true) ⟨_, Heap.get?_push_size _ rfl, rfl⟩ isSubtype_stop ?_)
  exact wpAny_pure (h _ ((hs₁.extBut.push _).push _))
theorem vt_walks (hh : A.handled = none) (I d : Addr) (hne : d ≠ I) (kvs : List (K × Value)) (ep : Nat) :
    Walks prog w A I [I, d] [I] kvs.length (fun i v => ∃ k, kvs[i]? = some (k, v)) (fun i h => h.get? I = some (vit d i kvs.length ep) ∧ DatAt knd h d kvs ep) where
  sub := fun b hb => by simp at hb; simp [hb]
  frame := fun _ _ _ st hk => ⟨hk I (by simp) _ st.1, st.2.at fun o e => hk d (by simp) o e⟩
  item := fun i s Q E hi st hQ => by
    obtain ⟨⟨k, x⟩, hx⟩ : ∃ p, kvs[i]? = some p := ⟨kvs[i], by simp [hi]⟩
    refine vt_next st.1 st.2 hx fun h' hit' hs' => ?_
    exact hQ x h' s.toks ⟨k, hx⟩ ⟨hit', st.2.at fun o e => hs'.extBut d o hne e⟩ fun b o hb e => hs'.extBut b o (fun h => hb (by simp [h])) e
  done := fun s Q E st hQ => vt_end hh st.1 st.2 (by simp) fun h' he' => hQ h' s.toks fun b o hb e => he' b o (fun h => hb (by simp [h])) e
  self := fun _ _ _ _ st hQ => wpAny_pyIter_valiter ⟨_, st.1, rfl, rfl⟩ hQ
theorem kdl_cnt {r : Addr} : KdlSrc prog w "dict_values" r d kvs.length (fun i v => ∃ k, kvs[i]? = some (k, v)) (fun h => h.get? r = some (vview d) ∧ DatAt knd h d kvs ep) where
  type := fun _ hm => ⟨_, hm.1, rfl⟩
  there := fun _ hm => ⟨Heap.lt_size hm.1, let ⟨_, _, ho, _⟩ := hm.2; Heap.lt_size ho⟩
  keep := fun _ _ hm hk => ⟨hk r (.inl rfl) _ hm.1, hm.2.at fun o e => hk d (.inr rfl) o e⟩
  notList := by decide
  notTuple := by decide
  hint := fun _ _ _ _ hm hq => kdl_hint_values ⟨_, hm.1, rfl⟩ hq
  iter := fun _ _ hh hm => ⟨_, _, (fun _ _ hq => vt_iter hm.1 hm.2 hq), vt_walks hh _ d (let ⟨_, _, ho, _⟩ := hm.2; Nat.ne_of_lt (Heap.lt_size ho)) kvs ep, ⟨Heap.get?_push_size _ rfl, hm.2.at fun _ e => Heap.get?_push_of_some _ e⟩⟩
end
theorem IntsI.at? {kvs : List (Int × Value)} {cs : List (Int × Int)} (h : IntsI kvs cs) {i : Nat} {k : Int} {v : Value} (e : kvs[i]? = some (k, v)) : ∃ c t, cs[i]? = some (k, c) ∧ v = .int c t := by
  obtain ⟨k', c, t, e1, hc⟩ := h.at e
  obtain ⟨rfl, rfl⟩ := Prod.mk.inj e1
  exact ⟨c, t, hc, rfl⟩
def valAt (ps : List (Int × Int)) (i : Nat) : Int := ((ps[i]?).map (·.2)).getD 0
section
variable {prog : Program} {w : World} {A : Around} {E : Value → Shared → Prop} {s : Shared} {h₀ : Heap} {L x dx v : Addr} {m : Str → Option Value} {news : List (Addr × Obj)} {es : Array DictEntry} {n : Nat}
theorem sum_cnt {od : Obj} {kvs : List (Int × Value)} {ps : List (Int × Int)} {ep : Nat} {Q : Value → Shared → Prop} (hh : A.handled = none) (F : Fr h₀ L s.heap m) (N : News h₀ L s.heap news) (hv : (v, vview x) ∈ news) (hm : (x, od) ∈ news) (hod : od.data = .dict es ep) (D : DIs (PySem.intKind prog w) es kvs) (hi : IntsI kvs ps)
    (h : ∀ h' tk t', Fr h₀ L h' m → News h₀ L h' news → Q (.int (preSum (valAt ps) ps.length) t') { s with heap := h', toks := tk }) : wpAny (model prog w) A (call (.builtin "sum") [.ref v]) Q E s := by
  refine kdu_sum (kdl_cnt (knd := PySem.intKind prog w) (kvs := kvs) (ep := ep)) hh F N ⟨(N _ hv).1, od, es, (N _ hm).1, hod, D⟩ (valAt ps) (fun i u hu => ?_) fun h' tk t' F' N' => ?_
  · obtain ⟨k, hx⟩ := hu
    obtain ⟨c, t, hc, rfl⟩ := hi.at? hx
    exact ⟨t, by simp [valAt, hc]⟩
  · rw [hi.length]
    exact h h' tk t' F' N'
end


local macro_rules | `(tactic| walk_at "getMethod ref") => `(tactic| (k_here; refine cnt_values_meth ‹_› ‹_› ‹_› (by k_mem) (by k_mem) ?_))
local macro_rules | `(tactic| walk_at "call builtin:dict.values") => `(tactic| (k_here; (refine cnt_values_K ‹_› ‹_› ‹_› (by k_mem) (by k_mem) ‹_› ?_; intro v' h' F' N' l1)))
local macro_rules | `(tactic| walk_at "call builtin:sum") => `(tactic| (k_here; (refine sum_cnt (od := cnt _ _ _) (by exact rfl) ‹_› ‹_› (by k_mem) (by k_mem) rfl ‹_› ‹_› ?_; intro h' tk' t' F' N')))
section
variable {prog : Program} {w : World} {A₀ : Around} {base h₀ : Heap} {outer : List Env} {e0 : Env} {L : Addr} {m mg mb : Str → Option Value} {mean : ExcName → Option Value} {s : Shared} {R : Result → Shared → Prop} {rest : List (Addr × Obj)}
theorem total_spec {x dx : Addr} {es : Array DictEntry} {n : Nat} {kvs : List (Int × Value)} {ps : List (Int × Int)} 
   (hD : DIs (PySem.intKind prog w) es kvs) (hi : IntsI kvs ps) (hsx : (x == sysModules) = false)
   (B : Below A₀ base outer h₀) (F : Fr h₀ L s.heap m) (X : (Mine.hd07.heap_39 w.params).In h₀) (N : News h₀ L s.heap ((x, cnt es n dx) :: (dx, dictOf [] 0) :: rest)) (T : Top vw ls mean mg mb h₀)
   (kk : ∀ h' tk t, Fr h₀ L h' m → News h₀ L h' ((x, cnt es n dx) :: (dx, dictOf [] 0) :: rest) → R (.ok (.ret (.int (preSum (valAt ps) ps.length) t))) { s with heap := h', toks := tk })
   : codeAny (model prog w) (AK 10 (ek e0 L) outer) (.call (.ref 901) ⟨[.ref x], []⟩) R s := by
  k_enter
  k_steps
  refine kk _ _ _ (by k_asm) (news_sub (by assumption) (by kqd_sub))
end
end Mine
end
section
open PySem PySem.W PyProof.Rows PyProof.V PySem.Calls PySem.Spec Builtin Builtin.ObjectAttr
set_option compiler.extract_closed false
set_option Elab.async false
set_option maxRecDepth 100000
set_option maxHeartbeats 3000000
namespace Mine
local macro_rules | `(tactic| walk_at "none0") => `(tactic| skip)
theorem fillD20 : PySem.Challenge.rw_dn0005_07 = PySem.Challenge.rw_dn0005_07 ∧ Mine.hd07.heap_39 = Mine.hd07.heap_39 := by
  k_fill
  exact ⟨rfl, rfl⟩
theorem IntsI.mapAt {kvs : List (Int × Value)} {cs : List (Int × Int)} {k c : Int} {t : Tok} (h : IntsI kvs cs) : IntsI (kvs.map fun kv => if kv.1 = k then (kv.1, .int c t) else kv) (cs.map fun p => if p.1 = k then (k, c) else p) := by
  induction h with
  | nil => exact .nil
  | @cons k' c' t' r r' hr ih =>
    rw [List.map_cons, List.map_cons]
    by_cases e : k' = k
    · rw [if_pos e, if_pos e, e]
      exact .cons ih
    · rw [if_neg e, if_neg e]
      exact .cons ih
theorem IntsI.put {kvs : List (Int × Value)} {cs : List (Int × Int)} {k c : Int} {t : Tok} (h : IntsI kvs cs) : ∃ cs', IntsI (stored kvs k (.int c t)) cs' ∧ cs'.length ≤ cs.length + 1 ∧ ∀ q ∈ cs', q ∈ cs ∨ q = (k, c) := by
  unfold stored
  split
  · refine ⟨cs.map fun p => if p.1 = k then (k, c) else p, h.mapAt, by rw [List.length_map]; exact Nat.le_succ _, fun q hq => ?_⟩
    · obtain ⟨p, hp, rfl⟩ := List.mem_map.mp hq
      split
      · exact .inr rfl
      · exact .inl hp
  · exact ⟨cs ++ [(k, c)], h.snoc, by simp, fun q hq => by
      rcases List.mem_append.mp hq with h | h
      · exact .inl h
      · exact .inr (List.mem_singleton.mp h)⟩
theorem len_sub : ∀ {l S : List Int}, l.Nodup → (∀ a ∈ l, a ∈ S) → l.length ≤ S.length
  | [], _, _, _ => Nat.zero_le _
  | a :: r, S, hn, h => by
    obtain ⟨n1, n2⟩ := List.nodup_cons.mp hn
    have ha := h a (.head _)
    have h2 := len_sub (S := S.erase a) n2 fun b hb => (List.mem_erase_of_ne (show b ≠ a from fun e => n1 (e ▸ hb))).mpr (h b (.tail _ hb))
    rw [List.length_erase_of_mem ha] at h2
    have := List.length_pos_of_mem ha
    rw [List.length_cons]
    omega
theorem seven {l : List Int} (hn : l.Nodup) (h : ∀ a ∈ l, 0 ≤ a ∧ a < 7) : l.length ≤ 7 :=
  len_sub (S := [0, 1, 2, 3, 4, 5, 6]) hn fun a ha => by
    have := h a ha
    simp only [List.mem_cons, List.not_mem_nil, or_false]
    omega
section
variable {prog : Program} {w : World} {A : Around} {E : Value → Shared → Prop} {s : Shared} {env : Env} {h₀ : Heap} {target : Expr} {body : List Stmt} {Q : Flow → Shared → Prop} {ws : List (Addr × String)} {keep : List (Addr × Obj)}
/-- a loop over whole numbers, by its invariant -/
theorem ints_fold (J : Nat → (Str → Option Value) → List (Addr × Obj) → Prop) (n : Nat)
    (step : ∀ i x t m news, i < n → J i m news → ∀ h tk, Fr h₀ env.locals h m → AllObj ws (fun its => News h₀ env.locals h (its ++ news) →
      wpAny (model prog w) A (assign target env (.int x t)) (fun _ s₂ => wpAny (model prog w) A (execs body env) (UnrPostW h₀ env.locals { s with heap := h, toks := tk } its (fun m' n' => SubL keep n' ∧ J (i + 1) m' n') Q) E s₂) E { s with heap := h, toks := tk })) :
    ∀ {vs : List Value} {ks : List Int}, IntsAre vs ks → ∀ i m news, i + vs.length ≤ n → J i m news → (∀ m' news', J (i + vs.length) m' news' → ∀ h tk, Fr h₀ env.locals h m' → News h₀ env.locals h news' → Q .next { s with heap := h, toks := tk }) →
      ItemsRest prog w A E h₀ env target body Q s ws keep (vs.map .val) m news
  | [], _, _, i, m, news, _, j, fin => ItemsRest.zero (fin m news j)
  | v :: r, ns, hv, i, m, news, hn, j, fin => by
    obtain ⟨x, u, ns', rfl, hr⟩ : ∃ x u ns', v = .int x u ∧ IntsAre r ns' := by
      cases hv with
      | cons => exact ⟨_, _, _, rfl, by assumption⟩
    refine ItemsRest.val fun h tk F => ?_
    have e : i + (Value.int x u :: r).length = (i + 1) + r.length := by simp; omega
    have := step i x u m news (by rw [e] at hn; omega) j h tk F
    have key : ∀ m' n', J (i + 1) m' n' → ItemsRest prog w A E h₀ env target body Q s ws keep (r.map .val) m' n' := fun m' n' hj =>
      ints_fold J n step hr (i + 1) m' n' (e ▸ hn) hj (fun m2 n2 h2 => fin m2 n2 (by rw [e]; exact h2))
    refine allObj_mono (fun its hh N => wpAny_mono (hh N) (fun _ s₂ h₂ => wpAny_mono h₂ (fun fl s₃ q => ?_) fun _ _ e => e) fun _ _ e => e) this
    cases fl with
    | ret v => exact q
    | brk => exact q
    | next => obtain ⟨h', tk', m', n', e1, F', N', off, hk, hj⟩ := q; exact ⟨h', tk', m', n', e1, F', N', off, hk, key _ _ hj⟩
    | cont => obtain ⟨h', tk', m', n', e1, F', N', off, hk, hj⟩ := q; exact ⟨h', tk', m', n', e1, F', N', off, hk, key _ _ hj⟩
end
abbrev mA (y : Addr) (xv : Option Value) : Str → Option Value := fun z => if z = Str.ofString "x" then xv else if z = Str.ofString "script" then some (Value.ref y) else none
theorem mA_set {y : Addr} {xv : Option Value} {v : Value} (z : Str) : (if z = Str.ofString "x" then some v else mA y xv z) = mA y (some v) z := by
  unfold mA
  by_cases h1 : z = Str.ofString "x"
  · rw [if_pos h1, if_pos h1]
  · rw [if_neg h1, if_neg h1, if_neg h1]
theorem mA_new {y : Addr} (z : Str) : (if z = Str.ofString "script" then some (Value.ref y) else none) = mA y none z := by
  unfold mA
  by_cases h1 : z = Str.ofString "x"
  · subst h1; rfl
  · rw [if_neg h1]
local macro_rules | `(tactic| walk_at "UnrPostW") => `(tactic| (refine halt ?_))

local macro_rules | `(tactic| walk_at "pyIter ref") => `(tactic| (refine halt ?_))
local macro_rules | `(tactic| walk_at "exec For Name Name cons nil") => `(tactic| (refine halt ?_))


section
variable {prog : Program} {w : World} {A₀ : Around} {base g1 : Heap} {outer : List Env} {e0 : Env} {L L1 : Addr} {mg mb : Str → Option Value} {mean : ExcName → Option Value} {s : Shared} {Q : Flow → Shared → Prop} {E : Value → Shared → Prop}
theorem law_head {name qual : Str} {params : Arguments} {body : List Stmt} {scope : Scope} {dV kV doc pm cdv ct oc : Value} {an od : Option Addr} {osl : Array (Option Value)}
    (ho : (Mine.hd07.heap_39 w.params).lookup 1102 = some ⟨oc, od, .func (fnOf name qual params body scope dV kV doc pm an cdv ct), osl⟩)
    (hfile : ((prog.main.file : Str) == Str.ofString "/claim/cut.py") = true) (htop : (prog.main.scope.names.lookup (Str.ofString "super")).isSome = false)
    {y : Addr} {oy o1 o2 : Obj} {vs : List Value} {ns : List Int} {n : Nat} (hv : IntsAre vs ns) (hl : vs.length ≤ 63) (hoc : oy.cls = .type "list") (hod : oy.data = .seq vs.toArray n) (l1 : y < L1)
    (d1' : o1.data = .cell none) (d2' : o2.data = .cell none)
    (B1 : Below callerA base [] g1) (X1 : (Mine.hd07.heap_39 w.params).In g1) (T1 : Top vw ls mean mg mb g1)
    (F1 : Fr g1 L1 s.heap (fun z => if z = Str.ofString "script" then some (Value.ref y) else none)) (N1 : News g1 L1 s.heap [(L1 + 1 + 1, o1), (L1 + 1, o2), (y, oy)])
    (hE : PassesOwn (model prog w) (callerA.deeper (envOfC qual scope L1 1102 cdv)) (envOfC qual scope L1 1102 cdv) E)
    (rest_ok : ∀ d od kvs ps o2' xv h' tk, od.IsDictOf (PySem.intKind prog w) kvs → IntsI kvs ps → ps.length ≤ 7 → (∀ q ∈ ps, -3 ≤ q.2 ∧ q.2 ≤ 5) → o2'.data = .cell (some (.ref d)) → (d == sysModules) = false → L1 + 1 + 1 < d ∧ L1 + 1 < d ∧ y < d → Fr g1 L1 h' (mA y xv) → News g1 L1 h' [(d, od), (L1 + 1 + 1, o1), (L1 + 1, o2'), (y, oy)] →
      wpAny (model prog w) (callerA.deeper (envOfC qual scope L1 1102 cdv)) (execs (body.drop 2) (envOfC qual scope L1 1102 cdv)) Q E { s with heap := h', toks := tk }) :
    wpAny (model prog w) (callerA.deeper (envOfC qual scope L1 1102 cdv)) (execs body (envOfC qual scope L1 1102 cdv)) Q E s := by
  have e := ho.symm.trans (by k_is : (Mine.hd07.heap_39 w.params).lookup 1102 = some _)
  cases e
  replace l1 : @LT.lt Nat _ y L1 := l1
  k_steps
  unfold Halt
  rename Fr _ _ _ _ => F2
  rename_i d hh1 od hds _ _ hdi _ ld hh2 o2' N2 d2
  refine For_turns F2 ?_ (hE := hE)
  k_steps
  unfold Halt
  rename News _ _ _ _ => N3
  rename Fr _ _ _ _ => F3
  refine iter_listTurns (lo := oy) (vs := vs) rfl F3 N3 (by k_mem) hoc hod ?_
  intro I hI
  have hId : @LT.lt Nat _ d I := hI (d, od) (by k_mem)
  have ld1 : @LT.lt Nat _ (L1 + 1 + 1) d := ld.1
  have ld2 : @LT.lt Nat _ (L1 + 1) d := ld.2.1
  have ld3 : @LT.lt Nat _ y d := ld.2.2
  refine ints_fold (fun i m' news' => ∃ od kvs cs xv, od.IsDictOf (PySem.intKind prog w) kvs ∧ IntsI kvs cs ∧ cs.length ≤ i ∧ (∀ q ∈ cs, -3 ≤ q.2 ∧ q.2 ≤ 5) ∧ (∀ q ∈ cs, 0 ≤ q.1 ∧ q.1 < 7) ∧ m' = mA y xv ∧ news' = [(d, od), (L1 + 1 + 1, o1), (L1 + 1, o2'), (y, oy)]) vs.length ?_ hv 0 _ _ (Nat.le_of_eq (Nat.zero_add _)) ?_ ?_
  · rintro i x t m' news' hlt ⟨od1, kvs1, cs1, xv, hd1, hi1, hlen, hb1, hc1, rfl, rfl⟩ h tk hF
    intro oI hoI hN
    k_steps
    rename News _ _ _ _ => N4
    rename Fr _ _ _ _ => F4
    dsimp only
    have hsz1 : kvs1.length ≤ sizeLine := by
      rw [hi1.length, PySem.sizeLine_eq]
      have h1 : cs1.length ≤ i := hlen
      have h2 : i < vs.length := hlt
      omega
    refine kda_set (knd := PySem.intKind prog w) (d := d) (o := od1) (kvs := kvs1) (k := Int.fmod x 7) F4 N4 (by k_updF) hd1 (intKind_is _ _ _ _) hsz1 fun h5 od2 F5 N5 hd2 => ?_
    dsimp only at N5
    obtain ⟨cs2, hi2, hl2, hb2⟩ := hi1.put (k := Int.fmod x 7) (c := Int.fmod (Int.fdiv x 7 + 4) 9 - 3) (t := _)
    k_steps
    unfold Halt
    refine ⟨h5, _, _, [(d, od2), (L1 + 1 + 1, o1), (L1 + 1, o2'), (y, oy)], rfl, F5, news_sub N5 (by kqd_sub), fun p hp q hq => ?_, subL_of (fun p hp => ?_), od2, _, cs2, some (.int x t), hd2, hi2, by omega, ?_, ?_, funext fun z => mA_set z, rfl⟩
    · obtain rfl := List.mem_singleton.mp hq
      refine Nat.ne_of_lt ?_
      simp only [List.mem_cons, List.not_mem_nil, or_false] at hp
      rcases hp with rfl | rfl | rfl | rfl
      · exact hI (d, od) (by k_mem)
      · exact hI (L1 + 1 + 1, o1) (by k_mem)
      · exact hI (L1 + 1, o2') (by k_mem)
      · exact hI (y, oy) (by k_mem)
    · obtain rfl := List.mem_singleton.mp hp
      k_mem
    · intro q hq
      rcases hb2 q hq with h | h
      · exact hb1 q h
      · have a := Int.fmod_nonneg_of_pos (Int.fdiv x 7 + 4) (show (0 : Int) < 9 by decide)
        have b := Int.fmod_lt_of_pos (Int.fdiv x 7 + 4) (show (0 : Int) < 9 by decide)
        rw [h]
        dsimp only
        omega
    · intro q hq
      rcases hb2 q hq with h | h
      · exact hc1 q h
      · have a := Int.fmod_nonneg_of_pos x (show (0 : Int) < 7 by decide)
        have b := Int.fmod_lt_of_pos x (show (0 : Int) < 7 by decide)
        rw [h]
        dsimp only
        omega
  · exact ⟨od, [], [], none, hdi, .nil, Nat.le_refl _, (fun _ h => nomatch h), (fun _ h => nomatch h), funext fun z => mA_new z, rfl⟩
  · rintro m' news' ⟨od1, kvs1, cs1, xv, hd1, hi1, hlen, hb1, hc1, rfl, rfl⟩ h8 tk8 F8 N8
    dsimp only
    have hnd1 : (cs1.map (·.1)).Nodup := hi1.keys ▸ (let ⟨_, _, _, _, _, _, h⟩ := hd1; h)
    refine rest_ok d od1 kvs1 cs1 o2' xv h8 tk8 hd1 hi1 (by have := seven hnd1 (fun a ha => by obtain ⟨q, hq, rfl⟩ := List.mem_map.mp ha; exact hc1 q hq); simpa using this) hb1 d2 hds ?_ F8 N8
    exact ld
end
end Mine
end
section
open PySem PySem.W PyProof.Rows PyProof.V PySem.Calls PySem.Spec Builtin Builtin.ObjectAttr
set_option Elab.async false
set_option maxRecDepth 100000
set_option maxHeartbeats 3000000
namespace Mine
theorem fillD21 : PySem.Challenge.rw_dn0005_07 = PySem.Challenge.rw_dn0005_07 ∧ Mine.hd07.heap_39 = Mine.hd07.heap_39 := by
  k_fill
  exact ⟨rfl, rfl⟩
section
variable {P : Params}
theorem c_elements : findIn (Mine.hd07.heap_39 P) (.ref 1093) (Str.ofString "elements") = some (some (.ref 916)) := by k_is
theorem c_total : findIn (Mine.hd07.heap_39 P) (.ref 1093) (Str.ofString "total") = some (some (.ref 901)) := by k_is
theorem t_elements : typeIn (Mine.hd07.heap_39 P) (.ref 916) = some (.type "function") := by k_is
theorem t_total : typeIn (Mine.hd07.heap_39 P) (.ref 901) = some (.type "function") := by k_is
end
theorem cnt_fn_meth {prog : Program} {w : World} {A : Around} {E : Value → Shared → Prop} {s : Shared} {h₀ : Heap} {L x dx : Addr} {m : Str → Option Value} {news : List (Addr × Obj)} {es : Array DictEntry} {n : Nat} {name : Str} {f : Value}
   {pl : Sem Bool} {Q : Value × List Value → Shared → Prop} (F : Fr h₀ L s.heap m) (X₀ : (Mine.hd07.heap_39 w.params).In h₀) (N : News h₀ L s.heap news) (hm : (x, cnt es n dx) ∈ news) (hdx : (dx, dictOf [] 0) ∈ news)
   (hf : findIn (Mine.hd07.heap_39 w.params) (.ref 1093) name = some (some f)) (ht : typeIn (Mine.hd07.heap_39 w.params) f = some (.type "function"))
   (h : Q (f, [.ref x]) s) : wpAny (model prog w) A (getMethod (.ref x) name pl) Q E s :=
  sub_method (tn := "function") (X₀.keeps F.keep) (inst_cnt N hm hdx) (c_ga _) (c_gt _) hf ht (by decide) (by show (lookIn name (dictOf [] 0)).map _ = _; rw [lookIn_dict]; rfl) h
local macro_rules | `(tactic| walk_at "getMethod ref") => `(tactic| (k_here; first | (refine cnt_fn_meth (by k_asm) (by k_asm) (by k_asm) (by k_mem) (by k_mem) c_elements t_elements ?_) | (refine cnt_fn_meth (by k_asm) (by k_asm) (by k_asm) (by k_mem) (by k_mem) c_total t_total ?_)))
local macro_rules | `(tactic| walk_at "call ref") => `(tactic| (refine halt ?_))
local macro_rules | `(tactic| walk_at "execs cons") => `(tactic| ((with_reducible show wpAny _ _ (execs [_, _, _, _, _, _, _, _, _, _] _) _ _ _); refine halt ?_))
abbrev mB (y x c : Addr) (xv : Option Value) : Str → Option Value := fun z => if z = Str.ofString "walk" then some (.ref c) else if z = Str.ofString "bag" then some (.ref x) else mA y xv z
abbrev nB (L1 x dx d y : Addr) (es : Array DictEntry) (n : Nat) (ob o1 o2 oy : Obj) : List (Addr × Obj) := [(x, cnt es n dx), (dx, dictOf [] 0), (d, ob), (L1 + 1 + 1, o1), (L1 + 1, o2), (y, oy)]
section
variable {prog : Program} {w : World} {A₀ : Around} {base g1 : Heap} {outer : List Env} {e0 : Env} {L L1 : Addr} {mg mb : Str → Option Value} {mean : ExcName → Option Value} {s : Shared} {Q : Flow → Shared → Prop} {E : Value → Shared → Prop}
theorem law_two {name qual : Str} {params : Arguments} {body : List Stmt} {scope : Scope} {dV kV doc pm cdv ct oc : Value} {an od : Option Addr} {osl : Array (Option Value)}
    (ho : (Mine.hd07.heap_39 w.params).lookup 1102 = some ⟨oc, od, .func (fnOf name qual params body scope dV kV doc pm an cdv ct), osl⟩)
    (hfile : ((prog.main.file : Str) == Str.ofString "/claim/cut.py") = true) (htop : (prog.main.scope.names.lookup (Str.ofString "super")).isSome = false)
    {y d : Addr} {oy o1 o2 ob : Obj} {kvs : List (Int × Value)} {ps : List (Int × Int)} {xv : Option Value} (hoc : oy.cls = .type "list")
    (hd : ob.IsDictOf (PySem.intKind prog w) kvs) (hi : IntsI kvs ps) (hlen : ps.length ≤ 63) (hb : ∀ q ∈ ps, -3 ≤ q.2 ∧ q.2 ≤ 5) (d1' : o1.data = .cell none) (d2' : o2.data = .cell (some (.ref d))) (hds : (d == sysModules) = false)
    (ld : L1 + 1 + 1 < d ∧ L1 + 1 < d ∧ y < d) 
    (B1 : Below callerA base [] g1) (X1 : (Mine.hd07.heap_39 w.params).In g1) (T1 : Top vw ls mean mg mb g1)
    (F1 : Fr g1 L1 s.heap (mA y xv)) (N1 : News g1 L1 s.heap [(d, ob), (L1 + 1 + 1, o1), (L1 + 1, o2), (y, oy)])
    (k : ∀ c x dx es n core h' tk, DIs (PySem.intKind prog w) es kvs → (x == sysModules) = false → d < dx ∧ dx < x → ChSt prog w c x es kvs ps n (cnt es n dx) (nB L1 x dx d y es n ob o1 o2 oy) (expand ps) core → Fr g1 L1 h' (mB y x c xv) → News g1 L1 h' (core ++ nB L1 x dx d y es n ob o1 o2 oy) →
      wpAny (model prog w) (callerA.deeper (envOfC qual scope L1 1102 cdv)) (execs (body.drop 4) (envOfC qual scope L1 1102 cdv)) Q E { s with heap := h', toks := tk }) :
    wpAny (model prog w) (callerA.deeper (envOfC qual scope L1 1102 cdv)) (execs (body.drop 2) (envOfC qual scope L1 1102 cdv)) Q E s := by
  have e := ho.symm.trans (by k_is : (Mine.hd07.heap_39 w.params).lookup 1102 = some _)
  cases e
  dsimp only [List.drop]
  have hd0 := hd
  obtain ⟨es2, ep2, hex, hdat, hk2, hp2, hnd2⟩ := hd0
  have hcl : ob.cls = .type "dict" := hex.1
  have D2 : DIs (PySem.intKind prog w) es2 kvs := ⟨hk2, hp2, hnd2⟩
  k_steps
  unfold Halt
  refine make_map (y := d) (oy := ob) (es2 := es2) (n2 := ep2) (more := kvs) (by exact rfl) (by exact rfl) (by exact rfl) (by exact rfl) (by exact rfl) (Nat.le_of_ble_eq_true rfl) (Nat.le_of_ble_eq_true rfl) hfile htop (by k_mem) hcl hdat D2 (by rw [hi.length, PySem.sizeLine_eq]; omega) hds B1 F1 X1 N1 T1 fun x dx h2 tk2 es n D2' F2 N2 l2 hdx hsx => ?_
  k_steps
  unfold Halt
  rename Fr _ _ _ _ => F3
  rename News _ _ _ _ => N3
  refine use_at 15 (by exact rfl) (by exact rfl) (by exact rfl) (by exact rfl) (by exact rfl) (Nat.le_of_ble_eq_true rfl) (Nat.le_of_ble_eq_true rfl) (elements_spec (x := x) (dx := dx) (es := es) (n := n) (kvs := kvs) (ps := ps) (rest := [(d, ob), (L1 + 1 + 1, o1), (L1 + 1, o2), (y, oy)]) D2' hsx B1 F3 X1 N3 T1 hi (fun q hq => by have := hb q hq; omega) fun c core h4 tk4 CS F4 N4 => ?_)
  dsimp only
  clear F3 N3
  k_steps
  unfold Halt
  exact k c x dx es n core _ _ D2' hsx ⟨l2 (d, ob) (by k_mem), hdx⟩ CS (by k_asm) (by assumption)
end
end Mine
end
section
open PySem PySem.W PyProof.Rows PyProof.V PySem.Calls PySem.Spec Builtin Builtin.ObjectAttr
set_option Elab.async false
set_option maxRecDepth 100000
set_option maxHeartbeats 3000000
namespace Mine
theorem fillD22 : PySem.Challenge.rw_dn0005_07 = PySem.Challenge.rw_dn0005_07 ∧ Mine.hd07.heap_39 = Mine.hd07.heap_39 := by
  k_fill
  exact ⟨rfl, rfl⟩
section
variable {prog : Program} {w : World} {c y : Addr} {es : Array DictEntry} {kvs : List (Int × Value)} {ps : List (Int × Int)} {ep : Nat} {oy : Obj} {out : List Int} {fix fix' core : List (Addr × Obj)}
theorem ChIn.alter {dc sm ds I : Addr} {i : Nat} {io : Obj} {tl : List (Addr × Obj)} (H : ChIn prog w c dc sm ds I y es kvs ps ep i io oy (tl ++ fix)) (hf : ∀ q ∈ fix', (∃ q0 ∈ fix, q0.1 = q.1) ∨ (q.1 ≠ c ∧ q.1 ≠ I ∧ q.1 ≠ dc ∧ q.1 ≠ ds ∧ q.1 ≠ sm)) (hy : (y, oy) ∈ fix')
    (hit : ∀ p ∈ fix, p ∈ fix' ∨ ¬ TupO p.2) : ChIn prog w c dc sm ds I y es kvs ps ep i io oy (tl ++ fix') := by
  have key : ∀ q ∈ tl ++ fix', (∃ q0 ∈ tl ++ fix, q0.1 = q.1) ∨ (q.1 ≠ c ∧ q.1 ≠ I ∧ q.1 ≠ dc ∧ q.1 ≠ ds ∧ q.1 ≠ sm) := fun q hq => by
    rcases List.mem_append.mp hq with h | h
    · exact .inl ⟨q, List.mem_append_left _ h, rfl⟩
    · rcases hf q h with ⟨q0, h0, e⟩ | h
      · exact .inl ⟨q0, List.mem_append_right _ h0, e⟩
      · exact .inr h
  refine ⟨H.o1, H.o2, H.o3, H.o4, fun q hq => ?_, fun q hq => ?_, fun q hq => ?_, List.mem_append_right _ hy, H.hyd, H.hD, H.hi, H.hb, ?_⟩
  · rcases key q hq with ⟨q0, h0, e⟩ | h
    · exact e ▸ H.nc q0 h0
    · exact h.1
  · rcases key q hq with ⟨q0, h0, e⟩ | h
    · exact e ▸ H.nI q0 h0
    · exact h.2.1
  · rcases key q hq with ⟨q0, h0, e⟩ | h
    · exact e ▸ H.nd q0 h0
    · exact h.2.2
  · rcases H.it with h | ⟨a, oa, f, ok, ov, e, hm, ht⟩
    · exact .inl h
    · refine .inr ⟨a, oa, f, ok, ov, e, ?_, ht⟩
      rcases List.mem_append.mp hm with h | h
      · exact List.mem_append_left _ h
      · rcases hit _ h with h | h
        · exact List.mem_append_right _ h
        · exact absurd ht h
/-- the objects beside a chain may change, and new ones may come -/
theorem ChSt.alter (S : ChSt prog w c y es kvs ps ep oy fix out core) (hf : ∀ q ∈ fix', (∃ q0 ∈ fix, q0.1 = q.1) ∨ ∀ p ∈ core, p.1 ≠ q.1) (hy : (y, oy) ∈ fix') (hit : ∀ p ∈ fix, p ∈ fix' ∨ ¬ TupO p.2) : ChSt prog w c y es kvs ps ep oy fix' out core := by
  have flip : ∀ {a b : Addr}, a ≠ b → b ≠ a := fun h e => h e.symm
  cases S with
  | @idle dc sm ds I i io tl H hi ht =>
    refine .idle (H.alter (fun q hq => ?_) hy hit) hi ht
    rcases hf q hq with h | h
    · exact .inl h
    · exact .inr ⟨flip (h (c, _) (.head _)), flip (h (I, io) (by k_mem)), flip (h (dc, emptyDict) (by k_mem)), flip (h (ds, emptyDict) (by k_mem)), flip (h (sm, two 823 ds (.ref 786) (.ref I)) (by k_mem))⟩
  | @busy dc sm ds I r dr i io tl k n t u H hi hr ht hn =>
    refine .busy (H.alter (fun q hq => ?_) hy hit) hi ⟨hr.1, hr.2.1, fun q hq => ?_⟩ ht hn
    · rcases hf q hq with h | h
      · exact .inl h
      · exact .inr ⟨flip (h (c, _) (.head _)), flip (h (I, io) (by k_mem)), flip (h (dc, emptyDict) (by k_mem)), flip (h (ds, emptyDict) (by k_mem)), flip (h (sm, two 823 ds (.ref 786) (.ref I)) (by k_mem))⟩
    · rcases List.mem_append.mp hq with h | h
      · exact hr.2.2 q (List.mem_append_left _ h)
      · rcases hf q h with ⟨q0, h0, e⟩ | h
        · exact e ▸ hr.2.2 q0 (List.mem_append_right _ h0)
        · exact ⟨flip (h (r, two 786 dr (.int n u) (.int k t)) (by k_mem)), flip (h (dr, emptyDict) (by k_mem))⟩
  | @over dc ho hc =>
    refine .over ho fun q hq => ?_
    rcases hf q hq with ⟨q0, h0, e⟩ | h
    · exact e ▸ hc q0 h0
    · exact ⟨flip (h (c, _) (.head _)), flip (h (dc, emptyDict) (by k_mem))⟩
/-- an object beside a chain is none of its own -/
theorem ChSt.off {h₀ h : Heap} {L : Addr} (S : ChSt prog w c y es kvs ps ep oy fix out core) (N : News h₀ L h (core ++ fix)) {q : Addr × Obj} (hq : q ∈ fix) (hc : ¬ TupO q.2) : ∀ p ∈ core, p.1 ≠ q.1 := by
  have flip : ∀ {a b : Addr}, a ≠ b → b ≠ a := fun h e => h e.symm
  have tup : ∀ p ∈ core, TupO p.2 → p.1 ≠ q.1 := fun p hp ht e => by
    have a := (N q (List.mem_append_right _ hq)).1
    have b := (N p (List.mem_append_left _ hp)).1
    rw [e, a] at b
    exact hc (Option.some.inj b ▸ ht)
  cases S with
  | @idle dc sm ds I i io tl H hi ht =>
    have a1 := H.nc q (List.mem_append_right _ hq)
    have a2 := H.nI q (List.mem_append_right _ hq)
    obtain ⟨a3, a4, a5⟩ := H.nd q (List.mem_append_right _ hq)
    intro p hp
    have hp0 := hp
    simp only [List.mem_cons] at hp
    rcases hp with rfl | rfl | rfl | rfl | rfl | hp
    · exact flip a1
    · exact flip a3
    · exact flip a5
    · exact flip a4
    · exact flip a2
    · exact tup p hp0 (ht p hp)
  | @busy dc sm ds I r dr i io tl k n t u H hi hr ht hn =>
    have a1 := H.nc q (List.mem_append_right _ hq)
    have a2 := H.nI q (List.mem_append_right _ hq)
    obtain ⟨a3, a4, a5⟩ := H.nd q (List.mem_append_right _ hq)
    obtain ⟨a6, a7⟩ := hr.2.2 q (List.mem_append_right _ hq)
    intro p hp
    have hp0 := hp
    simp only [List.mem_cons] at hp
    rcases hp with rfl | rfl | rfl | rfl | rfl | rfl | rfl | hp
    · exact flip a1
    · exact flip a3
    · exact flip a5
    · exact flip a4
    · exact flip a2
    · exact flip a6
    · exact flip a7
    · exact tup p hp0 (ht p hp)
  | @over dc ho hc2 =>
    have a := hc2 q hq
    intro p hp
    simp only [List.mem_cons, List.not_mem_nil, or_false] at hp
    rcases hp with rfl | rfl
    · exact flip a.1
    · exact flip a.2
end
section
variable {P : Params}
theorem ch_next_f : findIn (Mine.hd07.heap_39 P) (.ref 734) (Str.ofString "__next__") = some (some (.ref 730)) := by k_is
theorem ch_iter_f : findIn (Mine.hd07.heap_39 P) (.ref 734) (Str.ofString "__iter__") = some (some (.ref 723)) := by k_is
theorem ch_next_fn : isFn (Mine.hd07.heap_39 P) (.ref 730) = true := by k_is
theorem ch_iter_fn : isFn (Mine.hd07.heap_39 P) (.ref 723) = true := by k_is
end
local macro_rules | `(tactic| k_room) => `(tactic| ((try simp only [depth_under_make, depth_under_kw, depth_in1, depth_deeper, depth_caller]); (try dsimp only [AK]); (have h1000 : recursionLimit = 1000 := rfl); omega))
section
variable {prog : Program} {w : World} {A A₀ : Around} {base h₀ : Heap} {ev : Env} {L : Addr} {m mg mb : Str → Option Value} {mean : ExcName → Option Value} {s : Shared} {E : Value → Shared → Prop} {core fix : List (Addr × Obj)}
theorem ChSt.inst {c y : Addr} {es : Array DictEntry} {kvs : List (Int × Value)} {ps : List (Int × Int)} {ep : Nat} {oy : Obj} {out : List Int} {h : Heap} (S : ChSt prog w c y es kvs ps ep oy fix out core) (N : News h₀ L h (core ++ fix)) :
    ∃ ox od, InstAt h c ox 734 (some od) := by
  cases S with
  | @idle dc sm ds I i io tl H hi ht => exact ⟨_, _, (N (c, _) (.head _)).1, rfl, rfl, (N (dc, emptyDict) (.tail _ (.head _))).1⟩
  | @busy dc sm ds I r dr i io tl k n t u H hi hr ht hn => exact ⟨_, _, (N (c, _) (.head _)).1, rfl, rfl, (N (dc, emptyDict) (.tail _ (.head _))).1⟩
  | @over dc ho hc => exact ⟨_, _, (N (c, _) (.head _)).1, rfl, rfl, (N (dc, emptyDict) (.tail _ (.head _))).1⟩
theorem ch_next {c y : Addr} {es : Array DictEntry} {kvs : List (Int × Value)} {ps : List (Int × Int)} {ep : Nat} {oy : Obj} {out : List Int} {Q : Option Value → Shared → Prop} (S : ChSt prog w c y es kvs ps ep oy fix out core) (hy : (y, oy) ∈ fix)
   (hA : A.frames = some [ev]) (hh : A.handled = none) (hg : A.guards = some []) (hd : A.depth ≤ 520) (hu : A.units ≤ 2200)
   (hef : ev.frame = some L) (hek : ev.scope.kind = .function) (B : Below A₀ base [] h₀) (F : Fr h₀ L s.heap m) (X : (Mine.hd07.heap_39 w.params).In h₀) (N : News h₀ L s.heap (core ++ fix)) (T : Top vw ls mean mg mb h₀)
   (XB : (Mine.hd07.heap_39 w.params).In base) (TB : Top vw ls mean mg mb base)
   (kret : ∀ k r t h' tk core', out = k :: r → ChSt prog w c y es kvs ps ep oy fix r core' → Fr h₀ L h' m → News h₀ L h' (core' ++ fix) → Q (some (.int k t)) { s with heap := h', toks := tk })
   (kend : ∀ h' tk core', out = [] → ChSt prog w c y es kvs ps ep oy fix [] core' → Fr h₀ L h' m → News h₀ L h' (core' ++ fix) → Q none { s with heap := h', toks := tk })
   : wpAny (model prog w) A (pyNext (.ref c)) Q E s := by
  obtain ⟨ox, od, I⟩ := S.inst N
  refine owit_next F X I ch_next_f ch_next_fn (use_S 12 hA hh hg hd hu (chain_next S hy hef hek B F X N T XB TB (fun k r t h' tk core' e S' F' N' => kret k r t h' tk core' e S' F' N') fun e h' tk core' e' S' F' N' hx => ?_))
  obtain ⟨ob, ho, hc⟩ := hx
  unfold OwitStop
  exact wpAny_isInstance (T := "StopIteration") (b := true) ⟨ob, ho, hc⟩ isSubtype_stop (kend h' tk core' e' S' F' N')
end
section
variable {prog : Program} {w : World} {A₀ : Around} {base h₀ : Heap} {outer : List Env} {e0 : Env} {L : Addr} {m mg mb : Str → Option Value} {mean : ExcName → Option Value} {s : Shared} {R : Result → Shared → Prop} {rest : List (Addr × Obj)}
theorem iter_self {c : Addr} (B : Below A₀ base outer h₀) (F : Fr h₀ L s.heap m) (X : (Mine.hd07.heap_39 w.params).In h₀) (N : News h₀ L s.heap rest) (T : Top vw ls mean mg mb h₀)
   (kk : ∀ h' tk, Fr h₀ L h' m → News h₀ L h' rest → R (.ok (.ret (.ref c))) { s with heap := h', toks := tk })
   : codeAny (model prog w) (AK 10 (ek e0 L) outer) (.call (.ref 723) ⟨[.ref c], []⟩) R s := by
  k_enter
  k_steps
  exact kk _ _ (by k_asm) (news_sub (by assumption) (by kqd_sub))
end
end Mine
end
section
open PySem PySem.W PyProof.Rows PyProof.V PySem.Calls PySem.Spec Builtin Builtin.ObjectAttr LCg
set_option Elab.async false
set_option maxRecDepth 100000
set_option maxHeartbeats 3000000
namespace Mine
theorem cls_lt : Value.type "list" ≠ Value.type "tuple" := by decide
theorem lst_notup (ys : List Value) : ¬ TupO (lst ys) := fun q => cls_lt q.1
/-- whole numbers, whatever their tokens -/
inductive Nums : List Value → List Int → Prop
  | nil : Nums [] []
  | cons {k : Int} {t : Tok} {r : List Value} {r' : List Int} (hr : Nums r r') : Nums (.int k t :: r) (k :: r')
theorem Nums.snoc {vs : List Value} {ks : List Int} {k : Int} {t : Tok} (h : Nums vs ks) : Nums (vs ++ [.int k t]) (ks ++ [k]) := by
  induction h with
  | nil => exact .cons .nil
  | cons _ ih => exact .cons ih
theorem Nums.length {vs : List Value} {ks : List Int} (h : Nums vs ks) : vs.length = ks.length := by
  induction h with
  | nil => rfl
  | cons _ ih => simp [ih]
section
variable {prog : Program} {w : World} {A A₀ : Around} {base h₀ : Heap} {ev : Env} {L : Addr} {m mg mb : Str → Option Value} {mean : ExcName → Option Value} {s : Shared} {E : Value → Shared → Prop} {core fix : List (Addr × Obj)}
theorem ch_iter {c y : Addr} {es : Array DictEntry} {kvs : List (Int × Value)} {ps : List (Int × Int)} {ep : Nat} {oy : Obj} {out : List Int} {Q : Value → Shared → Prop} (S : ChSt prog w c y es kvs ps ep oy fix out core)
   (hA : A.frames = some [ev]) (hh : A.handled = none) (hg : A.guards = some []) (hd : A.depth ≤ 500) (hu : A.units ≤ 2000)
   (hef : ev.frame = some L) (hek : ev.scope.kind = .function) (B : Below A₀ base [] h₀) (F : Fr h₀ L s.heap m) (X : (Mine.hd07.heap_39 w.params).In h₀) (N : News h₀ L s.heap (core ++ fix)) (T : Top vw ls mean mg mb h₀)
   (k : ∀ h' tk, Fr h₀ L h' m → News h₀ L h' (core ++ fix) → Q (.ref c) { s with heap := h', toks := tk }) : wpAny (model prog w) A (pyIter (.ref c)) Q E s := by
  obtain ⟨ox, od, I⟩ := S.inst N
  refine owit_iter F X I ch_iter_f ch_iter_fn (use_at 10 hA hef hek hh hg hd hu (iter_self B F X N T fun h' tk F' N' => ?_))
  obtain ⟨ox', od', I'⟩ := S.inst N'
  exact owit_it (s := { s with heap := h', toks := tk }) F' X I' ch_next_f (k h' tk F' N')
end
section
variable {prog : Program} {w : World} {A A₀ : Around} {base h₀ : Heap} {env : Env} {L : Addr} {m mg mb : Str → Option Value} {mean : ExcName → Option Value} {s : Shared} {E : Value → Shared → Prop} {core fix : List (Addr × Obj)}
theorem block_chain {iter : Expr} {x : Str} {px pe : Pos} {scope : Scope} {cl : List (Str × Addr)} {pos : Pos} {s₂ : Shared} {RR : Value → Addr → Result → Shared → Prop}
    {c y : Addr} {es : Array DictEntry} {kvs : List (Int × Value)} {ps : List (Int × Int)} {ep : Nat} {oy : Obj} {out : List Int} (S : ChSt prog w c y es kvs ps ep oy fix out core) (hy : (y, oy) ∈ fix) (hout : out.length ≤ sizeLine)
    (hA : A.frames = some [env]) (hh : A.handled = none) (hg : A.guards = some []) (hd0 : A.depth ≤ 500) (hu0 : A.units ≤ 2000)
    (hef : env.frame = some L) (hek : env.scope.kind = .function) (B : Below A₀ base [] h₀) (X : (Mine.hd07.heap_39 w.params).In h₀) (T : Top vw ls mean mg mb h₀) (XB : (Mine.hd07.heap_39 w.params).In base) (TB : Top vw ls mean mg mb base)
    (hcell : ∀ y ∈ scope.names, y.2 ≠ .cell) (hkind : scope.kind = .function) (hx : scope.names.lookup x = some .local) (hdb : (x == ("__debug__" : Str)) = false)
    (F : Fr h₀ L s₂.heap m) (N : News h₀ L s₂.heap (core ++ fix))
    (hRR : ∀ D C h tk m' core' ys, Nums ys out → ChSt prog w c y es kvs ps ep oy fix [] core' → Fr h₀ L h m → News h₀ L h ((D, lst ys) :: (core' ++ fix)) → (∀ p ∈ core' ++ fix, p.1 ≠ D) → h.Ns C m' → h₀.get? C = none → C ≠ L → C ≠ D → (∀ p ∈ core' ++ fix, p.1 ≠ C) → RR (.ref D) C (.ok .next) { s₂ with heap := h, toks := tk }) :
    wpAny (model prog w) A (newList []) (fun acc s₃ => wpAny (model prog w) A (newFunctionEnv scope env.globals cl [] env.qual none .none (some env)) (fun cenv s₄ =>
      codeAny (model prog w) A (.compStart (.ListComp (.Name x pe) [⟨.Name x px, iter, [], 0⟩] scope pos) 0 (.ref c) acc { cenv with scope := relabel scope env }) (RR acc cenv.locals) s₄) E s₃) E s₂ := by
  have hd : A.depth ≤ 520 := by omega
  have hu : A.units ≤ 2200 := by omega
  refine wpAny_newObj_type (wpAny_newFunctionEnv hcell (by intro y hy; simp at hy) (fun h₁ hns₁ hsb₁ => ?_) hkind)
  dsimp only at hns₁ hsb₁ ⊢
  generalize hH2 : s₂.heap.push { cls := .type "list", dict := none, data := .seq ([] : List Value).toArray } = H2 at hns₁ hsb₁ ⊢
  have hC : H2.objs.size = s₂.heap.objs.size + 1 := by rw [← hH2, Heap.size_push]
  generalize hDD : s₂.heap.objs.size = D at *
  generalize hCC : H2.objs.size = C at *
  have hDC : D ≠ C := by rw [hC]; exact Nat.ne_of_lt (Nat.lt_succ_self _)
  have below : ∀ b, b < D → b ≠ C ∧ b ≠ D := fun b hb => ⟨by rw [hC]; exact Nat.ne_of_lt (Nat.lt_succ_of_lt hb), Nat.ne_of_lt hb⟩
  have old : ∀ b o, s₂.heap.get? b = some o → h₁.get? b = some o := fun b o e => hsb₁.extBut b o (below b (hDD ▸ Heap.lt_size e)).1 (Heap.get?_push_of_some _ (hH2 ▸ Heap.get?_push_of_some _ e))
  have hacc : h₁.get? D = some (lst []) := hsb₁.extBut _ _ hDC (Heap.get?_push_of_some _ (hH2 ▸ hDD ▸ Heap.get?_push_size _ rfl))
  have fresh : ∀ a, D ≤ a → s₂.heap.get? a = none := fun a ha => by
    cases e : s₂.heap.get? a with
    | none => rfl
    | some o' => exact absurd (Heap.lt_size e) (Nat.not_lt.mpr (hDD ▸ ha))
  have fresh₀ : ∀ a, D ≤ a → h₀.get? a = none := fun a ha => by
    cases e : h₀.get? a with
    | none => rfl
    | some o' => have := F.keep a o' e; rw [fresh a ha] at this; cases this
  have hD₀ : h₀.get? D = none := fresh₀ _ (Nat.le_refl _)
  have hC₀ : h₀.get? C = none := fresh₀ _ (by rw [hC]; exact Nat.le_succ _)
  have hLlt : L < D := hDD ▸ F.ns.lt
  have hDL : D ≠ L := Ne.symm (below L hLlt).2
  have hCL : C ≠ L := Ne.symm (below L hLlt).1
  have offD : ∀ p ∈ core ++ fix, p.1 ≠ D := fun p hp => (below _ (hDD ▸ Heap.lt_size (N p hp).1)).2
  have offC : ∀ p ∈ core ++ fix, p.1 ≠ C := fun p hp => (below _ (hDD ▸ Heap.lt_size (N p hp).1)).1
  have fixC : ∀ p ∈ fix, p.1 ≠ C := fun p hp => offC p (List.mem_append_right _ hp)
  have fixD : ∀ p ∈ fix, p.1 ≠ D := fun p hp => offD p (List.mem_append_right _ hp)
  have off' : ∀ {oC : Obj} {ys : List Value} {r : List Int} {core' : List (Addr × Obj)} {h : Heap} {mC : Str → Option Value}, NsObj oC mC → ChSt prog w c y es kvs ps ep oy ((C, oC) :: (D, lst ys) :: fix) r core' → News h₀ L h (core' ++ ((C, oC) :: (D, lst ys) :: fix)) →
      (∀ p ∈ core', p.1 ≠ C) ∧ ∀ p ∈ core', p.1 ≠ D := fun hn S' N' => by
    obtain ⟨es', ep', hd', _⟩ := hn
    exact ⟨S'.off N' (q := (C, _)) (.head _) fun q => q.2 _ _ hd', S'.off N' (q := (D, _)) (.tail _ (.head _)) (lst_notup _)⟩
  have swap : ∀ {oC oC' : Obj} {ys ys' : List Value} {r : List Int} {core' : List (Addr × Obj)} {mC : Str → Option Value}, NsObj oC mC → ChSt prog w c y es kvs ps ep oy ((C, oC) :: (D, lst ys) :: fix) r core' → ChSt prog w c y es kvs ps ep oy ((C, oC') :: (D, lst ys') :: fix) r core' := fun {oC oC' ys ys' r core' mC} hn S' => by
    obtain ⟨es', ep', hd', _⟩ := hn
    refine S'.alter (fun q hq => .inl ?_) (.tail _ (.tail _ hy)) fun p hp => ?_
    · rcases List.mem_cons.mp hq with rfl | hq
      · exact ⟨(C, oC), .head _, rfl⟩
      · rcases List.mem_cons.mp hq with rfl | hq
        · exact ⟨(D, lst ys), .tail _ (.head _), rfl⟩
        · exact ⟨q, .tail _ (.tail _ hq), rfl⟩
    · rcases List.mem_cons.mp hp with rfl | hp
      · exact .inr fun q => q.2 _ _ hd'
      · rcases List.mem_cons.mp hp with rfl | hp
        · exact .inr (lst_notup _)
        · exact .inl (.tail _ (.tail _ hp))
  have loop : ∀ s₃ : Shared, (∃ h tk core' oC m', s₃ = { s₂ with heap := h, toks := tk } ∧ ChSt prog w c y es kvs ps ep oy ((C, oC) :: (D, lst []) :: fix) out core' ∧ Fr h₀ L h m ∧ News h₀ L h (core' ++ ((C, oC) :: (D, lst []) :: fix)) ∧ NsObj oC m') →
      codeAny (model prog w) A (.compLoop (.ListComp (.Name x pe) [⟨.Name x px, iter, [], 0⟩] scope pos) 0 (.ref c) (.ref D) (compEnvC scope cl C env)) (RR (.ref D) C) s₃ := by
    rintro s₃ ⟨h, tk, core', oC, m', rfl, S', F', N', hn'⟩
    refine codeAny_compLoop_tests
      (fun k s' => ∃ h tk r ys dn core' oC m', s' = { s₂ with heap := h, toks := tk } ∧ k = r.length + 1 ∧ Nums ys dn ∧ dn ++ r = out ∧ ChSt prog w c y es kvs ps ep oy ((C, oC) :: (D, lst ys) :: fix) r core' ∧ Fr h₀ L h m ∧
        News h₀ L h (core' ++ ((C, oC) :: (D, lst ys) :: fix)) ∧ NsObj oC m') ?_ (out.length + 1)
      ⟨h, tk, out, [], [], core', oC, m', rfl, rfl, .nil, rfl, S', F', N', hn'⟩
    rintro k s' ⟨h, tk, r, ys, dn, core', oC, m', rfl, rfl, hys, hdn, S', F', N', hn'⟩
    refine ch_next S' (.tail _ (.tail _ hy)) hA hh hg hd hu hef hek B F' X N' T XB TB (fun k r' t h2 tk2 core2 e S2 F2 N2 => ?_) fun h2 tk2 core2 e S2 F2 N2 => ?_
    · subst e
      obtain ⟨oC2, oD2⟩ := off' hn' S2 N2
      have zC := N2 (C, oC) (List.mem_append_right _ (.head _))
      refine wpAny_assign_Name (wpAny_storeName_local (lookup_relabel_local hx) (hn'.ns zC.1) (fun h₃ hn₃ hs₃ => ?_) (by simp [compEnvC, relabel, hkind]))
      refine wpAny_tests_nil ?_
      simp only [if_true]
      obtain ⟨oC3, heC, hoC⟩ := ns_obj hn₃
      have F₃ : Fr h₀ L h₃ m := F2.change hs₃ hCL hC₀
      have N₃ : News h₀ L h₃ (core2 ++ ((C, oC3) :: (D, lst ys) :: fix)) := fun p hp => by
        rcases List.mem_append.mp hp with hp | hp
        · have z := N2 p (List.mem_append_left _ hp)
          exact ⟨hs₃.extBut _ _ (oC2 p hp) z.1, z.2⟩
        · rcases List.mem_cons.mp hp with rfl | hp
          · exact ⟨heC, hCL, hC₀⟩
          · have z := N2 p (List.mem_append_right _ (.tail _ hp))
            refine ⟨hs₃.extBut _ _ ?_ z.1, z.2⟩
            rcases List.mem_cons.mp hp with rfl | hp
            · exact hDC
            · exact fixC p hp
      rw [eval_Name _ _ _ hdb]
      refine wpAny_bind (wpAny_standAt (wpAny_loadName_local (v := .int k t) (by simp [compEnvC, relabel, hkind]) (lookup_relabel_local hx) hn₃ (by simp) ?_))
      have zD := (N₃ (D, lst ys) (List.mem_append_right _ (.tail _ (.head _)))).1
      have hlen : ys.length ≤ sizeLine := by
        rw [hys.length]
        have : (dn ++ k :: r').length = out.length := by rw [hdn]
        rw [List.length_append] at this
        omega
      refine append_at (hsz := by show ys.toArray.size ≤ sizeLine; rw [List.size_toArray]; exact hlen) zD fun h₅ hs₅ hD₅ => ?_
      refine ⟨r'.length + 1, by rw [List.length_cons]; omega, h₅, _, r', ys ++ [.int k t], dn ++ [k], core2, oC3, _, rfl, rfl, hys.snoc, by rw [← hdn]; simp, swap hn' S2, F₃.change hs₅ hDL hD₀, fun p hp => ?_, hoC⟩
      rcases List.mem_append.mp hp with hp | hp
      · have z := N₃ p (List.mem_append_left _ hp)
        exact ⟨hs₅.extBut _ _ (oD2 p hp) z.1, z.2⟩
      · rcases List.mem_cons.mp hp with rfl | hp
        · have z := N₃ (C, oC3) (List.mem_append_right _ (.head _))
          exact ⟨hs₅.extBut _ _ (Ne.symm hDC) z.1, z.2⟩
        · rcases List.mem_cons.mp hp with rfl | hp
          · exact ⟨hD₅.trans (congrArg some (lst_snoc ys _)), hDL, hD₀⟩
          · have z := N₃ p (List.mem_append_right _ (.tail _ (.tail _ hp)))
            exact ⟨hs₅.extBut _ _ (fixD p hp) z.1, z.2⟩
    · subst e
      rw [List.append_nil] at hdn
      subst hdn
      obtain ⟨oC2, oD2⟩ := off' hn' S2 N2
      obtain ⟨es', ep', hd', _⟩ := id hn'
      refine hRR D C h2 tk2 m' core2 ys hys (S2.alter (fun q hq => .inl ⟨q, .tail _ (.tail _ hq), rfl⟩) hy fun p hp => ?_) F2 (fun p hp => ?_) (fun p hp => ?_) (hn'.ns (N2 (C, oC) (List.mem_append_right _ (.head _))).1) hC₀ hCL (Ne.symm hDC) fun p hp => ?_
      · rcases List.mem_cons.mp hp with rfl | hp
        · exact .inr fun q => q.2 _ _ hd'
        · rcases List.mem_cons.mp hp with rfl | hp
          · exact .inr (lst_notup _)
          · exact .inl hp
      · rcases List.mem_cons.mp hp with rfl | hp
        · exact N2 (D, lst ys) (List.mem_append_right _ (.tail _ (.head _)))
        · rcases List.mem_append.mp hp with hp | hp
          · exact N2 p (List.mem_append_left _ hp)
          · exact N2 p (List.mem_append_right _ (.tail _ (.tail _ hp)))
      · rcases List.mem_append.mp hp with hp | hp
        · exact oD2 p hp
        · exact fixD p hp
      · rcases List.mem_append.mp hp with hp | hp
        · exact oC2 p hp
        · exact fixC p hp
  obtain ⟨oC1, heC1, hoC1⟩ := ns_obj hns₁
  have F1 : Fr h₀ L h₁ m := F.keeps old
  have N1 : News h₀ L h₁ (core ++ ((C, oC1) :: (D, lst []) :: fix)) := fun p hp => by
    rcases List.mem_append.mp hp with hp | hp
    · have z := N p (List.mem_append_left _ hp)
      exact ⟨old _ _ z.1, z.2⟩
    · rcases List.mem_cons.mp hp with rfl | hp
      · exact ⟨heC1, hCL, hC₀⟩
      · rcases List.mem_cons.mp hp with rfl | hp
        · exact ⟨hacc, hDL, hD₀⟩
        · have z := N p (List.mem_append_right _ hp)
          exact ⟨old _ _ z.1, z.2⟩
  have S1 : ChSt prog w c y es kvs ps ep oy ((C, oC1) :: (D, lst []) :: fix) out core := S.alter (fun q hq => by
    rcases List.mem_cons.mp hq with rfl | hq
    · exact .inr fun p hp => offC p (List.mem_append_left _ hp)
    · rcases List.mem_cons.mp hq with rfl | hq
      · exact .inr fun p hp => offD p (List.mem_append_left _ hp)
      · exact .inl ⟨q, hq, rfl⟩) (.tail _ (.tail _ hy)) fun p hp => .inl (.tail _ (.tail _ hp))
  exact codeAny_compStart_list (loop _ ⟨h₁, _, core, oC1, _, rfl, S1, F1, N1, hoC1⟩) (ch_iter (s := { s₂ with heap := h₁, toks := _ }) S1 hA hh hg (by omega) (by omega) hef hek B F1 X N1 T fun h' tk F' N' => loop _ ⟨h', tk, core, oC1, _, rfl, S1, F', N', hoC1⟩)
end
end Mine
end
section
open PySem PySem.W PyProof.Rows PyProof.V PySem.Calls PySem.Spec Builtin Builtin.ObjectAttr LCg
set_option Elab.async false
set_option maxRecDepth 100000
set_option maxHeartbeats 3000000
namespace Mine
section
variable {prog : Program} {w : World} {A A₀ : Around} {base h₀ : Heap} {env : Env} {L : Addr} {m mg mb : Str → Option Value} {mean : ExcName → Option Value} {s : Shared} {E : Value → Shared → Prop} {core fix : List (Addr × Obj)}
theorem assign_chain {iter : Expr} {x z : Str} {px pe pz : Pos} {scope : Scope} {cl : List (Str × Addr)} {pos spos : Pos} {Q : Flow → Shared → Prop}
    {c y : Addr} {es : Array DictEntry} {kvs : List (Int × Value)} {ps : List (Int × Int)} {ep : Nat} {oy : Obj} {out : List Int} (S : ChSt prog w c y es kvs ps ep oy fix out core) (hy : (y, oy) ∈ fix) (hout : out.length ≤ sizeLine)
    (hA : A.frames = some [env]) (hh : A.handled = none) (hg : A.guards = some []) (hd0 : A.depth ≤ 500) (hu0 : A.units ≤ 2000)
    (hLe : env.locals = L) (hef : env.frame = some L) (hek : env.scope.kind = .function) (B : Below A₀ base [] h₀) (X : (Mine.hd07.heap_39 w.params).In h₀) (T : Top vw ls mean mg mb h₀) (XB : (Mine.hd07.heap_39 w.params).In base) (TB : Top vw ls mean mg mb base)
    (hsw : swapsWith (.ListComp (.Name x pe) [⟨.Name x px, iter, [], 0⟩] scope pos) (some (.Name z pz)) spos.line env = pure true)
    (hclos : closureFor scope env = pure cl) (hcell : ∀ y ∈ scope.names, y.2 ≠ .cell) (hkind : scope.kind = .function) (hnames : ∀ z ∈ scope.names, z.2 = .local → scope.names.lookup z.1 = some .local) (hx : scope.names.lookup x = some .local) (hdb : (x == ("__debug__" : Str)) = false)
    (hz : env.kindOf z = some .local) (hp : (env.scope.kind == .class || (env.scope.kind == .module && env.locals != env.globals)) = false)
    (h : wpAny (model prog w) A (eval iter env) (fun xv s₁ => Halt (xv = .ref c ∧ Fr h₀ L s₁.heap m ∧ News h₀ L s₁.heap (core ++ fix) ∧ 
      ∀ D h tk core' ys, Nums ys out → ChSt prog w c y es kvs ps ep oy fix [] core' → Fr h₀ L h (fun v => if v = z then some (.ref D) else m v) → News h₀ L h ((D, lst ys) :: (core' ++ fix)) → (∀ p ∈ core' ++ fix, p.1 ≠ D) → Q .next { s₁ with heap := h, toks := tk })) E s)
    (hs : ∀ x, foldedSetIterable iter env x = pure x := by intro _; rfl) :
    wpAny (model prog w) A (exec (.Assign [.Name z pz] (.ListComp (.Name x pe) [⟨.Name x px, iter, [], 0⟩] scope pos) spos) env) Q E s := by
  subst hLe
  rw [exec_Assign_Name_used _ _ _ _ hsw]
  refine wpAny_bind (wpAny_standAt (wpAny_bind ?_))
  show wpAny _ A (do let _ ← comprehension (.ListComp (.Name x pe) [⟨.Name x px, iter, [], 0⟩] scope pos) scope env _ (newList []) false (eval iter env) (some (assign (.Name z pz) env))) _ _ s
  refine wpAny_bind (wpAny_mono (wpAny_comprehension_free (use := some (assign (.Name z pz) env)) (Q := fun _ s' => Q .next s') rfl hs hclos hkind hnames
    (wpAny_mono h (fun xv s₁ h₁ => ?_) fun _ _ e => e)) (fun _ s' hq => wpAny_pure (wpAny_pure hq)) fun _ _ e => e)
  obtain ⟨rfl, F, N, fin⟩ := h₁
  refine ch_iter S hA hh hg hd0 hu0 hef hek B F X N T fun h2 tk2 F2 N2 => ?_
  refine block_chain (s₂ := { s₁ with heap := h2, toks := tk2 }) S hy hout hA hh hg hd0 hu0 hef hek B X T XB TB hcell hkind hx hdb F2 N2 ?_
  intro D C h' tk m' core' ys hys S' F' N' o1 hn hC₀ hCL hCD offC
  show wpAny _ A (assign (.Name z pz) env (.ref D)) _ _ _
  refine wpAny_assign_Name (wpAny_storeName_local hz F'.ns (fun h₂ hn₂ hs₂ => ?_) hp)
  have hL₀ : h₀.get? env.locals = none := Heap.get?_none_of_le F'.above
  have F₂ : Fr h₀ env.locals h₂ (fun v => if v = z then some (.ref D) else m v) := ⟨hn₂, fun b o e => hs₂.extBut b o (fun q => by rw [q, hL₀] at e; cases e) (F'.keep b o e), F'.above⟩
  refine ⟨m', hn.sameBut hs₂ hCL, fun h'' hs'' => fin D h'' _ core' ys hys S' (F₂.change hs'' hCL hC₀) (fun p hp => ?_) o1⟩
  have zz : h₂.get? p.1 = some p.2 := hs₂.extBut _ _ (N' p hp).2.1 (N' p hp).1
  refine ⟨hs''.extBut _ _ ?_ zz, (N' p hp).2⟩
  rcases List.mem_cons.mp hp with rfl | hp
  · exact Ne.symm hCD
  · exact offC p hp
theorem eval_chain {iter : Expr} {x : Str} {px pe : Pos} {scope : Scope} {cl : List (Str × Addr)} {pos : Pos} {Q : Value → Shared → Prop}
    {c y : Addr} {es : Array DictEntry} {kvs : List (Int × Value)} {ps : List (Int × Int)} {ep : Nat} {oy : Obj} {out : List Int} (S : ChSt prog w c y es kvs ps ep oy fix out core) (hy : (y, oy) ∈ fix) (hout : out.length ≤ sizeLine)
    (hA : A.frames = some [env]) (hh : A.handled = none) (hg : A.guards = some []) (hd0 : A.depth ≤ 500) (hu0 : A.units ≤ 2000)
    (hef : env.frame = some L) (hek : env.scope.kind = .function) (B : Below A₀ base [] h₀) (X : (Mine.hd07.heap_39 w.params).In h₀) (T : Top vw ls mean mg mb h₀) (XB : (Mine.hd07.heap_39 w.params).In base) (TB : Top vw ls mean mg mb base)
    (hclos : closureFor scope env = pure cl) (hcell : ∀ y ∈ scope.names, y.2 ≠ .cell) (hkind : scope.kind = .function) (hnames : ∀ z ∈ scope.names, z.2 = .local → scope.names.lookup z.1 = some .local) (hx : scope.names.lookup x = some .local) (hdb : (x == ("__debug__" : Str)) = false)
    (h : wpAny (model prog w) A (eval iter env) (fun xv s₁ => Halt (xv = .ref c ∧ Fr h₀ L s₁.heap m ∧ News h₀ L s₁.heap (core ++ fix) ∧ 
      ∀ D h tk core' ys, Nums ys out → ChSt prog w c y es kvs ps ep oy fix [] core' → Fr h₀ L h m → News h₀ L h ((D, lst ys) :: (core' ++ fix)) → (∀ p ∈ core' ++ fix, p.1 ≠ D) → Q (.ref D) { s₁ with heap := h, toks := tk })) E s)
    (hs : ∀ x, foldedSetIterable iter env x = pure x := by intro _; rfl) :
    wpAny (model prog w) A (eval (.ListComp (.Name x pe) [⟨.Name x px, iter, [], 0⟩] scope pos) env) Q E s := by
  rw [eval_ListComp]
  refine wpAny_comprehension_free (use := none) rfl hs hclos hkind hnames (wpAny_mono h (fun xv s₁ h₁ => ?_) fun _ _ e => e)
  obtain ⟨rfl, F, N, fin⟩ := h₁
  refine ch_iter S hA hh hg hd0 hu0 hef hek B F X N T fun h2 tk2 F2 N2 => ?_
  refine block_chain (s₂ := { s₁ with heap := h2, toks := tk2 }) S hy hout hA hh hg hd0 hu0 hef hek B X T XB TB hcell hkind hx hdb F2 N2 ?_
  intro D C h' tk m' core' ys hys S' F' N' o1 hn hC₀ hCL hCD offC
  refine ⟨m', hn, fun h'' hs'' => fin D h'' tk core' ys hys S' (F'.change hs'' hCL hC₀) (fun p hp => ?_) o1⟩
  refine ⟨hs''.extBut _ _ ?_ (N' p hp).1, (N' p hp).2⟩
  rcases List.mem_cons.mp hp with rfl | hp
  · exact Ne.symm hCD
  · exact offC p hp
end
end Mine
end
section
open PySem PySem.W PyProof.Rows PyProof.V PySem.Calls PySem.Spec Builtin Builtin.ObjectAttr LCg
set_option Elab.async false
set_option maxRecDepth 100000
set_option maxHeartbeats 3000000
namespace Mine
local macro_rules | `(tactic| walk_at "none0") => `(tactic| skip)
theorem fillD25 : PySem.Challenge.rw_dn0005_07 = PySem.Challenge.rw_dn0005_07 ∧ Mine.hd07.heap_39 = Mine.hd07.heap_39 := by
  k_fill
  exact ⟨rfl, rfl⟩
local macro_rules | `(tactic| walk_at "exec Assign cons ListComp") => `(tactic| (refine halt ?_))
local macro_rules | `(tactic| walk_at "eval ListComp") => `(tactic| (refine halt ?_))
local macro_rules | `(tactic| walk_at "execs cons") => `(tactic| ((with_reducible show wpAny _ _ (execs [_, _, _, _, _, _, _, _] _) _ _ _); refine halt ?_))
abbrev mD (y x c t : Addr) (xv : Option Value) : Str → Option Value := fun z => if z = Str.ofString "told" then some (.ref t) else mB y x c xv z
section
variable {prog : Program} {w : World} {A₀ : Around} {g1 : Heap} {outer : List Env} {e0 : Env} {L L1 : Addr} {mg mb : Str → Option Value} {mean : ExcName → Option Value} {s : Shared} {Q : Flow → Shared → Prop} {E : Value → Shared → Prop}
theorem law_told {name qual : Str} {params : Arguments} {body : List Stmt} {scope : Scope} {dV kV doc pm cdv ct oc : Value} {an od : Option Addr} {osl : Array (Option Value)}
    (ho : (Mine.hd07.heap_39 w.params).lookup 1102 = some ⟨oc, od, .func (fnOf name qual params body scope dV kV doc pm an cdv ct), osl⟩)
    {y d x dx c : Addr} {oy o1 o2 ob : Obj} {kvs : List (Int × Value)} {ps : List (Int × Int)} {es : Array DictEntry} {n : Nat} {xv : Option Value} {core : List (Addr × Obj)}
    (hlen : (expand ps).length ≤ 1000) (S : ChSt prog w c x es kvs ps n (cnt es n dx) (nB L1 x dx d y es n ob o1 o2 oy) (expand ps) core)
    (B1 : Below callerA g1 [] g1) (X1 : (Mine.hd07.heap_39 w.params).In g1) (T1 : Top vw ls mean mg mb g1)
    (F1 : Fr g1 L1 s.heap (mB y x c xv)) (N1 : News g1 L1 s.heap (core ++ nB L1 x dx d y es n ob o1 o2 oy))
    (hE : PassesOwn (model prog w) (callerA.deeper (envOfC qual scope L1 1102 cdv)) (envOfC qual scope L1 1102 cdv) E)
    (k : ∀ t ys h' tk, Nums ys (expand ps) → Fr g1 L1 h' (mD y x c t xv) → News g1 L1 h' ((t, lst ys) :: nB L1 x dx d y es n ob o1 o2 oy) → (∀ p ∈ nB L1 x dx d y es n ob o1 o2 oy, p.1 ≠ t) →
      wpAny (model prog w) (callerA.deeper (envOfC qual scope L1 1102 cdv)) (execs (body.drop 6) (envOfC qual scope L1 1102 cdv)) Q E { s with heap := h', toks := tk }) :
    wpAny (model prog w) (callerA.deeper (envOfC qual scope L1 1102 cdv)) (execs (body.drop 4) (envOfC qual scope L1 1102 cdv)) Q E s := by
  have e := ho.symm.trans (by k_is : (Mine.hd07.heap_39 w.params).lookup 1102 = some _)
  cases e
  dsimp only [List.drop]
  k_steps
  unfold Halt
  refine assign_chain (m := mB y x c xv) S (.head _) (by rw [PySem.sizeLine_eq]; omega) rfl rfl rfl (Nat.le_of_ble_eq_true rfl) (Nat.le_of_ble_eq_true rfl) rfl rfl rfl B1 X1 T1 X1 T1 (by with_unfolding_all rfl) (by with_unfolding_all rfl) (by decide) (by rfl) (by decide) (by rfl) (by decide) (by rfl) (by rfl) ?_
  k_steps
  unfold Halt
  refine ⟨rfl, F1, N1, fun t h2 tk2 core2 ys hys S2 F2 N2 off2 => ?_⟩
  replace F2 : Fr g1 L1 h2 (mD y x c t xv) := F2
  replace N2 : News g1 L1 h2 ((t, lst ys) :: (core2 ++ nB L1 x dx d y es n ob o1 o2 oy)) := N2
  have S3 : ChSt prog w c x es kvs ps n (cnt es n dx) ((t, lst ys) :: nB L1 x dx d y es n ob o1 o2 oy) [] core2 := S2.alter (fun q hq => by
    rcases List.mem_cons.mp hq with rfl | hq
    · exact .inr fun p hp => off2 p (List.mem_append_left _ hp)
    · exact .inl ⟨q, hq, rfl⟩) (.tail _ (.head _)) fun p hp => .inl (.tail _ hp)
  have N3 : News g1 L1 h2 (core2 ++ ((t, lst ys) :: nB L1 x dx d y es n ob o1 o2 oy)) := news_sub N2 fun p hp => by
    rcases List.mem_append.mp hp with hp | hp
    · exact .tail _ (List.mem_append_left _ hp)
    · rcases List.mem_cons.mp hp with rfl | hp
      · exact .head _
      · exact .tail _ (List.mem_append_right _ hp)
  have off3 : ∀ p ∈ nB L1 x dx d y es n ob o1 o2 oy, p.1 ≠ t := fun p hp => off2 p (List.mem_append_right _ hp)
  clear N2 S2 off2 S N1 F1
  k_steps
  unfold Halt
  refine eval_chain (m := mD y x c t xv) S3 (.tail _ (.head _)) (Nat.zero_le _) rfl rfl rfl (Nat.le_of_ble_eq_true rfl) (Nat.le_of_ble_eq_true rfl) rfl rfl B1 X1 T1 X1 T1 (by with_unfolding_all rfl) (by decide) (by rfl) (by decide) (by rfl) (by decide) ?_
  k_steps
  unfold Halt
  refine ⟨rfl, F2, N3, fun t2 h4 tk4 core4 ys4 hys4 S4 F4 N4 off4 => ?_⟩
  cases hys4
  replace F4 : Fr g1 L1 h4 (mD y x c t xv) := F4
  replace N4 : News g1 L1 h4 ((t2, lst []) :: (t, lst ys) :: nB L1 x dx d y es n ob o1 o2 oy) := news_sub N4 fun p hp => by
    rcases List.mem_cons.mp hp with rfl | hp
    · exact .head _
    · exact .tail _ (List.mem_append_right _ hp)
  clear S3 N3 F2 S4 off4
  k_steps
  unfold Halt
  exact k t ys _ _ hys (by k_asm) (news_sub (by assumption) fun p hp => .tail _ (.tail _ hp)) off3
end
end Mine
end
section
open PySem PySem.W PyProof.Rows PyProof.V PySem.Calls PySem.Spec Builtin Builtin.ObjectAttr LCg
set_option compiler.extract_closed false
set_option Elab.async false
set_option maxRecDepth 100000
set_option maxHeartbeats 3000000
namespace Mine
theorem fillD26 : PySem.Challenge.rw_dn0005_07 = PySem.Challenge.rw_dn0005_07 ∧ Mine.hd07.heap_39 = Mine.hd07.heap_39 := by
  k_fill
  exact ⟨rfl, rfl⟩
theorem Nums.ints {vs : List Value} {ks : List Int} (h : Nums vs ks) : IntsAre vs ks := by
  induction h with
  | nil => exact .nil
  | cons _ ih => exact .cons _ _ ih
theorem ints_of_idx : ∀ {vs : List Value} {ks : List Int}, vs.length = ks.length → (∀ (j : Nat) (v : Value), vs[j]? = some v → ∃ k t, ks[j]? = some k ∧ v = .int k t) → IntsAre vs ks
  | [], [], _, _ => .nil
  | [], _ :: _, e, _ => by simp at e
  | _ :: _, [], e, _ => by simp at e
  | v :: vs, k :: ks, e, h => by
    obtain ⟨k', t, e1, rfl⟩ := h 0 v rfl
    cases Option.some.inj e1
    exact .cons _ _ (ints_of_idx (by simpa using e) fun j v hv => h (j + 1) v hv)
section
variable {prog : Program} {w : World} {A : Around} {E : Value → Shared → Prop} {s : Shared} {h₀ : Heap} {L d : Addr} {m : Str → Option Value} {news : List (Addr × Obj)}
theorem list_keys_I {ob : Obj} {kvs : List (Int × Value)} {ps : List (Int × Int)} {Q : Value → Shared → Prop} (hh : A.handled = none) (F : Fr h₀ L s.heap m) (N : News h₀ L s.heap news) (hp : (d, ob) ∈ news) (hd : ob.IsDictOf (PySem.intKind prog w) kvs) (hi : IntsI kvs ps) (lo : (d == sysModules) = false) (hl : kvs.length ≤ sizeLine)
    (h : ∀ D n vs h' tk, IntsAre vs (ps.map (·.1)) → Fr h₀ L h' m → News h₀ L h' ((D, listOf vs.toArray n) :: news) → (∀ q ∈ news, q.1 < D) → Q (.ref D) { s with heap := h', toks := tk }) : wpAny (model prog w) A (call (.type "list") [.ref d]) Q E s := by
  obtain ⟨es, ep, r⟩ := hd
  refine kdl_N (kdl_dict (knd := PySem.intKind prog w) (kvs := kvs) (ep := ep) lo) hh F N ⟨ob, es, (N _ hp).1, r⟩ hl fun D n h' tk vs F' N' l1 hlen hv => h D n vs h' tk (ints_of_idx (by rw [hlen, hi.length, List.length_map]) fun j v e => ?_) F' N' l1
  obtain ⟨k, x, hx, hk⟩ := hv j v e
  obtain ⟨t, rfl⟩ := PySem.Value.isInt_shape hk
  obtain ⟨c, t', hc, _⟩ := hi.at? hx
  exact ⟨k, t, by rw [List.getElem?_map, hc]; rfl, rfl⟩
end
local macro_rules | `(tactic| walk_at "call type:list") => `(tactic| (refine halt ?_))
local macro_rules | `(tactic| walk_at "execs cons") => `(tactic| ((with_reducible show wpAny _ _ (execs [_, _, _, _, _, _, _] _) _ _ _); refine halt ?_))
section
variable {prog : Program} {w : World} {A₀ : Around} {g1 : Heap} {outer : List Env} {e0 : Env} {L L1 : Addr} {mg mb : Str → Option Value} {mean : ExcName → Option Value} {s : Shared} {Q : Flow → Shared → Prop} {E : Value → Shared → Prop}
theorem law_order {name qual : Str} {params : Arguments} {body : List Stmt} {scope : Scope} {dV kV doc pm cdv ct oc : Value} {an od : Option Addr} {osl : Array (Option Value)}
    (ho : (Mine.hd07.heap_39 w.params).lookup 1102 = some ⟨oc, od, .func (fnOf name qual params body scope dV kV doc pm an cdv ct), osl⟩)
    {y d x dx c t : Addr} {oy o1 o2 ob : Obj} {kvs : List (Int × Value)} {ps : List (Int × Int)} {es : Array DictEntry} {n : Nat} {xv : Option Value} {ys : List Value}
    (hd : ob.IsDictOf (PySem.intKind prog w) kvs) (hi : IntsI kvs ps) (hlen : ps.length ≤ 63) (d1' : o1.data = .cell none) (d2' : o2.data = .cell (some (.ref d))) (hds : (d == sysModules) = false) (q1 : @LT.lt Nat _ (L1 + 1 + 1) d) (q2 : @LT.lt Nat _ d dx) (q3 : @LT.lt Nat _ dx x) (q4 : @Ne Nat t (L1 + 1 + 1)) (q5 : @LT.lt Nat _ y L1)
    (B1 : Below callerA g1 [] g1) (X1 : (Mine.hd07.heap_39 w.params).In g1) (T1 : Top vw ls mean mg mb g1)
    (F1 : Fr g1 L1 s.heap (mD y x c t xv)) (N1 : News g1 L1 s.heap ((t, lst ys) :: nB L1 x dx d y es n ob o1 o2 oy))
    (hE : PassesOwn (model prog w) (callerA.deeper (envOfC qual scope L1 1102 cdv)) (envOfC qual scope L1 1102 cdv) E)
    (k : ∀ lo nl vo o1' h' tk, IntsAre vo (ps.map (·.1)) → o1'.data = .cell (some (.ref lo)) → (∀ q ∈ (t, lst ys) :: nB L1 x dx d y es n ob o1 o2 oy, q.1 < lo) → Fr g1 L1 h' (mD y x c t xv) → News g1 L1 h' ((lo, listOf vo.toArray nl) :: (t, lst ys) :: nB L1 x dx d y es n ob o1' o2 oy) →
      wpAny (model prog w) (callerA.deeper (envOfC qual scope L1 1102 cdv)) (execs (body.drop 7) (envOfC qual scope L1 1102 cdv)) Q E { s with heap := h', toks := tk }) :
    wpAny (model prog w) (callerA.deeper (envOfC qual scope L1 1102 cdv)) (execs (body.drop 6) (envOfC qual scope L1 1102 cdv)) Q E s := by
  have e := ho.symm.trans (by k_is : (Mine.hd07.heap_39 w.params).lookup 1102 = some _)
  cases e
  dsimp only [List.drop]
  k_steps
  unfold Halt
  refine list_keys_I (by rfl) F1 N1 (by k_mem) hd hi hds (by rw [hi.length, PySem.sizeLine_eq]; omega) fun lo nl vo h2 tk2 hvo F2 N2 l2 => ?_
  have q6 : @LT.lt Nat _ (L1 + 1 + 1) lo := l2 (L1 + 1 + 1, o1) (by k_mem)
  k_steps
  unfold Halt
  rename Obj => o1'
  exact k lo nl vo o1' _ _ hvo (by assumption) l2 (by k_asm) (by assumption)
end
end Mine
end
section
open PySem PySem.W PyProof.Rows PyProof.V PySem.Calls PySem.Spec Builtin Builtin.ObjectAttr LCg
set_option compiler.extract_closed false
set_option Elab.async false
set_option maxRecDepth 100000
set_option maxHeartbeats 3000000
namespace Mine
theorem fillD27 : PySem.Challenge.rw_dn0005_07 = PySem.Challenge.rw_dn0005_07 ∧ Mine.hd07.heap_39 = Mine.hd07.heap_39 := by
  k_fill
  exact ⟨rfl, rfl⟩
theorem valueAt_idx : ∀ {kvs : List (Int × Value)} {i : Nat} {k : Int} {v : Value}, (kvs.map (·.1)).Nodup → kvs[i]? = some (k, v) → valueAt kvs k = some v
  | [], _, _, _, _, h => by simp at h
  | (k0, v0) :: r, 0, k, v, hn, h => by
    cases Option.some.inj h
    simp [valueAt]
  | (k0, v0) :: r, i + 1, k, v, hn, h => by
    obtain ⟨n1, n2⟩ := List.nodup_cons.mp (show (k0 :: r.map (·.1)).Nodup from hn)
    have h' : r[i]? = some (k, v) := h
    have hne : k0 ≠ k := fun e => n1 (e ▸ List.mem_map_of_mem (f := (·.1)) (List.mem_of_getElem? h'))
    have := valueAt_idx n2 h'
    unfold valueAt at this ⊢
    rw [List.find?_cons_of_neg (by simpa using hne)]
    exact this
theorem IntsI.get {kvs : List (Int × Value)} {cs : List (Int × Int)} (h : IntsI kvs cs) {i : Nat} {p : Int × Int} (e : cs[i]? = some p) : ∃ t, kvs[i]? = some (p.1, .int p.2 t) := by
  have hlt : i < kvs.length := by
    rw [h.length]
    rcases Nat.lt_or_ge i cs.length with h | h
    · exact h
    · rw [List.getElem?_eq_none h] at e; cases e
  obtain ⟨k, c, t, e1, e2⟩ := h.at (List.getElem?_eq_getElem hlt)
  rw [e] at e2
  cases e2
  exact ⟨t, by rw [List.getElem?_eq_getElem hlt, e1]⟩
theorem IntsAre.get {vs : List Value} {ks : List Int} (h : IntsAre vs ks) {i : Nat} {v : Value} (e : vs[i]? = some v) : ∃ k t, ks[i]? = some k ∧ v = .int k t := by
  induction h generalizing i with
  | nil => simp at e
  | @cons k t vs' ks' hr ih =>
    cases i with
    | zero => exact ⟨k, t, rfl, (Option.some.inj e).symm⟩
    | succ i => exact ih e
theorem expand_sum : ∀ (ps : List (Int × Int)), ((expand ps).length : Int) = (ps.map fun q => max 0 q.2).sum
  | [] => rfl
  | (k, c) :: r => by
    have a := expand_sum r
    show ((List.replicate c.toNat k ++ expand r).length : Int) = _
    rw [List.length_append, List.length_replicate, List.map_cons, List.sum_cons, ← a]
    show ((c.toNat + (expand r).length : Nat) : Int) = max 0 c + _
    omega
theorem ite_tok {a : Int} {t u : Tok} : (Value.int (if a > 0 then a else 0) (if a > 0 then t else u)) = .int (max 0 a) (if a > 0 then t else u) := by
  by_cases h : a > 0
  · rw [if_pos h, if_pos h, show max 0 a = a by omega]
  · rw [if_neg h, if_neg h, show max 0 a = 0 by omega]
local macro_rules | `(tactic| walk_at "CompSrc") => `(tactic| (refine halt ?_))
local macro_rules | `(tactic| walk_at "CompEnd") => `(tactic| (refine halt ?_))
local macro_rules | `(tactic| walk_at "subscriptTail") => `(tactic| (k_here; (refine kda_item (knd := PySem.intKind _ _) (by k_asm) (by k_mem) (by assumption) (intKind_is _ _ _ _) (by assumption) ?_)))
local macro_rules | `(tactic| walk_at "eval ListComp") => `(tactic| (refine halt ?_))
local macro_rules | `(tactic| walk_at "execs cons") => `(tactic| ((with_reducible show wpAny _ _ (execs [_, _, _, _, _, _] _) _ _ _); refine halt ?_))
abbrev nF (L1 lo t x dx d y : Addr) (es : Array DictEntry) (n nl : Nat) (vo ys : List Value) (ob o1 o2 oy : Obj) : List (Addr × Obj) := (lo, listOf vo.toArray nl) :: (t, lst ys) :: nB L1 x dx d y es n ob o1 o2 oy
theorem expand_len : ∀ {ps : List (Int × Int)}, (∀ q ∈ ps, q.2 ≤ 5) → (expand ps).length ≤ 5 * ps.length
  | [], _ => Nat.le_refl _
  | (k, c) :: r, h => by
    have a := expand_len (ps := r) fun q hq => h q (.tail _ hq)
    have b : c ≤ 5 := h (k, c) (.head _)
    show (List.replicate c.toNat k ++ expand r).length ≤ _
    rw [List.length_append, List.length_replicate, List.length_cons]
    omega
section
variable {prog : Program} {w : World} {A : Around} {E : Value → Shared → Prop} {s : Shared} {h₀ : Heap} {L d : Addr} {m : Str → Option Value} {news : List (Addr × Obj)}
end

section
variable {prog : Program} {w : World} {A₀ : Around} {g1 : Heap} {outer : List Env} {e0 : Env} {L L1 : Addr} {mg mb : Str → Option Value} {mean : ExcName → Option Value} {s : Shared} {Q : Flow → Shared → Prop} {E : Value → Shared → Prop}
theorem law_sum {name qual : Str} {params : Arguments} {body : List Stmt} {scope : Scope} {dV kV doc pm cdv ct oc : Value} {an od : Option Addr} {osl : Array (Option Value)}
    (ho : (Mine.hd07.heap_39 w.params).lookup 1102 = some ⟨oc, od, .func (fnOf name qual params body scope dV kV doc pm an cdv ct), osl⟩)
    {y d x dx c t lo : Addr} {oy o1 o2 ob : Obj} {kvs : List (Int × Value)} {ps : List (Int × Int)} {es : Array DictEntry} {n nl : Nat} {xv : Option Value} {ys vo : List Value}
    (hd : ob.IsDictOf (PySem.intKind prog w) kvs) (hi : IntsI kvs ps) (hlen : ps.length ≤ 63) (hb : ∀ q ∈ ps, -3 ≤ q.2 ∧ q.2 ≤ 5) (d1' : o1.data = .cell (some (.ref lo))) (d2' : o2.data = .cell (some (.ref d))) (hds : (d == sysModules) = false)
    (hys : IntsAre ys (expand ps)) (hyl : (expand ps).length ≤ 1000) (hvo : IntsAre vo (ps.map (·.1)))
    (B1 : Below callerA g1 [] g1) (X1 : (Mine.hd07.heap_39 w.params).In g1) (T1 : Top vw ls mean mg mb g1)
    (F1 : Fr g1 L1 s.heap (mD y x c t xv)) (N1 : News g1 L1 s.heap (nF L1 lo t x dx d y es n nl vo ys ob o1 o2 oy))
    (hE : PassesOwn (model prog w) (callerA.deeper (envOfC qual scope L1 1102 cdv)) (envOfC qual scope L1 1102 cdv) E)
    (k : ∀ h' tk, Fr g1 L1 h' (mD y x c t xv) → News g1 L1 h' (nF L1 lo t x dx d y es n nl vo ys ob o1 o2 oy) →
      wpAny (model prog w) (callerA.deeper (envOfC qual scope L1 1102 cdv)) (execs (body.drop 8) (envOfC qual scope L1 1102 cdv)) Q E { s with heap := h', toks := tk }) :
    wpAny (model prog w) (callerA.deeper (envOfC qual scope L1 1102 cdv)) (execs (body.drop 7) (envOfC qual scope L1 1102 cdv)) Q E s := by
  have e := ho.symm.trans (by k_is : (Mine.hd07.heap_39 w.params).lookup 1102 = some _)
  cases e
  dsimp only [List.drop]
  k_steps
  unfold Halt
  refine ListComp_U (F₀ := F1) (by with_unfolding_all rfl) (by decide) (by rfl) (by decide) (by rfl) ?_
  k_steps
  unfold Halt
  rename Fr _ _ _ _ => F3
  rename News _ _ _ _ => N3
  have hvl : vo.length = ps.length := by rw [hvo.length, List.length_map]
  obtain ⟨es2, ep2, hex, hdat, hk2, hp2, hnd2⟩ := id hd
  refine CompSrc.ledger (its := vo.toArray) (k := nl) rfl F3 N3 (.head _) (by rw [List.size_toArray, hvl, PySem.sizeLine_eq]; omega) fun g => ?_
  refine rest_ind (fun i zs nws => nws = nF L1 lo t x dx d y es n nl vo ys ob o1 o2 oy ∧ Nums zs ((ps.take i).map fun q => max 0 q.2)) ?_ ?_ _ 0 [] _ (Nat.zero_add _) ⟨rfl, .nil⟩
  · rintro i zs nws v I oI C oC D m₂ h tk E' hilt ⟨rfl, hzs⟩ hP hC hx F N off ne
    obtain ⟨key, tkk, hkk, rfl⟩ := IntsAre.get hvo (i := i) (v := v) (by simpa using hP)
    rw [List.getElem?_map] at hkk
    obtain ⟨p, hp, rfl⟩ := Option.map_eq_some_iff.mp hkk
    obtain ⟨tv, htv⟩ := hi.get hp
    have hval := valueAt_idx hnd2 htv
    k_steps
    unfold Halt
    rename Fr _ _ _ _ => F5
    rename News _ _ _ _ => N5
    refine CompEnd.intro F5 N5 (nF L1 lo t x dx d y es n nl vo ys ob o1 o2 oy) (fun p hp => hp) off (.inr ⟨_, .head _, rfl, _, rfl⟩) ⟨rfl, ?_⟩
    rw [List.take_add_one, hp, ite_tok]
    show Nums _ (((ps.take i) ++ [p]).map _)
    rw [List.map_append]
    exact hzs.snoc
  · rintro zs nws ⟨rfl, hzs⟩
    rw [List.take_of_length_le (by rw [List.size_toArray]; omega)] at hzs
    have hzi := hzs.ints
    have hes := expand_sum ps
    k_steps
    · exact absurd hes (by assumption)
    · unfold Halt
      exact k _ _ (by k_asm) (news_sub (by assumption) fun p hp => .tail _ hp)
end
end Mine
end
section
open PySem PySem.W PyProof.Rows PyProof.V PySem.Calls PySem.Spec Builtin Builtin.ObjectAttr LCg
set_option compiler.extract_closed false
set_option Elab.async false
set_option maxRecDepth 100000
set_option maxHeartbeats 3000000
namespace Mine
theorem fillD28 : PySem.Challenge.rw_dn0005_07 = PySem.Challenge.rw_dn0005_07 ∧ Mine.hd07.heap_39 = Mine.hd07.heap_39 := by
  k_fill
  exact ⟨rfl, rfl⟩
theorem expand_none : ∀ {ps : List (Int × Int)} {k : Int}, k ∉ ps.map (·.1) → (expand ps).count k = 0
  | [], _, _ => rfl
  | (k0, c) :: r, k, h => by
    rw [List.map_cons, List.mem_cons, not_or] at h
    show (List.replicate c.toNat k0 ++ expand r).count k = 0
    rw [List.count_append, expand_none h.2, List.count_replicate, if_neg (by simpa using fun e => h.1 e.symm)]
theorem expand_count : ∀ {ps : List (Int × Int)} {p : Int × Int}, (ps.map (·.1)).Nodup → p ∈ ps → (expand ps).count p.1 = p.2.toNat
  | (k0, c) :: r, p, hn, hp => by
    obtain ⟨n1, n2⟩ := List.nodup_cons.mp (show (k0 :: r.map (·.1)).Nodup from hn)
    show (List.replicate c.toNat k0 ++ expand r).count p.1 = _
    rw [List.count_append, List.count_replicate]
    rcases List.mem_cons.mp hp with rfl | hp
    · rw [expand_none n1]
      simp
    · have hne : k0 ≠ p.1 := fun e => n1 (e ▸ List.mem_map_of_mem (f := (·.1)) hp)
      rw [if_neg (by simpa using hne), expand_count n2 hp, Nat.zero_add]
section
variable {prog : Program} {w : World} {A : Around} {E : Value → Shared → Prop} {s : Shared} {env : Env} {h₀ : Heap} {target : Expr} {body : List Stmt} {Q : Flow → Shared → Prop} {ws : List (Addr × String)} {keep : List (Addr × Obj)}
/-- a loop over whole numbers, by its invariant; each turn knows its place -/
theorem ints_foldI (full : List Int) (J : Nat → (Str → Option Value) → List (Addr × Obj) → Prop)
    (step : ∀ i x t m news, full[i]? = some x → J i m news → ∀ h tk, Fr h₀ env.locals h m → AllObj ws (fun its => News h₀ env.locals h (its ++ news) →
      wpAny (model prog w) A (assign target env (.int x t)) (fun _ s₂ => wpAny (model prog w) A (execs body env) (UnrPostW h₀ env.locals { s with heap := h, toks := tk } its (fun m' n' => SubL keep n' ∧ J (i + 1) m' n') Q) E s₂) E { s with heap := h, toks := tk })) :
    ∀ {vs : List Value} {ks : List Int}, IntsAre vs ks → ∀ i m news, full.drop i = ks → i + ks.length = full.length → J i m news → (∀ m' news', J full.length m' news' → ∀ h tk, Fr h₀ env.locals h m' → News h₀ env.locals h news' → Q .next { s with heap := h, toks := tk }) →
      ItemsRest prog w A E h₀ env target body Q s ws keep (vs.map .val) m news
  | _, _, .nil, i, m, news, hd, hl, j, fin => by
    have e : i = full.length := by simpa using hl
    exact ItemsRest.zero (fin m news (e ▸ j))
  | _, _, .cons x u (vs := r) (ns := ns') hr, i, m, news, hd, hl, j, fin => by
    have hi : i < full.length := by rw [← hl, List.length_cons]; omega
    have hc : full[i] :: full.drop (i + 1) = x :: ns' := by rw [← List.drop_eq_getElem_cons hi, hd]
    injection hc with h1 h2
    refine ItemsRest.val fun h tk F => ?_
    have := step i x u m news (by rw [List.getElem?_eq_getElem hi, h1]) j h tk F
    have key : ∀ m' n', J (i + 1) m' n' → ItemsRest prog w A E h₀ env target body Q s ws keep (r.map .val) m' n' := fun m' n' hj =>
      ints_foldI full J step hr (i + 1) m' n' h2 (by rw [← hl, List.length_cons]; omega) hj fin
    refine allObj_mono (fun its hh N => wpAny_mono (hh N) (fun _ s₂ h₂ => wpAny_mono h₂ (fun fl s₃ q => ?_) fun _ _ e => e) fun _ _ e => e) this
    cases fl with
    | ret v => exact q
    | brk => exact q
    | next => obtain ⟨h', tk', m', n', e1, F', N', off, hk, hj⟩ := q; exact ⟨h', tk', m', n', e1, F', N', off, hk, key _ _ hj⟩
    | cont => obtain ⟨h', tk', m', n', e1, F', N', off, hk, hj⟩ := q; exact ⟨h', tk', m', n', e1, F', N', off, hk, key _ _ hj⟩
end
abbrev mE (y x c t : Addr) (xv kv : Option Value) : Str → Option Value := fun z => if z = Str.ofString "key" then kv else mD y x c t xv z
theorem mE_set {y x c t : Addr} {xv kv : Option Value} {v : Value} (z : Str) : (if z = Str.ofString "key" then some v else mE y x c t xv kv z) = mE y x c t xv (some v) z := by
  unfold mE
  by_cases h1 : z = Str.ofString "key"
  · rw [if_pos h1, if_pos h1]
  · rw [if_neg h1, if_neg h1, if_neg h1]
theorem mE_new {y x c t : Addr} {xv : Option Value} (z : Str) : mD y x c t xv z = mE y x c t xv none z := by
  unfold mE
  by_cases h1 : z = Str.ofString "key"
  · subst h1; rfl
  · rw [if_neg h1]
local macro_rules | `(tactic| walk_at "exec For Name Name cons nil") => `(tactic| (refine halt ?_))


local macro_rules | `(tactic| walk_at "pyIter ref") => `(tactic| (refine halt ?_))
local macro_rules | `(tactic| walk_at "UnrPostW") => `(tactic| (refine halt ?_))

local macro_rules | `(tactic| walk_at "subscriptTail") => `(tactic| (k_here; (refine kda_item (knd := PySem.intKind _ _) (by k_asm) (by k_mem) (by assumption) (intKind_is _ _ _ _) (by assumption) ?_)))

section
variable {prog : Program} {w : World} {A₀ : Around} {g1 : Heap} {outer : List Env} {e0 : Env} {L L1 : Addr} {mg mb : Str → Option Value} {mean : ExcName → Option Value} {s : Shared} {Q : Flow → Shared → Prop} {E : Value → Shared → Prop}
theorem law_count {name qual : Str} {params : Arguments} {body : List Stmt} {scope : Scope} {dV kV doc pm cdv ct oc : Value} {an od : Option Addr} {osl : Array (Option Value)}
    (ho : (Mine.hd07.heap_39 w.params).lookup 1102 = some ⟨oc, od, .func (fnOf name qual params body scope dV kV doc pm an cdv ct), osl⟩)
    {y d x dx c t lo : Addr} {oy o1 o2 ob : Obj} {kvs : List (Int × Value)} {ps : List (Int × Int)} {es : Array DictEntry} {n nl : Nat} {xv : Option Value} {ys vo : List Value}
    (hd : ob.IsDictOf (PySem.intKind prog w) kvs) (hi : IntsI kvs ps) (hlen : ps.length ≤ 63) (hb : ∀ q ∈ ps, -3 ≤ q.2 ∧ q.2 ≤ 5) (d1' : o1.data = .cell (some (.ref lo))) (d2' : o2.data = .cell (some (.ref d))) (hds : (d == sysModules) = false)
    (hys : IntsAre ys (expand ps)) (hyl : (expand ps).length ≤ 1000) (hvo : IntsAre vo (ps.map (·.1)))
    (B1 : Below callerA g1 [] g1) (X1 : (Mine.hd07.heap_39 w.params).In g1) (T1 : Top vw ls mean mg mb g1)
    (F1 : Fr g1 L1 s.heap (mD y x c t xv)) (N1 : News g1 L1 s.heap (nF L1 lo t x dx d y es n nl vo ys ob o1 o2 oy))
    (hE : PassesOwn (model prog w) (callerA.deeper (envOfC qual scope L1 1102 cdv)) (envOfC qual scope L1 1102 cdv) E)
    (k : ∀ kv h' tk, Fr g1 L1 h' (mE y x c t xv kv) → News g1 L1 h' (nF L1 lo t x dx d y es n nl vo ys ob o1 o2 oy) →
      wpAny (model prog w) (callerA.deeper (envOfC qual scope L1 1102 cdv)) (execs (body.drop 9) (envOfC qual scope L1 1102 cdv)) Q E { s with heap := h', toks := tk }) :
    wpAny (model prog w) (callerA.deeper (envOfC qual scope L1 1102 cdv)) (execs (body.drop 8) (envOfC qual scope L1 1102 cdv)) Q E s := by
  have e := ho.symm.trans (by k_is : (Mine.hd07.heap_39 w.params).lookup 1102 = some _)
  cases e
  dsimp only [List.drop]
  obtain ⟨es2, ep2, hex, hdat, hk2, hp2, hnd2⟩ := id hd
  have hndp : (ps.map (·.1)).Nodup := hi.keys ▸ hnd2
  k_steps
  unfold Halt
  refine For_turns F1 ?_ (hE := hE)
  k_steps
  unfold Halt
  rename News _ _ _ _ => N3
  rename Fr _ _ _ _ => F3
  refine iter_listTurns (lo := listOf vo.toArray nl) (vs := vo) rfl F3 N3 (.head _) rfl rfl ?_
  intro I hI
  refine ints_foldI (ps.map (·.1)) (fun i m' news' => ∃ kv, m' = mE y x c t xv kv ∧ news' = nF L1 lo t x dx d y es n nl vo ys ob o1 o2 oy) ?_ hvo 0 _ _ rfl (Nat.zero_add _) ?_ ?_
  · rintro i key tkk m' news' hkk ⟨kv, rfl, rfl⟩ h tk hF
    intro oI hoI hN
    rw [List.getElem?_map] at hkk
    obtain ⟨p, hp, rfl⟩ := Option.map_eq_some_iff.mp hkk
    obtain ⟨tv, htv⟩ := hi.get hp
    have hval := valueAt_idx hnd2 htv
    have hcnt := expand_count hndp (List.mem_of_getElem? hp)
    k_steps
    · exact absurd hcnt fun e => by
        rename (_ : Int) ≠ _ => hne
        refine hne ?_
        rw [e]
        split <;> omega
    · unfold Halt
      refine ⟨_, _, _, nF L1 lo t x dx d y es n nl vo ys ob o1 o2 oy, rfl, by assumption, by assumption, fun p hp q hq => ?_, subL_of (fun q hq => ?_), some (.int p.1 tkk), funext fun z => mE_set z, rfl⟩
      · obtain rfl := List.mem_singleton.mp hq
        exact Nat.ne_of_lt (hI p hp)
      · obtain rfl := List.mem_singleton.mp hq
        exact .head _
  · exact ⟨none, funext fun z => mE_new z, rfl⟩
  · rintro m' news' ⟨kv, rfl, rfl⟩ h8 tk8 F8 N8
    dsimp only
    exact k kv h8 tk8 F8 N8
end
end Mine
end
section
open PySem PySem.W PyProof.Rows PyProof.V PySem.Calls PySem.Spec Builtin Builtin.ObjectAttr LCg
set_option compiler.extract_closed false
set_option Elab.async false
set_option maxRecDepth 100000
set_option maxHeartbeats 3000000
namespace Mine
theorem fillD29 : PySem.Challenge.rw_dn0005_07 = PySem.Challenge.rw_dn0005_07 ∧ Mine.hd07.heap_39 = Mine.hd07.heap_39 := by
  k_fill
  exact ⟨rfl, rfl⟩
theorem idx_ne {a k : Int} {l : List Int} (h : a ≠ k) : (a :: l).idxOf k = l.idxOf k + 1 := by
  rw [List.idxOf_cons]
  have : (a == k) = false := by simpa using h
  rw [this]
  rfl
theorem kf_ints_of {vs : List Value} {ks : List Int} (h : IntsAre vs ks) : kf_ints vs = true := by
  induction h with
  | nil => rfl
  | cons n t _ ih => exact ih
theorem kf_at_of {k : Int} {vs : List Value} {ks : List Int} (h : IntsAre vs ks) (hm : k ∈ ks) : kf_at k vs = some (ks.idxOf k) := by
  induction h with
  | nil => cases hm
  | @cons n t vs' ks' hr ih =>
    by_cases e : n = k
    · subst e
      simp [kf_at, isInt]
    · have hm' : k ∈ ks' := by
        rcases List.mem_cons.mp hm with h | h
        · exact absurd h.symm e
        · exact h
      rw [idx_ne e]
      have e2 : (n == k) = false := by simpa using e
      simp [kf_at, isInt, e2, ih hm']
/-- where each of those told stands -/
def placed (ps : List (Int × Int)) : List Int := (expand ps).map fun k => (((ps.map (·.1)).idxOf k : Nat) : Int)
theorem expand_mem : ∀ {ps : List (Int × Int)} {k : Int}, k ∈ expand ps → k ∈ ps.map (·.1)
  | (k0, c) :: r, k, h => by
    rcases List.mem_append.mp (show k ∈ List.replicate c.toNat k0 ++ expand r from h) with h | h
    · rw [List.eq_of_mem_replicate h]
      exact .head _
    · exact .tail _ (expand_mem h)
theorem placed_sorted : ∀ {ps : List (Int × Int)}, (ps.map (·.1)).Nodup → (placed ps).Pairwise (· ≤ ·)
  | [], _ => .nil
  | (k0, c) :: r, hn => by
    obtain ⟨n1, n2⟩ := List.nodup_cons.mp (show (k0 :: r.map (·.1)).Nodup from hn)
    have e1 : placed ((k0, c) :: r) = List.replicate c.toNat 0 ++ (placed r).map (· + 1) := by
      show ((List.replicate c.toNat k0 ++ expand r).map _) = _
      rw [List.map_append, List.map_replicate]
      congr 1
      · simp
      · unfold placed
        rw [List.map_map]
        refine List.map_congr_left fun k hk => ?_
        have hk2 := expand_mem hk
        have hne : k0 ≠ k := fun e => n1 (e ▸ hk2)
        show (((k0 :: r.map (·.1)).idxOf k : Nat) : Int) = _
        rw [idx_ne hne]
        simp
    rw [e1, List.pairwise_append]
    refine ⟨?_, ?_, ?_⟩
    · rw [List.pairwise_replicate]
      exact .inr (Int.le_refl _)
    · rw [List.pairwise_map]
      exact (placed_sorted n2).imp fun h => by omega
    · intro a ha b hb
      rw [List.eq_of_mem_replicate ha]
      obtain ⟨z, hz, rfl⟩ := List.mem_map.mp hb
      obtain ⟨q, _, rfl⟩ := List.mem_map.mp hz
      omega
theorem sorted_same : ∀ {as bs : List Int}, as.Perm bs → as.Pairwise (· ≤ ·) → bs.Pairwise (· ≤ ·) → as = bs
  | [], bs, h, _, _ => (List.nil_perm.mp h).symm
  | a :: as, [], h, _, _ => by have := h.length_eq; simp at this
  | a :: as, b :: bs, h, h1, h2 => by
    obtain ⟨p1, p2⟩ := List.pairwise_cons.mp h1
    obtain ⟨q1, q2⟩ := List.pairwise_cons.mp h2
    have e : a = b := by
      have hb : b ∈ a :: as := h.mem_iff.mpr (.head _)
      have ha : a ∈ b :: bs := h.mem_iff.mp (.head _)
      rcases List.mem_cons.mp hb with e | hb
      · exact e.symm
      · rcases List.mem_cons.mp ha with e | ha
        · exact e
        · exact Int.le_antisymm (p1 b hb) (q1 a ha)
    subst e
    rw [sorted_same (List.perm_cons a |>.mp h) p2 q2]
local macro_rules | `(tactic| walk_at "exec Assign cons ListComp") => `(tactic| (refine halt ?_))
local macro_rules | `(tactic| walk_at "CompSrc") => `(tactic| (refine halt ?_))
local macro_rules | `(tactic| walk_at "CompEnd") => `(tactic| (refine halt ?_))
local macro_rules | `(tactic| walk_at "call builtin:sorted") => `(tactic| (refine halt ?_))
local macro_rules | `(tactic| walk_at "call builtin:list.index") => `(tactic| (refine halt ?_))
local macro_rules | `(tactic| walk_at "execs cons") => `(tactic| ((with_reducible show wpAny _ _ (execs [_, _, _] _) _ _ _); refine halt ?_))
abbrev mG (y x c t p : Addr) (xv kv : Option Value) : Str → Option Value := fun z => if z = Str.ofString "places" then some (.ref p) else mE y x c t xv kv z
section
variable {prog : Program} {w : World} {A₀ : Around} {g1 : Heap} {outer : List Env} {e0 : Env} {L L1 : Addr} {mg mb : Str → Option Value} {mean : ExcName → Option Value} {s : Shared} {Q : Flow → Shared → Prop} {E : Value → Shared → Prop}
theorem law_places {name qual : Str} {params : Arguments} {body : List Stmt} {scope : Scope} {dV kV doc pm cdv ct oc : Value} {an od : Option Addr} {osl : Array (Option Value)}
    (ho : (Mine.hd07.heap_39 w.params).lookup 1102 = some ⟨oc, od, .func (fnOf name qual params body scope dV kV doc pm an cdv ct), osl⟩)
    {y d x dx c t lo : Addr} {oy o1 o2 ob : Obj} {kvs : List (Int × Value)} {ps : List (Int × Int)} {es : Array DictEntry} {n nl : Nat} {xv kv : Option Value} {ys vo : List Value}
    (hlen : ps.length ≤ 7) (hnd : (ps.map (·.1)).Nodup) (d1' : o1.data = .cell (some (.ref lo))) 
    (hys : IntsAre ys (expand ps)) (hyl : (expand ps).length ≤ 35) (hvo : IntsAre vo (ps.map (·.1)))
    (B1 : Below callerA g1 [] g1) (X1 : (Mine.hd07.heap_39 w.params).In g1) (T1 : Top vw ls mean mg mb g1)
    (F1 : Fr g1 L1 s.heap (mE y x c t xv kv)) (N1 : News g1 L1 s.heap (nF L1 lo t x dx d y es n nl vo ys ob o1 o2 oy))
    (hE : PassesOwn (model prog w) (callerA.deeper (envOfC qual scope L1 1102 cdv)) (envOfC qual scope L1 1102 cdv) E)
    (k : ∀ p h' tk, Fr g1 L1 h' (mG y x c t p xv kv) → News g1 L1 h' (nF L1 lo t x dx d y es n nl vo ys ob o1 o2 oy) →
      wpAny (model prog w) (callerA.deeper (envOfC qual scope L1 1102 cdv)) (execs (body.drop 11) (envOfC qual scope L1 1102 cdv)) Q E { s with heap := h', toks := tk }) :
    wpAny (model prog w) (callerA.deeper (envOfC qual scope L1 1102 cdv)) (execs (body.drop 9) (envOfC qual scope L1 1102 cdv)) Q E s := by
  have e := ho.symm.trans (by k_is : (Mine.hd07.heap_39 w.params).lookup 1102 = some _)
  cases e
  dsimp only [List.drop]
  have hvl : vo.length ≤ 7 := by rw [hvo.length, List.length_map]; exact hlen
  k_steps
  unfold Halt
  refine Assign_ListComp_U (F₀ := F1) (by rfl) (by with_unfolding_all rfl) (by with_unfolding_all rfl) (by decide) (by rfl) (by decide) (by rfl) (by rfl) (by rfl) ?_
  k_steps
  unfold Halt
  rename Fr _ _ _ _ => F3
  rename News _ _ _ _ => N3
  refine CompSrc.ledger (its := ys.toArray) (k := ys.length) rfl F3 N3 (.tail _ (.head _)) (by rw [List.size_toArray, hys.length, PySem.sizeLine_eq]; omega) fun g => ?_
  refine rest_ind (fun i zs nws => nws = nF L1 lo t x dx d y es n nl vo ys ob o1 o2 oy ∧ Nums zs ((placed ps).take i)) ?_ ?_ _ 0 [] _ (Nat.zero_add _) ⟨rfl, .nil⟩
  · rintro i zs nws v I oI C oC D m₂ h tk E' hilt ⟨rfl, hzs⟩ hP hC hx F N off ne
    obtain ⟨key, tkk, hkk, rfl⟩ := IntsAre.get hys (i := i) (v := v) (by simpa using hP)
    have hkm := expand_mem (List.mem_of_getElem? hkk)
    have hpl : (placed ps)[i]? = some (((ps.map (·.1)).idxOf key : Nat) : Int) := by unfold placed; rw [List.getElem?_map, hkk]; rfl
    k_steps
    unfold Halt
    refine kf_index (its := vo.toArray) (n := nl) N (.tail _ (.tail _ (.tail _ (.head _)))) (kf_ints_of hvo) (kf_at_of hvo hkm) rfl (by show vo.length ≤ _; rw [PySem.sizeLine_eq]; omega) ?_
    k_steps
    unfold Halt
    refine CompEnd.intro F N (nF L1 lo t x dx d y es n nl vo ys ob o1 o2 oy) (fun p hp => hp) off (.inr ⟨_, .tail _ (.head _), rfl, _, rfl⟩) ⟨rfl, ?_⟩
    rw [List.take_add_one, hpl]
    exact hzs.snoc
  · rintro zs nws ⟨rfl, hzs⟩
    have hpll : (placed ps).length = (expand ps).length := by unfold placed; rw [List.length_map]
    rw [List.take_of_length_le (by rw [List.size_toArray, hys.length, hpll]; exact Nat.le_refl _)] at hzs
    have hzi := hzs.ints
    k_steps
    unfold Halt
    rename Fr _ _ _ _ => F5
    rename News _ _ _ _ => N5
    rename_i D5 _ _ _
    refine kso_sorted F5 N5 (News.isList N5 (.head _)) hzi (by rw [hpll]; omega) fun D6 vs6 ns6 c6 h6 F6 N6 l6 hi6 he6 hp6 ho6 _ => ?_
    have hsame : placed ps = ns6 := sorted_same hp6.symm (placed_sorted hnd) ho6
    subst hsame
    k_steps
    unfold Halt
    exact k D5 _ _ (by k_asm) (news_sub (by assumption) fun p hp => .tail _ (.tail _ hp))
end
end Mine
end
section
open PySem PySem.W PyProof.Rows PyProof.V PySem.Calls PySem.Spec Builtin Builtin.ObjectAttr LCg
set_option Elab.async false
set_option maxRecDepth 100000
set_option maxHeartbeats 3000000
namespace Mine
theorem fillD31 : PySem.Challenge.rw_dn0005_07 = PySem.Challenge.rw_dn0005_07 ∧ Mine.hd07.heap_39 = Mine.hd07.heap_39 := by
  k_fill
  exact ⟨rfl, rfl⟩
section
variable {P : Params}
theorem ch_len_f : findIn (Mine.hd07.heap_39 P) (.ref 734) (Str.ofString "__len__") = some none := by k_is
theorem ch_hint_f : findIn (Mine.hd07.heap_39 P) (.ref 734) (Str.ofString "__length_hint__") = some none := by k_is
end
section
variable {prog : Program} {w : World} {A A₀ : Around} {base h₀ : Heap} {ev : Env} {L : Addr} {m mg mb : Str → Option Value} {mean : ExcName → Option Value} {s : Shared} {E : Value → Shared → Prop} {core fix : List (Addr × Obj)}
theorem ch_hint {c y : Addr} {es : Array DictEntry} {kvs : List (Int × Value)} {ps : List (Int × Int)} {ep : Nat} {oy : Obj} {out : List Int} {Q : Bool → Shared → Prop} (S : ChSt prog w c y es kvs ps ep oy fix out core) (F : Fr h₀ L s.heap m) (X : (Mine.hd07.heap_39 w.params).In h₀) (N : News h₀ L s.heap (core ++ fix))
    (h : Q true s) : wpAny (model prog w) A (Builtin.List.listLengthHint (.ref c)) Q E s := by
  obtain ⟨ox, od, I⟩ := S.inst N
  have X1 := X.keeps F.keep
  unfold Builtin.List.listLengthHint specialOf
  refine wpAny_bind (wpAny_bind (I.type.here ((looks_findIn X1 ch_len_f).here ?_)))
  dsimp only
  refine wpAny_ite_split (fun hab => absurd hab (by decide +kernel)) (fun _ => ?_)
  refine wpAny_ite_split (fun hab => absurd hab (by decide)) (fun _ => ?_)
  refine wpAny_bind (wpAny_bind (I.type.here ((looks_findIn X1 ch_hint_f).here ?_)))
  exact wpAny_pure h
theorem ch_loop {c y D : Addr} {es : Array DictEntry} {kvs : List (Int × Value)} {ps : List (Int × Int)} {ep : Nat} {oy : Obj} {all : List Int} {R : Result → Shared → Prop} {res : Value} (hy : (y, oy) ∈ fix) (hall : all.length ≤ sizeLine)
   (hA : A.frames = some [ev]) (hh : A.handled = none) (hg : A.guards = some []) (hd : A.depth ≤ 500) (hu : A.units ≤ 2000)
   (hef : ev.frame = some L) (hek : ev.scope.kind = .function) (B : Below A₀ base [] h₀) (X : (Mine.hd07.heap_39 w.params).In h₀) (T : Top vw ls mean mg mb h₀) (XB : (Mine.hd07.heap_39 w.params).In base) (TB : Top vw ls mean mg mb base)
   (hDL : D ≠ L) (hD₀ : h₀.get? D = none) (hfD : ∀ p ∈ fix, p.1 ≠ D)
   (k : ∀ n h' tk core' ys, Nums ys all → ChSt prog w c y es kvs ps ep oy fix [] core' → Fr h₀ L h' m → News h₀ L h' ((D, listOf ys.toArray n) :: (core' ++ fix)) → (∀ p ∈ core' ++ fix, p.1 ≠ D) → R (.ok (.ret res)) { s with heap := h', toks := tk }) :
   ∀ (j : Nat) (r : List Int) (dn : List Int) (ys : List Value) (n : Nat) (h : Heap) (tk : Nat) (core : List (Addr × Obj)), r.length = j → Nums ys dn → dn ++ r = all → ChSt prog w c y es kvs ps ep oy ((D, listOf ys.toArray n) :: fix) r core → Fr h₀ L h m → News h₀ L h (core ++ ((D, listOf ys.toArray n) :: fix)) →
     codeAny (model prog w) A (.builtin "list.extend.loop" ⟨[.ref D, .ref c, res], []⟩) R { s with heap := h, toks := tk } := by
  have nt : ∀ (ys : List Value) (n : Nat), ¬ TupO (listOf ys.toArray n) := fun ys n q => cls_lt q.1
  have swap : ∀ {ys ys' : List Value} {n n' : Nat} {r : List Int} {core : List (Addr × Obj)}, ChSt prog w c y es kvs ps ep oy ((D, listOf ys.toArray n) :: fix) r core → ChSt prog w c y es kvs ps ep oy ((D, listOf ys'.toArray n') :: fix) r core := fun {ys ys' n n' r core} S => by
    refine S.alter (fun q hq => .inl ?_) (.tail _ hy) fun p hp => ?_
    · rcases List.mem_cons.mp hq with rfl | hq
      · exact ⟨(D, listOf ys.toArray n), .head _, rfl⟩
      · exact ⟨q, .tail _ hq, rfl⟩
    · rcases List.mem_cons.mp hp with rfl | hp
      · exact .inr (nt _ _)
      · exact .inl (.tail _ hp)
  intro j
  induction j with
  | zero =>
    intro r dn ys n h tk core hr hys hdn S F N
    obtain rfl : r = [] := List.length_eq_zero_iff.mp hr
    rw [List.append_nil] at hdn
    subst hdn
    refine codeAny_builtin PySem.F.entry_extend_loop ?_
    rw [Around.under_plainId PySem.F.plain_extend_loop _]
    show wpAny _ A.in1 (pyNext (.ref c) >>= _) _ _ _
    refine wpAny_bind (ch_next (A := A.in1) (s := { s with heap := h, toks := tk }) S (.tail _ hy) hA hh hg (by simp only [depth_in1]; omega) (by dsimp only [Around.in1]; omega) hef hek B F X N T XB TB (fun _ _ _ _ _ _ e => nomatch e) fun h2 tk2 core2 _ S2 F2 N2 => wpAny_pure ?_)
    have oD := S2.off N2 (q := (D, listOf ys.toArray n)) (.head _) (nt _ _)
    refine k n h2 tk2 core2 ys hys (S2.alter (fun q hq => .inl ⟨q, .tail _ hq, rfl⟩) hy fun p hp => ?_) F2 (news_sub N2 fun p hp => ?_) fun p hp => ?_
    · rcases List.mem_cons.mp hp with rfl | hp
      · exact .inr (nt _ _)
      · exact .inl hp
    · rcases List.mem_cons.mp hp with rfl | hp
      · exact List.mem_append_right _ (.head _)
      · rcases List.mem_append.mp hp with hp | hp
        · exact List.mem_append_left _ hp
        · exact List.mem_append_right _ (.tail _ hp)
    · rcases List.mem_append.mp hp with hp | hp
      · exact oD p hp
      · exact hfD p hp
  | succ j ih =>
    intro r dn ys n h tk core hr hys hdn S F N
    refine codeAny_builtin PySem.F.entry_extend_loop ?_
    rw [Around.under_plainId PySem.F.plain_extend_loop _]
    show wpAny _ A.in1 (pyNext (.ref c) >>= _) _ _ _
    refine wpAny_bind (ch_next (A := A.in1) (s := { s with heap := h, toks := tk }) S (.tail _ hy) hA hh hg (by simp only [depth_in1]; omega) (by dsimp only [Around.in1]; omega) hef hek B F X N T XB TB (fun key r' t h2 tk2 core2 e S2 F2 N2 => ?_) fun _ _ _ e => by subst e; simp at hr)
    subst e
    have oD := S2.off N2 (q := (D, listOf ys.toArray n)) (.head _) (nt _ _)
    have zD := (N2 (D, listOf ys.toArray n) (List.mem_append_right _ (.head _))).1
    have hlen : ys.length < all.length := by
      rw [hys.length, ← hdn, List.length_append, List.length_cons]
      omega
    show wpAny _ A.in1 (updateSeq D (·.push (Value.int key t)) >>= fun _ => again (.builtin "list.extend.loop" ⟨[.ref D, .ref c, res], []⟩)) _ _ _
    refine wpAny_bind (wpAny_updateSeq zD rfl (wpAny_pure ⟨plainId_quiet PySem.F.plain_extend_loop _, ih r' (dn ++ [key]) (ys ++ [.int key t]) (n + 1) _ tk2 core2 (by simpa using hr) hys.snoc (by rw [← hdn]; simp) (swap S2) ?_ ?_⟩) (by show ys.toArray.size ≤ _; rw [List.size_toArray]; omega) (by show (ys.toArray.push _).size ≤ _; simp; omega))
    · exact F2.change (Heap.SameBut.update ..) hDL hD₀
    · intro p hp
      rcases List.mem_append.mp hp with hp | hp
      · have z := N2 p (List.mem_append_left _ hp)
        exact ⟨(Heap.get?_update_other _ _ (Ne.symm (oD p hp))).trans z.1, z.2⟩
      · rcases List.mem_cons.mp hp with rfl | hp
        · exact ⟨(Heap.get?_update_self _ zD rfl).trans (by simp [Obj.mapSeq]), hDL, hD₀⟩
        · have z := N2 p (List.mem_append_right _ (.tail _ hp))
          exact ⟨(Heap.get?_update_other _ _ (Ne.symm (hfD p hp))).trans z.1, z.2⟩
theorem list_chain {c y : Addr} {es : Array DictEntry} {kvs : List (Int × Value)} {ps : List (Int × Int)} {ep : Nat} {oy : Obj} {all : List Int} {Q : Value → Shared → Prop} (S : ChSt prog w c y es kvs ps ep oy fix all core) (hy : (y, oy) ∈ fix) (hall : all.length ≤ sizeLine)
   (hA : A.frames = some [ev]) (hh : A.handled = none) (hg : A.guards = some []) (hd : A.depth ≤ 480) (hu : A.units ≤ 1900)
   (hef : ev.frame = some L) (hek : ev.scope.kind = .function) (B : Below A₀ base [] h₀) (F : Fr h₀ L s.heap m) (X : (Mine.hd07.heap_39 w.params).In h₀) (N : News h₀ L s.heap (core ++ fix)) (T : Top vw ls mean mg mb h₀) (XB : (Mine.hd07.heap_39 w.params).In base) (TB : Top vw ls mean mg mb base)
   (k : ∀ D n h' tk core' ys, Nums ys all → ChSt prog w c y es kvs ps ep oy fix [] core' → Fr h₀ L h' m → News h₀ L h' ((D, listOf ys.toArray n) :: (core' ++ fix)) → (∀ p ∈ core' ++ fix, p.1 ≠ D) → Q (.ref D) { s with heap := h', toks := tk }) :
   wpAny (model prog w) A (call (.type "list") [.ref c]) Q E s := by
  refine callType_codes (Q₁ := fun obj s₁ => obj = .ref s.heap.objs.size ∧ s₁ = { s with heap := s.heap.push { cls := .type "list", data := .seq #[] } }) PySem.F.called_list (PySem.F.typeCall_list_1 _) PySem.F.entry_list_init
    (code_list_new _ ⟨rfl, rfl⟩) fun obj s₁ h₁ => ?_
  obtain ⟨rfl, rfl⟩ := h₁
  have hS : (s.heap.push { cls := .type "list", data := .seq #[] }).get? s.heap.objs.size = some { cls := .type "list", data := .seq #[] } := Heap.get?_push_size _ rfl
  refine ⟨⟨_, hS, rfl⟩, PySem.F.args_list_init_2 _ _, ?_⟩
  generalize hDD : s.heap.objs.size = D at *
  have fresh₀ : h₀.get? D = none := by
    cases e : h₀.get? D with
    | none => rfl
    | some o => exact absurd (Heap.lt_size (F.keep _ _ e)) (by rw [hDD]; exact Nat.lt_irrefl _)
  have hDL : D ≠ L := by rw [← hDD]; exact Nat.ne_of_gt F.ns.lt
  have lt : ∀ p ∈ core ++ fix, p.1 ≠ D := fun p hp => by rw [← hDD]; exact Nat.ne_of_lt (Heap.lt_size (N p hp).1)
  generalize hH : s.heap.push { cls := .type "list", data := .seq #[] } = H at *
  have hcD : D ≠ c := by
    obtain ⟨ox, od, I⟩ := S.inst N
    rw [← hDD]
    exact Nat.ne_of_gt (Heap.lt_size I.at_)
  have F1 : Fr h₀ L H m := hH ▸ F.push _
  have N1 : News h₀ L H (core ++ ((D, listOf ([] : List Value).toArray 0) :: fix)) := fun p hp => by
    have old : ∀ q ∈ core ++ fix, H.get? q.1 = some q.2 := fun q hq => hH ▸ Heap.get?_push_of_some _ (N q hq).1
    rcases List.mem_append.mp hp with hp | hp
    · exact ⟨old p (List.mem_append_left _ hp), (N p (List.mem_append_left _ hp)).2⟩
    · rcases List.mem_cons.mp hp with rfl | hp
      · exact ⟨hS, hDL, fresh₀⟩
      · exact ⟨old p (List.mem_append_right _ hp), (N p (List.mem_append_right _ hp)).2⟩
  have S1 : ∀ n, ChSt prog w c y es kvs ps ep oy ((D, listOf ([] : List Value).toArray n) :: fix) all core := fun n => S.alter (fun q hq => by
    rcases List.mem_cons.mp hq with rfl | hq
    · exact .inr fun p hp => lt p (List.mem_append_left _ hp)
    · exact .inl ⟨q, hq, rfl⟩) (.tail _ hy) fun p hp => .inl (.tail _ hp)
  have upd : ∀ (h : Heap) (n n' : Nat) (f : Obj → Obj), Fr h₀ L h m → News h₀ L h (core ++ ((D, listOf ([] : List Value).toArray n) :: fix)) → (h.update D f).get? D = some (listOf ([] : List Value).toArray n') → Fr h₀ L (h.update D f) m ∧ News h₀ L (h.update D f) (core ++ ((D, listOf ([] : List Value).toArray n') :: fix)) := fun h n n' f F N e => by
    refine ⟨F.change (Heap.SameBut.update ..) hDL fresh₀, fun p hp => ?_⟩
    rcases List.mem_append.mp hp with hp | hp
    · have z := N p (List.mem_append_left _ hp)
      exact ⟨(Heap.get?_update_other _ _ (Ne.symm (lt p (List.mem_append_left _ hp)))).trans z.1, z.2⟩
    · rcases List.mem_cons.mp hp with rfl | hp
      · exact ⟨e, hDL, fresh₀⟩
      · have z := N p (List.mem_append_right _ (.tail _ hp))
        exact ⟨(Heap.get?_update_other _ _ (Ne.symm (lt p (List.mem_append_right _ hp)))).trans z.1, z.2⟩
  show wpAny _ _ (do let old ← Builtin.List.listItems (.ref D); Builtin.List.listUpdate (.ref D) (fun _ => #[]); letGo old.toList.reverse; Builtin.List.listExtendWith (.ref D) (.ref c) .none) _ _ _
  refine wpAny_bind ?_
  unfold Builtin.List.listItems
  refine wpAny_bind (wpAny_seqItems hS rfl (wpAny_pure ?_))
  show wpAny _ _ (updateSeq D (fun _ => #[]) >>= fun _ => letGo (#[] : Array Value).toList.reverse >>= fun _ => Builtin.List.listExtendWith (.ref D) (.ref c) .none) _ _ _
  refine wpAny_bind (wpAny_updateSeq hS rfl ?_)
  have hS₂ : (H.update D (Obj.mapSeq (fun _ => (#[] : Array Value)))).get? D = some (listOf ([] : List Value).toArray 0) := Heap.get?_update_self (Obj.mapSeq (fun _ => (#[] : Array Value))) hS rfl
  obtain ⟨F2, N2⟩ := upd H 0 0 _ F1 N1 hS₂
  refine wpAny_bind (wpAny_letGo ?_)
  obtain ⟨ox, od, I⟩ := (S1 _).inst N2
  unfold Builtin.List.listExtendWith
  refine wpAny_bind (I.type.here ?_)
  have h1 : Builtin.List.listSameRef (.ref D) (.ref c) = false := by simp [Builtin.List.listSameRef, hcD]
  have h2 : (Value.ref 734 == Value.type "list") = false := by decide
  have h3 : (Value.ref 734 == Value.type "tuple") = false := by decide
  simp only [h1, h2, h3, Bool.or_false, Bool.false_eq_true, if_false]
  refine wpAny_bind (ch_iter (A := A.in1.in1) (s := { s with heap := _ }) (S1 _) hA hh hg (by simp only [depth_in1]; omega) (by dsimp only [Around.in1]; omega) hef hek B F2 X N2 T fun h4 tk4 F4 N4 => ?_)
  refine wpAny_bind (wpAny_holding (ch_hint (s := { s with heap := h4, toks := tk4 }) (S1 _) F4 X N4 ?_))
  refine wpAny_ite_split (fun _ => ?_) (fun hab => absurd rfl hab)
  refine wpAny_bind (wpAny_rule ?_)
  refine wpAny_bind ?_
  show wpAny _ _ (updateSeq D (·.push .none) >>= fun _ => updateSeq D (·.pop)) _ _ _
  have hS₄ : h4.get? D = some (listOf ([] : List Value).toArray 0) := (N4 (D, _) (List.mem_append_right _ (.head _))).1
  refine wpAny_bind (wpAny_updateSeq hS₄ rfl ?_)
  have hS₅ : (h4.update D (Obj.mapSeq (·.push Value.none))).get? D = some (listOf [Value.none].toArray 1) := Heap.get?_update_self (Obj.mapSeq (·.push Value.none)) hS₄ rfl
  refine wpAny_updateSeq (hz := by seq_fits) hS₅ rfl ?_
  have hS₆ : ((h4.update D (Obj.mapSeq (·.push Value.none))).update D (Obj.mapSeq (·.pop))).get? D = some (listOf ([] : List Value).toArray 2) := Heap.get?_update_self (Obj.mapSeq (·.pop)) hS₅ rfl
  have F6 : Fr h₀ L ((h4.update D (Obj.mapSeq (·.push Value.none))).update D (Obj.mapSeq (·.pop))) m := (F4.change (Heap.SameBut.update ..) hDL fresh₀).change (Heap.SameBut.update ..) hDL fresh₀
  have N6 : News h₀ L ((h4.update D (Obj.mapSeq (·.push Value.none))).update D (Obj.mapSeq (·.pop))) (core ++ ((D, listOf ([] : List Value).toArray 2) :: fix)) := fun p hp => by
    have two : ∀ {b o}, b ≠ D → h4.get? b = some o → ((h4.update D (Obj.mapSeq (·.push Value.none))).update D (Obj.mapSeq (·.pop))).get? b = some o := fun hb e =>
      (Heap.get?_update_other _ _ (Ne.symm hb)).trans ((Heap.get?_update_other _ _ (Ne.symm hb)).trans e)
    rcases List.mem_append.mp hp with hp | hp
    · have z := N4 p (List.mem_append_left _ hp)
      exact ⟨two (lt p (List.mem_append_left _ hp)) z.1, z.2⟩
    · rcases List.mem_cons.mp hp with rfl | hp
      · exact ⟨hS₆, hDL, fresh₀⟩
      · have z := N4 p (List.mem_append_right _ (.tail _ hp))
        exact ⟨two (lt p (List.mem_append_right _ hp)) z.1, z.2⟩
  refine wpAny_pure ⟨plainId_quiet PySem.F.plain_extend_loop _, ch_loop (A := A.in1) (s := s) (res := .none) hy hall hA hh hg (by simp only [depth_in1]; omega) (by dsimp only [Around.in1]; omega) hef hek B X T XB TB hDL fresh₀ (fun p hp => lt p (List.mem_append_right _ hp)) (fun n h' tk core' ys hys S' F' N' off => ?_) all.length all [] [] 2 _ tk4 core rfl .nil rfl (S1 2) F6 N6⟩
  exact ⟨rfl, k D n h' tk core' ys hys S' F' N' off⟩
end
end Mine
end
section
open PySem PySem.W PyProof.Rows PyProof.V PySem.Calls PySem.Spec Builtin Builtin.ObjectAttr LCg
set_option compiler.extract_closed false
set_option Elab.async false
set_option maxRecDepth 100000
set_option maxHeartbeats 3000000
namespace Mine
theorem fillD30 : PySem.Challenge.rw_dn0005_07 = PySem.Challenge.rw_dn0005_07 ∧ Mine.hd07.heap_39 = Mine.hd07.heap_39 := by
  k_fill
  exact ⟨rfl, rfl⟩
theorem negs_bound {ps : List (Int × Int)} (hb : ∀ q ∈ ps, -3 ≤ q.2 ∧ q.2 ≤ 5) : ∀ q ∈ negs ps, -1000 < q.2 ∧ q.2 < 1000 := fun q hq => by
  obtain ⟨p, hp, rfl⟩ := List.mem_map.mp hq
  have := hb p (List.mem_filter.mp hp).1
  dsimp only
  omega
theorem negs_len {ps : List (Int × Int)} (hb : ∀ q ∈ ps, -3 ≤ q.2 ∧ q.2 ≤ 5) : (expand (negs ps)).length ≤ 5 * ps.length := by
  refine Nat.le_trans (expand_len fun q hq => ?_) (Nat.mul_le_mul_left _ (negs_length ps))
  obtain ⟨p, hp, rfl⟩ := List.mem_map.mp hq
  have := hb p (List.mem_filter.mp hp).1
  dsimp only
  omega
abbrev mH (y x c t p ag : Addr) (xv kv : Option Value) : Str → Option Value := fun z => if z = Str.ofString "against" then some (.ref ag) else mG y x c t p xv kv z
section
variable {P : Params}
theorem c_neg : findIn (Mine.hd07.heap_39 P) (.ref 1093) (Str.ofString "__neg__") = some (some (.ref 1057)) := by k_is
theorem c_neg_fn : isFn (Mine.hd07.heap_39 P) (.ref 1057) = true := by k_is
end
local macro_rules | `(tactic| walk_at "unaryOp USub") => `(tactic| (k_here; (refine ksp_neg (by k_asm) (by k_asm) (inst_cnt (by k_asm) (by k_mem) (by k_mem)) c_neg c_neg_fn ?_)))
local macro_rules | `(tactic| walk_at "getMethod ref") => `(tactic| (k_here; ((refine cnt_fn_meth (by k_asm) (by k_asm) (by k_asm) (by k_mem) (by k_mem) c_elements t_elements ?_))))
local macro_rules | `(tactic| walk_at "call ref") => `(tactic| (refine halt ?_))
local macro_rules | `(tactic| walk_at "call type:list") => `(tactic| (refine halt ?_))
local macro_rules | `(tactic| walk_at "execs cons") => `(tactic| ((with_reducible show wpAny _ _ (execs [_, _] _) _ _ _); refine halt ?_))
section
variable {prog : Program} {w : World} {A₀ : Around} {g1 : Heap} {outer : List Env} {e0 : Env} {L L1 : Addr} {mg mb : Str → Option Value} {mean : ExcName → Option Value} {s : Shared} {Q : Flow → Shared → Prop} {E : Value → Shared → Prop}
theorem law_against {name qual : Str} {params : Arguments} {body : List Stmt} {scope : Scope} {dV kV doc pm cdv ct oc : Value} {an od : Option Addr} {osl : Array (Option Value)}
    (ho : (Mine.hd07.heap_39 w.params).lookup 1102 = some ⟨oc, od, .func (fnOf name qual params body scope dV kV doc pm an cdv ct), osl⟩)
    (hfile : ((prog.main.file : Str) == Str.ofString "/claim/cut.py") = true) (htop : (prog.main.scope.names.lookup (Str.ofString "super")).isSome = false)
    {y d x dx c t lo p : Addr} {oy o1 o2 ob : Obj} {kvs : List (Int × Value)} {ps : List (Int × Int)} {es : Array DictEntry} {n nl : Nat} {xv kv : Option Value} {ys vo : List Value}
    (hD : DIs (PySem.intKind prog w) es kvs) (hi : IntsI kvs ps) (hlen : ps.length ≤ 7) (hb : ∀ q ∈ ps, -3 ≤ q.2 ∧ q.2 ≤ 5) (hsx : (x == sysModules) = false)
    (B1 : Below callerA g1 [] g1) (X1 : (Mine.hd07.heap_39 w.params).In g1) (T1 : Top vw ls mean mg mb g1)
    (F1 : Fr g1 L1 s.heap (mG y x c t p xv kv)) (N1 : News g1 L1 s.heap (nF L1 lo t x dx d y es n nl vo ys ob o1 o2 oy))
    (hE : PassesOwn (model prog w) (callerA.deeper (envOfC qual scope L1 1102 cdv)) (envOfC qual scope L1 1102 cdv) E)
    (k : ∀ ag na zs h' tk, IntsAre zs (expand (negs ps)) → Fr g1 L1 h' (mH y x c t p ag xv kv) → News g1 L1 h' ((ag, listOf zs.toArray na) :: nF L1 lo t x dx d y es n nl vo ys ob o1 o2 oy) →
      wpAny (model prog w) (callerA.deeper (envOfC qual scope L1 1102 cdv)) (execs (body.drop 12) (envOfC qual scope L1 1102 cdv)) Q E { s with heap := h', toks := tk }) :
    wpAny (model prog w) (callerA.deeper (envOfC qual scope L1 1102 cdv)) (execs (body.drop 11) (envOfC qual scope L1 1102 cdv)) Q E s := by
  have e := ho.symm.trans (by k_is : (Mine.hd07.heap_39 w.params).lookup 1102 = some _)
  cases e
  dsimp only [List.drop]
  k_steps
  unfold Halt
  refine use_at 10 rfl rfl rfl rfl rfl (Nat.le_of_ble_eq_true rfl) (Nat.le_of_ble_eq_true rfl) (neg_spec (x := x) (dx := dx) (es := es) (n := n) (kvs := kvs) (ps := ps) (rest := (lo, listOf vo.toArray nl) :: (t, lst ys) :: [(d, ob), (L1 + 1 + 1, o1), (L1 + 1, o2), (y, oy)]) hfile htop hD hi (by omega) hsx B1 F1 X1 (news_sub N1 ?sb) T1 fun r dr es2 n2 kvs2 h2 tk2 hD2 hi2 F2 N2 l2 l3 hsr => ?_)
  case sb => kqd_sub
  dsimp only
  clear F1 N1
  k_steps
  unfold Halt
  refine use_at 15 rfl rfl rfl rfl rfl (Nat.le_of_ble_eq_true rfl) (Nat.le_of_ble_eq_true rfl) (elements_spec (x := r) (dx := dr) (es := es2) (n := n2) (kvs := kvs2) (ps := negs ps) (rest := (x, cnt es n dx) :: (dx, dictOf [] 0) :: (lo, listOf vo.toArray nl) :: (t, lst ys) :: [(d, ob), (L1 + 1 + 1, o1), (L1 + 1, o2), (y, oy)]) hD2 hsr B1 F2 X1 N2 T1 hi2 (negs_bound hb) fun c2 core h4 tk4 CS F4 N4 => ?_)
  dsimp only
  clear F2 N2
  k_steps
  unfold Halt
  refine list_chain CS (.head _) (by have := negs_len hb; rw [PySem.sizeLine_eq]; omega) rfl rfl rfl (Nat.le_of_ble_eq_true rfl) (Nat.le_of_ble_eq_true rfl) rfl rfl B1 F4 X1 N4 T1 X1 T1 fun ag na h6 tk6 core6 zs hzs S6 F6 N6 off6 => ?_
  have N7 : News g1 L1 h6 ((ag, listOf zs.toArray na) :: nF L1 lo t x dx d y es n nl vo ys ob o1 o2 oy) := news_sub N6 fun q hq => by
    rcases List.mem_cons.mp hq with rfl | hq
    · exact .head _
    · refine .tail _ (List.mem_append_right _ (.tail _ (.tail _ ?_)))
      simp only [List.mem_cons] at hq
      rcases hq with h | h | h | h | h | h | h | h | h
      all_goals first | exact absurd h List.not_mem_nil | (subst h; k_mem)
  clear N6 F4 N4 CS S6 off6
  k_steps
  unfold Halt
  exact k ag na zs _ _ hzs.ints (by k_asm) (by assumption)
end
end Mine
end
section
open PySem PySem.W PyProof.Rows PyProof.V PySem.Calls PySem.Spec Builtin Builtin.ObjectAttr
set_option Elab.async false
set_option maxRecDepth 100000
set_option maxHeartbeats 3000000
namespace Mine
abbrev tup (x y : Value) : Obj := { cls := .type "tuple", data := .seq #[x, y] }
/-- the state of an iterator over items before its turn i, while the tuples that it gave live on -/
def ItSt (h : Heap) (it d S : Addr) (i n ep : Nat) : Prop :=
  (i = 0 ∧ ∃ ok ov, h.get? it = some (itm d 0 n ep .none false ok ov)) ∨ ∃ ok ov, ∃ a : Addr, ∃ f oa, h.get? it = some (itm d i n ep (rawInt a) f ok ov) ∧ h.get? a = some oa ∧ a ≠ it ∧ a ≠ S
/-- fresh tuples that hold the pairs -/
inductive TupsN {prog : Program} {w : World} (knd : KeyKind prog w Int) (h : Heap) (lo : Addr) : List Addr → List (Int × Value) → Prop
  | nil : TupsN knd h lo [] []
  | snoc {as : List Addr} {kvs : List (Int × Value)} {a : Addr} {k : Int} {key v : Value} (r : TupsN knd h lo as kvs) (hk : knd.is k key = true) (ho : h.get? a = some (tup key v)) (hl : lo ≤ a) : TupsN knd h lo (as ++ [a]) (kvs ++ [(k, v)])
theorem TupsN.keep {prog : Program} {w : World} {knd : KeyKind prog w Int} {h h' : Heap} {lo : Addr} {as : List Addr} {kvs : List (Int × Value)} (T : TupsN knd h lo as kvs) (e : ∀ b o, lo ≤ b → h.get? b = some o → h'.get? b = some o) : TupsN knd h' lo as kvs := by
  induction T with
  | nil => exact .nil
  | snoc r hk ho hl ih => exact .snoc ih hk (e _ _ hl ho) hl
theorem TupsN.low {prog : Program} {w : World} {knd : KeyKind prog w Int} {h : Heap} {lo lo' : Addr} {as : List Addr} {kvs : List (Int × Value)} (T : TupsN knd h lo as kvs) (hl : @LE.le Nat _ lo' lo) : TupsN knd h lo' as kvs := by
  induction T with
  | nil => exact .nil
  | snoc r hk ho hlo ih => exact .snoc ih hk ho (Nat.le_trans hl hlo)
theorem TupsN.length {prog : Program} {w : World} {knd : KeyKind prog w Int} {h : Heap} {lo : Addr} {as : List Addr} {kvs : List (Int × Value)} (T : TupsN knd h lo as kvs) : as.length = kvs.length := by
  induction T with
  | nil => rfl
  | snoc r hk ho hl ih => rw [List.length_append, List.length_append, ih]; rfl
section
variable {prog : Program} {w : World} {A : Around} {s : Shared} {R : Result → Shared → Prop} {kvs : List (Int × Value)} {ep : Nat}
theorem lstI_loop {S I d lo : Addr} (hh : A.handled = none) (hSI : S < lo) (hIl : I < lo) (hne : S ≠ I) (hSd : d ≠ S) (hId : d ≠ I) (hn : kvs.length ≤ sizeLine) (res : Value) {h₁ : Heap}
    (hR : ∀ h' tk acc c as, (∀ b o, b ≠ S → b ≠ I → h₁.get? b = some o → h'.get? b = some o) → h'.get? S = some { cls := .type "list", dict := none, data := .seq acc c, slots := #[] } → TupsN (PySem.intKind prog w) h' lo as kvs →
      acc.toList = as.map Value.ref → R (.ok (.ret res)) { s with heap := h', toks := tk }) :
    ∀ (k i : Nat) (h : Heap) (tk c : Nat) (acc : Array Value) (as : List Addr), kvs.length - i = k → i ≤ kvs.length → ItSt h I d S i kvs.length ep → DatAt (PySem.intKind prog w) h d kvs ep → (∀ b o, b ≠ S → b ≠ I → h₁.get? b = some o → h.get? b = some o) →
      h.get? S = some { cls := .type "list", dict := none, data := .seq acc c, slots := #[] } → acc.toList = as.map Value.ref → TupsN (PySem.intKind prog w) h lo as (kvs.take i) → lo ≤ h.objs.size →
      codeAny (model prog w) A (.builtin "list.extend.loop" ⟨[.ref S, .ref I, res], []⟩) R { s with heap := h, toks := tk } := by
  intro k
  induction k with
  | zero =>
    intro i h tk c acc as hk hi hst hD hkeep hS hacc hT hlo
    have hin : i = kvs.length := by omega
    refine codeAny_builtin PySem.F.entry_extend_loop ?_
    rw [Around.under_plainId PySem.F.plain_extend_loop _]
    show wpAny _ A.in1 (pyNext (.ref I) >>= _) _ _ _
    have fin : ∀ h', Heap.ExtBut I h h' → R (.ok (.ret res)) { s with heap := h', toks := tk } := fun h' he => by
      rw [hin, List.take_length] at hT
      exact hR h' tk acc c as (fun b o h1 h2 e => he b o h2 (hkeep b o h1 h2 e)) (he S _ hne hS) (hT.keep fun b o hb e => he b o (Nat.ne_of_gt (Nat.lt_of_lt_of_le hIl hb)) e) hacc
    rcases hst with ⟨rfl, ok, ov, hit⟩ | ⟨ok, ov, a, f, oa, hit, _, _, _⟩
    · exact wpAny_bind (it_end (s := { s with heap := h, toks := tk }) (A := A.in1) hh hit hD (List.getElem?_eq_none (by omega)) fun h' he => wpAny_pure (fin h' he))
    · exact wpAny_bind (it_end (s := { s with heap := h, toks := tk }) (A := A.in1) hh hit hD (List.getElem?_eq_none (by omega)) fun h' he => wpAny_pure (fin h' he))
  | succ k ih =>
    intro i h tk c acc as hk hi hst hD hkeep hS hacc hT hlo
    have hlt : i < kvs.length := by omega
    obtain ⟨⟨kk, x⟩, hx⟩ : ∃ p, kvs[i]? = some p := ⟨kvs[i], List.getElem?_eq_getElem hlt⟩
    have hsz : acc.size = i := by rw [← Array.length_toList, hacc, List.length_map, hT.length, List.length_take]; omega
    refine codeAny_builtin PySem.F.entry_extend_loop ?_
    rw [Around.under_plainId PySem.F.plain_extend_loop _]
    show wpAny _ A.in1 (pyNext (.ref I) >>= _) _ _ _
    have go : ∀ key h', (PySem.intKind prog w).is kk key = true → ItSt h' I d S (i + 1) kvs.length ep → h'.get? h.objs.size = some (tup key x) → h'.objs.size = h.objs.size + 1 → (∀ b o, b ≠ I → h.get? b = some o → h'.get? b = some o) →
        wpAny (model prog w) A.in1 (updateSeq S (·.push (Value.ref h.objs.size)) >>= fun _ => again (.builtin "list.extend.loop" ⟨[.ref S, .ref I, res], []⟩)) (fun fin s' => match fin with | .done f => R (.ok f) s' | .again c' => c'.quiet = true ∧ codeAny (model prog w) A c' R s') (fun e s' => R (.error e) s') { s with heap := h', toks := tk } := by
      intro key h' hkey hst' ht hz hkp
      have hS' := hkp S _ hne hS
      have up : ∀ b o, b ≠ S → h'.get? b = some o → (h'.update S (Obj.mapSeq (·.push (Value.ref h.objs.size)))).get? b = some o := fun b o hb e => (Heap.get?_update_other _ _ (Ne.symm hb)).trans e
      have hzu : (h'.update S (Obj.mapSeq (·.push (Value.ref h.objs.size)))).objs.size = h.objs.size + 1 := by rw [← hz]; exact (Heap.SameBut.update (a := S) (h := h') (f := Obj.mapSeq (·.push (Value.ref h.objs.size)))).1
      refine wpAny_bind (wpAny_updateSeq hS' rfl (wpAny_pure ⟨plainId_quiet PySem.F.plain_extend_loop _, ih (i + 1) _ tk _ (acc.push (Value.ref h.objs.size)) (as ++ [h.objs.size]) (by omega) hlt ?_ ((hD.at fun o e => hkp d o hId e).at fun o e => up d o hSd e)
        (fun b o h1 h2 e => up b o h1 (hkp b o h2 (hkeep b o h1 h2 e))) (Heap.get?_update_self _ hS' rfl) (by rw [Array.toList_push, hacc, List.map_append]; rfl) ?_ (by rw [hzu]; exact Nat.le_trans hlo (Nat.le_succ _))⟩) (by rw [hsz]; omega) (by show (acc.push (Value.ref h.objs.size)).size ≤ sizeLine + 1; rw [Array.size_push, hsz]; omega))
      · rcases hst' with ⟨e0, _⟩ | ⟨ok, ov, a, f, oa, h1, h2, h3, h4⟩
        · omega
        · exact .inr ⟨ok, ov, a, f, oa, up _ _ (Ne.symm hne) h1, up _ _ h4 h2, h3, h4⟩
      · rw [List.take_add_one, hx]
        exact (hT.keep fun b o hb e => up b o (Nat.ne_of_gt (Nat.lt_of_lt_of_le hSI hb)) (hkp b o (Nat.ne_of_gt (Nat.lt_of_lt_of_le hIl hb)) e)).snoc hkey (up _ _ (Nat.ne_of_gt (Nat.lt_of_lt_of_le hSI hlo)) ht) hlo
    have hS0 : S < h.objs.size := Heap.lt_size hS
    rcases hst with ⟨rfl, ok, ov, hit⟩ | ⟨ok, ov, a, f, oa, hit, ha, hai, haS⟩
    · refine wpAny_bind (it_next0 (s := { s with heap := h, toks := tk }) hit hD hx fun key h' hkey hi' ht hz hkp => go key h' hkey (.inr ⟨key, x, _, false, _, hi', ht, Nat.ne_of_gt (Heap.lt_size hit), Nat.ne_of_gt hS0⟩) ht hz hkp)
    · refine wpAny_bind (it_next1 (s := { s with heap := h, toks := tk }) hit ha hai hD hx fun key h' hkey hi' ht hz hkp => go key h' hkey (.inr ⟨ok, ov, a, true, oa, hi', hkp a oa hai ha, hai, haS⟩) ht hz hkp)
end
end Mine
end
section
open PySem PySem.W PyProof.Rows PyProof.V PySem.Calls PySem.Spec Builtin Builtin.ObjectAttr
set_option Elab.async false
set_option maxRecDepth 100000
set_option maxHeartbeats 3000000
namespace Mine
section
variable {prog : Program} {w : World} {A : Around} {E : Value → Shared → Prop} {s : Shared} {R : Result → Shared → Prop} {kvs : List (Int × Value)} {ep : Nat} {r d : Addr}
theorem lstI_extend (hh : A.handled = none) (hv : s.heap.get? r = some (iview d)) (hm : DatAt (PySem.intKind prog w) s.heap d kvs ep) (S : Addr) (hSr : S ≠ r) (hSd : d ≠ S) (res : Value) (c₀ : Nat) (hS : s.heap.get? S = some { cls := .type "list", data := .seq #[] c₀ })
    (hR : ∀ h' tk acc c as, (∀ b o, b ≠ S → s.heap.get? b = some o → h'.get? b = some o) → h'.get? S = some { cls := .type "list", dict := none, data := .seq acc c, slots := #[] } → TupsN (PySem.intKind prog w) h' (s.heap.objs.size + 1) as kvs →
      acc.toList = as.map Value.ref → R (.ok (.ret res)) { s with heap := h', toks := tk }) (hn : kvs.length ≤ sizeLine) :
    wpAny (model prog w) A.in1 (Builtin.List.listExtendWith (.ref S) (.ref r) res)
      (fun fin s' => match fin with | .done f => R (.ok f) s' | .again c' => c'.quiet = true ∧ codeAny (model prog w) A c' R s') (fun e s' => R (.error e) s') s := by
  have hSI : S < s.heap.objs.size := Heap.lt_size hS
  have hdI : d < s.heap.objs.size := let ⟨_, _, ho, _⟩ := hm; Heap.lt_size ho
  have hIV : s.heap.IsItemsView r d := ⟨_, hv, rfl, rfl⟩
  have key : ∀ (h : Heap) (c₁ tk : Nat), (∀ b o, b ≠ S → (s.heap.push (itm d 0 kvs.length ep .none false .none .none)).get? b = some o → h.get? b = some o) → h.objs.size = s.heap.objs.size + 1 →
      h.get? S = some { cls := .type "list", data := .seq #[] c₁ } → codeAny (model prog w) A (.builtin "list.extend.loop" ⟨[.ref S, .ref s.heap.objs.size, res], []⟩) R { s with heap := h, toks := tk } := by
    intro h c₁ tk hk hz hS₁
    have hI := hk s.heap.objs.size _ (Nat.ne_of_gt hSI) (Heap.get?_push_size _ rfl)
    refine lstI_loop (kvs := kvs) (ep := ep) (s := s) (h₁ := s.heap) (lo := s.heap.objs.size + 1) hh (Nat.lt_succ_of_lt hSI) (Nat.lt_succ_self _) (Nat.ne_of_lt hSI) hSd (Nat.ne_of_lt hdI) hn res (fun h' tk' acc c as hk' hS' hT hacc => hR h' tk' acc c as (fun b o hb e => hk' b o hb (Nat.ne_of_lt (Heap.lt_size e)) e) hS' hT hacc)
      kvs.length 0 h tk c₁ #[] [] (Nat.sub_zero _) (Nat.zero_le _) (.inl ⟨rfl, .none, .none, hI⟩) (hm.at fun o e => hk d o hSd (Heap.get?_push_of_some _ e)) (fun b o hb _ e => hk b o hb (Heap.get?_push_of_some _ e)) hS₁ rfl .nil (by rw [hz]; exact Nat.le_refl _)
  unfold Builtin.List.listExtendWith
  refine wpAny_bind (wpAny_typeOf (T := "dict_items") hIV.typeIs ?_)
  have h1 : Builtin.List.listSameRef (.ref S) (.ref r) = false := by simp [Builtin.List.listSameRef, hSr]
  have h2 : (Value.type "dict_items" == Value.type "list") = false := by decide
  have h3 : (Value.type "dict_items" == Value.type "tuple") = false := by decide
  simp only [h1, h2, h3, Bool.or_false, Bool.false_eq_true, if_false]
  refine wpAny_bind (it_iter hv hm ?_)
  have hS₁ := Heap.get?_push_of_some (itm d 0 kvs.length ep .none false .none .none) hS
  have hv₁ := Heap.get?_push_of_some (itm d 0 kvs.length ep .none false .none .none) hv
  refine wpAny_bind (wpAny_holding (kdx_hint ⟨_, hv₁, rfl⟩ ?_))
  refine wpAny_ite_split (fun _ => ?_) (fun _ => wpAny_pure ⟨plainId_quiet PySem.F.plain_extend_loop _, key _ c₀ _ (fun b o _ e => e) (Heap.size_push ..) hS₁⟩)
  refine wpAny_bind (wpAny_rule ?_)
  refine wpAny_bind ?_
  show wpAny _ _ (updateSeq S (·.push .none) >>= fun _ => updateSeq S (·.pop)) _ _ _
  refine wpAny_bind (wpAny_updateSeq hS₁ rfl ?_)
  have hS₂ := Heap.get?_update_self (Obj.mapSeq (·.push Value.none)) hS₁ rfl
  refine wpAny_updateSeq (hz := by seq_fits) hS₂ rfl ?_
  have hS₃ := Heap.get?_update_self (Obj.mapSeq (·.pop)) hS₂ rfl
  refine wpAny_pure ⟨plainId_quiet PySem.F.plain_extend_loop _, key _ _ _ (fun b o hb e => (Heap.get?_update_other _ _ (Ne.symm hb)).trans ((Heap.get?_update_other _ _ (Ne.symm hb)).trans e)) ?_ hS₃⟩
  have q1 := (Heap.SameBut.update (a := S) (h := (s.heap.push (itm d 0 kvs.length ep .none false .none .none)).update S (Obj.mapSeq (·.push Value.none))) (f := Obj.mapSeq (·.pop))).1
  have q2 := (Heap.SameBut.update (a := S) (h := s.heap.push (itm d 0 kvs.length ep .none false .none .none)) (f := Obj.mapSeq (·.push Value.none))).1
  exact q1.trans (q2.trans (Heap.size_push ..))
theorem lstI_init (hh : A.handled = none) (hv : s.heap.get? r = some (iview d)) (hm : DatAt (PySem.intKind prog w) s.heap d kvs ep) (S : Addr) (hSr : S ≠ r) (hSd : d ≠ S) (hS : s.heap.get? S = some { cls := .type "list", data := .seq #[] })
    (hR : ∀ h' tk acc c as, (∀ b o, b ≠ S → s.heap.get? b = some o → h'.get? b = some o) → h'.get? S = some { cls := .type "list", dict := none, data := .seq acc c, slots := #[] } → TupsN (PySem.intKind prog w) h' (s.heap.objs.size + 1) as kvs →
      acc.toList = as.map Value.ref → R (.ok (.ret .none)) { s with heap := h', toks := tk }) (hn : kvs.length ≤ sizeLine) :
    wpAny (model prog w) A.in1 (Builtin.«list.__init__» ⟨[.ref S, .ref r], []⟩)
      (fun fin s' => match fin with | .done f => R (.ok f) s' | .again c' => c'.quiet = true ∧ codeAny (model prog w) A c' R s') (fun e s' => R (.error e) s') s := by
  show wpAny _ _ (do let old ← Builtin.List.listItems (.ref S); Builtin.List.listUpdate (.ref S) (fun _ => #[]); letGo old.toList.reverse; Builtin.List.listExtendWith (.ref S) (.ref r) .none) _ _ s
  refine wpAny_bind ?_
  unfold Builtin.List.listItems
  refine wpAny_bind (wpAny_seqItems hS rfl (wpAny_pure ?_))
  show wpAny _ _ (updateSeq S (fun _ => #[]) >>= fun _ => letGo (#[] : Array Value).toList.reverse >>= fun _ => Builtin.List.listExtendWith (.ref S) (.ref r) .none) _ _ s
  refine wpAny_bind (wpAny_updateSeq hS rfl ?_)
  have hS₂ := Heap.get?_update_self (Obj.mapSeq (fun _ => (#[] : Array Value))) hS rfl
  have hsz := (Heap.SameBut.update (a := S) (h := s.heap) (f := Obj.mapSeq (fun _ => (#[] : Array Value)))).1
  have oth : ∀ b o, b ≠ S → s.heap.get? b = some o → (s.heap.update S (Obj.mapSeq (fun _ => (#[] : Array Value)))).get? b = some o :=
    fun b o hb e => (Heap.get?_update_other _ _ (Ne.symm hb)).trans e
  refine wpAny_bind (wpAny_letGo ?_)
  refine lstI_extend (s := { s with heap := s.heap.update S (Obj.mapSeq (fun _ => (#[] : Array Value))) }) (kvs := kvs) (ep := ep) hh (oth r _ hSr.symm hv) (hm.at fun o e => oth d o hSd e) S hSr hSd .none _ hS₂ (fun h' tk acc c as hk hS' hT hacc => ?_) hn
  exact hR h' tk acc c as (fun b o hb e => hk b o hb (oth b o hb e)) hS' (by dsimp only at hT; rw [hsz] at hT; exact hT) hacc
theorem lstI_call {Q : Value → Shared → Prop} (hh : A.handled = none) (hv : s.heap.get? r = some (iview d)) (hm : DatAt (PySem.intKind prog w) s.heap d kvs ep) (hn : kvs.length ≤ sizeLine)
    (hQ : ∀ h' tk acc c as, (∀ b o, s.heap.get? b = some o → h'.get? b = some o) → h'.get? s.heap.objs.size = some { cls := .type "list", dict := none, data := .seq acc c, slots := #[] } → TupsN (PySem.intKind prog w) h' s.heap.objs.size as kvs →
      acc.toList = as.map Value.ref → Q (.ref s.heap.objs.size) { s with heap := h', toks := tk }) :
    wpAny (model prog w) A (call (.type "list") [.ref r]) Q E s := by
  refine callType_codes (Q₁ := fun obj s₁ => obj = .ref s.heap.objs.size ∧ s₁ = { s with heap := s.heap.push { cls := .type "list", data := .seq #[] } }) PySem.F.called_list (PySem.F.typeCall_list_1 _) PySem.F.entry_list_init
    (code_list_new _ ⟨rfl, rfl⟩) fun obj s₁ h₁ => ?_
  obtain ⟨rfl, rfl⟩ := h₁
  have hS : (s.heap.push { cls := .type "list", data := .seq #[] }).get? s.heap.objs.size = some { cls := .type "list", data := .seq #[] } := Heap.get?_push_size _ rfl
  have hr : r < s.heap.objs.size := Heap.lt_size hv
  have hd : d < s.heap.objs.size := let ⟨_, _, ho, _⟩ := hm; Heap.lt_size ho
  refine ⟨⟨_, hS, rfl⟩, PySem.F.args_list_init_2 _ _, lstI_init (s := { s with heap := s.heap.push { cls := .type "list", data := .seq #[] } }) (kvs := kvs) (ep := ep) (A := A.in1) hh (Heap.get?_push_of_some _ hv) (hm.at fun o e => Heap.get?_push_of_some _ e) _ (Nat.ne_of_gt hr) (Nat.ne_of_lt hd) hS (fun h' tk acc c as hk hS' hT hacc => ?_) hn⟩
  refine ⟨rfl, hQ h' tk acc c as (fun b o e => hk b o (Nat.ne_of_lt (Heap.lt_size e)) (Heap.get?_push_of_some _ e)) hS' ?_ hacc⟩
  dsimp only at hT
  rw [Heap.size_push] at hT
  exact hT.low (Nat.le_trans (Nat.le_succ _) (Nat.le_succ _))
end
section
variable {prog : Program} {w : World} {A : Around} {E : Value → Shared → Prop} {s : Shared} {h₀ : Heap} {L : Addr} {m : Str → Option Value} {news : List (Addr × Obj)} {r y : Addr}
/-- references to tuples of a text and a whole number, the tuples among the objects of l -/
inductive TupsJ (l : List (Addr × Obj)) : List Value → List (Int × Int) → Prop
  | nil : TupsJ l [] []
  | cons {a : Addr} {k : Int} {c : Int} {t u : Tok} {r : List Value} {r' : List (Int × Int)} (h : (a, tup (.int k t) (.int c u)) ∈ l) (hr : TupsJ l r r') : TupsJ l (.ref a :: r) ((k, c) :: r')
theorem TupsJ.sub {l l' : List (Addr × Obj)} {vs : List Value} {cs : List (Int × Int)} (h : TupsJ l vs cs) (hs : ∀ p ∈ l, p ∈ l') : TupsJ l' vs cs := by
  induction h with
  | nil => exact .nil
  | cons h _ ih => exact .cons (hs _ h) ih
theorem TupsJ.append {l : List (Addr × Obj)} {vs vs' : List Value} {cs cs' : List (Int × Int)} (h : TupsJ l vs cs) (h' : TupsJ l vs' cs') : TupsJ l (vs ++ vs') (cs ++ cs') := by
  induction h with
  | nil => exact h'
  | cons h _ ih => exact .cons h ih
theorem IntsI.split : ∀ {a : List (Int × Value)} {x : Int × Value} {cs : List (Int × Int)}, IntsI (a ++ [x]) cs → ∃ cs' y, cs = cs' ++ [y] ∧ IntsI a cs' ∧ x.1 = y.1 ∧ ∃ t, x.2 = .int y.2 t
  | [], _, _, .cons (k := k) (c := c) (t := t) .nil => ⟨[], (k, c), rfl, .nil, rfl, t, rfl⟩
  | _ :: _, _, _, .cons hr => by
    obtain ⟨cs', y, e, h1, h2, h3⟩ := IntsI.split hr
    exact ⟨_ :: cs', y, by rw [e]; rfl, .cons h1, h2, h3⟩
theorem TupsN.into {h : Heap} {lo : Addr} {as : List Addr} {kvs : List (Int × Value)} (T : TupsN (PySem.intKind prog w) h lo as kvs) : ∀ {cs : List (Int × Int)}, IntsI kvs cs → (hf : ∀ a o, lo ≤ a → h.get? a = some o → a ≠ L ∧ h₀.get? a = none) → ∃ l, News h₀ L h l ∧ TupsJ l (as.map .ref) cs ∧ ∀ p ∈ l, lo ≤ p.1 := by
  induction T with
  | nil => intro cs hi hf; cases hi; exact ⟨[], (fun _ hp => nomatch hp), .nil, (fun _ hp => nomatch hp)⟩
  | @snoc as kvs a k key v r hk ho hl ih =>
    intro cs hi hf
    obtain ⟨cs', y, rfl, h1, h2, t, h3⟩ := hi.split
    obtain ⟨l, N, hT, hlo⟩ := ih h1 hf
    obtain ⟨u, rfl⟩ := PySem.Value.isInt_shape hk
    obtain ⟨y1, y2⟩ := y
    dsimp only at h2 h3
    subst h2 h3
    refine ⟨(a, tup (.int k u) (.int y2 t)) :: l, fun p hp => ?_, ?_, fun p hp => ?_⟩
    · rcases List.mem_cons.mp hp with rfl | hp
      · exact ⟨ho, hf a _ hl ho⟩
      · exact N p hp
    · rw [List.map_append]
      exact (hT.sub fun p hp => .tail _ hp).append (.cons (.head _) .nil)
    · rcases List.mem_cons.mp hp with rfl | hp
      · exact hl
      · exact hlo p hp
theorem list_items_I {kvs : List (Int × Value)} {cs : List (Int × Int)} {Q : Value → Shared → Prop} (hh : A.handled = none) (F : Fr h₀ L s.heap m) (N : News h₀ L s.heap news) (hv : (r, iview y) ∈ news) {oo : Obj} {es : Array DictEntry} {ep : Nat} (hom : (y, oo) ∈ news) (hod : oo.data = .dict es ep) (D : DIs (PySem.intKind prog w) es kvs) (hi : IntsI kvs cs) (hn : kvs.length ≤ sizeLine)
    (h : ∀ S h' tk vs l n, TupsJ l vs cs → Fr h₀ L h' m → News h₀ L h' ((S, listOf vs.toArray n) :: (l ++ news)) → (∀ p ∈ news, p.1 < S) → (∀ p ∈ l, S ≤ p.1) → Q (.ref S) { s with heap := h', toks := tk }) :
    wpAny (model prog w) A (call (.type "list") [.ref r]) Q E s := by
  refine lstI_call (kvs := kvs) hh (N _ hv).1 ⟨oo, es, (N _ hom).1, hod, D⟩ hn fun h' tk acc c as hk hS hT hacc => ?_
  have F' : Fr h₀ L h' m := ⟨F.ns.at' fun o e => hk _ o e, fun b o e => hk b o (F.keep b o e), F.above⟩
  have hnew : ∀ a o, s.heap.objs.size ≤ a → h'.get? a = some o → a ≠ L ∧ h₀.get? a = none := fun a o hl _ => ⟨Nat.ne_of_gt (Nat.lt_of_lt_of_le F.ns.lt hl), Heap.get?_none_of_le (Nat.le_trans (Nat.le_of_lt (Nat.lt_of_le_of_lt F.above F.ns.lt)) hl)⟩
  obtain ⟨l, Nl, hTl, hlo⟩ := hT.into hi hnew
  have hac : acc = (as.map Value.ref).toArray := by rw [← hacc]
  subst hac
  refine h _ h' tk (as.map .ref) l c hTl F' (fun p hp => ?_) (fun p hp => Heap.lt_size (N p hp).1) hlo
  rcases List.mem_cons.mp hp with rfl | hp
  · exact ⟨hS, hnew _ _ (Nat.le_refl _) hS⟩
  · rcases List.mem_append.mp hp with hp | hp
    · exact Nl p hp
    · exact ⟨hk _ _ (N p hp).1, (N p hp).2⟩
end
end Mine
end
section
open PySem PySem.W PyProof.Rows PyProof.V PySem.Calls PySem.Spec Builtin Builtin.ObjectAttr LCg
set_option compiler.extract_closed false
set_option Elab.async false
set_option maxRecDepth 100000
set_option maxHeartbeats 3000000
namespace Mine
local macro_rules | `(tactic| walk_at "none0") => `(tactic| skip)
theorem fillD34 : PySem.Challenge.rw_dn0005_07 = PySem.Challenge.rw_dn0005_07 ∧ Mine.hd07.heap_39 = Mine.hd07.heap_39 := by
  k_fill
  exact ⟨rfl, rfl⟩
theorem balance : ∀ (ps : List (Int × Int)), (ps.map (·.2)).sum = ((expand ps).length : Int) - ((expand (negs ps)).length : Int)
  | [] => rfl
  | (k, c) :: r => by
    have a := balance r
    have e1 : (expand ((k, c) :: r)).length = c.toNat + (expand r).length := by
      show (List.replicate c.toNat k ++ expand r).length = _
      rw [List.length_append, List.length_replicate]
    have e2 : (expand (negs ((k, c) :: r))).length = (0 - c).toNat + (expand (negs r)).length := by
      by_cases h : c < 0
      · have : negs ((k, c) :: r) = (k, 0 - c) :: negs r := by
          unfold negs
          rw [List.filter_cons_of_pos (by simpa using h)]
          rfl
        rw [this]
        show (List.replicate (0 - c).toNat k ++ expand (negs r)).length = _
        rw [List.length_append, List.length_replicate]
      · have : negs ((k, c) :: r) = negs r := by
          unfold negs
          rw [List.filter_cons_of_neg (by simpa using h)]
        rw [this]
        omega
    rw [List.map_cons, List.sum_cons, a, e1, e2]
    show c + _ = _
    omega
theorem tot_eq (ps : List (Int × Int)) : preSum (valAt ps) ps.length = ((expand ps).length : Int) - ((expand (negs ps)).length : Int) := (kdy_tot ps).trans (balance ps)
def pdI (p : Int × Int) : PySem.W.Dat := .tuple [.int p.1, .int p.2]
theorem TupsJ.dat {l : List (Addr × Obj)} {vs : List Value} {cs : List (Int × Int)} (h : TupsJ l vs cs) : PySem.W.DatAll l vs (cs.map pdI) := by
  induction h with
  | nil => exact .nil
  | @cons a k c t u r r' h hr ih => exact .cons (.tuple (n := 0) h (.cons (.int k t) (.cons (.int c u) .nil))) ih
theorem pdI_ok {p : Int × Int} : PySem.W.kqdOk 8 (pdI p) = true := by
  unfold pdI
  simp [PySem.W.kqdOk]
theorem items_plain {prog : Program} {w : World} {A : Around} {E : Value → Shared → Prop} {s : Shared} {h₀ : Heap} {L d : Addr} {m : Str → Option Value} {news : List (Addr × Obj)} {ob : Obj} {kvs : List (Int × Value)} {Q : Value → Shared → Prop}
    (hd : ob.IsDictOf (PySem.intKind prog w) kvs) (lo : (d == sysModules) = false) (F : Fr h₀ L s.heap m) (N : News h₀ L s.heap news) (hm : (d, ob) ∈ news) (h : ∀ v h', Fr h₀ L h' m → News h₀ L h' ((v, iview d) :: news) → Q (.ref v) { s with heap := h' }) :
    wpAny (model prog w) A (call (.builtin "dict.items") [.ref d]) Q E s :=
  have hD := kda_dict N hm hd
  call_meetsIn PySem.F.slot_dict_items hD.typeIs PySem.F.entry_dict_items (PySem.F.args_dict_items_1 _) (meets_dict_items (PySem.intKind prog w) d lo) ⟨⟨kvs, hD⟩, h _ _ (F.push _) (News.push F N _ rfl)⟩
local macro_rules | `(tactic| walk_at "getMethod ref") => `(tactic| (refine halt ?_))
local macro_rules | `(tactic| walk_at "call builtin:dict.items") => `(tactic| (refine halt ?_))

local macro_rules | `(tactic| walk_at "call ref") => `(tactic| (refine halt ?_))
local macro_rules | `(tactic| walk_at "call type:list") => `(tactic| (refine halt ?_))
local macro_rules | `(tactic| walk_at "compareOp Eq ref ref") => `(tactic| (refine halt ?_))
section
variable {prog : Program} {w : World} {A₀ : Around} {g1 : Heap} {outer : List Env} {e0 : Env} {L L1 : Addr} {mg mb : Str → Option Value} {mean : ExcName → Option Value} {s : Shared} {Q : Flow → Shared → Prop} {E : Value → Shared → Prop}
theorem law_end {name qual : Str} {params : Arguments} {body : List Stmt} {scope : Scope} {dV kV doc pm cdv ct oc : Value} {an od : Option Addr} {osl : Array (Option Value)}
    (ho : (Mine.hd07.heap_39 w.params).lookup 1102 = some ⟨oc, od, .func (fnOf name qual params body scope dV kV doc pm an cdv ct), osl⟩)
    {y d x dx c t lo p ag : Addr} {oy o1 o2 ob : Obj} {kvs : List (Int × Value)} {ps : List (Int × Int)} {es : Array DictEntry} {n nl na : Nat} {xv kv : Option Value} {ys vo zs : List Value}
    (hd : ob.IsDictOf (PySem.intKind prog w) kvs) (hds : (d == sysModules) = false) (d2' : o2.data = .cell (some (.ref d)))
    (hD : DIs (PySem.intKind prog w) es kvs) (hi : IntsI kvs ps) (hlen : ps.length ≤ 7) (hsx : (x == sysModules) = false)
    (hys : IntsAre ys (expand ps)) (hyl : (expand ps).length ≤ 1000) (hzs : IntsAre zs (expand (negs ps))) (hzl : (expand (negs ps)).length ≤ 1000)
    (B1 : Below callerA g1 [] g1) (X1 : (Mine.hd07.heap_39 w.params).In g1) (T1 : Top vw ls mean mg mb g1)
    (F1 : Fr g1 L1 s.heap (mH y x c t p ag xv kv)) (N1 : News g1 L1 s.heap ((ag, listOf zs.toArray na) :: nF L1 lo t x dx d y es n nl vo ys ob o1 o2 oy))
    (hE : PassesOwn (model prog w) (callerA.deeper (envOfC qual scope L1 1102 cdv)) (envOfC qual scope L1 1102 cdv) E)
    (k : ∀ h' tk m', Fr g1 L1 h' m' → h'.get? y = some oy → Q (.ret (.bool true)) { s with heap := h', toks := tk }) :
    wpAny (model prog w) (callerA.deeper (envOfC qual scope L1 1102 cdv)) (execs (body.drop 13) (envOfC qual scope L1 1102 cdv)) Q E s := by
  have e := ho.symm.trans (by k_is : (Mine.hd07.heap_39 w.params).lookup 1102 = some _)
  cases e
  dsimp only [List.drop]
  have mx : (x, cnt es n dx) ∈ (ag, listOf zs.toArray na) :: nF L1 lo t x dx d y es n nl vo ys ob o1 o2 oy := by k_mem
  have mdx : (dx, dictOf [] 0) ∈ (ag, listOf zs.toArray na) :: nF L1 lo t x dx d y es n nl vo ys ob o1 o2 oy := by k_mem
  k_steps
  unfold Halt
  refine cnt_fn_meth F1 X1 N1 mx mdx c_total t_total ?_
  k_steps
  unfold Halt
  refine use_at 10 rfl rfl rfl rfl rfl (Nat.le_of_ble_eq_true rfl) (Nat.le_of_ble_eq_true rfl) (total_spec (x := x) (dx := dx) (es := es) (n := n) (kvs := kvs) (ps := ps) (rest := (ag, listOf zs.toArray na) :: (lo, listOf vo.toArray nl) :: (t, lst ys) :: [(d, ob), (L1 + 1 + 1, o1), (L1 + 1, o2), (y, oy)]) hD hi hsx B1 F1 X1 (news_sub N1 ?sb) T1 fun h2 tk2 t2 F2 N2 => ?_)
  case sb => kqd_sub
  dsimp only
  clear F1 N1
  have hte := tot_eq ps
  k_steps
  · unfold Halt
    rename Fr _ _ _ _ => F3
    rename News _ _ _ _ => N3
    refine cnt_items_meth F3 X1 N3 (.head _) (.tail _ (.head _)) ?_
    k_steps
    unfold Halt
    refine cnt_items_K F3 X1 N3 (.head _) (.tail _ (.head _)) hsx ?_
    intro v4 h4 F4 N4 l4
    k_steps
    unfold Halt
    refine list_items_I rfl F4 N4 (.head _) (oo := cnt es n dx) (y := x) (.tail _ (.head _)) rfl hD hi (by rw [hi.length, PySem.sizeLine_eq]; omega) fun S5 h5 tk5 vs5 tl5 n5 hT5 F5 N5 l5 m5 => ?_
    have N6 : News g1 L1 h5 ((S5, listOf vs5.toArray n5) :: (d, ob) :: (L1 + 1 + 1, o1) :: (L1 + 1, o2) :: (y, oy) :: tl5) := news_sub N5 fun q hq => by
      simp only [List.mem_cons] at hq
      rcases hq with h | h | h | h | h | h
      · exact h ▸ .head _
      · exact .tail _ (List.mem_append_right _ (h ▸ (by k_mem)))
      · exact .tail _ (List.mem_append_right _ (h ▸ (by k_mem)))
      · exact .tail _ (List.mem_append_right _ (h ▸ (by k_mem)))
      · exact .tail _ (List.mem_append_right _ (h ▸ (by k_mem)))
      · exact .tail _ (List.mem_append_left _ h)
    clear N5 N4 N3 F4 F3 l4
    k_steps
    unfold Halt
    refine kdl_method (knd := PySem.intKind prog w) PySem.F.slot_dict_items PySem.F.type_dict_items N6 (.tail _ (.head _)) hd ?_
    k_steps
    unfold Halt
    refine items_plain hd hds F5 N6 (.tail _ (.head _)) fun v7 h7 F7 N7 => ?_
    k_steps
    unfold Halt
    obtain ⟨es9, ep9, hex9, hdat9, hk9, hp9, hnd9⟩ := id hd
    refine list_items_I rfl F7 N7 (.head _) (oo := ob) (y := d) (.tail _ (.tail _ (.head _))) hdat9 ⟨hk9, hp9, hnd9⟩ hi (by rw [hi.length, PySem.sizeLine_eq]; omega) fun S8 h8 tk8 vs8 tl8 n8 hT8 F8 N8 l8 m8 => ?_
    k_steps
    unfold Halt
    have ok : ∀ q ∈ ps.map pdI, PySem.W.kqdOk 8 q = true := by
      intro q hq
      obtain ⟨z, _, rfl⟩ := List.mem_map.mp hq
      exact pdI_ok
    refine kqd_eq N8 (a := S5) (b := S8) (oa := listOf vs5.toArray n5) (ob := listOf vs8.toArray n8) (.tail _ (List.mem_append_right _ (.tail _ (.head _)))) rfl rfl hT5.dat (fun q hq => .tail _ (List.mem_append_right _ (.tail _ (.tail _ (.tail _ (.tail _ (.tail _ (.tail _ hq)))))))) (.head _) rfl rfl hT8.dat (fun q hq => .tail _ (List.mem_append_left _ hq)) ok ok (Nat.le_of_ble_eq_true rfl) ?_
    simp only [decide_true]
    exact k h8 _ _ F8 (N8 (y, oy) (.tail _ (List.mem_append_right _ (.tail _ (.tail _ (.tail _ (.tail _ (.tail _ (.head _)))))))) ).1
  · exact absurd hte (by assumption)
end
end Mine
end
section
open PySem PySem.W PyProof.Rows PyProof.V PySem.Calls PySem.Spec Builtin Builtin.ObjectAttr LCg
set_option Elab.async false
set_option maxRecDepth 100000
set_option maxHeartbeats 3000000
namespace Mine
section
variable {prog : Program} {w : World} {A : Around} {E : Value → Shared → Prop} {R : Result → Shared → Prop} {s : Shared}
/-- a comprehension of two clauses -/
abbrev nest (elt t0 i0 t1 i1 : Expr) (scope : Scope) (pos : Pos) : Expr := .ListComp elt [⟨t0, i0, [], 0⟩, ⟨t1, i1, [], 0⟩] scope pos
theorem nest_inner {elt t0 i0 t1 i1 : Expr} {scope : Scope} {pos : Pos} {it acc : Value} {env : Env} (I : Nat → Shared → Prop)
    (turn : ∀ n s, I n s → wpAny (model prog w) A (pyNext it) (fun r s₁ => match r with
      | none => R (.ok .next) s₁
      | some v => wpAny (model prog w) A (assign t1 env v) (fun _ s₂ => wpAny (model prog w) A (eval elt env) (fun x s₄ =>
              wpAny (model prog w) A (call (.builtin "list.append") [acc, x]) (fun _ s₅ => ∃ m, m < n ∧ I m s₅) (notedBy (model prog w) A env fun e s' => R (.error e) s') s₄) (notedBy (model prog w) A env fun e s' => R (.error e) s') s₂) (notedBy (model prog w) A env fun e s' => R (.error e) s') s₁) (notedBy (model prog w) A env fun e s' => R (.error e) s') s)
    (n : Nat) (h : I n s) (ht : ∀ v, letOwnedTupleGo t1 it v = pure () := by intro _; rfl) :
    codeAny (model prog w) A (.compLoop (nest elt t0 i0 t1 i1 scope pos) 1 it acc env) R s := by
  refine codeAny_loop rfl I (fun n s hI => ?_) n h
  show wpAny _ A ((compTurn (nest elt t0 i0 t1 i1 scope pos) 1 it acc env).onRaise (fun x => do noteFrame x env; theTreesLotGoes x)) _ _ s
  refine wpAny_noted ?_
  unfold compTurn
  refine wpAny_bind (wpAny_standAt (wpAny_bind (wpAny_mono (turn n s hI) (fun r s₁ h₁ => ?_) fun _ _ h' => h')))
  cases r with
  | none => exact wpAny_pure h₁
  | some v =>
    refine wpAny_bind (wpAny_of_eq (ht v) ?_)
    refine wpAny_bind (wpAny_mono h₁ (fun _ s₂ h₂ => ?_) fun _ _ h' => h')
    refine wpAny_bind (wpAny_tests_nil ?_)
    exact wpAny_bind (wpAny_bind (wpAny_mono h₂ (fun x s₄ h₄ => wpAny_bind (wpAny_mono h₄ (fun _ s₅ h₅ => wpAny_pure (wpAny_pure ⟨rfl, h₅⟩)) fun _ _ h' => h')) fun _ _ h' => h'))
theorem nest_outer {elt t0 i0 t1 i1 : Expr} {scope : Scope} {pos : Pos} {it acc : Value} {env : Env} (I : Nat → Shared → Prop)
    (turn : ∀ n s, I n s → wpAny (model prog w) A (pyNext it) (fun r s₁ => match r with
      | none => R (.ok .next) s₁
      | some v => wpAny (model prog w) A (assign t0 env v) (fun _ s₂ => wpAny (model prog w) A (eval i1 env) (fun x s₃ =>
              wpAny (model prog w) A (pyIter x) (fun it1 s₄ => codeAny (model prog w) (A.mark none) (.compStart (nest elt t0 i0 t1 i1 scope pos) 1 it1 acc env) (fun r s₅ => match r with | .ok _ => ∃ m, m < n ∧ I m s₅ | .error _ => False) s₄)
                (notedBy (model prog w) A env fun e s' => R (.error e) s') s₃) (notedBy (model prog w) A env fun e s' => R (.error e) s') s₂) (notedBy (model prog w) A env fun e s' => R (.error e) s') s₁) (notedBy (model prog w) A env fun e s' => R (.error e) s') s)
    (n : Nat) (h : I n s) (ht : ∀ v, letOwnedTupleGo t0 it v = pure () := by intro _; rfl) (hs : ∀ x, foldedSetIterable i1 env x = pure x := by intro _; rfl) :
    codeAny (model prog w) A (.compLoop (nest elt t0 i0 t1 i1 scope pos) 0 it acc env) R s := by
  refine codeAny_loop rfl I (fun n s hI => ?_) n h
  show wpAny _ A ((compTurn (nest elt t0 i0 t1 i1 scope pos) 0 it acc env).onRaise (fun x => do noteFrame x env; theTreesLotGoes x)) _ _ s
  refine wpAny_noted ?_
  unfold compTurn
  refine wpAny_bind (wpAny_standAt (wpAny_bind (wpAny_mono (turn n s hI) (fun r s₁ h₁ => ?_) fun _ _ h' => h')))
  cases r with
  | none => exact wpAny_pure h₁
  | some v =>
    refine wpAny_bind (wpAny_of_eq (ht v) ?_)
    refine wpAny_bind (wpAny_mono h₁ (fun _ s₂ h₂ => ?_) fun _ _ h' => h')
    refine wpAny_bind (wpAny_tests_nil ?_)
    refine wpAny_bind (wpAny_mono h₂ (fun x s₃ h₃ => ?_) fun _ _ h' => h')
    refine wpAny_bind (wpAny_standAt (wpAny_bind (wpAny_of_eq (hs x) ?_)))
    refine wpAny_bind (wpAny_holding (wpAny_mono h₃ (fun it1 s₄ h₄ => ?_) fun _ _ h' => h'))
    refine wpAny_bind (wpAny_runOwn (codeAny_mono h₄ fun r s₅ h₅ => ?_) (by intro e; cases e))
    cases r with
    | ok f => exact wpAny_pure ⟨rfl, h₅⟩
    | error e => exact h₅.elim
theorem nest_start1 {elt t0 i0 t1 i1 : Expr} {scope : Scope} {pos : Pos} {it acc : Value} {env : Env}
    (h0 : codeAny (model prog w) A (.compLoop (nest elt t0 i0 t1 i1 scope pos) 1 it acc env) R s)
    (h : wpAny (model prog w) A (pyIter it) (fun it' s' => codeAny (model prog w) A (.compLoop (nest elt t0 i0 t1 i1 scope pos) 1 it' acc env) R s') (notedBy (model prog w) A env fun x s' => R (.error x) s') s) :
    codeAny (model prog w) A (.compStart (nest elt t0 i0 t1 i1 scope pos) 1 it acc env) R s := by
  refine codeAny_of_tree ?_
  show wpAny _ _ ((compStart (nest elt t0 i0 t1 i1 scope pos) 1 it acc env).onRaise (fun x => do noteFrame x env; standAt theWindowsPlace)) _ _ s
  refine wpAny_notedAt ?_
  unfold compStart
  show wpAny _ _ (ask >>= _) _ _ s
  refine wpAny_bind (wpAny_askSetting (wpAny_ite ?_))
  split
  · first
      | exact wpAny_bind (wpAny_pure (wpAny_pure (And.intro rfl h0)))
      | exact wpAny_pure (And.intro rfl h0)
  · first
      | exact wpAny_bind (wpAny_rule (wpAny_bind (wpAny_standAt (wpAny_bind (wpAny_mono h (fun it' s' h' => wpAny_pure (And.intro rfl h')) fun _ _ x => x)))))
      | (refine wpAny_bind (wpAny_rule ?_); show wpAny _ _ (standAt i1.pos >>= _) _ _ s; exact wpAny_bind (wpAny_standAt (wpAny_bind (wpAny_mono h (fun it' s' h' => wpAny_pure (And.intro rfl h')) fun _ _ x => x))))
end
end Mine
end
section
open PySem PySem.W PyProof.Rows PyProof.V PySem.Calls PySem.Spec Builtin Builtin.ObjectAttr LCg
set_option Elab.async false
set_option maxRecDepth 100000
set_option maxHeartbeats 3000000
namespace Mine
section
variable {prog : Program} {w : World} {A : Around} {E : Value → Shared → Prop} {R : Result → Shared → Prop} {s : Shared} {env : Env} {h₀ : Heap} {L : Addr} {m : Str → Option Value}
/-- the loop of the second clause, over a range: the key is given as often as the range is long -/
theorem nest_range {x k : Str} {t0 i0 i1 : Expr} {pe pk : Pos} {scope : Scope} {cl : List (Str × Addr)} {pos : Pos} {C D J : Addr} {nws : List (Addr × Obj)} {a key : Int} {tkey : Tok} {n : Nat} {ys : List Value}
    (hh : A.handled = none) (hkind : scope.kind = .function) (hk : scope.names.lookup k = some .local) (hx : scope.names.lookup x = some .local) (hxk : x ≠ k) (hdb : (x == ("__debug__" : Str)) = false)
    (hCL : C ≠ L) (hC₀ : h₀.get? C = none) (hDL : D ≠ L) (hD₀ : h₀.get? D = none) (hJL : J ≠ L) (hJ₀ : h₀.get? J = none) (hDC : D ≠ C) (hJC : J ≠ C) (hJD : J ≠ D) (hnC : ∀ p ∈ nws, p.1 ≠ C) (hnD : ∀ p ∈ nws, p.1 ≠ D) (hnJ : ∀ p ∈ nws, p.1 ≠ J) (hsz : ys.length + n ≤ sizeLine)
    (fin : ∀ h tk zs m', Nums zs (List.replicate n key) → Fr h₀ L h m → News h₀ L h ((D, lst (ys ++ zs)) :: nws) → h.Ns C m' → R (.ok .next) { s with heap := h, toks := tk })
    {h : Heap} {tk : Nat} {m' : Str → Option Value} (F : Fr h₀ L h m) (N : News h₀ L h ((D, lst ys) :: nws)) (hn : h.Ns C m') (hmx : m' x = some (.int key tkey)) (hit : IsRangeIter h J a (n : Int) 1) :
    codeAny (model prog w) A (.compLoop (nest (.Name x pe) t0 i0 (.Name k pk) i1 scope pos) 1 (.ref J) (.ref D) (compEnvC scope cl C env)) R { s with heap := h, toks := tk } := by
  have W := range_walks (prog := prog) (w := w) (A := A) (I := J) hh a n
  refine nest_inner (fun c s' => ∃ h tk i zs m', s' = { s with heap := h, toks := tk } ∧ i ≤ n ∧ c = n + 1 - i ∧ Nums zs (List.replicate i key) ∧ IsRangeIter h J (a + (i : Nat) * 1) ((n : Int) - (i : Nat)) 1 ∧ Fr h₀ L h m ∧ News h₀ L h ((D, lst (ys ++ zs)) :: nws) ∧ h.Ns C m' ∧ m' x = some (.int key tkey)) ?_ (n + 1)
    ⟨h, tk, 0, [], m', rfl, Nat.zero_le _, rfl, .nil, by simpa using hit, F, by simpa using N, hn, hmx⟩
  rintro c s' ⟨h, tk, i, zs, m', rfl, hi, rfl, hzs, st, F, N, hn, hmx⟩
  by_cases hlt : i < n
  · refine W.item i _ _ _ hlt st fun v h₂ tk₂ hPv st₂ hk₂ => ?_
    refine wpAny_assign_Name (wpAny_storeName_local (lookup_relabel_local hk) (hn.at' fun o e => hk₂ C o (by simpa using Ne.symm hJC) e) (fun h₃ hn₃ hs₃ => ?_) (by simp [compEnvC, relabel, hkind]))
    have hx3 : (if x = k then some v else m' x) = some (.int key tkey) := by rw [if_neg hxk]; exact hmx
    rw [eval_Name _ _ _ hdb]
    refine wpAny_bind (wpAny_standAt (wpAny_loadName_local (v := .int key tkey) (by simp [compEnvC, relabel, hkind]) (lookup_relabel_local hx) hn₃ hx3 ?_))
    have F₃ : Fr h₀ L h₃ m := (fr_but F hk₂ (Ne.symm hJL) hJ₀).change hs₃ hCL hC₀
    have N₂ := news_but N hk₂ fun p hp => by
      rcases List.mem_cons.mp hp with rfl | hp
      · exact Ne.symm hJD
      · exact hnJ p hp
    have N₃ : News h₀ L h₃ ((D, lst (ys ++ zs)) :: nws) := fun p hp => by
      have z := N₂ p hp
      refine ⟨hs₃.extBut _ _ ?_ z.1, z.2⟩
      rcases List.mem_cons.mp hp with rfl | hp
      · exact hDC
      · exact hnC p hp
    have hzl := hzs.length
    rw [List.length_replicate] at hzl
    refine append_at (hsz := by show (ys ++ zs).toArray.size ≤ sizeLine; rw [List.size_toArray, List.length_append]; omega) (N₃ _ (.head _)).1 fun h₅ hs₅ hD₅ => ?_
    refine ⟨n + 1 - (i + 1), by omega, h₅, _, i + 1, zs ++ [.int key tkey], _, rfl, hlt, rfl, by rw [List.replicate_succ']; exact hzs.snoc, ?_, F₃.change hs₅ hDL hD₀, fun p hp => ?_, hn₃.sameBut hs₅ (Ne.symm hDC), hx3⟩
    · exact hs₅.extBut _ _ hJD (hs₃.extBut _ _ hJC st₂)
    · rcases List.mem_cons.mp hp with rfl | hp
      · exact ⟨hD₅.trans (by rw [lst_snoc, List.append_assoc]), hDL, hD₀⟩
      · have z := N₃ p (.tail _ hp)
        exact ⟨hs₅.extBut _ _ (hnD p hp) z.1, z.2⟩
  · obtain rfl : i = n := Nat.le_antisymm hi (Nat.not_lt.mp hlt)
    refine W.done _ _ _ st fun h₂ tk₂ hk₂ => ?_
    exact fin h₂ tk₂ zs m' hzs (fr_but F hk₂ (Ne.symm hJL) hJ₀) (news_but N hk₂ fun p hp => by
      rcases List.mem_cons.mp hp with rfl | hp
      · exact Ne.symm hJD
      · exact hnJ p hp) (hn.at' fun o e => hk₂ C o (by simpa using Ne.symm hJC) e)
end
end Mine
end
section
open PySem PySem.W PyProof.Rows PyProof.V PySem.Calls PySem.Spec Builtin Builtin.ObjectAttr LCg
set_option Elab.async false
set_option maxRecDepth 100000
set_option maxHeartbeats 3000000
namespace Mine
theorem expand_app : ∀ (a b : List (Int × Int)), expand (a ++ b) = expand a ++ expand b
  | [], _ => rfl
  | (k, c) :: r, b => by
    show List.replicate c.toNat k ++ expand (r ++ b) = (List.replicate c.toNat k ++ expand r) ++ expand b
    rw [expand_app r b, List.append_assoc]
theorem Nums.append {a b : List Value} {x y : List Int} (h : Nums a x) (h2 : Nums b y) : Nums (a ++ b) (x ++ y) := by
  induction h with
  | nil => exact h2
  | cons _ ih => exact .cons ih
theorem negs_next {ps : List (Int × Int)} {i : Nat} {p : Int × Int} (hp : ps[i]? = some p) : expand (negs (ps.take (i + 1))) = expand (negs (ps.take i)) ++ List.replicate (0 - p.2).toNat p.1 := by
  have e : ps.take (i + 1) = ps.take i ++ [p] := by rw [List.take_add_one, hp]; rfl
  rw [e, negs_snoc]
  split
  · rw [expand_app]
    show _ ++ (List.replicate (0 - p.2).toNat p.1 ++ []) = _
    rw [List.append_nil]
  · rw [show (0 - p.2).toNat = 0 by omega]
    simp
theorem range_size {b : Int} (h1 : -5 ≤ b) (h2 : b ≤ 3) : Builtin.Range.small 0 b 1 = true ∧ Builtin.Range.rangeSize 0 b 1 = ((b.toNat : Nat) : Int) := by
  have c : b = -5 ∨ b = -4 ∨ b = -3 ∨ b = -2 ∨ b = -1 ∨ b = 0 ∨ b = 1 ∨ b = 2 ∨ b = 3 := by omega
  rcases c with rfl | rfl | rfl | rfl | rfl | rfl | rfl | rfl | rfl <;> decide
section
variable {prog : Program} {w : World} {A : Around} {E : Value → Shared → Prop} {R : Result → Shared → Prop} {s : Shared} {env : Env} {h₀ : Heap} {L : Addr} {m : Str → Option Value}
theorem nest_list {x k : Str} {px pk pe : Pos} {i0 i1 : Expr} {scope : Scope} {cl : List (Str × Addr)} {pos : Pos} {C D I lo : Addr} {news : List (Addr × Obj)} {ps : List (Int × Int)} {vo : List Value} {lob : Obj}
    (hh : A.handled = none) (hkind : scope.kind = .function) (hk : scope.names.lookup k = some .local) (hx : scope.names.lookup x = some .local) (hxk : x ≠ k) (hdb : (x == ("__debug__" : Str)) = false) (hs1 : ∀ z, foldedSetIterable i1 (compEnvC scope cl C env) z = pure z)
    (hvo : IntsAre vo (ps.map (·.1))) (hb : ∀ q ∈ ps, -3 ≤ q.2 ∧ q.2 ≤ 5) (hlen : ps.length ≤ 7) (hlo : (lo, lob) ∈ news) (hloc : lob.cls = .type "list") (hlod : ∃ n, lob.data = .seq vo.toArray n)
    (hCL : C ≠ L) (hC₀ : h₀.get? C = none) (hDL : D ≠ L) (hD₀ : h₀.get? D = none) (hIL : I ≠ L) (hI₀ : h₀.get? I = none) (hDC : D ≠ C) (hIC : I ≠ C) (hID : I ≠ D) (hnC : ∀ p ∈ news, p.1 ≠ C) (hnD : ∀ p ∈ news, p.1 ≠ D) (hnI : ∀ p ∈ news, p.1 ≠ I)
    (hev : ∀ (i : Nat) (p : Int × Int) (t : Tok) (oI oC : Obj) (m₂ : Str → Option Value) (ys : List Value) (h : Heap) (tk : Nat) (E' : Value → Shared → Prop), ps[i]? = some p → NsObj oC m₂ → m₂ x = some (.int p.1 t) → Fr h₀ L h m → News h₀ L h ((I, oI) :: (C, oC) :: (D, lst ys) :: news) →
      wpAny (model prog w) A (eval i1 (compEnvC scope cl C env)) (fun xv s₃ => Halt (∃ r t u v h' tk', xv = .ref r ∧ s₃ = { s with heap := h', toks := tk' } ∧ IsRange h' r 0 (0 - p.2) 1 t u v ∧ Fr h₀ L h' m ∧ News h₀ L h' ((I, oI) :: (C, oC) :: (D, lst ys) :: news))) E' { s with heap := h, toks := tk })
    (fin : ∀ h tk ys m', Nums ys (expand (negs ps)) → Fr h₀ L h m → News h₀ L h ((D, lst ys) :: news) → h.Ns C m' → R (.ok .next) { s with heap := h, toks := tk })
    {h : Heap} {tk : Nat} {m' : Str → Option Value} (F : Fr h₀ L h m) (N : News h₀ L h ((D, lst []) :: news)) (hn : h.Ns C m') (hit : h.IsListIter I lo 0) :
    codeAny (model prog w) A (.compLoop (nest (.Name x pe) (.Name x px) i0 (.Name k pk) i1 scope pos) 0 (.ref I) (.ref D) (compEnvC scope cl C env)) R { s with heap := h, toks := tk } := by
  have hvl : vo.length = ps.length := by rw [hvo.length, List.length_map]
  have W := Walks.list (prog := prog) (w := w) (A := A) hh I lo (hnI _ hlo) vo.toArray
  obtain ⟨nlo, hlod⟩ := hlod
  have lst_at : ∀ {h : Heap} {l : List (Addr × Obj)}, News h₀ L h l → (lo, lob) ∈ l → h.IsList lo vo.toArray := fun N hm => ⟨lob, (N _ hm).1, hloc, nlo, hlod⟩
  refine nest_outer (fun c s' => ∃ h tk i ys m', s' = { s with heap := h, toks := tk } ∧ i ≤ ps.length ∧ c = ps.length + 1 - i ∧ Nums ys (expand (negs (ps.take i))) ∧ h.IsListIter I lo i ∧ Fr h₀ L h m ∧ News h₀ L h ((D, lst ys) :: news) ∧ h.Ns C m') ?_ (ps.length + 1)
    ⟨h, tk, 0, [], m', rfl, Nat.zero_le _, rfl, .nil, hit, F, N, hn⟩ (hs := hs1)
  rintro c s' ⟨h, tk, i, ys, m', rfl, hi, rfl, hys, hit, F, N, hn⟩
  have hsize : vo.toArray.size = ps.length := by rw [List.size_toArray, hvl]
  by_cases hlt : i < ps.length
  · refine W.item i _ _ _ (by rw [hsize]; exact hlt) ⟨hit, lst_at N (.tail _ hlo)⟩ fun v h₂ tk₂ hPv st₂ hk₂ => ?_
    obtain ⟨key, tkk, hkk, rfl⟩ := IntsAre.get hvo (i := i) (v := v) (by simpa using hPv)
    rw [List.getElem?_map] at hkk
    obtain ⟨p, hp, rfl⟩ := Option.map_eq_some_iff.mp hkk
    refine wpAny_assign_Name (wpAny_storeName_local (lookup_relabel_local hx) (hn.at' fun o e => hk₂ C o (by simpa using Ne.symm hIC) e) (fun h₃ hn₃ hs₃ => ?_) (by simp [compEnvC, relabel, hkind]))
    have F₃ : Fr h₀ L h₃ m := (fr_but F hk₂ (Ne.symm hIL) hI₀).change hs₃ hCL hC₀
    have N₂ := news_but N hk₂ fun q hq => by
      rcases List.mem_cons.mp hq with rfl | hq
      · exact Ne.symm hID
      · exact hnI q hq
    obtain ⟨oI, heI, hoI⟩ := st₂.1
    obtain ⟨oC, heC, hoC⟩ := ns_obj hn₃
    have N₃ : News h₀ L h₃ ((I, oI) :: (C, oC) :: (D, lst ys) :: news) := fun q hq => by
      rcases List.mem_cons.mp hq with rfl | hq
      · exact ⟨hs₃.extBut _ _ hIC heI, hIL, hI₀⟩
      · rcases List.mem_cons.mp hq with rfl | hq
        · exact ⟨heC, hCL, hC₀⟩
        · have z := N₂ q hq
          refine ⟨hs₃.extBut _ _ ?_ z.1, z.2⟩
          rcases List.mem_cons.mp hq with rfl | hq
          · exact hDC
          · exact hnC q hq
    refine wpAny_mono (hev i p tkk oI oC _ ys h₃ _ _ hp hoC (by simp) F₃ N₃) (fun xv s₃ hx3 => ?_) fun _ _ e => e
    obtain ⟨r, t, u, v, h4, tk4, rfl, rfl, hr, F4, N4⟩ := hx3
    have hbp := hb p (List.mem_of_getElem? hp)
    obtain ⟨hsm, hrs⟩ := range_size (b := 0 - p.2) (by omega) (by omega)
    refine wpAny_pyIter_range hr hsm ?_
    have up : ∀ {q o}, h4.get? q = some o → (h4.push { cls := .type "range_iterator", data := .fields #[rawInt 0, rawInt (Builtin.Range.rangeSize 0 (0 - p.2) 1), rawInt 1] }).get? q = some o := fun e => Heap.get?_push_of_some _ e
    have hIat := (N4 (I, oI) (.head _)).1
    have hCat := (N4 (C, oC) (.tail _ (.head _))).1
    have hDat := (N4 (D, lst ys) (.tail _ (.tail _ (.head _)))).1
    have J₀ : h₀.get? h4.objs.size = none := next_is_new F4
    have F5 : Fr h₀ L (h4.push { cls := .type "range_iterator", data := .fields #[rawInt 0, rawInt (Builtin.Range.rangeSize 0 (0 - p.2) 1), rawInt 1] }) m := F4.keeps fun _ _ e => up e
    have N5 : News h₀ L (h4.push { cls := .type "range_iterator", data := .fields #[rawInt 0, rawInt (Builtin.Range.rangeSize 0 (0 - p.2) 1), rawInt 1] }) ((D, lst ys) :: (I, oI) :: news) := fun q hq => by
      rcases List.mem_cons.mp hq with rfl | hq
      · exact ⟨up hDat, hDL, hD₀⟩
      · rcases List.mem_cons.mp hq with rfl | hq
        · exact ⟨up hIat, hIL, hI₀⟩
        · have z := N4 q (.tail _ (.tail _ (.tail _ hq)))
          exact ⟨up z.1, z.2⟩
    have hyl := hys.length
    have hnl := negs_len (ps := ps.take i) (fun q hq => hb q (List.mem_of_mem_take hq))
    have htl := (List.take_sublist i ps).length_le
    have loop : codeAny (model prog w) (A.mark none) (.compLoop (nest (.Name x pe) (.Name x px) i0 (.Name k pk) i1 scope pos) 1 (.ref h4.objs.size) (.ref D) (compEnvC scope cl C env))
        (fun r s₅ => match r with | .ok _ => ∃ mm, mm < ps.length + 1 - i ∧ ∃ h tk i ys m', s₅ = { s with heap := h, toks := tk } ∧ i ≤ ps.length ∧ mm = ps.length + 1 - i ∧ Nums ys (expand (negs (ps.take i))) ∧ h.IsListIter I lo i ∧ Fr h₀ L h m ∧ News h₀ L h ((D, lst ys) :: news) ∧ h.Ns C m' | .error _ => False)
        { s with heap := h4.push { cls := .type "range_iterator", data := .fields #[rawInt 0, rawInt (Builtin.Range.rangeSize 0 (0 - p.2) 1), rawInt 1] }, toks := tk4 } := by
      refine nest_range (A := A.mark none) (s := s) (J := h4.objs.size) (a := 0) (key := p.1) (tkey := tkk) (n := (0 - p.2).toNat) (ys := ys) (nws := (I, oI) :: news) (by first | exact hh | simp [Around.mark, hh]) hkind hk hx hxk hdb hCL hC₀ hDL hD₀ (Nat.ne_of_gt F4.ns.lt) J₀ hDC (Nat.ne_of_gt (Heap.lt_size hCat)) (Nat.ne_of_gt (Heap.lt_size hDat)) (fun q hq => ?_) (fun q hq => ?_) (fun q hq => ?_) ?_ (fun h6 tk6 zs m6 hzs F6 N6 hn6 => ?_) F5 N5 (hoC.ns (up hCat)) (by simp) (by rw [hrs] at *; exact Heap.get?_push_size _ rfl)
      · rcases List.mem_cons.mp hq with rfl | hq
        · exact hIC
        · exact hnC q hq
      · rcases List.mem_cons.mp hq with rfl | hq
        · exact hID
        · exact hnD q hq
      · rcases List.mem_cons.mp hq with rfl | hq
        · exact Nat.ne_of_lt (Heap.lt_size hIat)
        · exact Nat.ne_of_lt (Heap.lt_size (N4 q (.tail _ (.tail _ (.tail _ hq)))).1)
      · rw [hyl, PySem.sizeLine_eq]
        omega
      · refine ⟨ps.length + 1 - (i + 1), by omega, h6, tk6, i + 1, ys ++ zs, m6, rfl, hlt, rfl, ?_, ⟨oI, (N6 (I, oI) (.tail _ (.head _))).1, hoI⟩, F6, news_sub N6 fun q hq => ?_, hn6⟩
        · rw [negs_next hp]
          exact hys.append hzs
        · rcases List.mem_cons.mp hq with rfl | hq
          · exact .head _
          · exact .tail _ (.tail _ hq)
    exact nest_start1 loop (wpAny_pyIter_rangeiter (Heap.get?_push_size _ rfl) loop)
  · obtain rfl : i = ps.length := Nat.le_antisymm hi (Nat.not_lt.mp hlt)
    rw [List.take_length] at hys
    refine W.done _ _ _ ⟨by rw [hsize]; exact hit, lst_at N (.tail _ hlo)⟩ fun h₂ tk₂ hk₂ => ?_
    exact fin h₂ tk₂ ys m' hys (fr_but F hk₂ (Ne.symm hIL) hI₀) (news_but N hk₂ fun p hp => by
      rcases List.mem_cons.mp hp with rfl | hp
      · exact Ne.symm hID
      · exact hnI p hp) (hn.at' fun o e => hk₂ C o (by simpa using Ne.symm hIC) e)
end
end Mine
end
section
open PySem PySem.W PyProof.Rows PyProof.V PySem.Calls PySem.Spec Builtin Builtin.ObjectAttr LCg
set_option Elab.async false
set_option maxRecDepth 100000
set_option maxHeartbeats 3000000
namespace Mine
section
variable {prog : Program} {w : World} {A : Around} {E : Value → Shared → Prop} {s : Shared} {env : Env} {h₀ : Heap} {L : Addr} {m : Str → Option Value}
theorem eval_nest {x k : Str} {px pk pe : Pos} {i0 i1 : Expr} {scope : Scope} {cl : List (Str × Addr)} {pos : Pos} {lo : Addr} {news : List (Addr × Obj)} {ps : List (Int × Int)} {vo : List Value} {lob : Obj} {Q : Value → Shared → Prop}
    (hh : A.handled = none) (hclos : closureFor scope env = pure cl) (hcell : ∀ y ∈ scope.names, y.2 ≠ .cell) (hkind : scope.kind = .function) (hnames : ∀ z ∈ scope.names, z.2 = .local → scope.names.lookup z.1 = some .local)
    (hk : scope.names.lookup k = some .local) (hx : scope.names.lookup x = some .local) (hxk : x ≠ k) (hdb : (x == ("__debug__" : Str)) = false) (hs0 : ∀ z, foldedSetIterable i0 env z = pure z) (hs1 : ∀ C z, foldedSetIterable i1 (compEnvC scope cl C env) z = pure z)
    (hvo : IntsAre vo (ps.map (·.1))) (hb : ∀ q ∈ ps, -3 ≤ q.2 ∧ q.2 ≤ 5) (hlen : ps.length ≤ 7) (hlo : (lo, lob) ∈ news) (hloc : lob.cls = .type "list") (hlod : ∃ n, lob.data = .seq vo.toArray n)
    (h : wpAny (model prog w) A (eval i0 env) (fun xv s₁ => Halt (xv = .ref lo ∧ Fr h₀ L s₁.heap m ∧ News h₀ L s₁.heap news ∧
      (∀ (C D I : Addr) (i : Nat) (p : Int × Int) (t : Tok) (oI oC : Obj) (m₂ : Str → Option Value) (ys : List Value) (h : Heap) (tk : Nat) (E' : Value → Shared → Prop), ps[i]? = some p → NsObj oC m₂ → m₂ x = some (.int p.1 t) → Fr h₀ L h m → News h₀ L h ((I, oI) :: (C, oC) :: (D, lst ys) :: news) → (@Ne Nat I C ∧ @Ne Nat I D ∧ @Ne Nat C D) → Off3 I C D news →
        wpAny (model prog w) A (eval i1 (compEnvC scope cl C env)) (fun xv s₃ => Halt (∃ r t u v h' tk', xv = .ref r ∧ s₃ = { s₁ with heap := h', toks := tk' } ∧ IsRange h' r 0 (0 - p.2) 1 t u v ∧ Fr h₀ L h' m ∧ News h₀ L h' ((I, oI) :: (C, oC) :: (D, lst ys) :: news))) E' { s₁ with heap := h, toks := tk }) ∧
      (∀ D h tk ys, Nums ys (expand (negs ps)) → Fr h₀ L h m → News h₀ L h ((D, lst ys) :: news) → Q (.ref D) { s₁ with heap := h, toks := tk }))) E s) :
    wpAny (model prog w) A (eval (nest (.Name x pe) (.Name x px) i0 (.Name k pk) i1 scope pos) env) Q E s := by
  rw [eval_ListComp]
  refine wpAny_comprehension_free (use := none) rfl hs0 hclos hkind hnames (wpAny_mono h (fun xv s₁ h₁ => ?_) fun _ _ e => e)
  obtain ⟨rfl, F, N, hev, fin⟩ := h₁
  obtain ⟨nlo, hlod⟩ := hlod
  have hl : s₁.heap.IsList lo vo.toArray := ⟨lob, (N _ hlo).1, hloc, nlo, hlod⟩
  refine wpAny_pyIter_list hl ?_
  refine wpAny_newObj_type (wpAny_newFunctionEnv hcell (by intro y hy; simp at hy) (fun h₁ hns₁ hsb₁ => ?_) hkind)
  dsimp only at hns₁ hsb₁ ⊢
  generalize hH1 : s₁.heap.push { cls := .type "list_iterator", data := .fields #[.ref lo, .int 0 0] } = H1 at hns₁ hsb₁ ⊢
  generalize hH2 : H1.push { cls := .type "list", dict := none, data := .seq ([] : List Value).toArray } = H2 at hns₁ hsb₁ ⊢
  have eD : H1.objs.size = s₁.heap.objs.size + 1 := by rw [← hH1, Heap.size_push]
  have eC : H2.objs.size = H1.objs.size + 1 := by rw [← hH2, Heap.size_push]
  have hit : H1.get? s₁.heap.objs.size = some { cls := .type "list_iterator", data := .fields #[.ref lo, .int 0 0] } := by rw [← hH1]; exact Heap.get?_push_size _ rfl
  have hacc : H2.get? H1.objs.size = some (lst []) := by rw [← hH2]; exact Heap.get?_push_size _ rfl
  have old1 : ∀ b o, s₁.heap.get? b = some o → H1.get? b = some o := fun b o e => by rw [← hH1]; exact Heap.get?_push_of_some _ e
  have old2 : ∀ b o, H1.get? b = some o → H2.get? b = some o := fun b o e => by rw [← hH2]; exact Heap.get?_push_of_some _ e
  have below : ∀ b, b < H2.objs.size → b ≠ H2.objs.size := fun b hb => Nat.ne_of_lt hb
  have old3 : ∀ b o, H2.get? b = some o → h₁.get? b = some o := fun b o e => hsb₁.extBut b o (below b (Heap.lt_size e)) (Heap.get?_push_of_some _ e)
  have old : ∀ b o, s₁.heap.get? b = some o → h₁.get? b = some o := fun b o e => old3 b o (old2 b o (old1 b o e))
  have fresh : ∀ a, s₁.heap.objs.size ≤ a → h₀.get? a = none := fun a ha => by
    cases e : h₀.get? a with
    | none => rfl
    | some o => exact absurd (Heap.lt_size (F.keep _ _ e)) (Nat.not_lt.mpr ha)
  have lt : ∀ p ∈ news, p.1 < s₁.heap.objs.size := fun p hp => Heap.lt_size (N p hp).1
  have hL : L < s₁.heap.objs.size := F.ns.lt
  have hI0 := fresh _ (Nat.le_refl s₁.heap.objs.size)
  have hD0 := fresh H1.objs.size (by rw [eD]; exact Nat.le_succ _)
  have hC0 := fresh H2.objs.size (by rw [eC, eD]; exact Nat.le_trans (Nat.le_succ _) (Nat.le_succ _))
  have lID : s₁.heap.objs.size < H1.objs.size := by rw [eD]; exact Nat.lt_succ_self _
  have lDC : H1.objs.size < H2.objs.size := by rw [eC]; exact Nat.lt_succ_self _
  generalize hI : s₁.heap.objs.size = I at *
  generalize hD : H1.objs.size = D at *
  generalize hC : H2.objs.size = C at *
  have lIC : I < C := Nat.lt_trans lID lDC
  have F1 : Fr h₀ L h₁ m := F.keeps old
  have N1 : News h₀ L h₁ ((D, lst []) :: news) := fun p hp => by
    rcases List.mem_cons.mp hp with rfl | hp
    · exact ⟨old3 _ _ hacc, Nat.ne_of_gt (Nat.lt_trans hL lID), hD0⟩
    · have z := N p hp
      exact ⟨old _ _ z.1, z.2⟩
  have loop : ∀ tk, codeAny (model prog w) A (.compLoop (nest (.Name x pe) (.Name x px) i0 (.Name k pk) i1 scope pos) 0 (.ref I) (.ref D) (compEnvC scope cl C env)) (compPost (model prog w) A E none Q (.ref D) C) { s₁ with heap := h₁, toks := tk } := fun tk => by
    refine nest_list hh hkind hk hx hxk hdb (hs1 C) hvo hb hlen hlo hloc ⟨nlo, hlod⟩ (Nat.ne_of_gt (Nat.lt_trans hL lIC)) hC0 (Nat.ne_of_gt (Nat.lt_trans hL lID)) hD0 (Nat.ne_of_gt hL) hI0 (Nat.ne_of_lt lDC) (Nat.ne_of_lt lIC) (Nat.ne_of_lt lID)
      (fun p hp => Nat.ne_of_lt (Nat.lt_trans (lt p hp) lIC)) (fun p hp => Nat.ne_of_lt (Nat.lt_trans (lt p hp) lID)) (fun p hp => Nat.ne_of_lt (lt p hp))
      (fun i p t oI oC m₂ ys h tk E' e1 e2 e3 F N => hev C D I i p t oI oC m₂ ys h tk E' e1 e2 e3 F N ⟨Nat.ne_of_lt lIC, Nat.ne_of_lt lID, Nat.ne_of_gt lDC⟩ (Off3.of fun p hp => ⟨Nat.ne_of_lt (lt p hp), Nat.ne_of_lt (Nat.lt_trans (lt p hp) lIC), Nat.ne_of_lt (Nat.lt_trans (lt p hp) lID)⟩))
      (fun h tk ys m' hys F N hn => ⟨m', hn, fun h'' hs'' => fin D h'' tk ys hys (F.change hs'' (Nat.ne_of_gt (Nat.lt_trans hL lIC)) hC0) fun p hp => ?_⟩) F1 N1 hns₁ ⟨_, old3 _ _ (old2 _ _ hit), rfl, rfl⟩
    have z := N p hp
    refine ⟨hs''.extBut _ _ ?_ z.1, z.2⟩
    rcases List.mem_cons.mp hp with rfl | hp
    · exact Nat.ne_of_lt lDC
    · exact Nat.ne_of_lt (Nat.lt_trans (lt p hp) lIC)
  exact codeAny_compStart_list (loop _) ((Walks.list hh I lo (Nat.ne_of_lt (lt _ hlo)) vo.toArray).self 0 _ _ _ ⟨⟨_, old3 _ _ (old2 _ _ hit), rfl, rfl⟩, ⟨lob, old _ _ (N _ hlo).1, hloc, nlo, hlod⟩⟩ (loop _))
end
end Mine
end
section
open PySem PySem.W PyProof.Rows PyProof.V PySem.Calls PySem.Spec Builtin Builtin.ObjectAttr LCg
set_option Elab.async false
set_option maxRecDepth 100000
set_option maxHeartbeats 3000000
namespace Mine
theorem fillD39 : PySem.Challenge.rw_dn0005_07 = PySem.Challenge.rw_dn0005_07 ∧ Mine.hd07.heap_39 = Mine.hd07.heap_39 := by
  k_fill
  exact ⟨rfl, rfl⟩
local macro_rules | `(tactic| walk_at "eval ListComp") => `(tactic| (refine halt ?_))
local macro_rules | `(tactic| walk_at "call builtin:sorted") => `(tactic| (refine halt ?_))
local macro_rules | `(tactic| walk_at "subscriptTail") => `(tactic| (k_here; (refine kda_item (knd := PySem.intKind _ _) (by k_asm) (by k_mem) (by assumption) (intKind_is _ _ _ _) (by assumption) ?_)))
local macro_rules | `(tactic| walk_at "execs cons") => `(tactic| ((with_reducible show wpAny _ _ (execs [_] _) _ _ _); refine halt ?_))
section
variable {prog : Program} {w : World} {A₀ : Around} {g1 : Heap} {outer : List Env} {e0 : Env} {L L1 : Addr} {mg mb : Str → Option Value} {mean : ExcName → Option Value} {s : Shared} {Q : Flow → Shared → Prop} {E : Value → Shared → Prop}
theorem law_sorted {name qual : Str} {params : Arguments} {body : List Stmt} {scope : Scope} {dV kV doc pm cdv ct oc : Value} {an od : Option Addr} {osl : Array (Option Value)}
    (ho : (Mine.hd07.heap_39 w.params).lookup 1102 = some ⟨oc, od, .func (fnOf name qual params body scope dV kV doc pm an cdv ct), osl⟩)
    {y d x dx c t lo p ag : Addr} {oy o1 o2 ob : Obj} {kvs : List (Int × Value)} {ps : List (Int × Int)} {es : Array DictEntry} {n nl na : Nat} {xv kv : Option Value} {ys vo zs : List Value}
    (hd : ob.IsDictOf (PySem.intKind prog w) kvs) (hds : (d == sysModules) = false) (d1' : o1.data = .cell (some (.ref lo))) (d2' : o2.data = .cell (some (.ref d)))
    (hi : IntsI kvs ps) (hlen : ps.length ≤ 7) (hb : ∀ q ∈ ps, -3 ≤ q.2 ∧ q.2 ≤ 5) (hvo : IntsAre vo (ps.map (·.1)))
    (hzs : IntsAre zs (expand (negs ps)))
    (B1 : Below callerA g1 [] g1) (X1 : (Mine.hd07.heap_39 w.params).In g1) (T1 : Top vw ls mean mg mb g1)
    (F1 : Fr g1 L1 s.heap (mH y x c t p ag xv kv)) (N1 : News g1 L1 s.heap ((ag, listOf zs.toArray na) :: nF L1 lo t x dx d y es n nl vo ys ob o1 o2 oy))
    (hE : PassesOwn (model prog w) (callerA.deeper (envOfC qual scope L1 1102 cdv)) (envOfC qual scope L1 1102 cdv) E)
    (k : ∀ h' tk, Fr g1 L1 h' (mH y x c t p ag xv kv) → News g1 L1 h' ((ag, listOf zs.toArray na) :: nF L1 lo t x dx d y es n nl vo ys ob o1 o2 oy) →
      wpAny (model prog w) (callerA.deeper (envOfC qual scope L1 1102 cdv)) (execs (body.drop 13) (envOfC qual scope L1 1102 cdv)) Q E { s with heap := h', toks := tk }) :
    wpAny (model prog w) (callerA.deeper (envOfC qual scope L1 1102 cdv)) (execs (body.drop 12) (envOfC qual scope L1 1102 cdv)) Q E s := by
  have e := ho.symm.trans (by k_is : (Mine.hd07.heap_39 w.params).lookup 1102 = some _)
  cases e
  dsimp only [List.drop]
  have hnl := negs_len hb
  obtain ⟨es2, ep2, hex, hdat, hk2, hp2, hnd2⟩ := id hd
  k_steps
  unfold Halt
  refine kso_sorted F1 N1 (News.isList N1 (.head _)) hzs (by omega) fun D6 vs6 ns6 c6 h6 F6 N6 l6 hi6 he6 hp6 ho6 _ => ?_
  k_steps
  unfold Halt
  refine eval_nest rfl (by with_unfolding_all rfl) (by decide) (by rfl) (by decide) (by rfl) (by rfl) (by decide) (by decide) (by intro _; rfl) (by intro _ _; rfl) hvo hb hlen (lob := listOf vo.toArray nl) (news := (D6, listOf vs6.toArray c6) :: (ag, listOf zs.toArray na) :: nF L1 lo t x dx d y es n nl vo ys ob o1 o2 oy) (.tail _ (.tail _ (.head _))) rfl ⟨_, rfl⟩ (m := mH y x c t p ag xv kv) (h₀ := g1) (L := L1) ?_
  k_steps
  unfold Halt
  refine ⟨rfl, F6, N6, ?_, fun D8 h8 tk8 ys8 hys8 F8 N8 => ?_⟩
  · intro C D I i p t oI oC m₂ ys h tk E' hp hC hx F N ne off
    obtain ⟨tv, htv⟩ := hi.get hp
    have hval := valueAt_idx hnd2 htv
    k_steps
    all_goals first | (rw [Int.zero_sub]; assumption) | assumption
  · k_steps
    unfold Halt
    refine kso_sorted F8 N8 (News.isList N8 (.head _)) hys8.ints (by omega) fun D9 vs9 ns9 c9 h9 F9 N9 l9 hi9 he9 hp9 ho9 _ => ?_
    have hsame : ns6 = ns9 := sorted_same (hp6.trans hp9.symm) ho6 ho9
    subst hsame
    k_steps
    unfold Halt
    exact k _ _ (by k_asm) (news_sub (by assumption) fun q hq => .tail _ (.tail _ (.tail _ hq)))
end
end Mine
end
section
open PySem PySem.W PyProof.Rows PyProof.V PySem.Calls PySem.Spec
set_option Elab.async false
set_option maxRecDepth 100000
set_option maxHeartbeats 3000000
namespace Mine
section
variable {prog : Program} {w : World} {g1 : Heap} {L1 : Addr} {mg mb : Str → Option Value} {mean : ExcName → Option Value} {s : Shared} {Q : Flow → Shared → Prop} {E : Value → Shared → Prop}
theorem law_body {name qual : Str} {params : Arguments} {body : List Stmt} {scope : Scope} {dV kV doc pm cdv ct oc : Value} {an od : Option Addr} {osl : Array (Option Value)}
    (ho : (Mine.hd07.heap_39 w.params).lookup 1102 = some ⟨oc, od, .func (fnOf name qual params body scope dV kV doc pm an cdv ct), osl⟩)
    (hfile : ((prog.main.file : Str) == Str.ofString "/claim/cut.py") = true) (htop : (prog.main.scope.names.lookup (Str.ofString "super")).isSome = false)
    {y : Addr} {oy o1 o2 : Obj} {vs : List Value} {ns : List Int} {n : Nat} (hv : IntsAre vs ns) (hl : vs.length ≤ 63) (hoc : oy.cls = .type "list") (hod : oy.data = .seq vs.toArray n) (l1 : y < L1)
    (d1' : o1.data = .cell none) (d2' : o2.data = .cell none)
    (B1 : Below callerA g1 [] g1) (X1 : (Mine.hd07.heap_39 w.params).In g1) (T1 : Top vw ls mean mg mb g1)
    (F1 : Fr g1 L1 s.heap (fun z => if z = Str.ofString "script" then some (Value.ref y) else none)) (N1 : News g1 L1 s.heap [(L1 + 1 + 1, o1), (L1 + 1, o2), (y, oy)])
    (hE : PassesOwn (model prog w) (callerA.deeper (envOfC qual scope L1 1102 cdv)) (envOfC qual scope L1 1102 cdv) E)
    (k : ∀ h' tk m', Fr g1 L1 h' m' → h'.get? y = some oy → Q (.ret (.bool true)) { s with heap := h', toks := tk }) :
    wpAny (model prog w) (callerA.deeper (envOfC qual scope L1 1102 cdv)) (execs body (envOfC qual scope L1 1102 cdv)) Q E s := by
  refine law_head ho hfile htop hv hl hoc hod l1 d1' d2' B1 X1 T1 F1 N1 hE ?_
  intro d ob kvs ps o2' xv h2 tk2 hd hi hlen hb d2 hds ld F2 N2
  have hnd : (ps.map (·.1)).Nodup := hi.keys ▸ (let ⟨_, _, _, _, _, _, h⟩ := hd; h)
  have hel := expand_len (fun q hq => (hb q hq).2)
  refine law_two (s := { s with heap := h2, toks := tk2 }) ho hfile htop hoc hd hi (by omega) hb d1' d2 hds ld B1 X1 T1 F2 N2 ?_
  intro c x dx es n2 core h3 tk3 hD hsx hdx S F3 N3
  refine law_told (s := { s with heap := h3, toks := tk3 }) ho (by omega) S B1 X1 T1 F3 N3 hE ?_
  intro t ys h4 tk4 hys F4 N4 ht
  refine law_order (s := { s with heap := h4, toks := tk4 }) ho hd hi (by omega) d1' d2 hds ld.1 hdx.1 hdx.2 (Ne.symm (ht (L1 + 1 + 1, o1) (by simp))) l1 B1 X1 T1 F4 N4 hE ?_
  intro lo nl vo o1' h5 tk5 hvo d1 l5 F5 N5
  refine law_sum (s := { s with heap := h5, toks := tk5 }) ho hd hi (by omega) hb d1 d2 hds hys.ints (by omega) hvo B1 X1 T1 F5 N5 hE ?_
  intro h6 tk6 F6 N6
  refine law_count (s := { s with heap := h6, toks := tk6 }) ho hd hi (by omega) hb d1 d2 hds hys.ints (by omega) hvo B1 X1 T1 F6 N6 hE ?_
  intro kv h7 tk7 F7 N7
  refine law_places (kvs := kvs) (s := { s with heap := h7, toks := tk7 }) ho hlen hnd d1 hys.ints (by omega) hvo B1 X1 T1 F7 N7 hE ?_
  intro p h8 tk8 F8 N8
  refine law_against (s := { s with heap := h8, toks := tk8 }) ho hfile htop hD hi hlen hb hsx B1 X1 T1 F8 N8 hE ?_
  intro ag na zs h9 tk9 hzs F9 N9
  have hnl := negs_len hb
  refine law_sorted (s := { s with heap := h9, toks := tk9 }) ho hd hds d1 d2 hi hlen hb hvo hzs B1 X1 T1 F9 N9 hE ?_
  intro h10 tk10 F10 N10
  refine law_end (s := { s with heap := h10, toks := tk10 }) ho hd hds d2 hD hi hlen hsx hys.ints (by omega) hzs (by omega) B1 X1 T1 F10 N10 hE ?_
  exact k
end
end Mine
end
section
open PySem PySem.W PyProof.Rows PyProof.V PySem.Calls PySem.Spec
set_option Elab.async false
set_option maxRecDepth 100000
set_option maxHeartbeats 3000000
namespace Mine
def noList (K : Frag) : Bool := K.all fun p => match p.2.cls with
  | .type s => s != "list"
  | _ => true
theorem c_nolist (P : Params) : noList (Mine.hd07.heap_39 P) = true := by kernel_rfl
section
variable {h h' : Heap} {y L : Addr} {its : Array Value} {m mg mb : Str → Option Value} {K : Frag} {p : Program} {loose : List Str} {mean : ExcName → Option Value}
theorem hide_get {b : Addr} {o : Obj} (hy : h.IsList y its) (e : h.get? b = some o) (hn : o.cls ≠ .type "list") : (hideAll h [y]).get? b = some o :=
  hideAll_get _ e fun q => by
    obtain ⟨oy, e1, e2, _⟩ := hy
    rw [List.mem_singleton.mp q, e1] at e
    cases e
    exact hn e2
theorem hide_getD {b : Addr} {o : Obj} (hy : h.IsList y its) (e : h.get? b = some o) (hn : ∀ a n, o.data ≠ .seq a n) : (hideAll h [y]).get? b = some o :=
  hideAll_get _ e fun q => by
    obtain ⟨oy, e1, _, n, e2⟩ := hy
    rw [List.mem_singleton.mp q, e1] at e
    cases e
    exact hn _ _ e2
theorem hide_ns {a : Addr} {mm : Str → Option Value} (hy : h.IsList y its) (x : h.Ns a mm) : (hideAll h [y]).Ns a mm :=
  let ⟨o, es, ep, e, hd, r⟩ := x; ⟨o, es, ep, hide_getD hy e (fun _ _ q => by rw [q] at hd; cases hd), hd, r⟩
theorem hide_K (hy : h.IsList y its) (X : K.In h) (hK : noList K = true) : K.In (hideAll h [y]) := fun a o e => by
  refine hide_get hy (X a o e) fun q => ?_
  have h2 := List.all_eq_true.mp hK (a, o) (mem_of_lookupK e)
  dsimp only at h2
  rw [q] at h2
  exact absurd h2 (by decide)
theorem hide_top (hy : h.IsList y its) (T : Top p loose mean mg mb h) :
    Top topProg (loose ++ (recsOf p).map (·.name) ++ (litsOf p).map (·.1) ++ (clssOf p loose).map (·.name)) mean mg mb (hideAll h [y]) where
  g := hide_ns hy T.g
  b := hide_ns hy T.b
  nolimit := let ⟨mc, a, r⟩ := T.nolimit; ⟨mc, hide_ns hy a, r⟩
  nodigits := let ⟨mc, a, r⟩ := T.nodigits; ⟨mc, hide_ns hy a, r⟩
  fn := fun d hd => absurd (show d ∈ ([] : List DefRec) from hd) List.not_mem_nil
  own := fun o ho => absurd (show o ∈ ([] : List OwnSpec) from ho) List.not_mem_nil
  const := fun x d e => by cases (show (none : Option PyData) = some d from e)
  free := fun x h1 h2 _ _ _ => T.free x h1 (fun q => h2 (List.mem_append_left _ (List.mem_append_left _ (List.mem_append_left _ q))))
    (fun q => h2 (List.mem_append_left _ (List.mem_append_left _ (List.mem_append_right _ q)))) (fun q => h2 (List.mem_append_left _ (List.mem_append_right _ q))) fun q => h2 (List.mem_append_right _ q)
  builtins := T.builtins
  tab := fun d hd => absurd (show d ∈ ([] : List DefRec) from hd) List.not_mem_nil
  bmain := let ⟨bm, ob, a1, a2, a3, a4, r⟩ := T.bmain; ⟨bm, ob, a1, a2, hide_get hy a3 (fun q => by rw [q] at a4; exact absurd a4 (by decide)), a4, r⟩
  seer := fun e => absurd (show false = true from e) Bool.false_ne_true
theorem hide_fr (F : Fr h L h' m) : Fr (hideAll h [y]) L h' m := ⟨F.ns, fun b o e => F.keep b o (of_hideAll _ e), Nat.le_trans (Nat.le_of_eq (hideAll_size _ _)) F.above⟩
theorem fr_back {o : Obj} (hy : h.get? y = some o) (hy' : h'.get? y = some o) (F : Fr (hideAll h [y]) L h' m) : Fr h L h' m := by
  refine ⟨F.ns, fun b x e => ?_, Nat.le_trans (Nat.le_of_eq (hideAll_size _ _).symm) F.above⟩
  by_cases q : b = y
  · rw [q] at e ⊢
    rw [hy] at e
    rw [hy', e]
  · exact F.keep b x (hideAll_get _ e fun z => q (List.mem_singleton.mp z))
end
end Mine
end
section
open PySem PySem.W PyProof.Rows PyProof.V PySem.Calls PySem.Spec
set_option Elab.async false
set_option maxRecDepth 100000
set_option maxHeartbeats 8000000
namespace Mine
theorem join07 : PySem.Challenge.rw_dn0005_07.Holds := Mine.hd07 (by
  k_fill
  intro w s₀ s₁ mg mb G Y fa o pm cd doc dV kV ho hd hcd hD hmg hg args vals as hpre hlay hrd hwl hlo
  have KX := kIn_of Y
  refine Ground.open G ?_
  intro T B D TE TW
  try (refine guard_noD D (by decide +kernel) ?_; clear D)
  have hfa := hmg.symm.trans (mg_of KX (Top.g T) (n := Str.ofString "law") (v := .ref 1102) (by k_is))
  obtain rfl : fa = 1102 := by
    injection hfa with e
    injection e
  have hl1102 := (by k_is : (Mine.hd07.heap_39 w.params).lookup 1102 = some _)
  have hob := KX 1102 _ hl1102
  have hoo := Option.some.inj (ho.symm.trans hob)
  obtain rfl : cd = .ref 1101 := by
    have := congrArg (fun d : Data => match d with | .func fd => fd.code | _ => Value.none) (hd.symm.trans (congrArg Obj.data hoo))
    exact this
  clear hob hoo hfa
  wrow_args hpre hlay hrd hwl hlo
  all_goals (
    rename_i ns hs hlay0 hL1 hr1 hl2 wa wb y vs wc hL ra w1 r0 hI hr hc1 hc2
    refine enter_call ?_
    w_top on
    w_call any ho hd hcd hD T F
    rename_i h1 tk1 o1 o2 d1 d2 N0 X0
    have hl63 : vs.length ≤ 63 := by rw [hI.length]; omega
    obtain ⟨oy, hy1, hoc, ny, hod⟩ := id hL
    have hyL : y < s₁.heap.objs.size := Heap.lt_size hy1
    have N' : News (hideAll s₁.heap [y]) s₁.heap.objs.size h1 [(s₁.heap.objs.size + 1 + 1, o1), (s₁.heap.objs.size + 1, o2), (y, oy)] := by
      intro p hp
      have low : s₁.heap.get? p.1 = none → (hideAll s₁.heap [y]).get? p.1 = none := fun e => by
        cases q : (hideAll s₁.heap [y]).get? p.1 with
        | none => rfl
        | some x => rw [of_hideAll _ q] at e; cases e
      simp only [List.mem_cons, List.not_mem_nil, or_false] at hp
      rcases hp with rfl | rfl | rfl
      · have z := N0 _ (.head _)
        exact ⟨z.1, z.2.1, low z.2.2⟩
      · have z := N0 _ (.tail _ (.head _))
        exact ⟨z.1, z.2.1, low z.2.2⟩
      · exact ⟨F.keep _ _ hy1, Nat.ne_of_lt hyL, hideAll_none _ (.head _)⟩
    refine law_body hl1102 (by kernel_rfl) (by kernel_rfl) hI hl63 hoc hod hyL d1 d2 (below_caller _) (hide_K hL KX (c_nolist _)) (hide_top hL T) (fr_fun (hide_fr F) fun z => rfl) N' (by passes_own) ?_
    intro h9 tk9 m9 F9 hy9
    have F10 := fr_back hy1 hy9 F9
    clear F9 N' N0 F
    dsimp only
    refine ⟨.inl ⟨.bool true, _, _, rfl, raisesW_false (by wrow_none_raised), (by w_reads), (postW_of (by wrow_shape) (by wtm_val) (by str_meet; first | done | w_fin)), (by exact unshared_nil)⟩, .of_keep F10.keep, rfl, (by row_bare)⟩))
end Mine
end
theorem PySem.Challenge.cw_dn0005_07_holds : PySem.Challenge.rw_dn0005_07.Holds := by
  exact Mine.join07
